import PyProof.Rows.All
import Wide.All
import OpenK.AllK
import Wide.FinOn
import Lean
import PySem.Challenge.RW_ta0051_03
set_option Elab.async false
set_option compiler.extract_closed false
set_option maxRecDepth 100000
set_option linter.unusedVariables false
namespace Mine
open PySem PySem.W PyProof.Rows PySem.Calls

/-- plain values -/
inductive V where
  | none
  | bool (b : Bool)
  | int (i : Int)
  | str (x : List Nat)
  | bytes (b : List UInt8)
  | list (xs : List V)
  | tup (xs : List V)
  | dict (kv : List (List Nat × Int))
  | val (w : Value)

noncomputable abbrev Keep (mu : List Addr) (h h' : Heap) : Prop := ∀ b o, b ∉ mu → h.get? b = some o → h'.get? b = some o
noncomputable abbrev KeepAll (h h' : Heap) : Prop := ∀ b o, h.get? b = some o → h'.get? b = some o

/-- the entries of a dict of texts and ints -/
noncomputable def IntEnts (P : Params) : List DictEntry → List (List Nat × Int) → Prop
  | [], [] => True
  | e :: es, p :: ps => (∃ t t', e = ⟨PyData.keyHash P ⟨p.1.toArray⟩, .str ⟨p.1.toArray⟩ t, .int p.2 t'⟩) ∧ IntEnts P es ps
  | _, _ => False
noncomputable def IsIntDict (P : Params) (h : Heap) (a : Addr) (kv : List (List Nat × Int)) : Prop :=
  ∃ es n, h.get? a = some ⟨.type "dict", Option.none, .dict es n, #[]⟩ ∧ IntEnts P es.toList kv

mutual
noncomputable def Rep (P : Params) (mu : List Addr) (h : Heap) : V → Value → Prop
  | .none, w => w = .none
  | .bool b, w => w = .bool b
  | .int i, w => ∃ t, w = .int i t
  | .str x, w => ∃ t, w = .str ⟨x.toArray⟩ t
  | .bytes b, w => ∃ t, w = .bytes b.toArray t
  | .list xs, w => ∃ a ws, w = .ref a ∧ a ∉ mu ∧ h.IsList a (List.toArray ws) ∧ Reps P mu h xs ws
  | .tup xs, w => ∃ a ws, w = .ref a ∧ a ∉ mu ∧ h.IsTuple a (List.toArray ws) ∧ Reps P mu h xs ws
  | .dict kv, w => ∃ a, w = .ref a ∧ a ∉ mu ∧ IsIntDict P h a kv
  | .val u, w => w = u
noncomputable def Reps (P : Params) (mu : List Addr) (h : Heap) : List V → List Value → Prop
  | [], ws => ws = []
  | x :: xs, ws => ∃ w ws', ws = w :: ws' ∧ Rep P mu h x w ∧ Reps P mu h xs ws'
end

section
variable {P : Params} {mu mu' : List Addr} {h h' : Heap}
theorem IsIntDict.keep {a : Addr} {kv : List (List Nat × Int)} (x : IsIntDict P h a kv) (e : ∀ o, h.get? a = some o → h'.get? a = some o) : IsIntDict P h' a kv :=
  let ⟨es, n, g, i⟩ := x; ⟨es, n, e _ g, i⟩
theorem isList_keep {a : Addr} {ws : Array Value} (x : h.IsList a ws) (e : ∀ o, h.get? a = some o → h'.get? a = some o) : h'.IsList a ws :=
  let ⟨o, g, r⟩ := x; ⟨o, e _ g, r⟩
theorem isTuple_keep {a : Addr} {ws : Array Value} (x : h.IsTuple a ws) (e : ∀ o, h.get? a = some o → h'.get? a = some o) : h'.IsTuple a ws :=
  let ⟨o, g, r⟩ := x; ⟨o, e _ g, r⟩
mutual
theorem Rep.keep (k : Keep mu h h') : ∀ {v : V} {w : Value}, Rep P mu h v w → Rep P mu h' v w
  | .none, _, x => x
  | .bool _, _, x => x
  | .int _, _, x => x
  | .str _, _, x => x
  | .bytes _, _, x => x
  | .list xs, _, x => by
    unfold Rep at x ⊢
    obtain ⟨a, ws, e, ha, l, r⟩ := x
    exact ⟨a, ws, e, ha, isList_keep l (fun o => k a o ha), Reps.keep k r⟩
  | .tup xs, _, x => by
    unfold Rep at x ⊢
    obtain ⟨a, ws, e, ha, l, r⟩ := x
    exact ⟨a, ws, e, ha, isTuple_keep l (fun o => k a o ha), Reps.keep k r⟩
  | .dict kv, _, x => by
    unfold Rep at x ⊢
    obtain ⟨a, e, ha, l⟩ := x
    exact ⟨a, e, ha, l.keep (fun o => k a o ha)⟩
  | .val _, _, x => x
theorem Reps.keep (k : Keep mu h h') : ∀ {vs : List V} {ws : List Value}, Reps P mu h vs ws → Reps P mu h' vs ws
  | [], _, x => x
  | v :: vs, _, x => by
    unfold Reps at x ⊢
    obtain ⟨w, ws', e, r, rs⟩ := x
    exact ⟨w, ws', e, Rep.keep k r, Reps.keep k rs⟩
end
mutual
theorem Rep.sub (k : ∀ a ∈ mu', a ∈ mu) : ∀ {v : V} {w : Value}, Rep P mu h v w → Rep P mu' h v w
  | .none, _, x => x
  | .bool _, _, x => x
  | .int _, _, x => x
  | .str _, _, x => x
  | .bytes _, _, x => x
  | .list xs, _, x => by
    unfold Rep at x ⊢
    obtain ⟨a, ws, e, ha, l, r⟩ := x
    exact ⟨a, ws, e, fun q => ha (k a q), l, Reps.sub k r⟩
  | .tup xs, _, x => by
    unfold Rep at x ⊢
    obtain ⟨a, ws, e, ha, l, r⟩ := x
    exact ⟨a, ws, e, fun q => ha (k a q), l, Reps.sub k r⟩
  | .dict kv, _, x => by
    unfold Rep at x ⊢
    obtain ⟨a, e, ha, l⟩ := x
    exact ⟨a, e, fun q => ha (k a q), l⟩
  | .val _, _, x => x
theorem Reps.sub (k : ∀ a ∈ mu', a ∈ mu) : ∀ {vs : List V} {ws : List Value}, Reps P mu h vs ws → Reps P mu' h vs ws
  | [], _, x => x
  | v :: vs, _, x => by
    unfold Reps at x ⊢
    obtain ⟨w, ws', e, r, rs⟩ := x
    exact ⟨w, ws', e, Rep.sub k r, Reps.sub k rs⟩
end
mutual
/-- new mutable objects: none of them stood in the heap -/
theorem Rep.more (k : ∀ a, a ∈ mu' → a ∈ mu ∨ h.get? a = Option.none) : ∀ {v : V} {w : Value}, Rep P mu h v w → Rep P mu' h v w
  | .none, _, x => x
  | .bool _, _, x => x
  | .int _, _, x => x
  | .str _, _, x => x
  | .bytes _, _, x => x
  | .list xs, _, x => by
    unfold Rep at x ⊢
    obtain ⟨a, ws, e, ha, l, r⟩ := x
    refine ⟨a, ws, e, fun q => ?_, l, Reps.more k r⟩
    rcases k a q with q | q
    · exact ha q
    · obtain ⟨o, g, _⟩ := l; rw [q] at g; cases g
  | .tup xs, _, x => by
    unfold Rep at x ⊢
    obtain ⟨a, ws, e, ha, l, r⟩ := x
    refine ⟨a, ws, e, fun q => ?_, l, Reps.more k r⟩
    rcases k a q with q | q
    · exact ha q
    · obtain ⟨o, g, _⟩ := l; rw [q] at g; cases g
  | .dict kv, _, x => by
    unfold Rep at x ⊢
    obtain ⟨a, e, ha, l⟩ := x
    refine ⟨a, e, fun q => ?_, l⟩
    rcases k a q with q | q
    · exact ha q
    · obtain ⟨_, _, g, _⟩ := l; rw [q] at g; cases g
  | .val _, _, x => x
theorem Reps.more (k : ∀ a, a ∈ mu' → a ∈ mu ∨ h.get? a = Option.none) : ∀ {vs : List V} {ws : List Value}, Reps P mu h vs ws → Reps P mu' h vs ws
  | [], _, x => x
  | v :: vs, _, x => by
    unfold Reps at x ⊢
    obtain ⟨w, ws', e, r, rs⟩ := x
    exact ⟨w, ws', e, Rep.more k r, Reps.more k rs⟩
end
theorem KeepAll.keep (k : KeepAll h h') : Keep mu h h' := fun b o _ e => k b o e
theorem Rep.all {v : V} {w : Value} (x : Rep P mu h v w) (k : KeepAll h h') : Rep P mu h' v w := x.keep k.keep
theorem Reps.all {v : List V} {w : List Value} (x : Reps P mu h v w) (k : KeepAll h h') : Reps P mu h' v w := x.keep k.keep
theorem Reps.length : ∀ {vs : List V} {ws : List Value}, Reps P mu h vs ws → ws.length = vs.length
  | [], ws, x => by unfold Reps at x; simp [x]
  | v :: vs, ws, x => by
    unfold Reps at x
    obtain ⟨w, ws', rfl, _, rs⟩ := x
    simp [rs.length]
theorem Reps.get : ∀ {vs : List V} {ws : List Value} {i : Nat} {v : V}, Reps P mu h vs ws → vs[i]? = some v → ∃ w, ws[i]? = some w ∧ Rep P mu h v w
  | [], ws, i, v, x, e => by simp at e
  | u :: vs, ws, i, v, x, e => by
    unfold Reps at x
    obtain ⟨w, ws', rfl, r, rs⟩ := x
    cases i with
    | zero => simp at e; subst e; exact ⟨w, rfl, r⟩
    | succ i => simp at e ⊢; exact rs.get e
theorem Reps.append : ∀ {vs us : List V} {ws xs : List Value}, Reps P mu h vs ws → Reps P mu h us xs → Reps P mu h (vs ++ us) (ws ++ xs)
  | [], us, ws, xs, a, b => by unfold Reps at a; subst a; simpa using b
  | v :: vs, us, ws, xs, a, b => by
    unfold Reps at a
    obtain ⟨w, ws', rfl, r, rs⟩ := a
    show Reps P mu h (v :: (vs ++ us)) (w :: (ws' ++ xs))
    unfold Reps
    exact ⟨w, _, rfl, r, rs.append b⟩
theorem Reps.take : ∀ {vs : List V} {ws : List Value} (k : Nat), Reps P mu h vs ws → Reps P mu h (vs.take k) (ws.take k)
  | [], ws, k, x => by unfold Reps at x; subst x; cases k <;> (unfold Reps; rfl)
  | v :: vs, ws, k, x => by
    unfold Reps at x
    obtain ⟨w, ws', rfl, r, rs⟩ := x
    cases k with
    | zero => unfold Reps; rfl
    | succ k => unfold Reps; exact ⟨w, _, rfl, r, rs.take k⟩
theorem Reps.drop : ∀ {vs : List V} {ws : List Value} (k : Nat), Reps P mu h vs ws → Reps P mu h (vs.drop k) (ws.drop k)
  | [], ws, k, x => by unfold Reps at x; subst x; cases k <;> (unfold Reps; rfl)
  | v :: vs, ws, k, x => by
    cases k with
    | zero => exact x
    | succ k =>
      unfold Reps at x
      obtain ⟨w, ws', rfl, r, rs⟩ := x
      exact rs.drop k
end

/-- a triple: the tree gives a value that P holds of; all that stood stands; nothing is raised -/
noncomputable def Tr (prog : Program) (w : World) (A : Around) {α : Type} (t : Sem α) (s : Shared) (Q : α → Heap → Prop) : Prop :=
  wpAny (model prog w) A t (fun v s' => (∃ h' tk, s' = { s with heap := h', toks := tk } ∧ KeepAll s.heap h') ∧ Q v s'.heap) (fun _ _ => False) s
section
variable {prog : Program} {w : World} {A : Around} {α β : Type} {s : Shared}
theorem Tr.use {t : Sem α} {Q : α → Heap → Prop} {R : α → Shared → Prop} {E : Value → Shared → Prop} (x : Tr prog w A t s Q)
    (k : ∀ v h' tk, KeepAll s.heap h' → Q v h' → R v { s with heap := h', toks := tk }) : wpAny (model prog w) A t R E s :=
  wpAny_mono x (fun v s' q => by obtain ⟨⟨h', tk, rfl, kk⟩, q⟩ := q; exact k v h' tk kk q) fun _ _ f => f.elim
theorem Tr.of {t : Sem α} {Q : α → Heap → Prop} (x : ∀ (R : α → Shared → Prop), (∀ v h' tk, KeepAll s.heap h' → Q v h' → R v { s with heap := h', toks := tk }) → wpAny (model prog w) A t R (fun _ _ => False) s) : Tr prog w A t s Q :=
  x _ fun v h' tk kk q => ⟨⟨h', tk, rfl, kk⟩, q⟩
theorem Tr.pure {a : α} {Q : α → Heap → Prop} (q : Q a s.heap) : Tr prog w A (Pure.pure a) s Q := Tr.of fun R k => wpAny_pure (k a s.heap s.toks (fun _ _ e => e) q)
theorem Tr.mono {t : Sem α} {Q R : α → Heap → Prop} (x : Tr prog w A t s Q) (k : ∀ v h', KeepAll s.heap h' → Q v h' → R v h') : Tr prog w A t s R :=
  Tr.of fun S kS => x.use fun v h' tk kk q => kS v h' tk kk (k v h' kk q)
end
end Mine
namespace Mine
open PySem PySem.W PyProof.Rows PySem.Calls

noncomputable abbrev Live (mu : List Addr) (h : Heap) : Prop := ∀ a ∈ mu, ∃ o, h.get? a = some o
theorem Live.fresh {mu : List Addr} {h : Heap} (l : Live mu h) : h.objs.size ∉ mu := fun q => by
  obtain ⟨o, e⟩ := l _ q
  exact absurd (Heap.lt_size e) (Nat.lt_irrefl _)
theorem Live.keep {mu : List Addr} {h h' : Heap} (l : Live mu h) (k : KeepAll h h') : Live mu h' := fun a q => let ⟨o, e⟩ := l a q; ⟨o, k _ _ e⟩
theorem keepAll_push {h : Heap} {o : Obj} : KeepAll h (h.push o) := fun b o' e => Heap.get?_push_of_some _ e
theorem get_push {h : Heap} {c : Value} {d : Option Addr} {dt : Data} {sl : Array (Option Value)} (hd : dt ≠ .freed) : (h.push ⟨c, d, dt, sl⟩).get? h.objs.size = some ⟨c, d, dt, sl⟩ := by
  refine Heap.get?_push_size _ ?_
  cases dt <;> first | rfl | exact absurd rfl hd

/-- the greatest length of a text or list that we let be made -/
noncomputable def lenLid : Nat := 100000

noncomputable def repStr (x : List Nat) : Nat → List Nat
  | 0 => []
  | n + 1 => x ++ repStr x n

section
variable {prog : Program} {w : World} {A : Around} {s : Shared} {mu : List Addr}

theorem intMulOk {a b : Int} (h : a.natAbs < 2 ^ 64 ∨ b.natAbs < 2 ^ 64) : IntMulOk a b := by
  have bits : ∀ x : Int, x.natAbs < 2 ^ 64 → Builtin.Int.intBits x ≤ 64 := fun x hx => by
    unfold Builtin.Int.intBits
    split
    · omega
    · rename_i h0
      have h1 : x.natAbs ≠ 0 := by
        intro e; apply h0; simp at e ⊢; exact e
      have : Nat.log2 x.natAbs < 64 := (Nat.log2_lt h1).mpr hx
      omega
  unfold IntMulOk
  have e : shortFactorBits = 64 := rfl
  rcases h with h | h
  · have := bits a h; simp [e]; omega
  · have := bits b h; simp [e]; omega

theorem fold_rep (x : List Nat) : ∀ (n : Nat) (acc : Array Nat), (List.foldl (fun x1 x2 => x1 ++ x2) acc (List.replicate n x.toArray)) = acc ++ (repStr x n).toArray
  | 0, acc => by simp [repStr]
  | n + 1, acc => by
    rw [List.replicate_succ, List.foldl_cons, fold_rep x n]
    simp [repStr]
theorem repStr_nil : ∀ n, repStr [] n = []
  | 0 => rfl
  | n + 1 => by simp [repStr, repStr_nil n]
theorem txt_mul (x : List Nat) (n : Int) : Txt.mul ⟨x.toArray⟩ n = ⟨(repStr x n.toNat).toArray⟩ := by
  unfold Txt.mul
  split
  · rename_i h
    have : n.toNat = 0 := by omega
    rw [this]; rfl
  · rename_i h
    split
    · rename_i h2
      simp only [Bool.or_eq_true, beq_iff_eq] at h2
      rcases h2 with h2 | h2
      · subst h2; simp [repStr]
      · have : x = [] := by simpa [Str.length] using h2
        subst this; rw [repStr_nil]
    · show (⟨_⟩ : Str) = _
      congr 1
      have := fold_rep x n.toNat #[]
      simpa using this

theorem add_i {a b : Int} {wa wb : Value} (ra : Rep w.params mu s.heap (.int a) wa) (rb : Rep w.params mu s.heap (.int b) wb) : Tr prog w A (binaryOp .Add wa wb) s (fun v h => Rep w.params mu h (.int (a + b)) v) := by
  unfold Rep at ra rb; obtain ⟨t, rfl⟩ := ra; obtain ⟨u, rfl⟩ := rb
  exact Tr.of fun R k => PySem.P.add_int (k _ _ _ (fun _ _ e => e) (by unfold Rep; exact ⟨_, rfl⟩))
theorem sub_i {a b : Int} {wa wb : Value} (ra : Rep w.params mu s.heap (.int a) wa) (rb : Rep w.params mu s.heap (.int b) wb) : Tr prog w A (binaryOp .Sub wa wb) s (fun v h => Rep w.params mu h (.int (a - b)) v) := by
  unfold Rep at ra rb; obtain ⟨t, rfl⟩ := ra; obtain ⟨u, rfl⟩ := rb
  exact Tr.of fun R k => PySem.P.sub_int (k _ _ _ (fun _ _ e => e) (by unfold Rep; exact ⟨_, rfl⟩))
theorem mul_i {a b : Int} {wa wb : Value} (hm : a.natAbs < 2 ^ 64 ∨ b.natAbs < 2 ^ 64) (ra : Rep w.params mu s.heap (.int a) wa) (rb : Rep w.params mu s.heap (.int b) wb) : Tr prog w A (binaryOp .Mult wa wb) s (fun v h => Rep w.params mu h (.int (a * b)) v) := by
  unfold Rep at ra rb; obtain ⟨t, rfl⟩ := ra; obtain ⟨u, rfl⟩ := rb
  exact Tr.of fun R k => PySem.P.mul_int (k _ _ _ (fun _ _ e => e) (by unfold Rep; exact ⟨_, rfl⟩)) (intMulOk hm)
theorem div_i {a b : Int} {wa wb : Value} (hm : b ≠ 0 ∧ b.natAbs < 1073741824) (ra : Rep w.params mu s.heap (.int a) wa) (rb : Rep w.params mu s.heap (.int b) wb) : Tr prog w A (binaryOp .FloorDiv wa wb) s (fun v h => Rep w.params mu h (.int (a.fdiv b)) v) := by
  unfold Rep at ra rb; obtain ⟨t, rfl⟩ := ra; obtain ⟨u, rfl⟩ := rb
  exact Tr.of fun R k => floordiv_int hm.1 (k _ _ _ (fun _ _ e => e) (by unfold Rep; exact ⟨_, rfl⟩)) (.inl (PyProof.noPylong_small hm.2))
theorem mod_i {a b : Int} {wa wb : Value} (hm : b ≠ 0) (ra : Rep w.params mu s.heap (.int a) wa) (rb : Rep w.params mu s.heap (.int b) wb) : Tr prog w A (binaryOp .Mod wa wb) s (fun v h => Rep w.params mu h (.int (a.fmod b)) v) := by
  unfold Rep at ra rb; obtain ⟨t, rfl⟩ := ra; obtain ⟨u, rfl⟩ := rb
  exact Tr.of fun R k => mod_int hm (k _ _ _ (fun _ _ e => e) (by unfold Rep; exact ⟨_, rfl⟩))
theorem pow_i {a b : Int} {wa wb : Value} (hm : 0 ≤ b ∧ b ≤ 1000 ∧ a.natAbs < 2 ^ 64) (ra : Rep w.params mu s.heap (.int a) wa) (rb : Rep w.params mu s.heap (.int b) wb) : Tr prog w A (binaryOp .Pow wa wb) s (fun v h => Rep w.params mu h (.int (a ^ b.toNat)) v) := by
  unfold Rep at ra rb; obtain ⟨t, rfl⟩ := ra; obtain ⟨u, rfl⟩ := rb
  have hb : b ≤ 1048576 := Int.le_trans hm.2.1 (by decide)
  exact Tr.of fun R k => pow_int_small hm.1 (by omega) hm.2.2 (k _ _ _ (fun _ _ e => e) (by unfold Rep; exact ⟨_, rfl⟩))
theorem add_s {x y : List Nat} {wa wb : Value} (hm : x.length + y.length ≤ lenLid) (ra : Rep w.params mu s.heap (.str x) wa) (rb : Rep w.params mu s.heap (.str y) wb) : Tr prog w A (binaryOp .Add wa wb) s (fun v h => Rep w.params mu h (.str (x ++ y)) v) := by
  unfold Rep at ra rb; obtain ⟨t, rfl⟩ := ra; obtain ⟨u, rfl⟩ := rb
  refine Tr.of fun R k => PySem.SB.add (fun t' n => k _ _ _ (fun _ _ e => e) (by unfold Rep; exact ⟨t', by show Value.str ⟨_⟩ _ = _; simp⟩)) ?_
  show _ + _ ≤ sizeLine
  have : sizeLine = 16777216 := rfl
  simp [Str.length, this]; unfold lenLid at hm; omega
theorem mul_s {x : List Nat} {n : Int} {wa wb : Value} (hm : x.length ≤ 100 ∧ n ≤ 100 ∧ -100 ≤ n) (ra : Rep w.params mu s.heap (.str x) wa) (rb : Rep w.params mu s.heap (.int n) wb) : Tr prog w A (binaryOp .Mult wa wb) s (fun v h => Rep w.params mu h (.str (repStr x n.toNat)) v) := by
  unfold Rep at ra rb; obtain ⟨t, rfl⟩ := ra; obtain ⟨u, rfl⟩ := rb
  refine Tr.of fun R k => PySem.SB.mul ⟨?_, fun _ _ => ?_, fun _ _ => ?_⟩ (fun t' m => k _ _ _ (fun _ _ e => e) (by unfold Rep; exact ⟨t', by rw [txt_mul]⟩))
  · simp; omega
  · simp only [Str.length, List.size_toArray]
    have h1 : (x.length : Int) ≤ 100 := by omega
    have h2 : (100 : Int) ≤ (2 ^ 63 - 1) / n := by
      have hn : 0 < n := by omega
      rw [Int.le_ediv_iff_mul_le hn]
      have : (2 : Int) ^ 63 - 1 = 9223372036854775807 := by decide
      rw [this]; omega
    omega
  · unfold Builtin.Str.tooLong
    have : sizeLine = 16777216 := rfl
    simp only [Str.length, List.size_toArray, decide_eq_false_iff_not, this]
    have h1 : n.toNat ≤ 100 := by omega
    have := Nat.mul_le_mul hm.1 h1
    omega
theorem add_l {xs ys : List V} {wa wb : Value} (hm : xs.length + ys.length ≤ lenLid) (ra : Rep w.params mu s.heap (.list xs) wa) (rb : Rep w.params mu s.heap (.list ys) wb) (l : Live mu s.heap) : Tr prog w A (binaryOp .Add wa wb) s (fun v h => Rep w.params mu h (.list (xs ++ ys)) v) := by
  unfold Rep at ra rb; obtain ⟨a, ws, rfl, ha, la, ra⟩ := ra; obtain ⟨b, us, rfl, hb, lb, rb⟩ := rb
  obtain ⟨⟨c1, d1, t1, s1⟩, g1, e1, n1, q1⟩ := la
  obtain ⟨⟨c2, d2, t2, s2⟩, g2, e2, n2, q2⟩ := lb
  simp only at e1 e2 q1 q2
  subst e1 e2 q1 q2
  refine Tr.of fun R k => concat_meets ⟨_, g1, rfl⟩ ⟨_, g2, rfl⟩ noFill_list_add seq_list_add PySem.F.slot_list_add PySem.F.entry_list_add (PySem.F.args_list_add_2 _ _)
    (list_addW a b ws.toArray us.toArray n1 n2 d1 d2 s1 s2 (by
      have : sizeLine = 16777216 := rfl
      have q1 := ra.length
      have q2 := rb.length
      simp only [List.size_toArray, this]; unfold lenLid at hm; omega)) ⟨g1, g2, ?_⟩
  refine k _ _ _ keepAll_push ?_
  unfold Rep
  refine ⟨_, ws ++ us, rfl, l.fresh, ⟨_, get_push (by intro e; cases e), rfl, 0, by show Data.seq (ws.toArray ++ us.toArray) 0 = _; simp⟩, (ra.all keepAll_push).append (rb.all keepAll_push)⟩
theorem add_b {x y : List UInt8} {wa wb : Value} (hm : x.length + y.length ≤ lenLid) (ra : Rep w.params mu s.heap (.bytes x) wa) (rb : Rep w.params mu s.heap (.bytes y) wb) : Tr prog w A (binaryOp .Add wa wb) s (fun v h => Rep w.params mu h (.bytes (x ++ y)) v) := by
  unfold Rep at ra rb; obtain ⟨t, rfl⟩ := ra; obtain ⟨u, rfl⟩ := rb
  refine Tr.of fun R k => KBy.add_bytes (by simp; unfold lenLid at hm; omega) (fun t' n => k _ _ _ (fun _ _ e => e) (by unfold Rep; exact ⟨t', by simp⟩))
end
end Mine
namespace Mine
open PySem PySem.W PyProof.Rows PySem.Calls

theorem beq_dec {α : Type} [BEq α] [LawfulBEq α] [DecidableEq α] (a b : α) : (a == b) = decide (a = b) := by
  by_cases h : a = b <;> simp [h]
section
variable {prog : Program} {w : World} {A : Around} {s : Shared} {mu : List Addr} {P : Params} {h : Heap} {a b : Int} {x y : List Nat} {wa wb : Value}
theorem same_heap {h : Heap} : KeepAll h h := fun _ _ e => e
theorem eq_i (ra : Rep w.params mu s.heap (.int a) wa) (rb : Rep w.params mu s.heap (.int b) wb) : Tr prog w A (compareOp .Eq wa wb) s (fun v _ => v = .bool (decide (a = b))) := by
  unfold Rep at ra rb; obtain ⟨t, rfl⟩ := ra; obtain ⟨u, rfl⟩ := rb
  exact Tr.of fun R k => PySem.P.eq_int (k _ _ s.toks same_heap (by first | rfl | simp only [beq_dec]))
theorem ne_i (ra : Rep w.params mu s.heap (.int a) wa) (rb : Rep w.params mu s.heap (.int b) wb) : Tr prog w A (compareOp .NotEq wa wb) s (fun v _ => v = .bool (decide (a ≠ b))) := by
  unfold Rep at ra rb; obtain ⟨t, rfl⟩ := ra; obtain ⟨u, rfl⟩ := rb
  exact Tr.of fun R k => PySem.P.ne_int (k _ _ s.toks same_heap (by simp only [bne, beq_dec]; simp))
theorem lt_i (ra : Rep w.params mu s.heap (.int a) wa) (rb : Rep w.params mu s.heap (.int b) wb) : Tr prog w A (compareOp .Lt wa wb) s (fun v _ => v = .bool (decide (a < b))) := by
  unfold Rep at ra rb; obtain ⟨t, rfl⟩ := ra; obtain ⟨u, rfl⟩ := rb
  exact Tr.of fun R k => PySem.P.lt_int (k _ _ s.toks same_heap rfl)
theorem le_i (ra : Rep w.params mu s.heap (.int a) wa) (rb : Rep w.params mu s.heap (.int b) wb) : Tr prog w A (compareOp .LtE wa wb) s (fun v _ => v = .bool (decide (a ≤ b))) := by
  unfold Rep at ra rb; obtain ⟨t, rfl⟩ := ra; obtain ⟨u, rfl⟩ := rb
  exact Tr.of fun R k => PySem.P.le_int (k _ _ s.toks same_heap rfl)
theorem gt_i (ra : Rep w.params mu s.heap (.int a) wa) (rb : Rep w.params mu s.heap (.int b) wb) : Tr prog w A (compareOp .Gt wa wb) s (fun v _ => v = .bool (decide (b < a))) := by
  unfold Rep at ra rb; obtain ⟨t, rfl⟩ := ra; obtain ⟨u, rfl⟩ := rb
  exact Tr.of fun R k => PySem.P.gt_int (k _ _ s.toks same_heap rfl)
theorem ge_i (ra : Rep w.params mu s.heap (.int a) wa) (rb : Rep w.params mu s.heap (.int b) wb) : Tr prog w A (compareOp .GtE wa wb) s (fun v _ => v = .bool (decide (b ≤ a))) := by
  unfold Rep at ra rb; obtain ⟨t, rfl⟩ := ra; obtain ⟨u, rfl⟩ := rb
  exact Tr.of fun R k => PySem.P.ge_int (k _ _ s.toks same_heap rfl)
theorem eq_s (ra : Rep w.params mu s.heap (.str x) wa) (rb : Rep w.params mu s.heap (.str y) wb) : Tr prog w A (compareOp .Eq wa wb) s (fun v _ => v = .bool (decide (x = y))) := by
  unfold Rep at ra rb; obtain ⟨t, rfl⟩ := ra; obtain ⟨u, rfl⟩ := rb
  exact Tr.of fun R k => PySem.P.eq_str (k _ _ s.toks same_heap (by first | rfl | simp only [beq_dec]))
theorem ne_s (ra : Rep w.params mu s.heap (.str x) wa) (rb : Rep w.params mu s.heap (.str y) wb) : Tr prog w A (compareOp .NotEq wa wb) s (fun v _ => v = .bool (decide (x ≠ y))) := by
  unfold Rep at ra rb; obtain ⟨t, rfl⟩ := ra; obtain ⟨u, rfl⟩ := rb
  exact Tr.of fun R k => PySem.P.ne_str (k _ _ s.toks same_heap (by simp only [bne, beq_dec]; simp))
theorem isnot_nn (ra : Rep w.params mu s.heap .none wa) (rb : Rep w.params mu s.heap .none wb) : Tr prog w A (compareOp .IsNot wa wb) s (fun v _ => v = .bool false) := by
  unfold Rep at ra rb; subst ra; subst rb
  exact Tr.of fun R k => isnot_none_none (k _ _ s.toks same_heap rfl)
theorem isnot_sn (ra : Rep w.params mu s.heap (.str x) wa) (rb : Rep w.params mu s.heap .none wb) : Tr prog w A (compareOp .IsNot wa wb) s (fun v _ => v = .bool true) := by
  unfold Rep at ra rb; obtain ⟨t, rfl⟩ := ra; subst rb
  exact Tr.of fun R k => isnot_none_ne (by intro e; cases e) (k _ _ s.toks same_heap rfl)
theorem tr_n (ra : Rep w.params mu s.heap .none wa) : Tr prog w A (truthy wa) s (fun v _ => v = false) := by
  unfold Rep at ra; subst ra
  exact Tr.of fun R k => truthy_none (k _ _ s.toks same_heap rfl)
theorem tr_b {c : Bool} (ra : Rep w.params mu s.heap (.bool c) wa) : Tr prog w A (truthy wa) s (fun v _ => v = c) := by
  unfold Rep at ra; subst ra
  exact Tr.of fun R k => wpAny_truthy_bool (k _ _ s.toks same_heap rfl)
theorem tr_i (ra : Rep w.params mu s.heap (.int a) wa) : Tr prog w A (truthy wa) s (fun v _ => v = decide (a ≠ 0)) := by
  unfold Rep at ra; obtain ⟨t, rfl⟩ := ra
  exact Tr.of fun R k => PySem.P.truthy_int (k _ _ s.toks same_heap (by simp only [bne, beq_dec]; simp))
theorem tr_s (hl : x.length ≤ lenLid) (ra : Rep w.params mu s.heap (.str x) wa) : Tr prog w A (truthy wa) s (fun v _ => v = decide (0 < x.length)) := by
  unfold Rep at ra; obtain ⟨t, rfl⟩ := ra
  refine Tr.of fun R k => PySem.P.truthy_str (by simp [Str.length]; unfold lenLid at hl; omega) (k _ _ _ same_heap ?_)
  simp only [Str.length, List.size_toArray, bne, beq_dec]
  cases x with
  | nil => rfl
  | cons a x => simp; omega
end
end Mine
namespace Mine
open PySem PySem.W PyProof.Rows PySem.Calls

/-- a value, and what must hold for it to come -/
noncomputable abbrev W (α : Type) := α × Prop
noncomputable abbrev no : W V := (.none, False)

structure Cfg where
  fn : Str → List V → W V
  gl : Str → Option V
  mem : Value → Int → W Bool
  get : Value → Int → W V

noncomputable def binV (op : Operator) (a b : V) : W V :=
  match op, a, b with
  | .Add, .int a, .int b => (.int (a + b), True)
  | .Sub, .int a, .int b => (.int (a - b), True)
  | .Mult, .int a, .int b => (.int (a * b), a.natAbs < 2 ^ 64 ∨ b.natAbs < 2 ^ 64)
  | .FloorDiv, .int a, .int b => (.int (a.fdiv b), b ≠ 0 ∧ b.natAbs < 1073741824)
  | .Mod, .int a, .int b => (.int (a.fmod b), b ≠ 0)
  | .Pow, .int a, .int b => (.int (a ^ b.toNat), 0 ≤ b ∧ b ≤ 1000 ∧ a.natAbs < 2 ^ 64)
  | .Add, .str x, .str y => (.str (x ++ y), x.length + y.length ≤ lenLid)
  | .Mult, .str x, .int n => (.str (repStr x n.toNat), x.length ≤ 100 ∧ n ≤ 100 ∧ -100 ≤ n)
  | .Add, .list xs, .list ys => (.list (xs ++ ys), xs.length + ys.length ≤ lenLid)
  | .Mult, .list [.int k], .int n => (.list (List.replicate n.toNat (.int k)), n ≤ 100 ∧ -100 ≤ n)
  | .Add, .bytes x, .bytes y => (.bytes (x ++ y), x.length + y.length ≤ lenLid)
  | _, _, _ => no

noncomputable def truV : V → W Bool
  | .none => (false, True)
  | .bool b => (b, True)
  | .int i => (decide (i ≠ 0), True)
  | .str x => (decide (0 < x.length), x.length ≤ lenLid)
  | _ => (false, False)

noncomputable def intsV : List V → W (List Int)
  | [] => ([], True)
  | .int i :: r => (i :: (intsV r).1, (intsV r).2)
  | _ => ([], False)
noncomputable def strsV : List V → W (List (List Nat))
  | [] => ([], True)
  | .str i :: r => (i :: (strsV r).1, (strsV r).2)
  | _ => ([], False)

noncomputable def cmpV (g : Cfg) (op : CmpOp) (a b : V) : W Bool :=
  match op, a, b with
  | .Eq, .int a, .int b => (decide (a = b), True)
  | .NotEq, .int a, .int b => (decide (a ≠ b), True)
  | .Lt, .int a, .int b => (decide (a < b), True)
  | .LtE, .int a, .int b => (decide (a ≤ b), True)
  | .Gt, .int a, .int b => (decide (b < a), True)
  | .GtE, .int a, .int b => (decide (b ≤ a), True)
  | .Eq, .str a, .str b => (decide (a = b), True)
  | .NotEq, .str a, .str b => (decide (a ≠ b), True)
  | .Eq, .list xs, .list ys => (decide ((intsV xs).1 = (intsV ys).1), (intsV xs).2 ∧ (intsV ys).2)
  | .IsNot, .none, .none => (false, True)
  | .IsNot, .str _, .none => (true, True)
  | .In, .int a, .val w => g.mem w a
  | _, _, _ => (false, False)

/-- the item of a sequence at an index -/
noncomputable def seqAt {α : Type} (d : α) (xs : List α) (i : Int) : W α :=
  (xs.getD (if i < 0 then i + xs.length else i).toNat d, -(xs.length : Int) ≤ i ∧ i < xs.length ∧ xs.length ≤ lenLid)
noncomputable def itemV : V → V → W V
  | .list xs, .int i => seqAt .none xs i
  | .str xs, .int i => let r := seqAt 0 xs i; (.str [r.1], r.2)
  | _, _ => no

/-- a bound of a slice, set into 0..n -/
noncomputable def clip (n : Nat) (d : Nat) : V → W Nat
  | .none => (d, True)
  | .int i => (if i < 0 then (i + n).toNat else min i.toNat n, True)
  | _ => (0, False)
noncomputable def pickL {α : Type} (xs : List α) (lo hi st : Option Int) : List α :=
  (sliceRange (sliceBounds lo hi st xs.length).1 (sliceBounds lo hi st xs.length).2.1 (sliceBounds lo hi st xs.length).2.2).filterMap fun i => xs[i]?
noncomputable def cutV (v lo hi st : V) : W V :=
  match v, st with
  | .str xs, .none => (.str ((xs.take (clip xs.length xs.length hi).1).drop (clip xs.length 0 lo).1), (clip xs.length xs.length hi).2 ∧ (clip xs.length 0 lo).2 ∧ xs.length ≤ lenLid)
  | .bytes xs, .none => (.bytes ((xs.take (clip xs.length xs.length hi).1).drop (clip xs.length 0 lo).1), (clip xs.length xs.length hi).2 ∧ (clip xs.length 0 lo).2 ∧ xs.length ≤ lenLid)
  | .list xs, .none => (.list ((xs.take (clip xs.length xs.length hi).1).drop (clip xs.length 0 lo).1), (clip xs.length xs.length hi).2 ∧ (clip xs.length 0 lo).2 ∧ xs.length ≤ lenLid)
  | .list xs, .int k => match lo, hi with
    | .int i, .none => (.list (pickL xs (some i) none (some k)), k ≠ 0 ∧ xs.length ≤ lenLid)
    | _, _ => no
  | _, _ => no

noncomputable def rangeUp (a : Int) (c : Int) : Nat → List Int
  | 0 => []
  | n + 1 => a :: rangeUp (a + c) c n
/-- the ints of a range with a step above 0 -/
noncomputable def rangeV (a b c : Int) : W (List Int) :=
  (rangeUp a c ((b - a + c - 1).fdiv c).toNat, 0 < c ∧ c ≤ 1000 ∧ -lenLid ≤ a ∧ a ≤ lenLid ∧ b ≤ lenLid ∧ -lenLid ≤ b)

noncomputable def bltV (f : Str) (args : List V) : W V :=
  if f = ("len" : Str) then match args with
    | [.str x] => (.int x.length, x.length ≤ lenLid)
    | [.list x] => (.int x.length, x.length ≤ lenLid)
    | _ => no
  else if f = ("ord" : Str) then match args with
    | [.str [c]] => (.int c, True)
    | _ => no
  else if f = ("chr" : Str) then match args with
    | [.int i] => (.str [i.toNat], 0 ≤ i ∧ i ≤ 1114111)
    | _ => no
  else if f = ("abs" : Str) then match args with
    | [.int i] => (.int (if i < 0 then -i else i), True)
    | _ => no
  else if f = ("int" : Str) then match args with
    | [.int i] => (.int i, True)
    | _ => no
  else if f = ("divmod" : Str) then match args with
    | [.int a, .int b] => (.tup [.int (a.fdiv b), .int (a.fmod b)], b ≠ 0 ∧ b.natAbs < 1073741824)
    | _ => no
  else if f = ("min" : Str) then match args with
    | [.int a, .int b] => (.int (if b < a then b else a), True)
    | _ => no
  else if f = ("sum" : Str) then match args with
    | [.list xs] => (.int (intsV xs).1.sum, (intsV xs).2)
    | _ => no
  else no
noncomputable abbrev isBlt (f : Str) : Bool := [("len" : Str), "ord", "chr", "abs", "int", "divmod", "min", "sum"].contains f

noncomputable def methV (g : Cfg) (o : V) (name : Str) (args : List V) : W V :=
  if name = ("lower" : Str) then match o, args with
    | .str x, [] => (.str (Txt.lower ⟨x.toArray⟩).cps.toList, x.length ≤ lenLid)
    | _, _ => no
  else if name = ("join" : Str) then match o, args with
    | .str [], [.list xs] => (.str (strsV xs).1.flatten, (strsV xs).2 ∧ (strsV xs).1.flatten.length ≤ lenLid)
    | _, _ => no
  else if name = ("decode" : Str) then match o, args with
    | .bytes b, [.str x] => (.str (b.map (·.toNat)), (∀ c ∈ b, c.toNat < 128) ∧ b.length ≤ lenLid ∧ x = [97, 115, 99, 105, 105])
    | _, _ => no
  else if name = ("get" : Str) then match o, args with
    | .val w, [.int i] => g.get w i
    | _, _ => no
  else no

/-- what a loop goes over -/
noncomputable def itemsV : V → W (List V)
  | .list xs => (xs, xs.length ≤ lenLid)
  | .str xs => (xs.map fun c => .str [c], xs.length ≤ lenLid)
  | _ => ([], False)

noncomputable abbrev Kd := Str → Option NameKind
structure Loc where
  v : V
  own : Bool := false
noncomputable abbrev Ls := List (Str × Loc)
noncomputable def Ls.put (l : Ls) (x : Str) (v : Loc) : Ls := match l with
  | [] => [(x, v)]
  | (y, u) :: r => if y = x then (x, v) :: r else (y, u) :: Ls.put r x v
noncomputable def Ls.loc (l : Ls) (x : Str) : Option Loc := match l with
  | [] => none
  | (y, u) :: r => if y = x then some u else Ls.loc r x
noncomputable def Ls.at (l : Ls) (x : Str) : Option V := match l with
  | [] => none
  | (y, u) :: r => if y = x then some u.v else Ls.at r x
noncomputable def Ls.clean (l : Ls) : Ls := l.filter fun p => !p.2.own
noncomputable def Ls.capt (l : Ls) (k : Kd) : Ls := l.filter fun p => k p.1 == some .cell || k p.1 == some .free
noncomputable def isAtom : V → Bool
  | .none | .bool _ | .int _ | .str _ | .bytes _ => true
  | _ => false

noncomputable def constV : Const → W V
  | .none => (.none, True)
  | .bool b => (.bool b, True)
  | .int i => (.int i, True)
  | .str s => (.str s.cps.toList, True)
  | .bytes b => (.bytes b, True)
  | _ => no

noncomputable def kindOk (k : Kd) (x : Str) : Bool := k x == some .globalImplicit && !(x == ("__debug__" : Str))
noncomputable def nameOk (x : Str) : Bool := !(x == ("__debug__" : Str)) && !(x == ("__classdict__" : Str)) && !(x == ("__name__" : Str))
/-- no super() -/
noncomputable def baseOk : Expr → Bool
  | .Call (.Name _ _) [] [] _ => false
  | _ => true
noncomputable def selfKind (k : Kd) (p : Str × NameKind) : Str × NameKind := if p.2 == .free && k p.1 == some .cell then (p.1, .cell) else p
noncomputable def inKind (k : Kd) (scope : Scope) : Kd := fun x => (scope.names.map (selfKind k)).lookup x

/-- the ints of a call of range -/
noncomputable def rangeOf : List V → W (List V)
  | [a] => (match a with
    | .int b => ((rangeV 0 b 1).1.map .int, (rangeV 0 b 1).2)
    | _ => ([], False))
  | [a, b] => (match a with
    | .int a => (match b with
      | .int b => ((rangeV a b 1).1.map .int, (rangeV a b 1).2)
      | _ => ([], False))
    | _ => ([], False))
  | [a, b, c] => (match a with
    | .int a => (match b with
      | .int b => (match c with
        | .int c => ((rangeV a b c).1.map .int, (rangeV a b c).2)
        | _ => ([], False))
      | _ => ([], False))
    | _ => ([], False))
  | _ => ([], False)
mutual
noncomputable def ev (g : Cfg) (k : Kd) : Nat → Ls → Expr → W V
  | 0, _, _ => no
  | n + 1, l, e => match e with
    | .Constant c _ _ => constV c
    | .Name x _ => match l.at x with
      | some v => (v, True)
      | none => match g.gl x with
        | some v => (v, kindOk k x = true)
        | none => no
    | .BinOp a op b _ => let va := ev g k n l a; let vb := ev g k n l b; let r := binV op va.1 vb.1; (r.1, va.2 ∧ vb.2 ∧ r.2)
    | .UnaryOp .USub a _ => match ev g k n l a with
      | (.int i, c) => (.int (-i), c)
      | _ => no
    | .UnaryOp .Not a _ => let r := ev g k n l a; let t := truV r.1; (.bool (!t.1), r.2 ∧ t.2)
    | .BoolOp .Or [a, b] _ => let va := ev g k n l a; let t := truV va.1; if t.1 then (va.1, va.2 ∧ t.2) else let vb := ev g k n l b; (vb.1, va.2 ∧ t.2 ∧ vb.2)
    | .IfExp t a b _ => let r := evT g k n l t; if r.1 then (let v := ev g k n l a; (v.1, r.2 ∧ v.2)) else (let v := ev g k n l b; (v.1, r.2 ∧ v.2))
    | .Compare a [op] [b] _ => let va := ev g k n l a; let vb := ev g k n l b; let r := cmpV g op va.1 vb.1; (.bool r.1, va.2 ∧ vb.2 ∧ r.2 ∧ behindInMarks op b = false)
    | .Subscript v (.Slice lo hi st _) _ =>
      let r := ev g k n l v; let a := evO g k n l lo; let b := evO g k n l hi; let c := evO g k n l st; let q := cutV r.1 a.1 b.1 c.1; (q.1, r.2 ∧ a.2 ∧ b.2 ∧ c.2 ∧ q.2)
    | .Subscript v i _ => let r := ev g k n l v; let j := ev g k n l i; let q := itemV r.1 j.1; (q.1, r.2 ∧ j.2 ∧ q.2)
    | .List es _ => let r := evs g k n l es; (.list r.1, r.2 ∧ r.1.length ≤ lenLid)
    | .Tuple es _ _ => let r := evs g k n l es; (.tup r.1, r.2 ∧ r.1.length ≤ lenLid)
    | .ListComp elt [⟨.Name x _, it, ifs, 0⟩] scope _ =>
      let k' := inKind k scope
      let q := evI g k n l it
      let f : V → Ls := fun v => (l.capt k').put x ⟨v, false⟩
      match ifs with
      | [] => (.list (q.1.map fun v => (ev g k' n (f v) elt).1), q.2 ∧ (scope.names.lookup x = some .local ∧ nameOk x = true) ∧ scopeOk k l scope = true ∧ q.1.length ≤ lenLid ∧ ∀ v ∈ q.1, (ev g k' n (f v) elt).2)
      | [t] => (.list ((q.1.filter fun v => (evT g k' n (f v) t).1).map fun v => (ev g k' n (f v) elt).1),
          q.2 ∧ (scope.names.lookup x = some .local ∧ nameOk x = true) ∧ scopeOk k l scope = true ∧ q.1.length ≤ lenLid ∧ ∀ v ∈ q.1, (evT g k' n (f v) t).2 ∧ ((evT g k' n (f v) t).1 = true → (ev g k' n (f v) elt).2))
      | _ => no
    | .Call (.Attribute o name ap) args [] p =>
      let r := ev g k n l o; let a := evs g k n l args; let q := methV g r.1 name a.1; (q.1, r.2 ∧ a.2 ∧ q.2 ∧ (ap.endLine == p.line) = true ∧ baseOk o = true ∧ args.length ≤ 3)
    | .Call (.Name f _) args [] _ =>
      if isBlt f then let a := evs g k n l args; let q := bltV f a.1; (q.1, a.2 ∧ q.2 ∧ l.at f = none ∧ kindOk k f = true)
      else if f = ("list" : Str) then match args with
        | [.Call (.Name r rp) as [] cp] => if r = ("range" : Str) then
            let q := evI g k n l (.Call (.Name r rp) as [] cp); (.list q.1, q.2 ∧ l.at f = none ∧ kindOk k f = true)
          else no
        | _ => no
      else let a := evs g k n l args; let q := g.fn f a.1; (q.1, a.2 ∧ q.2 ∧ l.at f = none ∧ kindOk k f = true)
    | _ => no
where
  scopeOk (k : Kd) (l : Ls) (scope : Scope) : Bool :=
    scope.kind == .function && scope.names.all fun p =>
      match p.2 with
      | .local => scope.names.lookup p.1 == some .local
      | .free => (k p.1 == some .cell || k p.1 == some .free) && (l.at p.1).isSome
      | .cell => false
      | _ => true

/-- what is tested -/
noncomputable def evT (g : Cfg) (k : Kd) : Nat → Ls → Expr → W Bool
  | 0, _, _ => (false, False)
  | n + 1, l, e => match e with
    | .UnaryOp .Not a _ => let r := evT g k n l a; (!r.1, r.2)
    | .BoolOp .And es _ => evAnd g k n l es
    | .BoolOp .Or es _ => evOr g k n l es
    | .Compare a [op] [b] _ => let va := ev g k n l a; let vb := ev g k n l b; let r := cmpV g op va.1 vb.1; (r.1, va.2 ∧ vb.2 ∧ r.2 ∧ behindInMarks op b = false)
    | .Compare _ _ _ _ => (false, False)
    | .IfExp t a b _ => let r := evT g k n l t; if r.1 then (let v := evT g k n l a; (v.1, r.2 ∧ v.2)) else (let v := evT g k n l b; (v.1, r.2 ∧ v.2))
    | e => let v := ev g k n l e; let t := truV v.1; (t.1, v.2 ∧ t.2)
noncomputable def evAnd (g : Cfg) (k : Kd) : Nat → Ls → List Expr → W Bool
  | 0, _, _ => (false, False)
  | n + 1, l, es => match es with
    | [] => (true, True)
    | e :: r => let v := evT g k n l e; if v.1 then (let q := evAnd g k n l r; (q.1, v.2 ∧ q.2)) else (false, v.2)
noncomputable def evOr (g : Cfg) (k : Kd) : Nat → Ls → List Expr → W Bool
  | 0, _, _ => (false, False)
  | n + 1, l, es => match es with
    | [] => (false, True)
    | e :: r => let v := evT g k n l e; if v.1 then (true, v.2) else (let q := evOr g k n l r; (q.1, v.2 ∧ q.2))
noncomputable def evO (g : Cfg) (k : Kd) : Nat → Ls → Option Expr → W V
  | 0, _, _ => no
  | n + 1, l, e => match e with
    | none => (.none, True)
    | some e => ev g k n l e
noncomputable def evs (g : Cfg) (k : Kd) : Nat → Ls → List Expr → W (List V)
  | 0, _, _ => ([], False)
  | n + 1, l, es => match es with
    | [] => ([], True)
    | .Starred _ _ :: _ => ([], False)
    | e :: r => let v := ev g k n l e; let q := evs g k n l r; (v.1 :: q.1, v.2 ∧ q.2)
/-- what a loop goes over -/
noncomputable def evI (g : Cfg) (k : Kd) : Nat → Ls → Expr → W (List V)
  | 0, _, _ => ([], False)
  | n + 1, l, e => match e with
    | .Call (.Name f _) args [] _ =>
      if f = ("range" : Str) then
        let a := evs g k n l args
        let q := rangeOf a.1
        (q.1, a.2 ∧ q.2 ∧ l.at f = none ∧ kindOk k f = true)
      else ([], False)
    | .Name x p => let v := ev g k n l (.Name x p); let q := itemsV v.1; (q.1, v.2 ∧ q.2)
    | _ => ([], False)
end

/-- op= that we evaluate -/
noncomputable def augOk : Operator → V → V → Bool
  | .Add, .int _, .int _ => true
  | .Sub, .int _, .int _ => true
  | .Mult, .int _, .int _ => true
  | .Add, .str _, .str _ => true
  | _, _, _ => false
inductive Fl where
  | next
  | ret (v : V)

/-- an expression whose list is new -/
noncomputable def isNew : Expr → Bool
  | .List [] _ => true
  | .Call (.Name f _) [.Call (.Name r _) _ [] _] [] _ => f = ("list" : Str) && r = ("range" : Str)
  | _ => false
/-- no other list is written to -/
noncomputable def onlyOwn (l : Ls) (x : Str) : Bool := l.all fun p => !p.2.own || p.1 == x
noncomputable def storable (k : Kd) (x : Str) : Bool := (k x == some .local || k x == some .cell) && nameOk x

/-- a tuple of constants alone -/
noncomputable def constTup : Expr → Bool
  | .Tuple vs _ _ => vs.all (constantsAlone 8)
  | _ => false
/-- a value to be stored: it holds no list that is written to -/
noncomputable def evS (g : Cfg) (k : Kd) (n : Nat) (l : Ls) (e : Expr) : W V :=
  let r := ev g k n l e
  if isAtom r.1 then r else ev g k n l.clean e

/-- a pair into two names -/
noncomputable def tupW (k : Kd) (l : Ls) (x y : Str) (e : Expr) (v : W V) : Fl × Ls × Prop := match v.1 with
  | .tup vs => (match vs with
    | [] => (.next, l, False)
    | a :: r => (match r with
      | [] => (.next, l, False)
      | b :: r2 => (match r2 with
        | [] => (.next, (l.put x ⟨a, false⟩).put y ⟨b, false⟩, v.2 ∧ constTup e = false ∧ isAtom a = true ∧ isAtom b = true ∧ storable k x = true ∧ storable k y = true ∧ x ≠ y)
        | _ :: _ => (.next, l, False))))
  | _ => (.next, l, False)
/-- an item of an own list -/
noncomputable def setW (l : Ls) (x : Str) (v j : W V) : Fl × Ls × Prop := match l.loc x with
  | some u => (match u.v with
    | .list xs => (match j.1 with
      | .int i => (.next, l.put x ⟨.list (xs.set i.toNat v.1), true⟩, v.2 ∧ j.2 ∧ isAtom v.1 = true ∧ 0 ≤ i ∧ i < xs.length ∧ xs.length ≤ lenLid ∧ u.own = true)
      | _ => (.next, l, False))
    | _ => (.next, l, False))
  | none => (.next, l, False)
noncomputable def thenW (q : Fl × Ls × Prop) (f : Ls → Fl × Ls × Prop) : Fl × Ls × Prop := match q.1 with
  | .next => ((f q.2.1).1, (f q.2.1).2.1, q.2.2 ∧ (f q.2.1).2.2)
  | .ret u => (.ret u, q.2.1, q.2.2)
noncomputable def loopV (f : Ls → V → Fl × Ls × Prop) : Ls → List V → Fl × Ls × Prop
  | l, [] => (.next, l, True)
  | l, v :: r => thenW (f l v) fun l' => loopV f l' r
noncomputable def whileV (t : Ls → W Bool) (f : Ls → Fl × Ls × Prop) : Nat → Ls → Fl × Ls × Prop
  | 0, l => (.next, l, False)
  | n + 1, l => if (t l).1 then (let q := thenW (f l) fun l' => whileV t f n l'; (q.1, q.2.1, (t l).2 ∧ q.2.2)) else (.next, l, (t l).2)

mutual
noncomputable def ex (g : Cfg) (k : Kd) : Nat → Ls → Stmt → Fl × Ls × Prop
  | 0, l, _ => (.next, l, False)
  | n + 1, l, s => match s with
    | .Return e _ => (match e with
      | some e => let v := ev g k n l e; (.ret v.1, l, v.2)
      | none => (.next, l, False))
    | .Assign ts e _ => (match ts with
      | [] => (.next, l, False)
      | t :: r => (match r with
        | [] => (match t with
          | .Name x _ =>
            if isNew e then (let v := ev g k n l.clean e; (.next, l.put x ⟨v.1, true⟩, v.2 ∧ k x = some .local ∧ nameOk x = true ∧ onlyOwn l x = true))
            else (let v := evS g k n l e; (.next, l.put x ⟨v.1, false⟩, v.2 ∧ storable k x = true))
          | .Tuple es _ _ => (match es with
            | [.Name x _, .Name y _] => tupW k l x y e (ev g k n l e)
            | _ => (.next, l, False))
          | .Subscript o i _ => (match o with
            | .Name x _ => setW l x (ev g k n l e) (ev g k n l i)
            | _ => (.next, l, False))
          | _ => (.next, l, False))
        | t2 :: r2 => (match r2 with
          | [] => (match t with
            | .Name x _ => (match t2 with
              | .Name y _ => let v := ev g k n l e; (.next, (l.put x ⟨v.1, false⟩).put y ⟨v.1, false⟩, v.2 ∧ isAtom v.1 = true ∧ storable k x = true ∧ storable k y = true)
              | _ => (.next, l, False))
            | _ => (.next, l, False))
          | _ :: _ => (.next, l, False))))
    | .AugAssign t op e _ => (match t with
      | .Name x xp => let a := ev g k (n + 1) l (.Name x xp); let v := ev g k n l e; let r := binV op a.1 v.1
        (.next, l.put x ⟨r.1, false⟩, (l.at x).isSome = true ∧ v.2 ∧ r.2 ∧ augOk op a.1 v.1 = true ∧ storable k x = true)
      | _ => (.next, l, False))
    | .If t a b _ => let r := evT g k n l t; if r.1 then (let q := exs g k n l a; (q.1, q.2.1, r.2 ∧ q.2.2)) else (let q := exs g k n l b; (q.1, q.2.1, r.2 ∧ q.2.2))
    | .While t body orelse _ => (match orelse with
      | [] => whileV (fun l => evT g k n l t) (fun l => exs g k n l body) 100000 l
      | _ :: _ => (.next, l, False))
    | .For t it body orelse _ => (match orelse with
      | [] => (match t with
        | .Name x _ =>
          let q := evI g k n l.clean it
          let r := loopV (fun l v => let q := exs g k n (l.put x ⟨v, false⟩) body; (q.1, q.2.1, q.2.2 ∧ isAtom v = true)) l q.1
          (r.1, r.2.1, q.2 ∧ r.2.2 ∧ storable k x = true)
        | _ => (.next, l, False))
      | _ :: _ => (.next, l, False))
    | _ => (.next, l, False)
noncomputable def exs (g : Cfg) (k : Kd) : Nat → Ls → List Stmt → Fl × Ls × Prop
  | 0, l, _ => (.next, l, False)
  | n + 1, l, ss => match ss with
    | [] => (.next, l, True)
    | s :: r => thenW (ex g k n l s) fun l' => exs g k n l' r
end
/-! what it comes to, form by form -/
section
variable {g : Cfg} {k : Kd} {n : Nat} {l : Ls} {a b t e : Expr} {p q : Pos} {es r : List Expr}
theorem ev_name {x : Str} : ev g k (n + 1) l (.Name x p) = match l.at x with
      | some v => (v, True)
      | none => match g.gl x with
        | some v => (v, kindOk k x = true)
        | none => no := rfl
theorem ev_nameL {x : Str} {v : V} (h : l.at x = some v) : ev g k (n + 1) l (.Name x p) = (v, True) := by rw [ev_name, h]
theorem ev_nameG {x : Str} {v : V} (h : l.at x = none) (h2 : g.gl x = some v) : ev g k (n + 1) l (.Name x p) = (v, kindOk k x = true) := by rw [ev_name, h, h2]
theorem ev_nameN {x : Str} (h : l.at x = none) (h2 : g.gl x = none) : ev g k (n + 1) l (.Name x p) = no := by rw [ev_name, h, h2]
theorem ev_bin {op : Operator} : ev g k (n + 1) l (.BinOp a op b p) = ((binV op (ev g k n l a).1 (ev g k n l b).1).1, (ev g k n l a).2 ∧ (ev g k n l b).2 ∧ (binV op (ev g k n l a).1 (ev g k n l b).1).2) := rfl
theorem ev_neg : ev g k (n + 1) l (.UnaryOp .USub a p) = match ev g k n l a with
      | (.int i, c) => (.int (-i), c)
      | _ => no := rfl
theorem ev_not : ev g k (n + 1) l (.UnaryOp .Not a p) = (.bool (!(truV (ev g k n l a).1).1), (ev g k n l a).2 ∧ (truV (ev g k n l a).1).2) := rfl
theorem ev_or : ev g k (n + 1) l (.BoolOp .Or [a, b] p) = if (truV (ev g k n l a).1).1 then ((ev g k n l a).1, (ev g k n l a).2 ∧ (truV (ev g k n l a).1).2) else ((ev g k n l b).1, (ev g k n l a).2 ∧ (truV (ev g k n l a).1).2 ∧ (ev g k n l b).2) := rfl
theorem ev_ife : ev g k (n + 1) l (.IfExp t a b p) = if (evT g k n l t).1 then ((ev g k n l a).1, (evT g k n l t).2 ∧ (ev g k n l a).2) else ((ev g k n l b).1, (evT g k n l t).2 ∧ (ev g k n l b).2) := rfl
theorem ev_cmp {op : CmpOp} : ev g k (n + 1) l (.Compare a [op] [b] p) = (.bool (cmpV g op (ev g k n l a).1 (ev g k n l b).1).1, (ev g k n l a).2 ∧ (ev g k n l b).2 ∧ (cmpV g op (ev g k n l a).1 (ev g k n l b).1).2 ∧ behindInMarks op b = false) := rfl
theorem ev_cut {lo hi st : Option Expr} : ev g k (n + 1) l (.Subscript a (.Slice lo hi st q) p) = ((cutV (ev g k n l a).1 (evO g k n l lo).1 (evO g k n l hi).1 (evO g k n l st).1).1, (ev g k n l a).2 ∧ (evO g k n l lo).2 ∧ (evO g k n l hi).2 ∧ (evO g k n l st).2 ∧ (cutV (ev g k n l a).1 (evO g k n l lo).1 (evO g k n l hi).1 (evO g k n l st).1).2) := rfl
theorem ev_item (hb : ∀ lo hi st q, b ≠ .Slice lo hi st q) : ev g k (n + 1) l (.Subscript a b p) = ((itemV (ev g k n l a).1 (ev g k n l b).1).1, (ev g k n l a).2 ∧ (ev g k n l b).2 ∧ (itemV (ev g k n l a).1 (ev g k n l b).1).2) := by
  cases b <;> first | rfl | exact absurd rfl (hb _ _ _ _)
theorem ev_list : ev g k (n + 1) l (.List es p) = (.list (evs g k n l es).1, (evs g k n l es).2 ∧ (evs g k n l es).1.length ≤ lenLid) := rfl
theorem ev_tup {c : Nat} : ev g k (n + 1) l (.Tuple es c p) = (.tup (evs g k n l es).1, (evs g k n l es).2 ∧ (evs g k n l es).1.length ≤ lenLid) := rfl
theorem ev_comp0 {x : Str} {scope : Scope} : ev g k (n + 1) l (.ListComp a [⟨.Name x q, b, [], 0⟩] scope p) =
    (.list ((evI g k n l b).1.map fun v => (ev g (inKind k scope) n ((l.capt (inKind k scope)).put x ⟨v, false⟩) a).1), (evI g k n l b).2 ∧ (scope.names.lookup x = some .local ∧ nameOk x = true) ∧ ev.scopeOk k l scope = true ∧ (evI g k n l b).1.length ≤ lenLid ∧
      ∀ v ∈ (evI g k n l b).1, (ev g (inKind k scope) n ((l.capt (inKind k scope)).put x ⟨v, false⟩) a).2) := rfl
theorem ev_comp1 {x : Str} {scope : Scope} : ev g k (n + 1) l (.ListComp a [⟨.Name x q, b, [t], 0⟩] scope p) =
    (.list (((evI g k n l b).1.filter fun v => (evT g (inKind k scope) n ((l.capt (inKind k scope)).put x ⟨v, false⟩) t).1).map fun v => (ev g (inKind k scope) n ((l.capt (inKind k scope)).put x ⟨v, false⟩) a).1), (evI g k n l b).2 ∧ (scope.names.lookup x = some .local ∧ nameOk x = true) ∧ ev.scopeOk k l scope = true ∧ (evI g k n l b).1.length ≤ lenLid ∧
      ∀ v ∈ (evI g k n l b).1, (evT g (inKind k scope) n ((l.capt (inKind k scope)).put x ⟨v, false⟩) t).2 ∧ ((evT g (inKind k scope) n ((l.capt (inKind k scope)).put x ⟨v, false⟩) t).1 = true → (ev g (inKind k scope) n ((l.capt (inKind k scope)).put x ⟨v, false⟩) a).2)) := rfl
theorem ev_meth {name : Str} : ev g k (n + 1) l (.Call (.Attribute a name q) es [] p) = ((methV g (ev g k n l a).1 name (evs g k n l es).1).1, (ev g k n l a).2 ∧ (evs g k n l es).2 ∧ (methV g (ev g k n l a).1 name (evs g k n l es).1).2 ∧ (q.endLine == p.line) = true ∧ baseOk a = true ∧ es.length ≤ 3) := rfl
/-- a call of a name -/
noncomputable def callNV (g : Cfg) (k : Kd) (n : Nat) (l : Ls) (f : Str) (args : List Expr) : W V :=
  if isBlt f then ((bltV f (evs g k n l args).1).1, (evs g k n l args).2 ∧ (bltV f (evs g k n l args).1).2 ∧ l.at f = none ∧ kindOk k f = true)
  else if f = ("list" : Str) then match args with
    | [.Call (.Name r rp) as [] cp] => if r = ("range" : Str) then (.list (evI g k n l (.Call (.Name r rp) as [] cp)).1, (evI g k n l (.Call (.Name r rp) as [] cp)).2 ∧ l.at f = none ∧ kindOk k f = true) else no
    | _ => no
  else ((g.fn f (evs g k n l args).1).1, (evs g k n l args).2 ∧ (g.fn f (evs g k n l args).1).2 ∧ l.at f = none ∧ kindOk k f = true)
theorem ev_call {f : Str} : ev g k (n + 1) l (.Call (.Name f q) es [] p) = callNV g k n l f es := rfl
theorem evT_not : evT g k (n + 1) l (.UnaryOp .Not a p) = (!(evT g k n l a).1, (evT g k n l a).2) := rfl
theorem evT_and : evT g k (n + 1) l (.BoolOp .And es p) = evAnd g k n l es := rfl
theorem evT_or : evT g k (n + 1) l (.BoolOp .Or es p) = evOr g k n l es := rfl
theorem evT_cmp {op : CmpOp} : evT g k (n + 1) l (.Compare a [op] [b] p) = ((cmpV g op (ev g k n l a).1 (ev g k n l b).1).1, (ev g k n l a).2 ∧ (ev g k n l b).2 ∧ (cmpV g op (ev g k n l a).1 (ev g k n l b).1).2 ∧ behindInMarks op b = false) := rfl
theorem evT_ife : evT g k (n + 1) l (.IfExp t a b p) = if (evT g k n l t).1 then ((evT g k n l a).1, (evT g k n l t).2 ∧ (evT g k n l a).2) else ((evT g k n l b).1, (evT g k n l t).2 ∧ (evT g k n l b).2) := rfl
theorem evAnd_cons : evAnd g k (n + 1) l (e :: r) = if (evT g k n l e).1 then ((evAnd g k n l r).1, (evT g k n l e).2 ∧ (evAnd g k n l r).2) else (false, (evT g k n l e).2) := rfl
theorem evOr_cons : evOr g k (n + 1) l (e :: r) = if (evT g k n l e).1 then (true, (evT g k n l e).2) else ((evOr g k n l r).1, (evT g k n l e).2 ∧ (evOr g k n l r).2) := rfl
theorem evs_cons (he : ∀ x p, e ≠ .Starred x p) : evs g k (n + 1) l (e :: r) = ((ev g k n l e).1 :: (evs g k n l r).1, (ev g k n l e).2 ∧ (evs g k n l r).2) := by
  cases e <;> first | rfl | exact absurd rfl (he _ _)
theorem evI_range {f : Str} : evI g k (n + 1) l (.Call (.Name f q) es [] p) = if f = ("range" : Str) then ((rangeOf (evs g k n l es).1).1, (evs g k n l es).2 ∧ (rangeOf (evs g k n l es).1).2 ∧ l.at f = none ∧ kindOk k f = true) else ([], False) := rfl
theorem evI_nameX {x : Str} : evI g k (n + 1) l (.Name x p) = ((itemsV (ev g k n l (.Name x p)).1).1, (ev g k n l (.Name x p)).2 ∧ (itemsV (ev g k n l (.Name x p)).1).2) := rfl
end
/-! statements -/
section
variable {g : Cfg} {k : Kd} {n : Nat} {l : Ls} {e i t : Expr} {p q u : Pos} {x y : Str} {b c : List Stmt} {s : Stmt}
theorem ex_ret : ex g k (n + 1) l (.Return (some e) p) = (.ret (ev g k n l e).1, l, (ev g k n l e).2) := rfl
theorem ex_asg : ex g k (n + 1) l (.Assign [.Name x q] e p) = if isNew e then (.next, l.put x ⟨(ev g k n l.clean e).1, true⟩, (ev g k n l.clean e).2 ∧ k x = some .local ∧ nameOk x = true ∧ onlyOwn l x = true)
      else (.next, l.put x ⟨(evS g k n l e).1, false⟩, (evS g k n l e).2 ∧ storable k x = true) := rfl
theorem ex_asg2 : ex g k (n + 1) l (.Assign [.Name x q, .Name y u] e p) = (.next, (l.put x ⟨(ev g k n l e).1, false⟩).put y ⟨(ev g k n l e).1, false⟩, (ev g k n l e).2 ∧ isAtom (ev g k n l e).1 = true ∧ storable k x = true ∧ storable k y = true) := rfl
theorem ex_tup0 {tp : Pos} {j : Nat} : ex g k (n + 1) l (.Assign [.Tuple [.Name x q, .Name y u] j tp] e p) = tupW k l x y e (ev g k n l e) := rfl
theorem ex_set0 {tp : Pos} : ex g k (n + 1) l (.Assign [.Subscript (.Name x q) i tp] e p) = setW l x (ev g k n l e) (ev g k n l i) := rfl
theorem ex_aug0 {op : Operator} : ex g k (n + 1) l (.AugAssign (.Name x q) op e p) = (.next, l.put x ⟨(binV op (ev g k (n + 1) l (.Name x q)).1 (ev g k n l e).1).1, false⟩, (l.at x).isSome = true ∧ (ev g k n l e).2 ∧ (binV op (ev g k (n + 1) l (.Name x q)).1 (ev g k n l e).1).2 ∧ augOk op (ev g k (n + 1) l (.Name x q)).1 (ev g k n l e).1 = true ∧ storable k x = true) := rfl
theorem ex_if0 : ex g k (n + 1) l (.If t b c p) = if (evT g k n l t).1 then ((exs g k n l b).1, (exs g k n l b).2.1, (evT g k n l t).2 ∧ (exs g k n l b).2.2) else ((exs g k n l c).1, (exs g k n l c).2.1, (evT g k n l t).2 ∧ (exs g k n l c).2.2) := rfl
theorem ex_while0 : ex g k (n + 1) l (.While t b [] p) = whileV (fun l => evT g k n l t) (fun l => exs g k n l b) 100000 l := rfl
theorem ex_for0 : ex g k (n + 1) l (.For (.Name x q) e b [] p) =
      ((loopV (fun l v => ((exs g k n (l.put x ⟨v, false⟩) b).1, (exs g k n (l.put x ⟨v, false⟩) b).2.1, (exs g k n (l.put x ⟨v, false⟩) b).2.2 ∧ isAtom v = true)) l (evI g k n l.clean e).1).1,
       (loopV (fun l v => ((exs g k n (l.put x ⟨v, false⟩) b).1, (exs g k n (l.put x ⟨v, false⟩) b).2.1, (exs g k n (l.put x ⟨v, false⟩) b).2.2 ∧ isAtom v = true)) l (evI g k n l.clean e).1).2.1,
       (evI g k n l.clean e).2 ∧ (loopV (fun l v => ((exs g k n (l.put x ⟨v, false⟩) b).1, (exs g k n (l.put x ⟨v, false⟩) b).2.1, (exs g k n (l.put x ⟨v, false⟩) b).2.2 ∧ isAtom v = true)) l (evI g k n l.clean e).1).2.2 ∧ storable k x = true) := rfl
theorem exs_cons : exs g k (n + 1) l (s :: b) = thenW (ex g k n l s) fun l' => exs g k n l' b := rfl
theorem loopV_cons {f : Ls → V → Fl × Ls × Prop} {v : V} {r : List V} : loopV f l (v :: r) = thenW (f l v) fun l' => loopV f l' r := rfl
theorem whileV_succ {w : Ls → W Bool} {f : Ls → Fl × Ls × Prop} : whileV w f (n + 1) l = if (w l).1 then ((thenW (f l) fun l' => whileV w f n l').1, (thenW (f l) fun l' => whileV w f n l').2.1, (w l).2 ∧ (thenW (f l) fun l' => whileV w f n l').2.2) else (.next, l, (w l).2) := rfl
end
end Mine
namespace Mine
open PySem PySem.W PyProof.Rows PySem.Calls

theorem filterMap_range {α : Type} (xs : List α) : ∀ (k a : Nat), ((List.range k).map fun j => a + j).filterMap (fun i => xs[i]?) = (xs.drop a).take k
  | 0, a => by simp
  | k + 1, a => by
    rw [List.range_succ, List.map_append, List.filterMap_append, filterMap_range xs k a]
    by_cases h : a + k < xs.length
    · rw [List.take_succ]; simp [h]
    · have e : xs[a + k]? = none := List.getElem?_eq_none (by omega)
      rw [List.take_succ]; simp [e]
theorem sliceRange_one (a b : Nat) : sliceRange a b 1 = (List.range (b - a)).map fun j => a + j := by
  unfold sliceRange
  simp only [show (1 : Int) > 0 from by decide, if_true]
  by_cases h : (a : Int) < b
  · rw [if_pos h]
    have : ((b : Int) - a + 1 - 1) / 1 = ((b - a : Nat) : Int) := by rw [Int.ediv_one]; omega
    rw [this]
    simp only [Int.toNat_natCast]
    apply List.map_congr_left
    intro k _
    omega
  · rw [if_neg h]
    have : b - a = 0 := by omega
    rw [this]; rfl
/-- what a part of a slice is -/
noncomputable def partV : V → Option (Option Int)
  | .none => some none
  | .int i => some (some i)
  | _ => none
theorem clip_is {n : Nat} {i : Int} : max (0 : Int) (min (if i < 0 then i + (n : Int) else i) n) = ((if i < 0 then (i + n).toNat else min i.toNat n : Nat) : Int) := by
  by_cases hi : i < 0
  · rw [if_pos hi, if_pos hi]; omega
  · rw [if_neg hi, if_neg hi]; omega
theorem clip_lo {n : Nat} {v : V} {o : Option Int} (h : partV v = some o) : (match o with | none => (0 : Int) | some i => max 0 (min (if i < 0 then i + (n : Int) else i) n)) = ((clip n 0 v).1 : Int) ∧ (clip n 0 v).2 := by
  cases v <;> simp only [partV] at h <;> first | cases h | (obtain rfl := Option.some.inj h; clear h)
  · exact ⟨rfl, trivial⟩
  · rename_i i
    exact ⟨clip_is, trivial⟩
theorem clip_hi {n : Nat} {v : V} {o : Option Int} (h : partV v = some o) : (match o with | none => (n : Int) | some i => max 0 (min (if i < 0 then i + (n : Int) else i) n)) = ((clip n n v).1 : Int) ∧ (clip n n v).2 := by
  cases v <;> simp only [partV] at h <;> first | cases h | (obtain rfl := Option.some.inj h; clear h)
  · exact ⟨rfl, trivial⟩
  · rename_i i
    exact ⟨clip_is, trivial⟩
theorem clip_part {n d : Nat} {v : V} (h : (clip n d v).2) : ∃ o, partV v = some o := by
  cases v <;> first | exact ⟨_, rfl⟩ | exact h.elim
theorem indices_one {n : Nat} {lo hi : V} {l h : Option Int} (el : partV lo = some l) (eh : partV hi = some h) :
    Builtin.Str.strSliceIndices l h 1 n = (List.range ((clip n n hi).1 - (clip n 0 lo).1)).map fun j => (clip n 0 lo).1 + j := by
  rw [← sliceRange_one, ← (clip_lo (n := n) el).1, ← (clip_hi (n := n) eh).1]
  unfold Builtin.Str.strSliceIndices
  cases l <;> cases h <;> rfl
theorem bounds_one {n : Nat} {lo hi : V} {l h : Option Int} (el : partV lo = some l) (eh : partV hi = some h) :
    sliceRange (sliceBounds l h none n).1 (sliceBounds l h none n).2.1 (sliceBounds l h none n).2.2 = (List.range ((clip n n hi).1 - (clip n 0 lo).1)).map fun j => (clip n 0 lo).1 + j := by
  rw [← sliceRange_one, ← (clip_lo (n := n) el).1, ← (clip_hi (n := n) eh).1]
  unfold sliceBounds
  cases l <;> cases h <;> rfl
theorem drop_take' {α : Type} (xs : List α) (a b : Nat) : (xs.drop a).take (b - a) = (xs.take b).drop a := by
  rw [List.drop_take]
end Mine
namespace Mine
open PySem PySem.W PyProof.Rows PySem.Calls
section
variable {prog : Program} {w : World} {A : Around} {s : Shared} {mu : List Addr}

theorem flat_rep {α : Type} (x : α) : ∀ n, (List.replicate n [x]).flatten = List.replicate n x
  | 0 => rfl
  | n + 1 => by rw [List.replicate_succ, List.flatten_cons, flat_rep x n]; rfl
theorem reps_rep {P : Params} {h : Heap} {v : V} {wv : Value} (r : Rep P mu h v wv) : ∀ n, Reps P mu h (List.replicate n v) (List.replicate n wv)
  | 0 => by simp [Reps]
  | n + 1 => by rw [List.replicate_succ, List.replicate_succ]; unfold Reps; exact ⟨_, _, rfl, r, reps_rep r n⟩

theorem list_mul_ok {k n : Int} {wa wb : Value} (hn : n ≤ 100 ∧ -100 ≤ n) (ra : Rep w.params mu s.heap (.list [.int k]) wa) (rb : Rep w.params mu s.heap (.int n) wb) (l : Live mu s.heap) :
    Tr prog w A (binaryOp .Mult wa wb) s (fun v h => Rep w.params mu h (.list (List.replicate n.toNat (.int k))) v) := by
  unfold Rep at ra rb
  obtain ⟨a, ws, rfl, ha, la, ra⟩ := ra
  obtain ⟨u, rfl⟩ := rb
  unfold Reps at ra
  obtain ⟨x, ws', rfl, rx, rn⟩ := ra
  unfold Reps at rn
  subst rn
  obtain ⟨⟨cls, d, data, sl⟩, g1, e1, n1, q1⟩ := la
  simp only at e1 q1
  subst e1 q1
  have hsz' : [x].toArray.size * n.toNat ≤ 256 := by simp; omega
  refine Tr.of fun R kk => ?_
  refine wpAny_binaryOp_repeat_ref (T := "list") (U := "int") (by decide) ⟨_, g1, rfl⟩ (fun s' => typeIs_int s' n u) noFill_list_mul F.fills_int_mul F.slot_int_rmul repeat_list F.slot_int_index.lookup
    (call_meets F.slot_int_rmul (typeIs_int s n u) F.entry_int_rmul (F.args_int_rmul_2 _ _) (lm_int_rmul_list_any n u a [x].toArray n1 d sl)
      ⟨g1, rfl, ⟨_, g1, rfl⟩, call_meets F.slot_list_mul ⟨_, g1, rfl⟩ F.entry_list_mul (F.args_list_mul_2 _ _)
        (lm_list_mul_any a [x].toArray n1 d sl n u (by simp [Builtin.List.listFitsIndex]; omega) (by omega) (by simp [Builtin.List.listTooLong, sizeLine]; omega))
        ⟨g1, ?_⟩⟩)
  rw [listMul_foldl_if, flat_rep]
  refine kk _ _ _ keepAll_push ?_
  unfold Rep
  exact ⟨_, _, rfl, l.fresh, ⟨_, get_push (by intro e; cases e), rfl, 0, rfl⟩, reps_rep (rx.all keepAll_push) _⟩

theorem binV_ok {op : Operator} {a b : V} {wa wb : Value} (h : (binV op a b).2) (ra : Rep w.params mu s.heap a wa) (rb : Rep w.params mu s.heap b wb) (l : Live mu s.heap) :
    Tr prog w A (binaryOp op wa wb) s (fun v h => Rep w.params mu h (binV op a b).1 v) := by
  cases op
  case Add =>
    cases a
    case int x => cases b; case int y => exact add_i ra rb
                  all_goals exact h.elim
    case str x => cases b; case str y => exact add_s h ra rb
                  all_goals exact h.elim
    case list x => cases b; case list y => exact add_l h ra rb l
                   all_goals exact h.elim
    case bytes x => cases b; case bytes y => exact add_b h ra rb
                    all_goals exact h.elim
    all_goals exact h.elim
  case Sub =>
    cases a
    case int x => cases b; case int y => exact sub_i ra rb
                  all_goals exact h.elim
    all_goals exact h.elim
  case Mult =>
    cases a
    case int x => cases b; case int y => exact mul_i h ra rb
                  all_goals exact h.elim
    case str x => cases b; case int y => exact mul_s h ra rb
                  all_goals exact h.elim
    case list xs =>
      rcases xs with _ | ⟨x, _ | ⟨y, r⟩⟩
      · exact h.elim
      · cases x
        case int k => cases b; case int n => exact list_mul_ok h ra rb l
                      all_goals exact h.elim
        all_goals exact h.elim
      · cases x <;> exact h.elim
    all_goals exact h.elim
  case FloorDiv =>
    cases a
    case int x => cases b; case int y => exact div_i h ra rb
                  all_goals exact h.elim
    all_goals exact h.elim
  case Mod =>
    cases a
    case int x => cases b; case int y => exact mod_i h ra rb
                  all_goals exact h.elim
    all_goals exact h.elim
  case Pow =>
    cases a
    case int x => cases b; case int y => exact pow_i h ra rb
                  all_goals exact h.elim
    all_goals exact h.elim
  all_goals exact h.elim
theorem truV_ok {a : V} {wa : Value} (h : (truV a).2) (ra : Rep w.params mu s.heap a wa) : Tr prog w A (truthy wa) s (fun v _ => v = (truV a).1) := by
  cases a
  case none => exact tr_n ra
  case bool => exact tr_b ra
  case int => exact tr_i ra
  case str => exact tr_s h ra
  all_goals exact h.elim
theorem ints_areV {P : Params} {h : Heap} : ∀ {xs : List V} {ws : List Value}, (intsV xs).2 → Reps P mu h xs ws → IntsAre ws (intsV xs).1
  | [], ws, e, r => by
    unfold Reps at r; subst r; exact .nil
  | x :: xs, ws, e, r => by
    unfold Reps at r
    obtain ⟨w', ws', rfl, r1, rs⟩ := r
    cases x
    case int i =>
      unfold Rep at r1
      obtain ⟨t, rfl⟩ := r1
      exact .cons _ _ (ints_areV (xs := xs) e rs)
    all_goals exact e.elim
/-- the reads of the sets of ints -/
noncomputable def MemOk (prog : Program) (w : World) (hb : Heap) (g : Cfg) : Prop :=
  ∀ (A : Around) (s : Shared) (wv : Value) (i : Int) (t : Tok), KeepAll hb s.heap → (g.mem wv i).2 → Tr prog w A (compareOp .In (.int i t) wv) s (fun v _ => v = .bool (g.mem wv i).1)
theorem cmpV_ok {hb : Heap} {g : Cfg} (G : MemOk prog w hb g) (kb : KeepAll hb s.heap) {op : CmpOp} {a b : V} {wa wb : Value} (h : (cmpV g op a b).2) (ra : Rep w.params mu s.heap a wa) (rb : Rep w.params mu s.heap b wb) (hu : A.units + 64 < cLine) :
    Tr prog w A (compareOp op wa wb) s (fun v _ => v = .bool (cmpV g op a b).1) := by
  cases op
  case Eq =>
    cases a
    case int x => cases b; case int y => exact eq_i ra rb
                  all_goals exact h.elim
    case str x => cases b; case str y => exact eq_s ra rb
                  all_goals exact h.elim
    case list x =>
      cases b
      case list y =>
        unfold Rep at ra rb; obtain ⟨a, ws, rfl, ha, la, ra⟩ := ra; obtain ⟨b, us, rfl, hb, lb, rb⟩ := rb
        exact Tr.of fun R k => ke_eq_ints la lb (ints_areV h.1 ra) (ints_areV h.2 rb) hu (k _ _ s.toks same_heap rfl)
      all_goals exact h.elim
    all_goals exact h.elim
  case NotEq =>
    cases a
    case int x => cases b; case int y => exact ne_i ra rb
                  all_goals exact h.elim
    case str x => cases b; case str y => exact ne_s ra rb
                  all_goals exact h.elim
    all_goals exact h.elim
  case Lt =>
    cases a
    case int x => cases b; case int y => exact lt_i ra rb
                  all_goals exact h.elim
    all_goals exact h.elim
  case LtE =>
    cases a
    case int x => cases b; case int y => exact le_i ra rb
                  all_goals exact h.elim
    all_goals exact h.elim
  case Gt =>
    cases a
    case int x => cases b; case int y => exact gt_i ra rb
                  all_goals exact h.elim
    all_goals exact h.elim
  case GtE =>
    cases a
    case int x => cases b; case int y => exact ge_i ra rb
                  all_goals exact h.elim
    all_goals exact h.elim
  case IsNot =>
    cases a
    case none => cases b; case none => exact isnot_nn ra rb
                 all_goals exact h.elim
    case str x => cases b; case none => exact isnot_sn ra rb
                  all_goals exact h.elim
    all_goals exact h.elim
  case In =>
    cases a
    case int x =>
      cases b
      case val v =>
        unfold Rep at ra rb
        obtain ⟨t, rfl⟩ := ra
        subst rb
        exact G A s _ _ t kb h
      all_goals exact h.elim
    all_goals exact h.elim
  all_goals exact h.elim
end
end Mine
namespace Mine
open PySem PySem.W PyProof.Rows PySem.Calls
section
variable {prog : Program} {w : World} {A : Around} {s : Shared} {mu : List Addr}

theorem subscripted_any (slice : Expr) (o i : Value) : ∃ ops, subscripted slice false o i = operate ops (getItem o i) := by
  cases slice with
  | Slice lo hi st p => cases st <;> exact ⟨_, rfl⟩
  | _ => exact ⟨_, rfl⟩
theorem tr_tail {value slice : Expr} {o i : Value} {T id : String} {Q : Value → Heap → Prop} (hT : s.TypeIs o T) (hl : typeLookup (.type T) "__getitem__" = pure (some (.builtin id)))
    (h : Tr prog w A (getItem o i) s Q) : Tr prog w A (subscriptTail value slice o i) s Q :=
  let ⟨_, e⟩ := subscripted_any slice o i
  Tr.of fun R k => tail_any hT hl (h.use k) e
theorem seqAt_get {α : Type} {d : α} {xs : List α} {i : Int} (h : (seqAt d xs i).2) : xs[(if i < 0 then i + xs.length else i).toNat]? = some (seqAt d xs i).1 := by
  obtain ⟨h1, h2, _⟩ := h
  have hk : (if i < 0 then i + xs.length else i).toNat < xs.length := by split <;> omega
  show _ = some (xs.getD _ d)
  rw [List.getD_eq_getElem?_getD, List.getElem?_eq_getElem hk]; rfl
theorem itemV_ok {value slice : Expr} {o i : V} {wo wi : Value} (h : (itemV o i).2) (ro : Rep w.params mu s.heap o wo) (ri : Rep w.params mu s.heap i wi) :
    Tr prog w A (subscriptTail value slice wo wi) s (fun v h => Rep w.params mu h (itemV o i).1 v) := by
  unfold itemV at h ⊢
  split at h <;> (try simp only at h ⊢)
  · rename_i xs k
    unfold Rep at ro ri
    obtain ⟨a, ws, rfl, ha, la, ra⟩ := ro
    obtain ⟨t, rfl⟩ := ri
    obtain ⟨v, e, rv⟩ := ra.get (seqAt_get h)
    have hlen := ra.length
    obtain ⟨h1, h2, h3⟩ := h
    unfold lenLid at h3
    refine tr_tail la.typeIs slot_list_getitem.lookup (Tr.of fun R kk => ?_)
    by_cases hk : k < 0
    · rw [if_pos hk] at e
      refine wpAny_getItem_list_neg la hk (by simp; omega) (by omega) ?_ (kk v s.heap s.toks (fun _ _ e => e) rv)
      simp only [List.size_toArray, hlen, List.getElem?_toArray]; exact e
    · rw [if_neg hk] at e
      refine wpAny_getItem_list la (by omega) (by omega) ?_ (kk v s.heap s.toks (fun _ _ e => e) rv)
      simp only [List.getElem?_toArray]; exact e
  · rename_i xs k
    have e := seqAt_get h
    obtain ⟨h1, h2, h3⟩ := h
    unfold lenLid at h3
    unfold Rep at ro ri
    obtain ⟨t, rfl⟩ := ro
    obtain ⟨u, rfl⟩ := ri
    refine tr_tail (typeIs_str _ _ _) F.slot_str_getitem.lookup (Tr.of fun R kk => ?_)
    refine PySem.P.getItem_str (c := (seqAt 0 xs k).1) (by simp; omega) ?_ (kk _ s.heap (s.toks + 1) (fun _ _ e => e) (by unfold Rep; exact ⟨_, rfl⟩))
    unfold seqIndex?
    simp only [Str.length, List.size_toArray]
    rw [if_pos (by simp only [Bool.and_eq_true, decide_eq_true_eq]; split <;> omega)]
    simp only [Option.bind_some, List.getElem?_toArray]; exact e

theorem part_rep {v : V} {wv : Value} {o : Option Int} (h : partV v = some o) (r : Rep w.params mu s.heap v wv) : IsPart wv o ∧ ∃ p : Option (Int × Tok), wv = partValue p ∧ p.map (·.1) = o := by
  cases v <;> simp only [partV] at h <;> first | cases h | (obtain rfl := Option.some.inj h; clear h)
  · unfold Rep at r; subst r; exact ⟨.none, none, rfl, rfl⟩
  · unfold Rep at r; obtain ⟨t, rfl⟩ := r; exact ⟨.int _ _, some (_, t), rfl, rfl⟩
theorem reps_pick {h : Heap} {P : Params} {vs : List V} {ws : List Value} (r : Reps P mu h vs ws) : ∀ (is : List Nat), Reps P mu h (is.filterMap fun i => vs[i]?) (is.filterMap fun i => ws[i]?)
  | [] => by simp [Reps]
  | i :: is => by
    rw [List.filterMap_cons, List.filterMap_cons]
    cases e : vs[i]? with
    | none =>
      have : ws[i]? = none := by
        rw [List.getElem?_eq_none_iff] at e ⊢; rw [r.length]; exact e
      rw [this]; exact reps_pick r is
    | some v =>
      obtain ⟨x, ex, rx⟩ := r.get e
      rw [ex]
      show Reps P mu h (v :: _) (x :: _)
      unfold Reps
      exact ⟨_, _, rfl, rx, reps_pick r is⟩
theorem clip_le (n : Nat) (v : V) : (clip n n v).1 ≤ n := by
  unfold clip
  split <;> simp only
  · exact Nat.le_refl _
  · split <;> omega
  · exact Nat.zero_le _
theorem sizeLine_is : sizeLine = 16777216 := rfl
/-- a slice of a plain value, with the slice laid -/
theorem cutV_ok {value slice : Expr} {o lo hi st : V} {wo wl wh wt : Value} {sl : Addr} (h : (cutV o lo hi st).2) (ro : Rep w.params mu s.heap o wo) (rl : Rep w.params mu s.heap lo wl) (rh : Rep w.params mu s.heap hi wh) (rt : Rep w.params mu s.heap st wt)
    (hs : s.heap.get? sl = some { cls := .type "slice", data := .fields #[wl, wh, wt] }) (l : Live mu s.heap) :
    Tr prog w A (subscriptTail value slice wo (.ref sl)) s (fun v h => Rep w.params mu h (cutV o lo hi st).1 v) := by
  unfold cutV at h ⊢
  split at h <;> (try simp only at h ⊢)
  · rename_i xs
    obtain ⟨h1, h2, h3⟩ := h
    unfold lenLid at h3
    obtain ⟨eo, e1⟩ := clip_part h1
    obtain ⟨ei, e2⟩ := clip_part h2
    obtain ⟨_, p1, rfl, q1⟩ := part_rep e2 rl
    obtain ⟨_, p2, rfl, q2⟩ := part_rep e1 rh
    unfold Rep at ro rt
    obtain ⟨t, rfl⟩ := ro
    subst rt
    refine tr_tail (typeIs_str _ _ _) F.slot_str_getitem.lookup (Tr.of fun R kk => ?_)
    refine wpAny_getItem_str_slice (l := p1) (u := p2) (st := none) ⟨_, hs, rfl, rfl⟩ rfl ?_
    have ep : slicePicked ⟨xs.toArray⟩ p1 p2 none = (List.range ((clip xs.length xs.length hi).1 - (clip xs.length 0 lo).1)).map fun j => (clip xs.length 0 lo).1 + j := by
      unfold slicePicked
      rw [q1, q2]
      simp only [Str.length, List.size_toArray]
      exact indices_one e2 e1
    have ec : List.filterMap (fun i => (Str.cps ⟨xs.toArray⟩)[i]?) (slicePicked ⟨xs.toArray⟩ p1 p2 none) = (xs.take (clip xs.length xs.length hi).1).drop (clip xs.length 0 lo).1 := by
      rw [ep]
      simp only [List.getElem?_toArray]
      rw [filterMap_range, drop_take']
    unfold sliceMade
    rw [ec, ep]
    simp only [List.length_map, List.length_range, Str.length, List.size_toArray]
    split
    · rename_i hw
      have hw : (clip xs.length xs.length hi).1 - (clip xs.length 0 lo).1 = xs.length := by
        simp only [Bool.and_eq_true, beq_iff_eq] at hw; exact hw.2
      refine kk _ s.heap s.toks (fun _ _ e => e) ?_
      unfold Rep
      refine ⟨t, ?_⟩
      have hc := clip_le xs.length hi
      by_cases hz : xs.length = 0
      · have : xs = [] := List.length_eq_zero_iff.mp hz
        subst this; simp
      · have a0 : (clip xs.length 0 lo).1 = 0 := by omega
        have b0 : (clip xs.length xs.length hi).1 = xs.length := by omega
        rw [a0, b0]; simp
    · unfold Made.post
      refine ⟨by simp [Str.length, sizeLine_is]; omega, kk _ s.heap (s.toks + 1) (fun _ _ e => e) ?_⟩
      unfold Rep
      exact ⟨_, rfl⟩
  · rename_i xs
    obtain ⟨h1, h2, h3⟩ := h
    unfold lenLid at h3
    obtain ⟨eo, e1⟩ := clip_part h1
    obtain ⟨ei, e2⟩ := clip_part h2
    obtain ⟨i1, p1, rfl, q1⟩ := part_rep e2 rl
    obtain ⟨i2, p2, rfl, q2⟩ := part_rep e1 rh
    unfold Rep at ro rt
    obtain ⟨t, rfl⟩ := ro
    subst rt
    refine tr_tail (typeIs_bytes _ _ _) FB.slot_bytes_getitem.lookup (Tr.of fun R kk => ?_)
    have ec : KBy.picked xs.toArray ei eo = ((xs.take (clip xs.length xs.length hi).1).drop (clip xs.length 0 lo).1).toArray := by
      unfold KBy.picked Builtin.Bytes.sliced
      simp only [List.size_toArray, List.getElem?_toArray]
      rw [bounds_one e2 e1, filterMap_range, drop_take']
    refine getItem_meets (typeIs_bytes _ _ _) (by decide) FB.slot_bytes_getitem FB.entry_bytes_getitem (FB.args_bytes_getitem_2 _ _) (KBc.meets_slice2 xs.toArray t sl i1 i2)
      ⟨⟨_, hs, rfl, rfl⟩, ?_, fun t' k => ?_⟩
    · rw [ec]; simp [sizeLine_is]; omega
    · rw [ec]; exact kk _ s.heap k (fun _ _ e => e) (by unfold Rep; exact ⟨_, rfl⟩)
  · rename_i xs
    obtain ⟨h1, h2, h3⟩ := h
    unfold lenLid at h3
    obtain ⟨eo, e1⟩ := clip_part h1
    obtain ⟨ei, e2⟩ := clip_part h2
    obtain ⟨i1, p1, rfl, q1⟩ := part_rep e2 rl
    obtain ⟨i2, p2, rfl, q2⟩ := part_rep e1 rh
    unfold Rep at ro rt
    obtain ⟨a, ws, rfl, ha, la, ra⟩ := ro
    subst rt
    have hlen := ra.length
    refine tr_tail la.typeIs slot_list_getitem.lookup (Tr.of fun R kk => ?_)
    refine wpAny_getItem_list_slice la ⟨_, hs, rfl, rfl⟩ i1 i2 .none (by intro e; cases e) ?_ (by simp [sizeLine_is]; omega)
    have ec : slicePick ws.toArray ei eo none = ((ws.take (clip xs.length xs.length hi).1).drop (clip xs.length 0 lo).1).toArray := by
      unfold slicePick
      simp only [List.size_toArray, List.getElem?_toArray, hlen]
      rw [bounds_one e2 e1, filterMap_range, drop_take']
    rw [ec]
    refine kk _ _ s.toks keepAll_push ?_
    unfold Rep
    exact ⟨_, _, rfl, l.fresh, ⟨_, get_push (by intro e; cases e), rfl, 0, rfl⟩, ((ra.all keepAll_push).take _).drop _⟩
  · rename_i xs k
    split at h <;> (try simp only at h ⊢)
    · rename_i i
      obtain ⟨h1, h3⟩ := h
      unfold lenLid at h3
      unfold Rep at ro rt rl rh
      obtain ⟨a, ws, rfl, ha, la, ra⟩ := ro
      obtain ⟨t1, rfl⟩ := rt
      obtain ⟨t2, rfl⟩ := rl
      subst rh
      have hlen := ra.length
      refine tr_tail la.typeIs slot_list_getitem.lookup (Tr.of fun R kk => ?_)
      refine wpAny_getItem_list_slice la ⟨_, hs, rfl, rfl⟩ (.int _ _) .none (.int _ _) (by simpa using h1) ?_ (by simp [sizeLine_is]; omega)
      have ec : slicePick ws.toArray (some i) none (some k) = ((sliceRange (sliceBounds (some i) none (some k) xs.length).1 (sliceBounds (some i) none (some k) xs.length).2.1 (sliceBounds (some i) none (some k) xs.length).2.2).filterMap fun i => ws[i]?).toArray := by
        unfold slicePick
        simp only [List.size_toArray, List.getElem?_toArray, hlen]
      rw [ec]
      refine kk _ _ s.toks keepAll_push ?_
      unfold Rep
      exact ⟨_, _, rfl, l.fresh, ⟨_, get_push (by intro e; cases e), rfl, 0, rfl⟩, reps_pick (ra.all keepAll_push) _⟩
end
end Mine
namespace Mine
open PySem PySem.W PyProof.Rows PySem.Calls
section
variable {prog : Program} {w : World} {A : Around} {s : Shared} {mu : List Addr} {P : Params} {h : Heap}

theorem strs_areV : ∀ {xs : List V} {ws : List Value}, (strsV xs).2 → Reps P mu h xs ws → StrsAre ws ((strsV xs).1.map fun x => ⟨x.toArray⟩)
  | [], ws, e, r => by
    unfold Reps at r; subst r; exact .nil
  | x :: xs, ws, e, r => by
    unfold Reps at r
    obtain ⟨w', ws', rfl, r1, rs⟩ := r
    cases x <;> simp only [strsV] at e
    unfold Rep at r1
    obtain ⟨t, rfl⟩ := r1
    exact .cons _ _ (strs_areV e rs)
theorem intsAre_at : ∀ {ws : List Value} {ns : List Int} {i : Nat} {v : Value}, IntsAre ws ns → ws[i]? = some v → ∃ t, v = .int (ns.getD i 0) t
  | _, _, i, v, .nil, e => by simp at e
  | _, _, i, v, .cons n t r, e => by
    cases i with
    | zero => simp at e; subst e; exact ⟨t, rfl⟩
    | succ i => simp at e; obtain ⟨u, e⟩ := intsAre_at r e; exact ⟨u, by simpa using e⟩
theorem intsAre_length : ∀ {ws : List Value} {ns : List Int}, IntsAre ws ns → ws.length = ns.length
  | _, _, .nil => rfl
  | _, _, .cons n t r => by simp [intsAre_length r]
theorem preSum_succ (val : Nat → Int) (n : Nat) : preSum val (n + 1) = preSum val n + val n := rfl
theorem preSum_list (ns : List Int) : ∀ n, preSum (fun i => ns.getD i 0) n = (ns.take n).sum
  | 0 => rfl
  | n + 1 => by
    rw [preSum_succ, preSum_list ns n, List.take_add_one, List.sum_append]
    by_cases h : n < ns.length
    · simp [List.getD_eq_getElem?_getD, h]
    · simp [List.getD_eq_getElem?_getD, h]
theorem sum_ok {a : Addr} {ws : List Value} {ns : List Int} (hh : A.handled = none) (la : s.heap.IsList a ws.toArray) (hi : IntsAre ws ns) : Tr prog w A (call (.builtin "sum") [.ref a]) s (fun v h => Rep w.params mu h (.int ns.sum) v) := by
  refine Tr.of fun R kk => call_sum_walkG ?_
  refine wpAny_pyIter_list la ?_
  have hne : a ≠ s.heap.objs.size := by
    obtain ⟨o, g, _⟩ := la
    exact Nat.ne_of_lt (Heap.lt_size g)
  have hp := get_push (h := s.heap) (c := .type "list_iterator") (d := none) (dt := .fields #[.ref a, .int 0 0]) (sl := #[]) (by intro e; cases e)
  refine ⟨_, _, _, _, _, _, fun i => ns.getD i 0, rfl, Walks.list (by exact hh) _ _ hne ws.toArray, ⟨⟨_, hp, rfl, rfl⟩, isList_keep la (fun o => keepAll_push _ o)⟩, ?_, ?_, ?_⟩
  · intro b hb
    have ha : a < s.heap.objs.size := by
      obtain ⟨o, g, _⟩ := la
      exact Heap.lt_size g
    rcases List.mem_cons.mp hb with rfl | hb
    · exact Heap.lt_size hp
    · rcases List.mem_cons.mp hb with rfl | hb
      · show _ < (s.heap.push _).objs.size
        rw [Heap.size_push]; exact Nat.lt_succ_of_lt ha
      · cases hb
  · intro i v hv
    have hv : ws[i]? = some v := by simpa using hv
    exact intsAre_at hi hv
  · intro h' tk t' k
    refine kk _ h' tk (fun b o e => k b o ?_ (keepAll_push b o e)) ?_
    · intro hb
      rcases List.mem_singleton.mp hb with rfl
      exact absurd (Heap.lt_size e) (Nat.lt_irrefl _)
    · unfold Rep
      refine ⟨t', ?_⟩
      rw [preSum_list, List.size_toArray, intsAre_length hi, List.take_length]

/-- a builtin of the names that we know -/
noncomputable def bltFn (f : Str) : Value := (bootBuiltins f).getD .none
theorem reps_nil {ws : List Value} (r : Reps P mu h [] ws) : ws = [] := by unfold Reps at r; exact r
theorem reps_cons {x : V} {xs : List V} {ws : List Value} (r : Reps P mu h (x :: xs) ws) : ∃ v vs, ws = v :: vs ∧ Rep P mu h x v ∧ Reps P mu h xs vs := by unfold Reps at r; exact r

/-- a test by the first argument alone -/
theorem args1 {f : Str} {args : List V} (hx : (bltV f args).2) (hf : f = ("len" : Str) ∨ f = ("ord" : Str) ∨ f = ("chr" : Str) ∨ f = ("abs" : Str) ∨ f = ("int" : Str) ∨ f = ("sum" : Str)) : ∃ a, args = [a] := by
  cases args with
  | nil => rcases hf with rfl | rfl | rfl | rfl | rfl | rfl <;> exact False.elim hx
  | cons a q => cases q with
    | nil => exact ⟨a, rfl⟩
    | cons b q => rcases hf with rfl | rfl | rfl | rfl | rfl | rfl <;> cases a <;> first | exact False.elim hx | (rename_i x; cases x <;> first | exact False.elim hx | (rename_i x; cases x <;> exact False.elim hx))
theorem args2 {f : Str} {args : List V} (hx : (bltV f args).2) (hf : f = ("divmod" : Str) ∨ f = ("min" : Str)) : ∃ a b, args = [.int a, .int b] := by
  cases args with
  | nil => rcases hf with rfl | rfl <;> exact False.elim hx
  | cons a q => cases a with
    | int a => cases q with
      | nil => rcases hf with rfl | rfl <;> exact False.elim hx
      | cons b q => cases b with
        | int b => cases q with
          | nil => exact ⟨a, b, rfl⟩
          | cons _ _ => rcases hf with rfl | rfl <;> exact False.elim hx
        | _ => rcases hf with rfl | rfl <;> exact False.elim hx
    | _ => rcases hf with rfl | rfl <;> exact False.elim hx
theorem int1 {f : Str} {a : V} (hx : (bltV f [a]).2) (hf : f = ("chr" : Str) ∨ f = ("abs" : Str) ∨ f = ("int" : Str)) : ∃ i, a = .int i := by
  cases a with
  | int i => exact ⟨i, rfl⟩
  | _ => rcases hf with rfl | rfl | rfl <;> exact False.elim hx
theorem bltV_ok {f : Str} {args : List V} {ws : List Value} (hf : isBlt f = true) (hx : (bltV f args).2) (r : Reps w.params mu s.heap args ws) (l : Live mu s.heap) (hh : A.handled = none) :
    Tr prog w A (call (bltFn f) ws) s (fun v h => Rep w.params mu h (bltV f args).1 v) := by
  have hmem : f ∈ [("len" : Str), "ord", "chr", "abs", "int", "divmod", "min", "sum"] := List.contains_iff_mem.mp hf
  simp only [List.mem_cons, List.not_mem_nil, or_false] at hmem
  rcases hmem with rfl | rfl | rfl | rfl | rfl | rfl | rfl | rfl
  · rw [show bltFn ("len" : Str) = .builtin "len" from by decide +kernel]
    obtain ⟨a, rfl⟩ := args1 hx (.inl rfl)
    obtain ⟨v, vs, rfl, r1, r2⟩ := reps_cons r
    cases reps_nil r2
    cases a with
    | str x =>
      unfold Rep at r1
      obtain ⟨t, rfl⟩ := r1
      have hx : x.length ≤ 100000 := hx
      show Tr prog w A _ s (fun v h => Rep w.params mu h (.int x.length) v)
      refine Tr.of fun R kk => SBL.len (by simp [Str.length]; omega) (kk _ s.heap _ (fun _ _ e => e) (by unfold Rep; exact ⟨_, by simp [Str.length]; rfl⟩))
    | list x =>
      unfold Rep at r1
      obtain ⟨a, ws, rfl, ha, la, ra⟩ := r1
      have hx : x.length ≤ 100000 := hx
      have hlen := ra.length
      show Tr prog w A _ s (fun v h => Rep w.params mu h (.int x.length) v)
      refine Tr.of fun R kk => len_list la (by simp; omega) (kk _ s.heap _ (fun _ _ e => e) (by unfold Rep; exact ⟨_, by simp [hlen]; rfl⟩))
    | _ => exact False.elim hx
  · rw [show bltFn ("ord" : Str) = .builtin "ord" from by decide +kernel]
    obtain ⟨a, rfl⟩ := args1 hx (.inr (.inl rfl))
    obtain ⟨v, vs, rfl, r1, r2⟩ := reps_cons r
    cases reps_nil r2
    cases a with
    | str x => cases x with
      | nil => exact False.elim hx
      | cons c x => cases x with
        | nil =>
          unfold Rep at r1
          obtain ⟨t, rfl⟩ := r1
          show Tr prog w A _ s (fun v h => Rep w.params mu h (.int c) v)
          exact Tr.of fun R kk => P.ord_of_char (kk _ s.heap _ (fun _ _ e => e) (by unfold Rep; exact ⟨_, rfl⟩))
        | cons _ _ => exact False.elim hx
    | _ => exact False.elim hx
  · rw [show bltFn ("chr" : Str) = .builtin "chr" from by decide +kernel]
    obtain ⟨a, rfl⟩ := args1 hx (.inr (.inr (.inl rfl)))
    obtain ⟨v, vs, rfl, r1, r2⟩ := reps_cons r
    cases reps_nil r2
    obtain ⟨i, rfl⟩ := int1 hx (.inl rfl)
    unfold Rep at r1
    obtain ⟨t, rfl⟩ := r1
    have hx : 0 ≤ i ∧ i ≤ 1114111 := hx
    show Tr prog w A _ s (fun v h => Rep w.params mu h (.str [i.toNat]) v)
    exact Tr.of fun R kk => chr_of_range hx.1 hx.2 (kk _ s.heap _ (fun _ _ e => e) (by unfold Rep; exact ⟨_, rfl⟩))
  · rw [show bltFn ("abs" : Str) = .builtin "abs" from by decide +kernel]
    obtain ⟨a, rfl⟩ := args1 hx (.inr (.inr (.inr (.inl rfl))))
    obtain ⟨v, vs, rfl, r1, r2⟩ := reps_cons r
    cases reps_nil r2
    obtain ⟨i, rfl⟩ := int1 hx (.inr (.inl rfl))
    unfold Rep at r1
    obtain ⟨t, rfl⟩ := r1
    show Tr prog w A _ s (fun v h => Rep w.params mu h (.int (if i < 0 then -i else i)) v)
    exact Tr.of fun R kk => call_abs_int fun u tk => kk _ s.heap tk (fun _ _ e => e) (by unfold Rep; exact ⟨_, rfl⟩)
  · rw [show bltFn ("int" : Str) = .type "int" from by decide +kernel]
    obtain ⟨a, rfl⟩ := args1 hx (.inr (.inr (.inr (.inr (.inl rfl)))))
    obtain ⟨v, vs, rfl, r1, r2⟩ := reps_cons r
    cases reps_nil r2
    obtain ⟨i, rfl⟩ := int1 hx (.inr (.inr rfl))
    unfold Rep at r1
    obtain ⟨t, rfl⟩ := r1
    show Tr prog w A _ s (fun v h => Rep w.params mu h (.int i) v)
    exact Tr.of fun R kk => call_int_int (kk _ s.heap s.toks (fun _ _ e => e) (by unfold Rep; exact ⟨_, rfl⟩))
  · rw [show bltFn ("divmod" : Str) = .builtin "divmod" from by decide +kernel]
    obtain ⟨i, j, rfl⟩ := args2 hx (.inl rfl)
    obtain ⟨v, vs, rfl, r1, r2⟩ := reps_cons r
    obtain ⟨v2, vs2, rfl, r3, r4⟩ := reps_cons r2
    cases reps_nil r4
    unfold Rep at r1 r3
    obtain ⟨t, rfl⟩ := r1
    obtain ⟨t2, rfl⟩ := r3
    have hx : j ≠ 0 ∧ j.natAbs < 1073741824 := hx
    show Tr prog w A _ s (fun v h => Rep w.params mu h (.tup [.int (i.fdiv j), .int (i.fmod j)]) v)
    refine Tr.of fun R kk => divmod_int hx.1 (kk _ _ _ keepAll_push ?_) (.inl (PyProof.noPylong_small (by omega)))
    unfold Rep
    refine ⟨_, [_, _], rfl, l.fresh, ⟨_, get_push (by intro e; cases e), rfl, 0, rfl⟩, ?_⟩
    unfold Reps
    refine ⟨_, _, rfl, by unfold Rep; exact ⟨_, rfl⟩, ?_⟩
    unfold Reps
    refine ⟨_, _, rfl, by unfold Rep; exact ⟨_, rfl⟩, ?_⟩
    unfold Reps
    rfl
  · rw [show bltFn ("min" : Str) = .builtin "min" from by decide +kernel]
    obtain ⟨i, j, rfl⟩ := args2 hx (.inr rfl)
    obtain ⟨v, vs, rfl, r1, r2⟩ := reps_cons r
    obtain ⟨v2, vs2, rfl, r3, r4⟩ := reps_cons r2
    cases reps_nil r4
    unfold Rep at r1 r3
    obtain ⟨t, rfl⟩ := r1
    obtain ⟨t2, rfl⟩ := r3
    show Tr prog w A _ s (fun v h => Rep w.params mu h (.int (if j < i then j else i)) v)
    refine Tr.of fun R kk => min_two_ints hh fun h' tk k => kk _ h' tk k ?_
    unfold Rep
    split <;> exact ⟨_, rfl⟩
  · rw [show bltFn ("sum" : Str) = .builtin "sum" from by decide +kernel]
    obtain ⟨a, rfl⟩ := args1 hx (.inr (.inr (.inr (.inr (.inr rfl)))))
    obtain ⟨v, vs, rfl, r1, r2⟩ := reps_cons r
    cases reps_nil r2
    cases a with
    | list xs =>
      unfold Rep at r1
      obtain ⟨a, ws, rfl, ha, la, ra⟩ := r1
      exact sum_ok hh la (ints_areV hx ra)
    | _ => exact False.elim hx
end
end Mine
namespace Mine
open PySem PySem.W PyProof.Rows PySem.Calls PySem.Builtin
theorem args_decode_2 (a b : Value) : argsOk "bytes.decode" ⟨[a, b], []⟩ := by
  unfold argsOk; rw [signature?_of (id := "bytes.decode") (n := ['e', 'd', 'o', 'c', 'e', 'd']) (o := ['s', 'e', 't', 'y', 'b']) (by kernel_rfl) FB.owner_bytes]; kernel_rfl
section
variable {c : UInt8} {cs : List UInt8} {b : Array UInt8} {t u : Tok}
theorem road_ascii {id : String} : _codecs.decodeRoad id b (PySem.Str.ofString "ascii") none [] = (_codecs.runDecoder id _codecs.asciiDecoder none true b 0 [] >>= fun r => mkStr ⟨r.1⟩) := by kernel_rfl
theorem entry_ascii : «bytes.decode» ⟨[.bytes (c :: cs).toArray t, .str (PySem.Str.ofString "ascii") u], []⟩ = (mkStr (PySem.Str.ofString "utf-8") >>= fun _ => mkStr (PySem.Str.ofString "ascii") >>= fun e => mkStr (PySem.Str.ofString "bytes.decode") >>= fun d =>
    call (.builtin "_codecs.decode.text") [.bytes (c :: cs).toArray t, e, .none, d] >>= fun v => ret v) := by kernel_rfl
theorem entry_nil : «bytes.decode» ⟨[.bytes #[] t, .str (PySem.Str.ofString "ascii") u], []⟩ = (rule "bytes.decode.empty" >>= fun _ => PySem.retStr PySem.Str.empty) := by kernel_rfl
theorem forIn_run {σ : Type} (f : Nat → σ → Sem (ForInStep σ)) (g : Nat → σ) (n : Nat) : ∀ (l : List Nat) (k : Nat), k + l.length = n → (∀ x j, j < n → f x (g j) = pure (.yield (g (j + 1)))) → forIn l (g k) f = (pure (g n) : Sem σ)
  | [], k, e, _ => by
    simp at e; subst e; rfl
  | x :: l, k, e, h => by
    simp at e
    rw [List.forIn_cons, h x k (by omega)]
    exact forIn_run f g n l (k + 1) (by omega) h
theorem run_ascii {id : String} (bs : List UInt8) (hb : ∀ c ∈ bs, c.toNat < 128) (hl : bs.length ≤ lenLid) : _codecs.runDecoder id _codecs.asciiDecoder none true bs.toArray 0 [] = pure ((bs.map (·.toNat)).toArray, bs.length) := by
  unfold lenLid at hl
  unfold _codecs.runDecoder
  simp only [Std.Legacy.Range.forIn_eq_forIn_range']
  have key := fun f h => forIn_run (σ := Nat × Array Nat × _codecs.Faults) f (fun j => (j, ((bs.take j).map (·.toNat)).toArray, {})) bs.length (List.range' 0 bs.length) 0 (by simp) h
  have sz : Std.Legacy.Range.size [:bs.toArray.size] = bs.length := by simp [Std.Legacy.Range.size]
  rw [sz]
  refine (congrArg (fun (m : Sem (Nat × Array Nat × _codecs.Faults)) => m >>= fun s => (pure (s.2.1, s.1) : Sem (Array Nat × Nat))) (key _ ?_)).trans ?_
  · intro x j hj
    dsimp only
    rw [if_neg (by simp [sizeLine_is]; omega), if_neg (by simp; omega)]
    have hc : bs[j].toNat < 128 := hb _ (List.getElem_mem hj)
    have hf : _codecs.asciiDecoder.find true bs.toArray j = _codecs.Found.text [bs[j].toNat] (j + 1) := by
      unfold _codecs.asciiDecoder
      dsimp only
      have : (bs.toArray.getD j 0) = bs[j] := by simp [hj]
      rw [this, if_pos hc]; rfl
    rw [hf]
    dsimp only
    have : (List.map (fun x => x.toNat) (List.take (j + 1) bs)) = (List.map (fun x => x.toNat) (List.take j bs)) ++ [bs[j].toNat] := by
      rw [List.take_add_one, List.map_append]; congr 1; simp [hj]
    rw [this]
    simp
  · rw [List.take_length]; rfl
theorem meets_text {id : PySem.Str} {t1 t2 : Tok} (bs : List UInt8) (hb : ∀ c ∈ bs, c.toNat < 128) (hl : bs.length ≤ lenLid) :
    Meets («_codecs.decode.text» ⟨[.bytes bs.toArray t, .str (PySem.Str.ofString "ascii") t1, .none, .str id t2], []⟩) (fun _ R s => R (.ok (.ret (.str ⟨(bs.map (·.toNat)).toArray⟩ s.toks))) { s with toks := s.toks + 1 }) := by
  refine .of_wp fun prog w A R s h => ?_
  show wpAny _ _ (Bytes.bytesLike _ (.bytes bs.toArray t) >>= fun r => _) _ _ s
  refine wpAny_bind (wpAny_of_eq KBd.like_eq ?_)
  refine wpAny_bind (wpAny_of_eq KBd.held_eq ?_)
  show wpAny _ _ (_codecs.decodeRoad _ bs.toArray (PySem.Str.ofString "ascii") none [] >>= fun v => _) _ _ s
  rw [road_ascii, run_ascii bs hb hl]
  refine wpAny_bind (wpAny_bind (wpAny_pure ?_))
  refine wpAny_mkStr (wpAny_pure ⟨_, rfl, h⟩) ?_
  simp [PySem.Str.length, sizeLine_is]; unfold lenLid at hl; omega
theorem meets_decode (bs : List UInt8) (hb : ∀ c ∈ bs, c.toNat < 128) (hl : bs.length ≤ lenLid) :
    Meets («bytes.decode» ⟨[.bytes bs.toArray t, .str (PySem.Str.ofString "ascii") u], []⟩) (fun _ R s => ∀ t' k, R (.ok (.ret (.str ⟨(bs.map (·.toNat)).toArray⟩ t'))) { s with toks := k }) := by
  refine .of_wp fun prog w A R s h => ?_
  cases bs with
  | nil =>
    rw [entry_nil]
    refine wpAny_bind (wpAny_rule ?_)
    unfold PySem.retStr
    exact wpAny_bind (wpAny_mkStr (wpAny_pure ⟨_, rfl, h _ _⟩) (by decide))
  | cons c cs =>
    rw [entry_ascii]
    refine wpAny_bind (wpAny_mkStr ?_ (by decide))
    refine wpAny_bind (wpAny_mkStr ?_ (by decide))
    refine wpAny_bind (wpAny_mkStr ?_ (by decide))
    exact wpAny_bind (call_function_meets KBd.kind_text KBd.plain_text KBd.entry_text (KBd.args_text _ _ _ _) (meets_text (c :: cs) hb hl) (wpAny_pure ⟨_, rfl, h _ _⟩))
end
section
variable {prog : Program} {w : World} {A : Around} {s : Shared} {mu : List Addr}
theorem decode_ok {bs : List UInt8} {t u : Tok} (hb : ∀ c ∈ bs, c.toNat < 128) (hl : bs.length ≤ lenLid) :
    Tr prog w A (call (.builtin "bytes.decode") [.bytes bs.toArray t, .str (PySem.Str.ofString "ascii") u]) s (fun v h => Rep w.params mu h (.str (bs.map (·.toNat))) v) :=
  Tr.of fun R kk => call_meets FB.slot_bytes_decode (typeIs_bytes _ _ _) FB.entry_bytes_decode (args_decode_2 _ _) (meets_decode bs hb hl) fun t' k => kk _ s.heap k (fun _ _ e => e) (by unfold Rep; exact ⟨_, rfl⟩)
end
end Mine
namespace Mine
open PySem PySem.W PyProof.Rows PySem.Calls

/-- a name stands for a value -/
noncomputable def Rd (env : Env) (h : Heap) (x : Str) (wv : Value) : Prop :=
  (env.kindOf x = some .local ∧ ∃ m, h.Ns env.locals m ∧ m x = some wv) ∨
  ((env.kindOf x = some .cell ∨ env.kindOf x = some .free) ∧ ∃ c, env.cells.lookup x = some c ∧ h.IsCell c (some wv))
theorem Rd.keep {env : Env} {h h' : Heap} {x : Str} {wv : Value} (r : Rd env h x wv) (k : KeepAll h h') : Rd env h' x wv :=
  r.imp (fun ⟨e, m, n, v⟩ => ⟨e, m, n.keeps k, v⟩) fun ⟨e, c, l, o, g, d⟩ => ⟨e, c, l, o, k _ _ g, d⟩

structure Fm (P : Params) (mu : List Addr) (env : Env) (h : Heap) (l : Ls) : Prop where
  kind : env.scope.kind = .function
  glob : env.globals = mainGlobals
  blt : env.builtins = builtinsNs
  read : ∀ x v, l.at x = some v → nameOk x = true ∧ ∃ wv, Rd env h x wv ∧ Rep P mu h v wv
theorem Fm.keep {P : Params} {mu : List Addr} {env : Env} {h h' : Heap} {l : Ls} (F : Fm P mu env h l) (k : KeepAll h h') : Fm P mu env h' l :=
  ⟨F.kind, F.glob, F.blt, fun x v e => let ⟨n, wv, r, p⟩ := F.read x v e; ⟨n, wv, r.keep k, p.all k⟩⟩

structure Rm (A : Around) (d : Nat) : Prop where
  handled : A.handled = none
  depth : A.depth + d < recursionLimit
  units : A.units + 4 * d + 64 < cLine

noncomputable def GetOk (prog : Program) (w : World) (hb : Heap) (g : Cfg) : Prop :=
  ∀ (A : Around) (s : Shared) (wv : Value) (i : Int) (t : Tok), KeepAll hb s.heap → (g.get wv i).2 →
    (∃ a ob, wv = .ref a ∧ s.heap.get? a = some ob ∧ ob.cls = .type "dict" ∧ ob.dict = none) ∧
    Tr prog w A (call (.builtin "dict.get") [wv, .int i t]) s (fun v h => ∀ mu, Rep w.params mu h (g.get wv i).1 v)
noncomputable def FnOk (prog : Program) (w : World) (hb : Heap) (mg : Str → Option Value) (g : Cfg) (d : Nat) : Prop :=
  ∀ (f : Str) (args : List V), (g.fn f args).2 → ∃ a o fd, mg f = some (.ref a) ∧ hb.get? a = some o ∧ o.data = .func fd ∧
    ∀ (A : Around) (s : Shared) (mu : List Addr) (ws : List Value), KeepAll hb s.heap → Rm A d → Live mu s.heap → Reps w.params mu s.heap args ws →
      Tr prog w A (call (.ref a) ws) s (fun v h => Rep w.params mu h (g.fn f args).1 v)
structure Base (prog : Program) (w : World) (hb : Heap) (mg mb : Str → Option Value) (g : Cfg) (d : Nat) : Prop where
  gns : hb.Ns mainGlobals mg
  bns : hb.Ns builtinsNs mb
  boot : ∀ x : Str, x ≠ "__name__" → mb x = bootBuiltins x
  gl : ∀ x v, g.gl x = some v → ∃ wv, mg x = some wv ∧ ((∃ i t, v = .int i ∧ wv = .int i t) ∨ v = .val wv)
  nob : ∀ x, (isBlt x = true ∨ x = ("list" : Str) ∨ x = ("range" : Str)) → mg x = none
  mem : MemOk prog w hb g
  get : GetOk prog w hb g
  fn : FnOk prog w hb mg g d

section
variable {prog : Program} {w : World} {A : Around} {s : Shared} {mu : List Addr} {hb : Heap} {mg mb : Str → Option Value} {g : Cfg} {d : Nat} {env : Env} {l : Ls}

theorem nameOk_debug {x : Str} (h : nameOk x = true) : (x == ("__debug__" : Str)) = false := by
  unfold nameOk at h; simp only [Bool.and_eq_true, Bool.not_eq_true'] at h; exact h.1.1
theorem nameOk_dict {x : Str} (h : nameOk x = true) : (x == ("__classdict__" : Str)) = false := by
  unfold nameOk at h; simp only [Bool.and_eq_true, Bool.not_eq_true'] at h; exact h.1.2
theorem tr_load {x : Str} {wv : Value} {Q : Value → Heap → Prop} (hk : env.scope.kind = .function) (hn : nameOk x = true) (r : Rd env s.heap x wv) (q : Q wv s.heap) : Tr prog w A (loadName env x) s Q := by
  refine Tr.of fun R k => ?_
  rcases r with ⟨e, m, n, v⟩ | ⟨e | e, c, cl, ic⟩
  · exact wpAny_loadName_local hk e n v (k _ s.heap s.toks (fun _ _ e => e) q)
  · exact wpAny_loadName_cell hk e cl ic (k _ s.heap s.toks (fun _ _ e => e) q)
  · exact wpAny_loadName_free hk e cl ic (k _ s.heap s.toks (fun _ _ e => e) q) (nameOk_dict hn)
theorem tr_name {x : Str} {p : Pos} {wv : Value} {Q : Value → Heap → Prop} (hk : env.scope.kind = .function) (hn : nameOk x = true) (r : Rd env s.heap x wv) (q : Q wv s.heap) : Tr prog w A (eval (.Name x p) env) s Q :=
  Tr.of fun R k => wpAny_Name ((tr_load hk hn r q).use k) (nameOk_debug hn)
theorem kindOk_is {k : Kd} {x : Str} (h : kindOk k x = true) : k x = some .globalImplicit ∧ (x == ("__debug__" : Str)) = false := by
  unfold kindOk at h; simp only [Bool.and_eq_true, Bool.not_eq_true', beq_iff_eq] at h; exact h
theorem tr_global {x : Str} {p : Pos} {wv : Value} {Q : Value → Heap → Prop} (B : Base prog w hb mg mb g d) (kb : KeepAll hb s.heap) (F : Fm w.params mu env s.heap l) (hk : kindOk env.kindOf x = true) (hv : mg x = some wv) (q : Q wv s.heap) :
    Tr prog w A (eval (.Name x p) env) s Q :=
  Tr.of fun R k => Name_function_global F.kind (kindOk_is hk).1 (loadGlobal_global (by rw [F.glob]; exact B.gns.keeps kb) hv (k _ s.heap s.toks (fun _ _ e => e) q)) (kindOk_is hk).2
theorem tr_builtin {x : Str} {p : Pos} {wv : Value} {Q : Value → Heap → Prop} (B : Base prog w hb mg mb g d) (kb : KeepAll hb s.heap) (F : Fm w.params mu env s.heap l) (hk : kindOk env.kindOf x = true) (hv : mg x = none) (hn : x ≠ "__name__") (hx : bootBuiltins x = some wv) (q : Q wv s.heap) :
    Tr prog w A (eval (.Name x p) env) s Q :=
  Tr.of fun R k => Name_function_global F.kind (kindOk_is hk).1 (loadGlobal_builtin (by rw [F.glob]; exact B.gns.keeps kb) hv (by rw [F.blt]; exact B.bns.keeps kb) ((B.boot x hn).trans hx) (k _ s.heap s.toks (fun _ _ e => e) q)) (kindOk_is hk).2
theorem evalArgs_of {f : Value} {args : List (Bool × Sem Value)} {E : Value → Shared → Prop} {Q : Args → Shared → Prop} (hp : ∀ a ∈ args, a.1 = false) (h : wpAny (model prog w) A (spliced args) (fun vs s' => Q ⟨vs, []⟩ s') E s) :
    wpAny (model prog w) A (evalArgs f true args []) Q E s := by
  cases args with
  | nil =>
    unfold evalArgs
    show wpAny (model prog w) A (pure (⟨[], []⟩ : Args)) Q E s
    exact fun Γ p hΓ => h Γ p hΓ
  | cons a r =>
    obtain ⟨b, x⟩ := a
    obtain rfl : b = false := hp (b, x) (.head _)
    exact evalArgs_plain h
end
end Mine
namespace Mine
open PySem PySem.W PyProof.Rows PySem.Calls
theorem KeepAll.trans {a b c : Heap} (x : KeepAll a b) (y : KeepAll b c) : KeepAll a c := fun p o e => y p o (x p o e)
section
variable (prog : Program) (w : World) (hb : Heap) (mg mb : Str → Option Value) (g : Cfg) (d : Nat)

/-- the state in which an expression is evaluated -/
structure At (mu : List Addr) (A : Around) (s : Shared) (env : Env) (l : Ls) : Prop where
  fm : Fm w.params mu env s.heap l
  live : Live mu s.heap
  base : KeepAll hb s.heap
  room : Rm A d
variable {prog w hb mg mb g d}
theorem At.go {mu : List Addr} {A : Around} {s : Shared} {env : Env} {l : Ls} (X : At w hb d mu A s env l) {h' : Heap} {tk : Nat} (k : KeepAll s.heap h') : At w hb d mu A { s with heap := h', toks := tk } env l :=
  ⟨X.fm.keep k, X.live.keep k, X.base.trans k, X.room⟩
variable (prog w hb mg mb g d)

/-- what a loop may go over -/
noncomputable def ItOf (mu : List Addr) (h : Heap) (vs : List V) (xv : Value) : Prop :=
  ∀ (A : Around) (s : Shared) (Q : Value → Shared → Prop) (E : Value → Shared → Prop), A.handled = none → KeepAll h s.heap →
    (∀ o fp Pd St tk, Walks prog w A s.heap.objs.size fp [s.heap.objs.size] vs.length Pd St → St 0 (s.heap.push o) → (∀ i h, St i h → ∃ o, h.get? s.heap.objs.size = some o ∧ o.cls ≠ .type "list") →
      (∀ b ∈ fp, b = s.heap.objs.size ∨ ((∃ o, h.get? b = some o) ∧ b ∉ mu)) →
      (∀ i v, i < vs.length → Pd i v → ∃ u, vs[i]? = some u ∧ Rep w.params mu h u v) →
      Q (.ref s.heap.objs.size) { s with heap := s.heap.push o, toks := tk }) →
    wpAny (model prog w) A (pyIter xv) Q E s

structure Snd (n : Nat) : Prop where
  ev : ∀ {env l e mu s A}, At w hb d mu A s env l → (ev g env.kindOf n l e).2 → Tr prog w A (eval e env) s (fun v h => Rep w.params mu h (ev g env.kindOf n l e).1 v)
  evT : ∀ {env l e mu s A}, At w hb d mu A s env l → (evT g env.kindOf n l e).2 → Tr prog w A (isTrue e env (eval e env)) s (fun v h => v = (evT g env.kindOf n l e).1)
  evAnd : ∀ {env l es mu s A}, At w hb d mu A s env l → (evAnd g env.kindOf n l es).2 → Tr prog w A (allTrue .And es env) s (fun v h => v = (evAnd g env.kindOf n l es).1)
  evOr : ∀ {env l es mu s A}, At w hb d mu A s env l → (evOr g env.kindOf n l es).2 → Tr prog w A (allTrue .Or es env) s (fun v h => v = (evOr g env.kindOf n l es).1)
  evO : ∀ {env l e mu s A}, At w hb d mu A s env l → (evO g env.kindOf n l e).2 → Tr prog w A (evalPart e env) s (fun v h => Rep w.params mu h (evO g env.kindOf n l e).1 v)
  evs : ∀ {env l es mu s A pos}, At w hb d mu A s env l → (evs g env.kindOf n l es).2 → (∀ a ∈ backTo pos (starEach es env), a.1 = false) ∧ Tr prog w A (spliced (backTo pos (starEach es env))) s (fun v h => Reps w.params mu h (evs g env.kindOf n l es).1 v)
  evI : ∀ {env l e mu s A}, At w hb d mu A s env l → (evI g env.kindOf n l e).2 → (∀ x, foldedSetIterable e env x = pure x) ∧ Tr prog w A (eval e env) s (fun v h => ItOf prog w mu h (evI g env.kindOf n l e).1 v)
variable {prog w hb mg mb g d}
variable {n : Nat} {env : Env} {l : Ls} {mu : List Addr} {s : Shared} {A : Around}

theorem snd_zero : Snd prog w hb g d 0 :=
  ⟨fun _ h => h.elim, fun _ h => h.elim, fun _ h => h.elim, fun _ h => h.elim, fun _ h => h.elim, fun _ h => h.elim, fun _ h => h.elim⟩

theorem snd_And (S : Snd prog w hb g d n) {es : List Expr} (X : At w hb d mu A s env l) (h : (evAnd g env.kindOf (n + 1) l es).2) :
    Tr prog w A (allTrue .And es env) s (fun v _ => v = (evAnd g env.kindOf (n + 1) l es).1) := by
  cases es with
  | nil => exact Tr.of fun R k => wpAny_allTrue_And_nil (k _ s.heap s.toks (fun _ _ e => e) rfl)
  | cons e r =>
    rw [evAnd_cons] at h ⊢
    refine Tr.of fun R k => wpAny_allTrue_And_cons ?_
    split at h
    · rename_i ht
      refine (S.evT X h.1).use fun b h' tk kk q => ?_
      subst q
      rw [if_pos ht] at k ⊢
      exact (S.evAnd (X.go kk) h.2).use fun b h'' tk' kk' q => k _ _ _ (kk.trans kk') q
    · rename_i ht
      refine (S.evT X h).use fun b h' tk kk q => ?_
      subst q
      rw [if_neg ht] at k ⊢
      exact k _ _ _ kk rfl
theorem snd_Or (S : Snd prog w hb g d n) {es : List Expr} (X : At w hb d mu A s env l) (h : (evOr g env.kindOf (n + 1) l es).2) :
    Tr prog w A (allTrue .Or es env) s (fun v _ => v = (evOr g env.kindOf (n + 1) l es).1) := by
  cases es with
  | nil => exact Tr.of fun R k => fun Γ p hΓ => k _ s.heap s.toks (fun _ _ e => e) rfl
  | cons e r =>
    rw [evOr_cons] at h ⊢
    refine Tr.of fun R k => wpAny_allTrue_Or_cons ?_
    split at h
    · rename_i ht
      refine (S.evT X h).use fun b h' tk kk q => ?_
      subst q
      rw [if_pos ht] at k ⊢
      exact k _ _ _ kk rfl
    · rename_i ht
      refine (S.evT X h.1).use fun b h' tk kk q => ?_
      subst q
      rw [if_neg ht] at k ⊢
      exact (S.evOr (X.go kk) h.2).use fun b h'' tk' kk' q => k _ _ _ (kk.trans kk') q
theorem snd_O (S : Snd prog w hb g d n) {e : Option Expr} (X : At w hb d mu A s env l) (h : (evO g env.kindOf (n + 1) l e).2) :
    Tr prog w A (evalPart e env) s (fun v h => Rep w.params mu h (evO g env.kindOf (n + 1) l e).1 v) := by
  cases e with
  | none => exact Tr.pure (by show Rep _ _ _ V.none _; unfold Rep; rfl)
  | some e => exact S.ev X h
theorem snd_Tv (S : Snd prog w hb g d n) {e : Expr} (X : At w hb d mu A s env l) (he : evT g env.kindOf (n + 1) l e = ((truV (ev g env.kindOf n l e).1).1, (ev g env.kindOf n l e).2 ∧ (truV (ev g env.kindOf n l e).1).2)) (hi : isTrue e env (eval e env) = (do let v ← eval e env; standAt e.pos; holding [v] (truthy v))) (h : (evT g env.kindOf (n + 1) l e).2) :
    Tr prog w A (isTrue e env (eval e env)) s (fun v _ => v = (evT g env.kindOf (n + 1) l e).1) := by
  rw [he] at h ⊢
  exact Tr.of fun R k => wpAny_isTrue_value ((S.ev X h.1).use fun v h' tk kk r => (truV_ok (s := { s with heap := h', toks := tk }) h.2 r).use fun c h'' tk' kk' e => k _ _ _ (kk.trans kk') e) hi
theorem snd_T (B : Base prog w hb mg mb g d) (S : Snd prog w hb g d n) {e : Expr} (X : At w hb d mu A s env l) (h : (evT g env.kindOf (n + 1) l e).2) :
    Tr prog w A (isTrue e env (eval e env)) s (fun v _ => v = (evT g env.kindOf (n + 1) l e).1) := by
  cases e with
  | UnaryOp op a p =>
    cases op with
    | Not => exact Tr.of fun R k => wpAny_isTrue_Not ((S.evT X (e := a) h).use fun b h' tk kk q => k _ _ _ kk (by rw [q]; rfl))
    | _ => exact snd_Tv S X rfl rfl h
  | BoolOp op es p =>
    cases op with
    | And => exact Tr.of fun R k => wpAny_isTrue_BoolOp ((S.evAnd X (es := es) h).use k)
    | Or => exact Tr.of fun R k => wpAny_isTrue_BoolOp ((S.evOr X (es := es) h).use k)
  | Compare a ops bs p =>
    rcases ops with _ | ⟨op, _ | ⟨o2, r⟩⟩
    · exact h.elim
    · rcases bs with _ | ⟨b, _ | ⟨b2, r⟩⟩
      · exact h.elim
      · rw [evT_cmp] at h ⊢
        refine Tr.of fun R k => wpAny_isTrue_Compare1 ((S.ev X h.1).use fun a h1 t1 k1 ra => (S.ev (X.go k1) h.2.1).use fun b h2 t2 k2 rb => ?_) h.2.2.2
        refine (cmpV_ok (w := w) (s := { s with heap := h2, toks := t2 }) (g := g) B.mem (X.base.trans (k1.trans k2)) h.2.2.1 (ra.all k2) rb (by have := X.room.units; omega)).use fun c h3 t3 k3 e => ?_
        subst e
        exact wpAny_truthy_bool (k _ h3 t3 (k1.trans (k2.trans k3)) rfl)
      · exact h.elim
    · exact h.elim
  | IfExp t a b p =>
    rw [evT_ife] at h ⊢
    refine Tr.of fun R k => isTrue_IfExp ?_
    split at h
    · rename_i ht
      refine (S.evT X h.1).use fun b h' tk kk q => ?_
      subst q
      simp only [ht, if_true] at k ⊢
      exact (S.evT (X.go kk) h.2).use fun b h'' tk' kk' q => k _ _ _ (kk.trans kk') q
    · rename_i ht
      refine (S.evT X h.1).use fun b h' tk kk q => ?_
      subst q
      simp only [ht] at k ⊢
      exact (S.evT (X.go kk) h.2).use fun b h'' tk' kk' q => k _ _ _ (kk.trans kk') q
  | _ => exact snd_Tv S X rfl rfl h
end
end Mine
namespace Mine
open PySem PySem.W PyProof.Rows PySem.Calls
section
variable {prog : Program} {w : World} {hb : Heap} {mg mb : Str → Option Value} {g : Cfg} {d : Nat}
variable {n : Nat} {env : Env} {l : Ls} {mu : List Addr} {s : Shared} {A : Around}

theorem starEach_plain {e : Expr} {r : List Expr} (h : ∀ x p, e ≠ .Starred x p) : starEach (e :: r) env = (false, eval e env) :: starEach r env := by
  cases e <;> first | rfl | exact absurd rfl (h _ _)
theorem snd_s (S : Snd prog w hb g d n) {es : List Expr} {pos : Pos} (X : At w hb d mu A s env l) (h : (evs g env.kindOf (n + 1) l es).2) :
    (∀ a ∈ backTo pos (starEach es env), a.1 = false) ∧ Tr prog w A (spliced (backTo pos (starEach es env))) s (fun v h => Reps w.params mu h (evs g env.kindOf (n + 1) l es).1 v) := by
  cases es with
  | nil => exact ⟨fun a ha => (by cases ha), Tr.pure (by show Reps _ _ _ [] _; unfold Reps; rfl)⟩
  | cons e r =>
    have hne : ∀ x p, e ≠ .Starred x p := fun x p q => by subst q; exact h.elim
    rw [evs_cons hne] at h ⊢
    have he : starEach (e :: r) env = (false, eval e env) :: starEach r env := starEach_plain hne
    have hb' : backTo pos (starEach (e :: r) env) = (false, eval e env) :: backTo pos (starEach r env) := by rw [he]; rfl
    rw [hb']
    refine ⟨fun a ha => ?_, Tr.of fun R k => spliced_cons ((S.ev X h.1).use fun v h' tk kk rv => (S.evs (pos := pos) (X.go kk) h.2).2.use fun vs h'' tk' kk' rvs => k _ _ _ (kk.trans kk') ?_)⟩
    · rcases List.mem_cons.mp ha with rfl | ha
      · rfl
      · exact (S.evs (pos := pos) X h.2).1 a ha
    · show Reps _ _ _ (_ :: _) _
      unfold Reps
      exact ⟨_, _, rfl, rv.all kk', rvs⟩

/-- a call of a value that the machine calls, by its place -/
theorem tr_callWith {fv : Value} {args : List (Bool × Sem Value)} {pos : Pos} {Q : Value → Heap → Prop} {P : List Value → Heap → Prop} (hfv : (∃ id, fv = .builtin id) ∨ ∃ T, fv = .type T) (hp : ∀ a ∈ args, a.1 = false) (first : List Value)
    (h : Tr prog w A (spliced args) s P) (hc : ∀ vs h' tk, KeepAll s.heap h' → P vs h' → Tr prog w A (call fv (first ++ vs)) { s with heap := h', toks := tk } Q) : Tr prog w A (callWith pos fv first args []) s Q := by
  have hp' : args.any (·.1) = false := by
    rw [Bool.eq_false_iff]; intro q
    obtain ⟨a, ha, e⟩ := List.any_eq_true.mp q
    rw [hp a ha] at e; cases e
  refine Tr.of fun R k => ?_
  have go : ∀ vs h' tk, KeepAll s.heap h' → P vs h' → wpAny (model prog w) A (call fv (first ++ vs)) R (fun _ _ => False) { s with heap := h', toks := tk } :=
    fun vs h' tk kk p => (hc vs h' tk kk p).use fun v h'' tk' kk' q => k _ _ _ (kk.trans kk') q
  rcases hfv with ⟨id, rfl⟩ | ⟨T, rfl⟩
  · exact callWith_builtin hp' (evalArgs_of hp (h.use go))
  · exact PySem.callWith_type hp' (evalArgs_of hp (h.use go))
theorem tr_call_name {f : Str} {p pos : Pos} {args : List Expr} {Q : Value → Heap → Prop} {t : Value → Sem Value} (h : Tr prog w A (eval (.Name f p) env) s (fun v h' => ∀ tk, Tr prog w A (callWith pos v [] (backTo pos (starEach args env)) []) { s with heap := h', toks := tk } Q)) :
    Tr prog w A (eval (.Call (.Name f p) args [] pos) env) s Q := by
  rw [arm_eval_Call_Name']
  refine Tr.of fun R k => wpAny_bind (h.use fun v h' tk kk q => ?_)
  exact (q tk).use fun v h'' tk' kk' q' => k _ _ _ (kk.trans kk') q'

theorem rangeUp_length (c : Int) : ∀ (n : Nat) (a : Int), (rangeUp a c n).length = n
  | 0, a => rfl
  | n + 1, a => by simp [rangeUp, rangeUp_length c n]
theorem rangeUp_get (c : Int) : ∀ (n : Nat) (a : Int) (i : Nat), i < n → (rangeUp a c n)[i]? = some (a + i * c)
  | 0, a, i, h => by omega
  | n + 1, a, 0, h => by simp [rangeUp]
  | n + 1, a, i + 1, h => by
    simp only [rangeUp, List.getElem?_cons_succ]
    rw [rangeUp_get c n (a + c) i (by omega)]
    congr 1
    have : ((i + 1 : Nat) : Int) * c = i * c + c := by rw [Int.natCast_add, Int.add_mul]; simp
    rw [this]; omega
theorem rangeSize_is {a b c : Int} (hc : 0 < c) : Builtin.Range.rangeSize a b c = (((b - a + c - 1).fdiv c).toNat : Int) := by
  unfold Builtin.Range.rangeSize
  rw [if_pos (by omega), Int.fdiv_eq_ediv_of_nonneg _ (by omega)]
  split
  · rename_i h
    have e : (b - a + c - 1) = (b - a - 1) + c * 1 := by omega
    rw [e, Int.add_mul_ediv_left _ _ (by omega)]
    have : 0 ≤ (b - a - 1) / c := Int.ediv_nonneg (by omega) (by omega)
    omega
  · rename_i h
    have : (b - a + c - 1) / c ≤ 0 := by
      have h1 : (b - a + c - 1) / c < 1 := Int.ediv_lt_of_lt_mul hc (by omega)
      omega
    omega
theorem rangeV_small {a b c : Int} (h : (rangeV a b c).2) : Builtin.Range.small a b c = true := by
  obtain ⟨h1, h2, h3, h4, h5, h6⟩ := h
  unfold lenLid at h3 h4 h5 h6
  unfold Builtin.Range.small
  have hs : 0 ≤ Builtin.Range.rangeSize a b c ∧ Builtin.Range.rangeSize a b c ≤ 200001 := by
    rw [rangeSize_is h1]
    refine ⟨by omega, ?_⟩
    rw [Int.fdiv_eq_ediv_of_nonneg _ (by omega)]
    have : (b - a + c - 1) / c ≤ 200001 := by
      have : (b - a + c - 1) / c < 200001 + 1 := by
        apply Int.ediv_lt_of_lt_mul h1
        have e : (200001 + 1) * c = 200002 * c := rfl
        rw [e]; omega
      omega
    omega
  unfold Builtin.Range.rangeFitsLong
  simp only [Bool.and_eq_true, Bool.or_eq_true, beq_iff_eq, decide_eq_true_eq]
  refine ⟨⟨⟨⟨⟨?_, ?_⟩, ?_, ?_⟩, ?_, ?_⟩, ?_, ?_⟩, .inr ?_⟩ <;> first | omega | (rw [if_pos (by omega)]; simp only [Bool.and_eq_true, decide_eq_true_eq]; omega)
/-- a range that stands, as what a loop goes over -/
theorem it_range {a b c : Int} {r : Addr} {t u v : Tok} {h : Heap} (hx : (rangeV a b c).2) (hr : IsRange h r a b c t u v) : ItOf prog w mu h ((rangeV a b c).1.map .int) (.ref r) := by
  intro A s Q E hh kk K
  have hl : ((rangeV a b c).1.map V.int).length = ((b - a + c - 1).fdiv c).toNat := by rw [List.length_map]; exact rangeUp_length c _ a
  refine wpAny_pyIter_range (kk _ _ hr) (rangeV_small hx) ?_
  refine K _ [s.heap.objs.size] (fun i v => ∃ t, v = .int (a + i * c) t) (fun i h => IsRangeIter h s.heap.objs.size (a + i * c) ((((b - a + c - 1).fdiv c).toNat : Int) - i) c) _ ?_ ?_ (fun i h e => ⟨_, e, by simp⟩) ?_ ?_
  · rw [hl]; exact Walks.range hh _ a c _
  · show Heap.get? _ _ = _
    rw [get_push (by intro e; cases e), rangeSize_is hx.1]
    simp
  · intro b hb; exact .inl (List.mem_singleton.mp hb)
  · rintro i v hi ⟨t, rfl⟩
    rw [hl] at hi
    refine ⟨.int (a + i * c), ?_, by unfold Rep; exact ⟨_, rfl⟩⟩
    rw [List.getElem?_map, show (rangeV a b c).1 = rangeUp a c ((b - a + c - 1).fdiv c).toNat from rfl, rangeUp_get c _ a i hi]; rfl
theorem it_items {v : V} {wv : Value} {h : Heap} (hx : (itemsV v).2) (r : Rep w.params mu h v wv) : ItOf prog w mu h (itemsV v).1 wv := by
  cases v
  case list xs =>
    have hx : xs.length ≤ lenLid := hx
    show ItOf prog w mu h xs wv
    unfold Rep at r
    obtain ⟨a, ws, rfl, ha, la, ra⟩ := r
    intro A s Q E hh kk K
    have la' := isList_keep la (fun o => kk a o)
    have hlen := ra.length
    have hne : a ≠ s.heap.objs.size := by
      obtain ⟨o, g, _⟩ := la'
      exact Nat.ne_of_lt (Heap.lt_size g)
    refine wpAny_pyIter_list la' ?_
    refine K _ [s.heap.objs.size, a] (fun i v => ws.toArray[i]? = some v) (fun i h => Heap.IsListIter h s.heap.objs.size a i ∧ Heap.IsList h a ws.toArray) _ ?_ ?_ (fun i h e => let ⟨⟨o, g, c, _⟩, _⟩ := e; ⟨o, g, by rw [c]; simp⟩) ?_ ?_
    · have := Walks.list (prog := prog) (w := w) hh s.heap.objs.size a hne ws.toArray
      have hz : ws.toArray.size = xs.length := by rw [List.size_toArray]; exact hlen
      rw [hz] at this; exact this
    · exact ⟨⟨_, get_push (by intro e; cases e), rfl, rfl⟩, isList_keep la' (fun o => keepAll_push _ o)⟩
    · intro b hb
      rcases List.mem_cons.mp hb with rfl | hb
      · exact .inl rfl
      · rcases List.mem_singleton.mp hb with rfl
        obtain ⟨o, g, _⟩ := la
        exact .inr ⟨⟨o, g⟩, ha⟩
    · intro i v hi hv
      have hv : ws[i]? = some v := by simpa using hv
      have : i < xs.length := hi
      obtain ⟨y, ey, ry⟩ := ra.get (List.getElem?_eq_getElem this)
      rw [hv] at ey; cases ey
      exact ⟨_, List.getElem?_eq_getElem this, ry⟩
  case str xs =>
    have hx : xs.length ≤ lenLid := hx
    show ItOf prog w mu h (xs.map fun c => V.str [c]) wv
    unfold Rep at r
    obtain ⟨t, rfl⟩ := r
    intro A s Q E hh kk K
    have hz : (Str.cps ⟨xs.toArray⟩).size = (xs.map fun c => V.str [c]).length := by simp
    have hp : ∀ b ∈ [s.heap.objs.size], b = s.heap.objs.size ∨ ((∃ o, h.get? b = some o) ∧ b ∉ mu) := fun b hb => .inl (List.mem_singleton.mp hb)
    have hi : ∀ i v, i < (xs.map fun c => V.str [c]).length → SignAt ⟨xs.toArray⟩ i v → ∃ u, (xs.map fun c => V.str [c])[i]? = some u ∧ Rep w.params mu h u v := by
      rintro i v hi ⟨c, u, e, rfl⟩
      have e : xs[i]? = some c := by simpa using e
      exact ⟨.str [c], by rw [List.getElem?_map, e]; rfl, by unfold Rep; exact ⟨_, rfl⟩⟩
    cases ha : (Str.cps ⟨xs.toArray⟩).all (· < 128)
    · refine wpAny_pyIter_wide ha (K _ _ (SignAt ⟨xs.toArray⟩) (fun i h => h.IsStrIter s.heap.objs.size "str_iterator" ⟨xs.toArray⟩ t i) s.toks ?_ ?_ (fun i h e => let ⟨o, g, c, _⟩ := e; ⟨o, g, by rw [c]; simp⟩) hp hi)
      · have := Walks.strWide (prog := prog) (w := w) hh s.heap.objs.size ⟨xs.toArray⟩ t
        rw [hz] at this; exact this
      · exact ⟨_, get_push (by intro e; cases e), rfl, rfl⟩
    · refine wpAny_pyIter_ascii ha (K _ _ (SignAt ⟨xs.toArray⟩) (fun i h => h.IsStrIter s.heap.objs.size "str_ascii_iterator" ⟨xs.toArray⟩ t i) s.toks ?_ ?_ (fun i h e => let ⟨o, g, c, _⟩ := e; ⟨o, g, by rw [c]; simp⟩) hp hi)
      · have := Walks.strAscii (prog := prog) (w := w) hh s.heap.objs.size ⟨xs.toArray⟩ t
        rw [hz] at this; exact this
      · exact ⟨_, get_push (by intro e; cases e), rfl, rfl⟩
  all_goals exact hx.elim
end
end Mine
namespace Mine
open PySem PySem.W PyProof.Rows PySem.Calls
section
variable {prog : Program} {w : World} {hb : Heap} {mg mb : Str → Option Value} {g : Cfg} {d : Nat}
variable {n : Nat} {env : Env} {l : Ls} {mu : List Addr} {s : Shared} {A : Around}

theorem boot_range : bootBuiltins ("range" : Str) = some (.type "range") := by decide +kernel
theorem boot_list : bootBuiltins ("list" : Str) = some (.type "list") := by decide +kernel
/-- a range is made -/
theorem tr_range (B : Base prog w hb mg mb g d) (S : Snd prog w hb g d n) {f : Str} {p pos : Pos} {args : List Expr} (X : At w hb d mu A s env l) (h : (evI g env.kindOf (n + 1) l (.Call (.Name f p) args [] pos)).2) :
    f = ("range" : Str) ∧ Tr prog w A (eval (.Call (.Name f p) args [] pos) env) s (fun v h' => ∃ a b c r t u v', v = .ref r ∧ IsRange h' r a b c t u v' ∧ (rangeV a b c).2 ∧ (evI g env.kindOf (n + 1) l (.Call (.Name f p) args [] pos)).1 = (rangeV a b c).1.map .int ∧ r ∉ mu) := by
  rw [evI_range] at h ⊢
  by_cases hf : f = ("range" : Str)
  · refine ⟨hf, ?_⟩
    subst hf
    rw [if_pos rfl] at h ⊢
    obtain ⟨hs, hr, hl, hk⟩ := h
    refine tr_call_name (t := fun v => pure v) (tr_builtin B X.base X.fm hk (B.nob _ (.inr (.inr rfl))) (by decide) boot_range fun tk => ?_)
    have X' := X.go (h' := s.heap) (tk := tk) (fun _ _ e => e)
    refine tr_callWith (.inr ⟨_, rfl⟩) (S.evs (pos := pos) X' hs).1 [] (S.evs (pos := pos) X' hs).2 fun vs h' tk' kk r => ?_
    generalize (evs g env.kindOf n l args).1 = as at hr r ⊢
    have XF := (X.go (tk := tk') kk).live.fresh
    rcases as with _ | ⟨a, _ | ⟨b, _ | ⟨c, _ | ⟨d', q⟩⟩⟩⟩
    · exact hr.elim
    · cases a
      case int b =>
        obtain ⟨v, vs, rfl, r1, r2⟩ := reps_cons r
        cases reps_nil r2
        unfold Rep at r1
        obtain ⟨t, rfl⟩ := r1
        exact Tr.of fun R k => call_range_1 (k _ _ _ keepAll_push ⟨0, b, 1, _, _, _, _, rfl, get_push (by intro e; cases e), hr, rfl, XF⟩)
      all_goals exact hr.elim
    · cases a
      case int a =>
        cases b
        case int b =>
          obtain ⟨v, vs, rfl, r1, r2⟩ := reps_cons r
          obtain ⟨v2, vs2, rfl, r3, r4⟩ := reps_cons r2
          cases reps_nil r4
          unfold Rep at r1 r3
          obtain ⟨t, rfl⟩ := r1
          obtain ⟨t2, rfl⟩ := r3
          exact Tr.of fun R k => call_range_2 (k _ _ _ keepAll_push ⟨a, b, 1, _, _, _, _, rfl, get_push (by intro e; cases e), hr, rfl, XF⟩)
        all_goals exact hr.elim
      all_goals exact hr.elim
    · cases a
      case int a =>
        cases b
        case int b =>
          cases c
          case int c =>
            obtain ⟨v, vs, rfl, r1, r2⟩ := reps_cons r
            obtain ⟨v2, vs2, rfl, r3, r4⟩ := reps_cons r2
            obtain ⟨v3, vs3, rfl, r5, r6⟩ := reps_cons r4
            cases reps_nil r6
            unfold Rep at r1 r3 r5
            obtain ⟨t, rfl⟩ := r1
            obtain ⟨t2, rfl⟩ := r3
            obtain ⟨t3, rfl⟩ := r5
            have hr' : (rangeV a b c).2 := hr
            exact Tr.of fun R k => call_range_3 (by have := hr'.1; omega) (k _ _ _ keepAll_push ⟨a, b, c, _, _, _, _, rfl, get_push (by intro e; cases e), hr, rfl, XF⟩) (.inl (PyProof.noPylong_small (by have := hr'.1; have := hr'.2.1; omega)))
          all_goals exact hr.elim
        all_goals exact hr.elim
      all_goals exact hr.elim
    · cases a <;> exact hr.elim
  · rw [if_neg hf] at h; exact h.elim
theorem snd_I (B : Base prog w hb mg mb g d) (S : Snd prog w hb g d n) {e : Expr} (X : At w hb d mu A s env l) (h : (evI g env.kindOf (n + 1) l e).2) :
    (∀ x, foldedSetIterable e env x = pure x) ∧ Tr prog w A (eval e env) s (fun v h => ItOf prog w mu h (evI g env.kindOf (n + 1) l e).1 v) := by
  cases e with
  | Call fe args kw pos =>
    cases fe with
    | Name f p =>
      cases kw with
      | nil =>
        refine ⟨fun _ => rfl, (tr_range B S X h).2.mono fun v h' kk q => ?_⟩
        obtain ⟨a, b, c, r, t, u, v', rfl, hr, hx, e, hm⟩ := q
        rw [e]
        exact it_range hx hr
      | cons a b => exact h.elim
    | _ => exact h.elim
  | Name x p =>
    exact ⟨fun _ => rfl, (S.ev X h.1).mono fun v h' kk q => it_items h.2 q⟩
  | _ => exact h.elim

theorem carried_reps {P : Params} {h : Heap} : ∀ {ys : List Value} {ns : List Int}, CarriedAll ys (ns.map PyData.int) → Reps P mu h (ns.map .int) ys
  | _, [], c => by
    cases c; unfold Reps; rfl
  | _, i :: ns, c => by
    cases c with
    | cons c r =>
      cases c
      rw [List.map_cons]
      unfold Reps
      exact ⟨_, _, rfl, by unfold Rep; exact ⟨_, rfl⟩, carried_reps r⟩
theorem rangeUp_is (a c : Int) (n : Nat) : rangeUp a c n = rangeInts a c n := by
  apply List.ext_getElem?
  intro i
  by_cases h : i < n
  · rw [rangeUp_get c n a i h]
    unfold rangeInts
    simp [h]
  · rw [List.getElem?_eq_none (by rw [rangeUp_length]; omega), List.getElem?_eq_none (by unfold rangeInts; simp; omega)]
/-- a new list of a range: nothing else knows it -/
theorem tr_list_range (B : Base prog w hb mg mb g d) (S : Snd prog w hb g d n) {f r : Str} {p rp cp pos : Pos} {as : List Expr} (X : At w hb d mu A s env l) (hf : f = ("list" : Str))
    (h : (evI g env.kindOf (n + 1) l (.Call (.Name r rp) as [] cp)).2) (hk : kindOk env.kindOf f = true) :
    Tr prog w A (eval (.Call (.Name f p) [.Call (.Name r rp) as [] cp] [] pos) env) s (fun v h' => ∃ a ws, v = .ref a ∧ s.heap.get? a = none ∧ a ∉ mu ∧ h'.IsList a (List.toArray ws) ∧ Reps w.params mu h' (evI g env.kindOf (n + 1) l (.Call (.Name r rp) as [] cp)).1 ws) := by
  subst hf
  refine tr_call_name (t := fun v => pure v) (tr_builtin B X.base X.fm hk (B.nob _ (.inr (.inl rfl))) (by decide) boot_list fun tk => ?_)
  have X' := X.go (h' := s.heap) (tk := tk) (fun _ _ e => e)
  have hb1 : backTo pos (starEach [.Call (.Name r rp) as [] cp] env) = [(false, eval (.Call (.Name r rp) as [] cp) env)] := rfl
  rw [hb1]
  refine tr_callWith (P := fun vs h' => ∃ a b c q t u v', vs = [.ref q] ∧ IsRange h' q a b c t u v' ∧ (rangeV a b c).2 ∧ (evI g env.kindOf (n + 1) l (.Call (.Name r rp) as [] cp)).1 = (rangeV a b c).1.map .int) (.inr ⟨_, rfl⟩) (fun a ha => by rcases List.mem_singleton.mp ha with rfl; rfl) [] ?_ ?_
  · refine Tr.of fun R k => spliced_cons ((tr_range B S X' h).2.use fun v h' tk kk q => spliced_nil (k _ _ _ kk ?_))
    obtain ⟨a, b, c, r', t, u, v', rfl, hr, hx, e, hm⟩ := q
    exact ⟨a, b, c, _, t, u, v', rfl, hr, hx, e⟩
  · rintro vs h' tk' kk ⟨a, b, c, q, t, u, v', rfl, hr, hx, e⟩
    have F : Fr ⟨#[], {}⟩ mainGlobals h' mg := ⟨(B.gns.keeps X.base).keeps kk, fun b o e => by have := Heap.lt_size e; exact absurd this (Nat.not_lt_zero _), Nat.zero_le _⟩
    have hn : ((b - a + c - 1).fdiv c).toNat ≤ 2 ^ 24 := by
      have := rangeV_small hx
      obtain ⟨h1, h2, h3, h4, h5, h6⟩ := hx
      unfold lenLid at h3 h4 h5 h6
      rw [Int.fdiv_eq_ediv_of_nonneg _ (by omega)]
      have : (b - a + c - 1) / c < 200001 + 1 := by
        apply Int.ediv_lt_of_lt_mul h1
        have e : (200001 + 1) * c = 200002 * c := rfl
        rw [e]; omega
      omega
    refine Tr.of fun R k => list_rangeD (news := []) X.room.handled F (fun p hp => by cases hp) hr (rangeV_small hx) (rangeSize_is hx.1) hn fun h'' tk'' ys F' N' kk' hf hl hp hc => k _ _ _ kk' ?_
    refine ⟨_, ys, rfl, ?_, (X'.go (tk := tk') kk).live.fresh, hl, ?_⟩
    · show s.heap.get? h'.objs.size = none
      cases q : s.heap.get? h'.objs.size with
      | none => rfl
      | some o => exact absurd (Heap.lt_size (kk _ _ q)) (Nat.lt_irrefl _)
    · rw [e, show (rangeV a b c).1 = rangeUp a c ((b - a + c - 1).fdiv c).toNat from rfl, rangeUp_is]
      exact carried_reps hc
end
end Mine
namespace Mine
open PySem PySem.W PyProof.Rows PySem.Calls

section
variable {env : Env} {scope : Scope}
theorem forIn_cells {names : List (Str × NameKind)} (hf : ∀ p ∈ names, p.2 = NameKind.free → ∃ c, env.cells.lookup p.1 = some c) : ∀ (cs : List (Str × Addr)), (∀ p ∈ cs, env.cells.lookup p.1 = some p.2) →
    ∃ cs', (forIn names cs (fun p (r : List (Str × Addr)) => if (p.2 == NameKind.free) = true then (do let c ← cellOf env p.1; pure (ForInStep.yield ((p.1, c) :: r))) else pure (ForInStep.yield r)) : Sem (List (Str × Addr))) = pure cs' ∧
      (∀ p ∈ cs', env.cells.lookup p.1 = some p.2) ∧ (∀ p ∈ cs, p ∈ cs') ∧ ∀ p ∈ names, p.2 = .free → ∃ c, (p.1, c) ∈ cs' := by
  induction names with
  | nil => exact fun cs h => ⟨cs, rfl, h, fun _ h => h, fun p hp => by cases hp⟩
  | cons p r ih =>
    intro cs h
    by_cases hk : (p.2 == NameKind.free) = true
    · obtain ⟨c, hc⟩ := hf p (.head _) (by simpa using hk)
      obtain ⟨cs', e, h1, h2, h3⟩ := ih (fun q hq => hf q (.tail _ hq)) ((p.1, c) :: cs) (fun q hq => by
        rcases List.mem_cons.mp hq with rfl | hq
        · exact hc
        · exact h q hq)
      refine ⟨cs', ?_, h1, fun q hq => h2 q (.tail _ hq), fun q hq e => ?_⟩
      · rw [List.forIn_cons, if_pos hk]
        unfold cellOf
        rw [hc]
        exact e
      · rcases List.mem_cons.mp hq with rfl | hq
        · exact ⟨c, h2 _ (.head _)⟩
        · exact h3 q hq e
    · obtain ⟨cs', e, h1, h2, h3⟩ := ih (fun q hq => hf q (.tail _ hq)) cs h
      refine ⟨cs', ?_, h1, h2, fun q hq e => ?_⟩
      · rw [List.forIn_cons, if_neg hk]; exact e
      · rcases List.mem_cons.mp hq with rfl | hq
        · exact absurd (by rw [e]; rfl) hk
        · exact h3 q hq e
theorem lookup_mem {x : Str} {c : Addr} : ∀ {cs : List (Str × Addr)}, (x, c) ∈ cs → ∃ c', cs.lookup x = some c'
  | [], h => by cases h
  | (y, e) :: r, h => by
    by_cases hy : (x == y) = true
    · exact ⟨e, by simp [List.lookup_cons, hy]⟩
    · rcases List.mem_cons.mp h with h | h
      · cases h; simp at hy
      · obtain ⟨c', e'⟩ := lookup_mem h
        exact ⟨c', by simp only [List.lookup_cons]; rw [show (x == y) = false from by simpa using hy]; exact e'⟩
theorem mem_lookup {x : Str} {c : Addr} : ∀ {cs : List (Str × Addr)}, cs.lookup x = some c → (x, c) ∈ cs
  | [], h => by cases h
  | (y, e) :: r, h => by
    rw [List.lookup_cons] at h
    by_cases hy : (x == y) = true
    · rw [hy] at h
      cases h
      obtain rfl := eq_of_beq hy
      exact .head _
    · rw [show (x == y) = false from by simpa using hy] at h
      exact .tail _ (mem_lookup h)
theorem closure_ok (hf : ∀ p ∈ scope.names, p.2 = NameKind.free → ∃ c, env.cells.lookup p.1 = some c) :
    ∃ cl, closureFor scope env = pure cl ∧ ∀ p ∈ scope.names, p.2 = .free → cl.lookup p.1 = env.cells.lookup p.1 := by
  obtain ⟨cs', e, h1, h2, h3⟩ := forIn_cells hf [] (fun p hp => by cases hp)
  refine ⟨cs', ?_, fun p hp hk => ?_⟩
  · unfold closureFor
    exact (congrArg (fun m : Sem (List (Str × Addr)) => m >>= fun cs => pure cs) e).trans rfl
  · obtain ⟨c, hc⟩ := h3 p hp hk
    obtain ⟨c', e'⟩ := lookup_mem hc
    rw [e', h1 _ (mem_lookup e')]

theorem at_put {l : Ls} {x : Str} {v : Loc} : ∀ {y : Str}, (l.put x v).at y = if y = x then some v.v else l.at y := by
  induction l with
  | nil =>
    intro y
    simp only [Ls.put, Ls.at]
    by_cases h : x = y
    · rw [if_pos h, if_pos h.symm]
    · rw [if_neg h, if_neg (Ne.symm h)]
  | cons p r ih =>
    intro y
    obtain ⟨z, u⟩ := p
    simp only [Ls.put]
    by_cases hz : z = x
    · subst hz
      simp only [if_true, Ls.at]
      by_cases h : z = y
      · subst h; simp
      · rw [if_neg h, if_neg h, if_neg (Ne.symm h)]
    · rw [if_neg hz]
      simp only [Ls.at]
      by_cases h : z = y
      · subst h; rw [if_pos rfl, if_neg hz, if_pos rfl]
      · rw [if_neg h, if_neg h]; exact ih
theorem at_capt {l : Ls} {k : Kd} {y : Str} {v : V} (h : (l.capt k).at y = some v) : l.at y = some v ∧ (k y = some .cell ∨ k y = some .free) := by
  induction l with
  | nil => cases h
  | cons p r ih =>
    obtain ⟨z, u⟩ := p
    unfold Ls.capt at h ih
    rw [List.filter_cons] at h
    split at h
    · rename_i hk
      simp only [Ls.at] at h ⊢
      by_cases hz : z = y
      · subst hz
        rw [if_pos rfl] at h ⊢
        refine ⟨h, ?_⟩
        simpa using hk
      · rw [if_neg hz] at h ⊢; exact ih h
    · rename_i hk
      simp only [Ls.at]
      by_cases hz : z = y
      · subst hz
        obtain ⟨h1, h2⟩ := ih h
        exact absurd (by simpa using h2) hk
      · rw [if_neg hz]; exact ih h
theorem kindOf_comp (hk : env.scope.kind = .function) (cl : List (Str × Addr)) (C : Addr) : (compEnvC scope cl C env).kindOf = inKind env.kindOf scope := by
  funext x
  show List.lookup x (relabel scope env).names = _
  unfold inKind relabel selfKind
  congr 1
  apply List.map_congr_left
  rintro ⟨y, k⟩ _
  simp [hk]
theorem inKind_free {k : Kd} {y : Str} (h : inKind k scope y = some .cell ∨ inKind k scope y = some .free) (hc : ∀ p ∈ scope.names, p.2 ≠ NameKind.cell) : (y, NameKind.free) ∈ scope.names := by
  unfold inKind at h
  generalize scope.names = ns at h hc
  induction ns with
  | nil => rcases h with h | h <;> cases h
  | cons p r ih =>
    obtain ⟨z, kz⟩ := p
    rw [List.map_cons, List.lookup_cons] at h
    have hz1 : (selfKind k (z, kz)).1 = z := by unfold selfKind; split <;> rfl
    rw [hz1] at h
    by_cases hy : (y == z) = true
    · rw [hy] at h
      obtain rfl := eq_of_beq hy
      have h' : (selfKind k (y, kz)).2 = .cell ∨ (selfKind k (y, kz)).2 = .free := h.imp Option.some.inj Option.some.inj
      have : kz = .free := by
        by_cases hs : (kz == NameKind.free && k y == some .cell) = true
        · simp only [Bool.and_eq_true, beq_iff_eq] at hs
          exact hs.1
        · have e : selfKind k (y, kz) = (y, kz) := if_neg hs
          rw [e] at h'
          rcases h' with h' | h'
          · exact absurd h' (hc _ (.head _))
          · exact h'
      rw [this]; exact .head _
    · rw [show (y == z) = false from by simpa using hy] at h
      exact .tail _ (ih h fun p hp => hc p (.tail _ hp))
end
end Mine
namespace Mine
open PySem PySem.W PyProof.Rows PySem.Calls
theorem fresh_none {h : Heap} {a : Addr} (e : h.objs.size ≤ a) : h.get? a = none := by
  cases q : h.get? a with
  | none => rfl
  | some o => exact absurd (Heap.lt_size q) (Nat.not_lt.mpr e)
theorem sameBut_keep {a : Addr} {h h' : Heap} (s : Heap.SameBut a h h') : ∀ b o, b ≠ a → h.get? b = some o → h'.get? b = some o := fun b o hb e => (s.2 b hb).trans e
theorem reps_one {P : Params} {mu : List Addr} {h : Heap} {v : V} {wv : Value} (r : Rep P mu h v wv) : Reps P mu h [v] [wv] := by
  unfold Reps; exact ⟨_, _, rfl, r, by unfold Reps; rfl⟩
noncomputable abbrev testsOf (ifs : List Expr) (env : Env) : Sem Bool := forIn ifs true fun c r => if r = true then do let ok ← isTrue c env (eval c env); pure (ForInStep.yield ok) else pure (ForInStep.yield r)
section
variable {prog : Program} {w : World} {hb : Heap} {d : Nat} {env : Env} {l : Ls} {mu : List Addr} {A : Around} {E : Value → Shared → Prop}

theorem fm_comp {scope : Scope} {cl : List (Str × Addr)} {C : Addr} {m : Str → Option Value} {x : Str} {u : V} {v : Value} {mu' : List Addr} {h₁ h : Heap} (F : Fm w.params mu env h₁ l) (kk : KeepAll h₁ h) (hmu : ∀ a, a ∈ mu' → a ∈ mu ∨ h₁.get? a = none)
    (hkind : scope.kind = .function) (hcell : ∀ y ∈ scope.names, y.2 ≠ .cell) (hx : scope.names.lookup x = some .local) (hnx : nameOk x = true)
    (hcl : ∀ p ∈ scope.names, p.2 = .free → cl.lookup p.1 = env.cells.lookup p.1) (hcap : ∀ p ∈ scope.names, p.2 = .free → env.kindOf p.1 = some .cell ∨ env.kindOf p.1 = some .free)
    (hm : h.Ns C m) (hv : m x = some v) (ru : Rep w.params mu' h u v) :
    Fm w.params mu' (compEnvC scope cl C env) h ((l.capt (inKind env.kindOf scope)).put x ⟨u, false⟩) := by
  refine ⟨hkind, F.glob, F.blt, fun y t e => ?_⟩
  rw [at_put] at e
  by_cases hy : y = x
  · subst hy
    rw [if_pos rfl] at e
    cases e
    exact ⟨hnx, v, .inl ⟨lookup_relabel_local hx, m, hm, hv⟩, ru⟩
  · rw [if_neg hy] at e
    obtain ⟨e1, e2⟩ := at_capt e
    obtain ⟨n1, wv, r1, r2⟩ := F.read y t e1
    have hfree := inKind_free e2 hcell
    have hk := hcap _ hfree rfl
    refine ⟨n1, wv, .inr ⟨by rw [kindOf_comp F.kind]; exact e2, ?_⟩, (r2.more hmu).all kk⟩
    rcases r1 with ⟨q, _⟩ | ⟨_, c, q1, q2⟩
    · exfalso
      have q : env.kindOf y = some .local := q
      rcases hk with hk | hk <;> (have hk : env.kindOf y = _ := hk; rw [q] at hk; cases hk)
    · refine ⟨c, (hcl _ hfree rfl).trans q1, ?_⟩
      obtain ⟨o, g, dd⟩ := q2
      exact ⟨o, kk _ _ g, dd⟩

theorem comp_block {elt iter : Expr} {x : Str} {px : Pos} {ifs : List Expr} {scope : Scope} {cl : List (Str × Addr)} {pos : Pos} {vs : List V} {p : V → Bool} {f : V → V} {s₁ : Shared} {o : Obj} {fp : List Addr} {Pd : Nat → Value → Prop} {St : Nat → Heap → Prop} {tk : Nat}
    (X : At w hb d mu A s₁ env l) (W : Walks prog w A s₁.heap.objs.size fp [s₁.heap.objs.size] vs.length Pd St) (h0 : St 0 (s₁.heap.push o)) (hI : ∀ i h, St i h → ∃ o, h.get? s₁.heap.objs.size = some o)
    (hfp : ∀ b ∈ fp, b = s₁.heap.objs.size ∨ ((∃ o, s₁.heap.get? b = some o) ∧ b ∉ mu)) (hit : ∀ i v, i < vs.length → Pd i v → ∃ u, vs[i]? = some u ∧ Rep w.params mu s₁.heap u v)
    (hkind : scope.kind = .function) (hcell : ∀ y ∈ scope.names, y.2 ≠ .cell) (hx : scope.names.lookup x = some .local) (hnx : nameOk x = true)
    (hcl : ∀ p ∈ scope.names, p.2 = .free → cl.lookup p.1 = env.cells.lookup p.1) (hcap : ∀ p ∈ scope.names, p.2 = .free → env.kindOf p.1 = some .cell ∨ env.kindOf p.1 = some .free)
    (hlen : vs.length ≤ lenLid)
    (hT : ∀ v ∈ vs, ∀ C s mu', At w hb d mu' A s (compEnvC scope cl C env) ((l.capt (inKind env.kindOf scope)).put x ⟨v, false⟩) → Tr prog w A (testsOf ifs (compEnvC scope cl C env)) s (fun b _ => b = p v))
    (hE : ∀ v ∈ vs, p v = true → ∀ C s mu', At w hb d mu' A s (compEnvC scope cl C env) ((l.capt (inKind env.kindOf scope)).put x ⟨v, false⟩) → Tr prog w A (eval elt (compEnvC scope cl C env)) s (fun y h => Rep w.params mu' h (f v) y))
    {RR : Value → Addr → Result → Shared → Prop}
    (hRR : ∀ D C h' tk m ws, s₁.heap.get? D = none → s₁.heap.get? C = none → D ∉ mu → C ∉ mu → C ≠ D → KeepAll s₁.heap h' → h'.Ns C m → h'.IsList D (List.toArray ws) → Reps w.params (C :: D :: mu) h' ((vs.filter p).map f) ws → RR (.ref D) C (.ok .next) { s₁ with heap := h', toks := tk }) :
    wpAny (model prog w) A (newList []) (fun acc s₃ => wpAny (model prog w) A (newFunctionEnv scope env.globals cl [] env.qual none .none (some env)) (fun cenv s₄ =>
      codeAny (model prog w) A (.compStart (.ListComp elt [⟨.Name x px, iter, ifs, 0⟩] scope pos) 0 (.ref s₁.heap.objs.size) acc { cenv with scope := relabel scope env }) (RR acc cenv.locals) s₄) E s₃) E { s₁ with heap := s₁.heap.push o, toks := tk } := by
  refine wpAny_newList ?_
  refine wpAny_newFunctionEnv hcell (by intro y hy; simp at hy) (fun h₁ hns₁ hsb₁ => ?_) hkind
  dsimp only at hns₁ hsb₁ ⊢
  generalize hD : (s₁.heap.push o).objs.size = D at *
  generalize hH2 : (s₁.heap.push o).push { cls := Value.type "list", data := Data.seq (List.toArray []) } = H2 at *
  generalize hC : H2.objs.size = C at *
  have zD : D = s₁.heap.objs.size + 1 := by rw [← hD, Heap.size_push]
  have zC : C = s₁.heap.objs.size + 2 := by rw [← hC, ← hH2, Heap.size_push, hD, zD]
  have hCD : C ≠ D := by rw [zC, zD]; exact Nat.succ_ne_self _
  have hID : s₁.heap.objs.size ≠ D := by rw [zD]; exact Nat.ne_of_lt (Nat.lt_succ_self _)
  have hIC : s₁.heap.objs.size ≠ C := by rw [zC]; exact Nat.ne_of_lt (Nat.lt_succ_of_lt (Nat.lt_succ_self _))
  have fD : s₁.heap.get? D = none := fresh_none (by rw [zD]; exact Nat.le_succ _)
  have fC : s₁.heap.get? C = none := fresh_none (by rw [zC]; exact Nat.le_succ_of_le (Nat.le_succ _))
  have fI : s₁.heap.get? s₁.heap.objs.size = none := fresh_none (Nat.le_refl _)
  have nmu : ∀ a, s₁.heap.get? a = none → a ∉ mu := fun a e q => by
    obtain ⟨o, g⟩ := X.live a q
    rw [e] at g; cases g
  have k2 : ∀ b o', (s₁.heap.push o).get? b = some o' → h₁.get? b = some o' := fun b o' e => by
    have hlt : b < D := hD ▸ Heap.lt_size e
    refine sameBut_keep hsb₁ b o' (by rw [zC]; rw [zD] at hlt; exact Nat.ne_of_lt (Nat.lt_succ_of_lt hlt)) (keepAll_push b o' ?_)
    rw [← hH2]; exact keepAll_push b o' e
  have k1 : KeepAll s₁.heap h₁ := fun b o' e => k2 b o' (keepAll_push b o' e)
  have gD : h₁.PlainList D #[] := by
    refine ⟨0, sameBut_keep hsb₁ D _ (Ne.symm hCD) (keepAll_push _ _ ?_)⟩
    rw [← hH2, ← hD]; exact get_push (by intro e; cases e)
  let mu₂ : List Addr := s₁.heap.objs.size :: C :: D :: mu
  have hmu : ∀ a, a ∈ mu₂ → a ∈ mu ∨ s₁.heap.get? a = none := fun a ha => by
    rcases List.mem_cons.mp ha with rfl | ha
    · exact .inr fI
    · rcases List.mem_cons.mp ha with rfl | ha
      · exact .inr fC
      · rcases List.mem_cons.mp ha with rfl | ha
        · exact .inr fD
        · exact .inl ha
  -- what is known at the head of each turn
  let Inv : Nat → Shared → Prop := fun k s => ∃ i h tk m ws, s = { s₁ with heap := h, toks := tk } ∧ i ≤ vs.length ∧ k = vs.length - i ∧ St i h ∧ h.Ns C m ∧ h.PlainList D (List.toArray ws) ∧ Reps w.params mu₂ h (((vs.take i).filter p).map f) ws ∧ KeepAll s₁.heap h
  have frame : ∀ {i : Nat} {h h' : Heap}, St i h → (∀ b o', b ≠ C → b ≠ D → h.get? b = some o' → h'.get? b = some o') → St i h' := fun st hk => by
    refine W.frame _ _ _ st fun b hb' o' e => ?_
    rcases hfp b hb' with rfl | ⟨⟨o2, e2⟩, _⟩
    · exact hk _ o' hIC hID e
    · exact hk b o' (by rintro rfl; rw [fC] at e2; cases e2) (by rintro rfl; rw [fD] at e2; cases e2) e
  have loop : ∀ s₃ : Shared, Inv vs.length s₃ → codeAny (model prog w) A (.compLoop (.ListComp elt [⟨.Name x px, iter, ifs, 0⟩] scope pos) 0 (.ref s₁.heap.objs.size) (.ref D) (compEnvC scope cl C env)) (RR (.ref D) C) s₃ := by
    intro s₃ hs₃
    refine codeAny_compLoop_tests Inv ?_ _ hs₃ (fun _ => rfl)
    rintro n s ⟨i, h, tk, m, ws, rfl, hi, rfl, st, hn, hl, hr, hk⟩
    by_cases hlt : i < vs.length
    · -- a turn
      refine W.item i _ _ _ hlt st fun v h2 tk2 hv st2 k2 => ?_
      obtain ⟨u, eu, ru⟩ := hit i v hlt hv
      have k2' : ∀ b o', b ≠ s₁.heap.objs.size → h.get? b = some o' → h2.get? b = some o' := fun b o' hb' e => k2 b o' (fun q => hb' (List.mem_singleton.mp q)) e
      have hn2 : h2.Ns C m := hn.at' fun o' e => k2' C o' (Ne.symm hIC) e
      have hl2 : h2.PlainList D ws.toArray := let ⟨z, e⟩ := hl; ⟨z, k2' D _ (Ne.symm hID) e⟩
      have hr2 : Reps w.params mu₂ h2 (((vs.take i).filter p).map f) ws := hr.keep fun b o' hb' e => k2' b o' (fun q => hb' (q ▸ .head _)) e
      have hk2 : KeepAll s₁.heap h2 := fun b o' e => k2' b o' (by rintro rfl; rw [fI] at e; cases e) (hk b o' e)
      refine wpAny_assign_Name (wpAny_storeName_local (lookup_relabel_local hx) hn2 (fun h3 hn3 hs3 => ?_) (by show ((relabel scope env).kind == .class || ((relabel scope env).kind == .module && _)) = false; rw [show (relabel scope env).kind = .function from hkind]; rfl))
      have k3' : ∀ b o', b ≠ C → h2.get? b = some o' → h3.get? b = some o' := sameBut_keep hs3
      have st3 : St (i + 1) h3 := frame st2 fun b o' hb' _ e => k3' b o' hb' e
      have hl3 : h3.PlainList D ws.toArray := let ⟨z, e⟩ := hl2; ⟨z, k3' D _ (Ne.symm hCD) e⟩
      have hr3 : Reps w.params mu₂ h3 (((vs.take i).filter p).map f) ws := hr2.keep fun b o' hb' e => k3' b o' (fun q => hb' (q ▸ .tail _ (.head _))) e
      have hk3 : KeepAll s₁.heap h3 := fun b o' e => k3' b o' (by rintro rfl; rw [fC] at e; cases e) (hk2 b o' e)
      have live3 : Live mu₂ h3 := fun a ha => by
        rcases List.mem_cons.mp ha with rfl | ha
        · exact hI _ _ st3
        · rcases List.mem_cons.mp ha with rfl | ha
          · obtain ⟨oc, _, _, g, _⟩ := hn3; exact ⟨oc, g⟩
          · rcases List.mem_cons.mp ha with rfl | ha
            · obtain ⟨z, e⟩ := hl3; exact ⟨_, e⟩
            · obtain ⟨oo, g⟩ := X.live a ha; exact ⟨oo, hk3 _ _ g⟩
      have hu : u ∈ vs := List.mem_of_getElem? eu
      have X3 : At w hb d mu₂ A { s₁ with heap := h3, toks := tk2 + 1 } (compEnvC scope cl C env) ((l.capt (inKind env.kindOf scope)).put x ⟨u, false⟩) :=
        ⟨fm_comp X.fm hk3 hmu hkind hcell hx hnx hcl hcap hn3 (if_pos rfl) ((ru.more hmu).all hk3), live3, X.base.trans hk3, X.room⟩
      have htake : vs.take (i + 1) = vs.take i ++ [u] := by
        rw [List.take_add_one, eu]; rfl
      refine (hT u hu C _ mu₂ X3).use fun b h4 tk4 kk4 eb => ?_
      subst eb
      by_cases hp : p u = true
      · rw [if_pos hp]
        refine (hE u hu hp C _ mu₂ (X3.go kk4)).use fun y h5 tk5 kk5 ry => ?_
        have kk := kk4.trans kk5
        have hl5 : h5.PlainList D ws.toArray := let ⟨z, e⟩ := hl3; ⟨z, kk _ _ e⟩
        have hws : ws.length ≤ lenLid := by
          rw [hr.length, List.length_map]
          exact Nat.le_trans (List.length_filter_le _ _) (Nat.le_trans (List.length_take_le' _ _) hlen)
        refine wpAny_list_append_plain hl5 (fun h6 hl6 hs6 => ?_) (by simp [sizeLine_is]; unfold lenLid at hws; omega)
        have k6' : ∀ b o', b ≠ D → h5.get? b = some o' → h6.get? b = some o' := sameBut_keep hs6
        refine ⟨vs.length - (i + 1), Nat.sub_lt_sub_left hlt (Nat.lt_succ_self _), i + 1, h6, tk5, _, ws ++ [y], rfl, hlt, rfl, frame (frame st3 fun b o' _ _ e => kk b o' e) fun b o' _ hb' e => k6' b o' hb' e, (hn3.keeps kk).at' fun o' e => k6' C o' hCD e, ?_, ?_, ?_⟩
        · obtain ⟨z, e⟩ := hl6
          exact ⟨z, by rw [e]; simp⟩
        · rw [htake, List.filter_append, List.map_append]
          have e1 : (List.filter p [u]).map f = [f u] := by simp [hp]
          rw [e1]
          have kp : Keep mu₂ h5 h6 := fun b o' hb' e => k6' b o' (fun q => hb' (q ▸ .tail _ (.tail _ (.head _)))) e
          exact ((hr3.all kk).keep kp).append (reps_one (ry.keep kp))
        · exact fun b o' e => k6' b o' (by rintro rfl; rw [fD] at e; cases e) (kk b o' (hk3 b o' e))
      · rw [if_neg hp]
        refine ⟨vs.length - (i + 1), Nat.sub_lt_sub_left hlt (Nat.lt_succ_self _), i + 1, h4, tk4, _, ws, rfl, hlt, rfl, frame st3 fun b o' _ _ e => kk4 b o' e, hn3.keeps kk4, (let ⟨z, e⟩ := hl3; ⟨z, kk4 _ _ e⟩), ?_, hk3.trans kk4⟩
        rw [htake, List.filter_append, List.map_append]
        have e1 : (List.filter p [u]).map f = [] := by simp [hp]
        rw [e1, List.append_nil]
        exact hr3.all kk4
    · -- the end
      have hi' : i = vs.length := Nat.le_antisymm hi (Nat.le_of_not_lt hlt)
      subst hi'
      refine W.done _ _ _ st fun h2 tk2 k2 => ?_
      have k2' : ∀ b o', b ≠ s₁.heap.objs.size → h.get? b = some o' → h2.get? b = some o' := fun b o' hb' e => k2 b o' (fun q => hb' (List.mem_singleton.mp q)) e
      refine hRR D C h2 tk2 m ws fD fC (nmu _ fD) (nmu _ fC) hCD (fun b o' e => k2' b o' (by rintro rfl; rw [fI] at e; cases e) (hk b o' e)) (hn.at' fun o' e => k2' C o' (Ne.symm hIC) e) ?_ ?_
      · obtain ⟨z, e⟩ := hl
        exact ⟨_, k2' D _ (Ne.symm hID) e, rfl, z, rfl⟩
      · rw [List.take_length] at hr
        exact (hr.keep fun b o' hb' e => k2' b o' (fun q => hb' (q ▸ .head _)) e).sub fun a ha => .tail _ ha
  have start : Inv vs.length { s₁ with heap := h₁, toks := tk } := by
    refine ⟨0, h₁, tk, _, [], rfl, Nat.zero_le _, rfl, W.frame _ _ _ h0 fun b hb' o' e => k2 b o' e, hns₁, gD, ?_, k1⟩
    simp [Reps]
  exact codeAny_compStart_list (loop _ start) (W.self 0 _ _ _ (W.frame _ _ _ h0 fun b hb' o' e => k2 b o' e) (loop _ start))
end
end Mine
namespace Mine
open PySem PySem.W PyProof.Rows PySem.Calls
section
variable {prog : Program} {w : World} {hb : Heap} {mg mb : Str → Option Value} {g : Cfg} {d : Nat}
variable {n : Nat} {env : Env} {l : Ls} {mu : List Addr} {s : Shared} {A : Around}
theorem scope_facts {scope : Scope} (F : Fm w.params mu env s.heap l) (h : Mine.ev.scopeOk env.kindOf l scope = true) :
    scope.kind = .function ∧ (∀ y ∈ scope.names, y.2 ≠ .cell) ∧ (∀ y ∈ scope.names, y.2 = .local → scope.names.lookup y.1 = some .local) ∧
    (∀ p ∈ scope.names, p.2 = .free → env.kindOf p.1 = some .cell ∨ env.kindOf p.1 = some .free) ∧ (∀ p ∈ scope.names, p.2 = .free → ∃ c, env.cells.lookup p.1 = some c) := by
  unfold Mine.ev.scopeOk at h
  rw [Bool.and_eq_true] at h
  obtain ⟨h1, h2⟩ := h
  have h2 := List.all_eq_true.mp h2
  refine ⟨by simpa using h1, fun y hy e => ?_, fun y hy e => ?_, fun y hy e => ?_, fun y hy e => ?_⟩
  · have := h2 y hy; rw [e] at this; simp at this
  · have := h2 y hy; rw [e] at this; simpa using this
  · have := h2 y hy; rw [e] at this; simp at this; exact this.1
  · have := h2 y hy; rw [e] at this; simp at this
    obtain ⟨hk, hs⟩ := this
    obtain ⟨v, hv⟩ := Option.isSome_iff_exists.mp hs
    obtain ⟨_, wv, r, _⟩ := F.read _ _ hv
    rcases r with ⟨q, _⟩ | ⟨_, c, q, _⟩
    · rw [q] at hk; rcases hk with hk | hk <;> cases hk
    · exact ⟨c, q⟩
theorem comp_run (S : Snd prog w hb g d n) {elt it : Expr} {x : Str} {px : Pos} {ifs : List Expr} {scope : Scope} {pos pos' : Pos} {use : Option (Value → Sem Unit)} {Q : Value → Shared → Prop} {E : Value → Shared → Prop} {p : V → Bool} {f : V → V}
    (X : At w hb d mu A s env l) (hq : (evI g env.kindOf n l it).2) (hx : scope.names.lookup x = some .local) (hnx : nameOk x = true) (hs : Mine.ev.scopeOk env.kindOf l scope = true) (hlen : (evI g env.kindOf n l it).1.length ≤ lenLid)
    (hT : ∀ v ∈ (evI g env.kindOf n l it).1, ∀ cenv s mu', cenv.kindOf = inKind env.kindOf scope → At w hb d mu' A s cenv ((l.capt (inKind env.kindOf scope)).put x ⟨v, false⟩) → Tr prog w A (testsOf ifs cenv) s (fun b _ => b = p v))
    (hE : ∀ v ∈ (evI g env.kindOf n l it).1, p v = true → ∀ cenv s mu', cenv.kindOf = inKind env.kindOf scope → At w hb d mu' A s cenv ((l.capt (inKind env.kindOf scope)).put x ⟨v, false⟩) → Tr prog w A (eval elt cenv) s (fun y h => Rep w.params mu' h (f v) y))
    (hQ : ∀ D C h' tk m ws, s.heap.get? D = none → s.heap.get? C = none → D ∉ mu → C ∉ mu → C ≠ D → KeepAll s.heap h' → h'.Ns C m → h'.IsList D (List.toArray ws) → Reps w.params (C :: D :: mu) h' (((evI g env.kindOf n l it).1.filter p).map f) ws →
      compPost (model prog w) A E use Q (.ref D) C (.ok .next) { s with heap := h', toks := tk }) :
    wpAny (model prog w) A (comprehension (.ListComp elt [⟨.Name x px, it, ifs, 0⟩] scope pos) scope env pos' (newList []) false (eval it env) use) Q E s := by
  obtain ⟨hkind, hcell, hnames, hcap, hcells⟩ := scope_facts X.fm hs
  obtain ⟨cl, ecl, hcl⟩ := closure_ok hcells
  refine wpAny_comprehension_free rfl (S.evI X hq).1 ecl hkind hnames ?_
  refine (S.evI X hq).2.use fun xv h1 tk1 k1 hit => ?_
  refine hit A _ _ _ X.room.handled (fun _ _ e => e) fun o fp Pd St tk W h0 hI hfp hv => ?_
  exact comp_block (RR := fun acc C => compPost (model prog w) A E use Q acc C) (X.go (tk := tk1) k1) W h0 (fun i h e => let ⟨o, g, _⟩ := hI i h e; ⟨o, g⟩) hfp hv hkind hcell hx hnx hcl hcap hlen
    (fun v hv' C s' mu' X' => hT v hv' _ s' mu' (kindOf_comp X.fm.kind cl C) X')
    (fun v hv' hp C s' mu' X' => hE v hv' hp _ s' mu' (kindOf_comp X.fm.kind cl C) X')
    (fun D C h' tk' m ws fD fC nD nC hCD kk hn hl hr => hQ D C h' tk' m ws
      (by cases q : s.heap.get? D with
        | none => rfl
        | some o => have := k1 _ _ q; rw [fD] at this; cases this)
      (by cases q : s.heap.get? C with
        | none => rfl
        | some o => have := k1 _ _ q; rw [fC] at this; cases this) nD nC hCD (k1.trans kk) hn hl hr)
/-- the two kinds of comprehension that we evaluate -/
theorem comp_parts (S : Snd prog w hb g d n) {elt it : Expr} {x : Str} {px : Pos} {ifs : List Expr} {scope : Scope} {pos : Pos} (X : At w hb d mu A s env l)
    (h : (ev g env.kindOf (n + 1) l (.ListComp elt [⟨.Name x px, it, ifs, 0⟩] scope pos)).2) : ∃ (p : V → Bool) (f : V → V),
    (ev g env.kindOf (n + 1) l (.ListComp elt [⟨.Name x px, it, ifs, 0⟩] scope pos)).1 = .list (((evI g env.kindOf n l it).1.filter p).map f) ∧
    (evI g env.kindOf n l it).2 ∧ scope.names.lookup x = some .local ∧ nameOk x = true ∧ Mine.ev.scopeOk env.kindOf l scope = true ∧ (evI g env.kindOf n l it).1.length ≤ lenLid ∧
    (∀ v ∈ (evI g env.kindOf n l it).1, ∀ cenv s mu', cenv.kindOf = inKind env.kindOf scope → At w hb d mu' A s cenv ((l.capt (inKind env.kindOf scope)).put x ⟨v, false⟩) → Tr prog w A (testsOf ifs cenv) s (fun b _ => b = p v)) ∧
    (∀ v ∈ (evI g env.kindOf n l it).1, p v = true → ∀ cenv s mu', cenv.kindOf = inKind env.kindOf scope → At w hb d mu' A s cenv ((l.capt (inKind env.kindOf scope)).put x ⟨v, false⟩) → Tr prog w A (eval elt cenv) s (fun y h => Rep w.params mu' h (f v) y)) := by
  cases ifs with
  | nil =>
    rw [ev_comp0] at h ⊢
    refine ⟨fun _ => true, fun v => (ev g (inKind env.kindOf scope) n ((l.capt (inKind env.kindOf scope)).put x ⟨v, false⟩) elt).1, by rw [List.filter_eq_self.mpr (fun _ _ => rfl)], h.1, h.2.1.1, h.2.1.2, h.2.2.1, h.2.2.2.1, ?_, ?_⟩
    · intro v hv cenv s' mu' hk X'
      exact Tr.of fun R k => wpAny_tests_nil (k _ s'.heap s'.toks (fun _ _ e => e) rfl)
    · intro v hv _ cenv s' mu' hk X'
      have := S.ev X' (by rw [hk]; exact h.2.2.2.2 v hv)
      rw [hk] at this; exact this
  | cons t r =>
    cases r with
    | nil =>
      rw [ev_comp1] at h ⊢
      refine ⟨fun v => (evT g (inKind env.kindOf scope) n ((l.capt (inKind env.kindOf scope)).put x ⟨v, false⟩) t).1, fun v => (ev g (inKind env.kindOf scope) n ((l.capt (inKind env.kindOf scope)).put x ⟨v, false⟩) elt).1, rfl, h.1, h.2.1.1, h.2.1.2, h.2.2.1, h.2.2.2.1, ?_, ?_⟩
      · intro v hv cenv s' mu' hk X'
        have := S.evT X' (by rw [hk]; exact (h.2.2.2.2 v hv).1)
        rw [hk] at this
        exact Tr.of fun R k => wpAny_tests_one (this.use k)
      · intro v hv hp cenv s' mu' hk X'
        have := S.ev X' (by rw [hk]; exact (h.2.2.2.2 v hv).2 hp)
        rw [hk] at this; exact this
    | cons t2 r2 => exact h.elim
theorem tr_comp (S : Snd prog w hb g d n) {elt it : Expr} {x : Str} {px : Pos} {ifs : List Expr} {scope : Scope} {pos : Pos} (X : At w hb d mu A s env l)
    (h : (ev g env.kindOf (n + 1) l (.ListComp elt [⟨.Name x px, it, ifs, 0⟩] scope pos)).2) :
    Tr prog w A (eval (.ListComp elt [⟨.Name x px, it, ifs, 0⟩] scope pos) env) s (fun v h' => Rep w.params mu h' (ev g env.kindOf (n + 1) l (.ListComp elt [⟨.Name x px, it, ifs, 0⟩] scope pos)).1 v) := by
  obtain ⟨p, f, ee, hq, hx, hnx, hs, hlen, hT, hE⟩ := comp_parts S X h
  rw [ee]
  refine Tr.of fun R k => ?_
  rw [eval_ListComp]
  refine comp_run S X hq hx hnx hs hlen hT hE fun D C h' tk m ws fD fC nD nC hCD kk hn hl hr => ?_
  refine ⟨m, hn, fun h'' hs'' => k _ h'' tk (fun b o e => sameBut_keep hs'' b o (by rintro rfl; rw [fC] at e; cases e) (kk b o e)) ?_⟩
  unfold Rep
  refine ⟨D, ws, rfl, nD, isList_keep hl (fun o => sameBut_keep hs'' D o (Ne.symm hCD)), ?_⟩
  exact (hr.keep fun b o hb' e => sameBut_keep hs'' b o (fun q => hb' (q ▸ .head _)) e).sub fun a ha => .tail _ (.tail _ ha)
end
end Mine
namespace Mine
open PySem PySem.W PyProof.Rows PySem.Calls
section
variable {prog : Program} {w : World} {hb : Heap} {mg mb : Str → Option Value} {g : Cfg} {d : Nat}
variable {n : Nat} {env : Env} {l : Ls} {mu : List Addr} {s : Shared} {A : Around}

theorem const_ok {c : Const} {k : Nat} {p : Pos} (h : (constV c).2) : Tr prog w A (eval (.Constant c k p) env) s (fun v h => Rep w.params mu h (constV c).1 v) := by
  unfold constV at h ⊢
  split at h <;> (try simp only at h ⊢)
  · exact Tr.of fun R k => PyProof.Rows.Constant_none (k _ s.heap s.toks (fun _ _ e => e) (by unfold Rep; rfl))
  · exact Tr.of fun R k => PyProof.Rows.Constant_bool (k _ s.heap s.toks (fun _ _ e => e) (by unfold Rep; rfl))
  · exact Tr.of fun R k => fun Γ p hΓ => k (.int _ s.toks) s.heap (s.toks + 1) (fun _ _ e => e) (by unfold Rep; exact ⟨_, rfl⟩)
  · exact Tr.of fun R k => Calls.Constant_str (k _ s.heap (s.toks + 1) (fun _ _ e => e) (by unfold Rep; exact ⟨_, rfl⟩))
  · exact Tr.of fun R k => PySem.W.Constant_bytes (k _ s.heap (s.toks + 1) (fun _ _ e => e) (by unfold Rep; exact ⟨_, rfl⟩))
theorem base_ok {o : Expr} {name : Str} {m : Sem Value} (h : baseOk o = true) : attributeBase o name env m = m := by
  cases o with
  | Call f as ks p => cases f with
    | Name x q => cases as with
      | nil => cases ks with
        | nil => exact absurd (show false = true from h) Bool.false_ne_true
        | cons _ _ => rfl
      | cons _ _ => rfl
    | _ => rfl
  | _ => rfl
theorem glued_nil (ys : List (List Nat)) : Txt.join ⟨([] : List Nat).toArray⟩ (ys.map fun x => ⟨x.toArray⟩) = ⟨ys.flatten.toArray⟩ := by
  unfold Txt.join Builtin.Str.glued
  have go : ∀ (ys : List (List Nat)) (acc : Array Nat), List.foldl (fun acc (p : Str) => acc ++ (⟨([] : List Nat).toArray⟩ : Str).cps ++ p.cps) acc (ys.map fun x => ⟨x.toArray⟩) = acc ++ ys.flatten.toArray := by
    intro ys
    induction ys with
    | nil => intro acc; simp
    | cons y r ih => intro acc; rw [List.map_cons, List.foldl_cons, ih]; simp
  cases ys with
  | nil => rfl
  | cons y r =>
    have := go r y.toArray
    simp only [List.map_cons, List.drop_one, List.tail_cons, List.headD_cons]
    rw [this]; simp
theorem methV_ok (B : Base prog w hb mg mb g d) (kb : KeepAll hb s.heap) {o : V} {name : Str} {args : List V} {wo : Value} (h : (methV g o name args).2) (ro : Rep w.params mu s.heap o wo) :
    ∃ T id, PlainAttrs T ∧ Slot T name id ∧ typeOf (.builtin id) = pure (.type "method_descriptor") ∧ s.TypeIs wo T ∧ (∀ a, wo = .ref a → ∃ ob, s.heap.get? a = some ob ∧ ob.dict = none) ∧
      ∀ ws h' tk, KeepAll s.heap h' → Reps w.params mu h' args ws → Tr prog w A (call (.builtin id) (wo :: ws)) { s with heap := h', toks := tk } (fun v h => Rep w.params mu h (methV g o name args).1 v) := by
  unfold methV at h ⊢
  split at h
  · rename_i hn
    subst hn
    split at h
    · rename_i x
      unfold Rep at ro
      obtain ⟨t, rfl⟩ := ro
      refine ⟨"str", "str.lower", F.plainAttrs_str, F.slot_str_lower, F.type_str_lower, typeIs_str _ _ _, fun a e => (by cases e), fun ws h' tk kk r => ?_⟩
      cases reps_nil r
      simp only [if_true] at h ⊢
      refine Tr.of fun R k => SCL.lower (by simp [Str.length]; unfold lenLid at h; omega) fun _ => k _ h' _ (fun _ _ e => e) (by unfold Rep; exact ⟨_, rfl⟩)
    · exact h.elim
  · rename_i hn
    rw [if_neg hn]
    split at h
    · rename_i hn2
      subst hn2
      split at h
      · rename_i xs
        unfold Rep at ro
        obtain ⟨t, rfl⟩ := ro
        refine ⟨"str", "str.join", F.plainAttrs_str, F.slot_str_join, F.type_str_join, typeIs_str _ _ _, fun a e => (by cases e), fun ws h' tk kk r => ?_⟩
        obtain ⟨v, vs, rfl, r1, r2⟩ := reps_cons r
        cases reps_nil r2
        unfold Rep at r1
        obtain ⟨a, ws, rfl, ha, la, ra⟩ := r1
        simp only [if_true]
        have hs := strs_areV h.1 ra
        refine Tr.of fun R k => join_list la (by simpa using hs) ?_ fun t' m => k _ h' m (fun _ _ e => e) ?_
        · have h2 := h.2
          unfold lenLid at h2
          simp [Str.length, List.length_flatten] at h2 ⊢
          have e : (List.map ((fun x => x.cps.size) ∘ fun x => ({ cps := x.toArray } : Str)) (strsV xs).1) = List.map List.length (strsV xs).1 := by
            apply List.map_congr_left; intro a _; simp
          rw [e]; omega
        · rw [glued_nil]; unfold Rep; exact ⟨_, rfl⟩
      · exact h.elim
    · rename_i hn2
      rw [if_neg hn2]
      split at h
      · rename_i hn3
        subst hn3
        split at h
        · rename_i b x
          unfold Rep at ro
          obtain ⟨t, rfl⟩ := ro
          refine ⟨"bytes", "bytes.decode", FB.plainAttrs_bytes, FB.slot_bytes_decode, FB.type_bytes_decode, typeIs_bytes _ _ _, fun a e => (by cases e), fun ws h' tk kk r => ?_⟩
          obtain ⟨v, vs, rfl, r1, r2⟩ := reps_cons r
          cases reps_nil r2
          unfold Rep at r1
          obtain ⟨t2, rfl⟩ := r1
          simp only [if_true]
          have ex : (⟨x.toArray⟩ : Str) = PySem.Str.ofString "ascii" := by rw [h.2.2]; decide +kernel
          rw [ex]
          exact decode_ok h.1 h.2.1
        · exact h.elim
      · rename_i hn3
        rw [if_neg hn3]
        split at h
        · rename_i hn4
          subst hn4
          split at h
          · rename_i wv i
            unfold Rep at ro
            subst ro
            obtain ⟨⟨a, ob, rfl, ga, cls, dn⟩, _⟩ := B.get A s wo i 0 kb h
            refine ⟨"dict", "dict.get", F.plainAttrs_dict, F.slot_dict_get, F.type_dict_get, ⟨ob, ga, cls⟩, fun a' e => (by cases e; exact ⟨ob, ga, dn⟩), fun ws h' tk kk r => ?_⟩
            obtain ⟨v, vs, rfl, r1, r2⟩ := reps_cons r
            cases reps_nil r2
            unfold Rep at r1
            obtain ⟨t, rfl⟩ := r1
            simp only [if_true]
            exact (B.get A { s with heap := h', toks := tk } _ i t (kb.trans kk) h).2.mono fun v h'' _ q => q mu
          · exact h.elim
        · exact h.elim
end
end Mine
namespace Mine
open PySem PySem.W PyProof.Rows PySem.Calls
section
variable {prog : Program} {w : World} {hb : Heap} {mg mb : Str → Option Value} {g : Cfg} {d : Nat}
variable {n : Nat} {env : Env} {l : Ls} {mu : List Addr} {s : Shared} {A : Around}

theorem comp_form {k : Kd} {elt : Expr} {gens : List Comprehension} {scope : Scope} {p : Pos} (h : (ev g k (n + 1) l (.ListComp elt gens scope p)).2) : ∃ x px it ifs, gens = [⟨.Name x px, it, ifs, 0⟩] := by
  rcases gens with _ | ⟨⟨t, it, ifs, a⟩, _ | ⟨c2, r⟩⟩
  · exact h.elim
  · cases t with
    | Name x px =>
      cases a with
      | ofNat a =>
        cases a with
        | zero => exact ⟨x, px, it, ifs, rfl⟩
        | succ a => exact False.elim h
      | negSucc a => exact False.elim h
    | _ => exact False.elim h
  · cases t with
    | Name x px =>
      cases a with
      | ofNat a => cases a <;> exact False.elim h
      | negSucc a => exact False.elim h
    | _ => exact False.elim h
theorem name_ok (B : Base prog w hb mg mb g d) {x : Str} {p : Pos} (X : At w hb d mu A s env l) (h : (ev g env.kindOf (n + 1) l (.Name x p)).2) :
    Tr prog w A (eval (.Name x p) env) s (fun v h' => Rep w.params mu h' (ev g env.kindOf (n + 1) l (.Name x p)).1 v) := by
  cases e : l.at x with
  | some v =>
    obtain ⟨hn, wv, r, rep⟩ := X.fm.read x v e
    rw [ev_nameL e]
    exact tr_name X.fm.kind hn r rep
  | none =>
    cases e2 : g.gl x with
    | none => rw [ev_nameN e e2] at h; exact h.elim
    | some v =>
      rw [ev_nameG e e2] at h ⊢
      obtain ⟨wv, hv, hr⟩ := B.gl x v e2
      refine tr_global B X.base X.fm h hv ?_
      rcases hr with ⟨i, t, rfl, rfl⟩ | rfl
      · unfold Rep; exact ⟨_, rfl⟩
      · unfold Rep; rfl
theorem tr_slice (S : Snd prog w hb g d n) {lo hi st : Option Expr} {p : Pos} (X : At w hb d mu A s env l) (h1 : (evO g env.kindOf n l lo).2) (h2 : (evO g env.kindOf n l hi).2) (h3 : (evO g env.kindOf n l st).2) :
    Tr prog w A (eval (.Slice lo hi st p) env) s (fun v h' => ∃ sl wl wh wt, v = .ref sl ∧ h'.get? sl = some { cls := .type "slice", data := .fields #[wl, wh, wt] } ∧ Rep w.params mu h' (evO g env.kindOf n l lo).1 wl ∧ Rep w.params mu h' (evO g env.kindOf n l hi).1 wh ∧ Rep w.params mu h' (evO g env.kindOf n l st).1 wt) := by
  refine Tr.of fun R k => wpAny_Slice ((S.evO X h1).use fun v1 h' t1 k1 r1 => (S.evO (X.go k1) h2).use fun v2 h'' t2 k2 r2 => (S.evO ((X.go (tk := t1) k1).go k2) h3).use fun v3 h3 t3 k3 r3 => ?_)
  refine k _ _ t3 (k1.trans (k2.trans (k3.trans keepAll_push))) ⟨_, v1, v2, v3, rfl, get_push (by intro e; cases e), (r1.all k2).all (k3.trans keepAll_push), r2.all (k3.trans keepAll_push), r3.all keepAll_push⟩
theorem call_ok (B : Base prog w hb mg mb g d) (S : Snd prog w hb g d n) {f : Str} {p pos : Pos} {args : List Expr} (X : At w hb d mu A s env l) (hs : (evs g env.kindOf n l args).2) (hf : (g.fn f (evs g env.kindOf n l args).1).2) (hk : kindOk env.kindOf f = true) :
    Tr prog w A (eval (.Call (.Name f p) args [] pos) env) s (fun v h' => Rep w.params mu h' (g.fn f (evs g env.kindOf n l args).1).1 v) := by
  obtain ⟨a, o, fd, e, ho, hd, hc⟩ := B.fn f _ hf
  refine tr_call_name (t := fun v => pure v) (tr_global B X.base X.fm hk e fun tk => ?_)
  have X1 := X.go (h' := s.heap) (tk := tk) (fun _ _ e => e)
  have hs' := S.evs (pos := pos) X1 hs
  refine Tr.of fun R k => callWith_function (evalArgs_of hs'.1 (hs'.2.use fun vs h' tk' kk r => ⟨⟨kk _ _ (X.base _ _ ho), hd⟩, ?_⟩))
  exact (hc A { s with heap := h', toks := tk' } mu vs (X.base.trans kk) X.room (X1.go (tk := tk') kk).live r).use fun v h'' tk'' kk' q => k _ _ _ (kk.trans kk') q
theorem blt_ok (B : Base prog w hb mg mb g d) (S : Snd prog w hb g d n) {f : Str} {p pos : Pos} {args : List Expr} (X : At w hb d mu A s env l) (hs : (evs g env.kindOf n l args).2) (hb' : isBlt f = true) (hf : (bltV f (evs g env.kindOf n l args).1).2) (hk : kindOk env.kindOf f = true) :
    Tr prog w A (eval (.Call (.Name f p) args [] pos) env) s (fun v h' => Rep w.params mu h' (bltV f (evs g env.kindOf n l args).1).1 v) := by
  have hmem : f ∈ [("len" : Str), "ord", "chr", "abs", "int", "divmod", "min", "sum"] := List.contains_iff_mem.mp hb'
  have hne : f ≠ "__name__" := by rintro rfl; revert hmem; decide
  have hbf : bootBuiltins f = some (bltFn f) ∧ ((∃ id, bltFn f = .builtin id) ∨ ∃ T, bltFn f = .type T) := by
    simp only [List.mem_cons, List.not_mem_nil, or_false] at hmem
    rcases hmem with rfl | rfl | rfl | rfl | rfl | rfl | rfl | rfl
    · exact ⟨by decide +kernel, .inl ⟨"len", by decide +kernel⟩⟩
    · exact ⟨by decide +kernel, .inl ⟨"ord", by decide +kernel⟩⟩
    · exact ⟨by decide +kernel, .inl ⟨"chr", by decide +kernel⟩⟩
    · exact ⟨by decide +kernel, .inl ⟨"abs", by decide +kernel⟩⟩
    · exact ⟨by decide +kernel, .inr ⟨"int", by decide +kernel⟩⟩
    · exact ⟨by decide +kernel, .inl ⟨"divmod", by decide +kernel⟩⟩
    · exact ⟨by decide +kernel, .inl ⟨"min", by decide +kernel⟩⟩
    · exact ⟨by decide +kernel, .inl ⟨"sum", by decide +kernel⟩⟩
  refine tr_call_name (t := fun v => pure v) (tr_builtin B X.base X.fm hk (B.nob _ (.inl hb')) hne hbf.1 fun tk => ?_)
  have X1 := X.go (h' := s.heap) (tk := tk) (fun _ _ e => e)
  have hs' := S.evs (pos := pos) X1 hs
  exact tr_callWith hbf.2 hs'.1 [] hs'.2 fun vs h' tk' kk r => bltV_ok (s := { s with heap := h', toks := tk' }) hb' hf r (X1.go (tk := tk') kk).live X.room.handled
theorem callN_ok (B : Base prog w hb mg mb g d) (S : Snd prog w hb g d n) (P : ∀ m, n = m + 1 → Snd prog w hb g d m) {f : Str} {p pos : Pos} {args : List Expr} (X : At w hb d mu A s env l) (h : (callNV g env.kindOf n l f args).2) :
    Tr prog w A (eval (.Call (.Name f p) args [] pos) env) s (fun v h' => Rep w.params mu h' (callNV g env.kindOf n l f args).1 v) := by
  unfold callNV at h ⊢
  by_cases hb' : isBlt f = true
  · rw [if_pos hb'] at h ⊢
    exact blt_ok B S X h.1 hb' h.2.1 h.2.2.2
  · rw [if_neg hb'] at h ⊢
    by_cases hl : f = ("list" : Str)
    · rw [if_pos hl] at h ⊢
      split at h
      · rename_i r rp as cp
        by_cases hr : r = ("range" : Str)
        · simp only [hr, if_true] at h ⊢
          cases n with
          | zero => exact h.1.elim
          | succ m =>
            refine (tr_list_range B (P m rfl) X hl h.1 h.2.2).mono fun v h' kk q => ?_
            obtain ⟨a, ws, rfl, _, na, la, ra⟩ := q
            unfold Rep
            exact ⟨a, ws, rfl, na, la, ra⟩
        · rw [if_neg hr] at h; exact h.elim
      · exact h.elim
    · rw [if_neg hl] at h ⊢
      exact call_ok B S X h.1 h.2.1 h.2.2.2
theorem item_ok (S : Snd prog w hb g d n) {a b : Expr} {p : Pos} (hb' : ∀ lo hi st q, b ≠ .Slice lo hi st q) (X : At w hb d mu A s env l) (h : (ev g env.kindOf (n + 1) l (.Subscript a b p)).2) :
    Tr prog w A (eval (.Subscript a b p) env) s (fun v h' => Rep w.params mu h' (ev g env.kindOf (n + 1) l (.Subscript a b p)).1 v) := by
  rw [ev_item hb'] at h ⊢
  refine Tr.of fun R k => Subscript_ ((S.ev X h.1).use fun a h1 t1 k1 ra => (S.ev (X.go k1) h.2.1).use fun b h2 t2 k2 rb => ?_)
  exact (itemV_ok (s := { s with heap := h2, toks := t2 }) h.2.2 (ra.all k2) rb).use fun c h3 t3 k3 rc => k _ h3 t3 (k1.trans (k2.trans k3)) rc
theorem snd_ev (B : Base prog w hb mg mb g d) (S : Snd prog w hb g d n) (P : ∀ m, n = m + 1 → Snd prog w hb g d m) {e : Expr} (X : At w hb d mu A s env l) (h : (ev g env.kindOf (n + 1) l e).2) :
    Tr prog w A (eval e env) s (fun v h' => Rep w.params mu h' (ev g env.kindOf (n + 1) l e).1 v) := by
  cases e with
  | Constant c j p => exact const_ok h
  | Name x p => exact name_ok B X h
  | BinOp a op b p =>
    rw [ev_bin] at h ⊢
    refine Tr.of fun R k => wpAny_BinOp ((S.ev X h.1).use fun a h1 t1 k1 ra => (S.ev (X.go k1) h.2.1).use fun b h2 t2 k2 rb => ?_)
    exact (binV_ok (s := { s with heap := h2, toks := t2 }) h.2.2 (ra.all k2) rb (X.live.keep (k1.trans k2))).use fun c h3 t3 k3 rc => k _ h3 t3 (k1.trans (k2.trans k3)) rc
  | UnaryOp op a p =>
    cases op with
    | USub =>
      rw [ev_neg] at h ⊢
      split at h
      · rename_i i c e
        refine Tr.of fun R k => wpAny_UnaryOp ((S.ev X (by rw [e]; exact h)).use fun v h1 t1 k1 r => ?_)
        rw [e] at r
        unfold Rep at r
        obtain ⟨t, rfl⟩ := r
        exact PySem.P.neg_int (k _ h1 _ k1 (by unfold Rep; exact ⟨_, rfl⟩))
      · exact h.elim
    | Not =>
      rw [ev_not] at h ⊢
      refine Tr.of fun R k => UnaryOp_ ((S.ev X h.1).use fun v h1 t1 k1 r => not_of ((truV_ok (s := { s with heap := h1, toks := t1 }) h.2 r).use fun c h2 t2 k2 e => ?_))
      subst e
      exact k _ h2 t2 (k1.trans k2) (by unfold Rep; rfl)
    | _ => exact h.elim
  | BoolOp op es p =>
    cases op with
    | And => exact h.elim
    | Or =>
      rcases es with _ | ⟨a, _ | ⟨b, _ | ⟨c, r⟩⟩⟩
      · exact h.elim
      · exact h.elim
      · rw [ev_or] at h ⊢
        refine Tr.of fun R k => BoolOp_or ?_
        split at h
        · rename_i ht
          refine (S.ev X h.1).use fun v h1 t1 k1 r => (truV_ok (s := { s with heap := h1, toks := t1 }) h.2 r).use fun c h2 t2 k2 e => ?_
          subst e
          rw [if_pos ht] at k ⊢
          exact k _ h2 t2 (k1.trans k2) (r.all k2)
        · rename_i ht
          refine (S.ev X h.1).use fun v h1 t1 k1 r => (truV_ok (s := { s with heap := h1, toks := t1 }) h.2.1 r).use fun c h2 t2 k2 e => ?_
          subst e
          rw [if_neg ht] at k ⊢
          exact BoolOp_one ((S.ev (X.go (k1.trans k2)) h.2.2).use fun v h3 t3 k3 r => k _ _ _ ((k1.trans k2).trans k3) r)
      · exact h.elim
  | IfExp t a b p =>
    rw [ev_ife] at h ⊢
    refine Tr.of fun R k => IfExp_ ?_
    split at h
    · rename_i ht
      refine (S.evT X h.1).use fun b h' tk kk q => ?_
      subst q
      simp only [ht, if_true] at k ⊢
      exact (S.ev (X.go kk) h.2).use fun b h'' tk' kk' q => k _ _ _ (kk.trans kk') q
    · rename_i ht
      refine (S.evT X h.1).use fun b h' tk kk q => ?_
      subst q
      simp only [ht] at k ⊢
      exact (S.ev (X.go kk) h.2).use fun b h'' tk' kk' q => k _ _ _ (kk.trans kk') q
  | Compare a ops bs p =>
    rcases ops with _ | ⟨op, _ | ⟨o2, r⟩⟩
    · exact h.elim
    · rcases bs with _ | ⟨b, _ | ⟨b2, r⟩⟩
      · exact h.elim
      · rw [ev_cmp] at h ⊢
        refine Tr.of fun R k => wpAny_Compare1 ((S.ev X h.1).use fun a h1 t1 k1 ra => (S.ev (X.go k1) h.2.1).use fun b h2 t2 k2 rb => ?_) h.2.2.2
        refine (cmpV_ok (w := w) (s := { s with heap := h2, toks := t2 }) (g := g) B.mem (X.base.trans (k1.trans k2)) h.2.2.1 (ra.all k2) rb (by have := X.room.units; omega)).use fun c h3 t3 k3 e => ?_
        subst e
        exact k _ h3 t3 (k1.trans (k2.trans k3)) (by unfold Rep; rfl)
      · exact h.elim
    · exact h.elim
  | Subscript a b p =>
    cases b with
    | Slice lo hi st q =>
      rw [ev_cut] at h ⊢
      refine Tr.of fun R k => Subscript_ ((S.ev X h.1).use fun a h1 t1 k1 ra => (tr_slice S (X.go k1) h.2.1 h.2.2.1 h.2.2.2.1).use fun b h2 t2 k2 rb => ?_)
      obtain ⟨sl, wl, wh, wt, rfl, hg, rl, rh, rt⟩ := rb
      exact (cutV_ok (s := { s with heap := h2, toks := t2 }) h.2.2.2.2 (ra.all k2) rl rh rt hg (X.live.keep (k1.trans k2))).use fun c h3 t3 k3 rc => k _ h3 t3 (k1.trans (k2.trans k3)) rc
    | _ => exact item_ok S (fun _ _ _ _ => Expr.noConfusion) X h
  | List es p =>
    rw [ev_list] at h ⊢
    refine Tr.of fun R k => wpAny_List ((S.evs (pos := p) X h.1).2.use fun vs h1 t1 k1 r => ⟨?_, k _ _ t1 (k1.trans keepAll_push) ?_⟩)
    · have := h.2; unfold lenLid at this; rw [r.length, sizeLine_is]; omega
    · unfold Rep
      exact ⟨_, vs, rfl, (X.go (tk := t1) k1).live.fresh, ⟨_, get_push (by intro e; cases e), rfl, 0, rfl⟩, r.all keepAll_push⟩
  | Tuple es j p =>
    rw [ev_tup] at h ⊢
    refine Tr.of fun R k => wpAny_Tuple ((S.evs (pos := p) X h.1).2.use fun vs h1 t1 k1 r => ⟨?_, k _ _ t1 (k1.trans keepAll_push) ?_⟩)
    · have := h.2; unfold lenLid at this; rw [r.length, sizeLine_is]; omega
    · unfold Rep
      exact ⟨_, vs, rfl, (X.go (tk := t1) k1).live.fresh, ⟨_, get_push (by intro e; cases e), rfl, 0, rfl⟩, r.all keepAll_push⟩
  | ListComp elt gens scope p =>
    obtain ⟨x, px, it, ifs, rfl⟩ := comp_form h
    exact tr_comp S X h
  | Call fe args kw p =>
    cases kw with
    | cons _ _ => cases fe <;> exact h.elim
    | nil =>
      cases fe with
      | Attribute o name ap =>
        rw [ev_meth] at h ⊢
        have hfew := h.2.2.2.2.2
        refine Tr.of fun R k => wpAny_Call_method_lateS (base_ok h.2.2.2.2.1) ?_ h.2.2.2.1 ((S.ev X h.1).use fun ov h1 t1 k1 ro => ?_)
        · have := (S.evs (pos := p) X h.2.1).1
          rw [Bool.and_eq_true, Bool.and_eq_true]
          refine ⟨⟨List.all_eq_true.mpr fun a ha => by rw [this a ha]; rfl, rfl⟩, ?_⟩
          simp; omega
        · have X1 := X.go (tk := t1) k1
          obtain ⟨T, id, pa, sl, ty, tyi, dn, hc⟩ := methV_ok B X1.base h.2.2.1 ro
          refine ⟨T, id, pa, sl, ty, tyi, dn, ?_⟩
          have hs := S.evs (pos := p) X1 h.2.1
          exact (tr_callWith (.inl ⟨_, rfl⟩) hs.1 [ov] hs.2 fun vs h' tk kk r => hc vs h' tk kk r).use fun v h2 t2 k2 q => k _ _ _ (k1.trans k2) q
      | Name f q => exact callN_ok B S P X h
      | _ => exact h.elim
  | _ => exact h.elim
theorem snd_all (B : Base prog w hb mg mb g d) : ∀ n, Snd prog w hb g d n ∧ ∀ m, n = m + 1 → Snd prog w hb g d m
  | 0 => ⟨snd_zero, fun m e => by cases e⟩
  | n + 1 => by
    obtain ⟨S, P⟩ := snd_all B n
    refine ⟨⟨fun X h => snd_ev B S P X h, fun X h => snd_T B S X h, fun X h => snd_And S X h, fun X h => snd_Or S X h, fun X h => snd_O S X h, fun X h => snd_s S X h, fun X h => snd_I B S X h⟩, fun m e => ?_⟩
    cases e; exact S
theorem snd (B : Base prog w hb mg mb g d) (n : Nat) : Snd prog w hb g d n := (snd_all B n).1
end
end Mine
namespace Mine
open PySem PySem.W PyProof.Rows PySem.Calls

theorem at_loc (l : Ls) (x : Str) : l.at x = (l.loc x).map (·.v) := by
  induction l with
  | nil => rfl
  | cons p r ih =>
    obtain ⟨y, u⟩ := p
    simp only [Ls.at, Ls.loc]
    by_cases h : y = x
    · rw [if_pos h, if_pos h]; rfl
    · rw [if_neg h, if_neg h]; exact ih
theorem loc_put {l : Ls} {x : Str} {v : Loc} : ∀ {y : Str}, (l.put x v).loc y = if y = x then some v else l.loc y := by
  induction l with
  | nil =>
    intro y
    simp only [Ls.put, Ls.loc]
    by_cases h : x = y
    · rw [if_pos h, if_pos h.symm]
    · rw [if_neg h, if_neg (Ne.symm h)]
  | cons p r ih =>
    intro y
    obtain ⟨z, u⟩ := p
    simp only [Ls.put]
    by_cases hz : z = x
    · subst hz
      simp only [if_true, Ls.loc]
      by_cases h : z = y
      · subst h; simp
      · rw [if_neg h, if_neg h, if_neg (Ne.symm h)]
    · rw [if_neg hz]
      simp only [Ls.loc]
      by_cases h : z = y
      · subst h; rw [if_pos rfl, if_neg hz, if_pos rfl]
      · rw [if_neg h, if_neg h]; exact ih
theorem put_keys {l : Ls} {x : Str} {v : Loc} : ((l.put x v).map (·.1)) = l.map (·.1) ∨ ((l.put x v).map (·.1) = l.map (·.1) ++ [x] ∧ x ∉ l.map (·.1)) := by
  induction l with
  | nil => exact .inr ⟨rfl, by simp⟩
  | cons p r ih =>
    obtain ⟨z, u⟩ := p
    simp only [Ls.put]
    by_cases hz : z = x
    · rw [if_pos hz]; left; simp [hz]
    · rw [if_neg hz]
      rcases ih with e | ⟨e, n⟩
      · left; simp [e]
      · right; refine ⟨by simp [e], ?_⟩
        simp only [List.map_cons, List.mem_cons, not_or]
        exact ⟨Ne.symm hz, n⟩
theorem put_nodup {l : Ls} {x : Str} {v : Loc} (h : (l.map (·.1)).Nodup) : ((l.put x v).map (·.1)).Nodup := by
  rcases put_keys (l := l) (x := x) (v := v) with e | ⟨e, n⟩
  · rw [e]; exact h
  · rw [e, List.nodup_append]
    refine ⟨h, by simp, fun a ha b hb => ?_⟩
    rcases List.mem_singleton.mp hb with rfl
    rintro rfl; exact n ha
theorem loc_mem {l : Ls} {x : Str} {u : Loc} (h : l.loc x = some u) : x ∈ l.map (·.1) := by
  induction l with
  | nil => cases h
  | cons p r ih =>
    obtain ⟨z, w⟩ := p
    simp only [Ls.loc] at h
    by_cases hz : z = x
    · subst hz; simp
    · rw [if_neg hz] at h; exact List.mem_cons_of_mem _ (ih h)
theorem loc_clean {l : Ls} (hn : (l.map (·.1)).Nodup) {x : Str} {u : Loc} (h : l.clean.loc x = some u) : l.loc x = some u ∧ u.own = false := by
  induction l with
  | nil => cases h
  | cons p r ih =>
    obtain ⟨z, w⟩ := p
    rw [List.map_cons, List.nodup_cons] at hn
    have sub : ∀ {y}, y ∈ (Ls.clean r).map (·.1) → y ∈ r.map (·.1) := fun {y} hy => by
      obtain ⟨q, hq, e⟩ := List.mem_map.mp hy
      exact List.mem_map.mpr ⟨q, (List.mem_filter.mp hq).1, e⟩
    unfold Ls.clean at h ih sub
    rw [List.filter_cons] at h
    split at h
    · rename_i hk
      simp only [Ls.loc] at h ⊢
      by_cases hz : z = x
      · rw [if_pos hz] at h ⊢
        cases h
        exact ⟨rfl, by simpa using hk⟩
      · rw [if_neg hz] at h ⊢; exact ih hn.2 h
    · simp only [Ls.loc]
      by_cases hz : z = x
      · subst hz
        exact absurd (sub (loc_mem h)) hn.1
      · rw [if_neg hz]; exact ih hn.2 h

theorem ns_uniq {h : Heap} {a : Addr} {m m' : Str → Option Value} (x : h.Ns a m) (y : h.Ns a m') (z : Str) : m z = m' z := by
  obtain ⟨o, es, ep, g, dd, _, f⟩ := x
  obtain ⟨o', es', ep', g', dd', _, f'⟩ := y
  rw [g] at g'; cases g'
  rw [dd] at dd'; cases dd'
  rw [← f z, ← f' z]
/-- the state between statements -/
structure Stt (P : Params) (h₀ : Heap) (mc mm : List Addr) (env : Env) (h : Heap) (l : Ls) : Prop where
  kind : env.scope.kind = .function
  glob : env.globals = mainGlobals
  blt : env.builtins = builtinsNs
  keep : KeepAll h₀ h
  new : ∀ a ∈ mm, h₀.get? a = none
  livem : Live mm h
  livec : Live mc h
  apart : ∀ a ∈ mm, a ∉ mc
  hloc : env.locals ∈ mm
  ns : ∃ m, h.Ns env.locals m
  cell : ∀ x, env.kindOf x = some .cell → ∃ c, env.cells.lookup x = some c ∧ c ∈ mm ∧ c ≠ env.locals ∧ ∃ v₀, h.IsCell c v₀
  inj : ∀ x y c, env.kindOf x = some .cell → env.kindOf y = some .cell → env.cells.lookup x = some c → env.cells.lookup y = some c → x = y
  free : ∀ x, env.kindOf x ≠ some .free
  nd : (l.map (·.1)).Nodup
  plain : ∀ x v, l.loc x = some ⟨v, false⟩ → nameOk x = true ∧ ∃ wv, Rd env h x wv ∧ Rep P (mm ++ mc) h v wv
  own : ∀ x v, l.loc x = some ⟨v, true⟩ → nameOk x = true ∧ env.kindOf x = some .local ∧ ∃ a ws xs, v = .list xs ∧ Rd env h x (.ref a) ∧ a ∈ mm ∧ a ≠ env.locals ∧ (∀ y c, env.kindOf y = some .cell → env.cells.lookup y = some c → a ≠ c) ∧
    h.IsList a (List.toArray ws) ∧ Reps P (mm ++ mc) h xs ws
  one : ∀ x y u v, l.loc x = some ⟨u, true⟩ → l.loc y = some ⟨v, true⟩ → x = y

section
variable {prog : Program} {w : World} {hb : Heap} {mg mb : Str → Option Value} {g : Cfg} {d : Nat}
variable {n : Nat} {env : Env} {l : Ls} {mc mm : List Addr} {s : Shared} {A : Around} {h₀ : Heap}

theorem Stt.nmc (S : Stt w.params h₀ mc mm env s.heap l) {a : Addr} (ha : a ∈ mm) : a ∉ mc := S.apart a ha
/-- all names, for a look -/
theorem Stt.full (S : Stt w.params h₀ mc mm env s.heap l) (kb : KeepAll hb h₀) (r : Rm A d) : At w hb d mc A s env l := by
  refine ⟨⟨S.kind, S.glob, S.blt, fun x v e => ?_⟩, S.livec, kb.trans S.keep, r⟩
  rw [at_loc] at e
  obtain ⟨⟨u, b⟩, e', rfl⟩ := Option.map_eq_some_iff.mp e
  cases b with
  | false =>
    obtain ⟨hn, wv, rd, rp⟩ := S.plain x u e'
    exact ⟨hn, wv, rd, rp.sub fun a ha => List.mem_append_right _ ha⟩
  | true =>
    obtain ⟨hn, hk, a, ws, xs, rfl, rd, ha, _, _, hl, rp⟩ := S.own x u e'
    refine ⟨hn, _, rd, ?_⟩
    unfold Rep
    exact ⟨a, ws, rfl, S.nmc ha, hl, rp.sub fun a ha => List.mem_append_right _ ha⟩
/-- the names of what is not written to -/
theorem Stt.cleanAt (S : Stt w.params h₀ mc mm env s.heap l) (kb : KeepAll hb h₀) (r : Rm A d) : At w hb d (mm ++ mc) A s env l.clean := by
  refine ⟨⟨S.kind, S.glob, S.blt, fun x v e => ?_⟩, fun a ha => ?_, kb.trans S.keep, r⟩
  · rw [at_loc] at e
    obtain ⟨⟨u, b⟩, e', rfl⟩ := Option.map_eq_some_iff.mp e
    obtain ⟨e2, q⟩ := loc_clean S.nd e'
    simp only at q; subst q
    exact S.plain x u e2
  · rcases List.mem_append.mp ha with ha | ha
    · exact S.livem a ha
    · exact S.livec a ha
theorem Stt.go (S : Stt w.params h₀ mc mm env s.heap l) {h' : Heap} (k : KeepAll s.heap h') : Stt w.params h₀ mc mm env h' l :=
  { S with
    keep := S.keep.trans k
    livem := S.livem.keep k
    livec := S.livec.keep k
    ns := let ⟨m, e⟩ := S.ns; ⟨m, e.keeps k⟩
    cell := fun x hx => let ⟨c, e, hm, hne, v, o, gg, dd⟩ := S.cell x hx; ⟨c, e, hm, hne, v, o, k _ _ gg, dd⟩
    plain := fun x v e => let ⟨hn, wv, rd, rp⟩ := S.plain x v e; ⟨hn, wv, rd.keep k, rp.all k⟩
    own := fun x v e => let ⟨hn, hk, a, ws, xs, ev, rd, ha, hne, hc, hl, rp⟩ := S.own x v e; ⟨hn, hk, a, ws, xs, ev, rd.keep k, ha, hne, hc, isList_keep hl (fun o => k a o), rp.all k⟩ }
theorem atom_rep {P : Params} {mu : List Addr} {h : Heap} {v : V} {wv : Value} (ha : isAtom v = true) {mu' : List Addr} (r : Rep P mu h v wv) : Rep P mu' h v wv := by
  cases v <;> first | (unfold Rep at r ⊢; exact r) | cases ha
/-- all but the names' own places -/
noncomputable abbrev KeepE (env : Env) (h h' : Heap) : Prop := ∀ b o, b ≠ env.locals → (∀ y c, env.kindOf y = some .cell → env.cells.lookup y = some c → b ≠ c) → h.get? b = some o → h'.get? b = some o
/-- a name is stored -/
theorem Stt.store (S : Stt w.params h₀ mc mm env s.heap l) {x : Str} {v : V} {wv : Value} {Q : Unit → Shared → Prop} {E : Value → Shared → Prop} (hs : storable env.kindOf x = true) (r : Rep w.params (mm ++ mc) s.heap v wv)
    (k : ∀ h' tk, Keep mm s.heap h' → KeepE env s.heap h' → Stt w.params h₀ mc mm env h' (l.put x ⟨v, false⟩) → Q () { s with heap := h', toks := tk }) : wpAny (model prog w) A (storeName env x wv) Q E s := by
  unfold storable at hs
  rw [Bool.and_eq_true, Bool.or_eq_true] at hs
  obtain ⟨hk, hn⟩ := hs
  -- what a change at an address of our own leaves as it is
  have rest : ∀ (b : Addr) (h' : Heap), b ∈ mm → Heap.SameBut b s.heap h' → KeepAll h₀ h' ∧ (∀ u uw, Rep w.params (mm ++ mc) s.heap u uw → Rep w.params (mm ++ mc) h' u uw) ∧ (∀ u uw, Reps w.params (mm ++ mc) s.heap u uw → Reps w.params (mm ++ mc) h' u uw) ∧
      (∀ a, a ∈ mm → a ≠ b → ∃ o, h'.get? a = some o) := fun b h' hb' sb =>
    ⟨fun a o e => sameBut_keep sb a o (by rintro rfl; rw [S.new _ hb'] at e; cases e) (S.keep a o e),
     fun u uw r => r.keep fun a o ha e => sameBut_keep sb a o (by rintro rfl; exact ha (List.mem_append_left _ hb')) e,
     fun u uw r => r.keep fun a o ha e => sameBut_keep sb a o (by rintro rfl; exact ha (List.mem_append_left _ hb')) e,
     fun a ha hne => let ⟨o, e⟩ := S.livem a ha; ⟨o, sameBut_keep sb a o hne e⟩⟩
  rcases hk with hk | hk
  · have hk : env.kindOf x = some .local := by simpa using hk
    obtain ⟨m, hm⟩ := S.ns
    refine wpAny_storeName_local hk hm (fun h' hm' sb => k h' _ (fun b o hb e => sameBut_keep sb b o (by rintro rfl; exact hb S.hloc) e) (fun b o h1 h2 e => sameBut_keep sb b o h1 e) ?_) (by rw [S.kind]; rfl)
    obtain ⟨k0, kr, krs, kl⟩ := rest env.locals h' S.hloc sb
    have rdk : ∀ y wv', y ≠ x → Rd env s.heap y wv' → Rd env h' y wv' := fun y wv' hy rd => by
      rcases rd with ⟨e, m', hm2, hv⟩ | ⟨e, c, lc, o, gg, dd⟩
      · refine .inl ⟨e, _, hm', ?_⟩
        rw [if_neg hy]
        rw [ns_uniq hm hm2 y]; exact hv
      · refine .inr ⟨e, c, lc, o, sameBut_keep sb c o ?_ gg, dd⟩
        rcases e with e | e
        · obtain ⟨c', lc', _, hne, _⟩ := S.cell y e
          rw [lc] at lc'; cases lc'; exact hne
        · exact absurd e (S.free y)
    exact { S with
      keep := k0
      livec := fun a ha => let ⟨o, e⟩ := S.livec a ha; ⟨o, sameBut_keep sb a o (by rintro rfl; exact S.apart _ S.hloc ha) e⟩
      livem := fun a ha => by
        by_cases e : a = env.locals
        · subst e; obtain ⟨o, _, _, gg, _⟩ := hm'; exact ⟨o, gg⟩
        · exact kl a ha e
      ns := ⟨_, hm'⟩
      cell := fun y hy => let ⟨c, e, hc, hne, v0, o, gg, dd⟩ := S.cell y hy; ⟨c, e, hc, hne, v0, o, sameBut_keep sb c o hne gg, dd⟩
      nd := put_nodup S.nd
      plain := fun y u e => by
        rw [loc_put] at e
        by_cases hy : y = x
        · subst hy
          rw [if_pos rfl] at e; cases e
          exact ⟨hn, wv, .inl ⟨hk, _, hm', if_pos rfl⟩, kr _ _ r⟩
        · rw [if_neg hy] at e
          obtain ⟨h1, wv', rd, rp⟩ := S.plain y u e
          exact ⟨h1, wv', rdk y wv' hy rd, kr _ _ rp⟩
      own := fun y u e => by
        rw [loc_put] at e
        by_cases hy : y = x
        · subst hy; rw [if_pos rfl] at e; cases e
        · rw [if_neg hy] at e
          obtain ⟨h1, h2, a, ws, xs, ev, rd, ha, hne, hc, hl, rp⟩ := S.own y u e
          exact ⟨h1, h2, a, ws, xs, ev, rdk y _ hy rd, ha, hne, hc, isList_keep hl (fun o => sameBut_keep sb a o hne), krs _ _ rp⟩
      one := fun y z u v' e1 e2 => by
        rw [loc_put] at e1 e2
        by_cases hy : y = x
        · rw [if_pos hy] at e1; cases e1
        · by_cases hz : z = x
          · rw [if_pos hz] at e2; cases e2
          · rw [if_neg hy] at e1; rw [if_neg hz] at e2; exact S.one y z u v' e1 e2 }
  · have hk : env.kindOf x = some .cell := by simpa using hk
    obtain ⟨c, lc, hc, hne, v0, ic⟩ := S.cell x hk
    refine wpAny_storeName_cell S.kind hk lc ic fun h' ic' sb => k h' _ (fun b o hb e => sameBut_keep sb b o (by rintro rfl; exact hb hc) e) (fun b o h1 h2 e => sameBut_keep sb b o (h2 x c hk lc) e) ?_
    obtain ⟨k0, kr, krs, kl⟩ := rest c h' hc sb
    have rdk : ∀ y wv', y ≠ x → Rd env s.heap y wv' → Rd env h' y wv' := fun y wv' hy rd => by
      rcases rd with ⟨e, m', hm2, hv⟩ | ⟨e, c', lc', o, gg, dd⟩
      · exact .inl ⟨e, m', hm2.at' fun o => sameBut_keep sb _ o (Ne.symm hne), hv⟩
      · refine .inr ⟨e, c', lc', o, sameBut_keep sb c' o ?_ gg, dd⟩
        rintro rfl
        rcases e with e | e
        · exact hy (S.inj y x c' e hk lc' lc)
        · exact absurd e (S.free y)
    exact { S with
      keep := k0
      livec := fun a ha => let ⟨o, e⟩ := S.livec a ha; ⟨o, sameBut_keep sb a o (by rintro rfl; exact S.apart _ hc ha) e⟩
      livem := fun a ha => by
        by_cases e : a = c
        · subst e; obtain ⟨o, gg, _⟩ := ic'; exact ⟨o, gg⟩
        · exact kl a ha e
      ns := let ⟨m, hm⟩ := S.ns; ⟨m, hm.at' fun o => sameBut_keep sb _ o (Ne.symm hne)⟩
      cell := fun y hy => by
        obtain ⟨c', e, hc', hne', v0', o, gg, dd⟩ := S.cell y hy
        by_cases ecc : c' = c
        · subst ecc; exact ⟨c', e, hc', hne', _, ic'⟩
        · exact ⟨c', e, hc', hne', v0', o, sameBut_keep sb c' o ecc gg, dd⟩
      nd := put_nodup S.nd
      plain := fun y u e => by
        rw [loc_put] at e
        by_cases hy : y = x
        · subst hy
          rw [if_pos rfl] at e; cases e
          exact ⟨hn, wv, .inr ⟨.inl hk, c, lc, ic'⟩, kr _ _ r⟩
        · rw [if_neg hy] at e
          obtain ⟨h1, wv', rd, rp⟩ := S.plain y u e
          exact ⟨h1, wv', rdk y wv' hy rd, kr _ _ rp⟩
      own := fun y u e => by
        rw [loc_put] at e
        by_cases hy : y = x
        · subst hy; rw [if_pos rfl] at e; cases e
        · rw [if_neg hy] at e
          obtain ⟨h1, h2, a, ws, xs, ev, rd, ha, hne', hc', hl, rp⟩ := S.own y u e
          exact ⟨h1, h2, a, ws, xs, ev, rdk y _ hy rd, ha, hne', hc', isList_keep hl (fun o => sameBut_keep sb a o (hc' x c hk lc)), krs _ _ rp⟩
      one := fun y z u v' e1 e2 => by
        rw [loc_put] at e1 e2
        by_cases hy : y = x
        · rw [if_pos hy] at e1; cases e1
        · by_cases hz : z = x
          · rw [if_pos hz] at e2; cases e2
          · rw [if_neg hy] at e1; rw [if_neg hz] at e2; exact S.one y z u v' e1 e2 }
end
end Mine
namespace Mine
open PySem PySem.W PyProof.Rows PySem.Calls
section
variable {prog : Program} {w : World} {hb : Heap} {mg mb : Str → Option Value} {g : Cfg} {d : Nat}
variable {n : Nat} {env : Env} {l : Ls} {mc mm : List Addr} {s : Shared} {A : Around} {h₀ : Heap}

theorem atoms_rep {P : Params} {mu mu' : List Addr} {h h' : Heap} : ∀ {xs : List V} {ws : List Value}, (∀ v ∈ xs, isAtom v = true) → Reps P mu h xs ws → Reps P mu' h' xs ws
  | [], ws, _, r => by unfold Reps at r ⊢; exact r
  | x :: xs, ws, ha, r => by
    unfold Reps at r ⊢
    obtain ⟨v, vs, e, r1, r2⟩ := r
    refine ⟨v, vs, e, ?_, atoms_rep (fun v hv => ha v (.tail _ hv)) r2⟩
    have := ha x (.head _)
    cases x <;> first | (unfold Rep at r1 ⊢; exact r1) | cases this
/-- one more address of our own -/
theorem Stt.addr (S : Stt w.params h₀ mc mm env s.heap l) {h : Heap} {a : Addr} (kk : KeepAll s.heap h) (ha : s.heap.get? a = none) (hl : ∃ o, h.get? a = some o) : Stt w.params h₀ mc (a :: mm) env h l := by
  have hmu : ∀ b, b ∈ (a :: mm) ++ mc → b ∈ mm ++ mc ∨ s.heap.get? b = none := fun b hb => by
    rcases List.mem_cons.mp hb with rfl | hb
    · exact .inr ha
    · exact .inl hb
  have T := S.go kk
  exact { T with
    new := fun b hb => by
      rcases List.mem_cons.mp hb with rfl | hb
      · cases q : h₀.get? b with
        | none => rfl
        | some o => have := S.keep _ _ q; rw [ha] at this; cases this
      · exact S.new b hb
    livem := fun b hb => by
      rcases List.mem_cons.mp hb with rfl | hb
      · exact hl
      · exact T.livem b hb
    hloc := .tail _ S.hloc
    apart := fun b hb q => by
      rcases List.mem_cons.mp hb with rfl | hb
      · obtain ⟨o, e⟩ := S.livec b q; rw [ha] at e; cases e
      · exact S.apart b hb q
    cell := fun x hx => let ⟨c, e, hm, r⟩ := T.cell x hx; ⟨c, e, .tail _ hm, r⟩
    plain := fun x v e => let ⟨hn, wv, rd, rp⟩ := S.plain x v e; ⟨hn, wv, rd.keep kk, (rp.more hmu).all kk⟩
    own := fun x v e => let ⟨hn, hk, a', ws, xs, ev, rd, ha', hne, hc, hl', rp⟩ := S.own x v e; ⟨hn, hk, a', ws, xs, ev, rd.keep kk, .tail _ ha', hne, hc, isList_keep hl' (fun o => kk a' o), (rp.more hmu).all kk⟩ }
theorem Stt.storeOwn (S : Stt w.params h₀ mc mm env s.heap l) {x : Str} {a : Addr} {xs : List V} {ws : List Value} {Q : Unit → Shared → Prop} {E : Value → Shared → Prop} (hk : env.kindOf x = some .local) (hn : nameOk x = true)
    (ham : a ∈ mm) (hal : a ≠ env.locals) (hac : ∀ y c, env.kindOf y = some .cell → env.cells.lookup y = some c → a ≠ c) (hlist : s.heap.IsList a (List.toArray ws)) (hr : Reps w.params (mm ++ mc) s.heap xs ws)
    (hone : ∀ y u, l.loc y = some ⟨u, true⟩ → y = x)
    (k : ∀ h' tk, Keep mm s.heap h' → Stt w.params h₀ mc mm env h' (l.put x ⟨.list xs, true⟩) → Q () { s with heap := h', toks := tk }) : wpAny (model prog w) A (storeName env x (.ref a)) Q E s := by
  obtain ⟨m, hm⟩ := S.ns
  refine wpAny_storeName_local hk hm (fun h' hm' sb => k h' _ (fun b o hb e => sameBut_keep sb b o (by rintro rfl; exact hb S.hloc) e) ?_) (by rw [S.kind]; rfl)
  have kr : ∀ u uw, Rep w.params (mm ++ mc) s.heap u uw → Rep w.params (mm ++ mc) h' u uw := fun u uw r => r.keep fun a o ha e => sameBut_keep sb a o (by rintro rfl; exact ha (List.mem_append_left _ S.hloc)) e
  have krs : ∀ u uw, Reps w.params (mm ++ mc) s.heap u uw → Reps w.params (mm ++ mc) h' u uw := fun u uw r => r.keep fun a o ha e => sameBut_keep sb a o (by rintro rfl; exact ha (List.mem_append_left _ S.hloc)) e
  have rdk : ∀ y wv', y ≠ x → Rd env s.heap y wv' → Rd env h' y wv' := fun y wv' hy rd => by
    rcases rd with ⟨e, m', hm2, hv⟩ | ⟨e, c, lc, o, gg, dd⟩
    · refine .inl ⟨e, _, hm', ?_⟩
      rw [if_neg hy]
      rw [ns_uniq hm hm2 y]; exact hv
    · refine .inr ⟨e, c, lc, o, sameBut_keep sb c o ?_ gg, dd⟩
      rcases e with e | e
      · obtain ⟨c', lc', _, hne, _⟩ := S.cell y e
        rw [lc] at lc'; cases lc'; exact hne
      · exact absurd e (S.free y)
  exact { S with
    keep := fun a o e => sameBut_keep sb a o (by rintro rfl; rw [S.new _ S.hloc] at e; cases e) (S.keep a o e)
    livec := fun a ha => let ⟨o, e⟩ := S.livec a ha; ⟨o, sameBut_keep sb a o (by rintro rfl; exact S.apart _ S.hloc ha) e⟩
    livem := fun a ha => by
      by_cases e : a = env.locals
      · subst e; obtain ⟨o, _, _, gg, _⟩ := hm'; exact ⟨o, gg⟩
      · obtain ⟨o, e2⟩ := S.livem a ha; exact ⟨o, sameBut_keep sb a o e e2⟩
    ns := ⟨_, hm'⟩
    cell := fun y hy => let ⟨c, e, hc, hne, v0, o, gg, dd⟩ := S.cell y hy; ⟨c, e, hc, hne, v0, o, sameBut_keep sb c o hne gg, dd⟩
    nd := put_nodup S.nd
    plain := fun y u e => by
      rw [loc_put] at e
      by_cases hy : y = x
      · rw [if_pos hy] at e; cases e
      · rw [if_neg hy] at e
        obtain ⟨h1, wv', rd, rp⟩ := S.plain y u e
        exact ⟨h1, wv', rdk y wv' hy rd, kr _ _ rp⟩
    own := fun y u e => by
      rw [loc_put] at e
      by_cases hy : y = x
      · subst hy; rw [if_pos rfl] at e; cases e
        exact ⟨hn, hk, a, ws, xs, rfl, .inl ⟨hk, _, hm', if_pos rfl⟩, ham, hal, hac, isList_keep hlist (fun o => sameBut_keep sb a o hal), krs _ _ hr⟩
      · rw [if_neg hy] at e
        exact absurd (hone y u e) hy
    one := fun y z u v' e1 e2 => by
      rw [loc_put] at e1 e2
      by_cases hy : y = x
      · by_cases hz : z = x
        · rw [hy, hz]
        · rw [if_neg hz] at e2; exact absurd (hone z v' e2) hz
      · rw [if_neg hy] at e1; exact absurd (hone y u e1) hy }
/-- a list of our own is written to -/
theorem Stt.write (S : Stt w.params h₀ mc mm env s.heap l) {x : Str} {a : Addr} {xs xs' : List V} {ws' : List Value} {h' : Heap} (hx : l.loc x = some ⟨.list xs, true⟩) (rd : Rd env s.heap x (.ref a)) (sb : Heap.SameBut a s.heap h')
    (hlist : h'.IsList a (List.toArray ws')) (hr : Reps w.params (mm ++ mc) s.heap xs' ws') : Stt w.params h₀ mc mm env h' (l.put x ⟨.list xs', true⟩) := by
  obtain ⟨hn, hk, a', ws, xs2, ev, rd', ham, hal, hac, hl0, hr0⟩ := S.own x _ hx
  have : a' = a := by
    rcases rd with ⟨_, m, hm, hv⟩ | ⟨e | e, _⟩
    · rcases rd' with ⟨_, m', hm', hv'⟩ | ⟨e | e, _⟩
      · have := ns_uniq hm hm' x
        rw [hv, hv'] at this; cases this; rfl
      · rw [hk] at e; cases e
      · rw [hk] at e; cases e
    · rw [hk] at e; cases e
    · rw [hk] at e; cases e
  subst this
  have kr : ∀ u uw, Rep w.params (mm ++ mc) s.heap u uw → Rep w.params (mm ++ mc) h' u uw := fun u uw r => r.keep fun b o hb e => sameBut_keep sb b o (by rintro rfl; exact hb (List.mem_append_left _ ham)) e
  have krs : ∀ u uw, Reps w.params (mm ++ mc) s.heap u uw → Reps w.params (mm ++ mc) h' u uw := fun u uw r => r.keep fun b o hb e => sameBut_keep sb b o (by rintro rfl; exact hb (List.mem_append_left _ ham)) e
  have rdk : ∀ y wv', Rd env s.heap y wv' → Rd env h' y wv' := fun y wv' rd => by
    rcases rd with ⟨e, m', hm2, hv⟩ | ⟨e, c, lc, o, gg, dd⟩
    · exact .inl ⟨e, m', hm2.at' fun o => sameBut_keep sb _ o (Ne.symm hal), hv⟩
    · refine .inr ⟨e, c, lc, o, sameBut_keep sb c o ?_ gg, dd⟩
      rcases e with e | e
      · exact Ne.symm (hac y c e lc)
      · exact absurd e (S.free y)
  exact { S with
    keep := fun b o e => sameBut_keep sb b o (by rintro rfl; rw [S.new _ ham] at e; cases e) (S.keep b o e)
    livec := fun b hb => let ⟨o, e⟩ := S.livec b hb; ⟨o, sameBut_keep sb b o (by rintro rfl; exact S.apart _ ham hb) e⟩
    livem := fun b hb => by
      by_cases e : b = a'
      · subst e; obtain ⟨o, gg, _⟩ := hlist; exact ⟨o, gg⟩
      · obtain ⟨o, e2⟩ := S.livem b hb; exact ⟨o, sameBut_keep sb b o e e2⟩
    ns := let ⟨m, hm⟩ := S.ns; ⟨m, hm.at' fun o => sameBut_keep sb _ o (Ne.symm hal)⟩
    cell := fun y hy => let ⟨c, e, hc, hne, v0, o, gg, dd⟩ := S.cell y hy; ⟨c, e, hc, hne, v0, o, sameBut_keep sb c o (Ne.symm (hac y c hy e)) gg, dd⟩
    nd := put_nodup S.nd
    plain := fun y u e => by
      rw [loc_put] at e
      by_cases hy : y = x
      · rw [if_pos hy] at e; cases e
      · rw [if_neg hy] at e
        obtain ⟨h1, wv', rd, rp⟩ := S.plain y u e
        exact ⟨h1, wv', rdk y wv' rd, kr _ _ rp⟩
    own := fun y u e => by
      rw [loc_put] at e
      by_cases hy : y = x
      · subst hy; rw [if_pos rfl] at e; cases e
        exact ⟨hn, hk, a', ws', xs', rfl, rdk _ _ rd', ham, hal, hac, hlist, krs _ _ hr⟩
      · rw [if_neg hy] at e
        exact absurd (S.one y x u _ e hx) hy
    one := fun y z u v' e1 e2 => by
      rw [loc_put] at e1 e2
      by_cases hy : y = x
      · by_cases hz : z = x
        · rw [hy, hz]
        · rw [if_neg hz] at e2; exact absurd (S.one z x _ _ e2 hx) hz
      · rw [if_neg hy] at e1; exact absurd (S.one y x _ _ e1 hx) hy }
theorem Stt.same {l' : Ls} {h : Heap} (S : Stt w.params h₀ mc mm env h l) (e : ∀ x, l'.loc x = l.loc x) (hn : (l'.map (·.1)).Nodup) : Stt w.params h₀ mc mm env h l' :=
  { S with
    nd := hn
    plain := fun x v h => S.plain x v (by rw [← e]; exact h)
    own := fun x v h => S.own x v (by rw [← e]; exact h)
    one := fun x y u v h1 h2 => S.one x y u v (by rw [← e]; exact h1) (by rw [← e]; exact h2) }
theorem reps_set {P : Params} {mu : List Addr} {h : Heap} {v : V} {wv : Value} (r : Rep P mu h v wv) : ∀ {xs : List V} {ws : List Value} (i : Nat), Reps P mu h xs ws → Reps P mu h (xs.set i v) (ws.set i wv)
  | [], ws, i, q => by unfold Reps at q; subst q; simp [Reps]
  | x :: xs, ws, i, q => by
    obtain ⟨y, ys, rfl, q1, q2⟩ := reps_cons q
    cases i with
    | zero => show Reps P mu h (v :: xs) (wv :: ys); unfold Reps; exact ⟨_, _, rfl, r, q2⟩
    | succ i => show Reps P mu h (x :: xs.set i v) (y :: ys.set i wv); unfold Reps; exact ⟨_, _, rfl, q1, reps_set r i q2⟩
theorem swap_cases {x y : Str} {px py tp : Pos} {k : Nat} {e : Expr} (hf : env.scope.kind = .function) (h : constTup e = false) :
    swappedStores [.Tuple [.Name x px, .Name y py] k tp] e env = pure none ∨ swappedStores [.Tuple [.Name x px, .Name y py] k tp] e env = pure (some [x, y]) := by
  cases e with
  | Tuple vs k2 p2 =>
    have h : vs.all (constantsAlone 8) = false := h
    unfold swappedStores
    dsimp only
    split
    · exact .inl rfl
    · split
      · exact .inl rfl
      · split
        · exact .inl rfl
        · split
          · exact .inl rfl
          · rw [h]
            right
            rename_i hnm _
            have e1 : (Expr.Name x px).pos = px := rfl
            by_cases h1 : env.kindOf x = some .local <;> by_cases h2 : env.kindOf y = some .local <;> by_cases h3 : py.line = px.line <;>
              first
                | (simp [h1, h2, h3, e1]; done)
                | (exfalso; apply hnm; simp [h1, h2, h3, e1]; done)
  | _ => exact .inl rfl
end
end Mine
namespace Mine
open PySem PySem.W PyProof.Rows PySem.Calls
section
variable {prog : Program} {w : World} {hb : Heap} {mg mb : Str → Option Value} {g : Cfg} {d : Nat}
variable {n : Nat} {env : Env} {l : Ls} {mc mm : List Addr} {s : Shared} {A : Around} {h₀ : Heap}

noncomputable abbrev Grow (mm : List Addr) (h : Heap) (mm' : List Addr) : Prop := ∀ a ∈ mm', a ∈ mm ∨ h.get? a = none
/-- how a statement ends -/
noncomputable def FinS (w : World) (h₀ : Heap) (mc mm : List Addr) (env : Env) (r : Fl × Ls × Prop) (s : Shared) (f : Flow) (s' : Shared) : Prop :=
  ∃ h' tk, s' = { s with heap := h', toks := tk } ∧ Keep mm s.heap h' ∧ match r.1 with
    | .next => f = .next ∧ ∃ mm', Grow mm s.heap mm' ∧ Stt w.params h₀ mc mm' env h' r.2.1
    | .ret v => KeepAll h₀ h' ∧ ∃ wv, f = .ret wv ∧ Rep w.params mc h' v wv
variable (prog w hb g d)
structure Sx (n : Nat) : Prop where
  ex : ∀ {h₀ mc env l mm s A st}, KeepAll hb h₀ → Stt w.params h₀ mc mm env s.heap l → Rm A d → (ex g env.kindOf n l st).2.2 → wpAny (model prog w) A (exec st env) (FinS w h₀ mc mm env (ex g env.kindOf n l st) s) (fun _ _ => False) s
  exs : ∀ {h₀ mc env l mm s A ss}, KeepAll hb h₀ → Stt w.params h₀ mc mm env s.heap l → Rm A d → (exs g env.kindOf n l ss).2.2 → wpAny (model prog w) A (execs ss env) (FinS w h₀ mc mm env (exs g env.kindOf n l ss) s) (fun _ _ => False) s
variable {prog w hb g d}
theorem Keep.trans' {h h1 h2 : Heap} {mm1 : List Addr} (k : Keep mm h h1) (gr : Grow mm h mm1) (k2 : Keep mm1 h1 h2) : Keep mm h h2 := fun b o hb e =>
  k2 b o (fun q => by rcases gr b q with q | q; exact hb q; rw [e] at q; cases q) (k b o hb e)
theorem Grow.trans {h h1 : Heap} {mm1 mm2 : List Addr} (k : Keep mm h h1) (g1 : Grow mm h mm1) (g2 : Grow mm1 h1 mm2) : Grow mm h mm2 := fun a ha => by
  rcases g2 a ha with q | q
  · exact g1 a q
  · cases e : h.get? a with
    | none => exact .inr rfl
    | some o =>
      by_cases hm : a ∈ mm
      · exact .inl hm
      · rw [k a o hm e] at q; cases q
theorem Grow.refl {h : Heap} : Grow mm h mm := fun _ h => .inl h
theorem evS_ok (B : Base prog w hb mg mb g d) (kb : KeepAll hb h₀) (S : Stt w.params h₀ mc mm env s.heap l) (r : Rm A d) {e : Expr} (h : (evS g env.kindOf n l e).2) :
    Tr prog w A (eval e env) s (fun v h' => Rep w.params (mm ++ mc) h' (evS g env.kindOf n l e).1 v) := by
  unfold evS at h ⊢
  dsimp only at h ⊢
  split at h
  · rename_i ha
    rw [if_pos ha]
    exact ((snd B n).ev (S.full kb r) h).mono fun v h' _ q => atom_rep ha q
  · rename_i ha
    rw [if_neg ha]
    exact (snd B n).ev (S.cleanAt kb r) h
/-- from a store to the end of a statement -/
theorem fin_store {x : Str} {v : V} {wv : Value} {s₀ : Shared} {tk : Nat} {h1 : Heap} (S : Stt w.params h₀ mc mm env h1 l) (k1 : Keep mm s₀.heap h1) (hs : storable env.kindOf x = true) (r : Rep w.params (mm ++ mc) h1 v wv) {c : Prop} :
    wpAny (model prog w) A (storeName env x wv) (fun _ => FinS w h₀ mc mm env (.next, l.put x ⟨v, false⟩, c) s₀ .next) (fun _ _ => False) { s₀ with heap := h1, toks := tk } :=
  Stt.store (s := { s₀ with heap := h1, toks := tk }) S hs r fun h' tk' kk _ T => ⟨h', tk', rfl, fun b o hb e => kk b o hb (k1 b o hb e), rfl, mm, Grow.refl, T⟩
theorem swaps_pure (value : Expr) (x : Str) (p : Pos) (line : Nat) (env : Env) : (∃ elt gens scope pos, value = .ListComp elt gens scope pos) ∨ (∃ elt gens scope pos, value = .SetComp elt gens scope pos) ∨ (∃ a elt gens scope pos, value = .DictComp a elt gens scope pos) ∨ swapsWith value (some (.Name x p)) line env = pure false := by
  cases value <;> first | exact .inl ⟨_, _, _, _, rfl⟩ | exact .inr (.inl ⟨_, _, _, _, rfl⟩) | exact .inr (.inr (.inl ⟨_, _, _, _, _, rfl⟩)) | exact .inr (.inr (.inr rfl))
theorem swaps_comp (elt : Expr) (gens : List Comprehension) (scope : Scope) (pos : Pos) (x : Str) (p : Pos) (line : Nat) (env : Env) :
    swapsWith (.ListComp elt gens scope pos) (some (.Name x p)) line env = pure true ∨ swapsWith (.ListComp elt gens scope pos) (some (.Name x p)) line env = pure false := by
  unfold swapsWith
  dsimp only
  generalize (env.blockKind == .function && env.kindOf x == some .local && p.line == (PySem.Expr.ListComp elt gens scope pos).pos.line && !(scope.names.any fun (n, k) => n == x && (k == .local || k == .cell))) = b
  cases b
  · exact .inr rfl
  · exact .inl rfl
theorem Stt.drop {C : Addr} {m : Str → Option Value} {h h' : Heap} (S : Stt w.params h₀ mc (C :: mm) env h l) (hm : h.Ns C m) (sb : Heap.SameBut C h h') (hCm : C ∉ mm) (h1 : C ≠ env.locals) (h2 : ∀ y c, env.kindOf y = some .cell → env.cells.lookup y = some c → C ≠ c) : Stt w.params h₀ mc mm env h' l := by
  have sub : ∀ a, a ∈ mm ++ mc → a ∈ (C :: mm) ++ mc := fun a ha => .tail _ ha
  have fC : h₀.get? C = none := S.new C (.head _)
  have rdk : ∀ y wv', Rd env h y wv' → Rd env h' y wv' := fun y wv' rd => by
    rcases rd with ⟨e, m', hm2, hv⟩ | ⟨e, c, lc, o, gg, dd⟩
    · exact .inl ⟨e, m', hm2.at' fun o => sameBut_keep sb _ o (Ne.symm h1), hv⟩
    · refine .inr ⟨e, c, lc, o, sameBut_keep sb c o ?_ gg, dd⟩
      rcases e with e | e
      · exact Ne.symm (h2 y c e lc)
      · exact absurd e (S.free y)
  have kr : ∀ u uw, Rep w.params ((C :: mm) ++ mc) h u uw → Rep w.params (mm ++ mc) h' u uw := fun u uw r => (r.keep fun b o hb e => sameBut_keep sb b o (fun q => hb (q ▸ .head _)) e).sub sub
  have krs : ∀ u uw, Reps w.params ((C :: mm) ++ mc) h u uw → Reps w.params (mm ++ mc) h' u uw := fun u uw r => (r.keep fun b o hb e => sameBut_keep sb b o (fun q => hb (q ▸ .head _)) e).sub sub
  exact { S with
    keep := fun b o e => sameBut_keep sb b o (by rintro rfl; rw [fC] at e; cases e) (S.keep b o e)
    new := fun a ha => S.new a (.tail _ ha)
    livec := fun b hb => let ⟨o, e⟩ := S.livec b hb; ⟨o, sameBut_keep sb b o (by rintro rfl; exact S.apart _ (.head _) hb) e⟩
    apart := fun a ha => S.apart a (.tail _ ha)
    livem := fun a ha => by
      by_cases e : a = C
      · exact absurd (e ▸ ha) hCm
      · obtain ⟨o, e2⟩ := S.livem a (.tail _ ha); exact ⟨o, sameBut_keep sb a o e e2⟩
    hloc := by
      rcases List.mem_cons.mp S.hloc with q | q
      · exact absurd q.symm h1
      · exact q
    ns := let ⟨m, hm⟩ := S.ns; ⟨m, hm.at' fun o => sameBut_keep sb _ o (Ne.symm h1)⟩
    cell := fun y hy => by
      obtain ⟨c, e, hc, hne, v0, o, gg, dd⟩ := S.cell y hy
      have := h2 y c hy e
      refine ⟨c, e, ?_, hne, v0, o, sameBut_keep sb c o (Ne.symm this) gg, dd⟩
      rcases List.mem_cons.mp hc with q | q
      · exact absurd q.symm this
      · exact q
    plain := fun y u e => let ⟨h1, wv', rd, rp⟩ := S.plain y u e; ⟨h1, wv', rdk y wv' rd, kr _ _ rp⟩
    own := fun y u e => by
      obtain ⟨h1, h2, a, ws, xs, ev, rd, ha, hne', hc', hl, rp⟩ := S.own y u e
      have haC : a ≠ C := by
        rintro rfl
        obtain ⟨o, g1, _, z, q⟩ := hl
        obtain ⟨o', es, ep, g2, q', _⟩ := hm
        rw [g1] at g2; cases g2
        rw [q] at q'; cases q'
      refine ⟨h1, h2, a, ws, xs, ev, rdk y _ rd, ?_, hne', hc', isList_keep hl (fun o => sameBut_keep sb a o haC), krs _ _ rp⟩
      rcases List.mem_cons.mp ha with q | q
      · exact absurd q haC
      · exact q }
end
end Mine
namespace Mine
open PySem PySem.W PyProof.Rows PySem.Calls
section
variable {prog : Program} {w : World} {hb : Heap} {mg mb : Str → Option Value} {g : Cfg} {d : Nat}
variable {n : Nat} {env : Env} {l : Ls} {mc mm : List Addr} {s : Shared} {A : Around} {h₀ : Heap}

theorem ev_comp_form {e : Expr} {l : Ls} {k : Kd} {elt : Expr} {gens : List Comprehension} {scope : Scope} {pos : Pos} (he : e = .ListComp elt gens scope pos) (h : (ev g k n l e).2) :
    ∃ m x px it ifs, n = m + 1 ∧ gens = [⟨.Name x px, it, ifs, 0⟩] := by
  subst he
  cases n with
  | zero => exact h.elim
  | succ m =>
    obtain ⟨x, px, it, ifs, rfl⟩ := comp_form h
    exact ⟨m, x, px, it, ifs, rfl, rfl⟩
/-- a comprehension on the line of its local name: the name is stored first -/
theorem assign_used (B : Base prog w hb mg mb g d) (kb : KeepAll hb h₀) (S : Stt w.params h₀ mc mm env s.heap l) (r : Rm A d) {x : Str} {px : Pos} {elt : Expr} {gens : List Comprehension} {scope : Scope} {pos spos : Pos} {l' : Ls} (X : At w hb d (mm ++ mc) A s env l')
    (h : (ev g env.kindOf n l' (.ListComp elt gens scope pos)).2) (hs : storable env.kindOf x = true) (hsw : swapsWith (.ListComp elt gens scope pos) (some (.Name x px)) spos.line env = pure true) {c : Prop} :
    wpAny (model prog w) A (exec (.Assign [.Name x px] (.ListComp elt gens scope pos) spos) env) (FinS w h₀ mc mm env (.next, l.put x ⟨(ev g env.kindOf n l' (.ListComp elt gens scope pos)).1, false⟩, c) s) (fun _ _ => False) s := by
  obtain ⟨m, y, py, it, ifs, rfl, rfl⟩ := ev_comp_form (g := g) rfl h
  obtain ⟨p, f, ee, hq, hx, hnx, hso, hlen, hT, hE⟩ := comp_parts (snd B m) X h
  rw [ee, exec_Assign_Name_used _ _ _ _ hsw]
  refine wpAny_bind (wpAny_standAt (wpAny_bind ?_))
  show wpAny _ A (do let _ ← comprehension (.ListComp elt [⟨.Name y py, it, ifs, 0⟩] scope pos) scope env _ (newList []) false (eval it env) (some (assign (.Name x px) env))) _ _ s
  refine wpAny_bind (wpAny_mono (comp_run (use := some (assign (.Name x px) env)) (Q := fun _ s' => FinS w h₀ mc mm env (.next, l.put x ⟨.list (((evI g env.kindOf m l' it).1.filter p).map f), false⟩, c) s .next s') (E := fun _ _ => False) (snd B m) X hq hx hnx hso hlen hT hE ?_) (fun _ s' hq => wpAny_pure (wpAny_pure hq)) fun _ _ e => e)
  intro D C h' tk m' ws fD fC nD nC hCD kk hn hl hr
  show wpAny _ A (assign (.Name x px) env (.ref D)) _ _ _
  have gC : ∃ o, h'.get? C = some o := let ⟨o, _, _, gg, _⟩ := hn; ⟨o, gg⟩
  have S1 := S.addr kk fC gC
  have hr' : Reps w.params ((C :: mm) ++ mc) h' (((evI g env.kindOf m l' it).1.filter p).map f) ws := hr.sub fun a ha => by
    rcases List.mem_cons.mp ha with rfl | ha
    · exact .head _
    · exact .tail _ (.tail _ ha)
  have hD : D ∉ (C :: mm) ++ mc := fun q => by
    rcases List.mem_cons.mp q with q | q
    · exact hCD q.symm
    · exact nD q
  have c1 : C ≠ env.locals := fun q => nC (List.mem_append_left _ (q ▸ S.hloc))
  have c2 : ∀ y c, env.kindOf y = some .cell → env.cells.lookup y = some c → C ≠ c := fun y c hk lc q => by
    obtain ⟨c', lc', hc, _⟩ := S.cell y hk
    rw [lc] at lc'; cases lc'
    exact nC (List.mem_append_left _ (q ▸ hc))
  refine wpAny_assign_Name (Stt.store (s := { s with heap := h', toks := tk }) (v := .list (((evI g env.kindOf m l' it).1.filter p).map f)) S1 hs (by unfold Rep; exact ⟨D, ws, rfl, hD, hl, hr'⟩) fun h2 tk2 k2 ke T => ?_)
  have hn2 : h2.Ns C m' := hn.at' fun o e => ke C o c1 c2 e
  refine ⟨m', hn2, fun h3 sb => ⟨h3, tk2, rfl, fun b o hb' e => ?_, rfl, mm, Grow.refl, T.drop hn2 sb (fun q => nC (List.mem_append_left _ q)) c1 c2⟩⟩
  have hbC : b ≠ C := by rintro rfl; rw [fC] at e; cases e
  exact sameBut_keep sb b o hbC (k2 b o (fun q => by rcases List.mem_cons.mp q with q | q; exact hbC q; exact hb' q) (kk b o e))
theorem ev_not_set {e : Expr} {l : Ls} {k : Kd} (h : (ev g k n l e).2) : (∀ elt gens scope pos, e ≠ .SetComp elt gens scope pos) ∧ (∀ a elt gens scope pos, e ≠ .DictComp a elt gens scope pos) := by
  cases n with
  | zero => exact h.elim
  | succ m => constructor <;> (intros; rintro rfl; exact h.elim)
theorem ex_assign (B : Base prog w hb mg mb g d) (kb : KeepAll hb h₀) (S : Stt w.params h₀ mc mm env s.heap l) (r : Rm A d) {x : Str} {px : Pos} {e : Expr} {spos : Pos} (h : (evS g env.kindOf n l e).2) (hs : storable env.kindOf x = true) {c : Prop} :
    wpAny (model prog w) A (exec (.Assign [.Name x px] e spos) env) (FinS w h₀ mc mm env (.next, l.put x ⟨(evS g env.kindOf n l e).1, false⟩, c) s) (fun _ _ => False) s := by
  have plain : swapsWith e (some (.Name x px)) spos.line env = pure false → wpAny (model prog w) A (exec (.Assign [.Name x px] e spos) env) (FinS w h₀ mc mm env (.next, l.put x ⟨(evS g env.kindOf n l e).1, false⟩, c) s) (fun _ _ => False) s := fun hsw =>
    wpAny_Assign_Name ((evS_ok B kb S r h).use fun v h' tk kk q => fin_store (S.go kk) (fun b o _ e => kk b o e) hs q) hsw
  rcases swaps_pure e x px spos.line env with ⟨elt, gens, scope, pos, rfl⟩ | ⟨elt, gens, scope, pos, rfl⟩ | ⟨a, elt, gens, scope, pos, rfl⟩ | hsw
  · rcases swaps_comp elt gens scope pos x px spos.line env with hsw | hsw
    · -- the value is a list: no atom, so read from the clean names
      unfold evS at h ⊢
      dsimp only at h ⊢
      split at h
      · rename_i ha
        obtain ⟨m, y, py, it, ifs, rfl, rfl⟩ := ev_comp_form (g := g) rfl h
        obtain ⟨p, f, ee, _⟩ := comp_parts (snd B m) (S.full kb r) h
        rw [ee] at ha; cases ha
      · rename_i ha
        rw [if_neg ha]
        exact assign_used B kb S r (S.cleanAt kb r) h hs hsw
    · exact plain hsw
  · unfold evS at h
    dsimp only at h
    split at h <;> exact absurd rfl ((ev_not_set h).1 _ _ _ _)
  · unfold evS at h
    dsimp only at h
    split at h <;> exact absurd rfl ((ev_not_set h).2 _ _ _ _ _)
  · exact plain hsw
end
end Mine
namespace Mine
open PySem PySem.W PyProof.Rows PySem.Calls
section
variable {prog : Program} {w : World} {hb : Heap} {mg mb : Str → Option Value} {g : Cfg} {d : Nat}
variable {n : Nat} {env : Env} {l : Ls} {mc mm : List Addr} {s : Shared} {A : Around} {h₀ : Heap}

theorem ex_return (B : Base prog w hb mg mb g d) (kb : KeepAll hb h₀) (S : Stt w.params h₀ mc mm env s.heap l) (r : Rm A d) {e : Expr} {p : Pos} (h : (ev g env.kindOf n l e).2) {c : Prop} :
    wpAny (model prog w) A (exec (.Return (some e) p) env) (FinS w h₀ mc mm env (.ret (ev g env.kindOf n l e).1, l, c) s) (fun _ _ => False) s :=
  wpAny_Return_some (((snd B n).ev (S.full kb r) h).use fun v h' tk kk q => ⟨h', tk, rfl, fun b o _ e => kk b o e, S.keep.trans kk, v, rfl, q⟩)
theorem onlyOwn_loc {x : Str} (h : onlyOwn l x = true) : ∀ y u, l.loc y = some ⟨u, true⟩ → y = x := by
  intro y u e
  unfold onlyOwn at h
  induction l with
  | nil => cases e
  | cons p r ih =>
    obtain ⟨z, t⟩ := p
    rw [List.all_cons, Bool.and_eq_true] at h
    simp only [Ls.loc] at e
    by_cases hz : z = y
    · rw [if_pos hz] at e; cases e
      subst hz
      have := h.1
      simpa using this
    · rw [if_neg hz] at e; exact ih h.2 e
theorem fin_own {x : Str} {a : Addr} {xs : List V} {ws : List Value} {s₀ : Shared} {tk : Nat} {h1 : Heap} (S : Stt w.params h₀ mc mm env s₀.heap l) (kk : KeepAll s₀.heap h1) (hn : nameOk x = true) (hk : env.kindOf x = some .local) (ho : onlyOwn l x = true)
    (fa : s₀.heap.get? a = none) (hl : h1.IsList a (List.toArray ws)) (hr : Reps w.params ((a :: mm) ++ mc) h1 xs ws) {c : Prop} :
    wpAny (model prog w) A (storeName env x (.ref a)) (fun _ => FinS w h₀ mc mm env (.next, l.put x ⟨.list xs, true⟩, c) s₀ .next) (fun _ _ => False) { s₀ with heap := h1, toks := tk } := by
  have S1 := S.addr kk fa (let ⟨o, gg, _⟩ := hl; ⟨o, gg⟩)
  have alive : ∀ b, (∃ o, s₀.heap.get? b = some o) → a ≠ b := fun b ⟨o, e⟩ q => by subst q; rw [fa] at e; cases e
  refine Stt.storeOwn (s := { s₀ with heap := h1, toks := tk }) S1 hk hn (.head _) (alive _ (S.livem _ S.hloc)) (fun y c hk lc => ?_) hl hr (onlyOwn_loc ho) fun h' tk' k2 T => ⟨h', tk', rfl, fun b o hb' e => ?_, rfl, a :: mm, fun b hb => ?_, T⟩
  · obtain ⟨c', lc', hc, _⟩ := S.cell y hk
    rw [lc] at lc'; cases lc'
    exact alive _ (S.livem _ hc)
  · exact k2 b o (fun q => by rcases List.mem_cons.mp q with q | q; subst q; rw [fa] at e; cases e; exact hb' q) (kk b o e)
  · rcases List.mem_cons.mp hb with rfl | hb
    · exact .inr fa
    · exact .inl hb
/-- the two kinds of new lists -/
theorem isNew_form {e : Expr} (h : isNew e = true) : (∃ p, e = .List [] p) ∨ ∃ fp rp as cp pos, e = .Call (.Name "list" fp) [.Call (.Name "range" rp) as [] cp] [] pos := by
  cases e with
  | List es p => cases es with
    | nil => exact .inl ⟨_, rfl⟩
    | cons _ _ => exact absurd (show false = true from h) Bool.false_ne_true
  | Call f as ks pos => cases f with
    | Name x fp => cases as with
      | nil => exact absurd (show false = true from h) Bool.false_ne_true
      | cons a as => cases a with
        | Call f2 as2 ks2 cp => cases f2 with
          | Name r rp => cases ks2 with
            | nil => cases as with
              | nil => cases ks with
                | nil =>
                  have h : (decide (x = ("list" : Str)) && decide (r = ("range" : Str))) = true := h
                  simp only [Bool.and_eq_true, decide_eq_true_eq] at h
                  obtain ⟨rfl, rfl⟩ := h
                  exact .inr ⟨_, _, _, _, _, rfl⟩
                | cons _ _ => exact absurd (show false = true from h) Bool.false_ne_true
              | cons _ _ => exact absurd (show false = true from h) Bool.false_ne_true
            | cons _ _ => exact absurd (show false = true from h) Bool.false_ne_true
          | _ => exact absurd (show false = true from h) Bool.false_ne_true
        | _ => exact absurd (show false = true from h) Bool.false_ne_true
    | _ => exact absurd (show false = true from h) Bool.false_ne_true
  | _ => exact absurd (show false = true from h) Bool.false_ne_true
theorem ints_atoms {vs : List V} {v : V} (hv : v ∈ (rangeOf vs).1) : isAtom v = true := by
  have key : ∀ a b c, v ∈ (rangeV a b c).1.map .int → isAtom v = true := fun a b c h => by
    obtain ⟨i, _, rfl⟩ := List.mem_map.mp h; rfl
  rcases vs with _ | ⟨a, _ | ⟨b, _ | ⟨c, _ | ⟨d', q⟩⟩⟩⟩
  · cases hv
  · cases a
    case int a => exact key _ _ _ hv
    all_goals cases hv
  · cases a
    case int a =>
      cases b
      case int b => exact key _ _ _ hv
      all_goals cases hv
    all_goals cases hv
  · cases a
    case int a =>
      cases b
      case int b =>
        cases c
        case int c => exact key _ _ _ hv
        all_goals cases hv
      all_goals cases hv
    all_goals cases hv
  · cases a <;> cases hv
theorem ex_new (B : Base prog w hb mg mb g d) (kb : KeepAll hb h₀) (S : Stt w.params h₀ mc mm env s.heap l) (r : Rm A d) {x : Str} {px : Pos} {e : Expr} {spos : Pos} (hnew : isNew e = true) (h : (ev g env.kindOf n l.clean e).2) (hk : env.kindOf x = some .local) (hn : nameOk x = true) (ho : onlyOwn l x = true) {c : Prop} :
    wpAny (model prog w) A (exec (.Assign [.Name x px] e spos) env) (FinS w h₀ mc mm env (.next, l.put x ⟨(ev g env.kindOf n l.clean e).1, true⟩, c) s) (fun _ _ => False) s := by
  have X := S.cleanAt kb r
  rcases isNew_form hnew with ⟨p, rfl⟩ | ⟨fp, rp, as, cp, pos, rfl⟩
  · cases n with
    | zero => exact h.elim
    | succ m =>
      cases m with
      | zero => exact h.1.elim
      | succ m =>
        refine wpAny_Assign_Name (wpAny_List (spliced_nil ⟨Nat.zero_le _, ?_⟩)) rfl
        refine fin_own (ws := []) (xs := []) S keepAll_push hn hk ho (fresh_none (Nat.le_refl _)) ⟨_, get_push (by intro e; cases e), rfl, 0, rfl⟩ (by simp [Reps])
  · cases n with
    | zero => exact h.elim
    | succ m =>
      rw [ev_call] at h ⊢
      have e1 : callNV g env.kindOf m l.clean "list" [.Call (.Name "range" rp) as [] cp] = (.list (evI g env.kindOf m l.clean (.Call (.Name "range" rp) as [] cp)).1, (evI g env.kindOf m l.clean (.Call (.Name "range" rp) as [] cp)).2 ∧ l.clean.at "list" = none ∧ kindOk env.kindOf "list" = true) := by
        unfold callNV
        rw [if_neg (by decide), if_pos rfl]
        exact if_pos rfl
      rw [e1] at h ⊢
      cases m with
      | zero => exact h.1.elim
      | succ m =>
        refine wpAny_Assign_Name ((tr_list_range (n := m) B (snd B m) X rfl h.1 h.2.2).use fun v h' tk kk q => ?_) rfl
        obtain ⟨a, ws, rfl, fa, na, hl, hr⟩ := q
        refine fin_own S kk hn hk ho fa hl (atoms_rep (fun v hv => ?_) hr)
        rw [evI_range, if_pos rfl] at hv
        exact ints_atoms hv
theorem ex_two (B : Base prog w hb mg mb g d) (kb : KeepAll hb h₀) (S : Stt w.params h₀ mc mm env s.heap l) (r : Rm A d) {x y : Str} {px py : Pos} {e : Expr} {spos : Pos} (h : (ev g env.kindOf n l e).2) (ha : isAtom (ev g env.kindOf n l e).1 = true) (hs : storable env.kindOf x = true) (hs2 : storable env.kindOf y = true) {c : Prop} :
    wpAny (model prog w) A (exec (.Assign [.Name x px, .Name y py] e spos) env) (FinS w h₀ mc mm env (.next, (l.put x ⟨(ev g env.kindOf n l e).1, false⟩).put y ⟨(ev g env.kindOf n l e).1, false⟩, c) s) (fun _ _ => False) s := by
  refine wpAny_Assign_two (((snd B n).ev (S.full kb r) h).use fun v h' tk kk q => ?_) rfl rfl
  refine wpAny_assign_Name (Stt.store (s := { s with heap := h', toks := tk }) (S.go kk) hs (atom_rep ha q) fun h2 tk2 k2 _ T => ?_)
  have k2' : Keep mm s.heap h2 := fun b o hb' e => k2 b o hb' (kk b o e)
  exact wpAny_assign_Name (fin_store T k2' hs2 (atom_rep (mu := mc) ha (by
    revert q
    generalize (ev g env.kindOf n l e).1 = u at ha
    intro q
    cases u <;> first | (unfold Rep at q ⊢; exact q) | cases ha)))
theorem inpl_ok {op : Operator} {a b : V} {wa wb : Value} (h : (binV op a b).2) (ha : augOk op a b = true) (ra : Rep w.params mm s.heap a wa) (rb : Rep w.params mm s.heap b wb) :
    isAtom (binV op a b).1 = true ∧ Tr prog w A (inplaceOp op wa wb) s (fun v h => Rep w.params mm h (binV op a b).1 v) := by
  have ii : ∀ {x y : Int}, Rep w.params mm s.heap (.int x) wa → Rep w.params mm s.heap (.int y) wb → (∃ t, wa = .int x t) ∧ ∃ u, wb = .int y u := fun ra rb => by
    unfold Rep at ra rb; exact ⟨ra, rb⟩
  cases op
  case Add =>
    cases a
    case int x =>
      cases b
      case int y =>
        obtain ⟨⟨t, rfl⟩, u, rfl⟩ := ii ra rb
        exact ⟨rfl, Tr.of fun R k => P.iadd_int (k _ s.heap _ (fun _ _ e => e) (by show Rep _ _ _ (.int _) _; unfold Rep; exact ⟨_, rfl⟩))⟩
      all_goals cases ha
    case str x =>
      cases b
      case str y =>
        have h : x.length + y.length ≤ lenLid := h
        unfold Rep at ra rb; obtain ⟨t, rfl⟩ := ra; obtain ⟨u, rfl⟩ := rb
        refine ⟨rfl, Tr.of fun R k => SB.iadd (fun t' m => k _ s.heap m (fun _ _ e => e) (by show Rep _ _ _ (.str _) _; unfold Rep; exact ⟨t', by show Value.str ⟨_⟩ _ = _; simp⟩)) ?_⟩
        simp [Str.length, sizeLine_is]; unfold lenLid at h; omega
      all_goals cases ha
    all_goals cases ha
  case Sub =>
    cases a
    case int x =>
      cases b
      case int y =>
        obtain ⟨⟨t, rfl⟩, u, rfl⟩ := ii ra rb
        exact ⟨rfl, Tr.of fun R k => P.isub_int (k _ s.heap _ (fun _ _ e => e) (by show Rep _ _ _ (.int _) _; unfold Rep; exact ⟨_, rfl⟩))⟩
      all_goals cases ha
    all_goals cases ha
  case Mult =>
    cases a
    case int x =>
      cases b
      case int y =>
        obtain ⟨⟨t, rfl⟩, u, rfl⟩ := ii ra rb
        exact ⟨rfl, Tr.of fun R k => P.imul_int (k _ s.heap _ (fun _ _ e => e) (by show Rep _ _ _ (.int _) _; unfold Rep; exact ⟨_, rfl⟩)) (intMulOk h)⟩
      all_goals cases ha
    all_goals cases ha
  all_goals cases ha
theorem ex_aug (B : Base prog w hb mg mb g d) (kb : KeepAll hb h₀) (S : Stt w.params h₀ mc mm env s.heap l) (r : Rm A d) {x : Str} {px : Pos} {op : Operator} {e : Expr} {spos : Pos} (h : (ev g env.kindOf (n + 1) l (.Name x px)).2) (h2 : (ev g env.kindOf n l e).2) (ha : augOk op (ev g env.kindOf (n + 1) l (.Name x px)).1 (ev g env.kindOf n l e).1 = true)
    (hb2 : (binV op (ev g env.kindOf (n + 1) l (.Name x px)).1 (ev g env.kindOf n l e).1).2) (hx : (l.at x).isSome = true) (hs : storable env.kindOf x = true) {c : Prop} :
    wpAny (model prog w) A (exec (.AugAssign (.Name x px) op e spos) env) (FinS w h₀ mc mm env (.next, l.put x ⟨(binV op (ev g env.kindOf (n + 1) l (.Name x px)).1 (ev g env.kindOf n l e).1).1, false⟩, c) s) (fun _ _ => False) s := by
  have X := S.full kb r
  obtain ⟨v, hv⟩ := Option.isSome_iff_exists.mp hx
  have e1 : (ev g env.kindOf (n + 1) l (.Name x px)).1 = v := by rw [ev_nameL hv]
  rw [e1] at ha hb2 ⊢
  obtain ⟨hn, wv, rd, rep⟩ := X.fm.read x v hv
  refine wpAny_AugAssign_Name ((tr_load (Q := fun u h' => u = wv ∧ h' = s.heap) X.fm.kind hn rd ⟨rfl, rfl⟩).use fun u h1 t1 k1 q => ?_)
  obtain ⟨rfl, rfl⟩ := q
  refine ((snd B n).ev (X.go (tk := t1) k1) h2).use fun b h3 t3 k3 rb => ?_
  have at' := inpl_ok (prog := prog) (A := A) (s := { s with heap := h3, toks := t3 }) hb2 ha (rep.all k3) rb
  refine at'.2.use fun z h4 t4 k4 rz => ?_
  exact fin_store (S.go (k3.trans k4)) (fun b o _ e => (k3.trans k4) b o e) hs (atom_rep at'.1 rz)
theorem ex_sub (B : Base prog w hb mg mb g d) (kb : KeepAll hb h₀) (S : Stt w.params h₀ mc mm env s.heap l) (r : Rm A d) {x : Str} {xp ip : Pos} {i e : Expr} {spos : Pos} {xs : List V} {k : Int} (h : (ev g env.kindOf n l e).2) (h2 : (ev g env.kindOf n l i).2) (hx : l.loc x = some ⟨.list xs, true⟩)
    (ej : (ev g env.kindOf n l i).1 = .int k) (ha : isAtom (ev g env.kindOf n l e).1 = true) (h0 : 0 ≤ k) (h1 : k < xs.length) (hl : xs.length ≤ lenLid) (hsw : swapsWith e (some (.Subscript (.Name x xp) i ip)) spos.line env = pure false) {c : Prop} :
    wpAny (model prog w) A (exec (.Assign [.Subscript (.Name x xp) i ip] e spos) env) (FinS w h₀ mc mm env (.next, l.put x ⟨.list (xs.set k.toNat (ev g env.kindOf n l e).1), true⟩, c) s) (fun _ _ => False) s := by
  have X := S.full kb r
  refine wpAny_Assign_Subscript (((snd B n).ev X h).use fun v h1' t1 k1 rv => ?_) hsw
  have S1 := S.go k1
  obtain ⟨hn, hk, a, ws, xs', ev', rd, ham, hal, hac, hli, hr⟩ := S1.own x _ hx
  cases ev'
  refine (tr_name (s := { s with heap := h1', toks := t1 }) (Q := fun u h' => u = .ref a ∧ h' = h1') S.kind hn rd ⟨rfl, rfl⟩).use fun u h2' t2 k2 q => ?_
  obtain ⟨rfl, rfl⟩ := q
  refine ((snd B n).ev ((X.go (tk := t1) k1).go (tk := t2) k2) h2).use fun j h3 t3 k3 rj => ?_
  rw [ej] at rj
  unfold Rep at rj
  obtain ⟨tj, rfl⟩ := rj
  have hlen := hr.length
  have S3 := S1.go k3
  refine wpAny_setItem_list (isList_keep hli (fun o => k3 a o)) h0 (by unfold lenLid at hl; omega) (by simp; omega) fun h4 hl4 sb => ?_
  have hl4' : h4.IsList a (List.toArray (ws.set k.toNat v)) := by
    have : (ws.toArray.setIfInBounds k.toNat v) = (ws.set k.toNat v).toArray := by simp
    rw [← this]; exact hl4
  refine ⟨h4, t3, rfl, fun b o hb' e => sameBut_keep sb b o (by rintro rfl; exact hb' ham) (k3 b o (k1 b o e)), rfl, mm, Grow.refl, ?_⟩
  exact Stt.write (s := { s with heap := h3, toks := t3 }) S3 hx (rd.keep k3) sb hl4' (reps_set (atom_rep ha (rv.all k3)) _ (hr.all k3))
end
end Mine
namespace Mine
open PySem PySem.W PyProof.Rows PySem.Calls
section
variable {prog : Program} {w : World} {hb : Heap} {mg mb : Str → Option Value} {g : Cfg} {d : Nat}
variable {n : Nat} {env : Env} {l : Ls} {mc mm : List Addr} {s : Shared} {A : Around} {h₀ : Heap}

theorem swaps_sub (e o i : Expr) (p : Pos) (line : Nat) (env : Env) : swapsWith e (some (.Subscript o i p)) line env = pure false := by
  cases e <;> rfl
theorem atom_keep {P : Params} {mu mu' : List Addr} {h h' : Heap} {v : V} {wv : Value} (ha : isAtom v = true) (r : Rep P mu h v wv) : Rep P mu' h' v wv := by
  cases v <;> first | (unfold Rep at r ⊢; exact r) | cases ha
theorem put_swap (l : Ls) {x y : Str} (hxy : x ≠ y) (a b : Loc) (z : Str) : ((l.put y b).put x a).loc z = ((l.put x a).put y b).loc z := by
  rw [loc_put, loc_put, loc_put, loc_put]
  by_cases h1 : z = x
  · rw [if_pos h1, if_pos h1]
    by_cases h2 : z = y
    · exact absurd (h1.symm.trans h2) hxy
    · rw [if_neg h2]
  · rw [if_neg h1, if_neg h1]
theorem ex_tup (B : Base prog w hb mg mb g d) (kb : KeepAll hb h₀) (S : Stt w.params h₀ mc mm env s.heap l) (r : Rm A d) {x y : Str} {px py tp : Pos} {k : Nat} {e : Expr} {spos : Pos} {a b : V} (h : (ev g env.kindOf n l e).2) (ee : (ev g env.kindOf n l e).1 = .tup [a, b]) (hc : constTup e = false)
    (ha : isAtom a = true) (hb' : isAtom b = true) (hs : storable env.kindOf x = true) (hs2 : storable env.kindOf y = true) (hxy : x ≠ y) {c : Prop} :
    wpAny (model prog w) A (exec (.Assign [.Tuple [.Name x px, .Name y py] k tp] e spos) env) (FinS w h₀ mc mm env (.next, (l.put x ⟨a, false⟩).put y ⟨b, false⟩, c) s) (fun _ _ => False) s := by
  have hsole : swapsWithSole [.Tuple [.Name x px, .Name y py] k tp] e spos.line env = pure false := by
    unfold swapsWithSole
    cases e <;> rfl
  have X := S.full kb r
  have ev1 := (snd B n).ev X h
  rw [ee] at ev1
  rcases swap_cases (k := k) (px := px) (py := py) (tp := tp) (x := x) (y := y) S.kind hc with hw | hw
  · refine Assign_Tuple (ev1.use fun v h1 t1 k1 q => ?_) hsole hw
    unfold Rep at q
    obtain ⟨t, ws, rfl, _, ht, hr⟩ := q
    obtain ⟨w1, ws1, rfl, r1, hr1⟩ := reps_cons hr
    obtain ⟨w2, ws2, rfl, r2, hr2⟩ := reps_cons hr1
    cases reps_nil hr2
    refine wpAny_assign_Tuple r.handled ht rfl rfl fun h2 he => ?_
    have k2 : KeepAll h1 h2 := fun b o e => he b o (Nat.ne_of_lt (Heap.lt_size e)) e
    show wpAny _ A (assignInOrder [assign (.Name x px) env, assign (.Name y py) env] [w1, w2]) _ _ _
    refine wpAny_bind (wpAny_holding (wpAny_assign_Name (Stt.store (s := { s with heap := h2, toks := t1 }) (S.go (k1.trans k2)) hs (atom_keep ha r1) fun h3 t3 k3 _ T => ?_)))
    refine wpAny_bind (wpAny_holding (wpAny_assign_Name (Stt.store (s := { s with heap := h3, toks := t3 }) T hs2 (atom_keep hb' r2) fun h4 t4 k4 _ T2 => ?_)))
    exact wpAny_pure ⟨h4, t4, rfl, fun b o hb' e => k4 b o hb' (k3 b o hb' ((k1.trans k2) b o e)), rfl, mm, Grow.refl, T2⟩
  · refine Assign_Tuple_swapped (names := [x, y]) (ev1.use fun v h1 t1 k1 q => ?_) hsole hw
    unfold Rep at q
    obtain ⟨t, ws, rfl, _, ht, hr⟩ := q
    obtain ⟨w1, ws1, rfl, r1, hr1⟩ := reps_cons hr
    obtain ⟨w2, ws2, rfl, r2, hr2⟩ := reps_cons hr1
    cases reps_nil hr2
    refine unpackItems_tuple (items := [w1, w2].toArray) r.handled ht fun h2 he => ?_
    have k2 : KeepAll h1 h2 := fun b o e => he b o (Nat.ne_of_lt (Heap.lt_size e)) e
    show wpAny _ A (assignInOrder [bindName env y, bindName env x] [w2, w1]) _ _ _
    refine wpAny_bind (wpAny_holding (wpAny_bindName (Stt.store (s := { s with heap := h2, toks := t1 }) (S.go (k1.trans k2)) hs2 (atom_keep hb' r2) fun h3 t3 k3 _ T => ?_)))
    refine wpAny_bind (wpAny_holding (wpAny_bindName (Stt.store (s := { s with heap := h3, toks := t3 }) T hs (atom_keep ha r1) fun h4 t4 k4 _ T2 => ?_)))
    exact wpAny_pure ⟨h4, t4, rfl, fun b o hb' e => k4 b o hb' (k3 b o hb' ((k1.trans k2) b o e)), rfl, mm, Grow.refl, T2.same (fun z => (put_swap l hxy ⟨a, false⟩ ⟨b, false⟩ z).symm) (put_nodup (put_nodup S.nd))⟩
end
end Mine
namespace Mine
open PySem PySem.W PyProof.Rows PySem.Calls
section
variable {prog : Program} {w : World} {hb : Heap} {mg mb : Str → Option Value} {g : Cfg} {d : Nat}
variable {n : Nat} {env : Env} {l : Ls} {mc mm : List Addr} {s : Shared} {A : Around} {h₀ : Heap}

theorem FinS.mk {r : Fl × Ls × Prop} {r' : Fl × Ls × Prop} {f : Flow} {s' : Shared} (h : FinS w h₀ mc mm env r s f s') (e1 : r.1 = r'.1) (e2 : r.2.1 = r'.2.1) : FinS w h₀ mc mm env r' s f s' := by
  unfold FinS at h ⊢
  rw [← e1, ← e2]; exact h
/-- behind a step that kept the state -/
theorem FinS.after {r : Fl × Ls × Prop} {f : Flow} {s' : Shared} {mm1 : List Addr} {h1 : Heap} {tk : Nat} (k1 : Keep mm s.heap h1) (g1 : Grow mm s.heap mm1) (h : FinS w h₀ mc mm1 env r { s with heap := h1, toks := tk } f s') : FinS w h₀ mc mm env r s f s' := by
  obtain ⟨h2, t2, rfl, k2, q⟩ := h
  refine ⟨h2, t2, rfl, k1.trans' g1 k2, ?_⟩
  revert q
  cases r.1 with
  | next => exact fun ⟨e, mm2, g2, T⟩ => ⟨e, mm2, Grow.trans k1 g1 g2, T⟩
  | ret v => exact fun q => q
theorem execs_ok (B : Base prog w hb mg mb g d) (X : Sx prog w hb g d n) (kb : KeepAll hb h₀) (S : Stt w.params h₀ mc mm env s.heap l) (r : Rm A d) {ss : List Stmt} (h : (exs g env.kindOf (n + 1) l ss).2.2) :
    wpAny (model prog w) A (execs ss env) (FinS w h₀ mc mm env (exs g env.kindOf (n + 1) l ss) s) (fun _ _ => False) s := by
  cases ss with
  | nil => exact wpAny_execs_nil ⟨s.heap, s.toks, rfl, fun _ _ _ e => e, rfl, mm, Grow.refl, S⟩
  | cons st rest =>
    rw [exs_cons] at h ⊢
    refine wpAny_execs_cons (wpAny_mono (X.ex (st := st) kb S r (by
      revert h
      generalize ex g env.kindOf n l st = q
      obtain ⟨f, l', c⟩ := q
      cases f with
      | next => exact fun h : c ∧ _ => h.1
      | ret v => exact fun h : c => h)) (fun f s' hf => ?_) fun _ _ f => f.elim)
    revert h hf
    generalize ex g env.kindOf n l st = q
    obtain ⟨fl, l', c⟩ := q
    intro h hf
    cases fl with
    | next =>
      obtain ⟨h1, t1, rfl, k1, rfl, mm1, g1, T⟩ := hf
      have h : c ∧ (exs g env.kindOf n l' rest).2.2 := h
      exact wpAny_mono (X.exs (s := { s with heap := h1, toks := t1 }) kb T r h.2) (fun f s' q => FinS.after k1 g1 (q.mk rfl rfl)) fun _ _ f => f.elim
    | ret v =>
      obtain ⟨h1, t1, rfl, k1, kk, wv, rfl, rp⟩ := hf
      exact ⟨h1, t1, rfl, k1, kk, wv, rfl, rp⟩
theorem ex_if (B : Base prog w hb mg mb g d) (X : Sx prog w hb g d n) (kb : KeepAll hb h₀) (S : Stt w.params h₀ mc mm env s.heap l) (r : Rm A d) {t : Expr} {a b : List Stmt} {p : Pos} (h : (ex g env.kindOf (n + 1) l (.If t a b p)).2.2) :
    wpAny (model prog w) A (exec (.If t a b p) env) (FinS w h₀ mc mm env (ex g env.kindOf (n + 1) l (.If t a b p)) s) (fun _ _ => False) s := by
  rw [ex_if0] at h ⊢
  refine wpAny_If ?_
  by_cases ht : (evT g env.kindOf n l t).1 = true
  · rw [if_pos ht] at h
    refine ((snd B n).evT (S.full kb r) h.1).use fun c h1 t1 k1 e => ?_
    subst e
    rw [if_pos ht, if_pos ht]
    exact wpAny_mono (X.exs (s := { s with heap := h1, toks := t1 }) kb (S.go k1) r h.2) (fun f s' q => FinS.after (fun b o _ e => k1 b o e) Grow.refl (q.mk rfl rfl)) fun _ _ f => f.elim
  · rw [if_neg ht] at h
    refine ((snd B n).evT (S.full kb r) h.1).use fun c h1 t1 k1 e => ?_
    subst e
    rw [if_neg ht, if_neg ht]
    exact wpAny_mono (X.exs (s := { s with heap := h1, toks := t1 }) kb (S.go k1) r h.2) (fun f s' q => FinS.after (fun b o _ e => k1 b o e) Grow.refl (q.mk rfl rfl)) fun _ _ f => f.elim
theorem ex_while (B : Base prog w hb mg mb g d) (X : Sx prog w hb g d n) (kb : KeepAll hb h₀) (S : Stt w.params h₀ mc mm env s.heap l) (r : Rm A d) {t : Expr} {body : List Stmt} {p : Pos} (h : (ex g env.kindOf (n + 1) l (.While t body [] p)).2.2) :
    wpAny (model prog w) A (exec (.While t body [] p) env) (FinS w h₀ mc mm env (ex g env.kindOf (n + 1) l (.While t body [] p)) s) (fun _ _ => False) s := by
  rw [ex_while0] at h ⊢
  refine wpAny_While ?_
  generalize hN : (100000 : Nat) = N at h ⊢
  generalize hr : whileV (fun l => evT g env.kindOf n l t) (fun l => exs g env.kindOf n l body) N l = fin at h ⊢
  let I : Nat → Shared → Prop := fun k s' => ∃ l' mm' h' tk, s' = { s with heap := h', toks := tk } ∧ Keep mm s.heap h' ∧ Grow mm s.heap mm' ∧ Stt w.params h₀ mc mm' env h' l' ∧
    (whileV (fun l => evT g env.kindOf n l t) (fun l => exs g env.kindOf n l body) k l').2.2 ∧ (whileV (fun l => evT g env.kindOf n l t) (fun l => exs g env.kindOf n l body) k l').1 = fin.1 ∧ (whileV (fun l => evT g env.kindOf n l t) (fun l => exs g env.kindOf n l body) k l').2.1 = fin.2.1
  refine codeAny_whileLoop I ?_ N ⟨l, mm, s.heap, s.toks, rfl, fun _ _ _ e => e, Grow.refl, S, by rw [hr]; exact h, by rw [hr], by rw [hr]⟩
  rintro k _ ⟨l', mm', h', tk, rfl, kk, gr, T, hc, e1, e2⟩
  cases k with
  | zero => exact hc.elim
  | succ k =>
    rw [whileV_succ] at hc e1 e2
    by_cases ht : (evT g env.kindOf n l' t).1 = true
    · rw [if_pos ht] at hc e1 e2
      obtain ⟨htc, hc⟩ := hc
      dsimp only at e1 e2
      have hbc : (exs g env.kindOf n l' body).2.2 := by
        revert hc
        generalize exs g env.kindOf n l' body = q
        obtain ⟨f, l2, c⟩ := q
        cases f with
        | next => exact fun h : c ∧ _ => h.1
        | ret v => exact fun h : c => h
      refine ((snd B n).evT (T.full (s := { s with heap := h', toks := tk }) kb r) htc).use fun c h1 t1 k1 e => ?_
      subst e
      rw [if_pos ht]
      have kk1 : Keep mm s.heap h1 := fun b o hb e => k1 b o (kk b o hb e)
      refine wpAny_mono (X.exs (s := { s with heap := h1, toks := t1 }) kb (T.go (s := { s with heap := h', toks := tk }) k1) r hbc) (fun f s' hf => ?_) fun _ _ f => f.elim
      have all := And.intro hc (And.intro e1 (And.intro e2 hf))
      clear hc e1 e2 hf hbc
      revert all
      generalize exs g env.kindOf n l' body = q
      obtain ⟨fl, l2, c2⟩ := q
      rintro ⟨hc, e1, e2, hf⟩
      have gr1 : Grow mm s.heap mm' := gr
      cases fl with
      | next =>
        obtain ⟨h2, t2, rfl, k2, rfl, mm2, g2, T2⟩ := hf
        have hc : c2 ∧ (whileV (fun l => evT g env.kindOf n l t) (fun l => exs g env.kindOf n l body) k l2).2.2 := hc
        exact ⟨k, Nat.lt_succ_self _, l2, mm2, h2, t2, rfl, kk1.trans' gr1 k2, Grow.trans kk1 gr1 g2, T2, hc.2, e1, e2⟩
      | ret v =>
        obtain ⟨h2, t2, rfl, k2, kh, wv, rfl, rp⟩ := hf
        exact ⟨h2, t2, rfl, kk1.trans' gr1 k2, by rw [← e1]; exact ⟨kh, wv, rfl, rp⟩⟩
    · rw [if_neg ht] at hc e1 e2
      refine ((snd B n).evT (T.full (s := { s with heap := h', toks := tk }) kb r) hc).use fun c h1 t1 k1 e => ?_
      subst e
      rw [if_neg ht]
      refine wpAny_execs_nil ⟨h1, t1, rfl, fun b o hb e => k1 b o (kk b o hb e), ?_⟩
      rw [← e1, ← e2]
      exact ⟨rfl, mm', gr, T.go (s := { s with heap := h', toks := tk }) k1⟩
end
end Mine
namespace Mine
open PySem PySem.W PyProof.Rows PySem.Calls
section
variable {prog : Program} {w : World} {hb : Heap} {mg mb : Str → Option Value} {g : Cfg} {d : Nat}
variable {n : Nat} {env : Env} {l : Ls} {mc mm : List Addr} {s : Shared} {A : Around} {h₀ : Heap}

theorem Stt.guard (S : Stt w.params h₀ mc mm env s.heap l) {h : Heap} {a : Addr} (kk : KeepAll s.heap h) (ha : s.heap.get? a = none) (hl : ∃ o, h.get? a = some o) : Stt w.params h₀ (a :: mc) mm env h l := by
  have hmu : ∀ b, b ∈ mm ++ (a :: mc) → b ∈ mm ++ mc ∨ s.heap.get? b = none := fun b hb => by
    rcases List.mem_append.mp hb with hb | hb
    · exact .inl (List.mem_append_left _ hb)
    · rcases List.mem_cons.mp hb with rfl | hb
      · exact .inr ha
      · exact .inl (List.mem_append_right _ hb)
  have T := S.go kk
  exact { T with
    livec := fun b hb => by
      rcases List.mem_cons.mp hb with rfl | hb
      · exact hl
      · exact T.livec b hb
    apart := fun b hb q => by
      rcases List.mem_cons.mp q with rfl | q
      · obtain ⟨o, e⟩ := S.livem b hb; rw [ha] at e; cases e
      · exact S.apart b hb q
    plain := fun x v e => let ⟨hn, wv, rd, rp⟩ := S.plain x v e; ⟨hn, wv, rd.keep kk, (rp.more hmu).all kk⟩
    own := fun x v e => let ⟨hn, hk, a', ws, xs, ev, rd, ha', hne, hc, hl', rp⟩ := S.own x v e; ⟨hn, hk, a', ws, xs, ev, rd.keep kk, ha', hne, hc, isList_keep hl' (fun o => kk a' o), (rp.more hmu).all kk⟩ }
theorem Stt.unguard {a : Addr} {h : Heap} (S : Stt w.params h₀ (a :: mc) mm env h l) : Stt w.params h₀ mc mm env h l := by
  have sub : ∀ b, b ∈ mm ++ mc → b ∈ mm ++ (a :: mc) := fun b hb => by
    rcases List.mem_append.mp hb with hb | hb
    · exact List.mem_append_left _ hb
    · exact List.mem_append_right _ (.tail _ hb)
  exact { S with
    livec := fun b hb => S.livec b (.tail _ hb)
    apart := fun b hb q => S.apart b hb (.tail _ q)
    plain := fun x v e => let ⟨hn, wv, rd, rp⟩ := S.plain x v e; ⟨hn, wv, rd, rp.sub sub⟩
    own := fun x v e => let ⟨hn, hk, a', ws, xs, ev, rd, ha', hne, hc, hl', rp⟩ := S.own x v e; ⟨hn, hk, a', ws, xs, ev, rd, ha', hne, hc, hl', rp.sub sub⟩ }
/-- a guarded iterator goes on -/
theorem Stt.poke {I : Addr} {h h' : Heap} (S : Stt w.params h₀ (I :: mc) mm env h l) (hI : h₀.get? I = none) (k : ∀ b o, b ≠ I → h.get? b = some o → h'.get? b = some o) (lv : ∃ o, h'.get? I = some o) : Stt w.params h₀ (I :: mc) mm env h' l := by
  have ne : ∀ a ∈ mm, a ≠ I := fun a ha q => S.apart a ha (q ▸ .head _)
  have rdk : ∀ y wv', Rd env h y wv' → Rd env h' y wv' := fun y wv' rd => by
    rcases rd with ⟨e, m', hm2, hv⟩ | ⟨e, c, lc, o, gg, dd⟩
    · exact .inl ⟨e, m', hm2.at' fun o => k _ o (ne _ S.hloc), hv⟩
    · refine .inr ⟨e, c, lc, o, k c o ?_ gg, dd⟩
      rcases e with e | e
      · obtain ⟨c', lc', hc, _⟩ := S.cell y e
        rw [lc] at lc'; cases lc'; exact ne _ hc
      · exact absurd e (S.free y)
  have kr : ∀ u uw, Rep w.params (mm ++ (I :: mc)) h u uw → Rep w.params (mm ++ (I :: mc)) h' u uw := fun u uw r => r.keep fun b o hb e => k b o (fun q => hb (q ▸ List.mem_append_right _ (.head _))) e
  have krs : ∀ u uw, Reps w.params (mm ++ (I :: mc)) h u uw → Reps w.params (mm ++ (I :: mc)) h' u uw := fun u uw r => r.keep fun b o hb e => k b o (fun q => hb (q ▸ List.mem_append_right _ (.head _))) e
  exact { S with
    keep := fun b o e => k b o (by rintro rfl; rw [hI] at e; cases e) (S.keep b o e)
    livem := fun a ha => let ⟨o, e⟩ := S.livem a ha; ⟨o, k a o (ne a ha) e⟩
    livec := fun a ha => by
      by_cases e : a = I
      · subst e; exact lv
      · obtain ⟨o, e2⟩ := S.livec a ha; exact ⟨o, k a o e e2⟩
    ns := let ⟨m, hm⟩ := S.ns; ⟨m, hm.at' fun o => k _ o (ne _ S.hloc)⟩
    cell := fun y hy => let ⟨c, e, hc, hne, v0, o, gg, dd⟩ := S.cell y hy; ⟨c, e, hc, hne, v0, o, k c o (ne _ hc) gg, dd⟩
    plain := fun y u e => let ⟨h1, wv', rd, rp⟩ := S.plain y u e; ⟨h1, wv', rdk y wv' rd, kr _ _ rp⟩
    own := fun y u e => let ⟨h1, h2, a, ws, xs, ev, rd, ha, hne', hc', hl, rp⟩ := S.own y u e; ⟨h1, h2, a, ws, xs, ev, rdk y _ rd, ha, hne', hc', isList_keep hl (fun o => k a o (ne a ha)), krs _ _ rp⟩ }
/-- a guarded iterator is done -/
theorem Stt.release {I : Addr} {h h' : Heap} (S : Stt w.params h₀ (I :: mc) mm env h l) (hI : h₀.get? I = none) (k : ∀ b o, b ≠ I → h.get? b = some o → h'.get? b = some o) (lv : I ∉ mc) : Stt w.params h₀ mc mm env h' l := by
  have sub : ∀ b, b ∈ mm ++ mc → b ∈ mm ++ (I :: mc) := fun b hb => by
    rcases List.mem_append.mp hb with hb | hb
    · exact List.mem_append_left _ hb
    · exact List.mem_append_right _ (.tail _ hb)
  have ne : ∀ a ∈ mm, a ≠ I := fun a ha q => S.apart a ha (q ▸ .head _)
  have rdk : ∀ y wv', Rd env h y wv' → Rd env h' y wv' := fun y wv' rd => by
    rcases rd with ⟨e, m', hm2, hv⟩ | ⟨e, c, lc, o, gg, dd⟩
    · exact .inl ⟨e, m', hm2.at' fun o => k _ o (ne _ S.hloc), hv⟩
    · refine .inr ⟨e, c, lc, o, k c o ?_ gg, dd⟩
      rcases e with e | e
      · obtain ⟨c', lc', hc, _⟩ := S.cell y e
        rw [lc] at lc'; cases lc'; exact ne _ hc
      · exact absurd e (S.free y)
  have kr : ∀ u uw, Rep w.params (mm ++ (I :: mc)) h u uw → Rep w.params (mm ++ mc) h' u uw := fun u uw r => (r.keep fun b o hb e => k b o (fun q => hb (q ▸ List.mem_append_right _ (.head _))) e).sub sub
  have krs : ∀ u uw, Reps w.params (mm ++ (I :: mc)) h u uw → Reps w.params (mm ++ mc) h' u uw := fun u uw r => (r.keep fun b o hb e => k b o (fun q => hb (q ▸ List.mem_append_right _ (.head _))) e).sub sub
  exact { S with
    keep := fun b o e => k b o (by rintro rfl; rw [hI] at e; cases e) (S.keep b o e)
    livem := fun a ha => let ⟨o, e⟩ := S.livem a ha; ⟨o, k a o (ne a ha) e⟩
    livec := fun a ha => let ⟨o, e2⟩ := S.livec a (.tail _ ha); ⟨o, k a o (by rintro rfl; exact lv ha) e2⟩
    apart := fun b hb q => S.apart b hb (.tail _ q)
    ns := let ⟨m, hm⟩ := S.ns; ⟨m, hm.at' fun o => k _ o (ne _ S.hloc)⟩
    cell := fun y hy => let ⟨c, e, hc, hne, v0, o, gg, dd⟩ := S.cell y hy; ⟨c, e, hc, hne, v0, o, k c o (ne _ hc) gg, dd⟩
    plain := fun y u e => let ⟨h1, wv', rd, rp⟩ := S.plain y u e; ⟨h1, wv', rdk y wv' rd, kr _ _ rp⟩
    own := fun y u e => let ⟨h1, h2, a, ws, xs, ev, rd, ha, hne', hc', hl, rp⟩ := S.own y u e; ⟨h1, h2, a, ws, xs, ev, rdk y _ rd, ha, hne', hc', isList_keep hl (fun o => k a o (ne a ha)), krs _ _ rp⟩ }
theorem ex_for (B : Base prog w hb mg mb g d) (X : Sx prog w hb g d n) (kb : KeepAll hb h₀) (S : Stt w.params h₀ mc mm env s.heap l) (r : Rm A d) {x : Str} {px : Pos} {it : Expr} {body : List Stmt} {p : Pos} (h : (ex g env.kindOf (n + 1) l (.For (.Name x px) it body [] p)).2.2) :
    wpAny (model prog w) A (exec (.For (.Name x px) it body [] p) env) (FinS w h₀ mc mm env (ex g env.kindOf (n + 1) l (.For (.Name x px) it body [] p)) s) (fun _ _ => False) s := by
  rw [ex_for0] at h ⊢
  obtain ⟨hq, hc, hs⟩ := h
  have XI := (snd B n).evI (S.cleanAt kb r) hq
  refine wpAny_For (XI.2.use fun xv h1 t1 k1 hit => ?_) XI.1
  generalize (evI g env.kindOf n l.clean it).1 = vs at hit hc ⊢
  refine hit A _ _ _ r.handled (fun _ _ e => e) fun o fp Pd St tk W h0 hI hfp hv => ?_
  dsimp only at W h0 hI hfp ⊢
  generalize hIe : h1.objs.size = I at W h0 hI hfp ⊢
  have fI : h1.get? I = none := fresh_none (by rw [← hIe]; exact Nat.le_refl _)
  let F : Ls → V → Fl × Ls × Prop := fun l v => ((exs g env.kindOf n (l.put x ⟨v, false⟩) body).1, (exs g env.kindOf n (l.put x ⟨v, false⟩) body).2.1, (exs g env.kindOf n (l.put x ⟨v, false⟩) body).2.2 ∧ isAtom v = true)
  generalize hr : loopV F l vs = fin at hc ⊢
  have sI : s.heap.get? I = none := by
    cases q : s.heap.get? I with
    | none => rfl
    | some o => have := k1 _ _ q; rw [fI] at this; cases this
  have hI0 : h₀.get? I = none := by
    cases q : h₀.get? I with
    | none => rfl
    | some o => have := S.keep _ _ q; rw [sI] at this; cases this
  have aI : ∃ o', (h1.push o).get? I = some o' := let ⟨o', gg, _⟩ := hI _ _ h0; ⟨o', gg⟩
  have S0 : Stt w.params h₀ (I :: mc) mm env (h1.push o) l := S.guard (k1.trans keepAll_push) sI aI
  let Inv : Nat → Shared → Prop := fun k s' => ∃ i l' mm' h' tk, s' = { s with heap := h', toks := tk } ∧ i ≤ vs.length ∧ k = vs.length - i ∧ St i h' ∧ Keep (I :: mm) (h1.push o) h' ∧ Grow mm (h1.push o) mm' ∧ Stt w.params h₀ (I :: mc) mm' env h' l' ∧
    (loopV F l' (vs.drop i)).2.2 ∧ (loopV F l' (vs.drop i)).1 = fin.1 ∧ (loopV F l' (vs.drop i)).2.1 = fin.2.1
  have keepS : ∀ {h' : Heap}, Keep (I :: mm) (h1.push o) h' → Keep mm s.heap h' := fun kk b o' hb e => kk b o' (fun q => by rcases List.mem_cons.mp q with q | q; subst q; rw [sI] at e; cases e; exact hb q) (keepAll_push b o' (k1 b o' e))
  have growS : ∀ {mm' : List Addr}, Grow mm (h1.push o) mm' → Grow mm s.heap mm' := fun gr a ha => by
    rcases gr a ha with q | q
    · exact .inl q
    · refine .inr ?_
      cases e : s.heap.get? a with
      | none => rfl
      | some o' => have := keepAll_push (o := o) a o' (k1 a o' e); rw [q] at this; cases this
  have fpno : ∀ {mm' : List Addr}, Grow mm (h1.push o) mm' → I ∉ mm' → ∀ b ∈ fp, b ∉ mm' := fun gr hIm b hb' q => by
    rcases hfp b hb' with rfl | ⟨⟨o', e⟩, hn⟩
    · exact hIm q
    · rcases gr b q with q | q
      · exact hn (List.mem_append_left _ q)
      · have := keepAll_push (o := o) b o' e; rw [q] at this; cases this
  refine codeAny_forLoop Inv ?_ vs.length ⟨0, l, mm, h1.push o, tk, rfl, Nat.zero_le _, rfl, h0, fun _ _ _ e => e, Grow.refl, S0, by rw [List.drop_zero, hr]; exact hc, by rw [List.drop_zero, hr], by rw [List.drop_zero, hr]⟩ (fun _ => rfl)
  rintro k _ ⟨i, l', mm', h', tk', rfl, hi, rfl, st, kk, gr, T, hcc, e1, e2⟩
  have hIm : ∀ {mm2 : List Addr} {h2 : Heap} {l2 : Ls}, Stt w.params h₀ (I :: mc) mm2 env h2 l2 → I ∉ mm2 := fun T q => T.apart I q (.head _)
  by_cases hlt : i < vs.length
  · refine W.item i _ _ _ hlt st fun v h2 tk2 hvv st2 k2 => ?_
    obtain ⟨u, eu, ru⟩ := hv i v hlt hvv
    have k2' : ∀ b o', b ≠ I → h'.get? b = some o' → h2.get? b = some o' := fun b o' hb' e => k2 b o' (fun q => hb' (List.mem_singleton.mp q)) e
    have ed : vs.drop i = u :: vs.drop (i + 1) := by
      rw [List.drop_eq_getElem_cons hlt]
      rw [List.getElem?_eq_getElem hlt] at eu
      rw [Option.some.inj eu]
    rw [ed] at hcc e1 e2
    rw [loopV_cons] at hcc e1 e2
    have T2 := T.poke hI0 k2' (let ⟨o', gg, _⟩ := hI _ _ st2; ⟨o', gg⟩)
    have hat : isAtom u = true := by
      revert hcc
      dsimp only [F]
      generalize exs g env.kindOf n (l'.put x ⟨u, false⟩) body = q
      obtain ⟨f, l2, c⟩ := q
      cases f with
      | next => exact fun h : (c ∧ _) ∧ _ => h.1.2
      | ret v => exact fun h : c ∧ _ => h.2
    have hbc : (exs g env.kindOf n (l'.put x ⟨u, false⟩) body).2.2 := by
      revert hcc
      dsimp only [F]
      generalize exs g env.kindOf n (l'.put x ⟨u, false⟩) body = q
      obtain ⟨f, l2, c⟩ := q
      cases f with
      | next => exact fun h : (c ∧ _) ∧ _ => h.1.1
      | ret v => exact fun h : c ∧ _ => h.1
    refine wpAny_assign_Name (Stt.store (s := { s with heap := h2, toks := tk2 }) T2 hs (atom_keep hat ru) fun h3 t3 k3 _ T3 => ?_)
    refine wpAny_mono (X.exs (s := { s with heap := h3, toks := t3 }) kb T3 r hbc) (fun f s' hf => ?_) fun _ _ f => f.elim
    have nIm := hIm T
    have kb1 : ∀ b o', b ∉ I :: mm → (h1.push o).get? b = some o' → h3.get? b = some o' ∧ b ∉ mm' := fun b o' hb' e => by
      have hbm : b ∉ mm' := fun q => by
        rcases gr b q with q | q
        · exact hb' (.tail _ q)
        · rw [e] at q; cases q
      exact ⟨k3 b o' hbm (k2' b o' (fun q => hb' (q ▸ .head _)) (kk b o' hb' e)), hbm⟩
    have all := And.intro hf (And.intro hcc (And.intro e1 e2))
    clear hcc e1 e2 hf hbc
    revert all
    dsimp only [F]
    generalize exs g env.kindOf n (l'.put x ⟨u, false⟩) body = q
    obtain ⟨fl, l2, c2⟩ := q
    rintro ⟨hf, hcc, e1, e2⟩
    cases fl with
    | next =>
      obtain ⟨h4, t4, rfl, k4, rfl, mm2, g2, T4⟩ := hf
      have hcc : (c2 ∧ isAtom u = true) ∧ (loopV F l2 (vs.drop (i + 1))).2.2 := hcc
      refine ⟨vs.length - (i + 1), Nat.sub_lt_sub_left hlt (Nat.lt_succ_self _), i + 1, l2, mm2, h4, t4, rfl, hlt, rfl, ?_, ?_, ?_, T4, hcc.2, e1, e2⟩
      · exact W.frame _ _ _ st2 fun b hb' o' e => k4 b o' (fpno gr nIm b hb') (k3 b o' (fpno gr nIm b hb') e)
      · exact fun b o' hb' e => k4 b o' (kb1 b o' hb' e).2 (kb1 b o' hb' e).1
      · intro a ha
        rcases g2 a ha with q | q
        · exact gr a q
        · by_cases hm : a ∈ mm
          · exact .inl hm
          · refine .inr ?_
            cases e : (h1.push o).get? a with
            | none => rfl
            | some o' =>
              have hb' : a ∉ I :: mm := fun q2 => by
                rcases List.mem_cons.mp q2 with q2 | q2
                · subst q2; exact hIm T4 ha
                · exact hm q2
              have := (kb1 a o' hb' e).1
              have q : h3.get? a = none := q
              rw [q] at this; cases this
    | ret v =>
      obtain ⟨h4, t4, rfl, k4, kh, wv, rfl, rp⟩ := hf
      refine ⟨h4, t4, rfl, keepS fun b o' hb' e => k4 b o' (kb1 b o' hb' e).2 (kb1 b o' hb' e).1, ?_⟩
      rw [← e1]
      exact ⟨kh, wv, rfl, rp.sub fun a ha => .tail _ ha⟩
  · have hi' : i = vs.length := Nat.le_antisymm hi (Nat.le_of_not_lt hlt)
    subst hi'
    refine W.done _ _ _ st fun h2 tk2 k2 => ?_
    have k2' : ∀ b o', b ≠ I → h'.get? b = some o' → h2.get? b = some o' := fun b o' hb' e => k2 b o' (fun q => hb' (List.mem_singleton.mp q)) e
    rw [List.drop_length] at e1 e2
    refine wpAny_execs_nil ⟨h2, tk2, rfl, keepS fun b o' hb' e => k2' b o' (fun q => hb' (q ▸ .head _)) (kk b o' hb' e), ?_⟩
    rw [← e1, ← e2]
    exact ⟨rfl, mm', growS gr, T.release hI0 k2' (fun q => by obtain ⟨o', e⟩ := S.livec I q; rw [sI] at e; cases e)⟩
end
end Mine
namespace Mine
open PySem PySem.W PyProof.Rows PySem.Calls
section
variable {prog : Program} {w : World} {hb : Heap} {mg mb : Str → Option Value} {g : Cfg} {d : Nat}
variable {n : Nat} {env : Env} {l : Ls} {mc mm : List Addr} {s : Shared} {A : Around} {h₀ : Heap}
theorem ex_ok (B : Base prog w hb mg mb g d) (X : Sx prog w hb g d n) (kb : KeepAll hb h₀) (S : Stt w.params h₀ mc mm env s.heap l) (r : Rm A d) {st : Stmt} (h : (ex g env.kindOf (n + 1) l st).2.2) :
    wpAny (model prog w) A (exec st env) (FinS w h₀ mc mm env (ex g env.kindOf (n + 1) l st) s) (fun _ _ => False) s := by
  cases st with
  | If t a b p => exact ex_if B X kb S r h
  | While t a o p => cases o with
    | nil => exact ex_while B X kb S r h
    | cons _ _ => exact False.elim h
  | For t it a o p => cases o with
    | nil => cases t with
      | Name x px => exact ex_for B X kb S r h
      | _ => exact False.elim h
    | cons _ _ => exact False.elim h
  | Return e p => cases e with
    | none => exact False.elim h
    | some e => exact ex_return B kb S r h
  | AugAssign t op e p => cases t with
    | Name x xp =>
      obtain ⟨h1, h2, h3, h4, h5⟩ := h
      obtain ⟨v, hv⟩ := Option.isSome_iff_exists.mp h1
      exact ex_aug B kb S r (by rw [ev_nameL hv]; trivial) h2 h4 h3 h1 h5
    | _ => exact False.elim h
  | Assign ts e p => cases ts with
    | nil => exact False.elim h
    | cons t rs => cases rs with
      | nil => cases t with
        | Name x px =>
          rw [ex_asg] at h ⊢
          by_cases hn : isNew e = true
          · rw [if_pos hn] at h ⊢
            exact ex_new B kb S r hn h.1 h.2.1 h.2.2.1 h.2.2.2
          · rw [if_neg hn] at h ⊢
            exact ex_assign B kb S r h.1 h.2
        | Tuple es j tp => cases es with
          | nil => exact False.elim h
          | cons a es => cases a with
            | Name x px => cases es with
              | nil => exact False.elim h
              | cons b es => cases b with
                | Name y py => cases es with
                  | nil =>
                    rw [ex_tup0] at h ⊢
                    generalize hq : ev g env.kindOf n l e = q at h ⊢
                    obtain ⟨v, c⟩ := q
                    cases v with
                    | tup vs => cases vs with
                      | nil => exact False.elim h
                      | cons a vs => cases vs with
                        | nil => exact False.elim h
                        | cons b vs => cases vs with
                          | nil =>
                            obtain ⟨h1, h2, h3, h4, h5, h6, h7⟩ := h
                            exact ex_tup B kb S r (by rw [hq]; exact h1) (by rw [hq]) h2 h3 h4 h5 h6 h7
                          | cons _ _ => exact False.elim h
                    | _ => exact False.elim h
                  | cons _ _ => exact False.elim h
                | _ => exact False.elim h
            | _ => exact False.elim h
        | Subscript o i ip => cases o with
          | Name x xp =>
            rw [ex_set0] at h ⊢
            unfold setW at h ⊢
            generalize hl : l.loc x = lo at h ⊢
            cases lo with
            | none => exact False.elim h
            | some u =>
              obtain ⟨u, bo⟩ := u
              cases u with
              | list xs =>
                generalize hq : ev g env.kindOf n l i = q at h ⊢
                obtain ⟨v, c⟩ := q
                cases v with
                | int k =>
                  obtain ⟨h1, h2, h3, h4, h5, h6, h7⟩ := h
                  have h7 : bo = true := h7
                  subst h7
                  exact ex_sub B kb S r h1 (by rw [hq]; exact h2) hl (by rw [hq]) h3 h4 h5 h6 (swaps_sub _ _ _ _ _ _)
                | _ => exact False.elim h
              | _ => exact False.elim h
          | _ => exact False.elim h
        | _ => exact False.elim h
      | cons t2 rs => cases rs with
        | nil => cases t with
          | Name x xp => cases t2 with
            | Name y yp => exact ex_two B kb S r h.1 h.2.1 h.2.2.1 h.2.2.2
            | _ => exact False.elim h
          | _ => exact False.elim h
        | cons _ _ => cases t <;> exact False.elim h
  | _ => exact False.elim h
theorem sx_zero : Sx prog w hb g d 0 := ⟨fun _ _ _ h => h.elim, fun _ _ _ h => h.elim⟩
theorem sx (B : Base prog w hb mg mb g d) : ∀ n, Sx prog w hb g d n
  | 0 => sx_zero
  | n + 1 => ⟨fun kb S r h => ex_ok B (sx B n) kb S r h, fun kb S r h => execs_ok B (sx B n) kb S r h⟩
end
end Mine
namespace Mine
open PySem PySem.W PyProof.Rows PySem.Calls
section
variable {prog : Program} {w : World} {hb : Heap} {mg mb : Str → Option Value} {g : Cfg} {d : Nat}

/-- the locals at the start of a body -/
noncomputable def startLs : List Str → List V → Ls
  | x :: xs, v :: vs => (x, ⟨v, false⟩) :: startLs xs vs
  | _, _ => []
theorem start_plain : ∀ {xs : List Str} {vs : List V} {x : Str} {u : Loc}, (startLs xs vs).loc x = some u → u.own = false
  | [], _, _, _, h => by cases h
  | _ :: _, [], _, _, h => by cases h
  | y :: xs, v :: vs, x, u, h => by
    simp only [startLs, Ls.loc] at h
    by_cases e : y = x
    · rw [if_pos e] at h; cases h; rfl
    · rw [if_neg e] at h; exact start_plain h
/-- what a name of the arguments stands for -/
theorem start_rep {P : Params} {mu : List Addr} {h : Heap} : ∀ {xs : List Str} {vs : List V} {ws : List Value} {x : Str} {v : V}, Reps P mu h vs ws → (startLs xs vs).loc x = some ⟨v, false⟩ → x ∈ xs ∧ ∃ wv, (xs.zip ws).lookup x = some wv ∧ Rep P mu h v wv
  | [], _, _, _, _, _, h => by cases h
  | _ :: _, [], _, _, _, _, h => by cases h
  | y :: xs, v :: vs, ws, x, u, r, h => by
    obtain ⟨a, as, rfl, r1, r2⟩ := reps_cons r
    simp only [startLs, Ls.loc] at h
    by_cases e : y = x
    · rw [if_pos e] at h; cases h
      subst e
      exact ⟨.head _, a, by simp [List.zip_cons_cons, List.lookup_cons], r1⟩
    · rw [if_neg e] at h
      obtain ⟨hm, wv, h1, h2⟩ := start_rep r2 h
      refine ⟨.tail _ hm, wv, ?_, h2⟩
      rw [List.zip_cons_cons, List.lookup_cons, show (x == y) = false from by simpa using fun q => e q.symm]
      exact h1
theorem bindL_not {ko : Str → Option NameKind} : ∀ (b : List (Str × Value)) (m : Str → Option Value) {x : Str}, x ∉ b.map (·.1) → bindL ko b m x = m x
  | [], m, x, h => rfl
  | (y, v) :: r, m, x, h => by
    simp only [List.map_cons, List.mem_cons, not_or] at h
    show bindL ko r _ x = _
    rw [bindL_not r _ h.2]
    by_cases hk : ko y = some .local
    · rw [if_pos hk]; exact if_neg h.1
    · rw [if_neg hk]
theorem bindC_not {ko : Str → Option NameKind} : ∀ (b : List (Str × Value)) (m : Str → Option Value) {x : Str}, x ∉ b.map (·.1) → bindC ko b m x = m x
  | [], m, x, h => rfl
  | (y, v) :: r, m, x, h => by
    simp only [List.map_cons, List.mem_cons, not_or] at h
    show bindC ko r _ x = _
    rw [bindC_not r _ h.2]
    by_cases hk : ko y = some .local
    · rw [if_pos hk]
    · rw [if_neg hk]; exact if_neg h.1
theorem bindL_at {ko : Str → Option NameKind} : ∀ (b : List (Str × Value)) (m : Str → Option Value) {x : Str} {v : Value}, (b.map (·.1)).Nodup → b.lookup x = some v → ko x = some .local → bindL ko b m x = some v
  | [], m, x, v, _, h, _ => by cases h
  | (y, u) :: r, m, x, v, hn, h, hk => by
    rw [List.map_cons, List.nodup_cons] at hn
    rw [List.lookup_cons] at h
    show bindL ko r _ x = _
    by_cases e : (x == y) = true
    · rw [e] at h; cases h
      obtain rfl := eq_of_beq e
      rw [bindL_not r _ hn.1, if_pos hk]; exact if_pos rfl
    · rw [show (x == y) = false from by simpa using e] at h
      exact bindL_at r _ hn.2 h hk
theorem bindC_at {ko : Str → Option NameKind} : ∀ (b : List (Str × Value)) (m : Str → Option Value) {x : Str} {v : Value}, (b.map (·.1)).Nodup → b.lookup x = some v → ko x = some .cell → bindC ko b m x = some v
  | [], m, x, v, _, h, _ => by cases h
  | (y, u) :: r, m, x, v, hn, h, hk => by
    rw [List.map_cons, List.nodup_cons] at hn
    rw [List.lookup_cons] at h
    show bindC ko r _ x = _
    by_cases e : (x == y) = true
    · rw [e] at h; cases h
      obtain rfl := eq_of_beq e
      rw [bindC_not r _ hn.1, if_neg (by rw [hk]; intro q; cases q)]; exact if_pos rfl
    · rw [show (x == y) = false from by simpa using e] at h
      exact bindC_at r _ hn.2 h hk
theorem pair_one {x y : Str} {c : Addr} : ∀ {cs : List (Str × Addr)}, cs.Pairwise (fun a b => a.2 ≠ b.2) → (x, c) ∈ cs → (y, c) ∈ cs → x = y
  | [], _, h, _ => by cases h
  | p :: r, hp, h1, h2 => by
    rw [List.pairwise_cons] at hp
    rcases List.mem_cons.mp h1 with h1 | h1 <;> rcases List.mem_cons.mp h2 with h2 | h2
    · rw [← h1] at h2; cases h2; rfl
    · exact absurd (by rw [← h1]) (hp.1 _ h2)
    · exact absurd (by rw [← h2]) (hp.1 _ h1)
    · exact pair_one hp.2 h1 h2
end
end Mine
namespace Mine
open PySem PySem.W PyProof.Rows PySem.Calls
section
variable {prog : Program} {w : World} {hb : Heap} {mg mb : Str → Option Value} {g : Cfg} {d : Nat}
theorem startLs_keys : ∀ {xs : List Str} {vs : List V} {y : Str}, y ∈ (startLs xs vs).map (·.1) → y ∈ xs
  | [], _, _, h => by cases h
  | _ :: _, [], _, h => by cases h
  | x :: xs, v :: vs, y, h => by
    rcases List.mem_cons.mp h with rfl | h
    · exact .head _
    · exact .tail _ (startLs_keys h)
theorem startLs_nodup : ∀ {xs : List Str} {vs : List V}, xs.Nodup → ((startLs xs vs).map (·.1)).Nodup
  | [], _, _ => List.nodup_nil
  | _ :: _, [], _ => List.nodup_nil
  | x :: xs, v :: vs, h => by
    rw [List.nodup_cons] at h
    show (x :: (startLs xs vs).map (·.1)).Nodup
    rw [List.nodup_cons]
    exact ⟨fun q => h.1 (startLs_keys q), startLs_nodup h.2⟩
/-- the state at the start of a body -/
theorem stt_start {s s' : Shared} {env : Env} {mc : List Addr} {params : List Str} {args : List V} {ws : List Value} (hk : env.scope.kind = .function) (hg : env.globals = mainGlobals) (hbl : env.builtins = builtinsNs)
    (hnd : params.Nodup) (hlen : ws.length = params.length) (hp : ∀ x ∈ params, (env.kindOf x = some .local ∨ env.kindOf x = some .cell) ∧ nameOk x = true) (hfree : ∀ x, env.kindOf x ≠ some .free)
    (hcn : (env.cells.map (·.1)).Nodup) (hcell : ∀ x, env.kindOf x = some .cell → ∃ c, env.cells.lookup x = some c) (hL : env.locals = s.heap.objs.size)
    (x : InCallC s env.locals (bindL env.kindOf (params.zip ws) fun _ => none) env.cells (bindC env.kindOf (params.zip ws) fun _ => none) s')
    (live : Live mc s.heap) (r : Reps w.params mc s.heap args ws) :
    Stt w.params s.heap mc (env.locals :: env.cells.map (·.2)) env s'.heap (startLs params args) := by
  have look : ∀ n c, (n, c) ∈ env.cells → env.cells.lookup n = some c := fun n c h => lookup_of_mem_nodup hcn h
  have keep : KeepAll s.heap s'.heap := x.toInCall.keep
  have old : ∀ a ∈ env.locals :: env.cells.map (·.2), s.heap.get? a = none := fun a ha => by
    rcases List.mem_cons.mp ha with rfl | ha
    · exact fresh_none (Nat.le_of_eq hL.symm)
    · obtain ⟨p, hp', rfl⟩ := List.mem_map.mp ha
      exact fresh_none (Nat.le_of_lt (hL ▸ x.above p.1 p.2 hp'))
  have hz : (params.zip ws).map (·.1) = params := by
    rw [List.map_fst_zip]; omega
  have hmc : ∀ a ∈ env.locals :: env.cells.map (·.2), a ∉ mc := fun a ha q => by
    obtain ⟨o, e⟩ := live a q
    rw [old a ha] at e; cases e
  have nes : ∀ a, a ∈ (env.locals :: env.cells.map (·.2)) ++ mc → a ∈ mc ∨ s.heap.get? a = none := fun a ha => by
    rcases List.mem_append.mp ha with h | h
    · exact .inr (old a h)
    · exact .inl h
  refine ⟨hk, hg, hbl, keep, old, ?_, live.keep keep, hmc, .head _, ⟨_, x.toInCall.ns⟩, ?_, ?_, hfree, startLs_nodup hnd, ?_, ?_, ?_⟩
  · intro a ha
    rcases List.mem_cons.mp ha with rfl | ha
    · obtain ⟨o, _, _, e, _⟩ := x.toInCall.ns; exact ⟨o, e⟩
    · obtain ⟨p, hp', rfl⟩ := List.mem_map.mp ha
      obtain ⟨o, e, _⟩ := x.cell p.1 p.2 (look p.1 p.2 hp'); exact ⟨o, e⟩
  · intro y hy
    obtain ⟨c, hc⟩ := hcell y hy
    have hm := mem_lookup hc
    exact ⟨c, hc, .tail _ (List.mem_map.mpr ⟨(y, c), hm, rfl⟩), Ne.symm (Nat.ne_of_lt (x.above y c hm)), _, x.cell y c hc⟩
  · intro y z c _ _ h1 h2
    exact pair_one x.apart (mem_lookup h1) (mem_lookup h2)
  · intro y v e
    obtain ⟨hm, wv, h1, h2⟩ := start_rep r e
    obtain ⟨hkk, hn⟩ := hp y hm
    refine ⟨hn, wv, ?_, (h2.more nes).all keep⟩
    rcases hkk with hkk | hkk
    · exact .inl ⟨hkk, _, x.toInCall.ns, bindL_at _ _ (by rw [hz]; exact hnd) h1 hkk⟩
    · obtain ⟨c, hc⟩ := hcell y hkk
      refine .inr ⟨.inl hkk, c, hc, ?_⟩
      have := x.cell y c hc
      rwa [bindC_at _ _ (by rw [hz]; exact hnd) h1 hkk] at this
  · intro y v e
    have := start_plain e; cases this
  · intro y z u v e1 _
    have := start_plain e1; cases this
end
end Mine
namespace Mine
open PySem PySem.W PyProof.Rows PySem.Calls
section
variable {prog : Program} {w : World} {hb : Heap} {mg mb : Str → Option Value} {g : Cfg} {d : Nat}
/-- what is asked of a function's data, all of it to be computed -/
structure FdOk (fd : FuncData) (params : List Str) (body : List Stmt) : Prop where
  co : fd.scope.isCoroutine = false
  gen : fd.scope.isGenerator = false
  kind : fd.scope.kind = .function
  body : fd.body = .stmts body
  glob : fd.globals = mainGlobals
  blt : fd.builtins = builtinsNs
  clo : fd.closure = []
  nd : params.Nodup
  names : ∀ x ∈ params, (fd.scope.names.lookup x = some .local ∨ fd.scope.names.lookup x = some .cell) ∧ nameOk x = true
  free : ∀ x, fd.scope.names.lookup x ≠ some .free
  cells : ((cellsFrom 0 fd.scope.names []).map (·.1)).Nodup
  bind : ∀ ws : List Value, ws.length = params.length → bindArgs fd ⟨ws, []⟩ = pure (params.zip ws)
theorem call_fn {n : Nat} (X : Sx prog w hb g d n) {fd : FuncData} {params : List Str} {body : List Stmt} (O : FdOk fd params body) {a : Addr} {o : Obj} (ho : hb.get? a = some o) (hd : o.data = .func fd) (hlim : hb.NoLimit) (hcd : hb.CodeRec fd.code fd.qualname)
    {A : Around} {s : Shared} {mu : List Addr} {args : List V} {ws : List Value} {v : V} (kb : KeepAll hb s.heap) (rm : Rm A (d + 1)) (live : Live mu s.heap) (r : Reps w.params mu s.heap args ws) (hlen : args.length = params.length)
    (hv : (exs g (fun x => fd.scope.names.lookup x) n (startLs params args) body).1 = .ret v) (hc : (exs g (fun x => fd.scope.names.lookup x) n (startLs params args) body).2.2) :
    Tr prog w A (call (.ref a) ws) s (fun u h => Rep w.params mu h v u) := by
  refine Tr.of fun R k => wpAny_call ?_
  refine codeAny_call_function (by have := rm.depth; omega) (kb _ _ ho) hd O.co O.gen O.body (hcd.keeps kb) ?_
  rw [O.bind ws (by rw [r.length, hlen]), O.clo, O.glob, O.blt]
  refine wpAny_pure ?_
  refine wpAny_newFunctionEnv_cells O.kind (fun y hy => ?_) fun env he s' x => ?_
  · have hm : y.1 ∈ params := (List.of_mem_zip hy).1
    rcases (O.names y.1 hm).1 with q | q
    · exact .inl q
    · exact .inr ⟨q, cellsFrom_some _ _ _ (.inl q)⟩
  · subst he
    obtain ⟨h₁, tk, rfl, kk⟩ := x.done
    refine ⟨(hlim.keeps kb).keeps kk, codeAny_func ?_⟩
    have hcn : ((cellsFrom (s.heap.objs.size + 1) fd.scope.names []).map (·.1)).Nodup := cellsFrom_names fd.scope.names 0 (s.heap.objs.size + 1) [] [] rfl ▸ O.cells
    let env : Env := newEnv fd.scope s.heap.objs.size mainGlobals (cellsFrom (s.heap.objs.size + 1) fd.scope.names []) (fd.qualname ++ ".<locals>.") (some a) fd.code none builtinsNs
    have T := stt_start (env := env) (w := w) (mc := mu) (params := params) (args := args) (ws := ws) O.kind rfl rfl O.nd (by rw [r.length, hlen]) O.names O.free hcn
      (fun y hy => by
        have := cellsFrom_some (x := y) fd.scope.names (s.heap.objs.size + 1) [] (.inl hy)
        exact Option.isSome_iff_exists.mp this) rfl x live r
    have rm' : Rm (A.deeper env) d :=
      ⟨rm.handled, by have := rm.depth; show A.depth + 1 + d < _; omega, by have := rm.units; show A.units + 3 + 4 * d + 64 < _; omega⟩
    refine wpAny_mono (X.exs (h₀ := s.heap) (ss := body) (s := { s with heap := h₁, toks := tk }) kb T rm' hc) (fun f s' hf => ?_) fun _ _ f => f.elim
    obtain ⟨h2, t2, rfl, _, hq⟩ := hf
    have hv' : (exs g env.kindOf n (startLs params args) body).1 = .ret v := hv
    rw [hv'] at hq
    obtain ⟨kh, wv, rfl, rp⟩ := hq
    exact k wv h2 t2 kh rp
end
end Mine
namespace Mine
open PySem PySem.W PyProof.Rows PySem.Calls

/-- a function of the text, as far as the evaluator asks -/
structure FnT where
  name : Str
  params : List Str
  scope : Scope
  body : List Stmt

noncomputable def runFn (g : Cfg) (fs : List FnT) (f : Str) (args : List V) : W V :=
  match fs.find? (fun t => t.name == f) with
  | none => no
  | some t => if args.length = t.params.length then
      (match exs g (fun x => t.scope.names.lookup x) 200 (startLs t.params args) t.body with
        | (.ret v, _, c) => (v, c)
        | (.next, _, _) => no)
    else no
/-- what is known of the text beside its functions -/
structure Dat0 where
  gl : Str → Option V
  mem : Value → Int → W Bool
  get : Value → Int → W V
noncomputable def CC (D : Dat0) (fs : List FnT) : Nat → Cfg
  | 0 => ⟨fun _ _ => no, D.gl, D.mem, D.get⟩
  | k + 1 => ⟨runFn (CC D fs k) fs, D.gl, D.mem, D.get⟩
theorem CC_gl (D : Dat0) (fs : List FnT) : ∀ k, (CC D fs k).gl = D.gl
  | 0 => rfl
  | _ + 1 => rfl
theorem CC_mem (D : Dat0) (fs : List FnT) : ∀ k, (CC D fs k).mem = D.mem
  | 0 => rfl
  | _ + 1 => rfl
theorem CC_get (D : Dat0) (fs : List FnT) : ∀ k, (CC D fs k).get = D.get
  | 0 => rfl
  | _ + 1 => rfl
/-- a function of the text stands in the heap -/
noncomputable def FnAt (hb : Heap) (mg : Str → Option Value) (t : FnT) : Prop :=
  ∃ a o fd, mg t.name = some (.ref a) ∧ hb.get? a = some o ∧ o.data = .func fd ∧ FdOk fd t.params t.body ∧ fd.scope = t.scope ∧ hb.CodeRec fd.code fd.qualname
section
variable {prog : Program} {w : World} {hb : Heap} {mg mb : Str → Option Value}
structure Base0 (prog : Program) (w : World) (hb : Heap) (mg mb : Str → Option Value) (D : Dat0) (fs : List FnT) : Prop where
  gns : hb.Ns mainGlobals mg
  bns : hb.Ns builtinsNs mb
  boot : ∀ x : Str, x ≠ "__name__" → mb x = bootBuiltins x
  gl : ∀ x v, D.gl x = some v → ∃ wv, mg x = some wv ∧ ((∃ i t, v = .int i ∧ wv = .int i t) ∨ v = .val wv)
  nob : ∀ x, (isBlt x = true ∨ x = ("list" : Str) ∨ x = ("range" : Str)) → mg x = none
  mem : ∀ k, MemOk prog w hb (CC D fs k)
  get : ∀ k, GetOk prog w hb (CC D fs k)
  fn : ∀ t ∈ fs, FnAt hb mg t
  lim : hb.NoLimit
theorem base_cc {D : Dat0} {fs : List FnT} (B : Base0 prog w hb mg mb D fs) : ∀ k, Base prog w hb mg mb (CC D fs k) k
  | 0 => ⟨B.gns, B.bns, B.boot, B.gl, B.nob, B.mem 0, B.get 0, fun f args h => h.elim⟩
  | k + 1 => by
    refine ⟨B.gns, B.bns, B.boot, B.gl, B.nob, B.mem _, B.get _, fun f args h => ?_⟩
    have X : Sx prog w hb (CC D fs k) k 200 := sx (base_cc B k) 200
    have h : (runFn (CC D fs k) fs f args).2 := h
    show ∃ a o fd, _ ∧ _ ∧ _ ∧ ∀ (A : Around) (s : Shared) (mu : List Addr) (ws : List Value), KeepAll hb s.heap → Rm A (k + 1) → Live mu s.heap → Reps w.params mu s.heap args ws →
      Tr prog w A (call (.ref a) ws) s (fun v h => Rep w.params mu h (runFn (CC D fs k) fs f args).1 v)
    unfold runFn at h ⊢
    cases e : fs.find? (fun t => t.name == f) with
    | none => rw [e] at h; exact h.elim
    | some t =>
      rw [e] at h
      dsimp only at h ⊢
      have ht := List.mem_of_find?_eq_some e
      have hn : t.name = f := by have := List.find?_some e; simpa using this
      obtain ⟨a, o, fd, h1, h2, h3, h4, h5, h6⟩ := B.fn t ht
      refine ⟨a, o, fd, hn ▸ h1, h2, h3, fun A s mu ws kb rm live r => ?_⟩
      by_cases hl : args.length = t.params.length
      · rw [if_pos hl] at h ⊢
        rw [← h5] at h ⊢
        generalize hq : exs (CC D fs k) (fun x => fd.scope.names.lookup x) 200 (startLs t.params args) t.body = q at h ⊢
        obtain ⟨fl, l', c⟩ := q
        cases fl with
        | next => exact h.elim
        | ret v =>
          exact call_fn X h4 h2 h3 B.lim h6 kb rm live r hl (by rw [hq]) (by rw [hq]; exact h)
      · rw [if_neg hl] at h; exact h.elim
end
end Mine
namespace Mine
open PySem PySem.W PyProof.Rows PySem.Calls
noncomputable def fnT (st : Stmt) : FnT := match st with
  | .FunctionDef name args body _ _ _ scope _ _ _ => ⟨name, args.args.map (·.arg), scope, body⟩
  | _ => ⟨"", [], default, []⟩

theorem fnAt_of {K : Frag} {h : Heap} {mg : Str → Option Value} (X : K.In h) (G : h.Ns mainGlobals mg) {t : FnT} {a : Addr} {o : Obj} {fd : FuncData} (e1 : nsIn K mainGlobals t.name = some (some (.ref a))) (e2 : K.lookup a = some o) (e3 : o.data = .func fd)
    (ok : FdOk fd t.params t.body) (hs : fd.scope = t.scope) (hc : codeIn K fd.code fd.qualname = true) : FnAt h mg t :=
  ⟨a, o, fd, mg_of X G e1, X _ _ e2, e3, ok, hs, codeRec_of X hc⟩

theorem lookup_memL {L : List (Str × V)} {x : Str} {v : V} (h : L.lookup x = some v) : (x, v) ∈ L := by
  induction L with
  | nil => cases h
  | cons p r ih =>
    obtain ⟨y, u⟩ := p
    rw [List.lookup_cons] at h
    by_cases e : (x == y) = true
    · rw [e] at h
      cases h
      rw [eq_of_beq e]; exact .head _
    · rw [show (x == y) = false from by simpa using e] at h
      exact .tail _ (ih h)
/-- a global value that we know -/
noncomputable def glAt (K : Frag) (p : Str × V) : Bool := match nsIn K mainGlobals p.1, p.2 with
  | some (some (.int j _)), .int i => i == j
  | some (some wv), .val u => wv == u
  | _, _ => false
theorem gl_ok {K : Frag} {h : Heap} {mg : Str → Option Value} (X : K.In h) (G : h.Ns mainGlobals mg) {L : List (Str × V)} (hL : (L.all fun p => glAt K p) = true) : ∀ x v, L.lookup x = some v → ∃ wv, mg x = some wv ∧ ((∃ i t, v = .int i ∧ wv = .int i t) ∨ v = .val wv) := fun x v e => by
  have := List.all_eq_true.mp hL _ (lookup_memL e)
  unfold glAt at this
  split at this
  · rename_i j t i e1 e2
    obtain rfl := eq_of_beq this
    exact ⟨_, mg_of X G e1, .inl ⟨_, _, e2, rfl⟩⟩
  · rename_i wv u e1 e2
    obtain rfl := eq_of_beq this
    exact ⟨_, mg_of X G e1, .inr e2⟩
  · cases this
noncomputable def bltNames : List Str := ["len", "ord", "chr", "abs", "int", "divmod", "min", "sum", "list", "range"]
theorem nob_ok {K : Frag} {h : Heap} {mg : Str → Option Value} (X : K.In h) (G : h.Ns mainGlobals mg) (hL : (bltNames.all fun x => nsIn K mainGlobals x == some none) = true) : ∀ x, (isBlt x = true ∨ x = ("list" : Str) ∨ x = ("range" : Str)) → mg x = none := fun x hx => by
  have hm : x ∈ bltNames := by
    rcases hx with hx | rfl | rfl
    · have := List.contains_iff_mem.mp hx
      simp only [List.mem_cons, List.not_mem_nil, or_false] at this
      simp only [bltNames, List.mem_cons, List.not_mem_nil, or_false]
      rcases this with h | h | h | h | h | h | h | h <;> simp [h]
    · simp [bltNames]
    · simp [bltNames]
  exact ns_none_of X G (by simpa using List.all_eq_true.mp hL x hm)

section
variable {prog : Program} {w : World} {hb : Heap}
noncomputable def setEs (es : List (Int × Value)) : Bool := es.all fun e => match e.2 with
  | .int k _ => e.1 == hashInt k
  | _ => false
theorem mem_ok {K : Frag} {a : Addr} {es : List (Int × Value)} {ep : Nat} {t : SetTable} {g : Cfg} (X : K.In hb) (e : K.lookup a = some ⟨.type "set", none, .set es.toArray ep t, #[]⟩) (chk : setEs es = true) (hn : es.length < 4096) (fits : t.fits es.length = true)
    (hm : g.mem = fun wv i => (es.any fun e => Value.isInt i e.2, wv = .ref a)) : MemOk prog w hb g := by
  intro A s wv i tk kb h
  rw [hm] at h ⊢
  obtain rfl : wv = .ref a := h
  have so : Obj.SetObjOf (intKind prog w) ⟨.type "set", none, .set es.toArray ep t, #[]⟩ (fun i => es.any fun e => Value.isInt i e.2) es.length := by
    refine ⟨⟨rfl, rfl, rfl⟩, es.toArray, ep, t, rfl, ?_, ?_, by simp, by simpa using fits⟩
    · intro e he
      have he' : e ∈ es := by simpa using he
      clear he
      have := List.all_eq_true.mp chk e he'
      obtain ⟨hh, v⟩ := e
      clear he'
      cases v <;> simp only at this <;> first | cases this | skip
      rename_i k t
      exact ⟨⟨k, isInt_self k t, eq_of_beq this⟩, rfl⟩
    · intro k
      simp only [List.any_eq_true]
      rfl
  refine Tr.of fun R k => ?_
  refine wpAny_inSet_of (knd := intKind prog w) (isInt_self i tk) rfl (so.setOf (kb _ _ (X _ _ e)) (by unfold scanBound; omega)) (k _ s.heap _ (fun _ _ e => e) rfl)
noncomputable def dictEs (es : List DictEntry) : Bool := es.all fun e => (match e.key with
  | .int k _ => e.hash == hashInt k
  | _ => false) && match e.val with
  | .str _ _ => true
  | _ => false
/-- a table's text at an int -/
noncomputable def tabGet (es : List DictEntry) (i : Int) : V := match es.find? (fun e => Value.isInt i e.key) with
  | some ⟨_, _, .str x _⟩ => .str x.cps.toList
  | _ => .none
theorem get_ok {K : Frag} {a : Addr} {es : List DictEntry} {ep : Nat} {g : Cfg} (X : K.In hb) (lo : (a == sysModules) = false) (e : K.lookup a = some ⟨.type "dict", none, .dict es.toArray ep, #[]⟩) (chk : dictEs es = true)
    (hm : g.get = fun wv i => (tabGet es i, wv = .ref a)) : GetOk prog w hb g := by
  intro A s wv i tk kb h
  rw [hm] at h ⊢
  obtain rfl : wv = .ref a := h
  have ho := kb _ _ (X _ _ e)
  refine ⟨⟨a, _, rfl, ho, rfl, rfl⟩, Tr.of fun R k => ?_⟩
  have mo : s.heap.MapOf (intKind prog w) a (fun k => findBy Value.isInt es.toArray k) := by
    refine ⟨_, es.toArray, ep, ho, ⟨rfl, rfl, rfl⟩, rfl, ?_, fun _ => rfl⟩
    intro e he
    have he' : e ∈ es := by simpa using he
    clear he
    have := List.all_eq_true.mp chk e he'
    clear he'
    obtain ⟨hh, key, v⟩ := e
    simp only [Bool.and_eq_true] at this
    obtain ⟨this, _⟩ := this
    cases key <;> simp only at this <;> first | cases this | skip
    rename_i k t
    exact ⟨k, isInt_self k t, eq_of_beq this⟩
  refine call_meetsIn PySem.F.slot_dict_get ⟨_, ho, rfl⟩ PySem.F.entry_dict_get (PySem.F.args_dict_get_2 _ _) (meets_dict_get (intKind prog w) a (k := i) (isInt_self i tk) lo) ⟨_, mo, ?_⟩
  refine k _ s.heap _ (fun _ _ e => e) fun mu => ?_
  unfold tabGet findBy
  rw [← Array.find?_toList]
  cases hf : es.find? (fun e => Value.isInt i e.key) with
  | none => simp only [hf, Option.map_none, Option.getD_none]; unfold Rep; rfl
  | some e =>
    have he := List.mem_of_find?_eq_some hf
    have := List.all_eq_true.mp chk e he
    obtain ⟨hh, key, v⟩ := e
    simp only [Bool.and_eq_true] at this
    obtain ⟨_, this⟩ := this
    cases v <;> simp only at this <;> first | cases this | skip
    rename_i x t
    simp only [hf, Option.map_some, Option.getD_some]
    unfold Rep
    exact ⟨t, rfl⟩
end
end Mine
namespace Mine
open PySem PySem.W PyProof.Rows PySem.Calls
/-- what can be computed of FdOk -/
noncomputable def fdChk (fd : FuncData) (params : List Str) : Bool :=
  !fd.scope.isCoroutine && !fd.scope.isGenerator && fd.scope.kind == .function && fd.globals == mainGlobals && fd.builtins == builtinsNs && fd.closure.isEmpty && decide params.Nodup &&
  (params.all fun x => (fd.scope.names.lookup x == some .local || fd.scope.names.lookup x == some .cell) && nameOk x) && (fd.scope.names.all fun p => !(p.2 == .free)) && decide ((cellsFrom 0 fd.scope.names []).map (·.1)).Nodup
theorem lookup_in {L : List (Str × NameKind)} {x : Str} {v : NameKind} (h : L.lookup x = some v) : (x, v) ∈ L := by
  induction L with
  | nil => cases h
  | cons p r ih =>
    obtain ⟨y, u⟩ := p
    rw [List.lookup_cons] at h
    by_cases e : (x == y) = true
    · rw [e] at h
      cases h
      rw [eq_of_beq e]; exact .head _
    · rw [show (x == y) = false from by simpa using e] at h
      exact .tail _ (ih h)
theorem fdOk_of {fd : FuncData} {params : List Str} {body : List Stmt} (h : fdChk fd params = true) (hb : fd.body = .stmts body) (bind : ∀ ws : List Value, ws.length = params.length → bindArgs fd ⟨ws, []⟩ = pure (params.zip ws)) : FdOk fd params body := by
  unfold fdChk at h
  simp only [Bool.and_eq_true, Bool.not_eq_true', beq_iff_eq, decide_eq_true_eq, List.isEmpty_iff] at h
  obtain ⟨⟨⟨⟨⟨⟨⟨⟨⟨h1, h2⟩, h3⟩, h4⟩, h5⟩, h6⟩, h7⟩, h8⟩, h9⟩, h10⟩ := h
  refine ⟨h1, h2, h3, hb, h4, h5, h6, h7, fun x hx => ?_, fun x hx => ?_, h10, bind⟩
  · have := List.all_eq_true.mp h8 x hx
    simpa using this
  · have := List.all_eq_true.mp h9 _ (lookup_in hx)
    simp at this
theorem bind1 {fd : FuncData} {a : Str} (h : ∀ v, bindArgs fd ⟨[v], []⟩ = pure [(a, v)]) : ∀ ws : List Value, ws.length = [a].length → bindArgs fd ⟨ws, []⟩ = pure ([a].zip ws)
  | [v], _ => h v
theorem bind2 {fd : FuncData} {a b : Str} (h : ∀ v u, bindArgs fd ⟨[v, u], []⟩ = pure [(a, v), (b, u)]) : ∀ ws : List Value, ws.length = [a, b].length → bindArgs fd ⟨ws, []⟩ = pure ([a, b].zip ws)
  | [v, u], _ => h v u
theorem bind3 {fd : FuncData} {a b c : Str} (h : ∀ v u x, bindArgs fd ⟨[v, u, x], []⟩ = pure [(a, v), (b, u), (c, x)]) : ∀ ws : List Value, ws.length = [a, b, c].length → bindArgs fd ⟨ws, []⟩ = pure ([a, b, c].zip ws)
  | [v, u, x], _ => h v u x
end Mine
namespace Mine
open PySem PySem.W PyProof.Rows PySem.Calls
noncomputable section

-- from Goes.lean


structure Cx where
  p : Program
  w : World
  n₀ : Nat
  ann : Option Value
  b : List Stmt
  env : Env
  q : Pos

noncomputable def Goes (C : Cx) (N : Nat) {α : Type} (m : Sem α) (s : Shared) (a : α) (s' : Shared) : Prop :=
  ∀ (K : α → Sem Fin) (H : Value → Sem Fin) (gd : Bool → Bool) (lv : List Value → List Value) (pos : Pos), ∃ n pos', n ≤ N ∧
    segGo treeTable C.p C.w C.n₀ C.ann 1 n s ⟨m.wrap K H gd lv, .body C.b C.env, pos, [topFrame C.q]⟩ = some (s', ⟨K a, .body C.b C.env, pos', [topFrame C.q]⟩)

section
variable {C : Cx} {α β : Type} {s s' s₁ : Shared}

theorem segGo_app {tb : String → Option Builtin} {p : Program} {w : World} {n₀ : Nat} {ann : Option Value} {b : Nat} : ∀ {n m : Nat} {s s₁ s₂ : Shared} {t t₁ t₂ : Thread},
    segGo tb p w n₀ ann b n s t = some (s₁, t₁) → segGo tb p w n₀ ann b m s₁ t₁ = some (s₂, t₂) → segGo tb p w n₀ ann b (n + m) s t = some (s₂, t₂)
  | 0, m, s, s₁, s₂, t, t₁, t₂, h, k => by
    obtain ⟨rfl, rfl⟩ : s = s₁ ∧ t = t₁ := by simpa [segGo] using h
    rw [Nat.zero_add]; exact k
  | n + 1, m, s, s₁, s₂, t, t₁, t₂, h, k => by
    rw [show n + 1 + m = n + m + 1 by omega]
    unfold segGo at h ⊢
    cases he : endAt b t with
    | some f => rw [he] at h; cases h
    | none =>
      rw [he] at h
      cases hk : stepOk n₀ ann t with
      | false => rw [hk] at h; cases h
      | true =>
        rw [hk] at h
        cases hs : step (denote tb) p w s t with
        | halt o s₂ => rw [hs] at h; cases h
        | go s₂ t₂ => rw [hs] at h; exact segGo_app h k

theorem Goes.le {n N : Nat} {m : Sem α} {a : α} (h : Goes C n m s a s') (e : n ≤ N) : Goes C N m s a s' := fun K H gd lv pos =>
  let ⟨k, p, l, r⟩ := h K H gd lv pos; ⟨k, p, Nat.le_trans l e, r⟩
theorem goes_pure {a : α} : Goes C 0 (.pure a) s a s := fun K H gd lv pos => ⟨0, pos, Nat.le_refl _, rfl⟩
theorem goes_pure' {a : α} : Goes C 0 (Pure.pure a : Sem α) s a s := goes_pure
theorem goes_pureN {N : Nat} {a : α} : Goes C N (Pure.pure a : Sem α) s a s := goes_pure.le (Nat.zero_le _)
theorem goes_bind {n₁ n₂ : Nat} {m : Sem α} {f : α → Sem β} {a : α} {b : β} (h : Goes C n₁ m s a s₁) (k : Goes C n₂ (f a) s₁ b s') : Goes C (n₁ + n₂) (m.bind f) s b s' := fun K H gd lv pos => by
  obtain ⟨n, p₁, l, e⟩ := h (fun a => (f a).wrap K H gd lv) H gd lv pos
  obtain ⟨m', p₂, l', e'⟩ := k K H gd lv p₁
  refine ⟨n + m', p₂, Nat.add_le_add l l', ?_⟩
  rw [Sem.bind_eq_wrap, Sem.wrap_wrap]
  exact segGo_app e e'
theorem goes_bind' {n₁ n₂ : Nat} {m : Sem α} {f : α → Sem β} {a : α} {b : β} (h : Goes C n₁ m s a s₁) (k : Goes C n₂ (f a) s₁ b s') : Goes C (n₁ + n₂) (m >>= f) s b s' := goes_bind h k
theorem goes_bindN {n₁ N : Nat} {m : Sem α} {f : α → Sem β} {a : α} {b : β} (h : Goes C n₁ m s a s₁) (k : Goes C (N - n₁) (f a) s₁ b s') (e : n₁ ≤ N := by first | omega | (simp; omega) | simp) : Goes C N (m >>= f) s b s' := (goes_bind h k).le (by omega)
theorem goes_keep {N : Nat} {vs : List Value} {m : Sem α} {a : α} (h : Goes C N m s a s') : Goes C N (m.keep vs) s a s' := fun K H gd lv pos => by
  rw [Sem.keep_eq_wrap, Sem.wrap_wrap]
  exact h K H _ _ pos
theorem goes_holding {N : Nat} {vs : List Value} {m : Sem α} {a : α} (h : Goes C N m s a s') : Goes C N (holding vs m) s a s' := by
  unfold holding; split
  · exact h
  · exact goes_keep h
theorem goes_onRaise {N : Nat} {m : Sem α} {h : Value → Sem Unit} {a : α} (x : Goes C N m s a s') : Goes C N (m.onRaise h) s a s' := fun K H gd lv pos => by
  rw [Sem.onRaise_eq_wrap, Sem.wrap_wrap]
  exact x K _ _ _ pos

/-- one step -/
theorem goes_one {N : Nat} {m : Sem α} {a : α} {s₁ : Shared} (m' : Sem α) (pos' : Pos → Pos)
    (e : ∀ (K : α → Sem Fin) H gd lv pos, segGo treeTable C.p C.w C.n₀ C.ann 1 1 s ⟨m.wrap K H gd lv, .body C.b C.env, pos, [topFrame C.q]⟩ = some (s₁, ⟨m'.wrap K H gd lv, .body C.b C.env, pos' pos, [topFrame C.q]⟩))
    (k : Goes C N m' s₁ a s') : Goes C (1 + N) m s a s' := fun K H gd lv pos => by
  obtain ⟨n, p', l, e'⟩ := k K H gd lv (pos' pos)
  exact ⟨1 + n, p', Nat.add_le_add_left l 1, segGo_app (e K H gd lv pos) e'⟩

theorem goes_fresh : Goes C 1 fresh s s.toks { s with toks := s.toks + 1 } := goes_one (.pure s.toks) id (fun K H gd lv pos => rfl) goes_pure
theorem goes_at {p' : Pos} : Goes C 1 (standAt p') s () s := goes_one (.pure ()) (fun _ => p') (fun K H gd lv pos => rfl) goes_pure
theorem goes_rule {t : String} : Goes C 1 (rule t) s () s := goes_one (.pure ()) id (fun K H gd lv pos => rfl) goes_pure
theorem goes_alloc {o : Obj} : Goes C 1 (alloc o) s s.heap.objs.size { s with heap := s.heap.push o } := goes_one (.pure s.heap.objs.size) id (fun K H gd lv pos => rfl) goes_pure
theorem goes_step {N : Nat} {m : Sem α} {a : α} {s₁ : Shared} (m' : Sem α)
    (hc : ∀ (K : α → Sem Fin) H gd lv pos, endAt 1 ⟨m.wrap K H gd lv, .body C.b C.env, pos, [topFrame C.q]⟩ = none)
    (hk : ∀ (K : α → Sem Fin) H gd lv pos, stepOk C.n₀ C.ann ⟨m.wrap K H gd lv, .body C.b C.env, pos, [topFrame C.q]⟩ = true)
    (e : ∀ (K : α → Sem Fin) H gd lv pos, step (denote treeTable) C.p C.w s ⟨m.wrap K H gd lv, .body C.b C.env, pos, [topFrame C.q]⟩ = .go s₁ ⟨m'.wrap K H gd lv, .body C.b C.env, pos, [topFrame C.q]⟩)
    (k : Goes C N m' s₁ a s') : Goes C (1 + N) m s a s' := goes_one m' id (fun K H gd lv pos => by
  unfold segGo
  rw [hc, hk]
  dsimp only
  rw [e]
  rfl) k
theorem goes_load {a : Addr} {part : Option Value} {o : Obj} (h : s.heap.get? a = some o) : Goes C 1 (loadPart a part) s o s :=
  goes_step (.pure o) (fun _ _ _ _ _ => rfl) (fun _ _ _ _ _ => rfl) (fun K H gd lv pos => by
    obtain ⟨heap, gens, drawn, toks, os⟩ := s
    show (match heap.get? a with | some o => _ | none => _) = _
    rw [show heap.get? a = some o from h]) goes_pure
theorem goes_update {a : Addr} {part : Option Value} {f : Obj → Obj} {o : Obj} (h : s.heap.get? a = some o) (hn : Nat.ble C.n₀ a = true) : Goes C 1 (updatePart a part f) s () { s with heap := s.heap.update a f } :=
  goes_step (.pure ()) (fun _ _ _ _ _ => rfl) (fun _ _ _ _ _ => by
    show (_ && (Nat.ble C.n₀ a || _ || _ || _)) = true
    rw [hn]; rfl) (fun K H gd lv pos => by
    obtain ⟨heap, gens, drawn, toks, os⟩ := s
    show (if (heap.get? a).isSome then _ else _) = _
    rw [show heap.get? a = some o from h]
    rfl) goes_pure

end
variable {C : Cx} {α β : Type} 
noncomputable def hX (x : Int) : Int :=
  let h : Int := x.natAbs % (2 ^ 61 - 1 : Nat)
  let h := if x < 0 then -h else h
  if h == -1 then -2 else h
theorem hX_eq (m : Nat) (h2 : m < 1152921504606846976) : hX (m : Int) = m := by
  unfold hX
  have e : (m % 2305843009213693951) = m := Nat.mod_eq_of_lt (by omega)
  have e2 : (((m : Int).natAbs : Int) % ((2 ^ 61 - 1 : Nat) : Int)) = (m : Int) := by
    show ((m : Int) % (2305843009213693951 : Int)) = m
    omega
  dsimp only
  rw [if_neg (show ¬ ((m : Int) < 0) by omega), e2, if_neg (show ¬ (((m : Int) == -1) = true) by simp <;> omega)]
theorem hash_run (r : Bool) (p : Program) (w : World) (n₀ : Nat) (ann : Option Value) (b : List Stmt) (env : Env) (q : Pos) (heap : Heap) (gens : Array GenState) (drawn : Drawn) (toks : Nat) (os : OsState) (k : Int) (t : Tok) (K : Int → Sem Fin) (H : Value → Sem Fin) (gd : Bool → Bool) (lv : List Value → List Value) (pos : Pos) :
  segGo treeTable p (w.withFollow "special-get-raises" r) n₀ ann 1 5 ⟨heap, gens, drawn, toks, os⟩ ⟨(pyHash (.int k t)).wrap K H gd lv, .body b env, pos, [topFrame q]⟩ =
   some (⟨heap, gens, drawn, toks + 1, os⟩, ⟨(pyHashByItsType.reduced (hX k)).wrap K H gd lv, .body b env, pos, [topFrame q]⟩) := by
  rw [PySem.W.Fast.te3277212676724774461, PySem.W.Fast.te14364793385576792824, PySem.W.Fast.te10540108854288196387, PySem.W.Fast.te199310478702765468]
  cases r <;> kernel_rfl!
theorem goes_hash {s : Shared} {m : Nat} {t : Tok} (h2 : m < 1152921504606846976) : Goes C 5 (pyHash (.int (m : Int) t)) s m { s with toks := s.toks + 1 } := fun K H gd lv pos => by
  obtain ⟨heap, gens, drawn, toks, os⟩ := s
  have e := hash_run (C.w.params.followText "special-get-raises") C.p C.w C.n₀ C.ann C.b C.env C.q heap gens drawn toks os m t K H gd lv pos
  rw [World.withFollow_self, hX_eq m h2] at e
  refine ⟨5, pos, Nat.le_refl _, e.trans ?_⟩
  have er : pyHashByItsType.reduced (m : Int) = .pure (m : Int) := by
    unfold pyHashByItsType.reduced
    have : (decide (-(2 ^ 63 : Int) ≤ (m : Int)) && decide ((m : Int) < 2 ^ 63)) = true := by
      rw [show (2 ^ 63 : Int) = 9223372036854775808 by decide]
      simp; omega
    rw [if_pos this, if_neg (show ¬ (((m : Int) == -1) = true) by simp <;> omega)]
    rfl
  rw [er]; rfl

-- from Goes2.lean


noncomputable def dobj (es : List DictEntry) (n : Nat) : Obj := ⟨.type "dict", none, .dict es.toArray n, #[]⟩
noncomputable def H (pre : List Obj) (o : Obj) (subs : List Obj) (l : Life) : Heap := ⟨(pre ++ o :: subs).toArray, l⟩

theorem H_raw (pre : List Obj) (o : Obj) (subs : List Obj) (l : Life) : (H pre o subs l).objs[pre.length]? = some o := by simp [H]
theorem H_get {pre : List Obj} {es : List DictEntry} {n : Nat} {subs : List Obj} {l : Life} : (H pre (dobj es n) subs l).get? pre.length = some (dobj es n) := by
  unfold Heap.get?
  rw [H_raw]
  rfl
theorem mti (o : Obj) (subs : List Obj) (f : Obj → Obj) : ∀ pre : List Obj, (pre ++ o :: subs).modifyTailIdx pre.length (List.modifyHead f) = pre ++ f o :: subs
  | [] => rfl
  | x :: pre => by
    show x :: (pre ++ o :: subs).modifyTailIdx pre.length (List.modifyHead f) = _
    rw [mti o subs f pre]; rfl
theorem H_upd {pre : List Obj} {o : Obj} {subs : List Obj} {l : Life} {f : Obj → Obj} : (H pre o subs l).update pre.length f = H pre (f o) subs l := by
  simp only [H, Heap.update, Heap.mk.injEq, and_true]
  apply Array.ext'
  simp only [Array.toList_modify, List.modify]
  exact mti o subs f pre
theorem H_last {pre : List Obj} {o x : Obj} {subs : List Obj} {l : Life} : H pre o (subs ++ [x]) l = H (pre ++ o :: subs) x [] l := by
  simp [H]

section
variable {C : Cx} {pre : List Obj} {es : List DictEntry} {n : Nat} {subs : List Obj} {l : Life} {gens : Array GenState} {drawn : Drawn} {toks : Nat} {os : OsState}

noncomputable abbrev Sh (h : Heap) (gens : Array GenState) (drawn : Drawn) (toks : Nat) (os : OsState) : Shared := ⟨h, gens, drawn, toks, os⟩

theorem goes_dictEntries {d : Addr} {s : Shared} {part : Option Value} (h : s.heap.get? d = some (dobj es n)) : Goes C 1 (dictEntries d part) s es.toArray s :=
  Goes.le (goes_bind' (goes_load h) goes_pure') (Nat.le_refl _)
theorem goes_dictEpoch {d : Addr} {s : Shared} {part : Option Value} (h : s.heap.get? d = some (dobj es n)) : Goes C 1 (dictEpoch d part) s n s :=
  Goes.le (goes_bind' (goes_load h) goes_pure') (Nat.le_refl _)

theorem places_nil {h : Int} (ha : ∀ e ∈ es, e.hash ≠ h) : placesWithHash es.toArray.size (fun i => es.toArray[i]?.map (·.hash)) h = [] := by
  unfold placesWithHash
  rw [List.filter_eq_nil_iff]
  intro i hi
  have hi' : i < es.length := by simpa using hi
  simp only [List.getElem?_toArray, List.getElem?_eq_getElem hi', Option.map_some, beq_iff_eq, Option.some.injEq]
  exact ha _ (List.getElem_mem hi')
theorem goes_dictFind {d : Addr} {s : Shared} {k : Int} {t : Tok} (h : s.heap.get? d = some (dobj es n)) (ha : ∀ e ∈ es, e.hash ≠ k) : Goes C 1 (dictFind d (.int k t) k) s none s := by
  unfold dictFind
  refine goes_holding (goes_bindN (goes_dictEntries h) ?_)
  dsimp only
  rw [places_nil ha]
  exact goes_pureN
theorem goes_updKeys {d : Addr} {s : Shared} {part : Option Value} {e : DictEntry} (h : s.heap.get? d = some (dobj es n)) (h' : (s.heap.update d (Obj.mapDictKeys (·.push e))).get? d = some (dobj (es ++ [e]) (n + 1)))
    (hn : Nat.ble C.n₀ d = true) (hz : es.length ≤ 100000) :
    Goes C 3 (updateDictKeys d (·.push e) part) s () { s with heap := s.heap.update d (Obj.mapDictKeys (·.push e)) } := by
  unfold updateDictKeys
  refine goes_bindN (goes_load h) ?_
  refine goes_bindN (goes_update h hn) ?_
  unfold lookBehind
  refine goes_bindN (goes_load h') ?_
  have : (dobj (es ++ [e]) (n + 1)).data.pastItsLine = none := pastItsLine_dict (by
    simp only [List.size_toArray, List.length_append, List.length_singleton]
    have : (2 : Nat) ^ 24 = 16777216 := by decide
    unfold sizeLine; omega)
  rw [this]
  exact goes_pureN
theorem H_map {e : DictEntry} : (H pre (dobj es n) subs l).update pre.length (Obj.mapDictKeys (·.push e)) = H pre (dobj (es ++ [e]) (n + 1)) subs l := by
  rw [H_upd]
  simp [dobj, Obj.mapDictKeys]

theorem goes_put {k : Nat} {t : Tok} {v : Value} {hd : Nat.ble C.n₀ pre.length = true} (ha : ∀ e ∈ es, e.hash ≠ (k : Int)) (hz : es.length ≤ 100000) :
    Goes C 4 (dictPut pre.length (k : Int) (.int k t) v) (Sh (H pre (dobj es n) subs l) gens drawn toks os) () (Sh (H pre (dobj (es ++ [⟨k, .int k t, v⟩]) (n + 1)) subs l) gens drawn toks os) := by
  unfold dictPut
  refine goes_bindN (goes_dictFind H_get ha) ?_
  have := goes_updKeys (C := C) (s := Sh (H pre (dobj es n) subs l) gens drawn toks os) (part := none) (e := ⟨k, .int k t, v⟩) H_get (by show (Heap.update _ _ _).get? _ = _; rw [H_map]; exact H_get) hd hz
  have e : ({ Sh (H pre (dobj es n) subs l) gens drawn toks os with heap := (Sh (H pre (dobj es n) subs l) gens drawn toks os).heap.update pre.length (Obj.mapDictKeys (·.push ⟨k, .int k t, v⟩)) } : Shared) = Sh (H pre (dobj (es ++ [⟨k, .int k t, v⟩]) (n + 1)) subs l) gens drawn toks os := by
    show Sh (Heap.update _ _ _) _ _ _ _ = _
    rw [H_map]
  rw [e] at this
  exact this.le (by first | omega | (simp; omega) | simp)

theorem goes_set {k : Nat} {t : Tok} {v : Value} (hd : Nat.ble C.n₀ pre.length = true) (hk : k < 1152921504606846976) (ha : ∀ e ∈ es, e.hash ≠ (k : Int)) (hz : es.length ≤ 100000) :
    Goes C 10 (dictSet pre.length (.int k t) v) (Sh (H pre (dobj es n) subs l) gens drawn toks os) () (Sh (H pre (dobj (es ++ [⟨k, .int k t, v⟩]) (n + 1)) subs l) gens drawn (toks + 1) os) := by
  unfold dictSet
  refine goes_holding (goes_bindN (goes_hash hk) ?_)
  unfold dictSetHashed
  refine goes_holding (goes_bindN (goes_dictFind H_get ha) ?_)
  refine goes_bindN goes_rule ?_
  have := goes_updKeys (C := C) (s := Sh (H pre (dobj es n) subs l) gens drawn (toks + 1) os) (part := keyPart (.int k t)) (e := ⟨k, .int k t, v⟩) H_get (by show (Heap.update _ _ _).get? _ = _; rw [H_map]; exact H_get) hd hz
  have e : ({ Sh (H pre (dobj es n) subs l) gens drawn (toks + 1) os with heap := (Sh (H pre (dobj es n) subs l) gens drawn (toks + 1) os).heap.update pre.length (Obj.mapDictKeys (·.push ⟨k, .int k t, v⟩)) } : Shared) = Sh (H pre (dobj (es ++ [⟨k, .int k t, v⟩]) (n + 1)) subs l) gens drawn (toks + 1) os := by
    show Sh (Heap.update _ _ _) _ _ _ _ = _
    rw [H_map]
  rw [e] at this
  exact this.le (by first | omega | (simp; omega) | simp)
end

-- from Goes3.lean

section
variable {C : Cx} {pre : List Obj} {es : List DictEntry} {n : Nat} {subs : List Obj} {l : Life} {gens : Array GenState} {drawn : Drawn} {toks : Nat} {os : OsState}

theorem goes_forIn_nil {α β : Type} {f : α → β → Sem (ForInStep β)} {b : β} {s : Shared} : Goes C 0 (forIn ([] : List α) b f) s b s := by
  rw [List.forIn_nil]; exact goes_pureN
theorem goes_forIn_cons {α β : Type} {f : α → β → Sem (ForInStep β)} {x : α} {xs : List α} {b b' r : β} {s s₁ s' : Shared}
    {n₁ N : Nat} (h : Goes C n₁ (f x b) s (.yield b') s₁) (k : Goes C (N - n₁) (forIn xs b' f) s₁ r s') (e : n₁ ≤ N := by first | omega | (simp; omega) | simp) : Goes C N (forIn (x :: xs) b f) s r s' := by
  rw [List.forIn_cons]; exact goes_bindN h k e

noncomputable abbrev Pr := Nat × Str
noncomputable def entL (t : Nat) : List Pr → List DictEntry
  | [] => []
  | p :: r => ⟨(p.1 : Int), .int (p.1 : Int) t, .str p.2 (t + 1)⟩ :: entL (t + 3) r
noncomputable def entS (t : Nat) : List Pr → List DictEntry
  | [] => []
  | p :: r => ⟨(p.1 : Int), .int (p.1 : Int) t, .str p.2 (t + 1)⟩ :: entS (t + 2) r
theorem entL_length : ∀ (t : Nat) (ps : List Pr), (entL t ps).length = ps.length
  | _, [] => rfl
  | t, p :: r => by simp [entL, entL_length (t + 3) r]
theorem entS_length : ∀ (t : Nat) (ps : List Pr), (entS t ps).length = ps.length
  | _, [] => rfl
  | t, p :: r => by simp [entS, entS_length (t + 2) r]
theorem entL_hash : ∀ {t : Nat} {ps : List Pr} {e : DictEntry}, e ∈ entL t ps → ∃ p ∈ ps, e.hash = (p.1 : Int)
  | _, [], _, h => by cases h
  | t, p :: r, e, h => by
    rcases List.mem_cons.mp h with rfl | h
    · exact ⟨p, .head _, rfl⟩
    · obtain ⟨q, hq, e⟩ := entL_hash h; exact ⟨q, .tail _ hq, e⟩
theorem entS_hash : ∀ {t : Nat} {ps : List Pr} {e : DictEntry}, e ∈ entS t ps → ∃ p ∈ ps, e.hash = (p.1 : Int)
  | _, [], _, h => by cases h
  | t, p :: r, e, h => by
    rcases List.mem_cons.mp h with rfl | h
    · exact ⟨p, .head _, rfl⟩
    · obtain ⟨q, hq, e⟩ := entS_hash h; exact ⟨q, .tail _ hq, e⟩

structure ItemOk (C : Cx) (x : Sem Value × Sem Value) (p : Pr) : Prop where
  key : ∀ s : Shared, Goes C 1 x.1 s (.int (p.1 : Int) s.toks) { s with toks := s.toks + 1 }
  val : ∀ s : Shared, Goes C 2 x.2 s (.str p.2 s.toks) { s with toks := s.toks + 1 }
  fits : p.1 < 1152921504606846976
inductive Items (C : Cx) : List (Sem Value × Sem Value) → List Pr → Prop
  | nil : Items C [] []
  | cons {x p xs ps} : ItemOk C x p → Items C xs ps → Items C (x :: xs) (p :: ps)
theorem Items.length {xs ps} (h : Items C xs ps) : xs.length = ps.length := by
  induction h with
  | nil => rfl
  | cons _ _ ih => simp [ih]

theorem goes_loopL {xs : List (Sem Value × Sem Value)} {ps : List Pr} (I : Items C xs ps) (hd : Nat.ble C.n₀ pre.length = true) :
    ∀ (es : List DictEntry) (n toks : Nat), (∀ e ∈ es, ∀ p ∈ ps, e.hash < (p.1 : Int)) → ps.Pairwise (fun a b => a.1 < b.1) → es.length + ps.length ≤ 100000 →
    Goes C (13 * ps.length) (forIn xs PUnit.unit fun x r => do
        let kv ← x.1
        let vv ← holding [kv] x.2
        holding [kv, vv] (dictSet pre.length kv vv)
        pure (ForInStep.yield PUnit.unit)) (Sh (H pre (dobj es n) subs l) gens drawn toks os) PUnit.unit
      (Sh (H pre (dobj (es ++ entL toks ps) (n + ps.length)) subs l) gens drawn (toks + 3 * ps.length) os) := by
  induction I with
  | nil => intro es n toks _ _ _; simp only [entL, List.append_nil, List.length_nil, Nat.mul_zero, Nat.add_zero]; exact goes_forIn_nil.le (Nat.zero_le _)
  | @cons x p xs ps hx I ih =>
    intro es n toks hlt hpw hz
    refine goes_forIn_cons (goes_bind' (hx.key _) (goes_bind' (goes_holding (hx.val _)) (goes_bind' (goes_holding (goes_set hd hx.fits (fun e he => Int.ne_of_lt (hlt e he p (.head _))) (by simp at hz; omega))) goes_pure'))) ?_
    have hpw' := List.pairwise_cons.mp hpw
    have := ih (es ++ [⟨(p.1 : Int), .int (p.1 : Int) toks, .str p.2 (toks + 1)⟩]) (n + 1) (toks + 1 + 1 + 1) (fun e he q hq => by
      rcases List.mem_append.mp he with he | he
      · exact hlt e he q (.tail _ hq)
      · rw [List.mem_singleton.mp he]; have := hpw'.1 q hq; show (p.1 : Int) < q.1; omega) hpw'.2 (by simp at hz ⊢; omega)
    have e1 : es ++ [(⟨(p.1 : Int), .int (p.1 : Int) toks, .str p.2 (toks + 1)⟩ : DictEntry)] ++ entL (toks + 1 + 1 + 1) ps = es ++ entL toks (p :: ps) := by simp [entL]
    have e2 : n + 1 + ps.length = n + (p :: ps).length := by simp; omega
    have e3 : toks + 1 + 1 + 1 + 3 * ps.length = toks + 3 * (p :: ps).length := by simp; omega
    rw [e1, e2, e3] at this
    exact this.le (by first | omega | (simp; omega) | simp)

theorem goes_subL {xs : List (Sem Value × Sem Value)} {ps : List Pr} (I : Items C xs ps) (hd : Nat.ble C.n₀ pre.length = true) (hlong : ¬ xs.length ≤ 15) (hpw : ps.Pairwise (fun a b => a.1 < b.1)) (hz : ps.length ≤ 100000) :
    Goes C (2 + 13 * ps.length) (subDict xs) (Sh ⟨pre.toArray, l⟩ gens drawn toks os) pre.length (Sh (H pre (dobj (entL toks ps) ps.length) [] l) gens drawn (toks + 3 * ps.length) os) := by
  unfold subDict
  refine goes_bindN goes_alloc ?_
  have e : (Sh ⟨pre.toArray, l⟩ gens drawn toks os).heap.push { cls := .type "dict", data := .dict #[] } = H pre (dobj [] 0) [] l := by simp [H, Heap.push, dobj]
  have e0 : (Sh ⟨pre.toArray, l⟩ gens drawn toks os).heap.objs.size = pre.length := by simp
  rw [e, e0]
  rw [if_neg hlong]
  have := goes_loopL (subs := []) (l := l) (gens := gens) (drawn := drawn) (os := os) I hd [] 0 toks (fun e he => by cases he) hpw (by simpa using hz)
  rw [List.nil_append, Nat.zero_add] at this
  exact Goes.le (goes_bind' (goes_holding (goes_bind' goes_rule (goes_bind' this goes_pure'))) goes_pure') (by omega)

theorem goes_evalPairs {xs : List (Sem Value × Sem Value)} {ps : List Pr} (I : Items C xs ps) : ∀ (h : Heap) (toks : Nat),
    Goes C (3 * ps.length) (evalPairs xs) (Sh h gens drawn toks os) ((entS toks ps).map fun e => (e.key, e.val)) (Sh h gens drawn (toks + 2 * ps.length) os) := by
  induction I with
  | nil => intro h toks; exact goes_pureN
  | @cons x p xs ps hx I ih =>
    intro h toks
    unfold evalPairs
    refine goes_bindN (hx.key _) (goes_bindN (goes_holding (hx.val _)) ?_)
    have := ih h (toks + 1 + 1)
    rw [show toks + 1 + 1 + 2 * ps.length = toks + 2 * (p :: ps).length by simp; omega] at this
    exact Goes.le (goes_bind' (goes_holding this) goes_pure') (by first | omega | (simp; omega))
theorem goes_loopS (hd : Nat.ble C.n₀ pre.length = true) : ∀ (ps : List Pr) (es : List DictEntry) (n t0 toks : Nat), (∀ p ∈ ps, p.1 < 1152921504606846976) → (∀ e ∈ es, ∀ p ∈ ps, e.hash < (p.1 : Int)) → ps.Pairwise (fun a b => a.1 < b.1) → es.length + ps.length ≤ 100000 →
    Goes C (10 * ps.length) (forIn ((entS t0 ps).map fun e => (e.key, e.val)) PUnit.unit fun x r => do
        dictSet pre.length x.1 x.2
        pure (ForInStep.yield PUnit.unit)) (Sh (H pre (dobj es n) subs l) gens drawn toks os) PUnit.unit
      (Sh (H pre (dobj (es ++ entS t0 ps) (n + ps.length)) subs l) gens drawn (toks + ps.length) os)
  | [], es, n, t0, toks, _, _, _, _ => by simp only [entS, List.append_nil, List.length_nil, Nat.add_zero, List.map_nil]; exact goes_forIn_nil.le (Nat.zero_le _)
  | p :: ps, es, n, t0, toks, hf, hlt, hpw, hz => by
    have hpw' := List.pairwise_cons.mp hpw
    refine goes_forIn_cons (goes_bind' (goes_set hd (hf p (.head _)) (fun e he => Int.ne_of_lt (hlt e he p (.head _))) (by simp at hz; omega)) goes_pure') ?_
    have := goes_loopS hd ps (es ++ [⟨(p.1 : Int), .int (p.1 : Int) t0, .str p.2 (t0 + 1)⟩]) (n + 1) (t0 + 2) (toks + 1) (fun q hq => hf q (.tail _ hq)) (fun e he q hq => by
      rcases List.mem_append.mp he with he | he
      · exact hlt e he q (.tail _ hq)
      · rw [List.mem_singleton.mp he]; have := hpw'.1 q hq; show (p.1 : Int) < q.1; omega) hpw'.2 (by simp at hz ⊢; omega)
    have e1 : es ++ [(⟨(p.1 : Int), .int (p.1 : Int) t0, .str p.2 (t0 + 1)⟩ : DictEntry)] ++ entS (t0 + 2) ps = es ++ entS t0 (p :: ps) := by simp [entS]
    have e2 : n + 1 + ps.length = n + (p :: ps).length := by simp; omega
    have e3 : toks + 1 + ps.length = toks + (p :: ps).length := by simp; omega
    rw [e1, e2, e3] at this
    exact this.le (by first | omega | (simp; omega) | simp)
theorem goes_subS {xs : List (Sem Value × Sem Value)} {ps : List Pr} (I : Items C xs ps) (hf : ∀ p ∈ ps, p.1 < 1152921504606846976) (hd : Nat.ble C.n₀ pre.length = true) (hshort : xs.length ≤ 15) (hpw : ps.Pairwise (fun a b => a.1 < b.1)) (hz : ps.length ≤ 100000) :
    Goes C (2 + 13 * ps.length) (subDict xs) (Sh ⟨pre.toArray, l⟩ gens drawn toks os) pre.length (Sh (H pre (dobj (entS toks ps) ps.length) [] l) gens drawn (toks + 3 * ps.length) os) := by
  unfold subDict
  refine goes_bindN goes_alloc ?_
  have e : (Sh ⟨pre.toArray, l⟩ gens drawn toks os).heap.push { cls := .type "dict", data := .dict #[] } = H pre (dobj [] 0) [] l := by simp [H, Heap.push, dobj]
  have e0 : (Sh ⟨pre.toArray, l⟩ gens drawn toks os).heap.objs.size = pre.length := by simp
  rw [e, e0]
  rw [if_pos hshort]
  have := goes_loopS (C := C) (subs := []) (l := l) (gens := gens) (drawn := drawn) (os := os) hd ps [] 0 toks (toks + 2 * ps.length) hf (fun e he => by cases he) hpw (by simpa using hz)
  rw [List.nil_append, Nat.zero_add, show toks + 2 * ps.length + ps.length = toks + 3 * ps.length by omega] at this
  exact Goes.le (goes_bind' (goes_holding (goes_bind' (goes_evalPairs I _ _) (goes_holding (goes_bind' this goes_pure')))) goes_pure') (by omega)

/-- merging a dict made just now (the last object) into the first one -/
theorem goes_isDict {a : Addr} {s : Shared} (h : s.heap.get? a = some (dobj es n)) : Goes C 1 (isInstance (.ref a) (.type "dict")) s true s := by
  unfold isInstance
  have e1 : isSubtype (.type "dict") (.type "dict") = pure true := by rw [isSubtype_type]; kernel_rfl!
  refine goes_bindN (goes_bind' (goes_load h) goes_pure') ?_
  show Goes C _ (isSubtype (.type "dict") (.type "dict")) s true s
  rw [e1]; exact goes_pureN
theorem goes_iterOf {a : Addr} {s : Shared} (h : s.heap.get? a = some (dobj es n)) : Goes C 1 (specialOf (.ref a) "__iter__") s (some (.builtin "dict.__iter__")) s := by
  unfold specialOf
  have e2 : typeLookup (.type "dict") "__iter__" = pure (some (.builtin "dict.__iter__")) := by rw [typeLookup_type, builtinLookup_eq_fast]; kernel_rfl!
  refine goes_bindN (goes_bind' (goes_load h) goes_pure') ?_
  show Goes C _ (typeLookup (.type "dict") "__iter__") s _ s
  rw [e2]; exact goes_pureN
end

-- from Goes4.lean

section
variable {C : Cx} {pre : List Obj} {es ss : List DictEntry} {n m : Nat} {subs : List Obj} {l : Life} {gens : Array GenState} {drawn : Drawn} {toks : Nat} {os : OsState}

theorem goes_range' {f : Nat → PUnit → Sem (ForInStep PUnit)} {N c : Nat} (S : Nat → Shared) (h : ∀ i, i < N → Goes C c (f i ⟨⟩) (S i) (.yield ⟨⟩) (S (i + 1))) :
    ∀ (k i : Nat), i + k = N → Goes C (c * k) (forIn (List.range' i k) PUnit.unit f) (S i) PUnit.unit (S N)
  | 0, i, e => by
    obtain rfl : i = N := by omega
    exact goes_forIn_nil.le (Nat.zero_le _)
  | k + 1, i, e => by
    rw [List.range'_succ]
    exact goes_forIn_cons (h i (by omega)) ((goes_range' S h k (i + 1) (by omega)).le (by rw [Nat.mul_succ]; omega)) (by rw [Nat.mul_succ]; omega)
theorem goes_range {f : Nat → PUnit → Sem (ForInStep PUnit)} {N c : Nat} (S : Nat → Shared) (h : ∀ i, i < N → Goes C c (f i ⟨⟩) (S i) (.yield ⟨⟩) (S (i + 1))) :
    Goes C (c * N) (forIn (List.range N) PUnit.unit f) (S 0) PUnit.unit (S N) := by
  rw [List.range_eq_range']
  exact goes_range' S h N 0 (by omega)

noncomputable def Keyed (e : DictEntry) : Prop := ∃ (k : Nat) (t : Tok), e.hash = (k : Int) ∧ e.key = .int (k : Int) t
theorem keyedL : ∀ {t : Nat} {ps : List Pr} {e : DictEntry}, e ∈ entL t ps → Keyed e
  | _, [], _, h => by cases h
  | t, p :: r, e, h => by
    rcases List.mem_cons.mp h with rfl | h
    · exact ⟨p.1, t, rfl, rfl⟩
    · exact keyedL h
theorem keyedS : ∀ {t : Nat} {ps : List Pr} {e : DictEntry}, e ∈ entS t ps → Keyed e
  | _, [], _, h => by cases h
  | t, p :: r, e, h => by
    rcases List.mem_cons.mp h with rfl | h
    · exact ⟨p.1, t, rfl, rfl⟩
    · exact keyedS h

theorem H_sub {o : Obj} : (H pre o (subs ++ [dobj ss m]) l).get? (pre.length + 1 + subs.length) = some (dobj ss m) := by
  rw [H_last]
  have : pre.length + 1 + subs.length = (pre ++ o :: subs).length := by simp; omega
  rw [this]
  exact H_get

theorem goes_merge (hd : Nat.ble C.n₀ pre.length = true) (hsys : (pre.length + 1 + subs.length == sysModules) = false) (hk : ∀ e ∈ ss, Keyed e) (hes : es ≠ [])
    (hlt : ∀ e ∈ es, ∀ e' ∈ ss, e.hash < e'.hash) (hpw : ss.Pairwise (fun a b => a.hash < b.hash)) (hz : es.length + ss.length ≤ 100000) :
    Goes C (5 + 6 * ss.length) (mergeMapping pre.length (.ref (pre.length + 1 + subs.length)) false) (Sh (H pre (dobj es n) (subs ++ [dobj ss m]) l) gens drawn toks os) ()
      (Sh (H pre (dobj (es ++ ss) (n + ss.length)) (subs ++ [dobj ss m]) l) gens drawn toks os) := by
  unfold mergeMapping
  refine goes_bindN (m := isInstance _ _) (goes_isDict (es := ss) (n := m) H_sub) ?_
  dsimp only
  rw [if_pos rfl]
  refine goes_bindN (m := specialOf _ _) (goes_iterOf (es := ss) (n := m) H_sub) ?_
  refine goes_bindN (a := true) goes_pure' ?_
  dsimp only
  rw [if_neg (by rw [hsys]; exact Bool.false_ne_true)]
  refine goes_bindN (goes_dictEntries H_get) ?_
  rw [if_neg (by cases es with | nil => exact absurd rfl hes | cons => simp)]
  refine goes_bindN (goes_dictEntries H_sub) ?_
  refine goes_bindN (goes_dictEpoch H_sub) ?_
  have fin : ∀ {f : Nat → PUnit → Sem (ForInStep PUnit)}, (∀ i, i < ss.length → Goes C 6 (f i ⟨⟩) (Sh (H pre (dobj (es ++ ss.take i) (n + i)) (subs ++ [dobj ss m]) l) gens drawn toks os) (.yield ⟨⟩)
      (Sh (H pre (dobj (es ++ ss.take (i + 1)) (n + (i + 1))) (subs ++ [dobj ss m]) l) gens drawn toks os)) →
      Goes C (6 * ss.length) (forIn (List.range ss.length) PUnit.unit f) (Sh (H pre (dobj es n) (subs ++ [dobj ss m]) l) gens drawn toks os) PUnit.unit
        (Sh (H pre (dobj (es ++ ss) (n + ss.length)) (subs ++ [dobj ss m]) l) gens drawn toks os) := fun h => by
    have key := goes_range (C := C) (N := ss.length) (fun i => Sh (H pre (dobj (es ++ ss.take i) (n + i)) (subs ++ [dobj ss m]) l) gens drawn toks os) h
    simpa only [List.take_zero, List.append_nil, Nat.add_zero, List.take_length] using key
  rw [List.size_toArray]
  refine goes_bindN (fin ?_) goes_pureN
  · intro i hi
    refine goes_bindN (m := dictEntries _) (goes_dictEntries (es := ss) (n := m) H_sub) ?_
    have ei : ss.toArray[i]? = some ss[i] := by simp [hi]
    rw [ei]
    dsimp only
    obtain ⟨k, t, eh, ek⟩ := hk ss[i] (List.getElem_mem hi)
    have eE : ss[i] = ⟨(k : Int), .int (k : Int) t, ss[i].val⟩ := by
      cases h : ss[i] with
      | mk a b c => rw [h] at eh ek; simp only at eh ek; rw [eh, ek]
    have put := goes_put (C := C) (pre := pre) (es := es ++ ss.take i) (n := n + i) (subs := subs ++ [dobj ss m]) (l := l) (gens := gens) (drawn := drawn) (toks := toks) (os := os) (k := k) (t := t) (v := ss[i].val) (hd := hd)
      (fun e he => by
        rcases List.mem_append.mp he with he | he
        · have := hlt e he ss[i] (List.getElem_mem hi); rw [eh] at this; exact Int.ne_of_lt this
        · obtain ⟨j, hj, rfl⟩ := List.getElem_of_mem he
          rw [List.getElem_take]
          have hj' : j < i := by simp at hj; omega
          have := (List.pairwise_iff_getElem.mp hpw) j i (by omega) hi hj'
          rw [eh] at this; exact Int.ne_of_lt this) (by simp; omega)
    have e2 : es ++ ss.take i ++ [(⟨(k : Int), .int (k : Int) t, ss[i].val⟩ : DictEntry)] = es ++ ss.take (i + 1) := by
      rw [← eE, List.append_assoc, List.take_succ_eq_append_getElem hi]
    rw [e2, ← ek, ← eh] at put
    rw [if_neg Bool.false_ne_true]
    refine goes_bindN (goes_holding put) ?_
    refine goes_bindN (goes_dictEpoch H_sub) ?_
    rw [if_neg (by simp)]
    exact goes_pureN
end

-- from Goes5.lean


structure Disp where
  body : (Option (Sem Value) × Sem Value) → (Option Addr × List (Sem Value × Sem Value)) → Sem (ForInStep (Option Addr × List (Sem Value × Sem Value)))
  fin : (Option Addr × List (Sem Value × Sem Value)) → Sem Value
  eq : ∀ items, dictDisplay items = Sem.bind (forIn items (none, []) body) fin
noncomputable def disp : Disp := ⟨_, _, fun items => rfl⟩

section
variable {C : Cx} {pre : List Obj} {es ss : List DictEntry} {n m : Nat} {subs : List Obj} {l : Life} {gens : Array GenState} {drawn : Drawn} {toks : Nat} {os : OsState}
noncomputable abbrev mk (x : Sem Value × Sem Value) : Option (Sem Value) × Sem Value := (some x.1, x.2)

theorem Items.take {xs ps} (h : Items C xs ps) : ∀ k, Items C (xs.take k) (ps.take k) := by
  induction h with
  | nil => intro k; cases k <;> exact .nil
  | cons hx _ ih => intro k; cases k with
    | zero => exact .nil
    | succ k => exact .cons hx (ih k)
theorem Items.drop {xs ps} (h : Items C xs ps) : ∀ k, Items C (xs.drop k) (ps.drop k) := by
  induction h with
  | nil => intro k; cases k <;> exact .nil
  | cons hx hxs ih => intro k; cases k with
    | zero => exact .cons hx hxs
    | succ k => exact ih k
theorem Items.fits {xs ps} (h : Items C xs ps) : ∀ p ∈ ps, p.1 < 1152921504606846976 := by
  induction h with
  | nil => intro p hp; cases hp
  | cons hx _ ih => intro p hp; rcases List.mem_cons.mp hp with rfl | hp; exact hx.fits; exact ih p hp

theorem body_more {x : Sem Value × Sem Value} {main : Option Addr} {run : List (Sem Value × Sem Value)} (h : run.length ≠ 16) : disp.body (mk x) (main, run) = pure (.yield (main, run ++ [x])) := by
  show (if ((run ++ [x]).length == 17) = true then _ else _) = _
  rw [if_neg (by simp; omega)]
theorem goes_run {N : Nat} {main : Option Addr} {s s' : Shared} {r : Option Addr × List (Sem Value × Sem Value)} {rest : List (Option (Sem Value) × Sem Value)} : ∀ (xs run : List (Sem Value × Sem Value)), run.length + xs.length ≤ 16 →
    Goes C N (forIn rest (main, run ++ xs) disp.body) s r s' → Goes C N (forIn (xs.map mk ++ rest) (main, run) disp.body) s r s'
  | [], run, _, h => by simpa using h
  | x :: xs, run, hl, h => by
    rw [List.map_cons, List.cons_append]
    refine goes_forIn_cons (n₁ := 0) (by rw [body_more (by simp at hl; omega)]; exact goes_pure') (goes_run xs (run ++ [x]) (by simp at hl ⊢; omega) ?_)
    simpa using h

/-- the flush, as the display writes it -/
theorem body_full0 {N : Nat} {x : Sem Value × Sem Value} {run : List (Sem Value × Sem Value)} {s s' : Shared} {a : Addr} (h : run.length = 16) (k : Goes C N (subDict (run ++ [x])) s a s') :
    Goes C N (disp.body (mk x) (none, run)) s (.yield (some a, [])) s' := by
  show Goes C _ (if ((run ++ [x]).length == 17) = true then _ else _) s _ s'
  rw [if_pos (by simp; omega)]
  refine (goes_bind' (n₂ := 0) ?_ goes_pure')
  dsimp only
  rw [if_neg (by simp)]
  exact goes_bind' (n₂ := 0) k goes_pure'
theorem goes_flush1 {n₁ n₂ : Nat} {run : List (Sem Value × Sem Value)} {s s₁ s' : Shared} {d a : Addr} (k : Goes C n₁ (subDict run) s a s₁) (k' : Goes C n₂ (mergeMapping d (.ref a) false) s₁ () s') (f : Value → Sem Unit) :
    Goes C (n₁ + n₂) (do
      let sub ← holding [.ref d] (subDict run)
      (holding [.ref d, .ref sub] (mergeMapping d (.ref sub) false)).onRaise f
      pure (some d)) s (some d) s' :=
  goes_bind' (goes_holding k) (goes_bind' (n₂ := 0) (goes_onRaise (goes_holding k')) goes_pure')
theorem body_full1 {n₁ n₂ : Nat} {x : Sem Value × Sem Value} {run : List (Sem Value × Sem Value)} {s s₁ s' : Shared} {d a : Addr} (h : run.length = 16) (k : Goes C n₁ (subDict (run ++ [x])) s a s₁) (k' : Goes C n₂ (mergeMapping d (.ref a) false) s₁ () s') :
    Goes C (n₁ + n₂) (disp.body (mk x) (some d, run)) s (.yield (some d, [])) s' := by
  show Goes C _ (if ((run ++ [x]).length == 17) = true then _ else _) s _ s'
  rw [if_pos (by simp; omega)]
  refine (goes_bind' (n₂ := 0) ?_ goes_pure')
  dsimp only
  rw [if_neg (by simp)]
  exact goes_flush1 k k' _
theorem fin_some {n₁ n₂ : Nat} {run : List (Sem Value × Sem Value)} {s s₁ s' : Shared} {d a : Addr} (h : run ≠ []) (k : Goes C n₁ (subDict run) s a s₁) (k' : Goes C n₂ (mergeMapping d (.ref a) false) s₁ () s') :
    Goes C (n₁ + n₂) (disp.fin (some d, run)) s (.ref d) s' := by
  refine (goes_bind' (n₂ := 0) (a := some d) (s₁ := s') ?_ goes_pure')
  dsimp only
  rw [if_neg (by cases run with | nil => exact absurd rfl h | cons => simp)]
  exact goes_flush1 k k' _

theorem chunk17 {n₁ n₂ : Nat} {main : Option Addr} {s s₁ s' : Shared} {r : Option Addr × List (Sem Value × Sem Value)} {rest : List (Option (Sem Value) × Sem Value)} {d : Addr} (xs : List (Sem Value × Sem Value)) (hx : xs.length = 17)
    (h : ∀ x run, run.length = 16 → run ++ [x] = xs → Goes C n₁ (disp.body (mk x) (main, run)) s (.yield (some d, [])) s₁) (k : Goes C n₂ (forIn rest (some d, []) disp.body) s₁ r s') :
    Goes C (n₁ + n₂) (forIn (xs.map mk ++ rest) (main, []) disp.body) s r s' := by
  obtain ⟨run, x, rfl⟩ : ∃ run x, xs = run ++ [x] := by
    have hne : xs ≠ [] := by intro e; rw [e] at hx; cases hx
    exact ⟨xs.dropLast, xs.getLast hne, (List.dropLast_concat_getLast hne).symm⟩
  have hr : run.length = 16 := by simp at hx; omega
  rw [List.map_append, List.append_assoc]
  refine goes_run run [] (by simp; omega) ?_
  rw [List.nil_append]
  exact goes_forIn_cons (h x run hr rfl) (k.le (by omega))

noncomputable def subObjs (t : Nat) : Nat → List Pr → List Obj
  | 0, _ => []
  | j + 1, ps => dobj (entL t (ps.take 17)) 17 :: subObjs (t + 51) j (ps.drop 17)
theorem entL_app : ∀ (t : Nat) (a b : List Pr), entL t (a ++ b) = entL t a ++ entL (t + 3 * a.length) b
  | t, [], b => by simp [entL]
  | t, p :: a, b => by
    have := entL_app (t + 3) a b
    simp only [List.cons_append, entL, this, List.length_cons]
    rw [show t + 3 + 3 * a.length = t + 3 * (a.length + 1) by omega]

theorem hashPwL : ∀ {t : Nat} {a : List Pr}, a.Pairwise (fun a b => a.1 < b.1) → (entL t a).Pairwise (fun a b => a.hash < b.hash)
  | _, [], _ => .nil
  | t, p :: a, h => by
    have h' := List.pairwise_cons.mp h
    refine List.pairwise_cons.mpr ⟨fun e he => ?_, hashPwL h'.2⟩
    obtain ⟨q, hq, e1⟩ := entL_hash he
    have := h'.1 q hq
    rw [e1]; show (p.1 : Int) < q.1; omega
theorem hashPwS : ∀ {t : Nat} {a : List Pr}, a.Pairwise (fun a b => a.1 < b.1) → (entS t a).Pairwise (fun a b => a.hash < b.hash)
  | _, [], _ => .nil
  | t, p :: a, h => by
    have h' := List.pairwise_cons.mp h
    refine List.pairwise_cons.mpr ⟨fun e he => ?_, hashPwS h'.2⟩
    obtain ⟨q, hq, e1⟩ := entS_hash he
    have := h'.1 q hq
    rw [e1]; show (p.1 : Int) < q.1; omega

theorem goes_rest (hd : ∀ k, Nat.ble C.n₀ (pre.length + k) = true) (hsys : ∀ k, (pre.length + 1 + k == sysModules) = false) :
    ∀ (j : Nat) (xs : List (Sem Value × Sem Value)) (ps : List Pr) (es : List DictEntry) (n : Nat) (subs : List Obj) (toks : Nat), Items C xs ps → 17 * j ≤ ps.length → ps.length - 17 * j ≤ 16 → es ≠ [] → (∀ e ∈ es, ∀ p ∈ ps, e.hash < (p.1 : Int)) → ps.Pairwise (fun a b => a.1 < b.1) → es.length + ps.length ≤ 100000 →
    Goes C (330 * j) (forIn (xs.map mk) (some pre.length, []) disp.body) (Sh (H pre (dobj es n) subs l) gens drawn toks os) (some pre.length, xs.drop (17 * j))
      (Sh (H pre (dobj (es ++ entL toks (ps.take (17 * j))) (n + 17 * j)) (subs ++ subObjs toks j ps) l) gens drawn (toks + 51 * j) os)
  | 0, xs, ps, es, n, subs, toks, I, hl, hr, _, _, _, _ => by
    have := goes_run (C := C) (main := some pre.length) (s := Sh (H pre (dobj es n) subs l) gens drawn toks os) (s' := Sh (H pre (dobj es n) subs l) gens drawn toks os) (rest := []) (r := (some pre.length, xs)) xs [] (by have := I.length; simp; omega) (by rw [List.nil_append]; exact goes_forIn_nil)
    simpa [subObjs, entL] using this
  | j + 1, xs, ps, es, n, subs, toks, I, hl, hr, hne, hlt, hpw, hz => by
    have hxl := I.length
    have I1 := I.take 17
    have I2 := I.drop 17
    have l1 : (ps.take 17).length = 17 := by simp; omega
    have l2 : (xs.take 17).length = 17 := by simp; omega
    have hsp : ps.take 17 ++ ps.drop 17 = ps := List.take_append_drop ..
    have hpw1 : (ps.take 17).Pairwise (fun a b => a.1 < b.1) := hpw.take
    have hpw2 : (ps.drop 17).Pairwise (fun a b => a.1 < b.1) := hpw.drop
    have hcross : ∀ p ∈ ps.take 17, ∀ q ∈ ps.drop 17, p.1 < q.1 := by
      rw [← hsp] at hpw
      exact (List.pairwise_append.mp hpw).2.2
    have e0 : xs.map mk = (xs.take 17).map mk ++ (xs.drop 17).map mk := by rw [← List.map_append, List.take_append_drop]
    rw [e0]
    have hlen : (pre ++ dobj es n :: subs).length = pre.length + 1 + subs.length := by simp; omega
    refine Goes.le (chunk17 (n₁ := 330) (n₂ := 330 * j) (d := pre.length) (s₁ := Sh (H pre (dobj (es ++ entL toks (ps.take 17)) (n + 17)) (subs ++ [dobj (entL toks (ps.take 17)) 17]) l) gens drawn (toks + 51) os) (xs.take 17) l2 (fun x run hrun hx => ?_) ?_) (by omega)
    · have sub := goes_subL (C := C) (pre := pre ++ dobj es n :: subs) (l := l) (gens := gens) (drawn := drawn) (toks := toks) (os := os) I1 (by rw [hlen, show pre.length + 1 + subs.length = pre.length + (1 + subs.length) by omega]; exact hd _) (by omega) hpw1 (by omega)
      rw [l1, ← H_last, hlen] at sub
      have merge := goes_merge (C := C) (pre := pre) (es := es) (n := n) (subs := subs) (l := l) (gens := gens) (drawn := drawn) (toks := toks + 51) (os := os) (ss := entL toks (ps.take 17)) (m := 17) (hd 0) (hsys _) (fun e he => keyedL he) hne
        (fun e he e' he' => by
          obtain ⟨q, hq, e2⟩ := entL_hash he'
          rw [e2]; exact hlt e he q (List.mem_of_mem_take hq)) (hashPwL hpw1) (by rw [entL_length]; simp; omega)
      rw [entL_length, l1] at merge
      refine Goes.le (body_full1 (n₁ := 223) (n₂ := 107) hrun (a := pre.length + 1 + subs.length) (s₁ := Sh (H pre (dobj es n) (subs ++ [dobj (entL toks (ps.take 17)) 17]) l) gens drawn (toks + 51) os) ?_ merge) (by omega)
      rw [hx]
      exact sub
    · have ih := goes_rest hd hsys j (xs.drop 17) (ps.drop 17) (es ++ entL toks (ps.take 17)) (n + 17) (subs ++ [dobj (entL toks (ps.take 17)) 17]) (toks + 51) I2 (by simp; omega) (by simp; omega) (by simp [hne])
        (fun e he p hp => by
          rcases List.mem_append.mp he with he | he
          · exact hlt e he p (List.mem_of_mem_drop hp)
          · obtain ⟨q, hq, e2⟩ := entL_hash he
            rw [e2]; have := hcross q hq p hp; omega) hpw2 (by simp [entL_length]; omega)
      have x1 : (xs.drop 17).drop (17 * j) = xs.drop (17 * (j + 1)) := by rw [List.drop_drop]; congr 1; omega
      have x2 : es ++ entL toks (ps.take 17) ++ entL (toks + 51) ((ps.drop 17).take (17 * j)) = es ++ entL toks (ps.take (17 * (j + 1))) := by
        have : ps.take (17 * (j + 1)) = ps.take 17 ++ (ps.drop 17).take (17 * j) := by rw [← List.take_add]; congr 1; omega
        rw [this, entL_app, l1, List.append_assoc]
      have x3 : n + 17 + 17 * j = n + 17 * (j + 1) := by omega
      have x4 : toks + 51 + 51 * j = toks + 51 * (j + 1) := by omega
      have x5 : subs ++ [dobj (entL toks (ps.take 17)) 17] ++ subObjs (toks + 51) j (ps.drop 17) = subs ++ subObjs toks (j + 1) ps := by simp [subObjs]
      rw [x1, x2, x3, x4, x5] at ih
      exact ih

/-- the whole display: one chunk of 17, j more, and 1 to 15 left -/
theorem goes_display {xs : List (Sem Value × Sem Value)} {ps : List Pr} (j : Nat) (I : Items C xs ps) (hl : 17 * (j + 1) < ps.length) (hr : ps.length - 17 * (j + 1) ≤ 15) (hpw : ps.Pairwise (fun a b => a.1 < b.1)) (hz : ps.length ≤ 100000)
    (hd : ∀ k, Nat.ble C.n₀ (pre.length + k) = true) (hsys : ∀ k, (pre.length + 1 + k == sysModules) = false) :
    Goes C (20 * ps.length) (dictDisplay (xs.map mk)) (Sh ⟨pre.toArray, l⟩ gens drawn toks os) (.ref pre.length)
      (Sh (H pre (dobj (entL toks (ps.take (17 * (j + 1))) ++ entS (toks + 51 * (j + 1)) (ps.drop (17 * (j + 1)))) ps.length)
        (subObjs (toks + 51) j (ps.drop 17) ++ [dobj (entS (toks + 51 * (j + 1)) (ps.drop (17 * (j + 1)))) (ps.length - 17 * (j + 1))]) l) gens drawn (toks + 3 * ps.length) os) := by
  rw [disp.eq]
  have hxl := I.length
  have I1 := I.take 17
  have I2 := I.drop 17
  have l1 : (ps.take 17).length = 17 := by simp; omega
  have l2 : (xs.take 17).length = 17 := by simp; omega
  have hsp : ps.take 17 ++ ps.drop 17 = ps := List.take_append_drop ..
  have hpw1 : (ps.take 17).Pairwise (fun a b => a.1 < b.1) := hpw.take
  have hpw2 : (ps.drop 17).Pairwise (fun a b => a.1 < b.1) := hpw.drop
  have hcross : ∀ p ∈ ps.take 17, ∀ q ∈ ps.drop 17, p.1 < q.1 := by
    have h := hpw
    rw [← hsp] at h
    exact (List.pairwise_append.mp h).2.2
  have e0 : xs.map mk = (xs.take 17).map mk ++ (xs.drop 17).map mk := by rw [← List.map_append, List.take_append_drop]
  rw [e0]
  have first := goes_subL (C := C) (pre := pre) (l := l) (gens := gens) (drawn := drawn) (toks := toks) (os := os) I1 (hd 0) (by omega) hpw1 (by omega)
  rw [l1] at first
  have rest := goes_rest (C := C) (pre := pre) (l := l) (gens := gens) (drawn := drawn) (os := os) hd hsys j (xs.drop 17) (ps.drop 17) (entL toks (ps.take 17)) 17 [] (toks + 51) I2 (by simp; omega) (by simp; omega)
    (by intro e; have := congrArg List.length e; rw [entL_length, l1] at this; cases this)
    (fun e he p hp => by
      obtain ⟨q, hq, e2⟩ := entL_hash he
      rw [e2]; have := hcross q hq p hp; omega) hpw2 (by rw [entL_length]; simp; omega)
  have x1 : (xs.drop 17).drop (17 * j) = xs.drop (17 * (j + 1)) := by rw [List.drop_drop]; congr 1; omega
  have x2 : entL toks (ps.take 17) ++ entL (toks + 51) ((ps.drop 17).take (17 * j)) = entL toks (ps.take (17 * (j + 1))) := by
    have : ps.take (17 * (j + 1)) = ps.take 17 ++ (ps.drop 17).take (17 * j) := by rw [← List.take_add]; congr 1; omega
    rw [this, entL_app, l1]
  rw [x1, x2, List.nil_append, show 17 + 17 * j = 17 * (j + 1) by omega, show toks + 51 + 51 * j = toks + 51 * (j + 1) by omega] at rest
  refine Goes.le (goes_bind (n₂ := 2 + 13 * (ps.length - 17 * (j + 1)) + (5 + 6 * (ps.length - 17 * (j + 1)))) (chunk17 (d := pre.length) (xs.take 17) l2 (fun x run hrun hx => body_full0 hrun (by rw [hx]; exact first)) rest) ?_) (by omega)
  have hsubs : (subObjs (toks + 51) j (ps.drop 17)).length = j := by
    have : ∀ (j t : Nat) (ps : List Pr), (subObjs t j ps).length = j := by
      intro j; induction j with
      | zero => intro t ps; rfl
      | succ j ih => intro t ps; simp [subObjs, ih]
    exact this _ _ _
  generalize hS : subObjs (toks + 51) j (ps.drop 17) = S at hsubs ⊢
  generalize hE : entL toks (ps.take (17 * (j + 1))) = E
  have hEl : E.length = 17 * (j + 1) := by rw [← hE, entL_length]; simp; omega
  have hlen : (pre ++ dobj E (17 * (j + 1)) :: S).length = pre.length + 1 + S.length := by simp; omega
  have I3 := I.drop (17 * (j + 1))
  have hpw3 : (ps.drop (17 * (j + 1))).Pairwise (fun a b => a.1 < b.1) := hpw.drop
  have l3 : (ps.drop (17 * (j + 1))).length = ps.length - 17 * (j + 1) := by simp
  have sub := goes_subS (C := C) (pre := pre ++ dobj E (17 * (j + 1)) :: S) (l := l) (gens := gens) (drawn := drawn) (toks := toks + 51 * (j + 1)) (os := os) I3 (I3.fits) (by rw [hlen, show pre.length + 1 + S.length = pre.length + (1 + S.length) by omega]; exact hd _) (by simp; omega) hpw3 (by omega)
  rw [l3, ← H_last, hlen] at sub
  have hcross3 : ∀ p ∈ ps.take (17 * (j + 1)), ∀ q ∈ ps.drop (17 * (j + 1)), p.1 < q.1 := by
    have h := hpw
    rw [← List.take_append_drop (17 * (j + 1)) ps] at h
    exact (List.pairwise_append.mp h).2.2
  have merge := goes_merge (C := C) (pre := pre) (es := E) (n := 17 * (j + 1)) (subs := S) (l := l) (gens := gens) (drawn := drawn) (toks := toks + 51 * (j + 1) + 3 * (ps.length - 17 * (j + 1))) (os := os)
    (ss := entS (toks + 51 * (j + 1)) (ps.drop (17 * (j + 1)))) (m := ps.length - 17 * (j + 1)) (hd 0) (hsys _) (fun e he => keyedS he) (by intro e; rw [e] at hEl; cases hEl)
    (fun e he e' he' => by
      rw [← hE] at he
      obtain ⟨p, hp, e1⟩ := entL_hash he
      obtain ⟨q, hq, e2⟩ := entS_hash he'
      rw [e1, e2]; have := hcross3 p hp q hq; omega) (hashPwS hpw3) (by rw [entS_length, hEl, l3]; omega)
  rw [entS_length, l3, show 17 * (j + 1) + (ps.length - 17 * (j + 1)) = ps.length by omega, show toks + 51 * (j + 1) + 3 * (ps.length - 17 * (j + 1)) = toks + 3 * ps.length by omega] at merge
  rw [show toks + 51 * (j + 1) + 3 * (ps.length - 17 * (j + 1)) = toks + 3 * ps.length by omega] at sub
  exact fin_some (by intro e; have := congrArg List.length e; simp at this; omega) sub merge
end

end
end Mine
namespace Mine
open PySem PySem.W PyProof.Rows PySem.Calls
noncomputable section
section
variable {C : Cx}
theorem segRun_mono {tb : String → Option Builtin} {p : Program} {w : World} {n₀ : Nat} {ann : Option Value} {b : Nat} (k : Nat) : ∀ (n : Nat) (s : Shared) (t : Thread) (r : Flow × Shared × Code × Pos),
    segRun tb p w n₀ ann b n s t = some r → segRun tb p w n₀ ann b (n + k) s t = some r
  | 0, _, _, _, h => by simp [segRun] at h
  | n + 1, s, t, r, h => by
    rw [show n + 1 + k = n + k + 1 by omega]
    unfold segRun at h ⊢
    cases he : endAt b t with
    | some f => rw [he] at h; exact h
    | none =>
      rw [he] at h
      cases hk : stepOk n₀ ann t with
      | false => rw [hk] at h; cases h
      | true =>
        rw [hk] at h
        cases hs : step (denote tb) p w s t with
        | halt o s' => rw [hs] at h; cases h
        | go s' t' => rw [hs] at h; exact segRun_mono k n s' t' r h
theorem seg_goes {α β : Type} {N M : Nat} {m : Sem α} {f : α → Sem β} {a : α} {s s' : Shared} {K : β → Sem Fin} {H : Value → Sem Fin} {gd : Bool → Bool} {lv : List Value → List Value} {pos : Pos} {r : Flow × Shared × Code × Pos}
    (h : Goes C N m s a s') (k : ∀ pos', segRun treeTable C.p C.w C.n₀ C.ann 1 M s' ⟨(f a).wrap K H gd lv, .body C.b C.env, pos', [topFrame C.q]⟩ = some r) :
    segRun treeTable C.p C.w C.n₀ C.ann 1 (N + M) s ⟨(m.bind f).wrap K H gd lv, .body C.b C.env, pos, [topFrame C.q]⟩ = some r := by
  obtain ⟨n, p', l, e⟩ := h (fun a => (f a).wrap K H gd lv) H gd lv pos
  rw [Sem.bind_eq_wrap, Sem.wrap_wrap]
  have := segRun_mono (N - n) _ _ _ _ (seg_go e (k p'))
  rw [show n + M + (N - n) = N + M by omega] at this
  exact this

noncomputable def litVal (k : Nat) (v : Expr) : Option Pr := match v with
  | .Constant c _ _ => (match c with
    | .str v => if k < 1152921504606846976 then some (k, v) else none
    | _ => none)
  | _ => none
noncomputable def litOne (k : Option Expr) (v : Expr) : Option Pr := match k with
  | some e => (match e with
    | .Constant c _ _ => (match c with
      | .int i => (match i with
        | .ofNat k => litVal k v
        | .negSucc _ => none)
      | _ => none)
    | _ => none)
  | none => none
noncomputable def litPairs : List (Option Expr) → List Expr → Option (List Pr)
  | [], vs => (match vs with
    | [] => some []
    | _ :: _ => none)
  | k :: ks, vs => (match vs with
    | [] => none
    | v :: vs => (litOne k v).bind fun p => (litPairs ks vs).map (p :: ·))
theorem litVal_form {k : Nat} {v : Expr} {p : Pr} (h : litVal k v = some p) : ∃ u b1 b2, v = .Constant (.str u) b1 b2 ∧ k < 1152921504606846976 ∧ p = (k, u) := by
  cases v with
  | Constant c b1 b2 => cases c with
    | str u =>
      have h : (if k < 1152921504606846976 then some (k, u) else none) = some p := h
      by_cases hk : k < 1152921504606846976
      · rw [if_pos hk] at h
        exact ⟨u, b1, b2, rfl, hk, (Option.some.inj h).symm⟩
      · rw [if_neg hk] at h; cases h
    | _ => exact absurd (show (none : Option Pr) = some p from h) nofun
  | _ => exact absurd (show (none : Option Pr) = some p from h) nofun
theorem litOne_form {k : Option Expr} {v : Expr} {p : Pr} (h : litOne k v = some p) : ∃ i a1 a2, k = some (.Constant (.int (.ofNat i)) a1 a2) ∧ litVal i v = some p := by
  cases k with
  | none => exact absurd (show (none : Option Pr) = some p from h) nofun
  | some e => cases e with
    | Constant c a1 a2 => cases c with
      | int i => cases i with
        | ofNat i => exact ⟨i, a1, a2, rfl, h⟩
        | negSucc _ => exact absurd (show (none : Option Pr) = some p from h) nofun
      | _ => exact absurd (show (none : Option Pr) = some p from h) nofun
    | _ => exact absurd (show (none : Option Pr) = some p from h) nofun
noncomputable def inc : List Pr → Bool
  | [] => true
  | [_] => true
  | a :: b :: r => Nat.blt a.1 b.1 && inc (b :: r)
theorem inc_le : ∀ {a : Pr} {r : List Pr}, inc (a :: r) = true → ∀ b ∈ r, a.1 < b.1
  | a, [], _, b, hb => by cases hb
  | a, c :: r, h, b, hb => by
    obtain ⟨h1, h2⟩ := Bool.and_eq_true_iff.mp h
    have h1' : a.1 < c.1 := Nat.le_of_ble_eq_true h1
    rcases List.mem_cons.mp hb with rfl | hb
    · exact h1'
    · exact Nat.lt_trans h1' (inc_le h2 b hb)
theorem inc_tail : ∀ {a : Pr} {r : List Pr}, inc (a :: r) = true → inc r = true
  | _, [], _ => rfl
  | _, _ :: _, h => (Bool.and_eq_true_iff.mp h).2
theorem inc_pw : ∀ {r : List Pr}, inc r = true → r.Pairwise (fun a b => a.1 < b.1)
  | [], _ => .nil
  | a :: r, h => List.pairwise_cons.mpr ⟨inc_le h, inc_pw (inc_tail h)⟩

noncomputable def itemsOf (ks : List (Option Expr)) (vs : List Expr) (dp : Pos) (env : Env) : List (Option (Sem Value) × Sem Value) :=
  (evalEachOpt ks env).zip ((evalEach vs env).map fun v => do let x ← v; standAt dp; pure x)
theorem lit_cons {k0 : Option Expr} {ks : List (Option Expr)} {v0 : Expr} {vs : List Expr} {ps : List Pr} (h : litPairs (k0 :: ks) (v0 :: vs) = some ps) :
    ∃ k v a1 a2 b1 b2 ps', k0 = some (.Constant (.int (.ofNat k)) a1 a2) ∧ v0 = .Constant (.str v) b1 b2 ∧ k < 1152921504606846976 ∧ litPairs ks vs = some ps' ∧ ps = (k, v) :: ps' := by
  have h : ((litOne k0 v0).bind fun p => (litPairs ks vs).map (p :: ·)) = some ps := h
  obtain ⟨p, h1, h2⟩ := Option.bind_eq_some_iff.mp h
  obtain ⟨ps', h', rfl⟩ := Option.map_eq_some_iff.mp h2
  obtain ⟨i, a1, a2, e1, h3⟩ := litOne_form h1
  obtain ⟨u, b1, b2, e2, hk, rfl⟩ := litVal_form h3
  exact ⟨_, _, _, _, _, _, ps', e1, e2, hk, h', rfl⟩
theorem items_of {dp : Pos} : ∀ {ks : List (Option Expr)} {vs : List Expr} {ps : List Pr}, litPairs ks vs = some ps → ∃ xs, itemsOf ks vs dp C.env = xs.map mk ∧ Items C xs ps
  | [], [], ps, h => by
    obtain rfl : [] = ps := Option.some.inj (show some [] = some ps from h)
    exact ⟨[], rfl, .nil⟩
  | k0 :: ks, v0 :: vs, ps, h => by
    obtain ⟨k, v', a1, a2, b1, b2, ps', rfl, rfl, hk, h', rfl⟩ := lit_cons h
    obtain ⟨xs, hx, I⟩ := items_of (dp := dp) h'
    refine ⟨(eval (.Constant (.int (.ofNat k)) a1 a2) C.env, do let x ← eval (.Constant (.str v') b1 b2) C.env; standAt dp; pure x) :: xs, ?_, .cons ⟨fun s => ?_, fun s => ?_, hk⟩ I⟩
    · rw [List.map_cons, ← hx]; rfl
    · show Goes C 1 (mkInt (k : Int)) s _ _
      exact (goes_bind' (m := fresh) (f := fun t => (pure (Value.int (k : Int) t) : Sem Value)) goes_fresh goes_pure').le (Nat.le_refl _)
    · show Goes C 2 ((mkText v') >>= fun x => standAt dp >>= fun _ => pure x) s _ _
      have h1 : Goes C 1 (mkText v') s (.str v' s.toks) { s with toks := s.toks + 1 } := (goes_bind' (m := fresh) (f := fun t => (pure (Value.str v' t) : Sem Value)) goes_fresh goes_pure').le (Nat.le_refl _)
      exact (goes_bind' h1 (goes_bind' (n₂ := 0) (m := standAt dp) (f := fun _ => (pure (Value.str v' s.toks) : Sem Value)) goes_at goes_pure')).le (Nat.le_refl _)
  | k0 :: ks, [], ps, h => absurd (show (none : Option (List Pr)) = some ps from h) nofun
  | [], _ :: _, ps, h => absurd (show (none : Option (List Pr)) = some ps from h) nofun

noncomputable def storeTail (x : Str) (np : Pos) (ks : List (Option Expr)) (vs : List Expr) (dp : Pos) (env : Env) (v : Value) : Sem Flow :=
  (swappedStores [.Name x np] (.Dict ks vs dp) env).bind fun sw => assignStores env v sw ((assignEach [.Name x np] env).map (·.2))
theorem exec_dict (x : Str) (np : Pos) (ks : List (Option Expr)) (vs : List Expr) (dp pos : Pos) (env : Env) :
    exec (.Assign [.Name x np] (.Dict ks vs dp) pos) env = (standAt pos).bind fun _ => (standAt dp).bind fun _ => (dictDisplay (itemsOf ks vs dp env)).bind (storeTail x np ks vs dp env) := rfl

theorem seg_dict {x : Str} {np : Pos} {ks : List (Option Expr)} {vs : List Expr} {dp pos : Pos} {N M : Nat} {s s' : Shared} {v : Value} {K : Flow → Sem Fin} {H : Value → Sem Fin} {gd : Bool → Bool} {lv : List Value → List Value} {p : Pos} {r : Flow × Shared × Code × Pos}
    (h : Goes C N (dictDisplay (itemsOf ks vs dp C.env)) s v s') (k : ∀ pos', segRun treeTable C.p C.w C.n₀ C.ann 1 M s' ⟨(storeTail x np ks vs dp C.env v).wrap K H gd lv, .body C.b C.env, pos', [topFrame C.q]⟩ = some r) :
    segRun treeTable C.p C.w C.n₀ C.ann 1 (1 + (1 + (N + M))) s ⟨(exec (.Assign [.Name x np] (.Dict ks vs dp) pos) C.env).wrap K H gd lv, .body C.b C.env, p, [topFrame C.q]⟩ = some r := by
  rw [exec_dict]
  exact seg_goes goes_at fun _ => seg_goes goes_at fun _ => seg_goes h k
end
end
end Mine
namespace Mine
open PySem PySem.W PyProof.Rows PySem.Calls
noncomputable section
namespace L3
noncomputable abbrev pp : Program := PySem.Challenge.pw_ta0051_03
noncomputable abbrev bd : List Stmt := behindTheImports pp
noncomputable def fd (st : Stmt) (g : Addr) (pm code : Value) (b : Addr) : FuncData := match st with | .FunctionDef name args body _ _ _ scope _ _ _ => { name := name, qualname := name, params := args, body := .stmts body, scope := scope, globals := g, closure := [], defaults := .none, kwdefaults := .none, pyModule := pm, code := code, builtins := b } | _ => default
noncomputable def st0 : Stmt := (bd[0]?).getD default
noncomputable def st1 : Stmt := (bd[1]?).getD default
noncomputable def st2 : Stmt := (bd[2]?).getD default
noncomputable def st3 : Stmt := (bd[3]?).getD default
noncomputable def st4 : Stmt := (bd[4]?).getD default
noncomputable def st5 : Stmt := (bd[5]?).getD default
noncomputable def st6 : Stmt := (bd[6]?).getD default
noncomputable def st7 : Stmt := (bd[7]?).getD default
noncomputable def st8 : Stmt := (bd[8]?).getD default
noncomputable def st9 : Stmt := (bd[9]?).getD default
noncomputable def st10 : Stmt := (bd[10]?).getD default
noncomputable def st11 : Stmt := (bd[11]?).getD default
noncomputable def st12 : Stmt := (bd[12]?).getD default
noncomputable def st13 : Stmt := (bd[13]?).getD default
noncomputable def st14 : Stmt := (bd[14]?).getD default
noncomputable def st15 : Stmt := (bd[15]?).getD default
noncomputable def st16 : Stmt := (bd[16]?).getD default
noncomputable def st17 : Stmt := (bd[17]?).getD default
noncomputable def st18 : Stmt := (bd[18]?).getD default
theorem bd_eq : bd = [st0, st1, st2, st3, st4, st5, st6, st7, st8, st9, st10, st11, st12, st13, st14, st15, st16, st17, st18] := by kernel_rfl!
noncomputable abbrev env : Env := { scope := pp.main.scope, locals := mainNs, globals := mainNs, cells := [], code := (.ref 13), frame := some 14 }
noncomputable def ks3 : List (Option Expr) := match st3 with | .Assign _ (.Dict ks _ _) _ => ks | _ => []
noncomputable def vs3 : List Expr := match st3 with | .Assign _ (.Dict _ vs _) _ => vs | _ => []
theorem st_eq : st3 = .Assign [.Name (PySem.Str.ofString "b3_exceptions") ⟨5, 0, 5, 13⟩] (.Dict ks3 vs3 ⟨5, 16, 5, 8704⟩) ⟨5, 0, 5, 8704⟩ := by kernel_rfl!
noncomputable def ps3 : List Pr := (litPairs ks3 vs3).getD []
theorem getD_some {α : Type} {o : Option α} {d : α} (h : o.isSome = true) : o = some (o.getD d) := by cases o with | none => cases h | some => rfl
theorem lit_eq : litPairs ks3 vs3 = some ps3 := getD_some (by decide +kernel)
theorem ps_inc : inc ps3 = true := by decide +kernel
theorem ps_len : ps3.length = 650 := by decide +kernel
noncomputable def b3E : List DictEntry := entL 256 (ps3.take 646) ++ entS 2194 (ps3.drop 646)
noncomputable def b3S : List Obj := subObjs 307 37 (ps3.drop 17) ++ [dobj (entS 2194 (ps3.drop 646)) 4]
noncomputable def o11v0 (P : Params) : Obj := ⟨(.type "tuple"), none, (.seq #[] 0), #[]⟩
noncomputable def o12v0 (P : Params) : Obj := ⟨(.none), none, (.fields #[]), #[]⟩
noncomputable def o13v0 (P : Params) : Obj := ⟨(.type "code"), none, (.fields #[(.str ⟨#[60, 109, 111, 100, 117, 108, 101, 62]⟩ 182), (.str ⟨#[60, 109, 111, 100, 117, 108, 101, 62]⟩ 183), (.str ⟨#[47, 99, 108, 97, 105, 109, 47, 99, 117, 116, 46, 112, 121]⟩ 184), (.int 1 0), (.int 0 0), (.int 0 0), (.int 0 0), (.int 0 0), (.ref 11), (.bool false), (.int 181 0), (.ref 12), (.none), (.none), (.none), (.none), (.int 185 0), (.int 1 0), (.str ⟨#[47, 99, 108, 97, 105, 109, 47, 99, 117, 116, 46, 112, 121]⟩ 186)]), #[]⟩
noncomputable def o14v0 (P : Params) : Obj := ⟨(.type "frame"), none, .plain, #[(some (.ref 13)), (some (.ref 3)), (some (.ref 3)), none, (some (.str ⟨#[95, 95, 109, 97, 105, 110, 95, 95]⟩ 164)), none, (some (.ref 0))]⟩
noncomputable def T0 (P : Params) : BT := (.node (boot_o_0 P) (.node (boot_o_1 P) (.node (boot_o_3 P) (.node (boot_o_7 P) .nil .nil) (.node (o11v0 P) .nil .nil)) (.node (boot_o_5 P) (.node (boot_o_9 P) .nil .nil) (.node (o13v0 P) .nil .nil))) (.node (boot_o_2 P) (.node (boot_o_4 P) (.node (boot_o_8 P) .nil .nil) (.node (o12v0 P) .nil .nil)) (.node (boot_o_6 P) (.node (boot_o_10 P) .nil .nil) (.node (o14v0 P) .nil .nil))))
noncomputable def H0 (P : Params) : Heap := Heap.mk (Array.mk [boot_o_0 P, boot_o_1 P, boot_o_2 P, boot_o_3 P, boot_o_4 P, boot_o_5 P, boot_o_6 P, boot_o_7 P, boot_o_8 P, boot_o_9 P, boot_o_10 P, o11v0 P, o12v0 P, o13v0 P, o14v0 P]) {}
theorem pre_run (w : World) (os : OsState) : topGo treeTable pp w 11 (some (.ref 6)) 12 ⟨boot_heap w.params, Array.mk [], boot_drawn, boot_toks, os⟩ (topStub pp) = some (⟨H0 w.params, #[], {}, 187, os⟩, ⟨denote treeTable (.body bd env), .body bd env, ⟨0, 0, 0, 0⟩, [topFrame ⟨0, 0, 0, 0⟩]⟩) := by
  rw [PySem.W.Fast.te15667345088766844465, PySem.W.Fast.te14364793385576792824, PySem.W.Fast.te11892475500146522536]
  kernel_rfl!
theorem block_run (w : World) (os : OsState) : segRun treeTable pp w 11 (some (.ref 6)) 1 1 ⟨H0 w.params, #[], {}, 187, os⟩ (blockOf bd env (.body bd env) ⟨0, 0, 0, 0⟩ [topFrame ⟨0, 0, 0, 0⟩]) = some (.next, SharedT.abs ⟨T0 w.params, 15, {}, #[], {}, 187, os⟩, .body bd env, ⟨0, 0, 0, 0⟩) := by
  rw [PySem.W.Fast.te14374325043358763698, PySem.W.Fast.te14364793385576792824]
  kernel_rfl!
noncomputable def o3v1 (P : Params) : Obj := ⟨(.type "dict"), none, (.dict #[⟨PyData.keyHash P ⟨#[95, 95, 110, 97, 109, 101, 95, 95]⟩, (.str ⟨#[95, 95, 110, 97, 109, 101, 95, 95]⟩ 165), (.str ⟨#[99, 112, 121, 51, 49, 51, 46, 115, 116, 114, 105, 110, 103, 112, 114, 101, 112]⟩ 187)⟩, ⟨PyData.keyHash P ⟨#[95, 95, 100, 111, 99, 95, 95]⟩, (.str ⟨#[95, 95, 100, 111, 99, 95, 95]⟩ 166), (.none)⟩, ⟨PyData.keyHash P ⟨#[95, 95, 112, 97, 99, 107, 97, 103, 101, 95, 95]⟩, (.str ⟨#[95, 95, 112, 97, 99, 107, 97, 103, 101, 95, 95]⟩ 167), (.none)⟩, ⟨PyData.keyHash P ⟨#[95, 95, 108, 111, 97, 100, 101, 114, 95, 95]⟩, (.str ⟨#[95, 95, 108, 111, 97, 100, 101, 114, 95, 95]⟩ 168), (.builtin "__main__.__loader__#opaque")⟩, ⟨PyData.keyHash P ⟨#[95, 95, 115, 112, 101, 99, 95, 95]⟩, (.str ⟨#[95, 95, 115, 112, 101, 99, 95, 95]⟩ 169), (.none)⟩, ⟨PyData.keyHash P ⟨#[95, 95, 97, 110, 110, 111, 116, 97, 116, 105, 111, 110, 115, 95, 95]⟩, (.str ⟨#[95, 95, 97, 110, 110, 111, 116, 97, 116, 105, 111, 110, 115, 95, 95]⟩ 170), (.ref 6)⟩, ⟨PyData.keyHash P ⟨#[95, 95, 98, 117, 105, 108, 116, 105, 110, 115, 95, 95]⟩, (.str ⟨#[95, 95, 98, 117, 105, 108, 116, 105, 110, 115, 95, 95]⟩ 171), (.ref 4)⟩, ⟨PyData.keyHash P ⟨#[95, 95, 102, 105, 108, 101, 95, 95]⟩, (.str ⟨#[95, 95, 102, 105, 108, 101, 95, 95]⟩ 173), (.str ⟨#[47, 99, 108, 97, 105, 109, 47, 99, 117, 116, 46, 112, 121]⟩ 172)⟩, ⟨PyData.keyHash P ⟨#[95, 95, 99, 97, 99, 104, 101, 100, 95, 95]⟩, (.str ⟨#[95, 95, 99, 97, 99, 104, 101, 100, 95, 95]⟩ 174), (.none)⟩] 9), #[]⟩
noncomputable def T1 (P : Params) : BT := (.node (boot_o_0 P) (.node (boot_o_1 P) (.node (o3v1 P) (.node (boot_o_7 P) .nil .nil) (.node (o11v0 P) .nil .nil)) (.node (boot_o_5 P) (.node (boot_o_9 P) .nil .nil) (.node (o13v0 P) .nil .nil))) (.node (boot_o_2 P) (.node (boot_o_4 P) (.node (boot_o_8 P) .nil .nil) (.node (o12v0 P) .nil .nil)) (.node (boot_o_6 P) (.node (boot_o_10 P) .nil .nil) (.node (o14v0 P) .nil .nil))))
theorem pt0 (w : World) (os : OsState) : segRunT treeTable pp w 11 (some (.ref 6)) 1 10 ⟨T0 w.params, 15, {}, #[], {}, 187, os⟩ (piecesOf [st0] env (.body bd env) ⟨0, 0, 0, 0⟩ [topFrame ⟨0, 0, 0, 0⟩]) = some (.next, ⟨T1 w.params, 15, {}, #[], {}, 189, os⟩, .body bd env, ⟨1, 0, 1, 8⟩) := by
  show segRunT treeTable pp _ 11 (some (.ref 6)) 1 10 _ ⟨(execs [st0] env).wrap doneF deadEnd id id, .body bd env, ⟨0, 0, 0, 0⟩, [topFrame ⟨0, 0, 0, 0⟩]⟩ = _
  rw [PySem.W.Fast.te10110043849684766642, PySem.W.Fast.te14364793385576792824, PySem.W.Fast.te12563942051412417395]
  kernel_rfl!
theorem pc0 (w : World) (os : OsState) : segRun treeTable pp w 11 (some (.ref 6)) 1 10 (SharedT.abs ⟨T0 w.params, 15, {}, #[], {}, 187, os⟩) (piecesOf [st0] env (.body bd env) ⟨0, 0, 0, 0⟩ [topFrame ⟨0, 0, 0, 0⟩]) = some (.next, SharedT.abs ⟨T1 w.params, 15, {}, #[], {}, 189, os⟩, .body bd env, ⟨1, 0, 1, 8⟩) := segRun_of (pt0 w os)
noncomputable def o3v2 (P : Params) : Obj := ⟨(.type "dict"), none, (.dict #[⟨PyData.keyHash P ⟨#[95, 95, 110, 97, 109, 101, 95, 95]⟩, (.str ⟨#[95, 95, 110, 97, 109, 101, 95, 95]⟩ 165), (.str ⟨#[99, 112, 121, 51, 49, 51, 46, 115, 116, 114, 105, 110, 103, 112, 114, 101, 112]⟩ 187)⟩, ⟨PyData.keyHash P ⟨#[95, 95, 100, 111, 99, 95, 95]⟩, (.str ⟨#[95, 95, 100, 111, 99, 95, 95]⟩ 166), (.none)⟩, ⟨PyData.keyHash P ⟨#[95, 95, 112, 97, 99, 107, 97, 103, 101, 95, 95]⟩, (.str ⟨#[95, 95, 112, 97, 99, 107, 97, 103, 101, 95, 95]⟩ 167), (.none)⟩, ⟨PyData.keyHash P ⟨#[95, 95, 108, 111, 97, 100, 101, 114, 95, 95]⟩, (.str ⟨#[95, 95, 108, 111, 97, 100, 101, 114, 95, 95]⟩ 168), (.builtin "__main__.__loader__#opaque")⟩, ⟨PyData.keyHash P ⟨#[95, 95, 115, 112, 101, 99, 95, 95]⟩, (.str ⟨#[95, 95, 115, 112, 101, 99, 95, 95]⟩ 169), (.none)⟩, ⟨PyData.keyHash P ⟨#[95, 95, 97, 110, 110, 111, 116, 97, 116, 105, 111, 110, 115, 95, 95]⟩, (.str ⟨#[95, 95, 97, 110, 110, 111, 116, 97, 116, 105, 111, 110, 115, 95, 95]⟩ 170), (.ref 6)⟩, ⟨PyData.keyHash P ⟨#[95, 95, 98, 117, 105, 108, 116, 105, 110, 115, 95, 95]⟩, (.str ⟨#[95, 95, 98, 117, 105, 108, 116, 105, 110, 115, 95, 95]⟩ 171), (.ref 4)⟩, ⟨PyData.keyHash P ⟨#[95, 95, 102, 105, 108, 101, 95, 95]⟩, (.str ⟨#[95, 95, 102, 105, 108, 101, 95, 95]⟩ 173), (.str ⟨#[47, 99, 108, 97, 105, 109, 47, 99, 117, 116, 46, 112, 121]⟩ 172)⟩, ⟨PyData.keyHash P ⟨#[95, 95, 99, 97, 99, 104, 101, 100, 95, 95]⟩, (.str ⟨#[95, 95, 99, 97, 99, 104, 101, 100, 95, 95]⟩ 174), (.none)⟩, ⟨PyData.keyHash P ⟨#[98, 49, 95, 115, 101, 116]⟩, (.str ⟨#[98, 49, 95, 115, 101, 116]⟩ 248), (.ref 22)⟩] 10), #[]⟩
noncomputable def o15v0 (P : Params) : Obj := ⟨(.type "list"), none, (.seq #[(.int 173 189), (.int 847 190), (.int 6150 191), (.int 6155 192), (.int 6156 193), (.int 6157 194), (.int 8203 195), (.int 8204 196), (.int 8205 197), (.int 8288 198), (.int 65279 199)] 0), #[]⟩
noncomputable def o16v0 (P : Params) : Obj := ⟨(.type "range"), none, (.fields #[(.int 65024 200), (.int 65040 201), (.int 1 202)]), #[]⟩
noncomputable def o17v0 (P : Params) : Obj := ⟨(.type "list"), none, (.seq #[(.int 65024 205), (.int 65025 206), (.int 65026 207), (.int 65027 208), (.int 65028 209), (.int 65029 210), (.int 65030 211), (.int 65031 212), (.int 65032 213), (.int 65033 214), (.int 65034 215), (.int 65035 216), (.int 65036 217), (.int 65037 218), (.int 65038 219), (.int 65039 220)] 18), #[]⟩
noncomputable def o18v0 (P : Params) : Obj := ⟨(.type "range_iterator"), none, (.fields #[(.int 65040 0), (.int 0 0), (.int 1 0)]), #[]⟩
noncomputable def o19v0 (P : Params) : Obj := ⟨(.type "tuple"), none, (.seq #[] 0), #[]⟩
noncomputable def o20v0 (P : Params) : Obj := ⟨(.type "StopIteration"), none, (.fields #[(.ref 19), (.none), (.none), (.none), (.bool false), (.none)]), #[]⟩
noncomputable def o21v0 (P : Params) : Obj := ⟨(.type "list"), none, (.seq #[(.int 173 189), (.int 847 190), (.int 6150 191), (.int 6155 192), (.int 6156 193), (.int 6157 194), (.int 8203 195), (.int 8204 196), (.int 8205 197), (.int 8288 198), (.int 65279 199), (.int 65024 205), (.int 65025 206), (.int 65026 207), (.int 65027 208), (.int 65028 209), (.int 65029 210), (.int 65030 211), (.int 65031 212), (.int 65032 213), (.int 65033 214), (.int 65034 215), (.int 65035 216), (.int 65036 217), (.int 65037 218), (.int 65038 219), (.int 65039 220)] 0), #[]⟩
noncomputable def o22v0 (P : Params) : Obj := ⟨(.type "set"), none, (.set #[(65024, (.int 65024 205)), (65025, (.int 65025 206)), (65026, (.int 65026 207)), (65027, (.int 65027 208)), (65028, (.int 65028 209)), (65029, (.int 65029 210)), (6150, (.int 6150 191)), (65030, (.int 65030 211)), (65031, (.int 65031 212)), (65032, (.int 65032 213)), (65033, (.int 65033 214)), (6155, (.int 6155 192)), (6156, (.int 6156 193)), (6157, (.int 6157 194)), (8203, (.int 8203 195)), (8204, (.int 8204 196)), (8205, (.int 8205 197)), (65034, (.int 65034 215)), (65035, (.int 65035 216)), (65036, (.int 65036 217)), (65037, (.int 65037 218)), (65038, (.int 65038 219)), (65039, (.int 65039 220)), (173, (.int 173 189)), (847, (.int 847 190)), (8288, (.int 8288 198)), (65279, (.int 65279 199))] 29 ⟨127, #[0, 1, 2, 3, 4, 5, 6, 7, 8, 9, 10, 11, 12, 13, 14, 15, 16, 17, 18, 19, 20, 21, 22, 45, 79, 96, 127], #[], 0, !P.followText "set-order", 2, true⟩), #[]⟩
noncomputable def o23v0 (P : Params) : Obj := ⟨(.type "list_iterator"), none, (.fields #[(.none), (.int 27 0)]), #[]⟩
noncomputable def o24v0 (P : Params) : Obj := ⟨(.type "tuple"), none, (.seq #[] 0), #[]⟩
noncomputable def o25v0 (P : Params) : Obj := ⟨(.type "StopIteration"), none, (.fields #[(.ref 24), (.none), (.none), (.none), (.bool false), (.none)]), #[]⟩
noncomputable def T2 (P : Params) : BT := (.node (boot_o_0 P) (.node (boot_o_1 P) (.node (o3v2 P) (.node (boot_o_7 P) (.node (o15v0 P) .nil .nil) (.node (o23v0 P) .nil .nil)) (.node (o11v0 P) (.node (o19v0 P) .nil .nil) .nil)) (.node (boot_o_5 P) (.node (boot_o_9 P) (.node (o17v0 P) .nil .nil) (.node (o25v0 P) .nil .nil)) (.node (o13v0 P) (.node (o21v0 P) .nil .nil) .nil))) (.node (boot_o_2 P) (.node (boot_o_4 P) (.node (boot_o_8 P) (.node (o16v0 P) .nil .nil) (.node (o24v0 P) .nil .nil)) (.node (o12v0 P) (.node (o20v0 P) .nil .nil) .nil)) (.node (boot_o_6 P) (.node (boot_o_10 P) (.node (o18v0 P) .nil .nil) .nil) (.node (o14v0 P) (.node (o22v0 P) .nil .nil) .nil))))
theorem pt1_false_false (w : World) (os : OsState) : segRunT treeTable pp ((w.withFollow "special-get-raises" false).withFollow "set-order" false) 11 (some (.ref 6)) 1 999 ⟨T1 ((w.withFollow "special-get-raises" false).withFollow "set-order" false).params, 15, {}, #[], {}, 189, os⟩ (piecesOf [st1] env (.body bd env) ⟨1, 0, 1, 8⟩ [topFrame ⟨0, 0, 0, 0⟩]) = some (.next, ⟨T2 ((w.withFollow "special-get-raises" false).withFollow "set-order" false).params, 26, {}, #[], {}, 249, os⟩, .body bd env, ⟨2, 0, 2, 6⟩) := by
  show segRunT treeTable pp _ 11 (some (.ref 6)) 1 999 _ ⟨(execs [st1] env).wrap doneF deadEnd id id, .body bd env, ⟨1, 0, 1, 8⟩, [topFrame ⟨0, 0, 0, 0⟩]⟩ = _
  rw [PySem.W.Fast.te10110043849684766642, PySem.W.Fast.te14364793385576792824, PySem.W.Fast.te12563942051412417395]
  kernel_rfl!
theorem pt1_false_true (w : World) (os : OsState) : segRunT treeTable pp ((w.withFollow "special-get-raises" true).withFollow "set-order" false) 11 (some (.ref 6)) 1 999 ⟨T1 ((w.withFollow "special-get-raises" true).withFollow "set-order" false).params, 15, {}, #[], {}, 189, os⟩ (piecesOf [st1] env (.body bd env) ⟨1, 0, 1, 8⟩ [topFrame ⟨0, 0, 0, 0⟩]) = some (.next, ⟨T2 ((w.withFollow "special-get-raises" true).withFollow "set-order" false).params, 26, {}, #[], {}, 249, os⟩, .body bd env, ⟨2, 0, 2, 6⟩) := by
  show segRunT treeTable pp _ 11 (some (.ref 6)) 1 999 _ ⟨(execs [st1] env).wrap doneF deadEnd id id, .body bd env, ⟨1, 0, 1, 8⟩, [topFrame ⟨0, 0, 0, 0⟩]⟩ = _
  rw [PySem.W.Fast.te10110043849684766642, PySem.W.Fast.te14364793385576792824, PySem.W.Fast.te12563942051412417395]
  kernel_rfl!
theorem pt1_true_false (w : World) (os : OsState) : segRunT treeTable pp ((w.withFollow "special-get-raises" false).withFollow "set-order" true) 11 (some (.ref 6)) 1 999 ⟨T1 ((w.withFollow "special-get-raises" false).withFollow "set-order" true).params, 15, {}, #[], {}, 189, os⟩ (piecesOf [st1] env (.body bd env) ⟨1, 0, 1, 8⟩ [topFrame ⟨0, 0, 0, 0⟩]) = some (.next, ⟨T2 ((w.withFollow "special-get-raises" false).withFollow "set-order" true).params, 26, {}, #[], {}, 249, os⟩, .body bd env, ⟨2, 0, 2, 6⟩) := by
  show segRunT treeTable pp _ 11 (some (.ref 6)) 1 999 _ ⟨(execs [st1] env).wrap doneF deadEnd id id, .body bd env, ⟨1, 0, 1, 8⟩, [topFrame ⟨0, 0, 0, 0⟩]⟩ = _
  rw [PySem.W.Fast.te10110043849684766642, PySem.W.Fast.te14364793385576792824, PySem.W.Fast.te12563942051412417395]
  kernel_rfl!
theorem pt1_true_true (w : World) (os : OsState) : segRunT treeTable pp ((w.withFollow "special-get-raises" true).withFollow "set-order" true) 11 (some (.ref 6)) 1 999 ⟨T1 ((w.withFollow "special-get-raises" true).withFollow "set-order" true).params, 15, {}, #[], {}, 189, os⟩ (piecesOf [st1] env (.body bd env) ⟨1, 0, 1, 8⟩ [topFrame ⟨0, 0, 0, 0⟩]) = some (.next, ⟨T2 ((w.withFollow "special-get-raises" true).withFollow "set-order" true).params, 26, {}, #[], {}, 249, os⟩, .body bd env, ⟨2, 0, 2, 6⟩) := by
  show segRunT treeTable pp _ 11 (some (.ref 6)) 1 999 _ ⟨(execs [st1] env).wrap doneF deadEnd id id, .body bd env, ⟨1, 0, 1, 8⟩, [topFrame ⟨0, 0, 0, 0⟩]⟩ = _
  rw [PySem.W.Fast.te10110043849684766642, PySem.W.Fast.te14364793385576792824, PySem.W.Fast.te12563942051412417395]
  kernel_rfl!
theorem pt1 (w : World) (os : OsState) : segRunT treeTable pp w 11 (some (.ref 6)) 1 999 ⟨T1 w.params, 15, {}, #[], {}, 189, os⟩ (piecesOf [st1] env (.body bd env) ⟨1, 0, 1, 8⟩ [topFrame ⟨0, 0, 0, 0⟩]) = some (.next, ⟨T2 w.params, 26, {}, #[], {}, 249, os⟩, .body bd env, ⟨2, 0, 2, 6⟩) := byRow2 "set-order" (P := fun w => segRunT treeTable pp w 11 (some (.ref 6)) 1 999 ⟨T1 w.params, 15, {}, #[], {}, 189, os⟩ (piecesOf [st1] env (.body bd env) ⟨1, 0, 1, 8⟩ [topFrame ⟨0, 0, 0, 0⟩]) = some (.next, ⟨T2 w.params, 26, {}, #[], {}, 249, os⟩, .body bd env, ⟨2, 0, 2, 6⟩)) (fun w => byRow2 "special-get-raises" (P := fun w => segRunT treeTable pp (w.withFollow "set-order" false) 11 (some (.ref 6)) 1 999 ⟨T1 (w.withFollow "set-order" false).params, 15, {}, #[], {}, 189, os⟩ (piecesOf [st1] env (.body bd env) ⟨1, 0, 1, 8⟩ [topFrame ⟨0, 0, 0, 0⟩]) = some (.next, ⟨T2 (w.withFollow "set-order" false).params, 26, {}, #[], {}, 249, os⟩, .body bd env, ⟨2, 0, 2, 6⟩)) (fun w => pt1_false_false w os) (fun w => pt1_false_true w os) w) (fun w => byRow2 "special-get-raises" (P := fun w => segRunT treeTable pp (w.withFollow "set-order" true) 11 (some (.ref 6)) 1 999 ⟨T1 (w.withFollow "set-order" true).params, 15, {}, #[], {}, 189, os⟩ (piecesOf [st1] env (.body bd env) ⟨1, 0, 1, 8⟩ [topFrame ⟨0, 0, 0, 0⟩]) = some (.next, ⟨T2 (w.withFollow "set-order" true).params, 26, {}, #[], {}, 249, os⟩, .body bd env, ⟨2, 0, 2, 6⟩)) (fun w => pt1_true_false w os) (fun w => pt1_true_true w os) w) w
theorem pc1 (w : World) (os : OsState) : segRun treeTable pp w 11 (some (.ref 6)) 1 999 (SharedT.abs ⟨T1 w.params, 15, {}, #[], {}, 189, os⟩) (piecesOf [st1] env (.body bd env) ⟨1, 0, 1, 8⟩ [topFrame ⟨0, 0, 0, 0⟩]) = some (.next, SharedT.abs ⟨T2 w.params, 26, {}, #[], {}, 249, os⟩, .body bd env, ⟨2, 0, 2, 6⟩) := segRun_of (pt1 w os)
noncomputable def o3v3 (P : Params) : Obj := ⟨(.type "dict"), none, (.dict #[⟨PyData.keyHash P ⟨#[95, 95, 110, 97, 109, 101, 95, 95]⟩, (.str ⟨#[95, 95, 110, 97, 109, 101, 95, 95]⟩ 165), (.str ⟨#[99, 112, 121, 51, 49, 51, 46, 115, 116, 114, 105, 110, 103, 112, 114, 101, 112]⟩ 187)⟩, ⟨PyData.keyHash P ⟨#[95, 95, 100, 111, 99, 95, 95]⟩, (.str ⟨#[95, 95, 100, 111, 99, 95, 95]⟩ 166), (.none)⟩, ⟨PyData.keyHash P ⟨#[95, 95, 112, 97, 99, 107, 97, 103, 101, 95, 95]⟩, (.str ⟨#[95, 95, 112, 97, 99, 107, 97, 103, 101, 95, 95]⟩ 167), (.none)⟩, ⟨PyData.keyHash P ⟨#[95, 95, 108, 111, 97, 100, 101, 114, 95, 95]⟩, (.str ⟨#[95, 95, 108, 111, 97, 100, 101, 114, 95, 95]⟩ 168), (.builtin "__main__.__loader__#opaque")⟩, ⟨PyData.keyHash P ⟨#[95, 95, 115, 112, 101, 99, 95, 95]⟩, (.str ⟨#[95, 95, 115, 112, 101, 99, 95, 95]⟩ 169), (.none)⟩, ⟨PyData.keyHash P ⟨#[95, 95, 97, 110, 110, 111, 116, 97, 116, 105, 111, 110, 115, 95, 95]⟩, (.str ⟨#[95, 95, 97, 110, 110, 111, 116, 97, 116, 105, 111, 110, 115, 95, 95]⟩ 170), (.ref 6)⟩, ⟨PyData.keyHash P ⟨#[95, 95, 98, 117, 105, 108, 116, 105, 110, 115, 95, 95]⟩, (.str ⟨#[95, 95, 98, 117, 105, 108, 116, 105, 110, 115, 95, 95]⟩ 171), (.ref 4)⟩, ⟨PyData.keyHash P ⟨#[95, 95, 102, 105, 108, 101, 95, 95]⟩, (.str ⟨#[95, 95, 102, 105, 108, 101, 95, 95]⟩ 173), (.str ⟨#[47, 99, 108, 97, 105, 109, 47, 99, 117, 116, 46, 112, 121]⟩ 172)⟩, ⟨PyData.keyHash P ⟨#[95, 95, 99, 97, 99, 104, 101, 100, 95, 95]⟩, (.str ⟨#[95, 95, 99, 97, 99, 104, 101, 100, 95, 95]⟩ 174), (.none)⟩, ⟨PyData.keyHash P ⟨#[98, 49, 95, 115, 101, 116]⟩, (.str ⟨#[98, 49, 95, 115, 101, 116]⟩ 248), (.ref 22)⟩, ⟨PyData.keyHash P ⟨#[105, 110, 95, 116, 97, 98, 108, 101, 95, 98, 49]⟩, (.str ⟨#[105, 110, 95, 116, 97, 98, 108, 101, 95, 98, 49]⟩ 255), (.ref 32)⟩] 11), #[]⟩
noncomputable def o12v1 (P : Params) : Obj := ⟨(.none), none, (.fields #[(.int 3 0), (.int 0 0), (.ref 31)]), #[]⟩
noncomputable def o26v0 (P : Params) : Obj := ⟨(.type "tuple"), none, (.seq #[] 0), #[]⟩
noncomputable def o27v0 (P : Params) : Obj := ⟨(.none), none, (.fields #[]), #[]⟩
noncomputable def o28v0 (P : Params) : Obj := ⟨(.type "tuple"), none, (.seq #[(.str ⟨#[99, 111, 100, 101]⟩ 252)] 0), #[]⟩
noncomputable def o29v0 (P : Params) : Obj := ⟨(.type "tuple"), none, (.seq #[] 0), #[]⟩
noncomputable def o30v0 (P : Params) : Obj := ⟨(.none), none, .func (fd st2 0 (.none) (.none) 0), #[]⟩
noncomputable def o31v0 (P : Params) : Obj := ⟨(.type "code"), none, (.fields #[(.str ⟨#[105, 110, 95, 116, 97, 98, 108, 101, 95, 98, 49]⟩ 249), (.str ⟨#[105, 110, 95, 116, 97, 98, 108, 101, 95, 98, 49]⟩ 250), (.str ⟨#[47, 99, 108, 97, 105, 109, 47, 99, 117, 116, 46, 112, 121]⟩ 251), (.int 3 0), (.int 1 0), (.int 0 0), (.int 0 0), (.int 3 0), (.ref 26), (.bool true), (.int 181 0), (.ref 27), (.none), (.ref 28), (.ref 29), (.ref 30), (.int 253 0), (.int 3 0), (.str ⟨#[47, 99, 108, 97, 105, 109, 47, 99, 117, 116, 46, 112, 121]⟩ 254)]), #[]⟩
noncomputable def o32v0 (P : Params) : Obj := ⟨(.type "function"), none, .func (fd st2 3 (.str ⟨#[99, 112, 121, 51, 49, 51, 46, 115, 116, 114, 105, 110, 103, 112, 114, 101, 112]⟩ 187) (.ref 31) 0), #[]⟩
noncomputable def T3 (P : Params) : BT := (.node (boot_o_0 P) (.node (boot_o_1 P) (.node (o3v3 P) (.node (boot_o_7 P) (.node (o15v0 P) (.node (o31v0 P) .nil .nil) .nil) (.node (o23v0 P) .nil .nil)) (.node (o11v0 P) (.node (o19v0 P) .nil .nil) (.node (o27v0 P) .nil .nil))) (.node (boot_o_5 P) (.node (boot_o_9 P) (.node (o17v0 P) .nil .nil) (.node (o25v0 P) .nil .nil)) (.node (o13v0 P) (.node (o21v0 P) .nil .nil) (.node (o29v0 P) .nil .nil)))) (.node (boot_o_2 P) (.node (boot_o_4 P) (.node (boot_o_8 P) (.node (o16v0 P) (.node (o32v0 P) .nil .nil) .nil) (.node (o24v0 P) .nil .nil)) (.node (o12v1 P) (.node (o20v0 P) .nil .nil) (.node (o28v0 P) .nil .nil))) (.node (boot_o_6 P) (.node (boot_o_10 P) (.node (o18v0 P) .nil .nil) (.node (o26v0 P) .nil .nil)) (.node (o14v0 P) (.node (o22v0 P) .nil .nil) (.node (o30v0 P) .nil .nil)))))
theorem pt2 (w : World) (os : OsState) : segRunT treeTable pp w 11 (some (.ref 6)) 1 30 ⟨T2 w.params, 26, {}, #[], {}, 249, os⟩ (piecesOf [st2] env (.body bd env) ⟨2, 0, 2, 6⟩ [topFrame ⟨0, 0, 0, 0⟩]) = some (.next, ⟨T3 w.params, 33, {}, #[], {}, 256, os⟩, .body bd env, ⟨3, 0, 4, 30⟩) := by
  show segRunT treeTable pp _ 11 (some (.ref 6)) 1 30 _ ⟨(execs [st2] env).wrap doneF deadEnd id id, .body bd env, ⟨2, 0, 2, 6⟩, [topFrame ⟨0, 0, 0, 0⟩]⟩ = _
  rw [PySem.W.Fast.te10110043849684766642, PySem.W.Fast.te14364793385576792824, PySem.W.Fast.te12563942051412417395]
  kernel_rfl!
theorem pc2 (w : World) (os : OsState) : segRun treeTable pp w 11 (some (.ref 6)) 1 30 (SharedT.abs ⟨T2 w.params, 26, {}, #[], {}, 249, os⟩) (piecesOf [st2] env (.body bd env) ⟨2, 0, 2, 6⟩ [topFrame ⟨0, 0, 0, 0⟩]) = some (.next, SharedT.abs ⟨T3 w.params, 33, {}, #[], {}, 256, os⟩, .body bd env, ⟨3, 0, 4, 30⟩) := segRun_of (pt2 w os)
noncomputable def o3v4 (P : Params) : Obj := ⟨(.type "dict"), none, (.dict #[⟨PyData.keyHash P ⟨#[95, 95, 110, 97, 109, 101, 95, 95]⟩, (.str ⟨#[95, 95, 110, 97, 109, 101, 95, 95]⟩ 165), (.str ⟨#[99, 112, 121, 51, 49, 51, 46, 115, 116, 114, 105, 110, 103, 112, 114, 101, 112]⟩ 187)⟩, ⟨PyData.keyHash P ⟨#[95, 95, 100, 111, 99, 95, 95]⟩, (.str ⟨#[95, 95, 100, 111, 99, 95, 95]⟩ 166), (.none)⟩, ⟨PyData.keyHash P ⟨#[95, 95, 112, 97, 99, 107, 97, 103, 101, 95, 95]⟩, (.str ⟨#[95, 95, 112, 97, 99, 107, 97, 103, 101, 95, 95]⟩ 167), (.none)⟩, ⟨PyData.keyHash P ⟨#[95, 95, 108, 111, 97, 100, 101, 114, 95, 95]⟩, (.str ⟨#[95, 95, 108, 111, 97, 100, 101, 114, 95, 95]⟩ 168), (.builtin "__main__.__loader__#opaque")⟩, ⟨PyData.keyHash P ⟨#[95, 95, 115, 112, 101, 99, 95, 95]⟩, (.str ⟨#[95, 95, 115, 112, 101, 99, 95, 95]⟩ 169), (.none)⟩, ⟨PyData.keyHash P ⟨#[95, 95, 97, 110, 110, 111, 116, 97, 116, 105, 111, 110, 115, 95, 95]⟩, (.str ⟨#[95, 95, 97, 110, 110, 111, 116, 97, 116, 105, 111, 110, 115, 95, 95]⟩ 170), (.ref 6)⟩, ⟨PyData.keyHash P ⟨#[95, 95, 98, 117, 105, 108, 116, 105, 110, 115, 95, 95]⟩, (.str ⟨#[95, 95, 98, 117, 105, 108, 116, 105, 110, 115, 95, 95]⟩ 171), (.ref 4)⟩, ⟨PyData.keyHash P ⟨#[95, 95, 102, 105, 108, 101, 95, 95]⟩, (.str ⟨#[95, 95, 102, 105, 108, 101, 95, 95]⟩ 173), (.str ⟨#[47, 99, 108, 97, 105, 109, 47, 99, 117, 116, 46, 112, 121]⟩ 172)⟩, ⟨PyData.keyHash P ⟨#[95, 95, 99, 97, 99, 104, 101, 100, 95, 95]⟩, (.str ⟨#[95, 95, 99, 97, 99, 104, 101, 100, 95, 95]⟩ 174), (.none)⟩, ⟨PyData.keyHash P ⟨#[98, 49, 95, 115, 101, 116]⟩, (.str ⟨#[98, 49, 95, 115, 101, 116]⟩ 248), (.ref 22)⟩, ⟨PyData.keyHash P ⟨#[105, 110, 95, 116, 97, 98, 108, 101, 95, 98, 49]⟩, (.str ⟨#[105, 110, 95, 116, 97, 98, 108, 101, 95, 98, 49]⟩ 255), (.ref 32)⟩, ⟨PyData.keyHash P ⟨#[98, 51, 95, 101, 120, 99, 101, 112, 116, 105, 111, 110, 115]⟩, (.str ⟨#[98, 51, 95, 101, 120, 99, 101, 112, 116, 105, 111, 110, 115]⟩ 2206), (.ref 33)⟩] 12), #[]⟩
noncomputable def o33v0 (P : Params) : Obj := dobj b3E 650
noncomputable def o34v0 (P : Params) : Obj := (b3S[0]?).getD default
noncomputable def o35v0 (P : Params) : Obj := (b3S[1]?).getD default
noncomputable def o36v0 (P : Params) : Obj := (b3S[2]?).getD default
noncomputable def o37v0 (P : Params) : Obj := (b3S[3]?).getD default
noncomputable def o38v0 (P : Params) : Obj := (b3S[4]?).getD default
noncomputable def o39v0 (P : Params) : Obj := (b3S[5]?).getD default
noncomputable def o40v0 (P : Params) : Obj := (b3S[6]?).getD default
noncomputable def o41v0 (P : Params) : Obj := (b3S[7]?).getD default
noncomputable def o42v0 (P : Params) : Obj := (b3S[8]?).getD default
noncomputable def o43v0 (P : Params) : Obj := (b3S[9]?).getD default
noncomputable def o44v0 (P : Params) : Obj := (b3S[10]?).getD default
noncomputable def o45v0 (P : Params) : Obj := (b3S[11]?).getD default
noncomputable def o46v0 (P : Params) : Obj := (b3S[12]?).getD default
noncomputable def o47v0 (P : Params) : Obj := (b3S[13]?).getD default
noncomputable def o48v0 (P : Params) : Obj := (b3S[14]?).getD default
noncomputable def o49v0 (P : Params) : Obj := (b3S[15]?).getD default
noncomputable def o50v0 (P : Params) : Obj := (b3S[16]?).getD default
noncomputable def o51v0 (P : Params) : Obj := (b3S[17]?).getD default
noncomputable def o52v0 (P : Params) : Obj := (b3S[18]?).getD default
noncomputable def o53v0 (P : Params) : Obj := (b3S[19]?).getD default
noncomputable def o54v0 (P : Params) : Obj := (b3S[20]?).getD default
noncomputable def o55v0 (P : Params) : Obj := (b3S[21]?).getD default
noncomputable def o56v0 (P : Params) : Obj := (b3S[22]?).getD default
noncomputable def o57v0 (P : Params) : Obj := (b3S[23]?).getD default
noncomputable def o58v0 (P : Params) : Obj := (b3S[24]?).getD default
noncomputable def o59v0 (P : Params) : Obj := (b3S[25]?).getD default
noncomputable def o60v0 (P : Params) : Obj := (b3S[26]?).getD default
noncomputable def o61v0 (P : Params) : Obj := (b3S[27]?).getD default
noncomputable def o62v0 (P : Params) : Obj := (b3S[28]?).getD default
noncomputable def o63v0 (P : Params) : Obj := (b3S[29]?).getD default
noncomputable def o64v0 (P : Params) : Obj := (b3S[30]?).getD default
noncomputable def o65v0 (P : Params) : Obj := (b3S[31]?).getD default
noncomputable def o66v0 (P : Params) : Obj := (b3S[32]?).getD default
noncomputable def o67v0 (P : Params) : Obj := (b3S[33]?).getD default
noncomputable def o68v0 (P : Params) : Obj := (b3S[34]?).getD default
noncomputable def o69v0 (P : Params) : Obj := (b3S[35]?).getD default
noncomputable def o70v0 (P : Params) : Obj := (b3S[36]?).getD default
noncomputable def o71v0 (P : Params) : Obj := (b3S[37]?).getD default
noncomputable def Tm (P : Params) : BT := (.node (boot_o_0 P) (.node (boot_o_1 P) (.node (o3v3 P) (.node (boot_o_7 P) (.node (o15v0 P) (.node (o31v0 P) (.node (o63v0 P) .nil .nil) .nil) (.node (o47v0 P) .nil .nil)) (.node (o23v0 P) (.node (o39v0 P) (.node (o71v0 P) .nil .nil) .nil) (.node (o55v0 P) .nil .nil))) (.node (o11v0 P) (.node (o19v0 P) (.node (o35v0 P) (.node (o67v0 P) .nil .nil) .nil) (.node (o51v0 P) .nil .nil)) (.node (o27v0 P) (.node (o43v0 P) .nil .nil) (.node (o59v0 P) .nil .nil)))) (.node (boot_o_5 P) (.node (boot_o_9 P) (.node (o17v0 P) (.node (o33v0 P) (.node (o65v0 P) .nil .nil) .nil) (.node (o49v0 P) .nil .nil)) (.node (o25v0 P) (.node (o41v0 P) .nil .nil) (.node (o57v0 P) .nil .nil))) (.node (o13v0 P) (.node (o21v0 P) (.node (o37v0 P) (.node (o69v0 P) .nil .nil) .nil) (.node (o53v0 P) .nil .nil)) (.node (o29v0 P) (.node (o45v0 P) .nil .nil) (.node (o61v0 P) .nil .nil))))) (.node (boot_o_2 P) (.node (boot_o_4 P) (.node (boot_o_8 P) (.node (o16v0 P) (.node (o32v0 P) (.node (o64v0 P) .nil .nil) .nil) (.node (o48v0 P) .nil .nil)) (.node (o24v0 P) (.node (o40v0 P) .nil .nil) (.node (o56v0 P) .nil .nil))) (.node (o12v1 P) (.node (o20v0 P) (.node (o36v0 P) (.node (o68v0 P) .nil .nil) .nil) (.node (o52v0 P) .nil .nil)) (.node (o28v0 P) (.node (o44v0 P) .nil .nil) (.node (o60v0 P) .nil .nil)))) (.node (boot_o_6 P) (.node (boot_o_10 P) (.node (o18v0 P) (.node (o34v0 P) (.node (o66v0 P) .nil .nil) .nil) (.node (o50v0 P) .nil .nil)) (.node (o26v0 P) (.node (o42v0 P) .nil .nil) (.node (o58v0 P) .nil .nil))) (.node (o14v0 P) (.node (o22v0 P) (.node (o38v0 P) (.node (o70v0 P) .nil .nil) .nil) (.node (o54v0 P) .nil .nil)) (.node (o30v0 P) (.node (o46v0 P) .nil .nil) (.node (o62v0 P) .nil .nil))))))
noncomputable def T4 (P : Params) : BT := (.node (boot_o_0 P) (.node (boot_o_1 P) (.node (o3v4 P) (.node (boot_o_7 P) (.node (o15v0 P) (.node (o31v0 P) (.node (o63v0 P) .nil .nil) .nil) (.node (o47v0 P) .nil .nil)) (.node (o23v0 P) (.node (o39v0 P) (.node (o71v0 P) .nil .nil) .nil) (.node (o55v0 P) .nil .nil))) (.node (o11v0 P) (.node (o19v0 P) (.node (o35v0 P) (.node (o67v0 P) .nil .nil) .nil) (.node (o51v0 P) .nil .nil)) (.node (o27v0 P) (.node (o43v0 P) .nil .nil) (.node (o59v0 P) .nil .nil)))) (.node (boot_o_5 P) (.node (boot_o_9 P) (.node (o17v0 P) (.node (o33v0 P) (.node (o65v0 P) .nil .nil) .nil) (.node (o49v0 P) .nil .nil)) (.node (o25v0 P) (.node (o41v0 P) .nil .nil) (.node (o57v0 P) .nil .nil))) (.node (o13v0 P) (.node (o21v0 P) (.node (o37v0 P) (.node (o69v0 P) .nil .nil) .nil) (.node (o53v0 P) .nil .nil)) (.node (o29v0 P) (.node (o45v0 P) .nil .nil) (.node (o61v0 P) .nil .nil))))) (.node (boot_o_2 P) (.node (boot_o_4 P) (.node (boot_o_8 P) (.node (o16v0 P) (.node (o32v0 P) (.node (o64v0 P) .nil .nil) .nil) (.node (o48v0 P) .nil .nil)) (.node (o24v0 P) (.node (o40v0 P) .nil .nil) (.node (o56v0 P) .nil .nil))) (.node (o12v1 P) (.node (o20v0 P) (.node (o36v0 P) (.node (o68v0 P) .nil .nil) .nil) (.node (o52v0 P) .nil .nil)) (.node (o28v0 P) (.node (o44v0 P) .nil .nil) (.node (o60v0 P) .nil .nil)))) (.node (boot_o_6 P) (.node (boot_o_10 P) (.node (o18v0 P) (.node (o34v0 P) (.node (o66v0 P) .nil .nil) .nil) (.node (o50v0 P) .nil .nil)) (.node (o26v0 P) (.node (o42v0 P) .nil .nil) (.node (o58v0 P) .nil .nil))) (.node (o14v0 P) (.node (o22v0 P) (.node (o38v0 P) (.node (o70v0 P) .nil .nil) .nil) (.node (o54v0 P) .nil .nil)) (.node (o30v0 P) (.node (o46v0 P) .nil .nil) (.node (o62v0 P) .nil .nil))))))
theorem tail_run (w : World) (os : OsState) (p' : Pos) : segRun treeTable pp w 11 (some (.ref 6)) 1 60 (SharedT.abs ⟨Tm w.params, 72, {}, #[], {}, 2206, os⟩) ⟨Sem.wrap (fun f => Sem.wrap doneF deadEnd id id (match f with | .next => execs [] env | f => pure f)) deadEnd id id (storeTail (PySem.Str.ofString "b3_exceptions") ⟨5, 0, 5, 13⟩ ks3 vs3 ⟨5, 16, 5, 8704⟩ env (.ref 33)), .body bd env, p', [topFrame ⟨0, 0, 0, 0⟩]⟩ = some (.next, SharedT.abs ⟨T4 w.params, 72, {}, #[], {}, 2207, os⟩, .body bd env, ⟨5, 0, 5, 13⟩) := segRun_of (by
  unfold storeTail
  rw [PySem.W.Fast.te10110043849684766642, PySem.W.Fast.te14364793385576792824, PySem.W.Fast.te4016559146275205325, PySem.W.Fast.te2470068587113613483, PySem.W.Fast.te15628205474173192105]
  kernel_rfl!)
theorem mid_eq (P : Params) : (T3 P).list 33 ++ dobj b3E 650 :: b3S = (Tm P).list 72 := by kernel_rfl!
theorem pc3 (w : World) (os : OsState) : segRun treeTable pp w 11 (some (.ref 6)) 1 13062 (SharedT.abs ⟨T3 w.params, 33, {}, #[], {}, 256, os⟩) (piecesOf [st3] env (.body bd env) ⟨3, 0, 4, 30⟩ [topFrame ⟨0, 0, 0, 0⟩]) = some (.next, SharedT.abs ⟨T4 w.params, 72, {}, #[], {}, 2207, os⟩, .body bd env, ⟨5, 0, 5, 13⟩) := by
  show segRun treeTable pp w 11 (some (.ref 6)) 1 13062 (SharedT.abs ⟨T3 w.params, 33, {}, #[], {}, 256, os⟩) ⟨((exec st3 env).bind (fun f => match f with | .next => execs [] env | f => pure f)).wrap doneF deadEnd id id, .body bd env, ⟨3, 0, 4, 30⟩, [topFrame ⟨0, 0, 0, 0⟩]⟩ = _
  rw [Sem.bind_eq_wrap, Sem.wrap_wrap, st_eq]
  obtain ⟨xs, hx, I⟩ := items_of (C := ⟨pp, w, 11, (some (.ref 6)), bd, env, ⟨0, 0, 0, 0⟩⟩) (dp := ⟨5, 16, 5, 8704⟩) lit_eq
  have hpl : ((T3 w.params).list 33).length = 33 := by simp [BT.list]
  have D := goes_display (C := ⟨pp, w, 11, (some (.ref 6)), bd, env, ⟨0, 0, 0, 0⟩⟩) (pre := (T3 w.params).list 33) (l := {}) (gens := #[]) (drawn := {}) (toks := 256) (os := os) 37 I (by rw [ps_len]; decide) (by rw [ps_len]; decide) (inc_pw ps_inc) (by rw [ps_len]; decide)
    (fun k => by rw [hpl]; show Nat.ble 11 (33 + k) = true; exact Nat.ble_eq_true_of_le (by omega)) (fun k => by rw [hpl]; show (33 + 1 + k == sysModules) = false; simp [sysModules]; omega)
  rw [hpl, ps_len] at D
  have e1 : (Sh (H ((T3 w.params).list 33) (dobj b3E 650) b3S {}) #[] {} 2206 os) = SharedT.abs ⟨Tm w.params, 72, {}, #[], {}, 2206, os⟩ := by
    show Sh ⟨((T3 w.params).list 33 ++ dobj b3E 650 :: b3S).toArray, {}⟩ #[] {} 2206 os = _
    rw [mid_eq]; rfl
  have D' : Goes ⟨pp, w, 11, (some (.ref 6)), bd, env, ⟨0, 0, 0, 0⟩⟩ 13000 (dictDisplay (itemsOf ks3 vs3 ⟨5, 16, 5, 8704⟩ env)) (SharedT.abs ⟨T3 w.params, 33, {}, #[], {}, 256, os⟩) (.ref 33) (SharedT.abs ⟨Tm w.params, 72, {}, #[], {}, 2206, os⟩) := by
    rw [← e1, show itemsOf ks3 vs3 ⟨5, 16, 5, 8704⟩ env = xs.map mk from hx]
    exact D
  exact seg_dict (C := ⟨pp, w, 11, (some (.ref 6)), bd, env, ⟨0, 0, 0, 0⟩⟩) (N := 13000) (M := 60) D' (fun p' => tail_run w os p')
noncomputable def o3v5 (P : Params) : Obj := ⟨(.type "dict"), none, (.dict #[⟨PyData.keyHash P ⟨#[95, 95, 110, 97, 109, 101, 95, 95]⟩, (.str ⟨#[95, 95, 110, 97, 109, 101, 95, 95]⟩ 165), (.str ⟨#[99, 112, 121, 51, 49, 51, 46, 115, 116, 114, 105, 110, 103, 112, 114, 101, 112]⟩ 187)⟩, ⟨PyData.keyHash P ⟨#[95, 95, 100, 111, 99, 95, 95]⟩, (.str ⟨#[95, 95, 100, 111, 99, 95, 95]⟩ 166), (.none)⟩, ⟨PyData.keyHash P ⟨#[95, 95, 112, 97, 99, 107, 97, 103, 101, 95, 95]⟩, (.str ⟨#[95, 95, 112, 97, 99, 107, 97, 103, 101, 95, 95]⟩ 167), (.none)⟩, ⟨PyData.keyHash P ⟨#[95, 95, 108, 111, 97, 100, 101, 114, 95, 95]⟩, (.str ⟨#[95, 95, 108, 111, 97, 100, 101, 114, 95, 95]⟩ 168), (.builtin "__main__.__loader__#opaque")⟩, ⟨PyData.keyHash P ⟨#[95, 95, 115, 112, 101, 99, 95, 95]⟩, (.str ⟨#[95, 95, 115, 112, 101, 99, 95, 95]⟩ 169), (.none)⟩, ⟨PyData.keyHash P ⟨#[95, 95, 97, 110, 110, 111, 116, 97, 116, 105, 111, 110, 115, 95, 95]⟩, (.str ⟨#[95, 95, 97, 110, 110, 111, 116, 97, 116, 105, 111, 110, 115, 95, 95]⟩ 170), (.ref 6)⟩, ⟨PyData.keyHash P ⟨#[95, 95, 98, 117, 105, 108, 116, 105, 110, 115, 95, 95]⟩, (.str ⟨#[95, 95, 98, 117, 105, 108, 116, 105, 110, 115, 95, 95]⟩ 171), (.ref 4)⟩, ⟨PyData.keyHash P ⟨#[95, 95, 102, 105, 108, 101, 95, 95]⟩, (.str ⟨#[95, 95, 102, 105, 108, 101, 95, 95]⟩ 173), (.str ⟨#[47, 99, 108, 97, 105, 109, 47, 99, 117, 116, 46, 112, 121]⟩ 172)⟩, ⟨PyData.keyHash P ⟨#[95, 95, 99, 97, 99, 104, 101, 100, 95, 95]⟩, (.str ⟨#[95, 95, 99, 97, 99, 104, 101, 100, 95, 95]⟩ 174), (.none)⟩, ⟨PyData.keyHash P ⟨#[98, 49, 95, 115, 101, 116]⟩, (.str ⟨#[98, 49, 95, 115, 101, 116]⟩ 248), (.ref 22)⟩, ⟨PyData.keyHash P ⟨#[105, 110, 95, 116, 97, 98, 108, 101, 95, 98, 49]⟩, (.str ⟨#[105, 110, 95, 116, 97, 98, 108, 101, 95, 98, 49]⟩ 255), (.ref 32)⟩, ⟨PyData.keyHash P ⟨#[98, 51, 95, 101, 120, 99, 101, 112, 116, 105, 111, 110, 115]⟩, (.str ⟨#[98, 51, 95, 101, 120, 99, 101, 112, 116, 105, 111, 110, 115]⟩ 2206), (.ref 33)⟩, ⟨PyData.keyHash P ⟨#[109, 97, 112, 95, 116, 97, 98, 108, 101, 95, 98, 51]⟩, (.str ⟨#[109, 97, 112, 95, 116, 97, 98, 108, 101, 95, 98, 51]⟩ 2214), (.ref 78)⟩] 13), #[]⟩
noncomputable def o12v2 (P : Params) : Obj := ⟨(.none), none, (.fields #[(.int 3 0), (.int 0 0), (.ref 31), (.int 6 0), (.int 0 0), (.ref 77)]), #[]⟩
noncomputable def o72v0 (P : Params) : Obj := ⟨(.type "tuple"), none, (.seq #[] 0), #[]⟩
noncomputable def o73v0 (P : Params) : Obj := ⟨(.none), none, (.fields #[]), #[]⟩
noncomputable def o74v0 (P : Params) : Obj := ⟨(.type "tuple"), none, (.seq #[(.str ⟨#[99, 111, 100, 101]⟩ 2210), (.str ⟨#[114]⟩ 2211)] 0), #[]⟩
noncomputable def o75v0 (P : Params) : Obj := ⟨(.type "tuple"), none, (.seq #[] 0), #[]⟩
noncomputable def o76v0 (P : Params) : Obj := ⟨(.none), none, .func (fd st4 0 (.none) (.none) 0), #[]⟩
noncomputable def o77v0 (P : Params) : Obj := ⟨(.type "code"), none, (.fields #[(.str ⟨#[109, 97, 112, 95, 116, 97, 98, 108, 101, 95, 98, 51]⟩ 2207), (.str ⟨#[109, 97, 112, 95, 116, 97, 98, 108, 101, 95, 98, 51]⟩ 2208), (.str ⟨#[47, 99, 108, 97, 105, 109, 47, 99, 117, 116, 46, 112, 121]⟩ 2209), (.int 6 0), (.int 1 0), (.int 0 0), (.int 0 0), (.int 3 0), (.ref 72), (.bool true), (.int 181 0), (.ref 73), (.none), (.ref 74), (.ref 75), (.ref 76), (.int 2212 0), (.int 6 0), (.str ⟨#[47, 99, 108, 97, 105, 109, 47, 99, 117, 116, 46, 112, 121]⟩ 2213)]), #[]⟩
noncomputable def o78v0 (P : Params) : Obj := ⟨(.type "function"), none, .func (fd st4 3 (.str ⟨#[99, 112, 121, 51, 49, 51, 46, 115, 116, 114, 105, 110, 103, 112, 114, 101, 112]⟩ 187) (.ref 77) 0), #[]⟩
noncomputable def T5 (P : Params) : BT := (.node (boot_o_0 P) (.node (boot_o_1 P) (.node (o3v5 P) (.node (boot_o_7 P) (.node (o15v0 P) (.node (o31v0 P) (.node (o63v0 P) .nil .nil) .nil) (.node (o47v0 P) .nil .nil)) (.node (o23v0 P) (.node (o39v0 P) (.node (o71v0 P) .nil .nil) .nil) (.node (o55v0 P) .nil .nil))) (.node (o11v0 P) (.node (o19v0 P) (.node (o35v0 P) (.node (o67v0 P) .nil .nil) .nil) (.node (o51v0 P) .nil .nil)) (.node (o27v0 P) (.node (o43v0 P) (.node (o75v0 P) .nil .nil) .nil) (.node (o59v0 P) .nil .nil)))) (.node (boot_o_5 P) (.node (boot_o_9 P) (.node (o17v0 P) (.node (o33v0 P) (.node (o65v0 P) .nil .nil) .nil) (.node (o49v0 P) .nil .nil)) (.node (o25v0 P) (.node (o41v0 P) (.node (o73v0 P) .nil .nil) .nil) (.node (o57v0 P) .nil .nil))) (.node (o13v0 P) (.node (o21v0 P) (.node (o37v0 P) (.node (o69v0 P) .nil .nil) .nil) (.node (o53v0 P) .nil .nil)) (.node (o29v0 P) (.node (o45v0 P) (.node (o77v0 P) .nil .nil) .nil) (.node (o61v0 P) .nil .nil))))) (.node (boot_o_2 P) (.node (boot_o_4 P) (.node (boot_o_8 P) (.node (o16v0 P) (.node (o32v0 P) (.node (o64v0 P) .nil .nil) .nil) (.node (o48v0 P) .nil .nil)) (.node (o24v0 P) (.node (o40v0 P) (.node (o72v0 P) .nil .nil) .nil) (.node (o56v0 P) .nil .nil))) (.node (o12v2 P) (.node (o20v0 P) (.node (o36v0 P) (.node (o68v0 P) .nil .nil) .nil) (.node (o52v0 P) .nil .nil)) (.node (o28v0 P) (.node (o44v0 P) (.node (o76v0 P) .nil .nil) .nil) (.node (o60v0 P) .nil .nil)))) (.node (boot_o_6 P) (.node (boot_o_10 P) (.node (o18v0 P) (.node (o34v0 P) (.node (o66v0 P) .nil .nil) .nil) (.node (o50v0 P) .nil .nil)) (.node (o26v0 P) (.node (o42v0 P) (.node (o74v0 P) .nil .nil) .nil) (.node (o58v0 P) .nil .nil))) (.node (o14v0 P) (.node (o22v0 P) (.node (o38v0 P) (.node (o70v0 P) .nil .nil) .nil) (.node (o54v0 P) .nil .nil)) (.node (o30v0 P) (.node (o46v0 P) (.node (o78v0 P) .nil .nil) .nil) (.node (o62v0 P) .nil .nil))))))
theorem pt4 (w : World) (os : OsState) : segRunT treeTable pp w 11 (some (.ref 6)) 1 31 ⟨T4 w.params, 72, {}, #[], {}, 2207, os⟩ (piecesOf [st4] env (.body bd env) ⟨5, 0, 5, 13⟩ [topFrame ⟨0, 0, 0, 0⟩]) = some (.next, ⟨T5 w.params, 79, {}, #[], {}, 2215, os⟩, .body bd env, ⟨6, 0, 10, 23⟩) := by
  show segRunT treeTable pp _ 11 (some (.ref 6)) 1 31 _ ⟨(execs [st4] env).wrap doneF deadEnd id id, .body bd env, ⟨5, 0, 5, 13⟩, [topFrame ⟨0, 0, 0, 0⟩]⟩ = _
  rw [PySem.W.Fast.te10110043849684766642, PySem.W.Fast.te14364793385576792824, PySem.W.Fast.te12563942051412417395]
  kernel_rfl!
theorem pc4 (w : World) (os : OsState) : segRun treeTable pp w 11 (some (.ref 6)) 1 31 (SharedT.abs ⟨T4 w.params, 72, {}, #[], {}, 2207, os⟩) (piecesOf [st4] env (.body bd env) ⟨5, 0, 5, 13⟩ [topFrame ⟨0, 0, 0, 0⟩]) = some (.next, SharedT.abs ⟨T5 w.params, 79, {}, #[], {}, 2215, os⟩, .body bd env, ⟨6, 0, 10, 23⟩) := segRun_of (pt4 w os)
noncomputable def o3v6 (P : Params) : Obj := ⟨(.type "dict"), none, (.dict #[⟨PyData.keyHash P ⟨#[95, 95, 110, 97, 109, 101, 95, 95]⟩, (.str ⟨#[95, 95, 110, 97, 109, 101, 95, 95]⟩ 165), (.str ⟨#[99, 112, 121, 51, 49, 51, 46, 105, 109, 97, 112, 108, 105, 98]⟩ 2215)⟩, ⟨PyData.keyHash P ⟨#[95, 95, 100, 111, 99, 95, 95]⟩, (.str ⟨#[95, 95, 100, 111, 99, 95, 95]⟩ 166), (.none)⟩, ⟨PyData.keyHash P ⟨#[95, 95, 112, 97, 99, 107, 97, 103, 101, 95, 95]⟩, (.str ⟨#[95, 95, 112, 97, 99, 107, 97, 103, 101, 95, 95]⟩ 167), (.none)⟩, ⟨PyData.keyHash P ⟨#[95, 95, 108, 111, 97, 100, 101, 114, 95, 95]⟩, (.str ⟨#[95, 95, 108, 111, 97, 100, 101, 114, 95, 95]⟩ 168), (.builtin "__main__.__loader__#opaque")⟩, ⟨PyData.keyHash P ⟨#[95, 95, 115, 112, 101, 99, 95, 95]⟩, (.str ⟨#[95, 95, 115, 112, 101, 99, 95, 95]⟩ 169), (.none)⟩, ⟨PyData.keyHash P ⟨#[95, 95, 97, 110, 110, 111, 116, 97, 116, 105, 111, 110, 115, 95, 95]⟩, (.str ⟨#[95, 95, 97, 110, 110, 111, 116, 97, 116, 105, 111, 110, 115, 95, 95]⟩ 170), (.ref 6)⟩, ⟨PyData.keyHash P ⟨#[95, 95, 98, 117, 105, 108, 116, 105, 110, 115, 95, 95]⟩, (.str ⟨#[95, 95, 98, 117, 105, 108, 116, 105, 110, 115, 95, 95]⟩ 171), (.ref 4)⟩, ⟨PyData.keyHash P ⟨#[95, 95, 102, 105, 108, 101, 95, 95]⟩, (.str ⟨#[95, 95, 102, 105, 108, 101, 95, 95]⟩ 173), (.str ⟨#[47, 99, 108, 97, 105, 109, 47, 99, 117, 116, 46, 112, 121]⟩ 172)⟩, ⟨PyData.keyHash P ⟨#[95, 95, 99, 97, 99, 104, 101, 100, 95, 95]⟩, (.str ⟨#[95, 95, 99, 97, 99, 104, 101, 100, 95, 95]⟩ 174), (.none)⟩, ⟨PyData.keyHash P ⟨#[98, 49, 95, 115, 101, 116]⟩, (.str ⟨#[98, 49, 95, 115, 101, 116]⟩ 248), (.ref 22)⟩, ⟨PyData.keyHash P ⟨#[105, 110, 95, 116, 97, 98, 108, 101, 95, 98, 49]⟩, (.str ⟨#[105, 110, 95, 116, 97, 98, 108, 101, 95, 98, 49]⟩ 255), (.ref 32)⟩, ⟨PyData.keyHash P ⟨#[98, 51, 95, 101, 120, 99, 101, 112, 116, 105, 111, 110, 115]⟩, (.str ⟨#[98, 51, 95, 101, 120, 99, 101, 112, 116, 105, 111, 110, 115]⟩ 2206), (.ref 33)⟩, ⟨PyData.keyHash P ⟨#[109, 97, 112, 95, 116, 97, 98, 108, 101, 95, 98, 51]⟩, (.str ⟨#[109, 97, 112, 95, 116, 97, 98, 108, 101, 95, 98, 51]⟩ 2214), (.ref 78)⟩] 13), #[]⟩
noncomputable def T6 (P : Params) : BT := (.node (boot_o_0 P) (.node (boot_o_1 P) (.node (o3v6 P) (.node (boot_o_7 P) (.node (o15v0 P) (.node (o31v0 P) (.node (o63v0 P) .nil .nil) .nil) (.node (o47v0 P) .nil .nil)) (.node (o23v0 P) (.node (o39v0 P) (.node (o71v0 P) .nil .nil) .nil) (.node (o55v0 P) .nil .nil))) (.node (o11v0 P) (.node (o19v0 P) (.node (o35v0 P) (.node (o67v0 P) .nil .nil) .nil) (.node (o51v0 P) .nil .nil)) (.node (o27v0 P) (.node (o43v0 P) (.node (o75v0 P) .nil .nil) .nil) (.node (o59v0 P) .nil .nil)))) (.node (boot_o_5 P) (.node (boot_o_9 P) (.node (o17v0 P) (.node (o33v0 P) (.node (o65v0 P) .nil .nil) .nil) (.node (o49v0 P) .nil .nil)) (.node (o25v0 P) (.node (o41v0 P) (.node (o73v0 P) .nil .nil) .nil) (.node (o57v0 P) .nil .nil))) (.node (o13v0 P) (.node (o21v0 P) (.node (o37v0 P) (.node (o69v0 P) .nil .nil) .nil) (.node (o53v0 P) .nil .nil)) (.node (o29v0 P) (.node (o45v0 P) (.node (o77v0 P) .nil .nil) .nil) (.node (o61v0 P) .nil .nil))))) (.node (boot_o_2 P) (.node (boot_o_4 P) (.node (boot_o_8 P) (.node (o16v0 P) (.node (o32v0 P) (.node (o64v0 P) .nil .nil) .nil) (.node (o48v0 P) .nil .nil)) (.node (o24v0 P) (.node (o40v0 P) (.node (o72v0 P) .nil .nil) .nil) (.node (o56v0 P) .nil .nil))) (.node (o12v2 P) (.node (o20v0 P) (.node (o36v0 P) (.node (o68v0 P) .nil .nil) .nil) (.node (o52v0 P) .nil .nil)) (.node (o28v0 P) (.node (o44v0 P) (.node (o76v0 P) .nil .nil) .nil) (.node (o60v0 P) .nil .nil)))) (.node (boot_o_6 P) (.node (boot_o_10 P) (.node (o18v0 P) (.node (o34v0 P) (.node (o66v0 P) .nil .nil) .nil) (.node (o50v0 P) .nil .nil)) (.node (o26v0 P) (.node (o42v0 P) (.node (o74v0 P) .nil .nil) .nil) (.node (o58v0 P) .nil .nil))) (.node (o14v0 P) (.node (o22v0 P) (.node (o38v0 P) (.node (o70v0 P) .nil .nil) .nil) (.node (o54v0 P) .nil .nil)) (.node (o30v0 P) (.node (o46v0 P) (.node (o78v0 P) .nil .nil) .nil) (.node (o62v0 P) .nil .nil))))))
theorem pt5 (w : World) (os : OsState) : segRunT treeTable pp w 11 (some (.ref 6)) 1 10 ⟨T5 w.params, 79, {}, #[], {}, 2215, os⟩ (piecesOf [st5] env (.body bd env) ⟨6, 0, 10, 23⟩ [topFrame ⟨0, 0, 0, 0⟩]) = some (.next, ⟨T6 w.params, 79, {}, #[], {}, 2217, os⟩, .body bd env, ⟨11, 0, 11, 8⟩) := by
  show segRunT treeTable pp _ 11 (some (.ref 6)) 1 10 _ ⟨(execs [st5] env).wrap doneF deadEnd id id, .body bd env, ⟨6, 0, 10, 23⟩, [topFrame ⟨0, 0, 0, 0⟩]⟩ = _
  rw [PySem.W.Fast.te10110043849684766642, PySem.W.Fast.te14364793385576792824, PySem.W.Fast.te12563942051412417395]
  kernel_rfl!
theorem pc5 (w : World) (os : OsState) : segRun treeTable pp w 11 (some (.ref 6)) 1 10 (SharedT.abs ⟨T5 w.params, 79, {}, #[], {}, 2215, os⟩) (piecesOf [st5] env (.body bd env) ⟨6, 0, 10, 23⟩ [topFrame ⟨0, 0, 0, 0⟩]) = some (.next, SharedT.abs ⟨T6 w.params, 79, {}, #[], {}, 2217, os⟩, .body bd env, ⟨11, 0, 11, 8⟩) := segRun_of (pt5 w os)
noncomputable def o3v7 (P : Params) : Obj := ⟨(.type "dict"), none, (.dict #[⟨PyData.keyHash P ⟨#[95, 95, 110, 97, 109, 101, 95, 95]⟩, (.str ⟨#[95, 95, 110, 97, 109, 101, 95, 95]⟩ 165), (.str ⟨#[99, 112, 121, 51, 49, 51, 46, 105, 109, 97, 112, 108, 105, 98]⟩ 2215)⟩, ⟨PyData.keyHash P ⟨#[95, 95, 100, 111, 99, 95, 95]⟩, (.str ⟨#[95, 95, 100, 111, 99, 95, 95]⟩ 166), (.none)⟩, ⟨PyData.keyHash P ⟨#[95, 95, 112, 97, 99, 107, 97, 103, 101, 95, 95]⟩, (.str ⟨#[95, 95, 112, 97, 99, 107, 97, 103, 101, 95, 95]⟩ 167), (.none)⟩, ⟨PyData.keyHash P ⟨#[95, 95, 108, 111, 97, 100, 101, 114, 95, 95]⟩, (.str ⟨#[95, 95, 108, 111, 97, 100, 101, 114, 95, 95]⟩ 168), (.builtin "__main__.__loader__#opaque")⟩, ⟨PyData.keyHash P ⟨#[95, 95, 115, 112, 101, 99, 95, 95]⟩, (.str ⟨#[95, 95, 115, 112, 101, 99, 95, 95]⟩ 169), (.none)⟩, ⟨PyData.keyHash P ⟨#[95, 95, 97, 110, 110, 111, 116, 97, 116, 105, 111, 110, 115, 95, 95]⟩, (.str ⟨#[95, 95, 97, 110, 110, 111, 116, 97, 116, 105, 111, 110, 115, 95, 95]⟩ 170), (.ref 6)⟩, ⟨PyData.keyHash P ⟨#[95, 95, 98, 117, 105, 108, 116, 105, 110, 115, 95, 95]⟩, (.str ⟨#[95, 95, 98, 117, 105, 108, 116, 105, 110, 115, 95, 95]⟩ 171), (.ref 4)⟩, ⟨PyData.keyHash P ⟨#[95, 95, 102, 105, 108, 101, 95, 95]⟩, (.str ⟨#[95, 95, 102, 105, 108, 101, 95, 95]⟩ 173), (.str ⟨#[47, 99, 108, 97, 105, 109, 47, 99, 117, 116, 46, 112, 121]⟩ 172)⟩, ⟨PyData.keyHash P ⟨#[95, 95, 99, 97, 99, 104, 101, 100, 95, 95]⟩, (.str ⟨#[95, 95, 99, 97, 99, 104, 101, 100, 95, 95]⟩ 174), (.none)⟩, ⟨PyData.keyHash P ⟨#[98, 49, 95, 115, 101, 116]⟩, (.str ⟨#[98, 49, 95, 115, 101, 116]⟩ 248), (.ref 22)⟩, ⟨PyData.keyHash P ⟨#[105, 110, 95, 116, 97, 98, 108, 101, 95, 98, 49]⟩, (.str ⟨#[105, 110, 95, 116, 97, 98, 108, 101, 95, 98, 49]⟩ 255), (.ref 32)⟩, ⟨PyData.keyHash P ⟨#[98, 51, 95, 101, 120, 99, 101, 112, 116, 105, 111, 110, 115]⟩, (.str ⟨#[98, 51, 95, 101, 120, 99, 101, 112, 116, 105, 111, 110, 115]⟩ 2206), (.ref 33)⟩, ⟨PyData.keyHash P ⟨#[109, 97, 112, 95, 116, 97, 98, 108, 101, 95, 98, 51]⟩, (.str ⟨#[109, 97, 112, 95, 116, 97, 98, 108, 101, 95, 98, 51]⟩ 2214), (.ref 78)⟩, ⟨PyData.keyHash P ⟨#[73, 110, 116, 50, 65, 80]⟩, (.str ⟨#[73, 110, 116, 50, 65, 80]⟩ 2226), (.ref 85)⟩] 14), #[]⟩
noncomputable def o12v3 (P : Params) : Obj := ⟨(.none), none, (.fields #[(.int 3 0), (.int 0 0), (.ref 31), (.int 6 0), (.int 0 0), (.ref 77), (.int 12 0), (.int 0 0), (.ref 84)]), #[]⟩
noncomputable def o79v0 (P : Params) : Obj := ⟨(.type "tuple"), none, (.seq #[] 0), #[]⟩
noncomputable def o80v0 (P : Params) : Obj := ⟨(.none), none, (.fields #[]), #[]⟩
noncomputable def o81v0 (P : Params) : Obj := ⟨(.type "tuple"), none, (.seq #[(.str ⟨#[110, 117, 109]⟩ 2220), (.str ⟨#[118, 97, 108]⟩ 2221), (.str ⟨#[65, 80]⟩ 2222), (.str ⟨#[109, 111, 100]⟩ 2223)] 0), #[]⟩
noncomputable def o82v0 (P : Params) : Obj := ⟨(.type "tuple"), none, (.seq #[] 0), #[]⟩
noncomputable def o83v0 (P : Params) : Obj := ⟨(.none), none, .func (fd st6 0 (.none) (.none) 0), #[]⟩
noncomputable def o84v0 (P : Params) : Obj := ⟨(.type "code"), none, (.fields #[(.str ⟨#[73, 110, 116, 50, 65, 80]⟩ 2217), (.str ⟨#[73, 110, 116, 50, 65, 80]⟩ 2218), (.str ⟨#[47, 99, 108, 97, 105, 109, 47, 99, 117, 116, 46, 112, 121]⟩ 2219), (.int 12 0), (.int 1 0), (.int 0 0), (.int 0 0), (.int 3 0), (.ref 79), (.bool true), (.int 181 0), (.ref 80), (.none), (.ref 81), (.ref 82), (.ref 83), (.int 2224 0), (.int 12 0), (.str ⟨#[47, 99, 108, 97, 105, 109, 47, 99, 117, 116, 46, 112, 121]⟩ 2225)]), #[]⟩
noncomputable def o85v0 (P : Params) : Obj := ⟨(.type "function"), none, .func (fd st6 3 (.str ⟨#[99, 112, 121, 51, 49, 51, 46, 105, 109, 97, 112, 108, 105, 98]⟩ 2215) (.ref 84) 0), #[]⟩
noncomputable def T7 (P : Params) : BT := (.node (boot_o_0 P) (.node (boot_o_1 P) (.node (o3v7 P) (.node (boot_o_7 P) (.node (o15v0 P) (.node (o31v0 P) (.node (o63v0 P) .nil .nil) .nil) (.node (o47v0 P) (.node (o79v0 P) .nil .nil) .nil)) (.node (o23v0 P) (.node (o39v0 P) (.node (o71v0 P) .nil .nil) .nil) (.node (o55v0 P) .nil .nil))) (.node (o11v0 P) (.node (o19v0 P) (.node (o35v0 P) (.node (o67v0 P) .nil .nil) .nil) (.node (o51v0 P) (.node (o83v0 P) .nil .nil) .nil)) (.node (o27v0 P) (.node (o43v0 P) (.node (o75v0 P) .nil .nil) .nil) (.node (o59v0 P) .nil .nil)))) (.node (boot_o_5 P) (.node (boot_o_9 P) (.node (o17v0 P) (.node (o33v0 P) (.node (o65v0 P) .nil .nil) .nil) (.node (o49v0 P) (.node (o81v0 P) .nil .nil) .nil)) (.node (o25v0 P) (.node (o41v0 P) (.node (o73v0 P) .nil .nil) .nil) (.node (o57v0 P) .nil .nil))) (.node (o13v0 P) (.node (o21v0 P) (.node (o37v0 P) (.node (o69v0 P) .nil .nil) .nil) (.node (o53v0 P) (.node (o85v0 P) .nil .nil) .nil)) (.node (o29v0 P) (.node (o45v0 P) (.node (o77v0 P) .nil .nil) .nil) (.node (o61v0 P) .nil .nil))))) (.node (boot_o_2 P) (.node (boot_o_4 P) (.node (boot_o_8 P) (.node (o16v0 P) (.node (o32v0 P) (.node (o64v0 P) .nil .nil) .nil) (.node (o48v0 P) (.node (o80v0 P) .nil .nil) .nil)) (.node (o24v0 P) (.node (o40v0 P) (.node (o72v0 P) .nil .nil) .nil) (.node (o56v0 P) .nil .nil))) (.node (o12v3 P) (.node (o20v0 P) (.node (o36v0 P) (.node (o68v0 P) .nil .nil) .nil) (.node (o52v0 P) (.node (o84v0 P) .nil .nil) .nil)) (.node (o28v0 P) (.node (o44v0 P) (.node (o76v0 P) .nil .nil) .nil) (.node (o60v0 P) .nil .nil)))) (.node (boot_o_6 P) (.node (boot_o_10 P) (.node (o18v0 P) (.node (o34v0 P) (.node (o66v0 P) .nil .nil) .nil) (.node (o50v0 P) (.node (o82v0 P) .nil .nil) .nil)) (.node (o26v0 P) (.node (o42v0 P) (.node (o74v0 P) .nil .nil) .nil) (.node (o58v0 P) .nil .nil))) (.node (o14v0 P) (.node (o22v0 P) (.node (o38v0 P) (.node (o70v0 P) .nil .nil) .nil) (.node (o54v0 P) .nil .nil)) (.node (o30v0 P) (.node (o46v0 P) (.node (o78v0 P) .nil .nil) .nil) (.node (o62v0 P) .nil .nil))))))
theorem pt6 (w : World) (os : OsState) : segRunT treeTable pp w 11 (some (.ref 6)) 1 33 ⟨T6 w.params, 79, {}, #[], {}, 2217, os⟩ (piecesOf [st6] env (.body bd env) ⟨11, 0, 11, 8⟩ [topFrame ⟨0, 0, 0, 0⟩]) = some (.next, ⟨T7 w.params, 86, {}, #[], {}, 2227, os⟩, .body bd env, ⟨12, 0, 19, 14⟩) := by
  show segRunT treeTable pp _ 11 (some (.ref 6)) 1 33 _ ⟨(execs [st6] env).wrap doneF deadEnd id id, .body bd env, ⟨11, 0, 11, 8⟩, [topFrame ⟨0, 0, 0, 0⟩]⟩ = _
  rw [PySem.W.Fast.te10110043849684766642, PySem.W.Fast.te14364793385576792824, PySem.W.Fast.te12563942051412417395]
  kernel_rfl!
theorem pc6 (w : World) (os : OsState) : segRun treeTable pp w 11 (some (.ref 6)) 1 33 (SharedT.abs ⟨T6 w.params, 79, {}, #[], {}, 2217, os⟩) (piecesOf [st6] env (.body bd env) ⟨11, 0, 11, 8⟩ [topFrame ⟨0, 0, 0, 0⟩]) = some (.next, SharedT.abs ⟨T7 w.params, 86, {}, #[], {}, 2227, os⟩, .body bd env, ⟨12, 0, 19, 14⟩) := segRun_of (pt6 w os)
noncomputable def o3v8 (P : Params) : Obj := ⟨(.type "dict"), none, (.dict #[⟨PyData.keyHash P ⟨#[95, 95, 110, 97, 109, 101, 95, 95]⟩, (.str ⟨#[95, 95, 110, 97, 109, 101, 95, 95]⟩ 165), (.str ⟨#[99, 112, 121, 51, 49, 51, 46, 116, 114, 97, 99, 101, 98, 97, 99, 107]⟩ 2227)⟩, ⟨PyData.keyHash P ⟨#[95, 95, 100, 111, 99, 95, 95]⟩, (.str ⟨#[95, 95, 100, 111, 99, 95, 95]⟩ 166), (.none)⟩, ⟨PyData.keyHash P ⟨#[95, 95, 112, 97, 99, 107, 97, 103, 101, 95, 95]⟩, (.str ⟨#[95, 95, 112, 97, 99, 107, 97, 103, 101, 95, 95]⟩ 167), (.none)⟩, ⟨PyData.keyHash P ⟨#[95, 95, 108, 111, 97, 100, 101, 114, 95, 95]⟩, (.str ⟨#[95, 95, 108, 111, 97, 100, 101, 114, 95, 95]⟩ 168), (.builtin "__main__.__loader__#opaque")⟩, ⟨PyData.keyHash P ⟨#[95, 95, 115, 112, 101, 99, 95, 95]⟩, (.str ⟨#[95, 95, 115, 112, 101, 99, 95, 95]⟩ 169), (.none)⟩, ⟨PyData.keyHash P ⟨#[95, 95, 97, 110, 110, 111, 116, 97, 116, 105, 111, 110, 115, 95, 95]⟩, (.str ⟨#[95, 95, 97, 110, 110, 111, 116, 97, 116, 105, 111, 110, 115, 95, 95]⟩ 170), (.ref 6)⟩, ⟨PyData.keyHash P ⟨#[95, 95, 98, 117, 105, 108, 116, 105, 110, 115, 95, 95]⟩, (.str ⟨#[95, 95, 98, 117, 105, 108, 116, 105, 110, 115, 95, 95]⟩ 171), (.ref 4)⟩, ⟨PyData.keyHash P ⟨#[95, 95, 102, 105, 108, 101, 95, 95]⟩, (.str ⟨#[95, 95, 102, 105, 108, 101, 95, 95]⟩ 173), (.str ⟨#[47, 99, 108, 97, 105, 109, 47, 99, 117, 116, 46, 112, 121]⟩ 172)⟩, ⟨PyData.keyHash P ⟨#[95, 95, 99, 97, 99, 104, 101, 100, 95, 95]⟩, (.str ⟨#[95, 95, 99, 97, 99, 104, 101, 100, 95, 95]⟩ 174), (.none)⟩, ⟨PyData.keyHash P ⟨#[98, 49, 95, 115, 101, 116]⟩, (.str ⟨#[98, 49, 95, 115, 101, 116]⟩ 248), (.ref 22)⟩, ⟨PyData.keyHash P ⟨#[105, 110, 95, 116, 97, 98, 108, 101, 95, 98, 49]⟩, (.str ⟨#[105, 110, 95, 116, 97, 98, 108, 101, 95, 98, 49]⟩ 255), (.ref 32)⟩, ⟨PyData.keyHash P ⟨#[98, 51, 95, 101, 120, 99, 101, 112, 116, 105, 111, 110, 115]⟩, (.str ⟨#[98, 51, 95, 101, 120, 99, 101, 112, 116, 105, 111, 110, 115]⟩ 2206), (.ref 33)⟩, ⟨PyData.keyHash P ⟨#[109, 97, 112, 95, 116, 97, 98, 108, 101, 95, 98, 51]⟩, (.str ⟨#[109, 97, 112, 95, 116, 97, 98, 108, 101, 95, 98, 51]⟩ 2214), (.ref 78)⟩, ⟨PyData.keyHash P ⟨#[73, 110, 116, 50, 65, 80]⟩, (.str ⟨#[73, 110, 116, 50, 65, 80]⟩ 2226), (.ref 85)⟩] 14), #[]⟩
noncomputable def T8 (P : Params) : BT := (.node (boot_o_0 P) (.node (boot_o_1 P) (.node (o3v8 P) (.node (boot_o_7 P) (.node (o15v0 P) (.node (o31v0 P) (.node (o63v0 P) .nil .nil) .nil) (.node (o47v0 P) (.node (o79v0 P) .nil .nil) .nil)) (.node (o23v0 P) (.node (o39v0 P) (.node (o71v0 P) .nil .nil) .nil) (.node (o55v0 P) .nil .nil))) (.node (o11v0 P) (.node (o19v0 P) (.node (o35v0 P) (.node (o67v0 P) .nil .nil) .nil) (.node (o51v0 P) (.node (o83v0 P) .nil .nil) .nil)) (.node (o27v0 P) (.node (o43v0 P) (.node (o75v0 P) .nil .nil) .nil) (.node (o59v0 P) .nil .nil)))) (.node (boot_o_5 P) (.node (boot_o_9 P) (.node (o17v0 P) (.node (o33v0 P) (.node (o65v0 P) .nil .nil) .nil) (.node (o49v0 P) (.node (o81v0 P) .nil .nil) .nil)) (.node (o25v0 P) (.node (o41v0 P) (.node (o73v0 P) .nil .nil) .nil) (.node (o57v0 P) .nil .nil))) (.node (o13v0 P) (.node (o21v0 P) (.node (o37v0 P) (.node (o69v0 P) .nil .nil) .nil) (.node (o53v0 P) (.node (o85v0 P) .nil .nil) .nil)) (.node (o29v0 P) (.node (o45v0 P) (.node (o77v0 P) .nil .nil) .nil) (.node (o61v0 P) .nil .nil))))) (.node (boot_o_2 P) (.node (boot_o_4 P) (.node (boot_o_8 P) (.node (o16v0 P) (.node (o32v0 P) (.node (o64v0 P) .nil .nil) .nil) (.node (o48v0 P) (.node (o80v0 P) .nil .nil) .nil)) (.node (o24v0 P) (.node (o40v0 P) (.node (o72v0 P) .nil .nil) .nil) (.node (o56v0 P) .nil .nil))) (.node (o12v3 P) (.node (o20v0 P) (.node (o36v0 P) (.node (o68v0 P) .nil .nil) .nil) (.node (o52v0 P) (.node (o84v0 P) .nil .nil) .nil)) (.node (o28v0 P) (.node (o44v0 P) (.node (o76v0 P) .nil .nil) .nil) (.node (o60v0 P) .nil .nil)))) (.node (boot_o_6 P) (.node (boot_o_10 P) (.node (o18v0 P) (.node (o34v0 P) (.node (o66v0 P) .nil .nil) .nil) (.node (o50v0 P) (.node (o82v0 P) .nil .nil) .nil)) (.node (o26v0 P) (.node (o42v0 P) (.node (o74v0 P) .nil .nil) .nil) (.node (o58v0 P) .nil .nil))) (.node (o14v0 P) (.node (o22v0 P) (.node (o38v0 P) (.node (o70v0 P) .nil .nil) .nil) (.node (o54v0 P) .nil .nil)) (.node (o30v0 P) (.node (o46v0 P) (.node (o78v0 P) .nil .nil) .nil) (.node (o62v0 P) .nil .nil))))))
theorem pt7 (w : World) (os : OsState) : segRunT treeTable pp w 11 (some (.ref 6)) 1 10 ⟨T7 w.params, 86, {}, #[], {}, 2227, os⟩ (piecesOf [st7] env (.body bd env) ⟨12, 0, 19, 14⟩ [topFrame ⟨0, 0, 0, 0⟩]) = some (.next, ⟨T8 w.params, 86, {}, #[], {}, 2229, os⟩, .body bd env, ⟨20, 0, 20, 8⟩) := by
  show segRunT treeTable pp _ 11 (some (.ref 6)) 1 10 _ ⟨(execs [st7] env).wrap doneF deadEnd id id, .body bd env, ⟨12, 0, 19, 14⟩, [topFrame ⟨0, 0, 0, 0⟩]⟩ = _
  rw [PySem.W.Fast.te10110043849684766642, PySem.W.Fast.te14364793385576792824, PySem.W.Fast.te12563942051412417395]
  kernel_rfl!
theorem pc7 (w : World) (os : OsState) : segRun treeTable pp w 11 (some (.ref 6)) 1 10 (SharedT.abs ⟨T7 w.params, 86, {}, #[], {}, 2227, os⟩) (piecesOf [st7] env (.body bd env) ⟨12, 0, 19, 14⟩ [topFrame ⟨0, 0, 0, 0⟩]) = some (.next, SharedT.abs ⟨T8 w.params, 86, {}, #[], {}, 2229, os⟩, .body bd env, ⟨20, 0, 20, 8⟩) := segRun_of (pt7 w os)
noncomputable def o3v9 (P : Params) : Obj := ⟨(.type "dict"), none, (.dict #[⟨PyData.keyHash P ⟨#[95, 95, 110, 97, 109, 101, 95, 95]⟩, (.str ⟨#[95, 95, 110, 97, 109, 101, 95, 95]⟩ 165), (.str ⟨#[99, 112, 121, 51, 49, 51, 46, 116, 114, 97, 99, 101, 98, 97, 99, 107]⟩ 2227)⟩, ⟨PyData.keyHash P ⟨#[95, 95, 100, 111, 99, 95, 95]⟩, (.str ⟨#[95, 95, 100, 111, 99, 95, 95]⟩ 166), (.none)⟩, ⟨PyData.keyHash P ⟨#[95, 95, 112, 97, 99, 107, 97, 103, 101, 95, 95]⟩, (.str ⟨#[95, 95, 112, 97, 99, 107, 97, 103, 101, 95, 95]⟩ 167), (.none)⟩, ⟨PyData.keyHash P ⟨#[95, 95, 108, 111, 97, 100, 101, 114, 95, 95]⟩, (.str ⟨#[95, 95, 108, 111, 97, 100, 101, 114, 95, 95]⟩ 168), (.builtin "__main__.__loader__#opaque")⟩, ⟨PyData.keyHash P ⟨#[95, 95, 115, 112, 101, 99, 95, 95]⟩, (.str ⟨#[95, 95, 115, 112, 101, 99, 95, 95]⟩ 169), (.none)⟩, ⟨PyData.keyHash P ⟨#[95, 95, 97, 110, 110, 111, 116, 97, 116, 105, 111, 110, 115, 95, 95]⟩, (.str ⟨#[95, 95, 97, 110, 110, 111, 116, 97, 116, 105, 111, 110, 115, 95, 95]⟩ 170), (.ref 6)⟩, ⟨PyData.keyHash P ⟨#[95, 95, 98, 117, 105, 108, 116, 105, 110, 115, 95, 95]⟩, (.str ⟨#[95, 95, 98, 117, 105, 108, 116, 105, 110, 115, 95, 95]⟩ 171), (.ref 4)⟩, ⟨PyData.keyHash P ⟨#[95, 95, 102, 105, 108, 101, 95, 95]⟩, (.str ⟨#[95, 95, 102, 105, 108, 101, 95, 95]⟩ 173), (.str ⟨#[47, 99, 108, 97, 105, 109, 47, 99, 117, 116, 46, 112, 121]⟩ 172)⟩, ⟨PyData.keyHash P ⟨#[95, 95, 99, 97, 99, 104, 101, 100, 95, 95]⟩, (.str ⟨#[95, 95, 99, 97, 99, 104, 101, 100, 95, 95]⟩ 174), (.none)⟩, ⟨PyData.keyHash P ⟨#[98, 49, 95, 115, 101, 116]⟩, (.str ⟨#[98, 49, 95, 115, 101, 116]⟩ 248), (.ref 22)⟩, ⟨PyData.keyHash P ⟨#[105, 110, 95, 116, 97, 98, 108, 101, 95, 98, 49]⟩, (.str ⟨#[105, 110, 95, 116, 97, 98, 108, 101, 95, 98, 49]⟩ 255), (.ref 32)⟩, ⟨PyData.keyHash P ⟨#[98, 51, 95, 101, 120, 99, 101, 112, 116, 105, 111, 110, 115]⟩, (.str ⟨#[98, 51, 95, 101, 120, 99, 101, 112, 116, 105, 111, 110, 115]⟩ 2206), (.ref 33)⟩, ⟨PyData.keyHash P ⟨#[109, 97, 112, 95, 116, 97, 98, 108, 101, 95, 98, 51]⟩, (.str ⟨#[109, 97, 112, 95, 116, 97, 98, 108, 101, 95, 98, 51]⟩ 2214), (.ref 78)⟩, ⟨PyData.keyHash P ⟨#[73, 110, 116, 50, 65, 80]⟩, (.str ⟨#[73, 110, 116, 50, 65, 80]⟩ 2226), (.ref 85)⟩, ⟨PyData.keyHash P ⟨#[95, 77, 65, 88, 95, 83, 84, 82, 73, 78, 71, 95, 83, 73, 90, 69]⟩, (.str ⟨#[95, 77, 65, 88, 95, 83, 84, 82, 73, 78, 71, 95, 83, 73, 90, 69]⟩ 2230), (.int 40 2229)⟩] 15), #[]⟩
noncomputable def T9 (P : Params) : BT := (.node (boot_o_0 P) (.node (boot_o_1 P) (.node (o3v9 P) (.node (boot_o_7 P) (.node (o15v0 P) (.node (o31v0 P) (.node (o63v0 P) .nil .nil) .nil) (.node (o47v0 P) (.node (o79v0 P) .nil .nil) .nil)) (.node (o23v0 P) (.node (o39v0 P) (.node (o71v0 P) .nil .nil) .nil) (.node (o55v0 P) .nil .nil))) (.node (o11v0 P) (.node (o19v0 P) (.node (o35v0 P) (.node (o67v0 P) .nil .nil) .nil) (.node (o51v0 P) (.node (o83v0 P) .nil .nil) .nil)) (.node (o27v0 P) (.node (o43v0 P) (.node (o75v0 P) .nil .nil) .nil) (.node (o59v0 P) .nil .nil)))) (.node (boot_o_5 P) (.node (boot_o_9 P) (.node (o17v0 P) (.node (o33v0 P) (.node (o65v0 P) .nil .nil) .nil) (.node (o49v0 P) (.node (o81v0 P) .nil .nil) .nil)) (.node (o25v0 P) (.node (o41v0 P) (.node (o73v0 P) .nil .nil) .nil) (.node (o57v0 P) .nil .nil))) (.node (o13v0 P) (.node (o21v0 P) (.node (o37v0 P) (.node (o69v0 P) .nil .nil) .nil) (.node (o53v0 P) (.node (o85v0 P) .nil .nil) .nil)) (.node (o29v0 P) (.node (o45v0 P) (.node (o77v0 P) .nil .nil) .nil) (.node (o61v0 P) .nil .nil))))) (.node (boot_o_2 P) (.node (boot_o_4 P) (.node (boot_o_8 P) (.node (o16v0 P) (.node (o32v0 P) (.node (o64v0 P) .nil .nil) .nil) (.node (o48v0 P) (.node (o80v0 P) .nil .nil) .nil)) (.node (o24v0 P) (.node (o40v0 P) (.node (o72v0 P) .nil .nil) .nil) (.node (o56v0 P) .nil .nil))) (.node (o12v3 P) (.node (o20v0 P) (.node (o36v0 P) (.node (o68v0 P) .nil .nil) .nil) (.node (o52v0 P) (.node (o84v0 P) .nil .nil) .nil)) (.node (o28v0 P) (.node (o44v0 P) (.node (o76v0 P) .nil .nil) .nil) (.node (o60v0 P) .nil .nil)))) (.node (boot_o_6 P) (.node (boot_o_10 P) (.node (o18v0 P) (.node (o34v0 P) (.node (o66v0 P) .nil .nil) .nil) (.node (o50v0 P) (.node (o82v0 P) .nil .nil) .nil)) (.node (o26v0 P) (.node (o42v0 P) (.node (o74v0 P) .nil .nil) .nil) (.node (o58v0 P) .nil .nil))) (.node (o14v0 P) (.node (o22v0 P) (.node (o38v0 P) (.node (o70v0 P) .nil .nil) .nil) (.node (o54v0 P) .nil .nil)) (.node (o30v0 P) (.node (o46v0 P) (.node (o78v0 P) .nil .nil) .nil) (.node (o62v0 P) .nil .nil))))))
theorem pt8 (w : World) (os : OsState) : segRunT treeTable pp w 11 (some (.ref 6)) 1 10 ⟨T8 w.params, 86, {}, #[], {}, 2229, os⟩ (piecesOf [st8] env (.body bd env) ⟨20, 0, 20, 8⟩ [topFrame ⟨0, 0, 0, 0⟩]) = some (.next, ⟨T9 w.params, 86, {}, #[], {}, 2231, os⟩, .body bd env, ⟨21, 0, 21, 16⟩) := by
  show segRunT treeTable pp _ 11 (some (.ref 6)) 1 10 _ ⟨(execs [st8] env).wrap doneF deadEnd id id, .body bd env, ⟨20, 0, 20, 8⟩, [topFrame ⟨0, 0, 0, 0⟩]⟩ = _
  rw [PySem.W.Fast.te10110043849684766642, PySem.W.Fast.te14364793385576792824, PySem.W.Fast.te12563942051412417395]
  kernel_rfl!
theorem pc8 (w : World) (os : OsState) : segRun treeTable pp w 11 (some (.ref 6)) 1 10 (SharedT.abs ⟨T8 w.params, 86, {}, #[], {}, 2229, os⟩) (piecesOf [st8] env (.body bd env) ⟨20, 0, 20, 8⟩ [topFrame ⟨0, 0, 0, 0⟩]) = some (.next, SharedT.abs ⟨T9 w.params, 86, {}, #[], {}, 2231, os⟩, .body bd env, ⟨21, 0, 21, 16⟩) := segRun_of (pt8 w os)
noncomputable def o3v10 (P : Params) : Obj := ⟨(.type "dict"), none, (.dict #[⟨PyData.keyHash P ⟨#[95, 95, 110, 97, 109, 101, 95, 95]⟩, (.str ⟨#[95, 95, 110, 97, 109, 101, 95, 95]⟩ 165), (.str ⟨#[99, 112, 121, 51, 49, 51, 46, 116, 114, 97, 99, 101, 98, 97, 99, 107]⟩ 2227)⟩, ⟨PyData.keyHash P ⟨#[95, 95, 100, 111, 99, 95, 95]⟩, (.str ⟨#[95, 95, 100, 111, 99, 95, 95]⟩ 166), (.none)⟩, ⟨PyData.keyHash P ⟨#[95, 95, 112, 97, 99, 107, 97, 103, 101, 95, 95]⟩, (.str ⟨#[95, 95, 112, 97, 99, 107, 97, 103, 101, 95, 95]⟩ 167), (.none)⟩, ⟨PyData.keyHash P ⟨#[95, 95, 108, 111, 97, 100, 101, 114, 95, 95]⟩, (.str ⟨#[95, 95, 108, 111, 97, 100, 101, 114, 95, 95]⟩ 168), (.builtin "__main__.__loader__#opaque")⟩, ⟨PyData.keyHash P ⟨#[95, 95, 115, 112, 101, 99, 95, 95]⟩, (.str ⟨#[95, 95, 115, 112, 101, 99, 95, 95]⟩ 169), (.none)⟩, ⟨PyData.keyHash P ⟨#[95, 95, 97, 110, 110, 111, 116, 97, 116, 105, 111, 110, 115, 95, 95]⟩, (.str ⟨#[95, 95, 97, 110, 110, 111, 116, 97, 116, 105, 111, 110, 115, 95, 95]⟩ 170), (.ref 6)⟩, ⟨PyData.keyHash P ⟨#[95, 95, 98, 117, 105, 108, 116, 105, 110, 115, 95, 95]⟩, (.str ⟨#[95, 95, 98, 117, 105, 108, 116, 105, 110, 115, 95, 95]⟩ 171), (.ref 4)⟩, ⟨PyData.keyHash P ⟨#[95, 95, 102, 105, 108, 101, 95, 95]⟩, (.str ⟨#[95, 95, 102, 105, 108, 101, 95, 95]⟩ 173), (.str ⟨#[47, 99, 108, 97, 105, 109, 47, 99, 117, 116, 46, 112, 121]⟩ 172)⟩, ⟨PyData.keyHash P ⟨#[95, 95, 99, 97, 99, 104, 101, 100, 95, 95]⟩, (.str ⟨#[95, 95, 99, 97, 99, 104, 101, 100, 95, 95]⟩ 174), (.none)⟩, ⟨PyData.keyHash P ⟨#[98, 49, 95, 115, 101, 116]⟩, (.str ⟨#[98, 49, 95, 115, 101, 116]⟩ 248), (.ref 22)⟩, ⟨PyData.keyHash P ⟨#[105, 110, 95, 116, 97, 98, 108, 101, 95, 98, 49]⟩, (.str ⟨#[105, 110, 95, 116, 97, 98, 108, 101, 95, 98, 49]⟩ 255), (.ref 32)⟩, ⟨PyData.keyHash P ⟨#[98, 51, 95, 101, 120, 99, 101, 112, 116, 105, 111, 110, 115]⟩, (.str ⟨#[98, 51, 95, 101, 120, 99, 101, 112, 116, 105, 111, 110, 115]⟩ 2206), (.ref 33)⟩, ⟨PyData.keyHash P ⟨#[109, 97, 112, 95, 116, 97, 98, 108, 101, 95, 98, 51]⟩, (.str ⟨#[109, 97, 112, 95, 116, 97, 98, 108, 101, 95, 98, 51]⟩ 2214), (.ref 78)⟩, ⟨PyData.keyHash P ⟨#[73, 110, 116, 50, 65, 80]⟩, (.str ⟨#[73, 110, 116, 50, 65, 80]⟩ 2226), (.ref 85)⟩, ⟨PyData.keyHash P ⟨#[95, 77, 65, 88, 95, 83, 84, 82, 73, 78, 71, 95, 83, 73, 90, 69]⟩, (.str ⟨#[95, 77, 65, 88, 95, 83, 84, 82, 73, 78, 71, 95, 83, 73, 90, 69]⟩ 2230), (.int 40 2229)⟩, ⟨PyData.keyHash P ⟨#[95, 77, 79, 86, 69, 95, 67, 79, 83, 84]⟩, (.str ⟨#[95, 77, 79, 86, 69, 95, 67, 79, 83, 84]⟩ 2232), (.int 2 2231)⟩] 16), #[]⟩
noncomputable def T10 (P : Params) : BT := (.node (boot_o_0 P) (.node (boot_o_1 P) (.node (o3v10 P) (.node (boot_o_7 P) (.node (o15v0 P) (.node (o31v0 P) (.node (o63v0 P) .nil .nil) .nil) (.node (o47v0 P) (.node (o79v0 P) .nil .nil) .nil)) (.node (o23v0 P) (.node (o39v0 P) (.node (o71v0 P) .nil .nil) .nil) (.node (o55v0 P) .nil .nil))) (.node (o11v0 P) (.node (o19v0 P) (.node (o35v0 P) (.node (o67v0 P) .nil .nil) .nil) (.node (o51v0 P) (.node (o83v0 P) .nil .nil) .nil)) (.node (o27v0 P) (.node (o43v0 P) (.node (o75v0 P) .nil .nil) .nil) (.node (o59v0 P) .nil .nil)))) (.node (boot_o_5 P) (.node (boot_o_9 P) (.node (o17v0 P) (.node (o33v0 P) (.node (o65v0 P) .nil .nil) .nil) (.node (o49v0 P) (.node (o81v0 P) .nil .nil) .nil)) (.node (o25v0 P) (.node (o41v0 P) (.node (o73v0 P) .nil .nil) .nil) (.node (o57v0 P) .nil .nil))) (.node (o13v0 P) (.node (o21v0 P) (.node (o37v0 P) (.node (o69v0 P) .nil .nil) .nil) (.node (o53v0 P) (.node (o85v0 P) .nil .nil) .nil)) (.node (o29v0 P) (.node (o45v0 P) (.node (o77v0 P) .nil .nil) .nil) (.node (o61v0 P) .nil .nil))))) (.node (boot_o_2 P) (.node (boot_o_4 P) (.node (boot_o_8 P) (.node (o16v0 P) (.node (o32v0 P) (.node (o64v0 P) .nil .nil) .nil) (.node (o48v0 P) (.node (o80v0 P) .nil .nil) .nil)) (.node (o24v0 P) (.node (o40v0 P) (.node (o72v0 P) .nil .nil) .nil) (.node (o56v0 P) .nil .nil))) (.node (o12v3 P) (.node (o20v0 P) (.node (o36v0 P) (.node (o68v0 P) .nil .nil) .nil) (.node (o52v0 P) (.node (o84v0 P) .nil .nil) .nil)) (.node (o28v0 P) (.node (o44v0 P) (.node (o76v0 P) .nil .nil) .nil) (.node (o60v0 P) .nil .nil)))) (.node (boot_o_6 P) (.node (boot_o_10 P) (.node (o18v0 P) (.node (o34v0 P) (.node (o66v0 P) .nil .nil) .nil) (.node (o50v0 P) (.node (o82v0 P) .nil .nil) .nil)) (.node (o26v0 P) (.node (o42v0 P) (.node (o74v0 P) .nil .nil) .nil) (.node (o58v0 P) .nil .nil))) (.node (o14v0 P) (.node (o22v0 P) (.node (o38v0 P) (.node (o70v0 P) .nil .nil) .nil) (.node (o54v0 P) .nil .nil)) (.node (o30v0 P) (.node (o46v0 P) (.node (o78v0 P) .nil .nil) .nil) (.node (o62v0 P) .nil .nil))))))
theorem pt9 (w : World) (os : OsState) : segRunT treeTable pp w 11 (some (.ref 6)) 1 10 ⟨T9 w.params, 86, {}, #[], {}, 2231, os⟩ (piecesOf [st9] env (.body bd env) ⟨21, 0, 21, 16⟩ [topFrame ⟨0, 0, 0, 0⟩]) = some (.next, ⟨T10 w.params, 86, {}, #[], {}, 2233, os⟩, .body bd env, ⟨22, 0, 22, 10⟩) := by
  show segRunT treeTable pp _ 11 (some (.ref 6)) 1 10 _ ⟨(execs [st9] env).wrap doneF deadEnd id id, .body bd env, ⟨21, 0, 21, 16⟩, [topFrame ⟨0, 0, 0, 0⟩]⟩ = _
  rw [PySem.W.Fast.te10110043849684766642, PySem.W.Fast.te14364793385576792824, PySem.W.Fast.te12563942051412417395]
  kernel_rfl!
theorem pc9 (w : World) (os : OsState) : segRun treeTable pp w 11 (some (.ref 6)) 1 10 (SharedT.abs ⟨T9 w.params, 86, {}, #[], {}, 2231, os⟩) (piecesOf [st9] env (.body bd env) ⟨21, 0, 21, 16⟩ [topFrame ⟨0, 0, 0, 0⟩]) = some (.next, SharedT.abs ⟨T10 w.params, 86, {}, #[], {}, 2233, os⟩, .body bd env, ⟨22, 0, 22, 10⟩) := segRun_of (pt9 w os)
noncomputable def o3v11 (P : Params) : Obj := ⟨(.type "dict"), none, (.dict #[⟨PyData.keyHash P ⟨#[95, 95, 110, 97, 109, 101, 95, 95]⟩, (.str ⟨#[95, 95, 110, 97, 109, 101, 95, 95]⟩ 165), (.str ⟨#[99, 112, 121, 51, 49, 51, 46, 116, 114, 97, 99, 101, 98, 97, 99, 107]⟩ 2227)⟩, ⟨PyData.keyHash P ⟨#[95, 95, 100, 111, 99, 95, 95]⟩, (.str ⟨#[95, 95, 100, 111, 99, 95, 95]⟩ 166), (.none)⟩, ⟨PyData.keyHash P ⟨#[95, 95, 112, 97, 99, 107, 97, 103, 101, 95, 95]⟩, (.str ⟨#[95, 95, 112, 97, 99, 107, 97, 103, 101, 95, 95]⟩ 167), (.none)⟩, ⟨PyData.keyHash P ⟨#[95, 95, 108, 111, 97, 100, 101, 114, 95, 95]⟩, (.str ⟨#[95, 95, 108, 111, 97, 100, 101, 114, 95, 95]⟩ 168), (.builtin "__main__.__loader__#opaque")⟩, ⟨PyData.keyHash P ⟨#[95, 95, 115, 112, 101, 99, 95, 95]⟩, (.str ⟨#[95, 95, 115, 112, 101, 99, 95, 95]⟩ 169), (.none)⟩, ⟨PyData.keyHash P ⟨#[95, 95, 97, 110, 110, 111, 116, 97, 116, 105, 111, 110, 115, 95, 95]⟩, (.str ⟨#[95, 95, 97, 110, 110, 111, 116, 97, 116, 105, 111, 110, 115, 95, 95]⟩ 170), (.ref 6)⟩, ⟨PyData.keyHash P ⟨#[95, 95, 98, 117, 105, 108, 116, 105, 110, 115, 95, 95]⟩, (.str ⟨#[95, 95, 98, 117, 105, 108, 116, 105, 110, 115, 95, 95]⟩ 171), (.ref 4)⟩, ⟨PyData.keyHash P ⟨#[95, 95, 102, 105, 108, 101, 95, 95]⟩, (.str ⟨#[95, 95, 102, 105, 108, 101, 95, 95]⟩ 173), (.str ⟨#[47, 99, 108, 97, 105, 109, 47, 99, 117, 116, 46, 112, 121]⟩ 172)⟩, ⟨PyData.keyHash P ⟨#[95, 95, 99, 97, 99, 104, 101, 100, 95, 95]⟩, (.str ⟨#[95, 95, 99, 97, 99, 104, 101, 100, 95, 95]⟩ 174), (.none)⟩, ⟨PyData.keyHash P ⟨#[98, 49, 95, 115, 101, 116]⟩, (.str ⟨#[98, 49, 95, 115, 101, 116]⟩ 248), (.ref 22)⟩, ⟨PyData.keyHash P ⟨#[105, 110, 95, 116, 97, 98, 108, 101, 95, 98, 49]⟩, (.str ⟨#[105, 110, 95, 116, 97, 98, 108, 101, 95, 98, 49]⟩ 255), (.ref 32)⟩, ⟨PyData.keyHash P ⟨#[98, 51, 95, 101, 120, 99, 101, 112, 116, 105, 111, 110, 115]⟩, (.str ⟨#[98, 51, 95, 101, 120, 99, 101, 112, 116, 105, 111, 110, 115]⟩ 2206), (.ref 33)⟩, ⟨PyData.keyHash P ⟨#[109, 97, 112, 95, 116, 97, 98, 108, 101, 95, 98, 51]⟩, (.str ⟨#[109, 97, 112, 95, 116, 97, 98, 108, 101, 95, 98, 51]⟩ 2214), (.ref 78)⟩, ⟨PyData.keyHash P ⟨#[73, 110, 116, 50, 65, 80]⟩, (.str ⟨#[73, 110, 116, 50, 65, 80]⟩ 2226), (.ref 85)⟩, ⟨PyData.keyHash P ⟨#[95, 77, 65, 88, 95, 83, 84, 82, 73, 78, 71, 95, 83, 73, 90, 69]⟩, (.str ⟨#[95, 77, 65, 88, 95, 83, 84, 82, 73, 78, 71, 95, 83, 73, 90, 69]⟩ 2230), (.int 40 2229)⟩, ⟨PyData.keyHash P ⟨#[95, 77, 79, 86, 69, 95, 67, 79, 83, 84]⟩, (.str ⟨#[95, 77, 79, 86, 69, 95, 67, 79, 83, 84]⟩ 2232), (.int 2 2231)⟩, ⟨PyData.keyHash P ⟨#[95, 67, 65, 83, 69, 95, 67, 79, 83, 84]⟩, (.str ⟨#[95, 67, 65, 83, 69, 95, 67, 79, 83, 84]⟩ 2234), (.int 1 2233)⟩] 17), #[]⟩
noncomputable def T11 (P : Params) : BT := (.node (boot_o_0 P) (.node (boot_o_1 P) (.node (o3v11 P) (.node (boot_o_7 P) (.node (o15v0 P) (.node (o31v0 P) (.node (o63v0 P) .nil .nil) .nil) (.node (o47v0 P) (.node (o79v0 P) .nil .nil) .nil)) (.node (o23v0 P) (.node (o39v0 P) (.node (o71v0 P) .nil .nil) .nil) (.node (o55v0 P) .nil .nil))) (.node (o11v0 P) (.node (o19v0 P) (.node (o35v0 P) (.node (o67v0 P) .nil .nil) .nil) (.node (o51v0 P) (.node (o83v0 P) .nil .nil) .nil)) (.node (o27v0 P) (.node (o43v0 P) (.node (o75v0 P) .nil .nil) .nil) (.node (o59v0 P) .nil .nil)))) (.node (boot_o_5 P) (.node (boot_o_9 P) (.node (o17v0 P) (.node (o33v0 P) (.node (o65v0 P) .nil .nil) .nil) (.node (o49v0 P) (.node (o81v0 P) .nil .nil) .nil)) (.node (o25v0 P) (.node (o41v0 P) (.node (o73v0 P) .nil .nil) .nil) (.node (o57v0 P) .nil .nil))) (.node (o13v0 P) (.node (o21v0 P) (.node (o37v0 P) (.node (o69v0 P) .nil .nil) .nil) (.node (o53v0 P) (.node (o85v0 P) .nil .nil) .nil)) (.node (o29v0 P) (.node (o45v0 P) (.node (o77v0 P) .nil .nil) .nil) (.node (o61v0 P) .nil .nil))))) (.node (boot_o_2 P) (.node (boot_o_4 P) (.node (boot_o_8 P) (.node (o16v0 P) (.node (o32v0 P) (.node (o64v0 P) .nil .nil) .nil) (.node (o48v0 P) (.node (o80v0 P) .nil .nil) .nil)) (.node (o24v0 P) (.node (o40v0 P) (.node (o72v0 P) .nil .nil) .nil) (.node (o56v0 P) .nil .nil))) (.node (o12v3 P) (.node (o20v0 P) (.node (o36v0 P) (.node (o68v0 P) .nil .nil) .nil) (.node (o52v0 P) (.node (o84v0 P) .nil .nil) .nil)) (.node (o28v0 P) (.node (o44v0 P) (.node (o76v0 P) .nil .nil) .nil) (.node (o60v0 P) .nil .nil)))) (.node (boot_o_6 P) (.node (boot_o_10 P) (.node (o18v0 P) (.node (o34v0 P) (.node (o66v0 P) .nil .nil) .nil) (.node (o50v0 P) (.node (o82v0 P) .nil .nil) .nil)) (.node (o26v0 P) (.node (o42v0 P) (.node (o74v0 P) .nil .nil) .nil) (.node (o58v0 P) .nil .nil))) (.node (o14v0 P) (.node (o22v0 P) (.node (o38v0 P) (.node (o70v0 P) .nil .nil) .nil) (.node (o54v0 P) .nil .nil)) (.node (o30v0 P) (.node (o46v0 P) (.node (o78v0 P) .nil .nil) .nil) (.node (o62v0 P) .nil .nil))))))
theorem pt10 (w : World) (os : OsState) : segRunT treeTable pp w 11 (some (.ref 6)) 1 10 ⟨T10 w.params, 86, {}, #[], {}, 2233, os⟩ (piecesOf [st10] env (.body bd env) ⟨22, 0, 22, 10⟩ [topFrame ⟨0, 0, 0, 0⟩]) = some (.next, ⟨T11 w.params, 86, {}, #[], {}, 2235, os⟩, .body bd env, ⟨23, 0, 23, 10⟩) := by
  show segRunT treeTable pp _ 11 (some (.ref 6)) 1 10 _ ⟨(execs [st10] env).wrap doneF deadEnd id id, .body bd env, ⟨22, 0, 22, 10⟩, [topFrame ⟨0, 0, 0, 0⟩]⟩ = _
  rw [PySem.W.Fast.te10110043849684766642, PySem.W.Fast.te14364793385576792824, PySem.W.Fast.te12563942051412417395]
  kernel_rfl!
theorem pc10 (w : World) (os : OsState) : segRun treeTable pp w 11 (some (.ref 6)) 1 10 (SharedT.abs ⟨T10 w.params, 86, {}, #[], {}, 2233, os⟩) (piecesOf [st10] env (.body bd env) ⟨22, 0, 22, 10⟩ [topFrame ⟨0, 0, 0, 0⟩]) = some (.next, SharedT.abs ⟨T11 w.params, 86, {}, #[], {}, 2235, os⟩, .body bd env, ⟨23, 0, 23, 10⟩) := segRun_of (pt10 w os)
noncomputable def o3v12 (P : Params) : Obj := ⟨(.type "dict"), none, (.dict #[⟨PyData.keyHash P ⟨#[95, 95, 110, 97, 109, 101, 95, 95]⟩, (.str ⟨#[95, 95, 110, 97, 109, 101, 95, 95]⟩ 165), (.str ⟨#[99, 112, 121, 51, 49, 51, 46, 116, 114, 97, 99, 101, 98, 97, 99, 107]⟩ 2227)⟩, ⟨PyData.keyHash P ⟨#[95, 95, 100, 111, 99, 95, 95]⟩, (.str ⟨#[95, 95, 100, 111, 99, 95, 95]⟩ 166), (.none)⟩, ⟨PyData.keyHash P ⟨#[95, 95, 112, 97, 99, 107, 97, 103, 101, 95, 95]⟩, (.str ⟨#[95, 95, 112, 97, 99, 107, 97, 103, 101, 95, 95]⟩ 167), (.none)⟩, ⟨PyData.keyHash P ⟨#[95, 95, 108, 111, 97, 100, 101, 114, 95, 95]⟩, (.str ⟨#[95, 95, 108, 111, 97, 100, 101, 114, 95, 95]⟩ 168), (.builtin "__main__.__loader__#opaque")⟩, ⟨PyData.keyHash P ⟨#[95, 95, 115, 112, 101, 99, 95, 95]⟩, (.str ⟨#[95, 95, 115, 112, 101, 99, 95, 95]⟩ 169), (.none)⟩, ⟨PyData.keyHash P ⟨#[95, 95, 97, 110, 110, 111, 116, 97, 116, 105, 111, 110, 115, 95, 95]⟩, (.str ⟨#[95, 95, 97, 110, 110, 111, 116, 97, 116, 105, 111, 110, 115, 95, 95]⟩ 170), (.ref 6)⟩, ⟨PyData.keyHash P ⟨#[95, 95, 98, 117, 105, 108, 116, 105, 110, 115, 95, 95]⟩, (.str ⟨#[95, 95, 98, 117, 105, 108, 116, 105, 110, 115, 95, 95]⟩ 171), (.ref 4)⟩, ⟨PyData.keyHash P ⟨#[95, 95, 102, 105, 108, 101, 95, 95]⟩, (.str ⟨#[95, 95, 102, 105, 108, 101, 95, 95]⟩ 173), (.str ⟨#[47, 99, 108, 97, 105, 109, 47, 99, 117, 116, 46, 112, 121]⟩ 172)⟩, ⟨PyData.keyHash P ⟨#[95, 95, 99, 97, 99, 104, 101, 100, 95, 95]⟩, (.str ⟨#[95, 95, 99, 97, 99, 104, 101, 100, 95, 95]⟩ 174), (.none)⟩, ⟨PyData.keyHash P ⟨#[98, 49, 95, 115, 101, 116]⟩, (.str ⟨#[98, 49, 95, 115, 101, 116]⟩ 248), (.ref 22)⟩, ⟨PyData.keyHash P ⟨#[105, 110, 95, 116, 97, 98, 108, 101, 95, 98, 49]⟩, (.str ⟨#[105, 110, 95, 116, 97, 98, 108, 101, 95, 98, 49]⟩ 255), (.ref 32)⟩, ⟨PyData.keyHash P ⟨#[98, 51, 95, 101, 120, 99, 101, 112, 116, 105, 111, 110, 115]⟩, (.str ⟨#[98, 51, 95, 101, 120, 99, 101, 112, 116, 105, 111, 110, 115]⟩ 2206), (.ref 33)⟩, ⟨PyData.keyHash P ⟨#[109, 97, 112, 95, 116, 97, 98, 108, 101, 95, 98, 51]⟩, (.str ⟨#[109, 97, 112, 95, 116, 97, 98, 108, 101, 95, 98, 51]⟩ 2214), (.ref 78)⟩, ⟨PyData.keyHash P ⟨#[73, 110, 116, 50, 65, 80]⟩, (.str ⟨#[73, 110, 116, 50, 65, 80]⟩ 2226), (.ref 85)⟩, ⟨PyData.keyHash P ⟨#[95, 77, 65, 88, 95, 83, 84, 82, 73, 78, 71, 95, 83, 73, 90, 69]⟩, (.str ⟨#[95, 77, 65, 88, 95, 83, 84, 82, 73, 78, 71, 95, 83, 73, 90, 69]⟩ 2230), (.int 40 2229)⟩, ⟨PyData.keyHash P ⟨#[95, 77, 79, 86, 69, 95, 67, 79, 83, 84]⟩, (.str ⟨#[95, 77, 79, 86, 69, 95, 67, 79, 83, 84]⟩ 2232), (.int 2 2231)⟩, ⟨PyData.keyHash P ⟨#[95, 67, 65, 83, 69, 95, 67, 79, 83, 84]⟩, (.str ⟨#[95, 67, 65, 83, 69, 95, 67, 79, 83, 84]⟩ 2234), (.int 1 2233)⟩, ⟨PyData.keyHash P ⟨#[95, 115, 117, 98, 115, 116, 105, 116, 117, 116, 105, 111, 110, 95, 99, 111, 115, 116]⟩, (.str ⟨#[95, 115, 117, 98, 115, 116, 105, 116, 117, 116, 105, 111, 110, 95, 99, 111, 115, 116]⟩ 2242), (.ref 92)⟩] 18), #[]⟩
noncomputable def o12v4 (P : Params) : Obj := ⟨(.none), none, (.fields #[(.int 3 0), (.int 0 0), (.ref 31), (.int 6 0), (.int 0 0), (.ref 77), (.int 12 0), (.int 0 0), (.ref 84), (.int 24 0), (.int 0 0), (.ref 91)]), #[]⟩
noncomputable def o86v0 (P : Params) : Obj := ⟨(.type "tuple"), none, (.seq #[] 0), #[]⟩
noncomputable def o87v0 (P : Params) : Obj := ⟨(.none), none, (.fields #[]), #[]⟩
noncomputable def o88v0 (P : Params) : Obj := ⟨(.type "tuple"), none, (.seq #[(.str ⟨#[99, 104, 95, 97]⟩ 2238), (.str ⟨#[99, 104, 95, 98]⟩ 2239)] 0), #[]⟩
noncomputable def o89v0 (P : Params) : Obj := ⟨(.type "tuple"), none, (.seq #[] 0), #[]⟩
noncomputable def o90v0 (P : Params) : Obj := ⟨(.none), none, .func (fd st11 0 (.none) (.none) 0), #[]⟩
noncomputable def o91v0 (P : Params) : Obj := ⟨(.type "code"), none, (.fields #[(.str ⟨#[95, 115, 117, 98, 115, 116, 105, 116, 117, 116, 105, 111, 110, 95, 99, 111, 115, 116]⟩ 2235), (.str ⟨#[95, 115, 117, 98, 115, 116, 105, 116, 117, 116, 105, 111, 110, 95, 99, 111, 115, 116]⟩ 2236), (.str ⟨#[47, 99, 108, 97, 105, 109, 47, 99, 117, 116, 46, 112, 121]⟩ 2237), (.int 24 0), (.int 2 0), (.int 0 0), (.int 0 0), (.int 3 0), (.ref 86), (.bool true), (.int 181 0), (.ref 87), (.none), (.ref 88), (.ref 89), (.ref 90), (.int 2240 0), (.int 24 0), (.str ⟨#[47, 99, 108, 97, 105, 109, 47, 99, 117, 116, 46, 112, 121]⟩ 2241)]), #[]⟩
noncomputable def o92v0 (P : Params) : Obj := ⟨(.type "function"), none, .func (fd st11 3 (.str ⟨#[99, 112, 121, 51, 49, 51, 46, 116, 114, 97, 99, 101, 98, 97, 99, 107]⟩ 2227) (.ref 91) 0), #[]⟩
noncomputable def T12 (P : Params) : BT := (.node (boot_o_0 P) (.node (boot_o_1 P) (.node (o3v12 P) (.node (boot_o_7 P) (.node (o15v0 P) (.node (o31v0 P) (.node (o63v0 P) .nil .nil) .nil) (.node (o47v0 P) (.node (o79v0 P) .nil .nil) .nil)) (.node (o23v0 P) (.node (o39v0 P) (.node (o71v0 P) .nil .nil) .nil) (.node (o55v0 P) (.node (o87v0 P) .nil .nil) .nil))) (.node (o11v0 P) (.node (o19v0 P) (.node (o35v0 P) (.node (o67v0 P) .nil .nil) .nil) (.node (o51v0 P) (.node (o83v0 P) .nil .nil) .nil)) (.node (o27v0 P) (.node (o43v0 P) (.node (o75v0 P) .nil .nil) .nil) (.node (o59v0 P) (.node (o91v0 P) .nil .nil) .nil)))) (.node (boot_o_5 P) (.node (boot_o_9 P) (.node (o17v0 P) (.node (o33v0 P) (.node (o65v0 P) .nil .nil) .nil) (.node (o49v0 P) (.node (o81v0 P) .nil .nil) .nil)) (.node (o25v0 P) (.node (o41v0 P) (.node (o73v0 P) .nil .nil) .nil) (.node (o57v0 P) (.node (o89v0 P) .nil .nil) .nil))) (.node (o13v0 P) (.node (o21v0 P) (.node (o37v0 P) (.node (o69v0 P) .nil .nil) .nil) (.node (o53v0 P) (.node (o85v0 P) .nil .nil) .nil)) (.node (o29v0 P) (.node (o45v0 P) (.node (o77v0 P) .nil .nil) .nil) (.node (o61v0 P) .nil .nil))))) (.node (boot_o_2 P) (.node (boot_o_4 P) (.node (boot_o_8 P) (.node (o16v0 P) (.node (o32v0 P) (.node (o64v0 P) .nil .nil) .nil) (.node (o48v0 P) (.node (o80v0 P) .nil .nil) .nil)) (.node (o24v0 P) (.node (o40v0 P) (.node (o72v0 P) .nil .nil) .nil) (.node (o56v0 P) (.node (o88v0 P) .nil .nil) .nil))) (.node (o12v4 P) (.node (o20v0 P) (.node (o36v0 P) (.node (o68v0 P) .nil .nil) .nil) (.node (o52v0 P) (.node (o84v0 P) .nil .nil) .nil)) (.node (o28v0 P) (.node (o44v0 P) (.node (o76v0 P) .nil .nil) .nil) (.node (o60v0 P) (.node (o92v0 P) .nil .nil) .nil)))) (.node (boot_o_6 P) (.node (boot_o_10 P) (.node (o18v0 P) (.node (o34v0 P) (.node (o66v0 P) .nil .nil) .nil) (.node (o50v0 P) (.node (o82v0 P) .nil .nil) .nil)) (.node (o26v0 P) (.node (o42v0 P) (.node (o74v0 P) .nil .nil) .nil) (.node (o58v0 P) (.node (o90v0 P) .nil .nil) .nil))) (.node (o14v0 P) (.node (o22v0 P) (.node (o38v0 P) (.node (o70v0 P) .nil .nil) .nil) (.node (o54v0 P) (.node (o86v0 P) .nil .nil) .nil)) (.node (o30v0 P) (.node (o46v0 P) (.node (o78v0 P) .nil .nil) .nil) (.node (o62v0 P) .nil .nil))))))
theorem pt11 (w : World) (os : OsState) : segRunT treeTable pp w 11 (some (.ref 6)) 1 31 ⟨T11 w.params, 86, {}, #[], {}, 2235, os⟩ (piecesOf [st11] env (.body bd env) ⟨23, 0, 23, 10⟩ [topFrame ⟨0, 0, 0, 0⟩]) = some (.next, ⟨T12 w.params, 93, {}, #[], {}, 2243, os⟩, .body bd env, ⟨24, 0, 29, 21⟩) := by
  show segRunT treeTable pp _ 11 (some (.ref 6)) 1 31 _ ⟨(execs [st11] env).wrap doneF deadEnd id id, .body bd env, ⟨23, 0, 23, 10⟩, [topFrame ⟨0, 0, 0, 0⟩]⟩ = _
  rw [PySem.W.Fast.te10110043849684766642, PySem.W.Fast.te14364793385576792824, PySem.W.Fast.te12563942051412417395]
  kernel_rfl!
theorem pc11 (w : World) (os : OsState) : segRun treeTable pp w 11 (some (.ref 6)) 1 31 (SharedT.abs ⟨T11 w.params, 86, {}, #[], {}, 2235, os⟩) (piecesOf [st11] env (.body bd env) ⟨23, 0, 23, 10⟩ [topFrame ⟨0, 0, 0, 0⟩]) = some (.next, SharedT.abs ⟨T12 w.params, 93, {}, #[], {}, 2243, os⟩, .body bd env, ⟨24, 0, 29, 21⟩) := segRun_of (pt11 w os)
noncomputable def o3v13 (P : Params) : Obj := ⟨(.type "dict"), none, (.dict #[⟨PyData.keyHash P ⟨#[95, 95, 110, 97, 109, 101, 95, 95]⟩, (.str ⟨#[95, 95, 110, 97, 109, 101, 95, 95]⟩ 165), (.str ⟨#[99, 112, 121, 51, 49, 51, 46, 116, 114, 97, 99, 101, 98, 97, 99, 107]⟩ 2227)⟩, ⟨PyData.keyHash P ⟨#[95, 95, 100, 111, 99, 95, 95]⟩, (.str ⟨#[95, 95, 100, 111, 99, 95, 95]⟩ 166), (.none)⟩, ⟨PyData.keyHash P ⟨#[95, 95, 112, 97, 99, 107, 97, 103, 101, 95, 95]⟩, (.str ⟨#[95, 95, 112, 97, 99, 107, 97, 103, 101, 95, 95]⟩ 167), (.none)⟩, ⟨PyData.keyHash P ⟨#[95, 95, 108, 111, 97, 100, 101, 114, 95, 95]⟩, (.str ⟨#[95, 95, 108, 111, 97, 100, 101, 114, 95, 95]⟩ 168), (.builtin "__main__.__loader__#opaque")⟩, ⟨PyData.keyHash P ⟨#[95, 95, 115, 112, 101, 99, 95, 95]⟩, (.str ⟨#[95, 95, 115, 112, 101, 99, 95, 95]⟩ 169), (.none)⟩, ⟨PyData.keyHash P ⟨#[95, 95, 97, 110, 110, 111, 116, 97, 116, 105, 111, 110, 115, 95, 95]⟩, (.str ⟨#[95, 95, 97, 110, 110, 111, 116, 97, 116, 105, 111, 110, 115, 95, 95]⟩ 170), (.ref 6)⟩, ⟨PyData.keyHash P ⟨#[95, 95, 98, 117, 105, 108, 116, 105, 110, 115, 95, 95]⟩, (.str ⟨#[95, 95, 98, 117, 105, 108, 116, 105, 110, 115, 95, 95]⟩ 171), (.ref 4)⟩, ⟨PyData.keyHash P ⟨#[95, 95, 102, 105, 108, 101, 95, 95]⟩, (.str ⟨#[95, 95, 102, 105, 108, 101, 95, 95]⟩ 173), (.str ⟨#[47, 99, 108, 97, 105, 109, 47, 99, 117, 116, 46, 112, 121]⟩ 172)⟩, ⟨PyData.keyHash P ⟨#[95, 95, 99, 97, 99, 104, 101, 100, 95, 95]⟩, (.str ⟨#[95, 95, 99, 97, 99, 104, 101, 100, 95, 95]⟩ 174), (.none)⟩, ⟨PyData.keyHash P ⟨#[98, 49, 95, 115, 101, 116]⟩, (.str ⟨#[98, 49, 95, 115, 101, 116]⟩ 248), (.ref 22)⟩, ⟨PyData.keyHash P ⟨#[105, 110, 95, 116, 97, 98, 108, 101, 95, 98, 49]⟩, (.str ⟨#[105, 110, 95, 116, 97, 98, 108, 101, 95, 98, 49]⟩ 255), (.ref 32)⟩, ⟨PyData.keyHash P ⟨#[98, 51, 95, 101, 120, 99, 101, 112, 116, 105, 111, 110, 115]⟩, (.str ⟨#[98, 51, 95, 101, 120, 99, 101, 112, 116, 105, 111, 110, 115]⟩ 2206), (.ref 33)⟩, ⟨PyData.keyHash P ⟨#[109, 97, 112, 95, 116, 97, 98, 108, 101, 95, 98, 51]⟩, (.str ⟨#[109, 97, 112, 95, 116, 97, 98, 108, 101, 95, 98, 51]⟩ 2214), (.ref 78)⟩, ⟨PyData.keyHash P ⟨#[73, 110, 116, 50, 65, 80]⟩, (.str ⟨#[73, 110, 116, 50, 65, 80]⟩ 2226), (.ref 85)⟩, ⟨PyData.keyHash P ⟨#[95, 77, 65, 88, 95, 83, 84, 82, 73, 78, 71, 95, 83, 73, 90, 69]⟩, (.str ⟨#[95, 77, 65, 88, 95, 83, 84, 82, 73, 78, 71, 95, 83, 73, 90, 69]⟩ 2230), (.int 40 2229)⟩, ⟨PyData.keyHash P ⟨#[95, 77, 79, 86, 69, 95, 67, 79, 83, 84]⟩, (.str ⟨#[95, 77, 79, 86, 69, 95, 67, 79, 83, 84]⟩ 2232), (.int 2 2231)⟩, ⟨PyData.keyHash P ⟨#[95, 67, 65, 83, 69, 95, 67, 79, 83, 84]⟩, (.str ⟨#[95, 67, 65, 83, 69, 95, 67, 79, 83, 84]⟩ 2234), (.int 1 2233)⟩, ⟨PyData.keyHash P ⟨#[95, 115, 117, 98, 115, 116, 105, 116, 117, 116, 105, 111, 110, 95, 99, 111, 115, 116]⟩, (.str ⟨#[95, 115, 117, 98, 115, 116, 105, 116, 117, 116, 105, 111, 110, 95, 99, 111, 115, 116]⟩ 2242), (.ref 92)⟩, ⟨PyData.keyHash P ⟨#[95, 108, 101, 118, 101, 110, 115, 104, 116, 101, 105, 110, 95, 100, 105, 115, 116, 97, 110, 99, 101]⟩, (.str ⟨#[95, 108, 101, 118, 101, 110, 115, 104, 116, 101, 105, 110, 95, 100, 105, 115, 116, 97, 110, 99, 101]⟩ 2262), (.ref 99)⟩] 19), #[]⟩
noncomputable def o12v5 (P : Params) : Obj := ⟨(.none), none, (.fields #[(.int 3 0), (.int 0 0), (.ref 31), (.int 6 0), (.int 0 0), (.ref 77), (.int 12 0), (.int 0 0), (.ref 84), (.int 24 0), (.int 0 0), (.ref 91), (.int 30 0), (.int 0 0), (.ref 98)]), #[]⟩
noncomputable def o93v0 (P : Params) : Obj := ⟨(.type "tuple"), none, (.seq #[] 0), #[]⟩
noncomputable def o94v0 (P : Params) : Obj := ⟨(.none), none, (.fields #[]), #[]⟩
noncomputable def o95v0 (P : Params) : Obj := ⟨(.type "tuple"), none, (.seq #[(.str ⟨#[97]⟩ 2246), (.str ⟨#[98]⟩ 2247), (.str ⟨#[109, 97, 120, 95, 99, 111, 115, 116]⟩ 2248), (.str ⟨#[112, 114, 101]⟩ 2249), (.str ⟨#[112, 111, 115, 116]⟩ 2250), (.str ⟨#[114, 111, 119]⟩ 2251), (.str ⟨#[114, 101, 115, 117, 108, 116]⟩ 2252), (.str ⟨#[98, 105, 110, 100, 101, 120]⟩ 2253), (.str ⟨#[98, 99, 104, 97, 114]⟩ 2254), (.str ⟨#[100, 105, 115, 116, 97, 110, 99, 101]⟩ 2255), (.str ⟨#[109, 105, 110, 105, 109, 117, 109]⟩ 2256), (.str ⟨#[105, 110, 100, 101, 120]⟩ 2257), (.str ⟨#[115, 117, 98, 115, 116, 105, 116, 117, 116, 101]⟩ 2258), (.str ⟨#[105, 110, 115, 101, 114, 116, 95, 100, 101, 108, 101, 116, 101]⟩ 2259)] 0), #[]⟩
noncomputable def o96v0 (P : Params) : Obj := ⟨(.type "tuple"), none, (.seq #[] 0), #[]⟩
noncomputable def o97v0 (P : Params) : Obj := ⟨(.none), none, .func (fd st12 0 (.none) (.none) 0), #[]⟩
noncomputable def o98v0 (P : Params) : Obj := ⟨(.type "code"), none, (.fields #[(.str ⟨#[95, 108, 101, 118, 101, 110, 115, 104, 116, 101, 105, 110, 95, 100, 105, 115, 116, 97, 110, 99, 101]⟩ 2243), (.str ⟨#[95, 108, 101, 118, 101, 110, 115, 104, 116, 101, 105, 110, 95, 100, 105, 115, 116, 97, 110, 99, 101]⟩ 2244), (.str ⟨#[47, 99, 108, 97, 105, 109, 47, 99, 117, 116, 46, 112, 121]⟩ 2245), (.int 30 0), (.int 3 0), (.int 0 0), (.int 0 0), (.int 3 0), (.ref 93), (.bool true), (.int 181 0), (.ref 94), (.none), (.ref 95), (.ref 96), (.ref 97), (.int 2260 0), (.int 30 0), (.str ⟨#[47, 99, 108, 97, 105, 109, 47, 99, 117, 116, 46, 112, 121]⟩ 2261)]), #[]⟩
noncomputable def o99v0 (P : Params) : Obj := ⟨(.type "function"), none, .func (fd st12 3 (.str ⟨#[99, 112, 121, 51, 49, 51, 46, 116, 114, 97, 99, 101, 98, 97, 99, 107]⟩ 2227) (.ref 98) 0), #[]⟩
noncomputable def T13 (P : Params) : BT := (.node (boot_o_0 P) (.node (boot_o_1 P) (.node (o3v13 P) (.node (boot_o_7 P) (.node (o15v0 P) (.node (o31v0 P) (.node (o63v0 P) .nil .nil) (.node (o95v0 P) .nil .nil)) (.node (o47v0 P) (.node (o79v0 P) .nil .nil) .nil)) (.node (o23v0 P) (.node (o39v0 P) (.node (o71v0 P) .nil .nil) .nil) (.node (o55v0 P) (.node (o87v0 P) .nil .nil) .nil))) (.node (o11v0 P) (.node (o19v0 P) (.node (o35v0 P) (.node (o67v0 P) .nil .nil) (.node (o99v0 P) .nil .nil)) (.node (o51v0 P) (.node (o83v0 P) .nil .nil) .nil)) (.node (o27v0 P) (.node (o43v0 P) (.node (o75v0 P) .nil .nil) .nil) (.node (o59v0 P) (.node (o91v0 P) .nil .nil) .nil)))) (.node (boot_o_5 P) (.node (boot_o_9 P) (.node (o17v0 P) (.node (o33v0 P) (.node (o65v0 P) .nil .nil) (.node (o97v0 P) .nil .nil)) (.node (o49v0 P) (.node (o81v0 P) .nil .nil) .nil)) (.node (o25v0 P) (.node (o41v0 P) (.node (o73v0 P) .nil .nil) .nil) (.node (o57v0 P) (.node (o89v0 P) .nil .nil) .nil))) (.node (o13v0 P) (.node (o21v0 P) (.node (o37v0 P) (.node (o69v0 P) .nil .nil) .nil) (.node (o53v0 P) (.node (o85v0 P) .nil .nil) .nil)) (.node (o29v0 P) (.node (o45v0 P) (.node (o77v0 P) .nil .nil) .nil) (.node (o61v0 P) (.node (o93v0 P) .nil .nil) .nil))))) (.node (boot_o_2 P) (.node (boot_o_4 P) (.node (boot_o_8 P) (.node (o16v0 P) (.node (o32v0 P) (.node (o64v0 P) .nil .nil) (.node (o96v0 P) .nil .nil)) (.node (o48v0 P) (.node (o80v0 P) .nil .nil) .nil)) (.node (o24v0 P) (.node (o40v0 P) (.node (o72v0 P) .nil .nil) .nil) (.node (o56v0 P) (.node (o88v0 P) .nil .nil) .nil))) (.node (o12v5 P) (.node (o20v0 P) (.node (o36v0 P) (.node (o68v0 P) .nil .nil) .nil) (.node (o52v0 P) (.node (o84v0 P) .nil .nil) .nil)) (.node (o28v0 P) (.node (o44v0 P) (.node (o76v0 P) .nil .nil) .nil) (.node (o60v0 P) (.node (o92v0 P) .nil .nil) .nil)))) (.node (boot_o_6 P) (.node (boot_o_10 P) (.node (o18v0 P) (.node (o34v0 P) (.node (o66v0 P) .nil .nil) (.node (o98v0 P) .nil .nil)) (.node (o50v0 P) (.node (o82v0 P) .nil .nil) .nil)) (.node (o26v0 P) (.node (o42v0 P) (.node (o74v0 P) .nil .nil) .nil) (.node (o58v0 P) (.node (o90v0 P) .nil .nil) .nil))) (.node (o14v0 P) (.node (o22v0 P) (.node (o38v0 P) (.node (o70v0 P) .nil .nil) .nil) (.node (o54v0 P) (.node (o86v0 P) .nil .nil) .nil)) (.node (o30v0 P) (.node (o46v0 P) (.node (o78v0 P) .nil .nil) .nil) (.node (o62v0 P) (.node (o94v0 P) .nil .nil) .nil))))))
theorem pt12 (w : World) (os : OsState) : segRunT treeTable pp w 11 (some (.ref 6)) 1 43 ⟨T12 w.params, 93, {}, #[], {}, 2243, os⟩ (piecesOf [st12] env (.body bd env) ⟨24, 0, 29, 21⟩ [topFrame ⟨0, 0, 0, 0⟩]) = some (.next, ⟨T13 w.params, 100, {}, #[], {}, 2263, os⟩, .body bd env, ⟨30, 0, 67, 17⟩) := by
  show segRunT treeTable pp _ 11 (some (.ref 6)) 1 43 _ ⟨(execs [st12] env).wrap doneF deadEnd id id, .body bd env, ⟨24, 0, 29, 21⟩, [topFrame ⟨0, 0, 0, 0⟩]⟩ = _
  rw [PySem.W.Fast.te10110043849684766642, PySem.W.Fast.te14364793385576792824, PySem.W.Fast.te12563942051412417395]
  kernel_rfl!
theorem pc12 (w : World) (os : OsState) : segRun treeTable pp w 11 (some (.ref 6)) 1 43 (SharedT.abs ⟨T12 w.params, 93, {}, #[], {}, 2243, os⟩) (piecesOf [st12] env (.body bd env) ⟨24, 0, 29, 21⟩ [topFrame ⟨0, 0, 0, 0⟩]) = some (.next, SharedT.abs ⟨T13 w.params, 100, {}, #[], {}, 2263, os⟩, .body bd env, ⟨30, 0, 67, 17⟩) := segRun_of (pt12 w os)
noncomputable def o3v14 (P : Params) : Obj := ⟨(.type "dict"), none, (.dict #[⟨PyData.keyHash P ⟨#[95, 95, 110, 97, 109, 101, 95, 95]⟩, (.str ⟨#[95, 95, 110, 97, 109, 101, 95, 95]⟩ 165), (.str ⟨#[108, 97, 119, 95, 116, 97, 48, 48, 53, 49, 95, 48, 51]⟩ 2263)⟩, ⟨PyData.keyHash P ⟨#[95, 95, 100, 111, 99, 95, 95]⟩, (.str ⟨#[95, 95, 100, 111, 99, 95, 95]⟩ 166), (.none)⟩, ⟨PyData.keyHash P ⟨#[95, 95, 112, 97, 99, 107, 97, 103, 101, 95, 95]⟩, (.str ⟨#[95, 95, 112, 97, 99, 107, 97, 103, 101, 95, 95]⟩ 167), (.none)⟩, ⟨PyData.keyHash P ⟨#[95, 95, 108, 111, 97, 100, 101, 114, 95, 95]⟩, (.str ⟨#[95, 95, 108, 111, 97, 100, 101, 114, 95, 95]⟩ 168), (.builtin "__main__.__loader__#opaque")⟩, ⟨PyData.keyHash P ⟨#[95, 95, 115, 112, 101, 99, 95, 95]⟩, (.str ⟨#[95, 95, 115, 112, 101, 99, 95, 95]⟩ 169), (.none)⟩, ⟨PyData.keyHash P ⟨#[95, 95, 97, 110, 110, 111, 116, 97, 116, 105, 111, 110, 115, 95, 95]⟩, (.str ⟨#[95, 95, 97, 110, 110, 111, 116, 97, 116, 105, 111, 110, 115, 95, 95]⟩ 170), (.ref 6)⟩, ⟨PyData.keyHash P ⟨#[95, 95, 98, 117, 105, 108, 116, 105, 110, 115, 95, 95]⟩, (.str ⟨#[95, 95, 98, 117, 105, 108, 116, 105, 110, 115, 95, 95]⟩ 171), (.ref 4)⟩, ⟨PyData.keyHash P ⟨#[95, 95, 102, 105, 108, 101, 95, 95]⟩, (.str ⟨#[95, 95, 102, 105, 108, 101, 95, 95]⟩ 173), (.str ⟨#[47, 99, 108, 97, 105, 109, 47, 99, 117, 116, 46, 112, 121]⟩ 172)⟩, ⟨PyData.keyHash P ⟨#[95, 95, 99, 97, 99, 104, 101, 100, 95, 95]⟩, (.str ⟨#[95, 95, 99, 97, 99, 104, 101, 100, 95, 95]⟩ 174), (.none)⟩, ⟨PyData.keyHash P ⟨#[98, 49, 95, 115, 101, 116]⟩, (.str ⟨#[98, 49, 95, 115, 101, 116]⟩ 248), (.ref 22)⟩, ⟨PyData.keyHash P ⟨#[105, 110, 95, 116, 97, 98, 108, 101, 95, 98, 49]⟩, (.str ⟨#[105, 110, 95, 116, 97, 98, 108, 101, 95, 98, 49]⟩ 255), (.ref 32)⟩, ⟨PyData.keyHash P ⟨#[98, 51, 95, 101, 120, 99, 101, 112, 116, 105, 111, 110, 115]⟩, (.str ⟨#[98, 51, 95, 101, 120, 99, 101, 112, 116, 105, 111, 110, 115]⟩ 2206), (.ref 33)⟩, ⟨PyData.keyHash P ⟨#[109, 97, 112, 95, 116, 97, 98, 108, 101, 95, 98, 51]⟩, (.str ⟨#[109, 97, 112, 95, 116, 97, 98, 108, 101, 95, 98, 51]⟩ 2214), (.ref 78)⟩, ⟨PyData.keyHash P ⟨#[73, 110, 116, 50, 65, 80]⟩, (.str ⟨#[73, 110, 116, 50, 65, 80]⟩ 2226), (.ref 85)⟩, ⟨PyData.keyHash P ⟨#[95, 77, 65, 88, 95, 83, 84, 82, 73, 78, 71, 95, 83, 73, 90, 69]⟩, (.str ⟨#[95, 77, 65, 88, 95, 83, 84, 82, 73, 78, 71, 95, 83, 73, 90, 69]⟩ 2230), (.int 40 2229)⟩, ⟨PyData.keyHash P ⟨#[95, 77, 79, 86, 69, 95, 67, 79, 83, 84]⟩, (.str ⟨#[95, 77, 79, 86, 69, 95, 67, 79, 83, 84]⟩ 2232), (.int 2 2231)⟩, ⟨PyData.keyHash P ⟨#[95, 67, 65, 83, 69, 95, 67, 79, 83, 84]⟩, (.str ⟨#[95, 67, 65, 83, 69, 95, 67, 79, 83, 84]⟩ 2234), (.int 1 2233)⟩, ⟨PyData.keyHash P ⟨#[95, 115, 117, 98, 115, 116, 105, 116, 117, 116, 105, 111, 110, 95, 99, 111, 115, 116]⟩, (.str ⟨#[95, 115, 117, 98, 115, 116, 105, 116, 117, 116, 105, 111, 110, 95, 99, 111, 115, 116]⟩ 2242), (.ref 92)⟩, ⟨PyData.keyHash P ⟨#[95, 108, 101, 118, 101, 110, 115, 104, 116, 101, 105, 110, 95, 100, 105, 115, 116, 97, 110, 99, 101]⟩, (.str ⟨#[95, 108, 101, 118, 101, 110, 115, 104, 116, 101, 105, 110, 95, 100, 105, 115, 116, 97, 110, 99, 101]⟩ 2262), (.ref 99)⟩] 19), #[]⟩
noncomputable def T14 (P : Params) : BT := (.node (boot_o_0 P) (.node (boot_o_1 P) (.node (o3v14 P) (.node (boot_o_7 P) (.node (o15v0 P) (.node (o31v0 P) (.node (o63v0 P) .nil .nil) (.node (o95v0 P) .nil .nil)) (.node (o47v0 P) (.node (o79v0 P) .nil .nil) .nil)) (.node (o23v0 P) (.node (o39v0 P) (.node (o71v0 P) .nil .nil) .nil) (.node (o55v0 P) (.node (o87v0 P) .nil .nil) .nil))) (.node (o11v0 P) (.node (o19v0 P) (.node (o35v0 P) (.node (o67v0 P) .nil .nil) (.node (o99v0 P) .nil .nil)) (.node (o51v0 P) (.node (o83v0 P) .nil .nil) .nil)) (.node (o27v0 P) (.node (o43v0 P) (.node (o75v0 P) .nil .nil) .nil) (.node (o59v0 P) (.node (o91v0 P) .nil .nil) .nil)))) (.node (boot_o_5 P) (.node (boot_o_9 P) (.node (o17v0 P) (.node (o33v0 P) (.node (o65v0 P) .nil .nil) (.node (o97v0 P) .nil .nil)) (.node (o49v0 P) (.node (o81v0 P) .nil .nil) .nil)) (.node (o25v0 P) (.node (o41v0 P) (.node (o73v0 P) .nil .nil) .nil) (.node (o57v0 P) (.node (o89v0 P) .nil .nil) .nil))) (.node (o13v0 P) (.node (o21v0 P) (.node (o37v0 P) (.node (o69v0 P) .nil .nil) .nil) (.node (o53v0 P) (.node (o85v0 P) .nil .nil) .nil)) (.node (o29v0 P) (.node (o45v0 P) (.node (o77v0 P) .nil .nil) .nil) (.node (o61v0 P) (.node (o93v0 P) .nil .nil) .nil))))) (.node (boot_o_2 P) (.node (boot_o_4 P) (.node (boot_o_8 P) (.node (o16v0 P) (.node (o32v0 P) (.node (o64v0 P) .nil .nil) (.node (o96v0 P) .nil .nil)) (.node (o48v0 P) (.node (o80v0 P) .nil .nil) .nil)) (.node (o24v0 P) (.node (o40v0 P) (.node (o72v0 P) .nil .nil) .nil) (.node (o56v0 P) (.node (o88v0 P) .nil .nil) .nil))) (.node (o12v5 P) (.node (o20v0 P) (.node (o36v0 P) (.node (o68v0 P) .nil .nil) .nil) (.node (o52v0 P) (.node (o84v0 P) .nil .nil) .nil)) (.node (o28v0 P) (.node (o44v0 P) (.node (o76v0 P) .nil .nil) .nil) (.node (o60v0 P) (.node (o92v0 P) .nil .nil) .nil)))) (.node (boot_o_6 P) (.node (boot_o_10 P) (.node (o18v0 P) (.node (o34v0 P) (.node (o66v0 P) .nil .nil) (.node (o98v0 P) .nil .nil)) (.node (o50v0 P) (.node (o82v0 P) .nil .nil) .nil)) (.node (o26v0 P) (.node (o42v0 P) (.node (o74v0 P) .nil .nil) .nil) (.node (o58v0 P) (.node (o90v0 P) .nil .nil) .nil))) (.node (o14v0 P) (.node (o22v0 P) (.node (o38v0 P) (.node (o70v0 P) .nil .nil) .nil) (.node (o54v0 P) (.node (o86v0 P) .nil .nil) .nil)) (.node (o30v0 P) (.node (o46v0 P) (.node (o78v0 P) .nil .nil) .nil) (.node (o62v0 P) (.node (o94v0 P) .nil .nil) .nil))))))
theorem pt13 (w : World) (os : OsState) : segRunT treeTable pp w 11 (some (.ref 6)) 1 10 ⟨T13 w.params, 100, {}, #[], {}, 2263, os⟩ (piecesOf [st13] env (.body bd env) ⟨30, 0, 67, 17⟩ [topFrame ⟨0, 0, 0, 0⟩]) = some (.next, ⟨T14 w.params, 100, {}, #[], {}, 2265, os⟩, .body bd env, ⟨68, 0, 68, 8⟩) := by
  show segRunT treeTable pp _ 11 (some (.ref 6)) 1 10 _ ⟨(execs [st13] env).wrap doneF deadEnd id id, .body bd env, ⟨30, 0, 67, 17⟩, [topFrame ⟨0, 0, 0, 0⟩]⟩ = _
  rw [PySem.W.Fast.te10110043849684766642, PySem.W.Fast.te14364793385576792824, PySem.W.Fast.te12563942051412417395]
  kernel_rfl!
theorem pc13 (w : World) (os : OsState) : segRun treeTable pp w 11 (some (.ref 6)) 1 10 (SharedT.abs ⟨T13 w.params, 100, {}, #[], {}, 2263, os⟩) (piecesOf [st13] env (.body bd env) ⟨30, 0, 67, 17⟩ [topFrame ⟨0, 0, 0, 0⟩]) = some (.next, SharedT.abs ⟨T14 w.params, 100, {}, #[], {}, 2265, os⟩, .body bd env, ⟨68, 0, 68, 8⟩) := segRun_of (pt13 w os)
noncomputable def o3v15 (P : Params) : Obj := ⟨(.type "dict"), none, (.dict #[⟨PyData.keyHash P ⟨#[95, 95, 110, 97, 109, 101, 95, 95]⟩, (.str ⟨#[95, 95, 110, 97, 109, 101, 95, 95]⟩ 165), (.str ⟨#[108, 97, 119, 95, 116, 97, 48, 48, 53, 49, 95, 48, 51]⟩ 2263)⟩, ⟨PyData.keyHash P ⟨#[95, 95, 100, 111, 99, 95, 95]⟩, (.str ⟨#[95, 95, 100, 111, 99, 95, 95]⟩ 166), (.none)⟩, ⟨PyData.keyHash P ⟨#[95, 95, 112, 97, 99, 107, 97, 103, 101, 95, 95]⟩, (.str ⟨#[95, 95, 112, 97, 99, 107, 97, 103, 101, 95, 95]⟩ 167), (.none)⟩, ⟨PyData.keyHash P ⟨#[95, 95, 108, 111, 97, 100, 101, 114, 95, 95]⟩, (.str ⟨#[95, 95, 108, 111, 97, 100, 101, 114, 95, 95]⟩ 168), (.builtin "__main__.__loader__#opaque")⟩, ⟨PyData.keyHash P ⟨#[95, 95, 115, 112, 101, 99, 95, 95]⟩, (.str ⟨#[95, 95, 115, 112, 101, 99, 95, 95]⟩ 169), (.none)⟩, ⟨PyData.keyHash P ⟨#[95, 95, 97, 110, 110, 111, 116, 97, 116, 105, 111, 110, 115, 95, 95]⟩, (.str ⟨#[95, 95, 97, 110, 110, 111, 116, 97, 116, 105, 111, 110, 115, 95, 95]⟩ 170), (.ref 6)⟩, ⟨PyData.keyHash P ⟨#[95, 95, 98, 117, 105, 108, 116, 105, 110, 115, 95, 95]⟩, (.str ⟨#[95, 95, 98, 117, 105, 108, 116, 105, 110, 115, 95, 95]⟩ 171), (.ref 4)⟩, ⟨PyData.keyHash P ⟨#[95, 95, 102, 105, 108, 101, 95, 95]⟩, (.str ⟨#[95, 95, 102, 105, 108, 101, 95, 95]⟩ 173), (.str ⟨#[47, 99, 108, 97, 105, 109, 47, 99, 117, 116, 46, 112, 121]⟩ 172)⟩, ⟨PyData.keyHash P ⟨#[95, 95, 99, 97, 99, 104, 101, 100, 95, 95]⟩, (.str ⟨#[95, 95, 99, 97, 99, 104, 101, 100, 95, 95]⟩ 174), (.none)⟩, ⟨PyData.keyHash P ⟨#[98, 49, 95, 115, 101, 116]⟩, (.str ⟨#[98, 49, 95, 115, 101, 116]⟩ 248), (.ref 22)⟩, ⟨PyData.keyHash P ⟨#[105, 110, 95, 116, 97, 98, 108, 101, 95, 98, 49]⟩, (.str ⟨#[105, 110, 95, 116, 97, 98, 108, 101, 95, 98, 49]⟩ 255), (.ref 32)⟩, ⟨PyData.keyHash P ⟨#[98, 51, 95, 101, 120, 99, 101, 112, 116, 105, 111, 110, 115]⟩, (.str ⟨#[98, 51, 95, 101, 120, 99, 101, 112, 116, 105, 111, 110, 115]⟩ 2206), (.ref 33)⟩, ⟨PyData.keyHash P ⟨#[109, 97, 112, 95, 116, 97, 98, 108, 101, 95, 98, 51]⟩, (.str ⟨#[109, 97, 112, 95, 116, 97, 98, 108, 101, 95, 98, 51]⟩ 2214), (.ref 78)⟩, ⟨PyData.keyHash P ⟨#[73, 110, 116, 50, 65, 80]⟩, (.str ⟨#[73, 110, 116, 50, 65, 80]⟩ 2226), (.ref 85)⟩, ⟨PyData.keyHash P ⟨#[95, 77, 65, 88, 95, 83, 84, 82, 73, 78, 71, 95, 83, 73, 90, 69]⟩, (.str ⟨#[95, 77, 65, 88, 95, 83, 84, 82, 73, 78, 71, 95, 83, 73, 90, 69]⟩ 2230), (.int 40 2229)⟩, ⟨PyData.keyHash P ⟨#[95, 77, 79, 86, 69, 95, 67, 79, 83, 84]⟩, (.str ⟨#[95, 77, 79, 86, 69, 95, 67, 79, 83, 84]⟩ 2232), (.int 2 2231)⟩, ⟨PyData.keyHash P ⟨#[95, 67, 65, 83, 69, 95, 67, 79, 83, 84]⟩, (.str ⟨#[95, 67, 65, 83, 69, 95, 67, 79, 83, 84]⟩ 2234), (.int 1 2233)⟩, ⟨PyData.keyHash P ⟨#[95, 115, 117, 98, 115, 116, 105, 116, 117, 116, 105, 111, 110, 95, 99, 111, 115, 116]⟩, (.str ⟨#[95, 115, 117, 98, 115, 116, 105, 116, 117, 116, 105, 111, 110, 95, 99, 111, 115, 116]⟩ 2242), (.ref 92)⟩, ⟨PyData.keyHash P ⟨#[95, 108, 101, 118, 101, 110, 115, 104, 116, 101, 105, 110, 95, 100, 105, 115, 116, 97, 110, 99, 101]⟩, (.str ⟨#[95, 108, 101, 118, 101, 110, 115, 104, 116, 101, 105, 110, 95, 100, 105, 115, 116, 97, 110, 99, 101]⟩ 2262), (.ref 99)⟩, ⟨PyData.keyHash P ⟨#[95, 108, 97, 119, 95, 112, 97, 115, 99, 97, 108]⟩, (.str ⟨#[95, 108, 97, 119, 95, 112, 97, 115, 99, 97, 108]⟩ 2270), (.ref 104)⟩] 20), #[]⟩
noncomputable def o12v6 (P : Params) : Obj := ⟨(.none), none, (.fields #[(.int 3 0), (.int 0 0), (.ref 31), (.int 6 0), (.int 0 0), (.ref 77), (.int 12 0), (.int 0 0), (.ref 84), (.int 24 0), (.int 0 0), (.ref 91), (.int 30 0), (.int 0 0), (.ref 98), (.int 69 0), (.int 0 0), (.ref 103)]), #[]⟩
noncomputable def o100v0 (P : Params) : Obj := ⟨(.type "tuple"), none, (.seq #[] 0), #[]⟩
noncomputable def o101v0 (P : Params) : Obj := ⟨(.none), none, (.fields #[]), #[]⟩
noncomputable def o102v0 (P : Params) : Obj := ⟨(.none), none, .func (fd st14 0 (.none) (.none) 0), #[]⟩
noncomputable def o103v0 (P : Params) : Obj := ⟨(.type "code"), none, (.fields #[(.str ⟨#[95, 108, 97, 119, 95, 112, 97, 115, 99, 97, 108]⟩ 2265), (.str ⟨#[95, 108, 97, 119, 95, 112, 97, 115, 99, 97, 108]⟩ 2266), (.str ⟨#[47, 99, 108, 97, 105, 109, 47, 99, 117, 116, 46, 112, 121]⟩ 2267), (.int 69 0), (.int 1 0), (.int 0 0), (.int 0 0), (.int 3 0), (.ref 100), (.bool true), (.int 181 0), (.ref 101), (.none), (.none), (.none), (.ref 102), (.int 2268 0), (.int 69 0), (.str ⟨#[47, 99, 108, 97, 105, 109, 47, 99, 117, 116, 46, 112, 121]⟩ 2269)]), #[]⟩
noncomputable def o104v0 (P : Params) : Obj := ⟨(.type "function"), none, .func (fd st14 3 (.str ⟨#[108, 97, 119, 95, 116, 97, 48, 48, 53, 49, 95, 48, 51]⟩ 2263) (.ref 103) 0), #[]⟩
noncomputable def T15 (P : Params) : BT := (.node (boot_o_0 P) (.node (boot_o_1 P) (.node (o3v15 P) (.node (boot_o_7 P) (.node (o15v0 P) (.node (o31v0 P) (.node (o63v0 P) .nil .nil) (.node (o95v0 P) .nil .nil)) (.node (o47v0 P) (.node (o79v0 P) .nil .nil) .nil)) (.node (o23v0 P) (.node (o39v0 P) (.node (o71v0 P) .nil .nil) (.node (o103v0 P) .nil .nil)) (.node (o55v0 P) (.node (o87v0 P) .nil .nil) .nil))) (.node (o11v0 P) (.node (o19v0 P) (.node (o35v0 P) (.node (o67v0 P) .nil .nil) (.node (o99v0 P) .nil .nil)) (.node (o51v0 P) (.node (o83v0 P) .nil .nil) .nil)) (.node (o27v0 P) (.node (o43v0 P) (.node (o75v0 P) .nil .nil) .nil) (.node (o59v0 P) (.node (o91v0 P) .nil .nil) .nil)))) (.node (boot_o_5 P) (.node (boot_o_9 P) (.node (o17v0 P) (.node (o33v0 P) (.node (o65v0 P) .nil .nil) (.node (o97v0 P) .nil .nil)) (.node (o49v0 P) (.node (o81v0 P) .nil .nil) .nil)) (.node (o25v0 P) (.node (o41v0 P) (.node (o73v0 P) .nil .nil) .nil) (.node (o57v0 P) (.node (o89v0 P) .nil .nil) .nil))) (.node (o13v0 P) (.node (o21v0 P) (.node (o37v0 P) (.node (o69v0 P) .nil .nil) (.node (o101v0 P) .nil .nil)) (.node (o53v0 P) (.node (o85v0 P) .nil .nil) .nil)) (.node (o29v0 P) (.node (o45v0 P) (.node (o77v0 P) .nil .nil) .nil) (.node (o61v0 P) (.node (o93v0 P) .nil .nil) .nil))))) (.node (boot_o_2 P) (.node (boot_o_4 P) (.node (boot_o_8 P) (.node (o16v0 P) (.node (o32v0 P) (.node (o64v0 P) .nil .nil) (.node (o96v0 P) .nil .nil)) (.node (o48v0 P) (.node (o80v0 P) .nil .nil) .nil)) (.node (o24v0 P) (.node (o40v0 P) (.node (o72v0 P) .nil .nil) (.node (o104v0 P) .nil .nil)) (.node (o56v0 P) (.node (o88v0 P) .nil .nil) .nil))) (.node (o12v6 P) (.node (o20v0 P) (.node (o36v0 P) (.node (o68v0 P) .nil .nil) (.node (o100v0 P) .nil .nil)) (.node (o52v0 P) (.node (o84v0 P) .nil .nil) .nil)) (.node (o28v0 P) (.node (o44v0 P) (.node (o76v0 P) .nil .nil) .nil) (.node (o60v0 P) (.node (o92v0 P) .nil .nil) .nil)))) (.node (boot_o_6 P) (.node (boot_o_10 P) (.node (o18v0 P) (.node (o34v0 P) (.node (o66v0 P) .nil .nil) (.node (o98v0 P) .nil .nil)) (.node (o50v0 P) (.node (o82v0 P) .nil .nil) .nil)) (.node (o26v0 P) (.node (o42v0 P) (.node (o74v0 P) .nil .nil) .nil) (.node (o58v0 P) (.node (o90v0 P) .nil .nil) .nil))) (.node (o14v0 P) (.node (o22v0 P) (.node (o38v0 P) (.node (o70v0 P) .nil .nil) (.node (o102v0 P) .nil .nil)) (.node (o54v0 P) (.node (o86v0 P) .nil .nil) .nil)) (.node (o30v0 P) (.node (o46v0 P) (.node (o78v0 P) .nil .nil) .nil) (.node (o62v0 P) (.node (o94v0 P) .nil .nil) .nil))))))
theorem pt14 (w : World) (os : OsState) : segRunT treeTable pp w 11 (some (.ref 6)) 1 27 ⟨T14 w.params, 100, {}, #[], {}, 2265, os⟩ (piecesOf [st14] env (.body bd env) ⟨68, 0, 68, 8⟩ [topFrame ⟨0, 0, 0, 0⟩]) = some (.next, ⟨T15 w.params, 105, {}, #[], {}, 2271, os⟩, .body bd env, ⟨69, 0, 73, 14⟩) := by
  show segRunT treeTable pp _ 11 (some (.ref 6)) 1 27 _ ⟨(execs [st14] env).wrap doneF deadEnd id id, .body bd env, ⟨68, 0, 68, 8⟩, [topFrame ⟨0, 0, 0, 0⟩]⟩ = _
  rw [PySem.W.Fast.te10110043849684766642, PySem.W.Fast.te14364793385576792824, PySem.W.Fast.te12563942051412417395]
  kernel_rfl!
theorem pc14 (w : World) (os : OsState) : segRun treeTable pp w 11 (some (.ref 6)) 1 27 (SharedT.abs ⟨T14 w.params, 100, {}, #[], {}, 2265, os⟩) (piecesOf [st14] env (.body bd env) ⟨68, 0, 68, 8⟩ [topFrame ⟨0, 0, 0, 0⟩]) = some (.next, SharedT.abs ⟨T15 w.params, 105, {}, #[], {}, 2271, os⟩, .body bd env, ⟨69, 0, 73, 14⟩) := segRun_of (pt14 w os)
noncomputable def o3v16 (P : Params) : Obj := ⟨(.type "dict"), none, (.dict #[⟨PyData.keyHash P ⟨#[95, 95, 110, 97, 109, 101, 95, 95]⟩, (.str ⟨#[95, 95, 110, 97, 109, 101, 95, 95]⟩ 165), (.str ⟨#[108, 97, 119, 95, 116, 97, 48, 48, 53, 49, 95, 48, 51]⟩ 2263)⟩, ⟨PyData.keyHash P ⟨#[95, 95, 100, 111, 99, 95, 95]⟩, (.str ⟨#[95, 95, 100, 111, 99, 95, 95]⟩ 166), (.none)⟩, ⟨PyData.keyHash P ⟨#[95, 95, 112, 97, 99, 107, 97, 103, 101, 95, 95]⟩, (.str ⟨#[95, 95, 112, 97, 99, 107, 97, 103, 101, 95, 95]⟩ 167), (.none)⟩, ⟨PyData.keyHash P ⟨#[95, 95, 108, 111, 97, 100, 101, 114, 95, 95]⟩, (.str ⟨#[95, 95, 108, 111, 97, 100, 101, 114, 95, 95]⟩ 168), (.builtin "__main__.__loader__#opaque")⟩, ⟨PyData.keyHash P ⟨#[95, 95, 115, 112, 101, 99, 95, 95]⟩, (.str ⟨#[95, 95, 115, 112, 101, 99, 95, 95]⟩ 169), (.none)⟩, ⟨PyData.keyHash P ⟨#[95, 95, 97, 110, 110, 111, 116, 97, 116, 105, 111, 110, 115, 95, 95]⟩, (.str ⟨#[95, 95, 97, 110, 110, 111, 116, 97, 116, 105, 111, 110, 115, 95, 95]⟩ 170), (.ref 6)⟩, ⟨PyData.keyHash P ⟨#[95, 95, 98, 117, 105, 108, 116, 105, 110, 115, 95, 95]⟩, (.str ⟨#[95, 95, 98, 117, 105, 108, 116, 105, 110, 115, 95, 95]⟩ 171), (.ref 4)⟩, ⟨PyData.keyHash P ⟨#[95, 95, 102, 105, 108, 101, 95, 95]⟩, (.str ⟨#[95, 95, 102, 105, 108, 101, 95, 95]⟩ 173), (.str ⟨#[47, 99, 108, 97, 105, 109, 47, 99, 117, 116, 46, 112, 121]⟩ 172)⟩, ⟨PyData.keyHash P ⟨#[95, 95, 99, 97, 99, 104, 101, 100, 95, 95]⟩, (.str ⟨#[95, 95, 99, 97, 99, 104, 101, 100, 95, 95]⟩ 174), (.none)⟩, ⟨PyData.keyHash P ⟨#[98, 49, 95, 115, 101, 116]⟩, (.str ⟨#[98, 49, 95, 115, 101, 116]⟩ 248), (.ref 22)⟩, ⟨PyData.keyHash P ⟨#[105, 110, 95, 116, 97, 98, 108, 101, 95, 98, 49]⟩, (.str ⟨#[105, 110, 95, 116, 97, 98, 108, 101, 95, 98, 49]⟩ 255), (.ref 32)⟩, ⟨PyData.keyHash P ⟨#[98, 51, 95, 101, 120, 99, 101, 112, 116, 105, 111, 110, 115]⟩, (.str ⟨#[98, 51, 95, 101, 120, 99, 101, 112, 116, 105, 111, 110, 115]⟩ 2206), (.ref 33)⟩, ⟨PyData.keyHash P ⟨#[109, 97, 112, 95, 116, 97, 98, 108, 101, 95, 98, 51]⟩, (.str ⟨#[109, 97, 112, 95, 116, 97, 98, 108, 101, 95, 98, 51]⟩ 2214), (.ref 78)⟩, ⟨PyData.keyHash P ⟨#[73, 110, 116, 50, 65, 80]⟩, (.str ⟨#[73, 110, 116, 50, 65, 80]⟩ 2226), (.ref 85)⟩, ⟨PyData.keyHash P ⟨#[95, 77, 65, 88, 95, 83, 84, 82, 73, 78, 71, 95, 83, 73, 90, 69]⟩, (.str ⟨#[95, 77, 65, 88, 95, 83, 84, 82, 73, 78, 71, 95, 83, 73, 90, 69]⟩ 2230), (.int 40 2229)⟩, ⟨PyData.keyHash P ⟨#[95, 77, 79, 86, 69, 95, 67, 79, 83, 84]⟩, (.str ⟨#[95, 77, 79, 86, 69, 95, 67, 79, 83, 84]⟩ 2232), (.int 2 2231)⟩, ⟨PyData.keyHash P ⟨#[95, 67, 65, 83, 69, 95, 67, 79, 83, 84]⟩, (.str ⟨#[95, 67, 65, 83, 69, 95, 67, 79, 83, 84]⟩ 2234), (.int 1 2233)⟩, ⟨PyData.keyHash P ⟨#[95, 115, 117, 98, 115, 116, 105, 116, 117, 116, 105, 111, 110, 95, 99, 111, 115, 116]⟩, (.str ⟨#[95, 115, 117, 98, 115, 116, 105, 116, 117, 116, 105, 111, 110, 95, 99, 111, 115, 116]⟩ 2242), (.ref 92)⟩, ⟨PyData.keyHash P ⟨#[95, 108, 101, 118, 101, 110, 115, 104, 116, 101, 105, 110, 95, 100, 105, 115, 116, 97, 110, 99, 101]⟩, (.str ⟨#[95, 108, 101, 118, 101, 110, 115, 104, 116, 101, 105, 110, 95, 100, 105, 115, 116, 97, 110, 99, 101]⟩ 2262), (.ref 99)⟩, ⟨PyData.keyHash P ⟨#[95, 108, 97, 119, 95, 112, 97, 115, 99, 97, 108]⟩, (.str ⟨#[95, 108, 97, 119, 95, 112, 97, 115, 99, 97, 108]⟩ 2270), (.ref 104)⟩, ⟨PyData.keyHash P ⟨#[95, 108, 97, 119, 95, 111, 110, 101, 115]⟩, (.str ⟨#[95, 108, 97, 119, 95, 111, 110, 101, 115]⟩ 2276), (.ref 109)⟩] 21), #[]⟩
noncomputable def o12v7 (P : Params) : Obj := ⟨(.none), none, (.fields #[(.int 3 0), (.int 0 0), (.ref 31), (.int 6 0), (.int 0 0), (.ref 77), (.int 12 0), (.int 0 0), (.ref 84), (.int 24 0), (.int 0 0), (.ref 91), (.int 30 0), (.int 0 0), (.ref 98), (.int 69 0), (.int 0 0), (.ref 103), (.int 74 0), (.int 0 0), (.ref 108)]), #[]⟩
noncomputable def o105v0 (P : Params) : Obj := ⟨(.type "tuple"), none, (.seq #[] 0), #[]⟩
noncomputable def o106v0 (P : Params) : Obj := ⟨(.none), none, (.fields #[]), #[]⟩
noncomputable def o107v0 (P : Params) : Obj := ⟨(.none), none, .func (fd st15 0 (.none) (.none) 0), #[]⟩
noncomputable def o108v0 (P : Params) : Obj := ⟨(.type "code"), none, (.fields #[(.str ⟨#[95, 108, 97, 119, 95, 111, 110, 101, 115]⟩ 2271), (.str ⟨#[95, 108, 97, 119, 95, 111, 110, 101, 115]⟩ 2272), (.str ⟨#[47, 99, 108, 97, 105, 109, 47, 99, 117, 116, 46, 112, 121]⟩ 2273), (.int 74 0), (.int 1 0), (.int 0 0), (.int 0 0), (.int 3 0), (.ref 105), (.bool true), (.int 181 0), (.ref 106), (.none), (.none), (.none), (.ref 107), (.int 2274 0), (.int 74 0), (.str ⟨#[47, 99, 108, 97, 105, 109, 47, 99, 117, 116, 46, 112, 121]⟩ 2275)]), #[]⟩
noncomputable def o109v0 (P : Params) : Obj := ⟨(.type "function"), none, .func (fd st15 3 (.str ⟨#[108, 97, 119, 95, 116, 97, 48, 48, 53, 49, 95, 48, 51]⟩ 2263) (.ref 108) 0), #[]⟩
noncomputable def T16 (P : Params) : BT := (.node (boot_o_0 P) (.node (boot_o_1 P) (.node (o3v16 P) (.node (boot_o_7 P) (.node (o15v0 P) (.node (o31v0 P) (.node (o63v0 P) .nil .nil) (.node (o95v0 P) .nil .nil)) (.node (o47v0 P) (.node (o79v0 P) .nil .nil) .nil)) (.node (o23v0 P) (.node (o39v0 P) (.node (o71v0 P) .nil .nil) (.node (o103v0 P) .nil .nil)) (.node (o55v0 P) (.node (o87v0 P) .nil .nil) .nil))) (.node (o11v0 P) (.node (o19v0 P) (.node (o35v0 P) (.node (o67v0 P) .nil .nil) (.node (o99v0 P) .nil .nil)) (.node (o51v0 P) (.node (o83v0 P) .nil .nil) .nil)) (.node (o27v0 P) (.node (o43v0 P) (.node (o75v0 P) .nil .nil) (.node (o107v0 P) .nil .nil)) (.node (o59v0 P) (.node (o91v0 P) .nil .nil) .nil)))) (.node (boot_o_5 P) (.node (boot_o_9 P) (.node (o17v0 P) (.node (o33v0 P) (.node (o65v0 P) .nil .nil) (.node (o97v0 P) .nil .nil)) (.node (o49v0 P) (.node (o81v0 P) .nil .nil) .nil)) (.node (o25v0 P) (.node (o41v0 P) (.node (o73v0 P) .nil .nil) (.node (o105v0 P) .nil .nil)) (.node (o57v0 P) (.node (o89v0 P) .nil .nil) .nil))) (.node (o13v0 P) (.node (o21v0 P) (.node (o37v0 P) (.node (o69v0 P) .nil .nil) (.node (o101v0 P) .nil .nil)) (.node (o53v0 P) (.node (o85v0 P) .nil .nil) .nil)) (.node (o29v0 P) (.node (o45v0 P) (.node (o77v0 P) .nil .nil) (.node (o109v0 P) .nil .nil)) (.node (o61v0 P) (.node (o93v0 P) .nil .nil) .nil))))) (.node (boot_o_2 P) (.node (boot_o_4 P) (.node (boot_o_8 P) (.node (o16v0 P) (.node (o32v0 P) (.node (o64v0 P) .nil .nil) (.node (o96v0 P) .nil .nil)) (.node (o48v0 P) (.node (o80v0 P) .nil .nil) .nil)) (.node (o24v0 P) (.node (o40v0 P) (.node (o72v0 P) .nil .nil) (.node (o104v0 P) .nil .nil)) (.node (o56v0 P) (.node (o88v0 P) .nil .nil) .nil))) (.node (o12v7 P) (.node (o20v0 P) (.node (o36v0 P) (.node (o68v0 P) .nil .nil) (.node (o100v0 P) .nil .nil)) (.node (o52v0 P) (.node (o84v0 P) .nil .nil) .nil)) (.node (o28v0 P) (.node (o44v0 P) (.node (o76v0 P) .nil .nil) (.node (o108v0 P) .nil .nil)) (.node (o60v0 P) (.node (o92v0 P) .nil .nil) .nil)))) (.node (boot_o_6 P) (.node (boot_o_10 P) (.node (o18v0 P) (.node (o34v0 P) (.node (o66v0 P) .nil .nil) (.node (o98v0 P) .nil .nil)) (.node (o50v0 P) (.node (o82v0 P) .nil .nil) .nil)) (.node (o26v0 P) (.node (o42v0 P) (.node (o74v0 P) .nil .nil) (.node (o106v0 P) .nil .nil)) (.node (o58v0 P) (.node (o90v0 P) .nil .nil) .nil))) (.node (o14v0 P) (.node (o22v0 P) (.node (o38v0 P) (.node (o70v0 P) .nil .nil) (.node (o102v0 P) .nil .nil)) (.node (o54v0 P) (.node (o86v0 P) .nil .nil) .nil)) (.node (o30v0 P) (.node (o46v0 P) (.node (o78v0 P) .nil .nil) .nil) (.node (o62v0 P) (.node (o94v0 P) .nil .nil) .nil))))))
theorem pt15 (w : World) (os : OsState) : segRunT treeTable pp w 11 (some (.ref 6)) 1 27 ⟨T15 w.params, 105, {}, #[], {}, 2271, os⟩ (piecesOf [st15] env (.body bd env) ⟨69, 0, 73, 14⟩ [topFrame ⟨0, 0, 0, 0⟩]) = some (.next, ⟨T16 w.params, 110, {}, #[], {}, 2277, os⟩, .body bd env, ⟨74, 0, 75, 66⟩) := by
  show segRunT treeTable pp _ 11 (some (.ref 6)) 1 27 _ ⟨(execs [st15] env).wrap doneF deadEnd id id, .body bd env, ⟨69, 0, 73, 14⟩, [topFrame ⟨0, 0, 0, 0⟩]⟩ = _
  rw [PySem.W.Fast.te10110043849684766642, PySem.W.Fast.te14364793385576792824, PySem.W.Fast.te12563942051412417395]
  kernel_rfl!
theorem pc15 (w : World) (os : OsState) : segRun treeTable pp w 11 (some (.ref 6)) 1 27 (SharedT.abs ⟨T15 w.params, 105, {}, #[], {}, 2271, os⟩) (piecesOf [st15] env (.body bd env) ⟨69, 0, 73, 14⟩ [topFrame ⟨0, 0, 0, 0⟩]) = some (.next, SharedT.abs ⟨T16 w.params, 110, {}, #[], {}, 2277, os⟩, .body bd env, ⟨74, 0, 75, 66⟩) := segRun_of (pt15 w os)
noncomputable def o3v17 (P : Params) : Obj := ⟨(.type "dict"), none, (.dict #[⟨PyData.keyHash P ⟨#[95, 95, 110, 97, 109, 101, 95, 95]⟩, (.str ⟨#[95, 95, 110, 97, 109, 101, 95, 95]⟩ 165), (.str ⟨#[108, 97, 119, 95, 116, 97, 48, 48, 53, 49, 95, 48, 51]⟩ 2263)⟩, ⟨PyData.keyHash P ⟨#[95, 95, 100, 111, 99, 95, 95]⟩, (.str ⟨#[95, 95, 100, 111, 99, 95, 95]⟩ 166), (.none)⟩, ⟨PyData.keyHash P ⟨#[95, 95, 112, 97, 99, 107, 97, 103, 101, 95, 95]⟩, (.str ⟨#[95, 95, 112, 97, 99, 107, 97, 103, 101, 95, 95]⟩ 167), (.none)⟩, ⟨PyData.keyHash P ⟨#[95, 95, 108, 111, 97, 100, 101, 114, 95, 95]⟩, (.str ⟨#[95, 95, 108, 111, 97, 100, 101, 114, 95, 95]⟩ 168), (.builtin "__main__.__loader__#opaque")⟩, ⟨PyData.keyHash P ⟨#[95, 95, 115, 112, 101, 99, 95, 95]⟩, (.str ⟨#[95, 95, 115, 112, 101, 99, 95, 95]⟩ 169), (.none)⟩, ⟨PyData.keyHash P ⟨#[95, 95, 97, 110, 110, 111, 116, 97, 116, 105, 111, 110, 115, 95, 95]⟩, (.str ⟨#[95, 95, 97, 110, 110, 111, 116, 97, 116, 105, 111, 110, 115, 95, 95]⟩ 170), (.ref 6)⟩, ⟨PyData.keyHash P ⟨#[95, 95, 98, 117, 105, 108, 116, 105, 110, 115, 95, 95]⟩, (.str ⟨#[95, 95, 98, 117, 105, 108, 116, 105, 110, 115, 95, 95]⟩ 171), (.ref 4)⟩, ⟨PyData.keyHash P ⟨#[95, 95, 102, 105, 108, 101, 95, 95]⟩, (.str ⟨#[95, 95, 102, 105, 108, 101, 95, 95]⟩ 173), (.str ⟨#[47, 99, 108, 97, 105, 109, 47, 99, 117, 116, 46, 112, 121]⟩ 172)⟩, ⟨PyData.keyHash P ⟨#[95, 95, 99, 97, 99, 104, 101, 100, 95, 95]⟩, (.str ⟨#[95, 95, 99, 97, 99, 104, 101, 100, 95, 95]⟩ 174), (.none)⟩, ⟨PyData.keyHash P ⟨#[98, 49, 95, 115, 101, 116]⟩, (.str ⟨#[98, 49, 95, 115, 101, 116]⟩ 248), (.ref 22)⟩, ⟨PyData.keyHash P ⟨#[105, 110, 95, 116, 97, 98, 108, 101, 95, 98, 49]⟩, (.str ⟨#[105, 110, 95, 116, 97, 98, 108, 101, 95, 98, 49]⟩ 255), (.ref 32)⟩, ⟨PyData.keyHash P ⟨#[98, 51, 95, 101, 120, 99, 101, 112, 116, 105, 111, 110, 115]⟩, (.str ⟨#[98, 51, 95, 101, 120, 99, 101, 112, 116, 105, 111, 110, 115]⟩ 2206), (.ref 33)⟩, ⟨PyData.keyHash P ⟨#[109, 97, 112, 95, 116, 97, 98, 108, 101, 95, 98, 51]⟩, (.str ⟨#[109, 97, 112, 95, 116, 97, 98, 108, 101, 95, 98, 51]⟩ 2214), (.ref 78)⟩, ⟨PyData.keyHash P ⟨#[73, 110, 116, 50, 65, 80]⟩, (.str ⟨#[73, 110, 116, 50, 65, 80]⟩ 2226), (.ref 85)⟩, ⟨PyData.keyHash P ⟨#[95, 77, 65, 88, 95, 83, 84, 82, 73, 78, 71, 95, 83, 73, 90, 69]⟩, (.str ⟨#[95, 77, 65, 88, 95, 83, 84, 82, 73, 78, 71, 95, 83, 73, 90, 69]⟩ 2230), (.int 40 2229)⟩, ⟨PyData.keyHash P ⟨#[95, 77, 79, 86, 69, 95, 67, 79, 83, 84]⟩, (.str ⟨#[95, 77, 79, 86, 69, 95, 67, 79, 83, 84]⟩ 2232), (.int 2 2231)⟩, ⟨PyData.keyHash P ⟨#[95, 67, 65, 83, 69, 95, 67, 79, 83, 84]⟩, (.str ⟨#[95, 67, 65, 83, 69, 95, 67, 79, 83, 84]⟩ 2234), (.int 1 2233)⟩, ⟨PyData.keyHash P ⟨#[95, 115, 117, 98, 115, 116, 105, 116, 117, 116, 105, 111, 110, 95, 99, 111, 115, 116]⟩, (.str ⟨#[95, 115, 117, 98, 115, 116, 105, 116, 117, 116, 105, 111, 110, 95, 99, 111, 115, 116]⟩ 2242), (.ref 92)⟩, ⟨PyData.keyHash P ⟨#[95, 108, 101, 118, 101, 110, 115, 104, 116, 101, 105, 110, 95, 100, 105, 115, 116, 97, 110, 99, 101]⟩, (.str ⟨#[95, 108, 101, 118, 101, 110, 115, 104, 116, 101, 105, 110, 95, 100, 105, 115, 116, 97, 110, 99, 101]⟩ 2262), (.ref 99)⟩, ⟨PyData.keyHash P ⟨#[95, 108, 97, 119, 95, 112, 97, 115, 99, 97, 108]⟩, (.str ⟨#[95, 108, 97, 119, 95, 112, 97, 115, 99, 97, 108]⟩ 2270), (.ref 104)⟩, ⟨PyData.keyHash P ⟨#[95, 108, 97, 119, 95, 111, 110, 101, 115]⟩, (.str ⟨#[95, 108, 97, 119, 95, 111, 110, 101, 115]⟩ 2276), (.ref 109)⟩, ⟨PyData.keyHash P ⟨#[95, 108, 97, 119, 95, 119, 111, 114, 100]⟩, (.str ⟨#[95, 108, 97, 119, 95, 119, 111, 114, 100]⟩ 2285), (.ref 116)⟩] 22), #[]⟩
noncomputable def o12v8 (P : Params) : Obj := ⟨(.none), none, (.fields #[(.int 3 0), (.int 0 0), (.ref 31), (.int 6 0), (.int 0 0), (.ref 77), (.int 12 0), (.int 0 0), (.ref 84), (.int 24 0), (.int 0 0), (.ref 91), (.int 30 0), (.int 0 0), (.ref 98), (.int 69 0), (.int 0 0), (.ref 103), (.int 74 0), (.int 0 0), (.ref 108), (.int 76 0), (.int 0 0), (.ref 115)]), #[]⟩
noncomputable def o110v0 (P : Params) : Obj := ⟨(.type "tuple"), none, (.seq #[] 0), #[]⟩
noncomputable def o111v0 (P : Params) : Obj := ⟨(.none), none, (.fields #[]), #[]⟩
noncomputable def o112v0 (P : Params) : Obj := ⟨(.type "tuple"), none, (.seq #[(.str ⟨#[110, 117, 109, 98, 101, 114]⟩ 2280), (.str ⟨#[115, 105, 122, 101]⟩ 2281), (.str ⟨#[119, 111, 114, 100]⟩ 2282)] 0), #[]⟩
noncomputable def o113v0 (P : Params) : Obj := ⟨(.type "tuple"), none, (.seq #[] 0), #[]⟩
noncomputable def o114v0 (P : Params) : Obj := ⟨(.none), none, .func (fd st16 0 (.none) (.none) 0), #[]⟩
noncomputable def o115v0 (P : Params) : Obj := ⟨(.type "code"), none, (.fields #[(.str ⟨#[95, 108, 97, 119, 95, 119, 111, 114, 100]⟩ 2277), (.str ⟨#[95, 108, 97, 119, 95, 119, 111, 114, 100]⟩ 2278), (.str ⟨#[47, 99, 108, 97, 105, 109, 47, 99, 117, 116, 46, 112, 121]⟩ 2279), (.int 76 0), (.int 2 0), (.int 0 0), (.int 0 0), (.int 3 0), (.ref 110), (.bool true), (.int 181 0), (.ref 111), (.none), (.ref 112), (.ref 113), (.ref 114), (.int 2283 0), (.int 76 0), (.str ⟨#[47, 99, 108, 97, 105, 109, 47, 99, 117, 116, 46, 112, 121]⟩ 2284)]), #[]⟩
noncomputable def o116v0 (P : Params) : Obj := ⟨(.type "function"), none, .func (fd st16 3 (.str ⟨#[108, 97, 119, 95, 116, 97, 48, 48, 53, 49, 95, 48, 51]⟩ 2263) (.ref 115) 0), #[]⟩
noncomputable def T17 (P : Params) : BT := (.node (boot_o_0 P) (.node (boot_o_1 P) (.node (o3v17 P) (.node (boot_o_7 P) (.node (o15v0 P) (.node (o31v0 P) (.node (o63v0 P) .nil .nil) (.node (o95v0 P) .nil .nil)) (.node (o47v0 P) (.node (o79v0 P) .nil .nil) (.node (o111v0 P) .nil .nil))) (.node (o23v0 P) (.node (o39v0 P) (.node (o71v0 P) .nil .nil) (.node (o103v0 P) .nil .nil)) (.node (o55v0 P) (.node (o87v0 P) .nil .nil) .nil))) (.node (o11v0 P) (.node (o19v0 P) (.node (o35v0 P) (.node (o67v0 P) .nil .nil) (.node (o99v0 P) .nil .nil)) (.node (o51v0 P) (.node (o83v0 P) .nil .nil) (.node (o115v0 P) .nil .nil))) (.node (o27v0 P) (.node (o43v0 P) (.node (o75v0 P) .nil .nil) (.node (o107v0 P) .nil .nil)) (.node (o59v0 P) (.node (o91v0 P) .nil .nil) .nil)))) (.node (boot_o_5 P) (.node (boot_o_9 P) (.node (o17v0 P) (.node (o33v0 P) (.node (o65v0 P) .nil .nil) (.node (o97v0 P) .nil .nil)) (.node (o49v0 P) (.node (o81v0 P) .nil .nil) (.node (o113v0 P) .nil .nil))) (.node (o25v0 P) (.node (o41v0 P) (.node (o73v0 P) .nil .nil) (.node (o105v0 P) .nil .nil)) (.node (o57v0 P) (.node (o89v0 P) .nil .nil) .nil))) (.node (o13v0 P) (.node (o21v0 P) (.node (o37v0 P) (.node (o69v0 P) .nil .nil) (.node (o101v0 P) .nil .nil)) (.node (o53v0 P) (.node (o85v0 P) .nil .nil) .nil)) (.node (o29v0 P) (.node (o45v0 P) (.node (o77v0 P) .nil .nil) (.node (o109v0 P) .nil .nil)) (.node (o61v0 P) (.node (o93v0 P) .nil .nil) .nil))))) (.node (boot_o_2 P) (.node (boot_o_4 P) (.node (boot_o_8 P) (.node (o16v0 P) (.node (o32v0 P) (.node (o64v0 P) .nil .nil) (.node (o96v0 P) .nil .nil)) (.node (o48v0 P) (.node (o80v0 P) .nil .nil) (.node (o112v0 P) .nil .nil))) (.node (o24v0 P) (.node (o40v0 P) (.node (o72v0 P) .nil .nil) (.node (o104v0 P) .nil .nil)) (.node (o56v0 P) (.node (o88v0 P) .nil .nil) .nil))) (.node (o12v8 P) (.node (o20v0 P) (.node (o36v0 P) (.node (o68v0 P) .nil .nil) (.node (o100v0 P) .nil .nil)) (.node (o52v0 P) (.node (o84v0 P) .nil .nil) (.node (o116v0 P) .nil .nil))) (.node (o28v0 P) (.node (o44v0 P) (.node (o76v0 P) .nil .nil) (.node (o108v0 P) .nil .nil)) (.node (o60v0 P) (.node (o92v0 P) .nil .nil) .nil)))) (.node (boot_o_6 P) (.node (boot_o_10 P) (.node (o18v0 P) (.node (o34v0 P) (.node (o66v0 P) .nil .nil) (.node (o98v0 P) .nil .nil)) (.node (o50v0 P) (.node (o82v0 P) .nil .nil) (.node (o114v0 P) .nil .nil))) (.node (o26v0 P) (.node (o42v0 P) (.node (o74v0 P) .nil .nil) (.node (o106v0 P) .nil .nil)) (.node (o58v0 P) (.node (o90v0 P) .nil .nil) .nil))) (.node (o14v0 P) (.node (o22v0 P) (.node (o38v0 P) (.node (o70v0 P) .nil .nil) (.node (o102v0 P) .nil .nil)) (.node (o54v0 P) (.node (o86v0 P) .nil .nil) .nil)) (.node (o30v0 P) (.node (o46v0 P) (.node (o78v0 P) .nil .nil) (.node (o110v0 P) .nil .nil)) (.node (o62v0 P) (.node (o94v0 P) .nil .nil) .nil))))))
theorem pt16 (w : World) (os : OsState) : segRunT treeTable pp w 11 (some (.ref 6)) 1 32 ⟨T16 w.params, 110, {}, #[], {}, 2277, os⟩ (piecesOf [st16] env (.body bd env) ⟨74, 0, 75, 66⟩ [topFrame ⟨0, 0, 0, 0⟩]) = some (.next, ⟨T17 w.params, 117, {}, #[], {}, 2286, os⟩, .body bd env, ⟨76, 0, 80, 42⟩) := by
  show segRunT treeTable pp _ 11 (some (.ref 6)) 1 32 _ ⟨(execs [st16] env).wrap doneF deadEnd id id, .body bd env, ⟨74, 0, 75, 66⟩, [topFrame ⟨0, 0, 0, 0⟩]⟩ = _
  rw [PySem.W.Fast.te10110043849684766642, PySem.W.Fast.te14364793385576792824, PySem.W.Fast.te12563942051412417395]
  kernel_rfl!
theorem pc16 (w : World) (os : OsState) : segRun treeTable pp w 11 (some (.ref 6)) 1 32 (SharedT.abs ⟨T16 w.params, 110, {}, #[], {}, 2277, os⟩) (piecesOf [st16] env (.body bd env) ⟨74, 0, 75, 66⟩ [topFrame ⟨0, 0, 0, 0⟩]) = some (.next, SharedT.abs ⟨T17 w.params, 117, {}, #[], {}, 2286, os⟩, .body bd env, ⟨76, 0, 80, 42⟩) := segRun_of (pt16 w os)
noncomputable def o3v18 (P : Params) : Obj := ⟨(.type "dict"), none, (.dict #[⟨PyData.keyHash P ⟨#[95, 95, 110, 97, 109, 101, 95, 95]⟩, (.str ⟨#[95, 95, 110, 97, 109, 101, 95, 95]⟩ 165), (.str ⟨#[108, 97, 119, 95, 116, 97, 48, 48, 53, 49, 95, 48, 51]⟩ 2263)⟩, ⟨PyData.keyHash P ⟨#[95, 95, 100, 111, 99, 95, 95]⟩, (.str ⟨#[95, 95, 100, 111, 99, 95, 95]⟩ 166), (.none)⟩, ⟨PyData.keyHash P ⟨#[95, 95, 112, 97, 99, 107, 97, 103, 101, 95, 95]⟩, (.str ⟨#[95, 95, 112, 97, 99, 107, 97, 103, 101, 95, 95]⟩ 167), (.none)⟩, ⟨PyData.keyHash P ⟨#[95, 95, 108, 111, 97, 100, 101, 114, 95, 95]⟩, (.str ⟨#[95, 95, 108, 111, 97, 100, 101, 114, 95, 95]⟩ 168), (.builtin "__main__.__loader__#opaque")⟩, ⟨PyData.keyHash P ⟨#[95, 95, 115, 112, 101, 99, 95, 95]⟩, (.str ⟨#[95, 95, 115, 112, 101, 99, 95, 95]⟩ 169), (.none)⟩, ⟨PyData.keyHash P ⟨#[95, 95, 97, 110, 110, 111, 116, 97, 116, 105, 111, 110, 115, 95, 95]⟩, (.str ⟨#[95, 95, 97, 110, 110, 111, 116, 97, 116, 105, 111, 110, 115, 95, 95]⟩ 170), (.ref 6)⟩, ⟨PyData.keyHash P ⟨#[95, 95, 98, 117, 105, 108, 116, 105, 110, 115, 95, 95]⟩, (.str ⟨#[95, 95, 98, 117, 105, 108, 116, 105, 110, 115, 95, 95]⟩ 171), (.ref 4)⟩, ⟨PyData.keyHash P ⟨#[95, 95, 102, 105, 108, 101, 95, 95]⟩, (.str ⟨#[95, 95, 102, 105, 108, 101, 95, 95]⟩ 173), (.str ⟨#[47, 99, 108, 97, 105, 109, 47, 99, 117, 116, 46, 112, 121]⟩ 172)⟩, ⟨PyData.keyHash P ⟨#[95, 95, 99, 97, 99, 104, 101, 100, 95, 95]⟩, (.str ⟨#[95, 95, 99, 97, 99, 104, 101, 100, 95, 95]⟩ 174), (.none)⟩, ⟨PyData.keyHash P ⟨#[98, 49, 95, 115, 101, 116]⟩, (.str ⟨#[98, 49, 95, 115, 101, 116]⟩ 248), (.ref 22)⟩, ⟨PyData.keyHash P ⟨#[105, 110, 95, 116, 97, 98, 108, 101, 95, 98, 49]⟩, (.str ⟨#[105, 110, 95, 116, 97, 98, 108, 101, 95, 98, 49]⟩ 255), (.ref 32)⟩, ⟨PyData.keyHash P ⟨#[98, 51, 95, 101, 120, 99, 101, 112, 116, 105, 111, 110, 115]⟩, (.str ⟨#[98, 51, 95, 101, 120, 99, 101, 112, 116, 105, 111, 110, 115]⟩ 2206), (.ref 33)⟩, ⟨PyData.keyHash P ⟨#[109, 97, 112, 95, 116, 97, 98, 108, 101, 95, 98, 51]⟩, (.str ⟨#[109, 97, 112, 95, 116, 97, 98, 108, 101, 95, 98, 51]⟩ 2214), (.ref 78)⟩, ⟨PyData.keyHash P ⟨#[73, 110, 116, 50, 65, 80]⟩, (.str ⟨#[73, 110, 116, 50, 65, 80]⟩ 2226), (.ref 85)⟩, ⟨PyData.keyHash P ⟨#[95, 77, 65, 88, 95, 83, 84, 82, 73, 78, 71, 95, 83, 73, 90, 69]⟩, (.str ⟨#[95, 77, 65, 88, 95, 83, 84, 82, 73, 78, 71, 95, 83, 73, 90, 69]⟩ 2230), (.int 40 2229)⟩, ⟨PyData.keyHash P ⟨#[95, 77, 79, 86, 69, 95, 67, 79, 83, 84]⟩, (.str ⟨#[95, 77, 79, 86, 69, 95, 67, 79, 83, 84]⟩ 2232), (.int 2 2231)⟩, ⟨PyData.keyHash P ⟨#[95, 67, 65, 83, 69, 95, 67, 79, 83, 84]⟩, (.str ⟨#[95, 67, 65, 83, 69, 95, 67, 79, 83, 84]⟩ 2234), (.int 1 2233)⟩, ⟨PyData.keyHash P ⟨#[95, 115, 117, 98, 115, 116, 105, 116, 117, 116, 105, 111, 110, 95, 99, 111, 115, 116]⟩, (.str ⟨#[95, 115, 117, 98, 115, 116, 105, 116, 117, 116, 105, 111, 110, 95, 99, 111, 115, 116]⟩ 2242), (.ref 92)⟩, ⟨PyData.keyHash P ⟨#[95, 108, 101, 118, 101, 110, 115, 104, 116, 101, 105, 110, 95, 100, 105, 115, 116, 97, 110, 99, 101]⟩, (.str ⟨#[95, 108, 101, 118, 101, 110, 115, 104, 116, 101, 105, 110, 95, 100, 105, 115, 116, 97, 110, 99, 101]⟩ 2262), (.ref 99)⟩, ⟨PyData.keyHash P ⟨#[95, 108, 97, 119, 95, 112, 97, 115, 99, 97, 108]⟩, (.str ⟨#[95, 108, 97, 119, 95, 112, 97, 115, 99, 97, 108]⟩ 2270), (.ref 104)⟩, ⟨PyData.keyHash P ⟨#[95, 108, 97, 119, 95, 111, 110, 101, 115]⟩, (.str ⟨#[95, 108, 97, 119, 95, 111, 110, 101, 115]⟩ 2276), (.ref 109)⟩, ⟨PyData.keyHash P ⟨#[95, 108, 97, 119, 95, 119, 111, 114, 100]⟩, (.str ⟨#[95, 108, 97, 119, 95, 119, 111, 114, 100]⟩ 2285), (.ref 116)⟩, ⟨PyData.keyHash P ⟨#[95, 108, 97, 119, 95, 109, 97, 114, 107, 101, 100]⟩, (.str ⟨#[95, 108, 97, 119, 95, 109, 97, 114, 107, 101, 100]⟩ 2291), (.ref 121)⟩] 23), #[]⟩
noncomputable def o12v9 (P : Params) : Obj := ⟨(.none), none, (.fields #[(.int 3 0), (.int 0 0), (.ref 31), (.int 6 0), (.int 0 0), (.ref 77), (.int 12 0), (.int 0 0), (.ref 84), (.int 24 0), (.int 0 0), (.ref 91), (.int 30 0), (.int 0 0), (.ref 98), (.int 69 0), (.int 0 0), (.ref 103), (.int 74 0), (.int 0 0), (.ref 108), (.int 76 0), (.int 0 0), (.ref 115), (.int 81 0), (.int 0 0), (.ref 120)]), #[]⟩
noncomputable def o117v0 (P : Params) : Obj := ⟨(.type "tuple"), none, (.seq #[] 0), #[]⟩
noncomputable def o118v0 (P : Params) : Obj := ⟨(.none), none, (.fields #[]), #[]⟩
noncomputable def o119v0 (P : Params) : Obj := ⟨(.none), none, .func (fd st17 0 (.none) (.none) 0), #[]⟩
noncomputable def o120v0 (P : Params) : Obj := ⟨(.type "code"), none, (.fields #[(.str ⟨#[95, 108, 97, 119, 95, 109, 97, 114, 107, 101, 100]⟩ 2286), (.str ⟨#[95, 108, 97, 119, 95, 109, 97, 114, 107, 101, 100]⟩ 2287), (.str ⟨#[47, 99, 108, 97, 105, 109, 47, 99, 117, 116, 46, 112, 121]⟩ 2288), (.int 81 0), (.int 2 0), (.int 0 0), (.int 0 0), (.int 3 0), (.ref 117), (.bool true), (.int 181 0), (.ref 118), (.none), (.none), (.none), (.ref 119), (.int 2289 0), (.int 81 0), (.str ⟨#[47, 99, 108, 97, 105, 109, 47, 99, 117, 116, 46, 112, 121]⟩ 2290)]), #[]⟩
noncomputable def o121v0 (P : Params) : Obj := ⟨(.type "function"), none, .func (fd st17 3 (.str ⟨#[108, 97, 119, 95, 116, 97, 48, 48, 53, 49, 95, 48, 51]⟩ 2263) (.ref 120) 0), #[]⟩
noncomputable def T18 (P : Params) : BT := (.node (boot_o_0 P) (.node (boot_o_1 P) (.node (o3v18 P) (.node (boot_o_7 P) (.node (o15v0 P) (.node (o31v0 P) (.node (o63v0 P) .nil .nil) (.node (o95v0 P) .nil .nil)) (.node (o47v0 P) (.node (o79v0 P) .nil .nil) (.node (o111v0 P) .nil .nil))) (.node (o23v0 P) (.node (o39v0 P) (.node (o71v0 P) .nil .nil) (.node (o103v0 P) .nil .nil)) (.node (o55v0 P) (.node (o87v0 P) .nil .nil) (.node (o119v0 P) .nil .nil)))) (.node (o11v0 P) (.node (o19v0 P) (.node (o35v0 P) (.node (o67v0 P) .nil .nil) (.node (o99v0 P) .nil .nil)) (.node (o51v0 P) (.node (o83v0 P) .nil .nil) (.node (o115v0 P) .nil .nil))) (.node (o27v0 P) (.node (o43v0 P) (.node (o75v0 P) .nil .nil) (.node (o107v0 P) .nil .nil)) (.node (o59v0 P) (.node (o91v0 P) .nil .nil) .nil)))) (.node (boot_o_5 P) (.node (boot_o_9 P) (.node (o17v0 P) (.node (o33v0 P) (.node (o65v0 P) .nil .nil) (.node (o97v0 P) .nil .nil)) (.node (o49v0 P) (.node (o81v0 P) .nil .nil) (.node (o113v0 P) .nil .nil))) (.node (o25v0 P) (.node (o41v0 P) (.node (o73v0 P) .nil .nil) (.node (o105v0 P) .nil .nil)) (.node (o57v0 P) (.node (o89v0 P) .nil .nil) (.node (o121v0 P) .nil .nil)))) (.node (o13v0 P) (.node (o21v0 P) (.node (o37v0 P) (.node (o69v0 P) .nil .nil) (.node (o101v0 P) .nil .nil)) (.node (o53v0 P) (.node (o85v0 P) .nil .nil) (.node (o117v0 P) .nil .nil))) (.node (o29v0 P) (.node (o45v0 P) (.node (o77v0 P) .nil .nil) (.node (o109v0 P) .nil .nil)) (.node (o61v0 P) (.node (o93v0 P) .nil .nil) .nil))))) (.node (boot_o_2 P) (.node (boot_o_4 P) (.node (boot_o_8 P) (.node (o16v0 P) (.node (o32v0 P) (.node (o64v0 P) .nil .nil) (.node (o96v0 P) .nil .nil)) (.node (o48v0 P) (.node (o80v0 P) .nil .nil) (.node (o112v0 P) .nil .nil))) (.node (o24v0 P) (.node (o40v0 P) (.node (o72v0 P) .nil .nil) (.node (o104v0 P) .nil .nil)) (.node (o56v0 P) (.node (o88v0 P) .nil .nil) (.node (o120v0 P) .nil .nil)))) (.node (o12v9 P) (.node (o20v0 P) (.node (o36v0 P) (.node (o68v0 P) .nil .nil) (.node (o100v0 P) .nil .nil)) (.node (o52v0 P) (.node (o84v0 P) .nil .nil) (.node (o116v0 P) .nil .nil))) (.node (o28v0 P) (.node (o44v0 P) (.node (o76v0 P) .nil .nil) (.node (o108v0 P) .nil .nil)) (.node (o60v0 P) (.node (o92v0 P) .nil .nil) .nil)))) (.node (boot_o_6 P) (.node (boot_o_10 P) (.node (o18v0 P) (.node (o34v0 P) (.node (o66v0 P) .nil .nil) (.node (o98v0 P) .nil .nil)) (.node (o50v0 P) (.node (o82v0 P) .nil .nil) (.node (o114v0 P) .nil .nil))) (.node (o26v0 P) (.node (o42v0 P) (.node (o74v0 P) .nil .nil) (.node (o106v0 P) .nil .nil)) (.node (o58v0 P) (.node (o90v0 P) .nil .nil) .nil))) (.node (o14v0 P) (.node (o22v0 P) (.node (o38v0 P) (.node (o70v0 P) .nil .nil) (.node (o102v0 P) .nil .nil)) (.node (o54v0 P) (.node (o86v0 P) .nil .nil) (.node (o118v0 P) .nil .nil))) (.node (o30v0 P) (.node (o46v0 P) (.node (o78v0 P) .nil .nil) (.node (o110v0 P) .nil .nil)) (.node (o62v0 P) (.node (o94v0 P) .nil .nil) .nil))))))
theorem pt17 (w : World) (os : OsState) : segRunT treeTable pp w 11 (some (.ref 6)) 1 27 ⟨T17 w.params, 117, {}, #[], {}, 2286, os⟩ (piecesOf [st17] env (.body bd env) ⟨76, 0, 80, 42⟩ [topFrame ⟨0, 0, 0, 0⟩]) = some (.next, ⟨T18 w.params, 122, {}, #[], {}, 2292, os⟩, .body bd env, ⟨81, 0, 82, 101⟩) := by
  show segRunT treeTable pp _ 11 (some (.ref 6)) 1 27 _ ⟨(execs [st17] env).wrap doneF deadEnd id id, .body bd env, ⟨76, 0, 80, 42⟩, [topFrame ⟨0, 0, 0, 0⟩]⟩ = _
  rw [PySem.W.Fast.te10110043849684766642, PySem.W.Fast.te14364793385576792824, PySem.W.Fast.te12563942051412417395]
  kernel_rfl!
theorem pc17 (w : World) (os : OsState) : segRun treeTable pp w 11 (some (.ref 6)) 1 27 (SharedT.abs ⟨T17 w.params, 117, {}, #[], {}, 2286, os⟩) (piecesOf [st17] env (.body bd env) ⟨76, 0, 80, 42⟩ [topFrame ⟨0, 0, 0, 0⟩]) = some (.next, SharedT.abs ⟨T18 w.params, 122, {}, #[], {}, 2292, os⟩, .body bd env, ⟨81, 0, 82, 101⟩) := segRun_of (pt17 w os)
noncomputable def o3v19 (P : Params) : Obj := ⟨(.type "dict"), none, (.dict #[⟨PyData.keyHash P ⟨#[95, 95, 110, 97, 109, 101, 95, 95]⟩, (.str ⟨#[95, 95, 110, 97, 109, 101, 95, 95]⟩ 165), (.str ⟨#[108, 97, 119, 95, 116, 97, 48, 48, 53, 49, 95, 48, 51]⟩ 2263)⟩, ⟨PyData.keyHash P ⟨#[95, 95, 100, 111, 99, 95, 95]⟩, (.str ⟨#[95, 95, 100, 111, 99, 95, 95]⟩ 166), (.none)⟩, ⟨PyData.keyHash P ⟨#[95, 95, 112, 97, 99, 107, 97, 103, 101, 95, 95]⟩, (.str ⟨#[95, 95, 112, 97, 99, 107, 97, 103, 101, 95, 95]⟩ 167), (.none)⟩, ⟨PyData.keyHash P ⟨#[95, 95, 108, 111, 97, 100, 101, 114, 95, 95]⟩, (.str ⟨#[95, 95, 108, 111, 97, 100, 101, 114, 95, 95]⟩ 168), (.builtin "__main__.__loader__#opaque")⟩, ⟨PyData.keyHash P ⟨#[95, 95, 115, 112, 101, 99, 95, 95]⟩, (.str ⟨#[95, 95, 115, 112, 101, 99, 95, 95]⟩ 169), (.none)⟩, ⟨PyData.keyHash P ⟨#[95, 95, 97, 110, 110, 111, 116, 97, 116, 105, 111, 110, 115, 95, 95]⟩, (.str ⟨#[95, 95, 97, 110, 110, 111, 116, 97, 116, 105, 111, 110, 115, 95, 95]⟩ 170), (.ref 6)⟩, ⟨PyData.keyHash P ⟨#[95, 95, 98, 117, 105, 108, 116, 105, 110, 115, 95, 95]⟩, (.str ⟨#[95, 95, 98, 117, 105, 108, 116, 105, 110, 115, 95, 95]⟩ 171), (.ref 4)⟩, ⟨PyData.keyHash P ⟨#[95, 95, 102, 105, 108, 101, 95, 95]⟩, (.str ⟨#[95, 95, 102, 105, 108, 101, 95, 95]⟩ 173), (.str ⟨#[47, 99, 108, 97, 105, 109, 47, 99, 117, 116, 46, 112, 121]⟩ 172)⟩, ⟨PyData.keyHash P ⟨#[95, 95, 99, 97, 99, 104, 101, 100, 95, 95]⟩, (.str ⟨#[95, 95, 99, 97, 99, 104, 101, 100, 95, 95]⟩ 174), (.none)⟩, ⟨PyData.keyHash P ⟨#[98, 49, 95, 115, 101, 116]⟩, (.str ⟨#[98, 49, 95, 115, 101, 116]⟩ 248), (.ref 22)⟩, ⟨PyData.keyHash P ⟨#[105, 110, 95, 116, 97, 98, 108, 101, 95, 98, 49]⟩, (.str ⟨#[105, 110, 95, 116, 97, 98, 108, 101, 95, 98, 49]⟩ 255), (.ref 32)⟩, ⟨PyData.keyHash P ⟨#[98, 51, 95, 101, 120, 99, 101, 112, 116, 105, 111, 110, 115]⟩, (.str ⟨#[98, 51, 95, 101, 120, 99, 101, 112, 116, 105, 111, 110, 115]⟩ 2206), (.ref 33)⟩, ⟨PyData.keyHash P ⟨#[109, 97, 112, 95, 116, 97, 98, 108, 101, 95, 98, 51]⟩, (.str ⟨#[109, 97, 112, 95, 116, 97, 98, 108, 101, 95, 98, 51]⟩ 2214), (.ref 78)⟩, ⟨PyData.keyHash P ⟨#[73, 110, 116, 50, 65, 80]⟩, (.str ⟨#[73, 110, 116, 50, 65, 80]⟩ 2226), (.ref 85)⟩, ⟨PyData.keyHash P ⟨#[95, 77, 65, 88, 95, 83, 84, 82, 73, 78, 71, 95, 83, 73, 90, 69]⟩, (.str ⟨#[95, 77, 65, 88, 95, 83, 84, 82, 73, 78, 71, 95, 83, 73, 90, 69]⟩ 2230), (.int 40 2229)⟩, ⟨PyData.keyHash P ⟨#[95, 77, 79, 86, 69, 95, 67, 79, 83, 84]⟩, (.str ⟨#[95, 77, 79, 86, 69, 95, 67, 79, 83, 84]⟩ 2232), (.int 2 2231)⟩, ⟨PyData.keyHash P ⟨#[95, 67, 65, 83, 69, 95, 67, 79, 83, 84]⟩, (.str ⟨#[95, 67, 65, 83, 69, 95, 67, 79, 83, 84]⟩ 2234), (.int 1 2233)⟩, ⟨PyData.keyHash P ⟨#[95, 115, 117, 98, 115, 116, 105, 116, 117, 116, 105, 111, 110, 95, 99, 111, 115, 116]⟩, (.str ⟨#[95, 115, 117, 98, 115, 116, 105, 116, 117, 116, 105, 111, 110, 95, 99, 111, 115, 116]⟩ 2242), (.ref 92)⟩, ⟨PyData.keyHash P ⟨#[95, 108, 101, 118, 101, 110, 115, 104, 116, 101, 105, 110, 95, 100, 105, 115, 116, 97, 110, 99, 101]⟩, (.str ⟨#[95, 108, 101, 118, 101, 110, 115, 104, 116, 101, 105, 110, 95, 100, 105, 115, 116, 97, 110, 99, 101]⟩ 2262), (.ref 99)⟩, ⟨PyData.keyHash P ⟨#[95, 108, 97, 119, 95, 112, 97, 115, 99, 97, 108]⟩, (.str ⟨#[95, 108, 97, 119, 95, 112, 97, 115, 99, 97, 108]⟩ 2270), (.ref 104)⟩, ⟨PyData.keyHash P ⟨#[95, 108, 97, 119, 95, 111, 110, 101, 115]⟩, (.str ⟨#[95, 108, 97, 119, 95, 111, 110, 101, 115]⟩ 2276), (.ref 109)⟩, ⟨PyData.keyHash P ⟨#[95, 108, 97, 119, 95, 119, 111, 114, 100]⟩, (.str ⟨#[95, 108, 97, 119, 95, 119, 111, 114, 100]⟩ 2285), (.ref 116)⟩, ⟨PyData.keyHash P ⟨#[95, 108, 97, 119, 95, 109, 97, 114, 107, 101, 100]⟩, (.str ⟨#[95, 108, 97, 119, 95, 109, 97, 114, 107, 101, 100]⟩ 2291), (.ref 121)⟩, ⟨PyData.keyHash P ⟨#[108, 97, 119]⟩, (.str ⟨#[108, 97, 119]⟩ 2297), (.ref 126)⟩] 24), #[]⟩
noncomputable def o12v10 (P : Params) : Obj := ⟨(.none), none, (.fields #[(.int 3 0), (.int 0 0), (.ref 31), (.int 6 0), (.int 0 0), (.ref 77), (.int 12 0), (.int 0 0), (.ref 84), (.int 24 0), (.int 0 0), (.ref 91), (.int 30 0), (.int 0 0), (.ref 98), (.int 69 0), (.int 0 0), (.ref 103), (.int 74 0), (.int 0 0), (.ref 108), (.int 76 0), (.int 0 0), (.ref 115), (.int 81 0), (.int 0 0), (.ref 120), (.int 83 0), (.int 0 0), (.ref 125)]), #[]⟩
noncomputable def o122v0 (P : Params) : Obj := ⟨(.type "tuple"), none, (.seq #[] 0), #[]⟩
noncomputable def o123v0 (P : Params) : Obj := ⟨(.none), none, (.fields #[]), #[]⟩
noncomputable def o124v0 (P : Params) : Obj := ⟨(.none), none, .func (fd st18 0 (.none) (.none) 0), #[]⟩
noncomputable def o125v0 (P : Params) : Obj := ⟨(.type "code"), none, (.fields #[(.str ⟨#[108, 97, 119]⟩ 2292), (.str ⟨#[108, 97, 119]⟩ 2293), (.str ⟨#[47, 99, 108, 97, 105, 109, 47, 99, 117, 116, 46, 112, 121]⟩ 2294), (.int 83 0), (.int 1 0), (.int 0 0), (.int 0 0), (.int 3 0), (.ref 122), (.bool true), (.int 181 0), (.ref 123), (.none), (.none), (.none), (.ref 124), (.int 2295 0), (.int 83 0), (.str ⟨#[47, 99, 108, 97, 105, 109, 47, 99, 117, 116, 46, 112, 121]⟩ 2296)]), #[]⟩
noncomputable def o126v0 (P : Params) : Obj := ⟨(.type "function"), none, .func (fd st18 3 (.str ⟨#[108, 97, 119, 95, 116, 97, 48, 48, 53, 49, 95, 48, 51]⟩ 2263) (.ref 125) 0), #[]⟩
noncomputable def T19 (P : Params) : BT := (.node (boot_o_0 P) (.node (boot_o_1 P) (.node (o3v19 P) (.node (boot_o_7 P) (.node (o15v0 P) (.node (o31v0 P) (.node (o63v0 P) .nil .nil) (.node (o95v0 P) .nil .nil)) (.node (o47v0 P) (.node (o79v0 P) .nil .nil) (.node (o111v0 P) .nil .nil))) (.node (o23v0 P) (.node (o39v0 P) (.node (o71v0 P) .nil .nil) (.node (o103v0 P) .nil .nil)) (.node (o55v0 P) (.node (o87v0 P) .nil .nil) (.node (o119v0 P) .nil .nil)))) (.node (o11v0 P) (.node (o19v0 P) (.node (o35v0 P) (.node (o67v0 P) .nil .nil) (.node (o99v0 P) .nil .nil)) (.node (o51v0 P) (.node (o83v0 P) .nil .nil) (.node (o115v0 P) .nil .nil))) (.node (o27v0 P) (.node (o43v0 P) (.node (o75v0 P) .nil .nil) (.node (o107v0 P) .nil .nil)) (.node (o59v0 P) (.node (o91v0 P) .nil .nil) (.node (o123v0 P) .nil .nil))))) (.node (boot_o_5 P) (.node (boot_o_9 P) (.node (o17v0 P) (.node (o33v0 P) (.node (o65v0 P) .nil .nil) (.node (o97v0 P) .nil .nil)) (.node (o49v0 P) (.node (o81v0 P) .nil .nil) (.node (o113v0 P) .nil .nil))) (.node (o25v0 P) (.node (o41v0 P) (.node (o73v0 P) .nil .nil) (.node (o105v0 P) .nil .nil)) (.node (o57v0 P) (.node (o89v0 P) .nil .nil) (.node (o121v0 P) .nil .nil)))) (.node (o13v0 P) (.node (o21v0 P) (.node (o37v0 P) (.node (o69v0 P) .nil .nil) (.node (o101v0 P) .nil .nil)) (.node (o53v0 P) (.node (o85v0 P) .nil .nil) (.node (o117v0 P) .nil .nil))) (.node (o29v0 P) (.node (o45v0 P) (.node (o77v0 P) .nil .nil) (.node (o109v0 P) .nil .nil)) (.node (o61v0 P) (.node (o93v0 P) .nil .nil) (.node (o125v0 P) .nil .nil)))))) (.node (boot_o_2 P) (.node (boot_o_4 P) (.node (boot_o_8 P) (.node (o16v0 P) (.node (o32v0 P) (.node (o64v0 P) .nil .nil) (.node (o96v0 P) .nil .nil)) (.node (o48v0 P) (.node (o80v0 P) .nil .nil) (.node (o112v0 P) .nil .nil))) (.node (o24v0 P) (.node (o40v0 P) (.node (o72v0 P) .nil .nil) (.node (o104v0 P) .nil .nil)) (.node (o56v0 P) (.node (o88v0 P) .nil .nil) (.node (o120v0 P) .nil .nil)))) (.node (o12v10 P) (.node (o20v0 P) (.node (o36v0 P) (.node (o68v0 P) .nil .nil) (.node (o100v0 P) .nil .nil)) (.node (o52v0 P) (.node (o84v0 P) .nil .nil) (.node (o116v0 P) .nil .nil))) (.node (o28v0 P) (.node (o44v0 P) (.node (o76v0 P) .nil .nil) (.node (o108v0 P) .nil .nil)) (.node (o60v0 P) (.node (o92v0 P) .nil .nil) (.node (o124v0 P) .nil .nil))))) (.node (boot_o_6 P) (.node (boot_o_10 P) (.node (o18v0 P) (.node (o34v0 P) (.node (o66v0 P) .nil .nil) (.node (o98v0 P) .nil .nil)) (.node (o50v0 P) (.node (o82v0 P) .nil .nil) (.node (o114v0 P) .nil .nil))) (.node (o26v0 P) (.node (o42v0 P) (.node (o74v0 P) .nil .nil) (.node (o106v0 P) .nil .nil)) (.node (o58v0 P) (.node (o90v0 P) .nil .nil) (.node (o122v0 P) .nil .nil)))) (.node (o14v0 P) (.node (o22v0 P) (.node (o38v0 P) (.node (o70v0 P) .nil .nil) (.node (o102v0 P) .nil .nil)) (.node (o54v0 P) (.node (o86v0 P) .nil .nil) (.node (o118v0 P) .nil .nil))) (.node (o30v0 P) (.node (o46v0 P) (.node (o78v0 P) .nil .nil) (.node (o110v0 P) .nil .nil)) (.node (o62v0 P) (.node (o94v0 P) .nil .nil) (.node (o126v0 P) .nil .nil)))))))
theorem pt18 (w : World) (os : OsState) : segRunT treeTable pp w 11 (some (.ref 6)) 1 27 ⟨T18 w.params, 122, {}, #[], {}, 2292, os⟩ (piecesOf [st18] env (.body bd env) ⟨81, 0, 82, 101⟩ [topFrame ⟨0, 0, 0, 0⟩]) = some (.next, ⟨T19 w.params, 127, {}, #[], {}, 2298, os⟩, .body bd env, ⟨83, 0, 119, 66⟩) := by
  show segRunT treeTable pp _ 11 (some (.ref 6)) 1 27 _ ⟨(execs [st18] env).wrap doneF deadEnd id id, .body bd env, ⟨81, 0, 82, 101⟩, [topFrame ⟨0, 0, 0, 0⟩]⟩ = _
  rw [PySem.W.Fast.te10110043849684766642, PySem.W.Fast.te14364793385576792824, PySem.W.Fast.te12563942051412417395]
  kernel_rfl!
theorem pc18 (w : World) (os : OsState) : segRun treeTable pp w 11 (some (.ref 6)) 1 27 (SharedT.abs ⟨T18 w.params, 122, {}, #[], {}, 2292, os⟩) (piecesOf [st18] env (.body bd env) ⟨81, 0, 82, 101⟩ [topFrame ⟨0, 0, 0, 0⟩]) = some (.next, SharedT.abs ⟨T19 w.params, 127, {}, #[], {}, 2298, os⟩, .body bd env, ⟨83, 0, 119, 66⟩) := segRun_of (pt18 w os)
noncomputable def H1 (P : Params) : Heap := Heap.mk (Array.mk [boot_o_0 P, boot_o_1 P, boot_o_2 P, o3v19 P, boot_o_4 P, boot_o_5 P, boot_o_6 P, boot_o_7 P, boot_o_8 P, boot_o_9 P, boot_o_10 P, o11v0 P, o12v10 P, o13v0 P, o14v0 P, o15v0 P, o16v0 P, o17v0 P, o18v0 P, o19v0 P, o20v0 P, o21v0 P, o22v0 P, o23v0 P, o24v0 P, o25v0 P, o26v0 P, o27v0 P, o28v0 P, o29v0 P, o30v0 P, o31v0 P, o32v0 P, o33v0 P, o34v0 P, o35v0 P, o36v0 P, o37v0 P, o38v0 P, o39v0 P, o40v0 P, o41v0 P, o42v0 P, o43v0 P, o44v0 P, o45v0 P, o46v0 P, o47v0 P, o48v0 P, o49v0 P, o50v0 P, o51v0 P, o52v0 P, o53v0 P, o54v0 P, o55v0 P, o56v0 P, o57v0 P, o58v0 P, o59v0 P, o60v0 P, o61v0 P, o62v0 P, o63v0 P, o64v0 P, o65v0 P, o66v0 P, o67v0 P, o68v0 P, o69v0 P, o70v0 P, o71v0 P, o72v0 P, o73v0 P, o74v0 P, o75v0 P, o76v0 P, o77v0 P, o78v0 P, o79v0 P, o80v0 P, o81v0 P, o82v0 P, o83v0 P, o84v0 P, o85v0 P, o86v0 P, o87v0 P, o88v0 P, o89v0 P, o90v0 P, o91v0 P, o92v0 P, o93v0 P, o94v0 P, o95v0 P, o96v0 P, o97v0 P, o98v0 P, o99v0 P, o100v0 P, o101v0 P, o102v0 P, o103v0 P, o104v0 P, o105v0 P, o106v0 P, o107v0 P, o108v0 P, o109v0 P, o110v0 P, o111v0 P, o112v0 P, o113v0 P, o114v0 P, o115v0 P, o116v0 P, o117v0 P, o118v0 P, o119v0 P, o120v0 P, o121v0 P, o122v0 P, o123v0 P, o124v0 P, o125v0 P, o126v0 P]) {}
theorem fin_run (w : World) (os : OsState) : topRun treeTable pp w 11 (some (.ref 6)) 2 (SharedT.abs ⟨T19 w.params, 127, {}, #[], {}, 2298, os⟩) ⟨doneF .next, .body bd env, ⟨83, 0, 119, 66⟩, [topFrame ⟨0, 0, 0, 0⟩]⟩ = some ⟨H1 w.params, #[], {}, 2298, os⟩ := by
  rw [PySem.W.Fast.te14082659384304107361, PySem.W.Fast.te14364793385576792824]
  kernel_rfl!
theorem rr19 (w : World) (os : OsState) : topRun treeTable pp w 11 (some (.ref 6)) 2 (SharedT.abs ⟨T19 w.params, 127, {}, #[], {}, 2298, os⟩) (restOf [] env (.body bd env) ⟨83, 0, 119, 66⟩ [topFrame ⟨0, 0, 0, 0⟩]) = some ⟨H1 w.params, #[], {}, 2298, os⟩ := piece_nil (fin_run w os)
theorem rr18 (w : World) (os : OsState) : topRun treeTable pp w 11 (some (.ref 6)) 29 (SharedT.abs ⟨T18 w.params, 122, {}, #[], {}, 2292, os⟩) (restOf (st18 :: []) env (.body bd env) ⟨81, 0, 82, 101⟩ [topFrame ⟨0, 0, 0, 0⟩]) = some ⟨H1 w.params, #[], {}, 2298, os⟩ := by
  have h := pc18 w os
  have k := rr19 w os
  have r := piece_app h k
  exact r
theorem rr17 (w : World) (os : OsState) : topRun treeTable pp w 11 (some (.ref 6)) 56 (SharedT.abs ⟨T17 w.params, 117, {}, #[], {}, 2286, os⟩) (restOf (st17 :: [st18]) env (.body bd env) ⟨76, 0, 80, 42⟩ [topFrame ⟨0, 0, 0, 0⟩]) = some ⟨H1 w.params, #[], {}, 2298, os⟩ := by
  have h := pc17 w os
  have k := rr18 w os
  have r := piece_app h k
  exact r
theorem rr16 (w : World) (os : OsState) : topRun treeTable pp w 11 (some (.ref 6)) 88 (SharedT.abs ⟨T16 w.params, 110, {}, #[], {}, 2277, os⟩) (restOf (st16 :: [st17, st18]) env (.body bd env) ⟨74, 0, 75, 66⟩ [topFrame ⟨0, 0, 0, 0⟩]) = some ⟨H1 w.params, #[], {}, 2298, os⟩ := by
  have h := pc16 w os
  have k := rr17 w os
  have r := piece_app h k
  exact r
theorem rr15 (w : World) (os : OsState) : topRun treeTable pp w 11 (some (.ref 6)) 115 (SharedT.abs ⟨T15 w.params, 105, {}, #[], {}, 2271, os⟩) (restOf (st15 :: [st16, st17, st18]) env (.body bd env) ⟨69, 0, 73, 14⟩ [topFrame ⟨0, 0, 0, 0⟩]) = some ⟨H1 w.params, #[], {}, 2298, os⟩ := by
  have h := pc15 w os
  have k := rr16 w os
  have r := piece_app h k
  exact r
theorem rr14 (w : World) (os : OsState) : topRun treeTable pp w 11 (some (.ref 6)) 142 (SharedT.abs ⟨T14 w.params, 100, {}, #[], {}, 2265, os⟩) (restOf (st14 :: [st15, st16, st17, st18]) env (.body bd env) ⟨68, 0, 68, 8⟩ [topFrame ⟨0, 0, 0, 0⟩]) = some ⟨H1 w.params, #[], {}, 2298, os⟩ := by
  have h := pc14 w os
  have k := rr15 w os
  have r := piece_app h k
  exact r
theorem rr13 (w : World) (os : OsState) : topRun treeTable pp w 11 (some (.ref 6)) 152 (SharedT.abs ⟨T13 w.params, 100, {}, #[], {}, 2263, os⟩) (restOf (st13 :: [st14, st15, st16, st17, st18]) env (.body bd env) ⟨30, 0, 67, 17⟩ [topFrame ⟨0, 0, 0, 0⟩]) = some ⟨H1 w.params, #[], {}, 2298, os⟩ := by
  have h := pc13 w os
  have k := rr14 w os
  have r := piece_app h k
  exact r
theorem rr12 (w : World) (os : OsState) : topRun treeTable pp w 11 (some (.ref 6)) 195 (SharedT.abs ⟨T12 w.params, 93, {}, #[], {}, 2243, os⟩) (restOf (st12 :: [st13, st14, st15, st16, st17, st18]) env (.body bd env) ⟨24, 0, 29, 21⟩ [topFrame ⟨0, 0, 0, 0⟩]) = some ⟨H1 w.params, #[], {}, 2298, os⟩ := by
  have h := pc12 w os
  have k := rr13 w os
  have r := piece_app h k
  exact r
theorem rr11 (w : World) (os : OsState) : topRun treeTable pp w 11 (some (.ref 6)) 226 (SharedT.abs ⟨T11 w.params, 86, {}, #[], {}, 2235, os⟩) (restOf (st11 :: [st12, st13, st14, st15, st16, st17, st18]) env (.body bd env) ⟨23, 0, 23, 10⟩ [topFrame ⟨0, 0, 0, 0⟩]) = some ⟨H1 w.params, #[], {}, 2298, os⟩ := by
  have h := pc11 w os
  have k := rr12 w os
  have r := piece_app h k
  exact r
theorem rr10 (w : World) (os : OsState) : topRun treeTable pp w 11 (some (.ref 6)) 236 (SharedT.abs ⟨T10 w.params, 86, {}, #[], {}, 2233, os⟩) (restOf (st10 :: [st11, st12, st13, st14, st15, st16, st17, st18]) env (.body bd env) ⟨22, 0, 22, 10⟩ [topFrame ⟨0, 0, 0, 0⟩]) = some ⟨H1 w.params, #[], {}, 2298, os⟩ := by
  have h := pc10 w os
  have k := rr11 w os
  have r := piece_app h k
  exact r
theorem rr9 (w : World) (os : OsState) : topRun treeTable pp w 11 (some (.ref 6)) 246 (SharedT.abs ⟨T9 w.params, 86, {}, #[], {}, 2231, os⟩) (restOf (st9 :: [st10, st11, st12, st13, st14, st15, st16, st17, st18]) env (.body bd env) ⟨21, 0, 21, 16⟩ [topFrame ⟨0, 0, 0, 0⟩]) = some ⟨H1 w.params, #[], {}, 2298, os⟩ := by
  have h := pc9 w os
  have k := rr10 w os
  have r := piece_app h k
  exact r
theorem rr8 (w : World) (os : OsState) : topRun treeTable pp w 11 (some (.ref 6)) 256 (SharedT.abs ⟨T8 w.params, 86, {}, #[], {}, 2229, os⟩) (restOf (st8 :: [st9, st10, st11, st12, st13, st14, st15, st16, st17, st18]) env (.body bd env) ⟨20, 0, 20, 8⟩ [topFrame ⟨0, 0, 0, 0⟩]) = some ⟨H1 w.params, #[], {}, 2298, os⟩ := by
  have h := pc8 w os
  have k := rr9 w os
  have r := piece_app h k
  exact r
theorem rr7 (w : World) (os : OsState) : topRun treeTable pp w 11 (some (.ref 6)) 266 (SharedT.abs ⟨T7 w.params, 86, {}, #[], {}, 2227, os⟩) (restOf (st7 :: [st8, st9, st10, st11, st12, st13, st14, st15, st16, st17, st18]) env (.body bd env) ⟨12, 0, 19, 14⟩ [topFrame ⟨0, 0, 0, 0⟩]) = some ⟨H1 w.params, #[], {}, 2298, os⟩ := by
  have h := pc7 w os
  have k := rr8 w os
  have r := piece_app h k
  exact r
theorem rr6 (w : World) (os : OsState) : topRun treeTable pp w 11 (some (.ref 6)) 299 (SharedT.abs ⟨T6 w.params, 79, {}, #[], {}, 2217, os⟩) (restOf (st6 :: [st7, st8, st9, st10, st11, st12, st13, st14, st15, st16, st17, st18]) env (.body bd env) ⟨11, 0, 11, 8⟩ [topFrame ⟨0, 0, 0, 0⟩]) = some ⟨H1 w.params, #[], {}, 2298, os⟩ := by
  have h := pc6 w os
  have k := rr7 w os
  have r := piece_app h k
  exact r
theorem rr5 (w : World) (os : OsState) : topRun treeTable pp w 11 (some (.ref 6)) 309 (SharedT.abs ⟨T5 w.params, 79, {}, #[], {}, 2215, os⟩) (restOf (st5 :: [st6, st7, st8, st9, st10, st11, st12, st13, st14, st15, st16, st17, st18]) env (.body bd env) ⟨6, 0, 10, 23⟩ [topFrame ⟨0, 0, 0, 0⟩]) = some ⟨H1 w.params, #[], {}, 2298, os⟩ := by
  have h := pc5 w os
  have k := rr6 w os
  have r := piece_app h k
  exact r
theorem rr4 (w : World) (os : OsState) : topRun treeTable pp w 11 (some (.ref 6)) 340 (SharedT.abs ⟨T4 w.params, 72, {}, #[], {}, 2207, os⟩) (restOf (st4 :: [st5, st6, st7, st8, st9, st10, st11, st12, st13, st14, st15, st16, st17, st18]) env (.body bd env) ⟨5, 0, 5, 13⟩ [topFrame ⟨0, 0, 0, 0⟩]) = some ⟨H1 w.params, #[], {}, 2298, os⟩ := by
  have h := pc4 w os
  have k := rr5 w os
  have r := piece_app h k
  exact r
theorem rr3 (w : World) (os : OsState) : topRun treeTable pp w 11 (some (.ref 6)) 13402 (SharedT.abs ⟨T3 w.params, 33, {}, #[], {}, 256, os⟩) (restOf (st3 :: [st4, st5, st6, st7, st8, st9, st10, st11, st12, st13, st14, st15, st16, st17, st18]) env (.body bd env) ⟨3, 0, 4, 30⟩ [topFrame ⟨0, 0, 0, 0⟩]) = some ⟨H1 w.params, #[], {}, 2298, os⟩ := by
  have h := pc3 w os
  have k := rr4 w os
  have r := piece_app h k
  exact r
theorem rr2 (w : World) (os : OsState) : topRun treeTable pp w 11 (some (.ref 6)) 13432 (SharedT.abs ⟨T2 w.params, 26, {}, #[], {}, 249, os⟩) (restOf (st2 :: [st3, st4, st5, st6, st7, st8, st9, st10, st11, st12, st13, st14, st15, st16, st17, st18]) env (.body bd env) ⟨2, 0, 2, 6⟩ [topFrame ⟨0, 0, 0, 0⟩]) = some ⟨H1 w.params, #[], {}, 2298, os⟩ := by
  have h := pc2 w os
  have k := rr3 w os
  have r := piece_app h k
  exact r
theorem rr1 (w : World) (os : OsState) : topRun treeTable pp w 11 (some (.ref 6)) 14431 (SharedT.abs ⟨T1 w.params, 15, {}, #[], {}, 189, os⟩) (restOf (st1 :: [st2, st3, st4, st5, st6, st7, st8, st9, st10, st11, st12, st13, st14, st15, st16, st17, st18]) env (.body bd env) ⟨1, 0, 1, 8⟩ [topFrame ⟨0, 0, 0, 0⟩]) = some ⟨H1 w.params, #[], {}, 2298, os⟩ := by
  have h := pc1 w os
  have k := rr2 w os
  have r := piece_app h k
  exact r
theorem rr0 (w : World) (os : OsState) : topRun treeTable pp w 11 (some (.ref 6)) 14441 (SharedT.abs ⟨T0 w.params, 15, {}, #[], {}, 187, os⟩) (restOf (st0 :: [st1, st2, st3, st4, st5, st6, st7, st8, st9, st10, st11, st12, st13, st14, st15, st16, st17, st18]) env (.body bd env) ⟨0, 0, 0, 0⟩ [topFrame ⟨0, 0, 0, 0⟩]) = some ⟨H1 w.params, #[], {}, 2298, os⟩ := by
  have h := pc0 w os
  have k := rr1 w os
  have r := piece_app h k
  exact r
theorem whole_run (w : World) (os : OsState) : topRun treeTable pp w 11 (some (.ref 6)) 14454 ⟨boot_heap w.params, Array.mk [], boot_drawn, boot_toks, os⟩ (topStub pp) = some ⟨H1 w.params, #[], {}, 2298, os⟩ := by
  have k := rr0 w os
  rw [← bd_eq] at k
  have r1 := piece_block (block_run w os) k
  have r2 := go_top (pre_run w os) r1
  exact r2
noncomputable def vq : Program := { pp with main := { pp.main with body := [st18] } }
noncomputable def loose : List PySem.Str := [(PySem.Str.ofString "b1_set"), (PySem.Str.ofString "in_table_b1"), (PySem.Str.ofString "b3_exceptions"), (PySem.Str.ofString "map_table_b3"), (PySem.Str.ofString "Int2AP"), (PySem.Str.ofString "_MAX_STRING_SIZE"), (PySem.Str.ofString "_MOVE_COST"), (PySem.Str.ofString "_CASE_COST"), (PySem.Str.ofString "_substitution_cost"), (PySem.Str.ofString "_levenshtein_distance"), (PySem.Str.ofString "_law_pascal"), (PySem.Str.ofString "_law_ones"), (PySem.Str.ofString "_law_word"), (PySem.Str.ofString "_law_marked")]
noncomputable def KK (P : Params) : Frag := [(3, o3v19 P), (4, boot_o_4 P), (5, boot_o_5 P), (6, boot_o_6 P), (7, boot_o_7 P), (8, boot_o_8 P), (9, boot_o_9 P), (10, boot_o_10 P), (11, o11v0 P), (12, o12v10 P), (13, o13v0 P), (14, o14v0 P), (15, o15v0 P), (16, o16v0 P), (17, o17v0 P), (18, o18v0 P), (19, o19v0 P), (20, o20v0 P), (21, o21v0 P), (22, o22v0 P), (23, o23v0 P), (24, o24v0 P), (25, o25v0 P), (26, o26v0 P), (27, o27v0 P), (28, o28v0 P), (29, o29v0 P), (30, o30v0 P), (31, o31v0 P), (32, o32v0 P), (33, o33v0 P), (34, o34v0 P), (35, o35v0 P), (36, o36v0 P), (37, o37v0 P), (38, o38v0 P), (39, o39v0 P), (40, o40v0 P), (41, o41v0 P), (42, o42v0 P), (43, o43v0 P), (44, o44v0 P), (45, o45v0 P), (46, o46v0 P), (47, o47v0 P), (48, o48v0 P), (49, o49v0 P), (50, o50v0 P), (51, o51v0 P), (52, o52v0 P), (53, o53v0 P), (54, o54v0 P), (55, o55v0 P), (56, o56v0 P), (57, o57v0 P), (58, o58v0 P), (59, o59v0 P), (60, o60v0 P), (61, o61v0 P), (62, o62v0 P), (63, o63v0 P), (64, o64v0 P), (65, o65v0 P), (66, o66v0 P), (67, o67v0 P), (68, o68v0 P), (69, o69v0 P), (70, o70v0 P), (71, o71v0 P), (72, o72v0 P), (73, o73v0 P), (74, o74v0 P), (75, o75v0 P), (76, o76v0 P), (77, o77v0 P), (78, o78v0 P), (79, o79v0 P), (80, o80v0 P), (81, o81v0 P), (82, o82v0 P), (83, o83v0 P), (84, o84v0 P), (85, o85v0 P), (86, o86v0 P), (87, o87v0 P), (88, o88v0 P), (89, o89v0 P), (90, o90v0 P), (91, o91v0 P), (92, o92v0 P), (93, o93v0 P), (94, o94v0 P), (95, o95v0 P), (96, o96v0 P), (97, o97v0 P), (98, o98v0 P), (99, o99v0 P), (100, o100v0 P), (101, o101v0 P), (102, o102v0 P), (103, o103v0 P), (104, o104v0 P), (105, o105v0 P), (106, o106v0 P), (107, o107v0 P), (108, o108v0 P), (109, o109v0 P), (110, o110v0 P), (111, o111v0 P), (112, o112v0 P), (113, o113v0 P), (114, o114v0 P), (115, o115v0 P), (116, o116v0 P), (117, o117v0 P), (118, o118v0 P), (119, o119v0 P), (120, o120v0 P), (121, o121v0 P), (122, o122v0 P), (123, o123v0 P), (124, o124v0 P), (125, o125v0 P), (126, o126v0 P)]
noncomputable def KA : List Addr := [3, 4, 5, 6, 7, 8, 9, 10, 11, 12, 13, 14, 15, 16, 17, 18, 19, 20, 21, 22, 23, 24, 25, 26, 27, 28, 29, 30, 31, 32, 33, 34, 35, 36, 37, 38, 39, 40, 41, 42, 43, 44, 45, 46, 47, 48, 49, 50, 51, 52, 53, 54, 55, 56, 57, 58, 59, 60, 61, 62, 63, 64, 65, 66, 67, 68, 69, 70, 71, 72, 73, 74, 75, 76, 77, 78, 79, 80, 81, 82, 83, 84, 85, 86, 87, 88, 89, 90, 91, 92, 93, 94, 95, 96, 97, 98, 99, 100, 101, 102, 103, 104, 105, 106, 107, 108, 109, 110, 111, 112, 113, 114, 115, 116, 117, 118, 119, 120, 121, 122, 123, 124, 125, 126]
theorem KA_eq : ∀ P, KA = (KK P).map (·.1) := fun P => by kernel_rfl!
-- keep [18] NN 15454
noncomputable def NN : Nat := 15454
theorem open_run : ∀ w : World, (fencedOpening treeTable pp w NN).map (fun s => (s.heap, s.gens, s.drawn, s.toks)) = some (boot_heap w.params, Array.mk [], boot_drawn, boot_toks) := boot_open (by kernel_rfl!) (by decide +kernel) (fun s => by kernel_rfl!)
theorem size_run (w : World) : ((boot_heap w.params).isNs mainGlobals && (Array.mk [] : Array GenState).size == 0, (boot_heap w.params).objs.size, (boot_heap w.params).nsMap mainGlobals "__annotations__") = (true, 11, (some (.ref 6))) := by
  rw [PySem.W.Fast.te8920871248978507458]
  kernel_rfl!
-- M 14454 toks 2298
end L3
end
end Mine
namespace Mine
open PySem PySem.W PyProof.Rows PySem.Calls
noncomputable section
namespace L3
noncomputable abbrev RR : OpenRow := PySem.Challenge.rw_ta0051_03.row
noncomputable abbrev XX : Shared → Bool := fun s => xlAt vq [] s && recOk (RowW.records RR.toRowW) s
noncomputable abbrev hook : Hook := kHook KK KA KA_eq
noncomputable abbrev SS (w : World) (os : OsState) : Shared := ⟨H1 w.params, #[], {}, 2298, os⟩
noncomputable abbrev mods : List PySem.Str := importedModules pp.main.body
theorem lk1 (w : World) (os : OsState) : (staticsOk mods (boot_heap w.params) (H1 w.params) && namesBound pp (H1 w.params) && gensDone (SS w os) && laidKept (boot_heap w.params) (H1 w.params)) = true := by
  kernel_rfl!
theorem lk3 (w : World) (os : OsState) : hook.obs (SS w os) = hook.val w := by kernel_rfl!
theorem s1 (w : World) (os : OsState) : seen ((recsOf vq).map (·.name)) (ownsOf vq) [] { SS w os with gens := #[] } = expectedOf vq := by kernel_rfl!
theorem s2 (w : World) (os : OsState) : (SS w os).heap.bltView = bltViewBooted := by kernel_rfl!
theorem s3 (w : World) (os : OsState) : ((SS w os).heap.keysOk (looseW vq loose) ((recsOf vq).map (·.name)) ((litsOf vq).map (·.1)) ((clssOf vq (looseW vq loose)).map (·.name)) && (SS w os).heap.accountedOkI mods && (SS w os).heap.isNs mainGlobals && (SS w os).heap.isNs builtinsNs && tablesOk vq (SS w os).heap && XX (SS w os) && (if true then (SS w os).gens.size == 0 else !leftWithCleanup (SS w os).gens)) = true := by kernel_rfl!
theorem s4 (w : World) (os : OsState) : tabsOk vq (SS w os) = true := by kernel_rfl!
theorem s5 (w : World) (os : OsState) : pinSeenD vq (drecsOf vq) (SS w os) = pinGoodD (drecsOf vq) := by kernel_rfl!
theorem s6 (w : World) (os : OsState) : plainSeenE vq (looseW vq loose) (SS w os) = plainGoodE vq (looseW vq loose) := by kernel_rfl!
theorem s7 (w : World) (os : OsState) : plainSeenD vq loose (SS w os) = plainGoodD vq loose := by kernel_rfl!
theorem s8 (w : World) (os : OsState) : wideSeen vq (SS w os) = wideGood vq := by kernel_rfl!
theorem s9 (w : World) (os : OsState) : clsSeenW vq loose (SS w os) = clsGoodW vq loose := by kernel_rfl!
theorem looks (w : World) : (fun os => ((staticsOk mods (boot_heap w.params) (H1 w.params) && namesBound pp (H1 w.params) && gensDone (SS w os) && laidKept (boot_heap w.params) (H1 w.params)),
        openSeen vq loose mods XX true (SS w os), hook.obs (SS w os))) = fun _ => (true, openGood vq loose, hook.val w) :=
  funext fun os => looks_pair (lk1 w os) (looks_pair (looks_pair (s1 w os) (looks_pair (s2 w os) (looks_pair (s3 w os) (looks_pair (s4 w os) (looks_pair (s5 w os) (looks_pair (s6 w os) (looks_pair (s7 w os) (looks_pair (s8 w os) (s9 w os))))))))) (lk3 w os))
theorem left : LeftO pp vq loose XX hook.obs hook.val NN :=
  LeftO.of_pieces open_run size_run whole_run (by decide +kernel) looks
end L3
end
end Mine
namespace Mine
open PySem PySem.W PyProof.Rows PySem.Calls
theorem reps_ints {P : Params} {mu : List Addr} {h : Heap} : ∀ {ws : List Value} {ns : List Int}, IntsAre ws ns → Reps P mu h (ns.map .int) ws
  | _, _, .nil => by simp [Reps]
  | _, _, .cons n t r => by
    rw [List.map_cons]
    unfold Reps
    exact ⟨_, _, rfl, by unfold Rep; exact ⟨t, rfl⟩, reps_ints r⟩
theorem goodW_reads' {c : ClaimW} {cl : Str → Option Addr} {mean : ExcName → Option Value} {args : List WData} {s₁ : Shared} {h' : Heap} {tk : Nat} {v : Value} {d : WData} (kk : KeepAll s₁.heap h') (hg : s₁.gens = #[]) (hr : ReadsW c.records cl h' v d []) 
    (hn : ∀ cls, c.raises args cls = false) (hp : c.post args d args = true) : GoodW c cl mean args s₁ (.ok (.ret v)) { s₁ with heap := h', toks := tk } :=
  ⟨.inl ⟨v, d, [], rfl, hn, hr, hp, fun _ => ⟨List.nodup_nil, fun a ha => by cases ha⟩⟩, kk, rfl, hg⟩
namespace L3
noncomputable def fs3 : List FnT := [fnT st2, fnT st4, fnT st6, fnT st11, fnT st12, fnT st14, fnT st15, fnT st16, fnT st17, fnT st18]
noncomputable def P0 : Params := (aWorld 0).params
noncomputable def b1E : List (Int × Value) := match (o22v0 P0).data with
  | .set es _ _ => es.toList
  | _ => []
noncomputable def gl3 : List (Str × V) := [("_MAX_STRING_SIZE", .int 40), ("_MOVE_COST", .int 2), ("_CASE_COST", .int 1), ("b1_set", .val (.ref 22)), ("b3_exceptions", .val (.ref 33))]
noncomputable def D3 : Dat0 := ⟨fun x => gl3.lookup x, fun wv i => (b1E.any fun e => Value.isInt i e.2, wv = .ref 22), fun wv i => (tabGet b3E i, wv = .ref 33)⟩
theorem gl_all (P : Params) : (gl3.all fun p => glAt (KK P) p) = true := by kernel_rfl!
theorem nob_all (P : Params) : (bltNames.all fun x => nsIn (KK P) mainGlobals x == some none) = true := by kernel_rfl!
theorem set_all : setEs b1E = true := by kernel_rfl!
theorem set_at (P : Params) : (KK P).lookup 22 = some ⟨.type "set", none, .set b1E.toArray 29 ⟨127, #[0, 1, 2, 3, 4, 5, 6, 7, 8, 9, 10, 11, 12, 13, 14, 15, 16, 17, 18, 19, 20, 21, 22, 45, 79, 96, 127], #[], 0, !P.followText "set-order", 2, true⟩, #[]⟩ := by kernel_rfl!
theorem set_fits (P : Params) : (⟨127, #[0, 1, 2, 3, 4, 5, 6, 7, 8, 9, 10, 11, 12, 13, 14, 15, 16, 17, 18, 19, 20, 21, 22, 45, 79, 96, 127], #[], 0, !P.followText "set-order", 2, true⟩ : SetTable).fits b1E.length = true := by kernel_rfl!
theorem dict_at (P : Params) : (KK P).lookup 33 = some ⟨.type "dict", none, .dict b3E.toArray 650, #[]⟩ := by kernel_rfl!
theorem dict_all : dictEs b3E = true := by decide +kernel
theorem fn2 {P : Params} {h : Heap} {mg : Str → Option Value} (X : (KK P).In h) (G : h.Ns mainGlobals mg) : FnAt h mg (fnT st2) :=
  fnAt_of X G (a := 32) (by kernel_rfl!) (o := o32v0 P) (by kernel_rfl!) rfl (fdOk_of (by kernel_rfl!) rfl (bind1 (a := "code") fun v => by kernel_rfl!)) rfl (by kernel_rfl!)
theorem fn4 {P : Params} {h : Heap} {mg : Str → Option Value} (X : (KK P).In h) (G : h.Ns mainGlobals mg) : FnAt h mg (fnT st4) :=
  fnAt_of X G (a := 78) (by kernel_rfl!) (o := o78v0 P) (by kernel_rfl!) rfl (fdOk_of (by kernel_rfl!) rfl (bind1 (a := "code") fun v => by kernel_rfl!)) rfl (by kernel_rfl!)
theorem fn6 {P : Params} {h : Heap} {mg : Str → Option Value} (X : (KK P).In h) (G : h.Ns mainGlobals mg) : FnAt h mg (fnT st6) :=
  fnAt_of X G (a := 85) (by kernel_rfl!) (o := o85v0 P) (by kernel_rfl!) rfl (fdOk_of (by kernel_rfl!) rfl (bind1 (a := "num") fun v => by kernel_rfl!)) rfl (by kernel_rfl!)
theorem fn11 {P : Params} {h : Heap} {mg : Str → Option Value} (X : (KK P).In h) (G : h.Ns mainGlobals mg) : FnAt h mg (fnT st11) :=
  fnAt_of X G (a := 92) (by kernel_rfl!) (o := o92v0 P) (by kernel_rfl!) rfl (fdOk_of (by kernel_rfl!) rfl (bind2 (a := "ch_a") (b := "ch_b") fun v u => by kernel_rfl!)) rfl (by kernel_rfl!)
theorem fn12 {P : Params} {h : Heap} {mg : Str → Option Value} (X : (KK P).In h) (G : h.Ns mainGlobals mg) : FnAt h mg (fnT st12) :=
  fnAt_of X G (a := 99) (by kernel_rfl!) (o := o99v0 P) (by kernel_rfl!) rfl (fdOk_of (by kernel_rfl!) rfl (bind3 (a := "a") (b := "b") (c := "max_cost") fun v u x => by kernel_rfl!)) rfl (by kernel_rfl!)
theorem fn14 {P : Params} {h : Heap} {mg : Str → Option Value} (X : (KK P).In h) (G : h.Ns mainGlobals mg) : FnAt h mg (fnT st14) :=
  fnAt_of X G (a := 104) (by kernel_rfl!) (o := o104v0 P) (by kernel_rfl!) rfl (fdOk_of (by kernel_rfl!) rfl (bind1 (a := "size") fun v => by kernel_rfl!)) rfl (by kernel_rfl!)
theorem fn15 {P : Params} {h : Heap} {mg : Str → Option Value} (X : (KK P).In h) (G : h.Ns mainGlobals mg) : FnAt h mg (fnT st15) :=
  fnAt_of X G (a := 109) (by kernel_rfl!) (o := o109v0 P) (by kernel_rfl!) rfl (fdOk_of (by kernel_rfl!) rfl (bind1 (a := "number") fun v => by kernel_rfl!)) rfl (by kernel_rfl!)
theorem fn16 {P : Params} {h : Heap} {mg : Str → Option Value} (X : (KK P).In h) (G : h.Ns mainGlobals mg) : FnAt h mg (fnT st16) :=
  fnAt_of X G (a := 116) (by kernel_rfl!) (o := o116v0 P) (by kernel_rfl!) rfl (fdOk_of (by kernel_rfl!) rfl (bind2 (a := "number") (b := "size") fun v u => by kernel_rfl!)) rfl (by kernel_rfl!)
theorem fn17 {P : Params} {h : Heap} {mg : Str → Option Value} (X : (KK P).In h) (G : h.Ns mainGlobals mg) : FnAt h mg (fnT st17) :=
  fnAt_of X G (a := 121) (by kernel_rfl!) (o := o121v0 P) (by kernel_rfl!) rfl (fdOk_of (by kernel_rfl!) rfl (bind2 (a := "word") (b := "row") fun v u => by kernel_rfl!)) rfl (by kernel_rfl!)
theorem fn18 {P : Params} {h : Heap} {mg : Str → Option Value} (X : (KK P).In h) (G : h.Ns mainGlobals mg) : FnAt h mg (fnT st18) :=
  fnAt_of X G (a := 126) (by kernel_rfl!) (o := o126v0 P) (by kernel_rfl!) rfl (fdOk_of (by kernel_rfl!) rfl (bind1 (a := "script") fun v => by kernel_rfl!)) rfl (by kernel_rfl!)
theorem fn_all {P : Params} {h : Heap} {mg : Str → Option Value} (X : (KK P).In h) (G : h.Ns mainGlobals mg) : ∀ t ∈ fs3, FnAt h mg t := by
  intro t ht
  simp only [fs3, List.mem_cons, List.not_mem_nil, or_false] at ht
  rcases ht with rfl | rfl | rfl | rfl | rfl | rfl | rfl | rfl | rfl | rfl
  · exact fn2 X G
  · exact fn4 X G
  · exact fn6 X G
  · exact fn11 X G
  · exact fn12 X G
  · exact fn14 X G
  · exact fn15 X G
  · exact fn16 X G
  · exact fn17 X G
  · exact fn18 X G
theorem base3 {w : World} {h : Heap} {mg mb : Str → Option Value} (X : (KK w.params).In h) (G : h.Ns mainGlobals mg) (Gb : h.Ns builtinsNs mb) (boot : ∀ x : Str, x ≠ "__name__" → mb x = bootBuiltins x) (lim : h.NoLimit) : Base0 pp w h mg mb D3 fs3 :=
  ⟨G, Gb, boot, gl_ok X G (gl_all _), nob_ok X G (nob_all _), fun k => mem_ok X (set_at _) set_all (by decide +kernel) (set_fits _) (CC_mem _ _ _), fun k => get_ok X (by decide) (dict_at _) dict_all (CC_get _ _ _), fn_all X G, lim⟩
theorem law_fn {w : World} {h : Heap} {mg mb : Str → Option Value} (B : Base0 pp w h mg mb D3 fs3) {fa : Addr} (hf : mg "law" = some (.ref fa)) {A : Around} (rm : Rm A 6) {s : Shared} (kb : KeepAll h s.heap) {ns : List Int} {a : Addr} {ws : List Value} (hl : s.heap.IsList a ws.toArray) (hi : IntsAre ws ns)
    (law_true : ((CC D3 fs3 6).fn "law" [.list (ns.map .int)]).2 ∧ ((CC D3 fs3 6).fn "law" [.list (ns.map .int)]).1 = .bool true) : Tr pp w A (call (.ref fa) [.ref a]) s (fun v _ => v = .bool true) := by
  obtain ⟨a', o, fd, h1, h2, h3, h4⟩ := (base_cc B 6).fn "law" _ law_true.1
  rw [hf] at h1
  cases h1
  refine (h4 A s [] [.ref a] kb rm (fun a ha => by cases ha) (reps_one ?_)).mono fun v h' _ q => ?_
  · unfold Rep
    exact ⟨a, ws, rfl, by simp, hl, reps_ints hi⟩
  · rw [law_true.2] at q
    unfold Rep at q
    exact q
theorem said3 : OpenLaw.wellSaid PySem.Challenge.rw_ta0051_03 = true := by kernel_rfl!
theorem fin_holds (law_true : ∀ ns : List Int, ns.length ≤ 63 → ((CC D3 fs3 6).fn "law" [.list (ns.map .int)]).2 ∧ ((CC D3 fs3 6).fn "law" [.list (ns.map .int)]).1 = .bool true) : PySem.Challenge.rw_ta0051_03.Holds := by
  w_on
  refine holds_law said3 fun said => ?_
  refine holds_open (q := vq) (loose := loose) (Xt := XX) (XP := XL vq []) (Yf := hook.obs) (Ya := hook.val) (YP := hook.says) (N := NN) left hook.of hook.keeps (fun s e => xl_of s (Bool.and_eq_true_iff.mp e).1) XL.keeps (by rfl) (by rfl) (by rfl) (fun s e => recFacts_of (Bool.and_eq_true_iff.mp e).2) (by rfl) (by first | assumption | decide +kernel) (by decide +kernel) ⟨rfl, rfl, rfl, rfl, rfl, by decide +kernel⟩ ?hw ?hc
  case hw => w_witness2
  case hc =>
    intro w s₀ s₁ mg mb G Y fa o pm cd doc dV kV ho hd hcd hD hmg hg args vals as hpre hlay hrd hwl hlo
    have KX := kIn_of Y
    clear hd hcd hD ho
    refine Ground.open G ?_
    intro T B D TE TW
    wrow_args hpre hlay hrd hwl hlo
    rename IntsAre _ _ => hI
    rename Heap.IsList _ _ _ => hL
    have hlen := by rename ¬ (_ < _) => hc; exact hc
    refine (law_fn (base3 KX T.g T.b T.builtins T.nolimit) hmg ⟨rfl, by decide, by decide⟩ (fun _ _ e => e) hL hI (law_true _ (by omega))).use fun v h' tk kk e => ?_
    subst e
    refine GoodW.toG (goodW_reads' kk hg (.bool true) (raisesW_false (by wrow_none_raised)) ?_)
    wrow_post
end L3
end Mine
namespace Mine
open PySem PySem.W PyProof.Rows PySem.Calls
/-! what holds of the evaluator's results, step by step -/
/-- what is asked holds, and Q of the value -/
noncomputable def Pw {α : Type} (x : W α) (Q : α → Prop) : Prop := x.2 ∧ Q x.1
section
variable (g : Cfg) (k : Kd) (n : Nat) (l : Ls)
noncomputable def WE (e : Expr) (Q : V → Prop) : Prop := (ev g k n l e).2 ∧ Q (ev g k n l e).1
noncomputable def WT (e : Expr) (Q : Bool → Prop) : Prop := (evT g k n l e).2 ∧ Q (evT g k n l e).1
noncomputable def WA (es : List Expr) (Q : Bool → Prop) : Prop := (evAnd g k n l es).2 ∧ Q (evAnd g k n l es).1
noncomputable def WR (es : List Expr) (Q : Bool → Prop) : Prop := (evOr g k n l es).2 ∧ Q (evOr g k n l es).1
noncomputable def WO (e : Option Expr) (Q : V → Prop) : Prop := (evO g k n l e).2 ∧ Q (evO g k n l e).1
noncomputable def WEs (es : List Expr) (Q : List V → Prop) : Prop := (evs g k n l es).2 ∧ Q (evs g k n l es).1
noncomputable def WI (e : Expr) (Q : List V → Prop) : Prop := (evI g k n l e).2 ∧ Q (evI g k n l e).1
noncomputable def WX (s : Stmt) (Q : Fl → Ls → Prop) : Prop := (ex g k n l s).2.2 ∧ Q (ex g k n l s).1 (ex g k n l s).2.1
noncomputable def WXs (s : List Stmt) (Q : Fl → Ls → Prop) : Prop := (exs g k n l s).2.2 ∧ Q (exs g k n l s).1 (exs g k n l s).2.1
noncomputable def WF (f : Str) (args : List V) (Q : V → Prop) : Prop := (g.fn f args).2 ∧ Q (g.fn f args).1
end
variable {g : Cfg} {k : Kd} {n : Nat} {l : Ls}
theorem WE.mono {e : Expr} {Q R : V → Prop} (h : WE g k n l e Q) (m : ∀ v, Q v → R v) : WE g k n l e R := ⟨h.1, m _ h.2⟩
theorem WT.mono {e : Expr} {Q R : Bool → Prop} (h : WT g k n l e Q) (m : ∀ v, Q v → R v) : WT g k n l e R := ⟨h.1, m _ h.2⟩
theorem WI.mono {e : Expr} {Q R : List V → Prop} (h : WI g k n l e Q) (m : ∀ v, Q v → R v) : WI g k n l e R := ⟨h.1, m _ h.2⟩
theorem WXs.mono {s : List Stmt} {Q R : Fl → Ls → Prop} (h : WXs g k n l s Q) (m : ∀ f l', Q f l' → R f l') : WXs g k n l s R := ⟨h.1, m _ _ h.2⟩

/-! expressions -/
theorem WE_int {i : Int} {a : Nat} {p : Pos} {Q : V → Prop} (h : Q (.int i)) : WE g k (n + 1) l (.Constant (.int i) a p) Q := ⟨trivial, h⟩
theorem WE_none {a : Nat} {p : Pos} {Q : V → Prop} (h : Q .none) : WE g k (n + 1) l (.Constant .none a p) Q := ⟨trivial, h⟩
theorem WE_bool {b : Bool} {a : Nat} {p : Pos} {Q : V → Prop} (h : Q (.bool b)) : WE g k (n + 1) l (.Constant (.bool b) a p) Q := ⟨trivial, h⟩
theorem WE_bytes {b : List UInt8} {a : Nat} {p : Pos} {Q : V → Prop} (h : Q (.bytes b)) : WE g k (n + 1) l (.Constant (.bytes b) a p) Q := ⟨trivial, h⟩
theorem WE_str {s : Str} {a : Nat} {p : Pos} {Q : V → Prop} (h : Q (.str s.cps.toList)) : WE g k (n + 1) l (.Constant (.str s) a p) Q := ⟨trivial, h⟩
theorem WE_name {x : Str} {p : Pos} {v : V} {Q : V → Prop} (e : l.at x = some v) (h : Q v) : WE g k (n + 1) l (.Name x p) Q := by
  unfold WE; rw [ev_nameL e]; exact ⟨trivial, h⟩
theorem WE_glob {x : Str} {p : Pos} {v : V} {Q : V → Prop} (e : l.at x = none) (e2 : g.gl x = some v) (hk : kindOk k x = true) (h : Q v) : WE g k (n + 1) l (.Name x p) Q := by
  unfold WE; rw [ev_nameG e e2]; exact ⟨hk, h⟩
theorem WE_bin {a b : Expr} {op : Operator} {p : Pos} {Q : V → Prop} (h : WE g k n l a fun va => WE g k n l b fun vb => Pw (binV op va vb) Q) : WE g k (n + 1) l (.BinOp a op b p) Q := by
  unfold WE at h ⊢; rw [ev_bin]; exact ⟨⟨h.1, h.2.1, h.2.2.1⟩, h.2.2.2⟩
noncomputable def negV : V → W V
  | .int i => (.int (-i), True)
  | _ => no
theorem WE_neg {a : Expr} {p : Pos} {Q : V → Prop} (h : WE g k n l a fun va => Pw (negV va) Q) : WE g k (n + 1) l (.UnaryOp .USub a p) Q := by
  unfold WE at h ⊢
  rw [ev_neg]
  obtain ⟨h1, h2, h3⟩ := h
  generalize ev g k n l a = q at h1 h2 h3 ⊢
  obtain ⟨v, c⟩ := q
  cases v with
  | int i => exact ⟨h1, h3⟩
  | _ => exact False.elim h2
theorem n_int {i : Int} {Q : V → Prop} (h : Q (.int (-i))) : Pw (negV (.int i)) Q := ⟨trivial, h⟩
theorem WE_or {a b : Expr} {p : Pos} {Q : V → Prop} (h : WE g k n l a fun va => Pw (truV va) fun c => (c = true → Q va) ∧ (c = false → WE g k n l b Q)) : WE g k (n + 1) l (.BoolOp .Or [a, b] p) Q := by
  unfold WE at h ⊢
  rw [ev_or]
  split
  · rename_i ht; exact ⟨⟨h.1, h.2.1⟩, h.2.2.1 ht⟩
  · rename_i ht
    have := h.2.2.2 (by simpa using ht)
    exact ⟨⟨h.1, h.2.1, this.1⟩, this.2⟩
theorem WE_ife {t a b : Expr} {p : Pos} {Q : V → Prop} (h : WT g k n l t fun c => (c = true → WE g k n l a Q) ∧ (c = false → WE g k n l b Q)) : WE g k (n + 1) l (.IfExp t a b p) Q := by
  unfold WE at h ⊢
  unfold WT at h
  rw [ev_ife]
  split
  · rename_i ht; exact ⟨⟨h.1, (h.2.1 ht).1⟩, (h.2.1 ht).2⟩
  · rename_i ht
    have := h.2.2 (by simpa using ht)
    exact ⟨⟨h.1, this.1⟩, this.2⟩
theorem WE_cmp {a b : Expr} {op : CmpOp} {p : Pos} {Q : V → Prop} (h : WE g k n l a fun va => WE g k n l b fun vb => Pw (cmpV g op va vb) fun c => Q (.bool c)) (hb : behindInMarks op b = false) : WE g k (n + 1) l (.Compare a [op] [b] p) Q := by
  unfold WE at h ⊢; rw [ev_cmp]; exact ⟨⟨h.1, h.2.1, h.2.2.1, hb⟩, h.2.2.2⟩
theorem WE_item {a i : Expr} {p : Pos} {Q : V → Prop} (hi : ∀ lo hi st q, i ≠ .Slice lo hi st q) (h : WE g k n l a fun va => WE g k n l i fun vi => Pw (itemV va vi) Q) : WE g k (n + 1) l (.Subscript a i p) Q := by
  unfold WE at h ⊢
  rw [ev_item hi]
  exact ⟨⟨h.1, h.2.1, h.2.2.1⟩, h.2.2.2⟩
theorem WE_cut {a : Expr} {lo hi st : Option Expr} {p q : Pos} {Q : V → Prop} (h : WE g k n l a fun va => WO g k n l lo fun v1 => WO g k n l hi fun v2 => WO g k n l st fun v3 => Pw (cutV va v1 v2 v3) Q) : WE g k (n + 1) l (.Subscript a (.Slice lo hi st q) p) Q := by
  unfold WE at h ⊢; unfold WO at h; rw [ev_cut]; exact ⟨⟨h.1, h.2.1, h.2.2.1, h.2.2.2.1, h.2.2.2.2.1⟩, h.2.2.2.2.2⟩
theorem WE_list {es : List Expr} {p : Pos} {Q : V → Prop} (h : WEs g k n l es fun vs => vs.length ≤ lenLid ∧ Q (.list vs)) : WE g k (n + 1) l (.List es p) Q := by
  unfold WE; unfold WEs at h; rw [ev_list]; exact ⟨⟨h.1, h.2.1⟩, h.2.2⟩
theorem WE_tup {es : List Expr} {c : Nat} {p : Pos} {Q : V → Prop} (h : WEs g k n l es fun vs => vs.length ≤ lenLid ∧ Q (.tup vs)) : WE g k (n + 1) l (.Tuple es c p) Q := by
  unfold WE; unfold WEs at h; rw [ev_tup]; exact ⟨⟨h.1, h.2.1⟩, h.2.2⟩
theorem WE_meth {o : Expr} {name : Str} {ap p : Pos} {args : List Expr} {Q : V → Prop} (h : WE g k n l o fun vo => WEs g k n l args fun vs => Pw (methV g vo name vs) Q) (h1 : (ap.endLine == p.line) = true := by rfl) (h2 : baseOk o = true := by rfl) (h3 : args.length ≤ 3 := by decide) :
    WE g k (n + 1) l (.Call (.Attribute o name ap) args [] p) Q := by
  unfold WE at h ⊢; unfold WEs at h; rw [ev_meth]; exact ⟨⟨h.1, h.2.1, h.2.2.1, h1, h2, h3⟩, h.2.2.2⟩
theorem WE_blt {f : Str} {fp p : Pos} {args : List Expr} {Q : V → Prop} (h : WEs g k n l args fun vs => Pw (bltV f vs) Q) (hf : isBlt f = true) (h1 : l.at f = none) (h2 : kindOk k f = true) : WE g k (n + 1) l (.Call (.Name f fp) args [] p) Q := by
  unfold WE; unfold WEs at h; rw [ev_call]; unfold callNV; rw [if_pos hf]; exact ⟨⟨h.1, h.2.1, h1, h2⟩, h.2.2⟩
theorem WE_fn {f : Str} {fp p : Pos} {args : List Expr} {Q : V → Prop} (h : WEs g k n l args fun vs => WF g f vs Q) (hf : isBlt f = false) (hl : (f == ("list" : Str)) = false) (h1 : l.at f = none) (h2 : kindOk k f = true) : WE g k (n + 1) l (.Call (.Name f fp) args [] p) Q := by
  unfold WE; unfold WEs WF at h
  have hl : f ≠ ("list" : Str) := by simpa using hl
  rw [ev_call]; unfold callNV; rw [if_neg (by rw [hf]; decide), if_neg hl]
  exact ⟨⟨h.1, h.2.1, h1, h2⟩, h.2.2⟩
theorem WE_listRange {f r : Str} {fp rp p cp : Pos} {args : List Expr} {Q : V → Prop} (h : WI g k n l (.Call (.Name r rp) args [] cp) fun vs => Q (.list vs)) (hf : f = ("list" : Str)) (hr : r = ("range" : Str)) (h1 : l.at f = none) (h2 : kindOk k f = true) : WE g k (n + 1) l (.Call (.Name f fp) [.Call (.Name r rp) args [] cp] [] p) Q := by
  unfold WE; unfold WI at h
  subst hf hr
  exact ⟨⟨h.1, h1, h2⟩, h.2⟩
theorem split_d {P A B : Prop} [Decidable P] (h1 : P → A) (h2 : ¬ P → B) : (decide P = true → A) ∧ (decide P = false → B) := ⟨fun h => h1 (of_decide_eq_true h), fun h => h2 (of_decide_eq_false h)⟩
theorem split_e {P A B : Prop} [Decidable P] (h1 : ¬ P → A) (h2 : P → B) : (decide P = false → A) ∧ (decide P = true → B) := ⟨fun h => h1 (of_decide_eq_false h), fun h => h2 (of_decide_eq_true h)⟩
theorem split_ne {P A B : Prop} [Decidable P] (h1 : P → A) (h2 : ¬ P → B) : ((!decide P) = false → A) ∧ ((!decide P) = true → B) := ⟨fun h => h1 (by simpa using h), fun h => h2 (by simpa using h)⟩
theorem split_t {A B : Prop} (h : A) : (true = true → A) ∧ (true = false → B) := ⟨fun _ => h, fun h => nomatch h⟩
theorem split_f {A B : Prop} (h : B) : (false = true → A) ∧ (false = false → B) := ⟨fun h => (nomatch h), fun _ => h⟩
/-! tests -/
theorem WT_not {a : Expr} {p : Pos} {Q : Bool → Prop} (h : WT g k n l a fun b => Q (!b)) : WT g k (n + 1) l (.UnaryOp .Not a p) Q := by
  unfold WT at h ⊢; rw [evT_not]; exact h
theorem WT_and {es : List Expr} {p : Pos} {Q : Bool → Prop} (h : WA g k n l es Q) : WT g k (n + 1) l (.BoolOp .And es p) Q := by
  unfold WT; unfold WA at h; rw [evT_and]; exact h
theorem WT_or {es : List Expr} {p : Pos} {Q : Bool → Prop} (h : WR g k n l es Q) : WT g k (n + 1) l (.BoolOp .Or es p) Q := by
  unfold WT; unfold WR at h; rw [evT_or]; exact h
theorem WT_cmp {a b : Expr} {op : CmpOp} {p : Pos} {Q : Bool → Prop} (h : WE g k n l a fun va => WE g k n l b fun vb => Pw (cmpV g op va vb) Q) (hb : behindInMarks op b = false) : WT g k (n + 1) l (.Compare a [op] [b] p) Q := by
  unfold WT; unfold WE at h; rw [evT_cmp]; exact ⟨⟨h.1, h.2.1, h.2.2.1, hb⟩, h.2.2.2⟩
theorem WT_val {e : Expr} {Q : Bool → Prop} (h : WE g k n l e fun v => Pw (truV v) Q) (he : evT g k (n + 1) l e = ((truV (ev g k n l e).1).1, (ev g k n l e).2 ∧ (truV (ev g k n l e).1).2)) : WT g k (n + 1) l e Q := by
  unfold WT; unfold WE at h; rw [he]; exact ⟨⟨h.1, h.2.1⟩, h.2.2⟩
theorem WA_nil {Q : Bool → Prop} (h : Q true) : WA g k (n + 1) l [] Q := ⟨trivial, h⟩
theorem WA_cons {e : Expr} {r : List Expr} {Q : Bool → Prop} (h : WT g k n l e fun b => (b = true → WA g k n l r Q) ∧ (b = false → Q false)) : WA g k (n + 1) l (e :: r) Q := by
  unfold WA at h ⊢; unfold WT at h; rw [evAnd_cons]
  split
  · rename_i ht; exact ⟨⟨h.1, (h.2.1 ht).1⟩, (h.2.1 ht).2⟩
  · rename_i ht; exact ⟨h.1, h.2.2 (by simpa using ht)⟩
theorem WR_nil {Q : Bool → Prop} (h : Q false) : WR g k (n + 1) l [] Q := ⟨trivial, h⟩
theorem WR_cons {e : Expr} {r : List Expr} {Q : Bool → Prop} (h : WT g k n l e fun b => (b = false → WR g k n l r Q) ∧ (b = true → Q true)) : WR g k (n + 1) l (e :: r) Q := by
  unfold WR at h ⊢; unfold WT at h; rw [evOr_cons]
  split
  · rename_i ht; exact ⟨h.1, h.2.2 ht⟩
  · rename_i ht
    have := h.2.1 (by simpa using ht)
    exact ⟨⟨h.1, this.1⟩, this.2⟩
theorem WO_none {Q : V → Prop} (h : Q .none) : WO g k (n + 1) l none Q := ⟨trivial, h⟩
theorem WO_some {e : Expr} {Q : V → Prop} (h : WE g k n l e Q) : WO g k (n + 1) l (some e) Q := by
  unfold WO; unfold WE at h; exact h
theorem WEs_nil {Q : List V → Prop} (h : Q []) : WEs g k (n + 1) l [] Q := ⟨trivial, h⟩
theorem WEs_cons {e : Expr} {r : List Expr} {Q : List V → Prop} (h : WE g k n l e fun v => WEs g k n l r fun vs => Q (v :: vs)) (hs : ∀ x p, e ≠ .Starred x p) : WEs g k (n + 1) l (e :: r) Q := by
  unfold WEs at h ⊢; unfold WE at h
  rw [evs_cons hs]; exact ⟨⟨h.1, h.2.1⟩, h.2.2⟩
/-! what a loop goes over -/
noncomputable def upTo (a b : Int) : List Int := rangeUp a 1 (b - a).toNat
theorem rangeUp_map (c : Int) : ∀ (m : Nat) (a : Int), rangeUp a c m = (List.range m).map fun (i : Nat) => a + i * c
  | 0, _ => rfl
  | m + 1, a => by
    rw [List.range_succ_eq_map, rangeUp, rangeUp_map c m]
    simp only [List.map_cons, List.map_map, Int.natCast_zero, Int.zero_mul, Int.add_zero]
    congr 1
    apply List.map_congr_left
    intro i _
    simp only [Function.comp, Nat.succ_eq_add_one, Int.natCast_add, Int.natCast_one, Int.add_mul, Int.one_mul]
    omega
theorem WI_range {f : Str} {es : List Expr} {fp p : Pos} {Q : List V → Prop} (h : WEs g k n l es fun vs => Pw (rangeOf vs) Q) (hf : f = ("range" : Str)) (h1 : l.at f = none) (h2 : kindOk k f = true) : WI g k (n + 1) l (.Call (.Name f fp) es [] p) Q := by
  unfold WI; unfold WEs at h
  rw [evI_range, if_pos hf]
  exact ⟨⟨h.1, h.2.1, h1, h2⟩, h.2.2⟩
theorem WI_name {x : Str} {p : Pos} {Q : List V → Prop} (h : WE g k n l (.Name x p) fun v => Pw (itemsV v) Q) : WI g k (n + 1) l (.Name x p) Q := by
  unfold WI; unfold WE at h; rw [evI_nameX]; exact ⟨⟨h.1, h.2.1⟩, h.2.2⟩
theorem rng1 {Q : List V → Prop} {m : Nat} {b : Int} (hb : b = m) (hm : m ≤ lenLid) (h : Q ((List.range m).map fun (i : Nat) => V.int i)) : Pw (rangeOf [.int b]) Q := by
  subst hb
  show (rangeV 0 m 1).2 ∧ Q ((rangeV 0 m 1).1.map .int)
  unfold rangeV
  rw [rangeUp_map]
  unfold lenLid at *
  refine ⟨by omega, ?_⟩
  have e : (((m : Int) - 0 + 1 - 1).fdiv 1).toNat = m := by
    rw [Int.fdiv_one]; omega
  rw [e, List.map_map]
  have : (V.int ∘ fun (i : Nat) => (0 : Int) + i * 1) = fun (i : Nat) => V.int i := by
    funext i; simp
  rw [this]; exact h
/-! statements -/
theorem WX_ret {e : Expr} {p : Pos} {Q : Fl → Ls → Prop} (h : WE g k n l e fun v => Q (.ret v) l) : WX g k (n + 1) l (.Return (some e) p) Q := by
  unfold WX; unfold WE at h; rw [ex_ret]; exact h
theorem WX_new {x : Str} {px p : Pos} {e : Expr} {Q : Fl → Ls → Prop} (hn : isNew e = true) (h : WE g k n l.clean e fun v => Q .next (l.put x ⟨v, true⟩)) (h1 : k x = some .local) (h2 : nameOk x = true) (h3 : onlyOwn l x = true) : WX g k (n + 1) l (.Assign [.Name x px] e p) Q := by
  unfold WX; unfold WE at h; rw [ex_asg, if_pos hn]; exact ⟨⟨h.1, h1, h2, h3⟩, h.2⟩
/-- a value without parts -/
theorem WX_atom {x : Str} {px p : Pos} {e : Expr} {Q : Fl → Ls → Prop} (hn : isNew e = false) (h : WE g k n l e fun v => isAtom v = true ∧ Q .next (l.put x ⟨v, false⟩)) (h1 : storable k x = true) : WX g k (n + 1) l (.Assign [.Name x px] e p) Q := by
  unfold WX; unfold WE at h
  have e1 : evS g k n l e = ev g k n l e := if_pos h.2.1
  rw [ex_asg, if_neg (by rw [hn]; decide), e1]; exact ⟨⟨h.1, h1⟩, h.2.2⟩
/-- where nothing is written to -/
theorem WX_clean {x : Str} {px p : Pos} {e : Expr} {Q : Fl → Ls → Prop} (hn : isNew e = false) (hc : l.clean = l) (h : WE g k n l e fun v => Q .next (l.put x ⟨v, false⟩)) (h1 : storable k x = true) : WX g k (n + 1) l (.Assign [.Name x px] e p) Q := by
  unfold WX; unfold WE at h
  have e1 : evS g k n l e = ev g k n l e := by
    unfold evS
    rw [hc]
    exact ite_self _
  rw [ex_asg, if_neg (by rw [hn]; decide), e1]; exact ⟨⟨h.1, h1⟩, h.2⟩
theorem WX_two {x y : Str} {px py p : Pos} {e : Expr} {Q : Fl → Ls → Prop} (h : WE g k n l e fun v => isAtom v = true ∧ Q .next ((l.put x ⟨v, false⟩).put y ⟨v, false⟩)) (h1 : storable k x = true) (h2 : storable k y = true) : WX g k (n + 1) l (.Assign [.Name x px, .Name y py] e p) Q := by
  unfold WX; unfold WE at h; rw [ex_asg2]; exact ⟨⟨h.1, h.2.1, h1, h2⟩, h.2.2⟩
theorem WX_tup {x y : Str} {px py tp p : Pos} {c : Nat} {e : Expr} {Q : Fl → Ls → Prop} (h : WE g k n l e fun v => ∃ a b, v = .tup [a, b] ∧ isAtom a = true ∧ isAtom b = true ∧ Q .next ((l.put x ⟨a, false⟩).put y ⟨b, false⟩)) (hc : constTup e = false) (h1 : storable k x = true) (h2 : storable k y = true) (hxy : x ≠ y) :
    WX g k (n + 1) l (.Assign [.Tuple [.Name x px, .Name y py] c tp] e p) Q := by
  unfold WX; unfold WE at h; rw [ex_tup0]
  obtain ⟨h0, a, b, e1, ha, hb, hq⟩ := h
  generalize ev g k n l e = q at h0 e1 ⊢
  obtain ⟨v, cc⟩ := q
  dsimp only at h0 e1
  subst e1
  exact ⟨⟨h0, hc, ha, hb, h1, h2, hxy⟩, hq⟩
theorem WX_set {x : Str} {xp ip p : Pos} {i e : Expr} {Q : Fl → Ls → Prop} {xs : List V} (hx : l.at x = some (.list xs)) (ho : l.loc x = some ⟨.list xs, true⟩) (h : WE g k n l e fun v => WE g k n l i fun j => ∃ m : Int, j = .int m ∧ isAtom v = true ∧ 0 ≤ m ∧ m < xs.length ∧ xs.length ≤ lenLid ∧ Q .next (l.put x ⟨.list (xs.set m.toNat v), true⟩)) :
    WX g k (n + 1) l (.Assign [.Subscript (.Name x xp) i ip] e p) Q := by
  unfold WX; unfold WE at h; rw [ex_set0]
  unfold setW
  rw [ho]
  obtain ⟨h0, h1, m, e1, ha, hb, hq, hr, hs⟩ := h
  generalize ev g k n l i = q at h1 e1 ⊢
  obtain ⟨v, cc⟩ := q
  dsimp only at h1 e1
  subst e1
  exact ⟨⟨h0, h1, ha, hb, hq, hr, rfl⟩, hs⟩
theorem WX_aug {x : Str} {xp p : Pos} {op : Operator} {e : Expr} {a : V} {Q : Fl → Ls → Prop} (hx : l.at x = some a) (h : WE g k n l e fun v => augOk op a v = true ∧ Pw (binV op a v) fun r => Q .next (l.put x ⟨r, false⟩)) (h1 : storable k x = true) : WX g k (n + 1) l (.AugAssign (.Name x xp) op e p) Q := by
  unfold WX; unfold WE at h; rw [ex_aug0, ev_nameL hx]; exact ⟨⟨by rw [hx]; rfl, h.1, h.2.2.1, h.2.1, h1⟩, h.2.2.2⟩
theorem WX_if {t : Expr} {a b : List Stmt} {p : Pos} {Q : Fl → Ls → Prop} (h : WT g k n l t fun c => (c = true → WXs g k n l a Q) ∧ (c = false → WXs g k n l b Q)) : WX g k (n + 1) l (.If t a b p) Q := by
  unfold WX; unfold WT WXs at h; rw [ex_if0]
  split
  · rename_i ht; exact ⟨⟨h.1, (h.2.1 ht).1⟩, (h.2.1 ht).2⟩
  · rename_i ht
    have := h.2.2 (by simpa using ht)
    exact ⟨⟨h.1, this.1⟩, this.2⟩
theorem WXs_nil {Q : Fl → Ls → Prop} (h : Q .next l) : WXs g k (n + 1) l [] Q := ⟨trivial, h⟩
/-- behind a statement -/
noncomputable def Then (g : Cfg) (k : Kd) (n : Nat) (r : List Stmt) (Q : Fl → Ls → Prop) : Fl → Ls → Prop := fun f l' => match f with
  | .next => WXs g k n l' r Q
  | .ret v => Q (.ret v) l'
theorem at_miss {x y : Str} {u : Loc} {r : Ls} {o : Option V} (h : (y == x) = false) (e : Ls.at r x = o) : Ls.at ((y, u) :: r) x = o := by
  rw [← e]; exact if_neg (by simpa using h)
theorem at_put_hit {x : Str} {u : Loc} {r : Ls} : Ls.at (r.put x u) x = some u.v := by rw [at_put, if_pos rfl]
theorem at_put_miss {x y : Str} {u : Loc} {r : Ls} {o : Option V} (h : (x == y) = false) (e : Ls.at r x = o) : Ls.at (r.put y u) x = o := by
  rw [at_put, if_neg (by simpa using h)]; exact e
/-- names of these alone -/
noncomputable def Only (ns : List Str) (j : Ls) : Prop := ∀ x, ns.contains x = false → j.at x = none
theorem only_nil {ns : List Str} : Only ns [] := fun _ _ => rfl
theorem only_put {ns : List Str} {j : Ls} {x : Str} {u : Loc} (h : Only ns j) (hx : ns.contains x = true) : Only ns (j.put x u) := fun y hy => by
  rw [at_put]
  by_cases e : y = x
  · subst e; rw [hx] at hy; cases hy
  · rw [if_neg e]; exact h y hy
theorem at_only {ns : List Str} {j : Ls} {x : Str} (h : Only ns j) (hx : ns.contains x = false) : j.at x = none := h x hx
theorem put_nil {x : Str} {v : Loc} : Ls.put [] x v = [(x, v)] := rfl
theorem put_hit {x : Str} {v u : Loc} {r : Ls} : Ls.put ((x, u) :: r) x v = (x, v) :: r := if_pos rfl
theorem put_miss {x y : Str} {v u : Loc} {r r' : Ls} (h : (y == x) = false) (e : Ls.put r x v = r') : Ls.put ((y, u) :: r) x v = (y, u) :: r' := by
  rw [← e]; exact if_neg (by simpa using h)
theorem then_put {l l' : Ls} {x : Str} {u : Loc} {r : List Stmt} {Q : Fl → Ls → Prop} (hp : l.put x u = l') (h : WXs g k n l' r Q) : Then g k n r Q .next (l.put x u) := by subst hp; exact h
theorem wxs_put {l l' : Ls} {x : Str} {u : Loc} {r : List Stmt} {Q : Fl → Ls → Prop} (hp : l.put x u = l') (h : WXs g k n l' r Q) : WXs g k n (l.put x u) r Q := by subst hp; exact h
theorem range_item {m i : Nat} {v : V} (h : ((List.range m).map fun (i : Nat) => V.int i)[i]? = some v) : i < m ∧ v = .int i := by
  by_cases hi : i < m
  · simp [hi] at h
    exact ⟨hi, h.symm⟩
  · simp [hi] at h
theorem then_put2 {l l' l'' : Ls} {x y : Str} {u v : Loc} {r : List Stmt} {Q : Fl → Ls → Prop} (hp : l.put x u = l') (hp2 : l'.put y v = l'') (h : WXs g k n l'' r Q) : Then g k n r Q .next ((l.put x u).put y v) := by subst hp hp2; exact h
theorem then_next {r : List Stmt} {Q : Fl → Ls → Prop} (h : WXs g k n l r Q) : Then g k n r Q .next l := h
theorem then_ret {r : List Stmt} {Q : Fl → Ls → Prop} {v : V} (h : Q (.ret v) l) : Then g k n r Q (.ret v) l := h
theorem WXs_cons {s : Stmt} {r : List Stmt} {Q : Fl → Ls → Prop} (h : WX g k n l s (Then g k n r Q)) : WXs g k (n + 1) l (s :: r) Q := by
  unfold WXs; unfold WX Then at h; rw [exs_cons]
  revert h
  generalize ex g k n l s = q
  obtain ⟨f, l', c⟩ := q
  cases f with
  | next => exact fun h => And.intro (And.intro h.1 h.2.1) h.2.2
  | ret v => exact fun h => h
theorem WXs_inv {s : Stmt} {r : List Stmt} {Q : Fl → Ls → Prop} (h : WXs g k (n + 1) l (s :: r) Q) : WX g k n l s (Then g k n r Q) := by
  unfold WXs at h; unfold WX Then WXs; rw [exs_cons] at h
  revert h
  generalize ex g k n l s = q
  obtain ⟨f, l', c⟩ := q
  cases f with
  | next => exact fun h : (c ∧ (exs g k n l' r).2.2) ∧ Q (exs g k n l' r).1 (exs g k n l' r).2.1 => ⟨h.1.1, h.1.2, h.2⟩
  | ret v => exact fun h => h
/-- a loop by what holds at its turns -/
theorem loop_inv {F : Ls → V → Fl × Ls × Prop} {Q : Fl → Ls → Prop} (I : Nat → Ls → Prop) {vs : List V} (turn : ∀ i v l, vs[i]? = some v → I i l → (F l v).2.2 ∧ match (F l v).1 with | .next => I (i + 1) (F l v).2.1 | .ret u => Q (.ret u) (F l v).2.1) (done : ∀ l, I vs.length l → Q .next l) :
    ∀ (m : Nat) (l : Ls), m ≤ vs.length → I m l → (loopV F l (vs.drop m)).2.2 ∧ Q (loopV F l (vs.drop m)).1 (loopV F l (vs.drop m)).2.1 := by
  have key : ∀ (j m : Nat) (l : Ls), vs.length - m = j → m ≤ vs.length → I m l → (loopV F l (vs.drop m)).2.2 ∧ Q (loopV F l (vs.drop m)).1 (loopV F l (vs.drop m)).2.1 := by
    intro j
    induction j with
    | zero =>
      intro m l hj hm hI
      obtain rfl : m = vs.length := by omega
      rw [List.drop_length]
      exact ⟨trivial, done l hI⟩
    | succ j ih =>
      intro m l hj hm hI
      have hlt : m < vs.length := by omega
      rw [List.drop_eq_getElem_cons hlt]
      have t := turn m vs[m] l (List.getElem?_eq_getElem hlt) hI
      have nx := ih (m + 1) (F l vs[m]).2.1 (by omega) (by omega)
      rw [loopV_cons]
      revert t nx
      generalize F l vs[m] = q
      obtain ⟨f, l', c⟩ := q
      cases f with
      | next =>
        intro t nx
        have := nx t.2
        exact And.intro (And.intro t.1 this.1) this.2
      | ret u => exact fun t _ => t
  exact fun m l hm hI => key _ m l rfl hm hI
/-- behind a turn -/
noncomputable def Turn (J : Ls → Prop) (Q : Fl → Ls → Prop) : Fl → Ls → Prop := fun f l => match f with
  | .next => J l
  | .ret u => Q (.ret u) l
theorem turn_next {J : Ls → Prop} {Q : Fl → Ls → Prop} (h : J l) : Turn J Q .next l := h
theorem turn_ret {J : Ls → Prop} {Q : Fl → Ls → Prop} {u : V} (h : Q (.ret u) l) : Turn J Q (.ret u) l := h
theorem WX_for {x : Str} {px p : Pos} {it : Expr} {body : List Stmt} {Q : Fl → Ls → Prop} (I : Nat → Ls → Prop)
    (h : WI g k n l.clean it fun vs => I 0 l ∧ (∀ i v l', vs[i]? = some v → I i l' → isAtom v = true ∧ WXs g k n (l'.put x ⟨v, false⟩) body (Turn (I (i + 1)) Q)) ∧ ∀ l', I vs.length l' → Q .next l') (h1 : storable k x = true) :
    WX g k (n + 1) l (.For (.Name x px) it body [] p) Q := by
  unfold WX; unfold WI at h; rw [ex_for0]
  obtain ⟨hq, h0, turn, done⟩ := h
  have := loop_inv (F := fun l v => ((exs g k n (l.put x ⟨v, false⟩) body).1, (exs g k n (l.put x ⟨v, false⟩) body).2.1, (exs g k n (l.put x ⟨v, false⟩) body).2.2 ∧ isAtom v = true)) (Q := Q) I (vs := (evI g k n l.clean it).1) (fun i v l' e hI => by
    obtain ⟨ha, hb⟩ := turn i v l' e hI
    exact ⟨⟨hb.1, ha⟩, hb.2⟩) done 0 l (Nat.zero_le _) h0
  rw [List.drop_zero] at this
  exact ⟨⟨hq, this.1, h1⟩, this.2⟩
theorem WX_while {t : Expr} {body : List Stmt} {p : Pos} {Q : Fl → Ls → Prop} (I : Nat → Ls → Prop) (m : Nat) (hm : m < 100000) (h0 : I m l)
    (turn : ∀ i l', I i l' → WT g k n l' t fun b => (b = true → ∃ j, i = j + 1 ∧ WXs g k n l' body (Turn (fun l2 => ∃ i', i' ≤ j ∧ I i' l2) Q)) ∧ (b = false → Q .next l')) : WX g k (n + 1) l (.While t body [] p) Q := by
  unfold WX; rw [ex_while0]
  have key : ∀ (c i : Nat) (l' : Ls), i < c → I i l' → (whileV (fun l => evT g k n l t) (fun l => exs g k n l body) c l').2.2 ∧ Q (whileV (fun l => evT g k n l t) (fun l => exs g k n l body) c l').1 (whileV (fun l => evT g k n l t) (fun l => exs g k n l body) c l').2.1 := by
    intro c
    induction c with
    | zero => intro i l' h; omega
    | succ c ih =>
      intro i l' hi hI
      have T := turn i l' hI
      unfold WT at T
      rw [whileV_succ]
      split
      · rename_i ht
        obtain ⟨j, hj, hb⟩ := T.2.1 ht
        unfold WXs Turn at hb
        revert hb
        generalize exs g k n l' body = q
        obtain ⟨f, l2, cc⟩ := q
        cases f with
        | next =>
          rintro ⟨hb, i', hi', hI'⟩
          have := ih i' l2 (by omega) hI'
          exact And.intro (And.intro T.1 (And.intro hb this.1)) this.2
        | ret u => exact fun hb => And.intro (And.intro T.1 hb.1) hb.2
      · rename_i ht
        exact ⟨T.1, T.2.2 (by simpa using ht)⟩
  exact key 100000 m l hm h0
theorem WX_whileR {t : Expr} {body : List Stmt} {p : Pos} {Q : Fl → Ls → Prop} (I : Nat → Ls → Prop) (R : Ls → Prop) (m : Nat) (hm : m < 100000) (h0 : I m l)
    (turn : ∀ i l', I i l' → WT g k n l' t fun b => (b = true → ∃ j, i = j + 1 ∧ WXs g k n l' body (Turn (fun l2 => ∃ i', i' ≤ j ∧ I i' l2) Q)) ∧ (b = false → R l')) (rest : ∀ l', R l' → Q .next l') : WX g k (n + 1) l (.While t body [] p) Q :=
  WX_while I m hm h0 fun i l' hI => (turn i l' hI).mono fun b h => ⟨h.1, fun e => rest _ (h.2 e)⟩
theorem WX_ifR {t : Expr} {a b : List Stmt} {p : Pos} {Q : Fl → Ls → Prop} (R : Ls → Prop) (h : WT g k n l t fun c => (c = true → WXs g k n l a (Turn R Q)) ∧ (c = false → WXs g k n l b (Turn R Q))) (rest : ∀ l', R l' → Q .next l') : WX g k (n + 1) l (.If t a b p) Q := by
  have up : ∀ f l', Turn R Q f l' → Q f l' := fun f l' q => by
    cases f with
    | next => exact rest _ q
    | ret v => exact q
  exact WX_if (h.mono fun c q => ⟨fun e => (q.1 e).mono up, fun e => (q.2 e).mono up⟩)
theorem WX_forC {x : Str} {px p : Pos} {it : Expr} {body : List Stmt} {Q : Fl → Ls → Prop} {lc : Ls} (I : Nat → Ls → Prop) (hc : l.clean = lc)
    (h : WI g k n lc it fun vs => I 0 l ∧ (∀ i v l', vs[i]? = some v → I i l' → isAtom v = true ∧ WXs g k n (l'.put x ⟨v, false⟩) body (Turn (I (i + 1)) Q)) ∧ ∀ l', I vs.length l' → Q .next l') (h1 : storable k x = true) :
    WX g k (n + 1) l (.For (.Name x px) it body [] p) Q := by subst hc; exact WX_for I h h1
theorem WX_newC {x : Str} {px p : Pos} {e : Expr} {Q : Fl → Ls → Prop} {lc : Ls} (hn : isNew e = true) (hc : l.clean = lc) (h : WE g k n lc e fun v => Q .next (l.put x ⟨v, true⟩)) (h1 : k x = some .local) (h2 : nameOk x = true) (h3 : onlyOwn l x = true) : WX g k (n + 1) l (.Assign [.Name x px] e p) Q := by
  subst hc; exact WX_new hn h h1 h2 h3
theorem at_clean_none {j : Ls} {x : Str} (hj : j.at x = none) : j.clean.at x = none := by
  induction j with
  | nil => rfl
  | cons p r ih =>
    obtain ⟨y, u⟩ := p
    simp only [Ls.at] at hj
    by_cases e : y = x
    · rw [if_pos e] at hj; cases hj
    · rw [if_neg e] at hj
      unfold Ls.clean at ih ⊢
      rw [List.filter_cons]
      split
      · simp only [Ls.at]
        rw [if_neg e]; exact ih hj
      · exact ih hj
theorem put_put {x : Str} {a b : Loc} : ∀ {l : Ls}, (l.put x a).put x b = l.put x b
  | [] => by simp [Ls.put]
  | (y, u) :: r => by
    by_cases e : y = x
    · simp [Ls.put, e]
    · simp only [Ls.put, if_neg e]
      rw [put_put]
theorem put_same {x : Str} {a : Loc} : ∀ {l : Ls}, l.loc x = some a → l.put x a = l
  | [], h => by cases h
  | (y, u) :: r, h => by
    simp only [Ls.loc] at h
    by_cases e : y = x
    · rw [if_pos e] at h
      cases h
      simp [Ls.put, e]
    · rw [if_neg e] at h
      simp only [Ls.put, if_neg e]
      rw [put_same h]
theorem wxs_put2 {l l' l'' : Ls} {x y : Str} {u v : Loc} {r : List Stmt} {Q : Fl → Ls → Prop} (hp : l.put x u = l') (hp2 : l'.put y v = l'') (h : WXs g k n l'' r Q) : WXs g k n ((l.put x u).put y v) r Q := by subst hp hp2; exact h
/-- a loop over range(m) that changes one name -/
theorem WX_forAcc {x y : Str} {px p : Pos} {it : Expr} {body : List Stmt} {Q : Fl → Ls → Prop} {lc : Ls} (u : Nat → V) (m : Nat) (hc : l.clean = lc) (h0 : l.loc y = some ⟨u 0, false⟩) (hm : 0 < m)
    (hI : WI g k n lc it fun vs => vs = (List.range m).map fun (i : Nat) => V.int i)
    (turn : ∀ i < m, WXs g k n ((l.put y ⟨u i, false⟩).put x ⟨.int i, false⟩) body (Turn (fun l2 => l2 = (l.put y ⟨u (i + 1), false⟩).put x ⟨.int i, false⟩) Q))
    (done : Q .next ((l.put y ⟨u m, false⟩).put x ⟨.int ((m - 1 : Nat) : Int), false⟩)) (h1 : storable k x = true) : WX g k (n + 1) l (.For (.Name x px) it body [] p) Q := by
  refine WX_forC (fun i l' => (i = 0 ∧ l' = l) ∨ ∃ j, i = j + 1 ∧ l' = (l.put y ⟨u i, false⟩).put x ⟨.int j, false⟩) hc (hI.mono fun vs e => ?_) h1
  subst e
  refine ⟨.inl ⟨rfl, rfl⟩, fun i v l' hv hi => ?_, fun l' hl => ?_⟩
  · obtain ⟨hlt, rfl⟩ := range_item hv
    refine ⟨rfl, ?_⟩
    have e : l'.put x ⟨.int i, false⟩ = (l.put y ⟨u i, false⟩).put x ⟨.int i, false⟩ := by
      rcases hi with ⟨rfl, rfl⟩ | ⟨j, rfl, rfl⟩
      · rw [put_same h0]
      · rw [put_put]
    rw [e]
    refine (turn i hlt).mono fun f l2 q => ?_
    cases f with
    | next =>
      have q : l2 = _ := q
      exact .inr ⟨i, rfl, q⟩
    | ret w => exact q
  · rw [List.length_map, List.length_range] at hl
    rcases hl with ⟨rfl, _⟩ | ⟨j, rfl, rfl⟩
    · omega
    · exact done
theorem WX_assignR {x : Str} {px p : Pos} {e : Expr} {Q : Fl → Ls → Prop} (R : V → Prop) (hn : isNew e = false) (hc : l.clean = l) (h : WE g k n l e R) (rest : ∀ v, R v → Q .next (l.put x ⟨v, false⟩)) (h1 : storable k x = true) : WX g k (n + 1) l (.Assign [.Name x px] e p) Q :=
  WX_clean hn hc (h.mono rest) h1
/-! calls -/
noncomputable def Post (Q : V → Prop) : Fl → Ls → Prop := fun f _ => ∃ v, f = .ret v ∧ Q v
theorem WF_of {D : Dat0} {fs : List FnT} {m : Nat} {f : Str} {args : List V} {Q : V → Prop} (t : FnT) (ls : Ls) (hf : fs.find? (fun t => t.name == f) = some t) (hl : args.length = t.params.length) (hs : startLs t.params args = ls)
    (h : WXs (CC D fs m) (fun x => t.scope.names.lookup x) 200 ls t.body (Post Q)) : WF (CC D fs (m + 1)) f args Q := by
  subst hs
  unfold WXs Post at h
  show (runFn (CC D fs m) fs f args).2 ∧ Q (runFn (CC D fs m) fs f args).1
  unfold runFn
  rw [hf]
  dsimp only
  rw [if_pos hl]
  revert h
  generalize exs (CC D fs m) (fun x => t.scope.names.lookup x) 200 (startLs t.params args) t.body = q
  obtain ⟨fl, l', c⟩ := q
  rintro ⟨h1, v, rfl, h2⟩
  exact ⟨h1, h2⟩
theorem post_ret {Q : V → Prop} {v : V} {l : Ls} (h : Q v) : Post Q (.ret v) l := ⟨v, rfl, h⟩
theorem WE_globC {D : Dat0} {fs : List FnT} {m : Nat} {x : Str} {p : Pos} {v : V} {Q : V → Prop} (e : l.at x = none) (e2 : D.gl x = some v) (hk : kindOk k x = true) (h : Q v) : WE (CC D fs m) k (n + 1) l (.Name x p) Q :=
  WE_glob e (by rw [CC_gl]; exact e2) hk h
/-! comprehensions -/
theorem capt_nil {k : Kd} : Ls.capt [] k = [] := rfl
theorem capt_keep {k : Kd} {x : Str} {u : Loc} {r r' : Ls} (h : (k x == some .cell || k x == some .free) = true) (e : Ls.capt r k = r') : Ls.capt ((x, u) :: r) k = (x, u) :: r' := by
  subst e
  unfold Ls.capt
  rw [List.filter_cons, if_pos h]
theorem capt_drop {k : Kd} {x : Str} {u : Loc} {r r' : Ls} (h : (k x == some .cell || k x == some .free) = false) (e : Ls.capt r k = r') : Ls.capt ((x, u) :: r) k = r' := by
  subst e
  unfold Ls.capt
  rw [List.filter_cons, if_neg (by rw [h]; decide)]
theorem we_put {l l' : Ls} {x : Str} {u : Loc} {e : Expr} {Q : V → Prop} (hp : l.put x u = l') (h : WE g k n l' e Q) : WE g k n (l.put x u) e Q := by subst hp; exact h
theorem wt_put {l l' : Ls} {x : Str} {u : Loc} {e : Expr} {Q : Bool → Prop} (hp : l.put x u = l') (h : WT g k n l' e Q) : WT g k n (l.put x u) e Q := by subst hp; exact h
theorem WE_comp {α : Type} {elt it : Expr} {x : Str} {px p : Pos} {scope : Scope} {lc : Ls} {Q : V → Prop} (φ : α → V) (L : List α) (F : α → V) (hc : l.capt (inKind k scope) = lc)
    (h : WI g k n l it fun vs => vs = L.map φ ∧ L.length ≤ lenLid ∧ (∀ a ∈ L, WE g (inKind k scope) n (lc.put x ⟨φ a, false⟩) elt fun r => r = F a) ∧ Q (.list (L.map F)))
    (hx : scope.names.lookup x = some .local) (hn : nameOk x = true) (hs : Mine.ev.scopeOk k l scope = true) : WE g k (n + 1) l (.ListComp elt [⟨.Name x px, it, [], 0⟩] scope p) Q := by
  subst hc
  unfold WE WI at *; rw [ev_comp0]
  obtain ⟨hq, e, hl, he, hQ⟩ := h
  rw [e]
  refine ⟨⟨hq, ⟨hx, hn⟩, hs, by simpa using hl, ?_⟩, ?_⟩
  · intro v hv
    obtain ⟨a, ha, rfl⟩ := List.mem_map.mp hv
    exact (he a ha).1
  · rw [List.map_map]
    have : List.map ((fun v => (ev g (inKind k scope) n ((l.capt (inKind k scope)).put x ⟨v, false⟩) elt).1) ∘ φ) L = L.map F := List.map_congr_left fun a ha => (he a ha).2
    rw [this]; exact hQ
theorem WE_compIf {α : Type} {elt it t : Expr} {x : Str} {px p : Pos} {scope : Scope} {lc : Ls} {Q : V → Prop} (φ : α → V) (L : List α) (F : α → V) (T : α → Bool) (hc : l.capt (inKind k scope) = lc)
    (h : WI g k n l it fun vs => vs = L.map φ ∧ L.length ≤ lenLid ∧ (∀ a ∈ L, WT g (inKind k scope) n (lc.put x ⟨φ a, false⟩) t fun b => b = T a) ∧ (∀ a ∈ L, T a = true → WE g (inKind k scope) n (lc.put x ⟨φ a, false⟩) elt fun r => r = F a) ∧ Q (.list ((L.filter T).map F)))
    (hx : scope.names.lookup x = some .local) (hn : nameOk x = true) (hs : Mine.ev.scopeOk k l scope = true) : WE g k (n + 1) l (.ListComp elt [⟨.Name x px, it, [t], 0⟩] scope p) Q := by
  subst hc
  unfold WE WI WT at *; rw [ev_comp1]
  obtain ⟨hq, e, hl, ht, he, hQ⟩ := h
  rw [e]
  refine ⟨⟨hq, ⟨hx, hn⟩, hs, by simpa using hl, ?_⟩, ?_⟩
  · intro v hv
    obtain ⟨a, ha, rfl⟩ := List.mem_map.mp hv
    exact ⟨(ht a ha).1, fun q => (he a ha (by rw [← (ht a ha).2]; exact q)).1⟩
  · have e1 : List.filter (fun v => (evT g (inKind k scope) n ((l.capt (inKind k scope)).put x ⟨v, false⟩) t).1) (L.map φ) = (L.filter T).map φ := by
      rw [List.filter_map]
      congr 1
      apply List.filter_congr
      intro a ha
      exact (ht a ha).2
    rw [e1, List.map_map]
    have : List.map ((fun v => (ev g (inKind k scope) n ((l.capt (inKind k scope)).put x ⟨v, false⟩) elt).1) ∘ φ) (L.filter T) = (L.filter T).map F := List.map_congr_left fun a ha => by
      obtain ⟨h1, h2⟩ := List.mem_filter.mp ha
      exact (he a h1 h2).2
    rw [this]; exact hQ
/-- over range(m), m a number -/
theorem WE_compR {elt e : Expr} {x f : Str} {px p fp rp : Pos} {scope : Scope} {lc : Ls} {Q : V → Prop} (m : Nat) (F : Nat → V) (hc : l.capt (inKind k scope) = lc) (hm : m ≤ lenLid) (hf : f = ("range" : Str)) (h1 : l.at f = none) (h2 : kindOk k f = true)
    (hx : scope.names.lookup x = some .local) (hn : nameOk x = true) (hs : Mine.ev.scopeOk k l scope = true) (hes : ∀ x p, e ≠ .Starred x p)
    (he : WE g k (n + 1) l e fun v => v = .int m)
    (hE : ∀ i < m, WE g (inKind k scope) (n + 1 + 1 + 1) (lc.put x ⟨.int i, false⟩) elt fun r => r = F i) (hQ : Q (.list ((List.range m).map F))) : WE g k (n + 1 + 1 + 1 + 1) l (.ListComp elt [⟨.Name x px, .Call (.Name f fp) [e] [] rp, [], 0⟩] scope p) Q := by
  refine WE_comp (fun (i : Nat) => V.int i) (List.range m) F hc ?_ hx hn hs
  refine WI_range ?_ hf h1 h2
  refine WEs_cons (he.mono fun v hv => ?_) hes
  subst hv
  refine WEs_nil (rng1 rfl hm ⟨rfl, by simpa using hm, fun a ha => hE a (List.mem_range.mp ha), hQ⟩)
theorem WE_compRIf {elt e t : Expr} {x f : Str} {px p fp rp : Pos} {scope : Scope} {lc : Ls} {Q : V → Prop} (m : Nat) (F : Nat → V) (T : Nat → Bool) (hc : l.capt (inKind k scope) = lc) (hm : m ≤ lenLid) (hf : f = ("range" : Str)) (h1 : l.at f = none) (h2 : kindOk k f = true)
    (hx : scope.names.lookup x = some .local) (hn : nameOk x = true) (hs : Mine.ev.scopeOk k l scope = true) (hes : ∀ x p, e ≠ .Starred x p)
    (he : WE g k (n + 1) l e fun v => v = .int m)
    (hT : ∀ i < m, WT g (inKind k scope) (n + 1 + 1 + 1) (lc.put x ⟨.int i, false⟩) t fun b => b = T i)
    (hE : ∀ i < m, T i = true → WE g (inKind k scope) (n + 1 + 1 + 1) (lc.put x ⟨.int i, false⟩) elt fun r => r = F i) (hQ : Q (.list (((List.range m).filter T).map F))) : WE g k (n + 1 + 1 + 1 + 1) l (.ListComp elt [⟨.Name x px, .Call (.Name f fp) [e] [] rp, [t], 0⟩] scope p) Q := by
  refine WE_compIf (fun (i : Nat) => V.int i) (List.range m) F T hc ?_ hx hn hs
  refine WI_range ?_ hf h1 h2
  refine WEs_cons (he.mono fun v hv => ?_) hes
  subst hv
  refine WEs_nil (rng1 rfl hm ⟨rfl, by simpa using hm, fun a ha => hT a (List.mem_range.mp ha), fun a ha => hE a (List.mem_range.mp ha), hQ⟩)
end Mine
namespace Mine
open PySem PySem.W PyProof.Rows PySem.Calls
/-! the steps on values -/
section
variable {Q : V → Prop} {g : Cfg}
theorem b_add {a b : Int} (h : Q (.int (a + b))) : Pw (binV .Add (.int a) (.int b)) Q := ⟨trivial, h⟩
theorem b_sub {a b : Int} (h : Q (.int (a - b))) : Pw (binV .Sub (.int a) (.int b)) Q := ⟨trivial, h⟩
theorem b_mul {a b : Int} (hm : a.natAbs < 2 ^ 64 ∨ b.natAbs < 2 ^ 64) (h : Q (.int (a * b))) : Pw (binV .Mult (.int a) (.int b)) Q := ⟨hm, h⟩
theorem b_div {a b : Int} (hm : b ≠ 0 ∧ b.natAbs < 1073741824) (h : Q (.int (a.fdiv b))) : Pw (binV .FloorDiv (.int a) (.int b)) Q := ⟨hm, h⟩
theorem b_mod {a b : Int} (hm : b ≠ 0) (h : Q (.int (a.fmod b))) : Pw (binV .Mod (.int a) (.int b)) Q := ⟨hm, h⟩
/-- by a positive number -/
theorem b_divp {a b : Int} (hm : 0 < b ∧ b < 1073741824) (h : Q (.int (a / b))) : Pw (binV .FloorDiv (.int a) (.int b)) Q :=
  b_div ⟨by omega, by omega⟩ (by rw [Int.fdiv_eq_ediv_of_nonneg _ (by omega)]; exact h)
theorem b_modp {a b : Int} (hm : 0 < b) (h : Q (.int (a % b))) : Pw (binV .Mod (.int a) (.int b)) Q :=
  b_mod (by omega) (by rw [Int.fmod_eq_emod_of_nonneg _ (by omega)]; exact h)
theorem b_pow {a b : Int} (hm : 0 ≤ b ∧ b ≤ 1000 ∧ a.natAbs < 2 ^ 64) (h : Q (.int (a ^ b.toNat))) : Pw (binV .Pow (.int a) (.int b)) Q := ⟨hm, h⟩
theorem b_pow2 {e : Int} (hm : 0 ≤ e ∧ e ≤ 1000) (h : Q (.int ((2 ^ e.toNat : Nat) : Int))) : Pw (binV .Pow (.int 2) (.int e)) Q :=
  b_pow ⟨hm.1, hm.2, by decide⟩ (by rw [Int.natCast_pow] at h; exact h)
theorem b_pow16 {e : Int} (hm : 0 ≤ e ∧ e ≤ 1000) (h : Q (.int ((16 ^ e.toNat : Nat) : Int))) : Pw (binV .Pow (.int 16) (.int e)) Q :=
  b_pow ⟨hm.1, hm.2, by decide⟩ (by rw [Int.natCast_pow] at h; exact h)
theorem b_pow2n {e : Nat} (hm : e ≤ 1000) (h : Q (.int ((2 ^ e : Nat) : Int))) : Pw (binV .Pow (.int 2) (.int (e : Int))) Q := b_pow2 (by omega) h
theorem b_cat {a b : List Nat} (hm : a.length + b.length ≤ lenLid) (h : Q (.str (a ++ b))) : Pw (binV .Add (.str a) (.str b)) Q := ⟨hm, h⟩
theorem b_rep {a : List Nat} {b : Int} (hm : a.length ≤ 100 ∧ b ≤ 100 ∧ -100 ≤ b) (h : Q (.str (repStr a b.toNat))) : Pw (binV .Mult (.str a) (.int b)) Q := ⟨hm, h⟩
theorem b_catL {a b : List V} (hm : a.length + b.length ≤ lenLid) (h : Q (.list (a ++ b))) : Pw (binV .Add (.list a) (.list b)) Q := ⟨hm, h⟩
theorem b_catB {a b : List UInt8} (hm : a.length + b.length ≤ lenLid) (h : Q (.bytes (a ++ b))) : Pw (binV .Add (.bytes a) (.bytes b)) Q := ⟨hm, h⟩
theorem b_catM {α : Type} {f : α → V} {a b : List α} (hm : a.length + b.length ≤ lenLid) (h : Q (.list ((a ++ b).map f))) : Pw (binV .Add (.list (a.map f)) (.list (b.map f))) Q :=
  b_catL (by simpa using hm) (by rw [← List.map_append]; exact h)
theorem b_repL {a b : Int} (hm : b ≤ 100 ∧ -100 ≤ b) (h : Q (.list (List.replicate b.toNat (.int a)))) : Pw (binV .Mult (.list [.int a]) (.int b)) Q := ⟨hm, h⟩
end
section
variable {Q : Bool → Prop} {g : Cfg}
theorem c_eqI {a b : Int} (h : Q (decide (a = b))) : Pw (cmpV g .Eq (.int a) (.int b)) Q := ⟨trivial, h⟩
theorem c_neI {a b : Int} (h : Q (decide (a ≠ b))) : Pw (cmpV g .NotEq (.int a) (.int b)) Q := ⟨trivial, h⟩
theorem c_ltI {a b : Int} (h : Q (decide (a < b))) : Pw (cmpV g .Lt (.int a) (.int b)) Q := ⟨trivial, h⟩
theorem c_leI {a b : Int} (h : Q (decide (a ≤ b))) : Pw (cmpV g .LtE (.int a) (.int b)) Q := ⟨trivial, h⟩
theorem c_gtI {a b : Int} (h : Q (decide (b < a))) : Pw (cmpV g .Gt (.int a) (.int b)) Q := ⟨trivial, h⟩
theorem c_eqS {a b : List Nat} (h : Q (decide (a = b))) : Pw (cmpV g .Eq (.str a) (.str b)) Q := ⟨trivial, h⟩
theorem c_neS {a b : List Nat} (h : Q (decide (a ≠ b))) : Pw (cmpV g .NotEq (.str a) (.str b)) Q := ⟨trivial, h⟩
theorem c_inn {v : V} (hv : (v = .none ∧ Q false) ∨ ((∃ x, v = .str x) ∧ Q true)) : Pw (cmpV g .IsNot v .none) Q := by
  rcases hv with ⟨rfl, h⟩ | ⟨⟨x, rfl⟩, h⟩
  · exact ⟨trivial, h⟩
  · exact ⟨trivial, h⟩
theorem c_in {a : Int} {w : Value} (hm : (g.mem w a).2) (h : Q (g.mem w a).1) : Pw (cmpV g .In (.int a) (.val w)) Q := ⟨hm, h⟩
theorem c_inC {D : Dat0} {fs : List FnT} {m : Nat} {a : Int} {w : Value} (hm : (D.mem w a).2) (h : Q (D.mem w a).1) : Pw (cmpV (CC D fs m) .In (.int a) (.val w)) Q :=
  c_in (by rw [CC_mem]; exact hm) (by rw [CC_mem]; exact h)
theorem intsV_map : ∀ (xs : List Int), intsV (xs.map .int) = (xs, True)
  | [] => rfl
  | x :: r => by
    simp only [List.map_cons, intsV, intsV_map r]
theorem strsV_map : ∀ (xs : List (List Nat)), strsV (xs.map .str) = (xs, True)
  | [] => rfl
  | x :: r => by
    simp only [List.map_cons, strsV, strsV_map r]
theorem intsV_nats : ∀ (xs : List Nat), intsV (xs.map fun (x : Nat) => V.int x) = (xs.map fun (x : Nat) => (x : Int), True)
  | [] => rfl
  | x :: r => by
    simp only [List.map_cons, intsV, intsV_nats r]
theorem map_castInj : ∀ {a b : List Nat}, (a.map fun (x : Nat) => (x : Int)) = (b.map fun (x : Nat) => (x : Int)) ↔ a = b
  | [], [] => by simp
  | [], _ :: _ => by simp
  | _ :: _, [] => by simp
  | x :: a, y :: b => by
    simp only [List.map_cons, List.cons.injEq, map_castInj (a := a) (b := b), Int.ofNat_inj]
theorem c_eqN {a b : List Nat} (h : Q (decide (a = b))) : Pw (cmpV g .Eq (.list (a.map fun (x : Nat) => V.int x)) (.list (b.map fun (x : Nat) => V.int x))) Q := by
  unfold Pw cmpV
  simp only [intsV_nats, map_castInj]
  exact ⟨⟨trivial, trivial⟩, h⟩
theorem it_str {Q : List V → Prop} {xs : List Nat} (hl : xs.length ≤ lenLid) (h : Q (xs.map fun c => V.str [c])) : Pw (itemsV (.str xs)) Q := ⟨hl, h⟩
theorem it_list {Q : List V → Prop} {xs : List V} (hl : xs.length ≤ lenLid) (h : Q xs) : Pw (itemsV (.list xs)) Q := ⟨hl, h⟩
theorem rng3 {Q : List V → Prop} {m : Nat} {a b c : Int} (hc : 0 < c ∧ c ≤ 1000) (ha : -lenLid ≤ a ∧ a ≤ lenLid ∧ b ≤ lenLid ∧ -lenLid ≤ b) (hm : (b - a + c - 1) / c = m) (h : Q ((List.range m).map fun (i : Nat) => V.int (a + i * c))) : Pw (rangeOf [.int a, .int b, .int c]) Q := by
  show (rangeV a b c).2 ∧ Q ((rangeV a b c).1.map .int)
  unfold rangeV
  rw [rangeUp_map]
  refine ⟨⟨hc.1, hc.2, ha⟩, ?_⟩
  have e : ((b - a + c - 1).fdiv c).toNat = m := by
    rw [Int.fdiv_eq_ediv_of_nonneg _ (by omega), hm]; rfl
  rw [e, List.map_map]
  exact h
theorem dec_nat (a b : Nat) : decide ((a : Int) = (b : Int)) = (a == b) := by
  rw [beq_dec]; exact decide_eq_decide.mpr Int.ofNat_inj
theorem t_bool {b : Bool} (h : Q b) : Pw (truV (.bool b)) Q := ⟨trivial, h⟩
theorem t_int {b : Int} (h : Q (decide (b ≠ 0))) : Pw (truV (.int b)) Q := ⟨trivial, h⟩
theorem t_str {b : List Nat} (hl : b.length ≤ lenLid) (h : Q (decide (0 < b.length))) : Pw (truV (.str b)) Q := ⟨hl, h⟩
end
section
variable {Q : V → Prop} {g : Cfg}
theorem i_list {xs : List V} {i : Int} (h0 : 0 ≤ i) (h1 : i < xs.length) (hl : xs.length ≤ lenLid) (h : Q (xs.getD i.toNat .none)) : Pw (itemV (.list xs) (.int i)) Q := by
  unfold itemV seqAt
  dsimp only
  rw [if_neg (by omega)]
  exact ⟨⟨by omega, h1, hl⟩, h⟩
theorem i_str {xs : List Nat} {i : Int} (h0 : 0 ≤ i) (h1 : i < xs.length) (hl : xs.length ≤ lenLid) (h : Q (.str [xs.getD i.toNat 0])) : Pw (itemV (.str xs) (.int i)) Q := by
  unfold itemV seqAt
  dsimp only
  rw [if_neg (by omega)]
  exact ⟨⟨by omega, h1, hl⟩, h⟩
theorem i_strn {xs : List Nat} {i : Int} (h0 : i < 0) (h1 : -(xs.length : Int) ≤ i) (hl : xs.length ≤ lenLid) (h : Q (.str [xs.getD (i + xs.length).toNat 0])) : Pw (itemV (.str xs) (.int i)) Q := by
  unfold itemV seqAt
  dsimp only
  rw [if_pos h0]
  exact ⟨⟨h1, by omega, hl⟩, h⟩
theorem i_ints {xs : List Int} {i : Int} (h0 : 0 ≤ i) (h1 : i < xs.length) (hl : xs.length ≤ lenLid) (h : Q (.int (xs.getD i.toNat 0))) : Pw (itemV (.list (xs.map .int)) (.int i)) Q := by
  refine i_list h0 (by simpa using h1) (by simpa using hl) ?_
  have : i.toNat < xs.length := by omega
  rw [List.getD_eq_getElem?_getD, List.getElem?_map, List.getElem?_eq_getElem this]
  rw [List.getD_eq_getElem?_getD, List.getElem?_eq_getElem this] at h
  exact h
theorem i_strs {xs : List (List Nat)} {i : Int} (h0 : 0 ≤ i) (h1 : i < xs.length) (hl : xs.length ≤ lenLid) (h : Q (.str (xs.getD i.toNat []))) : Pw (itemV (.list (xs.map .str)) (.int i)) Q := by
  refine i_list h0 (by simpa using h1) (by simpa using hl) ?_
  have : i.toNat < xs.length := by omega
  rw [List.getD_eq_getElem?_getD, List.getElem?_map, List.getElem?_eq_getElem this]
  rw [List.getD_eq_getElem?_getD, List.getElem?_eq_getElem this] at h
  exact h
theorem i_nats {xs : List Nat} {i : Int} (h0 : 0 ≤ i) (h1 : i < xs.length) (hl : xs.length ≤ lenLid) (h : Q (.int (xs.getD i.toNat 0 : Nat))) : Pw (itemV (.list (xs.map fun (x : Nat) => V.int x)) (.int i)) Q := by
  refine i_list h0 (by simpa using h1) (by simpa using hl) ?_
  have : i.toNat < xs.length := by omega
  rw [List.getD_eq_getElem?_getD, List.getElem?_map, List.getElem?_eq_getElem this]
  rw [List.getD_eq_getElem?_getD, List.getElem?_eq_getElem this] at h
  exact h
theorem clip_pos {n d : Nat} {i : Int} (h : 0 ≤ i) : clip n d (.int i) = (min i.toNat n, True) := by
  unfold clip; dsimp only; rw [if_neg (by omega)]
theorem clip_neg {n d : Nat} {i : Int} (h : i < 0) : clip n d (.int i) = ((i + n).toNat, True) := by
  unfold clip; dsimp only; rw [if_pos h]
theorem cut_from {xs : List Nat} {i : Int} (h0 : 0 ≤ i) (hl : xs.length ≤ lenLid) (h : Q (.str (xs.drop i.toNat))) : Pw (cutV (.str xs) (.int i) .none .none) Q := by
  unfold cutV
  dsimp only
  rw [clip_pos h0]
  refine ⟨⟨trivial, trivial, hl⟩, ?_⟩
  show Q (.str ((xs.take xs.length).drop (min i.toNat xs.length)))
  rw [List.take_length]
  by_cases e : i.toNat ≤ xs.length
  · rw [Nat.min_eq_left e]; exact h
  · rw [Nat.min_eq_right (by omega), List.drop_length]
    rw [List.drop_eq_nil_of_le (by omega)] at h; exact h
theorem cut_to {xs : List Nat} {i : Int} (h0 : 0 ≤ i) (hl : xs.length ≤ lenLid) (h : Q (.str (xs.take i.toNat))) : Pw (cutV (.str xs) .none (.int i) .none) Q := by
  unfold cutV
  dsimp only
  rw [clip_pos h0]
  refine ⟨⟨trivial, trivial, hl⟩, ?_⟩
  show Q (.str ((xs.take (min i.toNat xs.length)).drop 0))
  rw [List.drop_zero]
  by_cases e : i.toNat ≤ xs.length
  · rw [Nat.min_eq_left e]; exact h
  · rw [Nat.min_eq_right (by omega), List.take_length]
    rw [List.take_of_length_le (by omega)] at h; exact h
theorem cut_ton {xs : List Nat} {i : Int} (h0 : i < 0) (hl : xs.length ≤ lenLid) (h : Q (.str (xs.take (i + xs.length).toNat))) : Pw (cutV (.str xs) .none (.int i) .none) Q := by
  unfold cutV
  dsimp only
  rw [clip_neg h0]
  refine ⟨⟨trivial, trivial, hl⟩, ?_⟩
  exact h
theorem cut_all {xs : List Nat} (hl : xs.length ≤ lenLid) (h : Q (.str xs)) : Pw (cutV (.str xs) .none .none .none) Q := by
  unfold cutV
  refine ⟨⟨trivial, trivial, hl⟩, ?_⟩
  show Q (.str ((xs.take xs.length).drop 0))
  rw [List.take_length]; exact h
theorem pickL_map {α β : Type} (f : α → β) (xs : List α) (lo hi st : Option Int) : pickL (xs.map f) lo hi st = (pickL xs lo hi st).map f := by
  unfold pickL
  rw [List.length_map, List.map_filterMap]
  congr 1
  funext i
  rw [List.getElem?_map]
theorem cut_step {xs : List Int} {i k : Int} (hk : k ≠ 0) (hl : xs.length ≤ lenLid) (h : Q (.list ((pickL xs (some i) none (some k)).map .int))) : Pw (cutV (.list (xs.map .int)) (.int i) .none (.int k)) Q := by
  unfold cutV
  dsimp only
  rw [pickL_map]
  exact ⟨⟨hk, by rw [List.length_map]; exact hl⟩, h⟩
theorem cut_bytes {xs : List UInt8} {i j : Int} (h0 : 0 ≤ i) (h1 : 0 ≤ j) (h2 : i ≤ xs.length) (h3 : j ≤ xs.length) (hl : xs.length ≤ lenLid) (h : Q (.bytes ((xs.take j.toNat).drop i.toNat))) : Pw (cutV (.bytes xs) (.int i) (.int j) .none) Q := by
  unfold cutV
  dsimp only
  rw [clip_pos h0, clip_pos h1]
  refine ⟨⟨trivial, trivial, hl⟩, ?_⟩
  show Q (.bytes ((xs.take (min j.toNat xs.length)).drop (min i.toNat xs.length)))
  rw [Nat.min_eq_left (by omega), Nat.min_eq_left (by omega)]; exact h
theorem i_strN {xs : List Nat} {i : Nat} (h1 : i < xs.length) (hl : xs.length ≤ lenLid) (h : Q (.str [xs.getD i 0])) : Pw (itemV (.str xs) (.int (i : Int))) Q := i_str (by omega) (by omega) hl h
theorem i_natsN {xs : List Nat} {i : Nat} (h1 : i < xs.length) (hl : xs.length ≤ lenLid) (h : Q (.int (xs.getD i 0 : Nat))) : Pw (itemV (.list (xs.map fun (x : Nat) => V.int x)) (.int (i : Int))) Q := i_nats (by omega) (by omega) hl h
theorem i_intsN {xs : List Int} {i : Nat} (h1 : i < xs.length) (hl : xs.length ≤ lenLid) (h : Q (.int (xs.getD i 0))) : Pw (itemV (.list (xs.map .int)) (.int (i : Int))) Q := i_ints (by omega) (by omega) hl h
theorem cut_fromN {xs : List Nat} {i : Nat} (hl : xs.length ≤ lenLid) (h : Q (.str (xs.drop i))) : Pw (cutV (.str xs) (.int (i : Int)) .none .none) Q := cut_from (by omega) hl h
theorem cut_toN {xs : List Nat} {i : Nat} (hl : xs.length ≤ lenLid) (h : Q (.str (xs.take i))) : Pw (cutV (.str xs) .none (.int (i : Int)) .none) Q := cut_to (by omega) hl h
theorem WE_cutOr {k : Kd} {n : Nat} {l : Ls} {x y : Str} {xp yp cp op sp p : Pos} {c : Nat} {xs : List Nat} {j : Nat} (hx : l.at x = some (.str xs)) (hy : l.at y = some (.int (-(j : Int)))) (hj : j ≤ xs.length) (hl : xs.length ≤ lenLid) (h : Q (.str (xs.take (xs.length - j)))) :
    WE g k (n + 5) l (.Subscript (.Name x xp) (.Slice none (some (.BoolOp .Or [.Name y yp, .Constant .none c cp] op)) none sp) p) Q := by
  refine WE_cut (WE_name hx (WO_none (WO_some (WE_or (WE_name hy ?_)))))
  refine t_int ?_
  refine split_d (fun hc => ?_) (fun hc => ?_)
  · refine WO_none ?_
    refine cut_ton (by omega) hl ?_
    have : (-(j : Int) + (xs.length : Int)).toNat = xs.length - j := by omega
    rw [this]; exact h
  · refine WE_none (WO_none ?_)
    refine cut_all hl ?_
    have : j = 0 := by omega
    subst this
    rw [Nat.sub_zero, List.take_length] at h; exact h
theorem f_lenS {x : List Nat} (hl : x.length ≤ lenLid) (h : Q (.int x.length)) : Pw (bltV "len" [.str x]) Q := ⟨hl, h⟩
theorem f_lenL {x : List V} (hl : x.length ≤ lenLid) (h : Q (.int x.length)) : Pw (bltV "len" [.list x]) Q := ⟨hl, h⟩
theorem f_lenM {α : Type} {f : α → V} {x : List α} (hl : x.length ≤ lenLid) (h : Q (.int x.length)) : Pw (bltV "len" [.list (x.map f)]) Q := by
  refine f_lenL (by rw [List.length_map]; exact hl) ?_
  rw [List.length_map]; exact h
theorem f_ord {c : Nat} (h : Q (.int c)) : Pw (bltV "ord" [.str [c]]) Q := by
  have e : bltV "ord" [.str [c]] = (.int c, True) := rfl
  rw [e]; exact ⟨trivial, h⟩
theorem f_chr {i : Int} (hi : 0 ≤ i ∧ i ≤ 1114111) (h : Q (.str [i.toNat])) : Pw (bltV "chr" [.int i]) Q := by
  have e : bltV "chr" [.int i] = (.str [i.toNat], 0 ≤ i ∧ i ≤ 1114111) := rfl
  rw [e]; exact ⟨hi, h⟩
theorem f_abs {i : Int} (h : Q (.int i.natAbs)) : Pw (bltV "abs" [.int i]) Q := by
  have e : bltV "abs" [.int i] = (.int (if i < 0 then -i else i), True) := rfl
  rw [e]
  refine ⟨trivial, ?_⟩
  have : (if i < 0 then -i else i) = (i.natAbs : Int) := by split <;> omega
  rw [this]; exact h
theorem f_int {i : Int} (h : Q (.int i)) : Pw (bltV "int" [.int i]) Q := by
  have e : bltV "int" [.int i] = (.int i, True) := rfl
  rw [e]; exact ⟨trivial, h⟩
theorem f_divmod {a b : Int} (hb : 0 < b ∧ b < 1073741824) (h : Q (.tup [.int (a / b), .int (a % b)])) : Pw (bltV "divmod" [.int a, .int b]) Q := by
  have e : bltV "divmod" [.int a, .int b] = (.tup [.int (a.fdiv b), .int (a.fmod b)], b ≠ 0 ∧ b.natAbs < 1073741824) := rfl
  rw [e, Int.fdiv_eq_ediv_of_nonneg _ (by omega), Int.fmod_eq_emod_of_nonneg _ (by omega)]
  exact ⟨⟨by omega, by omega⟩, h⟩
theorem f_min {a b : Int} (h : Q (.int (min a b))) : Pw (bltV "min" [.int a, .int b]) Q := by
  have e : bltV "min" [.int a, .int b] = (.int (if b < a then b else a), True) := rfl
  rw [e]
  refine ⟨trivial, ?_⟩
  have : (if b < a then b else a) = min a b := by split <;> omega
  rw [this]; exact h
theorem f_sum {a : List Int} (h : Q (.int a.sum)) : Pw (bltV "sum" [.list (a.map .int)]) Q := by
  have e : bltV "sum" [.list (a.map .int)] = (.int (intsV (a.map .int)).1.sum, (intsV (a.map .int)).2) := rfl
  rw [e, intsV_map]; exact ⟨trivial, h⟩
theorem m_lower {x : List Nat} (hl : x.length ≤ lenLid) (h : Q (.str (Txt.lower ⟨x.toArray⟩).cps.toList)) : Pw (methV g (.str x) "lower" []) Q := ⟨hl, h⟩
theorem m_join {s : Str} {x : List (List Nat)} (hs : s.cps.toList = []) (hl : x.flatten.length ≤ lenLid) (h : Q (.str x.flatten)) : Pw (methV g (.str s.cps.toList) "join" [.list (x.map .str)]) Q := by
  have e : methV g (.str []) "join" [.list (x.map .str)] = (.str (strsV (x.map .str)).1.flatten, (strsV (x.map .str)).2 ∧ (strsV (x.map .str)).1.flatten.length ≤ lenLid) := rfl
  rw [hs, e, strsV_map]; exact ⟨⟨trivial, hl⟩, h⟩
theorem m_decode {s : Str} {b : List UInt8} (hs : s.cps.toList = [97, 115, 99, 105, 105]) (hb : ∀ c ∈ b, c.toNat < 128) (hl : b.length ≤ lenLid) (h : Q (.str (b.map (·.toNat)))) : Pw (methV g (.bytes b) "decode" [.str s.cps.toList]) Q := by
  rw [hs]
  have e : methV g (.bytes b) "decode" [.str [97, 115, 99, 105, 105]] = (.str (b.map (·.toNat)), (∀ c ∈ b, c.toNat < 128) ∧ b.length ≤ lenLid ∧ ([97, 115, 99, 105, 105] : List Nat) = [97, 115, 99, 105, 105]) := rfl
  rw [e]; exact ⟨⟨hb, hl, rfl⟩, h⟩
theorem m_get {w : Value} {i : Int} (hg : (g.get w i).2) (h : Q (g.get w i).1) : Pw (methV g (.val w) "get" [.int i]) Q := by
  have e : methV g (.val w) "get" [.int i] = g.get w i := rfl
  rw [e]; exact ⟨hg, h⟩
theorem m_getC {D : Dat0} {fs : List FnT} {m : Nat} {w : Value} {i : Int} (hg : (D.get w i).2) (h : Q (D.get w i).1) : Pw (methV (CC D fs m) (.val w) "get" [.int i]) Q :=
  m_get (by rw [CC_get]; exact hg) (by rw [CC_get]; exact h)
end
end Mine
namespace Mine
/-! the distance, as plain numbers -/
noncomputable def stripP : List Nat → List Nat → List Nat × List Nat
  | x :: xs, y :: ys => if x = y then stripP xs ys else (x :: xs, y :: ys)
  | a, b => (a, b)
noncomputable def innerN (sub : Nat → Nat → Nat) (c : Nat) : List Nat → List Nat → Nat → Nat → Nat → List Nat × Nat × Nat
  | x :: xs, w :: ws, d, r, m =>
    let res := min (min r w + 2) (d + sub c x)
    let q := innerN sub c xs ws w res (if res < m then res else m)
    (res :: q.1, q.2.1, q.2.2)
  | _, _, d, r, m => ([], r, m)
noncomputable def outerN (sub : Nat → Nat → Nat) (mc : Nat) (a : List Nat) : List Nat → Nat → List Nat → Nat → Nat
  | [], _, _, result => result
  | c :: cs, i, row, _ =>
    let q := innerN sub c a row (2 * i) (2 * i) 9223372036854775807
    if mc < q.2.2 then mc + 1 else outerN sub mc a cs (i + 1) q.1 q.2.1
noncomputable def sortedN (sub : Nat → Nat → Nat) (mc : Nat) (a b : List Nat) : Nat :=
  if mc < (b.length - a.length) * 2 then mc + 1 else outerN sub mc a b 0 ((List.range a.length).map fun i => 2 + i * 2) 0
noncomputable def coreN (sub : Nat → Nat → Nat) (mc : Nat) (a b : List Nat) : Nat :=
  if a.length = 0 ∨ b.length = 0 then 2 * (a.length + b.length)
  else if 40 < a.length ∨ 40 < b.length then mc + 1
  else if b.length < a.length then sortedN sub mc b a else sortedN sub mc a b
noncomputable def cutN (a b : List Nat) : List Nat × List Nat :=
  let p := stripP a b
  let q := stripP p.1.reverse p.2.reverse
  (q.1.reverse, q.2.reverse)
noncomputable def levN (sub : Nat → Nat → Nat) (a b : List Nat) (mc : Nat) : Nat :=
  if a = b then 0 else coreN sub mc (cutN a b).1 (cutN a b).2

theorem stripP_step {a b : List Nat} {i : Nat} (ha : i < a.length) (hb : i < b.length) : stripP (a.drop i) (b.drop i) = if a.getD i 0 = b.getD i 0 then stripP (a.drop (i + 1)) (b.drop (i + 1)) else (a.drop i, b.drop i) := by
  rw [List.drop_eq_getElem_cons ha, List.drop_eq_getElem_cons hb]
  simp only [stripP, List.getD_eq_getElem?_getD, List.getElem?_eq_getElem ha, List.getElem?_eq_getElem hb, Option.getD_some]
theorem stripP_nil {a b : List Nat} {i : Nat} (h : a.length ≤ i ∨ b.length ≤ i) : stripP (a.drop i) (b.drop i) = (a.drop i, b.drop i) := by
  rcases h with h | h
  · rw [List.drop_eq_nil_of_le h]
    cases b.drop i <;> rfl
  · rw [List.drop_eq_nil_of_le h]
    cases a.drop i <;> rfl
theorem innerN_step (sub : Nat → Nat → Nat) (c : Nat) {a row : List Nat} {i d r m : Nat} (ha : i < a.length) (hb : i < row.length) :
    innerN sub c (a.drop i) (row.drop i) d r m =
      (min (min r (row.getD i 0) + 2) (d + sub c (a.getD i 0)) :: (innerN sub c (a.drop (i + 1)) (row.drop (i + 1)) (row.getD i 0) (min (min r (row.getD i 0) + 2) (d + sub c (a.getD i 0))) (if min (min r (row.getD i 0) + 2) (d + sub c (a.getD i 0)) < m then min (min r (row.getD i 0) + 2) (d + sub c (a.getD i 0)) else m)).1,
       (innerN sub c (a.drop (i + 1)) (row.drop (i + 1)) (row.getD i 0) (min (min r (row.getD i 0) + 2) (d + sub c (a.getD i 0))) (if min (min r (row.getD i 0) + 2) (d + sub c (a.getD i 0)) < m then min (min r (row.getD i 0) + 2) (d + sub c (a.getD i 0)) else m)).2) := by
  rw [List.drop_eq_getElem_cons ha, List.drop_eq_getElem_cons hb]
  simp only [innerN, List.getD_eq_getElem?_getD, List.getElem?_eq_getElem ha, List.getElem?_eq_getElem hb, Option.getD_some]
/-- the digits to the base 16 -/
noncomputable def digsF : Nat → Nat → List Nat
  | 0, _ => []
  | f + 1, n => if n = 0 then [] else digsF f (n / 16) ++ [n % 16]
noncomputable def digs (n : Nat) : List Nat := digsF n n
theorem digsF_fuel : ∀ (f n : Nat), n ≤ f → digsF f n = digsF n n
  | 0, 0, _ => rfl
  | f + 1, 0, _ => rfl
  | f + 1, n + 1, h => by
    have h2 : (n + 1) / 16 ≤ n := Nat.le_of_lt_succ (Nat.div_lt_self (Nat.succ_pos n) (by decide))
    show (if n + 1 = 0 then [] else digsF f ((n + 1) / 16) ++ [(n + 1) % 16]) = (if n + 1 = 0 then [] else digsF n ((n + 1) / 16) ++ [(n + 1) % 16])
    rw [digsF_fuel f _ (Nat.le_trans h2 (Nat.le_of_succ_le_succ h)), digsF_fuel n _ h2]
theorem digs_eq (n : Nat) : digs n = if h : n = 0 then [] else digs (n / 16) ++ [n % 16] := by
  cases n with
  | zero => rfl
  | succ n =>
    rw [dif_neg (Nat.succ_ne_zero n)]
    show (if n + 1 = 0 then [] else digsF n ((n + 1) / 16) ++ [(n + 1) % 16]) = _
    rw [if_neg (Nat.succ_ne_zero n), digsF_fuel n _ (Nat.le_of_lt_succ (Nat.div_lt_self (Nat.succ_pos n) (by decide)))]
    rfl
/-- the word of a number: the first digit is not nought -/
theorem digs_head (n : Nat) : ∀ d ∈ (digs n).head?, d ≠ 0 := by
  induction n using Nat.strongRecOn with
  | ind n ih =>
    intro d hd
    rw [digs_eq] at hd
    split at hd
    · cases hd
    · rename_i hn
      by_cases h0 : n / 16 = 0
      · rw [h0] at hd
        rw [digs_eq, dif_pos rfl] at hd
        simp at hd
        omega
      · have := ih (n / 16) (by omega) d
        apply this
        have hne : digs (n / 16) ≠ [] := by
          rw [digs_eq, dif_neg h0]; simp
        cases e : digs (n / 16) with
        | nil => exact absurd e hne
        | cons a r => rw [e] at hd; simpa using hd
theorem digs_lt (n : Nat) : ∀ d ∈ digs n, d < 16 := by
  induction n using Nat.strongRecOn with
  | ind n ih =>
    intro d hd
    rw [digs_eq] at hd
    split at hd
    · cases hd
    · rename_i hn
      rcases List.mem_append.mp hd with hd | hd
      · exact ih _ (by omega) d hd
      · rcases List.mem_singleton.mp hd with rfl; omega
theorem digs_length : ∀ (s n : Nat), n < 16 ^ s → (digs n).length ≤ s
  | 0, n, h => by
    have : n = 0 := by simpa using h
    subst this; rw [digs_eq, dif_pos rfl]; simp
  | s + 1, n, h => by
    rw [digs_eq]
    split
    · simp
    · rw [List.length_append]
      have := digs_length s (n / 16) (by rw [Nat.pow_succ] at h; omega)
      simp; omega
/-- the last s digits -/
noncomputable def padS : Nat → Nat → List Nat
  | 0, _ => []
  | s + 1, n => padS s (n / 16) ++ [n % 16]
theorem pad_digs : ∀ (s n : Nat), n < 16 ^ s → List.replicate (s - (digs n).length) 0 ++ digs n = padS s n
  | 0, n, h => by
    have : n = 0 := by simpa using h
    subst this; rw [digs_eq, dif_pos rfl]; rfl
  | s + 1, n, h => by
    have h' : n / 16 < 16 ^ s := by rw [Nat.pow_succ] at h; omega
    have ih := pad_digs s (n / 16) h'
    have hl := digs_length s (n / 16) h'
    rw [padS, ← ih]
    rw [digs_eq]
    split
    · rename_i h0
      subst h0
      rw [Nat.zero_div, digs_eq, dif_pos rfl]
      simp [List.replicate_succ']
    · rw [List.length_append, List.length_singleton, show s + 1 - ((digs (n / 16)).length + 1) = s - (digs (n / 16)).length by omega, List.append_assoc]
noncomputable def horner (f : Nat → Nat) : Nat → Nat
  | 0 => 0
  | s + 1 => 16 * horner f s + f s
theorem pad_horner {f : Nat → Nat} (hf : ∀ k, f k < 16) : ∀ s, padS s (horner f s) = (List.range s).map f
  | 0 => rfl
  | s + 1 => by
    have := hf s
    rw [padS, horner, show (16 * horner f s + f s) / 16 = horner f s by omega, show (16 * horner f s + f s) % 16 = f s by omega, pad_horner hf s, List.range_succ, List.map_append]
    rfl
theorem horner_lt {f : Nat → Nat} (hf : ∀ k, f k < 16) : ∀ s, horner f s < 16 ^ s
  | 0 => by simp [horner]
  | s + 1 => by
    have := hf s
    have := horner_lt hf s
    rw [horner, Nat.pow_succ]; omega
theorem sum_mulL (c : Int) : ∀ (l : List Int), (l.map fun x => c * x).sum = c * l.sum
  | [] => by simp
  | x :: r => by simp [sum_mulL c r, Int.mul_add]
theorem horner_sum (f : Nat → Nat) : ∀ s, ((List.range (s + 1)).map fun k => ((f k : Nat) : Int) * ((16 ^ (s - k) : Nat) : Int)).sum = (horner f (s + 1) : Nat)
  | 0 => by simp [horner]
  | s + 1 => by
    rw [List.range_succ, List.map_append, List.sum_append]
    have e : ((List.range (s + 1)).map fun k => ((f k : Nat) : Int) * ((16 ^ (s + 1 - k) : Nat) : Int)) = ((List.range (s + 1)).map fun k => ((f k : Nat) : Int) * ((16 ^ (s - k) : Nat) : Int)).map fun x => 16 * x := by
      rw [List.map_map]
      apply List.map_congr_left
      intro k hk
      have hk := List.mem_range.mp hk
      show ((f k : Nat) : Int) * ((16 ^ (s + 1 - k) : Nat) : Int) = 16 * (((f k : Nat) : Int) * ((16 ^ (s - k) : Nat) : Int))
      rw [show s + 1 - k = (s - k) + 1 by omega, Nat.pow_succ, Int.natCast_mul, ← Int.mul_assoc, Int.mul_comm]
      rfl
    rw [e, sum_mulL, horner_sum f s, horner.eq_2 f (s + 1)]
    simp
/-! renaming -/
section
variable {S : Nat → Prop} {σ : Nat → Nat} {sub sub' : Nat → Nat → Nat}
theorem map_inj {a b : List Nat} (hi : ∀ x y, S x → S y → (σ x = σ y ↔ x = y)) (ha : ∀ x ∈ a, S x) (hb : ∀ x ∈ b, S x) : a.map σ = b.map σ ↔ a = b := by
  induction a generalizing b with
  | nil => cases b <;> simp
  | cons x r ih =>
    cases b with
    | nil => simp
    | cons y q =>
      simp only [List.map_cons, List.cons.injEq]
      rw [hi x y (ha x (.head _)) (hb y (.head _)), ih (fun z hz => ha z (.tail _ hz)) (fun z hz => hb z (.tail _ hz))]
theorem strip_map (hi : ∀ x y, S x → S y → (σ x = σ y ↔ x = y)) : ∀ {a b : List Nat}, (∀ x ∈ a, S x) → (∀ x ∈ b, S x) → stripP (a.map σ) (b.map σ) = ((stripP a b).1.map σ, (stripP a b).2.map σ) ∧ (∀ x ∈ (stripP a b).1, S x) ∧ (∀ x ∈ (stripP a b).2, S x)
  | [], b, ha, hb => by
    have e : ∀ c : List Nat, stripP [] c = ([], c) := fun c => by cases c <;> rfl
    rw [List.map_nil, e, e]; exact ⟨rfl, ha, hb⟩
  | x :: xs, [], ha, hb => ⟨rfl, ha, hb⟩
  | x :: xs, y :: ys, ha, hb => by
    simp only [List.map_cons, stripP]
    by_cases h : x = y
    · rw [if_pos h, if_pos ((hi x y (ha x (.head _)) (hb y (.head _))).mpr h)]
      exact strip_map hi (fun z hz => ha z (.tail _ hz)) (fun z hz => hb z (.tail _ hz))
    · rw [if_neg h, if_neg (fun q => h ((hi x y (ha x (.head _)) (hb y (.head _))).mp q))]
      exact ⟨rfl, ha, hb⟩
theorem inner_map (hs : ∀ x y, S x → S y → sub (σ x) (σ y) = sub' x y) {c : Nat} (hc : S c) : ∀ {a row : List Nat} {d r m : Nat}, (∀ x ∈ a, S x) → innerN sub (σ c) (a.map σ) row d r m = innerN sub' c a row d r m
  | [], _, _, _, _, _ => rfl
  | x :: xs, [], _, _, _, _ => rfl
  | x :: xs, w :: ws, d, r, m, ha => by
    simp only [List.map_cons, innerN]
    rw [hs c x hc (ha x (.head _)), inner_map hs hc (fun z hz => ha z (.tail _ hz))]
theorem outer_map (hs : ∀ x y, S x → S y → sub (σ x) (σ y) = sub' x y) {mc : Nat} {a : List Nat} (ha : ∀ x ∈ a, S x) : ∀ {b : List Nat} {i : Nat} {row : List Nat} {r : Nat}, (∀ x ∈ b, S x) → outerN sub mc (a.map σ) (b.map σ) i row r = outerN sub' mc a b i row r
  | [], _, _, _, _ => rfl
  | c :: cs, i, row, r, hb => by
    simp only [List.map_cons, outerN]
    rw [inner_map hs (hb c (.head _)) ha]
    split
    · rfl
    · exact outer_map hs ha (fun z hz => hb z (.tail _ hz))
theorem sorted_map (hs : ∀ x y, S x → S y → sub (σ x) (σ y) = sub' x y) {mc : Nat} {a b : List Nat} (ha : ∀ x ∈ a, S x) (hb : ∀ x ∈ b, S x) : sortedN sub mc (a.map σ) (b.map σ) = sortedN sub' mc a b := by
  unfold sortedN
  rw [List.length_map, List.length_map, outer_map hs ha hb]
theorem core_map (hs : ∀ x y, S x → S y → sub (σ x) (σ y) = sub' x y) {mc : Nat} {a b : List Nat} (ha : ∀ x ∈ a, S x) (hb : ∀ x ∈ b, S x) : coreN sub mc (a.map σ) (b.map σ) = coreN sub' mc a b := by
  unfold coreN
  rw [List.length_map, List.length_map, sorted_map hs ha hb, sorted_map hs hb ha]
theorem lev_map (hi : ∀ x y, S x → S y → (σ x = σ y ↔ x = y)) (hs : ∀ x y, S x → S y → sub (σ x) (σ y) = sub' x y) {mc : Nat} {a b : List Nat} (ha : ∀ x ∈ a, S x) (hb : ∀ x ∈ b, S x) : levN sub (a.map σ) (b.map σ) mc = levN sub' a b mc := by
  unfold levN cutN
  obtain ⟨e1, h1, h2⟩ := strip_map hi ha hb
  obtain ⟨e2, h3, h4⟩ := strip_map hi (a := (stripP a b).1.reverse) (b := (stripP a b).2.reverse) (fun x hx => h1 x (List.mem_reverse.mp hx)) (fun x hx => h2 x (List.mem_reverse.mp hx))
  rw [e1]
  dsimp only
  rw [← List.map_reverse, ← List.map_reverse, e2]
  dsimp only
  rw [← List.map_reverse, ← List.map_reverse, core_map hs (fun x hx => h3 x (List.mem_reverse.mp hx)) (fun x hx => h4 x (List.mem_reverse.mp hx))]
  by_cases h : a = b
  · rw [if_pos h, if_pos ((map_inj hi ha hb).mpr h)]
  · rw [if_neg h, if_neg (fun q => h ((map_inj hi ha hb).mp q))]
end
end Mine
namespace Mine
/-! the distance reckoned fast by the kernel; signs: 2 i a great letter, 2 i + 1 a small one -/
noncomputable section
noncomputable def mn (a b : Nat) : Nat := Nat.sub a (Nat.sub a b)
theorem mn_eq (a b : Nat) : mn a b = min a b := by
  show a - (a - b) = min a b
  first | exact Nat.sub_sub_eq_min a b | omega
noncomputable def costQ (x y : Nat) : Nat := Bool.rec (Bool.rec 2 1 (Nat.beq (Nat.div x 2) (Nat.div y 2))) 0 (Nat.beq x y)
theorem beq_t {a b : Nat} (h : a = b) : Nat.beq a b = true := by subst h; exact Nat.beq_refl a
theorem beq_f {a b : Nat} (h : a ≠ b) : Nat.beq a b = false := by
  cases e : Nat.beq a b
  · rfl
  · exact absurd (Nat.eq_of_beq_eq_true e) h
theorem costQ_eq (x y : Nat) : costQ x y = if x = y then 0 else if x / 2 = y / 2 then 1 else 2 := by
  unfold costQ
  by_cases h : x = y
  · rw [if_pos h, beq_t h]
  · rw [if_neg h, beq_f h]
    by_cases h2 : x / 2 = y / 2
    · rw [if_pos h2, beq_t (show Nat.div x 2 = Nat.div y 2 from h2)]
    · rw [if_neg h2, beq_f (show Nat.div x 2 ≠ Nat.div y 2 from h2)]
noncomputable def innerQ (c : Nat) (as : List Nat) : List Nat → Nat → Nat → List Nat :=
  List.rec (motive := fun _ => List Nat → Nat → Nat → List Nat) (fun _ _ _ => []) (fun x _ ih row d r =>
    List.rec (motive := fun _ => List Nat) [] (fun w ws _ =>
      (fun res => List.cons res (ih ws w res)) (mn (Nat.add (mn r w) 2) (Nat.add d (costQ c x)))) row) as
theorem innerQ_nil (c : Nat) (row : List Nat) (d r : Nat) : innerQ c [] row d r = [] := rfl
theorem innerQ_cons (c x w : Nat) (xs ws : List Nat) (d r : Nat) : innerQ c (x :: xs) (w :: ws) d r = min (min r w + 2) (d + costQ c x) :: innerQ c xs ws w (min (min r w + 2) (d + costQ c x)) := by
  rw [← mn_eq, ← mn_eq]; rfl
noncomputable def lastQ (l : List Nat) : Nat → Nat := List.rec (motive := fun _ => Nat → Nat) (fun d => d) (fun x _ ih _ => ih x) l
theorem lastQ_cons (x : Nat) (l : List Nat) (d : Nat) : lastQ (x :: l) d = lastQ l x := rfl
noncomputable def minQ (l : List Nat) : Nat := List.rec (motive := fun _ => Nat) 9223372036854775807 (fun x _ ih => mn x ih) l
theorem minQ_cons (x : Nat) (l : List Nat) : minQ (x :: l) = min x (minQ l) := by rw [← mn_eq]; rfl
theorem inner_Q (c : Nat) : ∀ (a row : List Nat) (d r m : Nat), m ≤ 9223372036854775807 → innerN costQ c a row d r m = (innerQ c a row d r, lastQ (innerQ c a row d r) r, min m (minQ (innerQ c a row d r)))
  | [], row, d, r, m, hm => by
    have e : innerN costQ c [] row d r m = ([], r, m) := by cases row <;> rfl
    rw [e, innerQ_nil]
    show _ = ([], r, min m 9223372036854775807)
    rw [Nat.min_eq_left hm]
  | x :: xs, [], d, r, m, hm => by
    show ([], r, m) = ([], r, min m 9223372036854775807)
    rw [Nat.min_eq_left hm]
  | x :: xs, w :: ws, d, r, m, hm => by
    simp only [innerN]
    rw [inner_Q c xs ws w _ _ (by split <;> omega), innerQ_cons, lastQ_cons, minQ_cons]
    dsimp only
    congr 2
    split <;> omega
/-- the rows one by one: the last is due at its end, no row is above it -/
noncomputable def outerQ (as bs : List Nat) : Nat → List Nat → Nat → Bool :=
  List.rec (motive := fun _ => Nat → List Nat → Nat → Bool) (fun _ row due => Nat.beq (lastQ row 0) due) (fun c _ ih i row due =>
    (fun r' => and (Nat.ble (minQ r') due) (ih (Nat.succ i) r' due)) (innerQ c as row (Nat.mul 2 i) (Nat.mul 2 i))) bs
theorem outer_Q {x : Nat} {xs : List Nat} {due mc : Nat} (hm : due ≤ mc + 1) : ∀ (bs : List Nat) (i : Nat) (w : Nat) (ws : List Nat) (res : Nat), (bs = [] → res = lastQ (w :: ws) 0) → outerQ (x :: xs) bs i (w :: ws) due = true → outerN costQ mc (x :: xs) bs i (w :: ws) res = due
  | [], i, w, ws, res, hr, h => by
    have h : Nat.beq (lastQ (w :: ws) 0) due = true := h
    rw [outerN, hr rfl]
    exact Nat.eq_of_beq_eq_true h
  | c :: cs, i, w, ws, res, hr, h => by
    have h : and (Nat.ble (minQ (innerQ c (x :: xs) (w :: ws) (2 * i) (2 * i))) due) (outerQ (x :: xs) cs (i + 1) (innerQ c (x :: xs) (w :: ws) (2 * i) (2 * i)) due) = true := h
    rw [Bool.and_eq_true] at h
    have h1 := Nat.le_of_ble_eq_true h.1
    rw [outerN, inner_Q c _ _ _ _ _ (Nat.le_refl _)]
    dsimp only
    have h2 := h.2
    rw [innerQ_cons] at h1 h2 ⊢
    by_cases e : mc < min 9223372036854775807 (minQ (min (min (2 * i) w + 2) (2 * i + costQ c x) :: innerQ c xs ws w (min (min (2 * i) w + 2) (2 * i + costQ c x))))
    · rw [if_pos e]; omega
    · rw [if_neg e]
      exact outer_Q hm cs (i + 1) _ _ _ (fun _ => rfl) h2
noncomputable def rowQ (n : Nat) : List Nat := (List.range n).map fun i => 2 + i * 2
noncomputable def sortedQ (a b : List Nat) (due : Nat) : Bool := and (Nat.ble (Nat.mul (Nat.sub b.length a.length) 2) due) (outerQ a b 0 (rowQ a.length) due)
theorem sorted_Q {a b : List Nat} {due mc : Nat} (hm : due ≤ mc + 1) (ha : a ≠ []) (hb : b ≠ []) (h : sortedQ a b due = true) : sortedN costQ mc a b = due := by
  unfold sortedQ at h
  rw [Bool.and_eq_true] at h
  have h1 := Nat.le_of_ble_eq_true h.1
  have h1 : (b.length - a.length) * 2 ≤ due := h1
  unfold sortedN
  split
  · omega
  · cases a with
    | nil => exact absurd rfl ha
    | cons x xs =>
      have e : rowQ (x :: xs).length = 2 :: ((List.range xs.length).map fun i => 2 + (i + 1) * 2) := by
        unfold rowQ
        rw [List.length_cons, List.range_succ_eq_map, List.map_cons, List.map_map]; rfl
      have e2 : (List.map (fun i => 2 + i * 2) (List.range (x :: xs).length)) = rowQ (x :: xs).length := rfl
      rw [e2, e]
      rw [e] at h
      exact outer_Q hm b 0 _ _ _ (fun q => absurd q hb) h.2
/-- the check of a distance -/
noncomputable def coreQ (a b : List Nat) (due : Nat) : Bool :=
  match a, b with
  | [], b => Nat.beq (Nat.mul 2 b.length) due
  | a, [] => Nat.beq (Nat.mul 2 a.length) due
  | x :: xs, y :: ys => and (and (Nat.ble xs.length 39) (Nat.ble ys.length 39)) (bif Nat.ble (Nat.succ ys.length) xs.length then sortedQ (y :: ys) (x :: xs) due else sortedQ (x :: xs) (y :: ys) due)
theorem core_Q {a b : List Nat} {due mc : Nat} (hm : due ≤ mc + 1) (h : coreQ a b due = true) : coreN costQ mc a b = due := by
  unfold coreQ at h
  unfold coreN
  split at h
  · have := Nat.eq_of_beq_eq_true h
    rw [if_pos (by simp)]
    simp; exact this
  · have := Nat.eq_of_beq_eq_true h
    rw [if_pos (by simp)]
    simp; exact this
  · rename_i x xs y ys
    rw [Bool.and_eq_true, Bool.and_eq_true] at h
    have h1 := Nat.le_of_ble_eq_true h.1.1
    have h2 := Nat.le_of_ble_eq_true h.1.2
    rw [if_neg (by simp), if_neg (by simp only [List.length_cons]; omega)]
    have h3 := h.2
    by_cases e : (y :: ys).length < (x :: xs).length
    · rw [if_pos e]
      rw [show Nat.ble (Nat.succ ys.length) xs.length = true from Nat.ble_eq_true_of_le (by simp only [List.length_cons] at e; omega)] at h3
      exact sorted_Q hm (by simp) (by simp) h3
    · rw [if_neg e]
      rw [show Nat.ble (Nat.succ ys.length) xs.length = false from by
        cases q : Nat.ble (Nat.succ ys.length) xs.length
        · rfl
        · have := Nat.le_of_ble_eq_true q
          simp only [List.length_cons] at e
          omega] at h3
      exact sorted_Q hm (by simp) (by simp) h3
noncomputable def levQ (a b : List Nat) (due : Nat) : Bool := (fun c => coreQ c.1 c.2 due) (cutN a b)
theorem lev_Q {a b : List Nat} {due mc : Nat} (hm : due ≤ mc + 1) (h : levQ a b due = true) : levN costQ a b mc = due := by
  unfold levN
  split
  · rename_i e
    subst e
    have h : coreQ (cutN a a).1 (cutN a a).2 due = true := h
    have e2 : ∀ a : List Nat, stripP a a = ([], []) := fun a => by
      induction a with
      | nil => rfl
      | cons x r ih => rw [stripP, if_pos rfl]; exact ih
    unfold cutN at h
    rw [e2] at h
    have h : Nat.beq 0 due = true := h
    exact Nat.eq_of_beq_eq_true h
  · exact core_Q hm h
end
end Mine
namespace Mine
/-! law 3 in plain numbers -/
noncomputable def pascal : Nat → List Nat
  | 0 => [1]
  | n + 1 => [1] ++ ((List.range ((pascal n).length - 1)).map fun k => (pascal n).getD k 0 + (pascal n).getD (k + 1) 0) ++ [1]
theorem pascal_length : ∀ n, (pascal n).length = n + 1
  | 0 => rfl
  | n + 1 => by simp [pascal, pascal_length n]
noncomputable def onesN (x : Nat) : Nat := ((List.range 4).filter fun k => x / 2 ^ k % 2 == 1).length
/-- small letters -/
noncomputable def lw (c : Nat) : Nat := if 65 ≤ c ∧ c ≤ 90 then c + 32 else c
noncomputable def markP (word row : List Nat) : List Nat := (List.range word.length).map fun k => if row.getD k 0 % 2 = 1 then word.getD k 0 else lw (word.getD k 0)
noncomputable def markC (m : Nat) (row : List Nat) : List Nat := (List.range (m + 1)).map fun k => if row.getD k 0 % 2 = 1 then 2 * k else 2 * k + 1
noncomputable def smallC (m : Nat) : List Nat := (List.range (m + 1)).map fun k => 2 * k + 1
noncomputable def belowC (m : Nat) : List Nat := markC m (pascal m)
noncomputable def aboveC (n m : Nat) : List Nat := markC m (pascal n ++ List.replicate (m - n) 0)
noncomputable def chk1 (b s : List Nat) (d : Nat) : Bool := levQ b s d && (List.range (b.length + 1)).all fun p => (List.range 2).all fun r => levQ (b.take p ++ List.replicate (r + 1) 1000 ++ b.drop p) s (2 * (r + 1) + d)
noncomputable def chk2 (a b s : List Nat) (n d : Nat) : Bool := levQ a b d && levQ b a d && levQ (a.take (n + 1)) (s.take (n + 1)) d
theorem bl1 : belowC 1 = [0, 2] := by decide +kernel
theorem sm1 : smallC 1 = [1, 3] := by decide +kernel
theorem u1_1 : chk1 [0, 2] [1, 3] 2 = true := by decide +kernel
theorem bl2 : belowC 2 = [0, 3, 4] := by decide +kernel
theorem sm2 : smallC 2 = [1, 3, 5] := by decide +kernel
theorem u1_2 : chk1 [0, 3, 4] [1, 3, 5] 2 = true := by decide +kernel
theorem bl3 : belowC 3 = [0, 2, 4, 6] := by decide +kernel
theorem sm3 : smallC 3 = [1, 3, 5, 7] := by decide +kernel
theorem u1_3 : chk1 [0, 2, 4, 6] [1, 3, 5, 7] 4 = true := by decide +kernel
theorem bl4 : belowC 4 = [0, 3, 5, 7, 8] := by decide +kernel
theorem sm4 : smallC 4 = [1, 3, 5, 7, 9] := by decide +kernel
theorem u1_4 : chk1 [0, 3, 5, 7, 8] [1, 3, 5, 7, 9] 2 = true := by decide +kernel
theorem bl5 : belowC 5 = [0, 2, 5, 7, 8, 10] := by decide +kernel
theorem sm5 : smallC 5 = [1, 3, 5, 7, 9, 11] := by decide +kernel
theorem u1_5 : chk1 [0, 2, 5, 7, 8, 10] [1, 3, 5, 7, 9, 11] 4 = true := by decide +kernel
theorem bl6 : belowC 6 = [0, 3, 4, 7, 8, 11, 12] := by decide +kernel
theorem sm6 : smallC 6 = [1, 3, 5, 7, 9, 11, 13] := by decide +kernel
theorem u1_6 : chk1 [0, 3, 4, 7, 8, 11, 12] [1, 3, 5, 7, 9, 11, 13] 4 = true := by decide +kernel
theorem bl7 : belowC 7 = [0, 2, 4, 6, 8, 10, 12, 14] := by decide +kernel
theorem sm7 : smallC 7 = [1, 3, 5, 7, 9, 11, 13, 15] := by decide +kernel
theorem u1_7 : chk1 [0, 2, 4, 6, 8, 10, 12, 14] [1, 3, 5, 7, 9, 11, 13, 15] 8 = true := by decide +kernel
theorem bl8 : belowC 8 = [0, 3, 5, 7, 9, 11, 13, 15, 16] := by decide +kernel
theorem sm8 : smallC 8 = [1, 3, 5, 7, 9, 11, 13, 15, 17] := by decide +kernel
theorem u1_8 : chk1 [0, 3, 5, 7, 9, 11, 13, 15, 16] [1, 3, 5, 7, 9, 11, 13, 15, 17] 2 = true := by decide +kernel
theorem bl9 : belowC 9 = [0, 2, 5, 7, 9, 11, 13, 15, 16, 18] := by decide +kernel
theorem sm9 : smallC 9 = [1, 3, 5, 7, 9, 11, 13, 15, 17, 19] := by decide +kernel
theorem u1_9 : chk1 [0, 2, 5, 7, 9, 11, 13, 15, 16, 18] [1, 3, 5, 7, 9, 11, 13, 15, 17, 19] 4 = true := by decide +kernel
theorem bl10 : belowC 10 = [0, 3, 4, 7, 9, 11, 13, 15, 16, 19, 20] := by decide +kernel
theorem sm10 : smallC 10 = [1, 3, 5, 7, 9, 11, 13, 15, 17, 19, 21] := by decide +kernel
theorem u1_10 : chk1 [0, 3, 4, 7, 9, 11, 13, 15, 16, 19, 20] [1, 3, 5, 7, 9, 11, 13, 15, 17, 19, 21] 4 = true := by decide +kernel
theorem bl11 : belowC 11 = [0, 2, 4, 6, 9, 11, 13, 15, 16, 18, 20, 22] := by decide +kernel
theorem sm11 : smallC 11 = [1, 3, 5, 7, 9, 11, 13, 15, 17, 19, 21, 23] := by decide +kernel
theorem u1_11 : chk1 [0, 2, 4, 6, 9, 11, 13, 15, 16, 18, 20, 22] [1, 3, 5, 7, 9, 11, 13, 15, 17, 19, 21, 23] 8 = true := by decide +kernel
theorem bl12 : belowC 12 = [0, 3, 5, 7, 8, 11, 13, 15, 16, 19, 21, 23, 24] := by decide +kernel
theorem sm12 : smallC 12 = [1, 3, 5, 7, 9, 11, 13, 15, 17, 19, 21, 23, 25] := by decide +kernel
theorem u1_12 : chk1 [0, 3, 5, 7, 8, 11, 13, 15, 16, 19, 21, 23, 24] [1, 3, 5, 7, 9, 11, 13, 15, 17, 19, 21, 23, 25] 4 = true := by decide +kernel
theorem bl13 : belowC 13 = [0, 2, 5, 7, 8, 10, 13, 15, 16, 18, 21, 23, 24, 26] := by decide +kernel
theorem sm13 : smallC 13 = [1, 3, 5, 7, 9, 11, 13, 15, 17, 19, 21, 23, 25, 27] := by decide +kernel
theorem u1_13 : chk1 [0, 2, 5, 7, 8, 10, 13, 15, 16, 18, 21, 23, 24, 26] [1, 3, 5, 7, 9, 11, 13, 15, 17, 19, 21, 23, 25, 27] 8 = true := by decide +kernel
theorem bl14 : belowC 14 = [0, 3, 4, 7, 8, 11, 12, 15, 16, 19, 20, 23, 24, 27, 28] := by decide +kernel
theorem sm14 : smallC 14 = [1, 3, 5, 7, 9, 11, 13, 15, 17, 19, 21, 23, 25, 27, 29] := by decide +kernel
theorem u1_14 : chk1 [0, 3, 4, 7, 8, 11, 12, 15, 16, 19, 20, 23, 24, 27, 28] [1, 3, 5, 7, 9, 11, 13, 15, 17, 19, 21, 23, 25, 27, 29] 8 = true := by decide +kernel
theorem bl15 : belowC 15 = [0, 2, 4, 6, 8, 10, 12, 14, 16, 18, 20, 22, 24, 26, 28, 30] := by decide +kernel
theorem sm15 : smallC 15 = [1, 3, 5, 7, 9, 11, 13, 15, 17, 19, 21, 23, 25, 27, 29, 31] := by decide +kernel
theorem u1_15 : chk1 [0, 2, 4, 6, 8, 10, 12, 14, 16, 18, 20, 22, 24, 26, 28, 30] [1, 3, 5, 7, 9, 11, 13, 15, 17, 19, 21, 23, 25, 27, 29, 31] 16 = true := by decide +kernel
theorem upto16 {P : Nat → Prop} (h : P 1 ∧ P 2 ∧ P 3 ∧ P 4 ∧ P 5 ∧ P 6 ∧ P 7 ∧ P 8 ∧ P 9 ∧ P 10 ∧ P 11 ∧ P 12 ∧ P 13 ∧ P 14 ∧ P 15) : ∀ m, 1 ≤ m → m < 16 → P m := by
  obtain ⟨g1, g2, g3, g4, g5, g6, g7, g8, g9, g10, g11, g12, g13, g14, g15⟩ := h
  intro m h1 h2
  rcases Nat.lt_succ_iff_lt_or_eq.mp h2 with h2 | rfl
  case inr => exact g15
  rcases Nat.lt_succ_iff_lt_or_eq.mp h2 with h2 | rfl
  case inr => exact g14
  rcases Nat.lt_succ_iff_lt_or_eq.mp h2 with h2 | rfl
  case inr => exact g13
  rcases Nat.lt_succ_iff_lt_or_eq.mp h2 with h2 | rfl
  case inr => exact g12
  rcases Nat.lt_succ_iff_lt_or_eq.mp h2 with h2 | rfl
  case inr => exact g11
  rcases Nat.lt_succ_iff_lt_or_eq.mp h2 with h2 | rfl
  case inr => exact g10
  rcases Nat.lt_succ_iff_lt_or_eq.mp h2 with h2 | rfl
  case inr => exact g9
  rcases Nat.lt_succ_iff_lt_or_eq.mp h2 with h2 | rfl
  case inr => exact g8
  rcases Nat.lt_succ_iff_lt_or_eq.mp h2 with h2 | rfl
  case inr => exact g7
  rcases Nat.lt_succ_iff_lt_or_eq.mp h2 with h2 | rfl
  case inr => exact g6
  rcases Nat.lt_succ_iff_lt_or_eq.mp h2 with h2 | rfl
  case inr => exact g5
  rcases Nat.lt_succ_iff_lt_or_eq.mp h2 with h2 | rfl
  case inr => exact g4
  rcases Nat.lt_succ_iff_lt_or_eq.mp h2 with h2 | rfl
  case inr => exact g3
  rcases Nat.lt_succ_iff_lt_or_eq.mp h2 with h2 | rfl
  case inr => exact g2
  rcases Nat.lt_succ_iff_lt_or_eq.mp h2 with h2 | rfl
  case inr => exact g1
  exact absurd h1 (Nat.not_le.mpr h2)
theorem tab1 : ∀ m, 1 ≤ m → m < 16 → chk1 (belowC m) (smallC m) (2 ^ onesN m) = true := by
  refine upto16 ⟨?_, ?_, ?_, ?_, ?_, ?_, ?_, ?_, ?_, ?_, ?_, ?_, ?_, ?_, ?_⟩
  · rw [bl1, sm1]; exact u1_1
  · rw [bl2, sm2]; exact u1_2
  · rw [bl3, sm3]; exact u1_3
  · rw [bl4, sm4]; exact u1_4
  · rw [bl5, sm5]; exact u1_5
  · rw [bl6, sm6]; exact u1_6
  · rw [bl7, sm7]; exact u1_7
  · rw [bl8, sm8]; exact u1_8
  · rw [bl9, sm9]; exact u1_9
  · rw [bl10, sm10]; exact u1_10
  · rw [bl11, sm11]; exact u1_11
  · rw [bl12, sm12]; exact u1_12
  · rw [bl13, sm13]; exact u1_13
  · rw [bl14, sm14]; exact u1_14
  · rw [bl15, sm15]; exact u1_15
theorem ab0_1 : aboveC 0 1 = [0, 3] := by decide +kernel
theorem u2_0_1 : chk2 [0, 3] [0, 2] [1, 3] 0 1 = true := by decide +kernel
theorem ab0_2 : aboveC 0 2 = [0, 3, 5] := by decide +kernel
theorem u2_0_2 : chk2 [0, 3, 5] [0, 3, 4] [1, 3, 5] 0 1 = true := by decide +kernel
theorem ab0_4 : aboveC 0 4 = [0, 3, 5, 7, 9] := by decide +kernel
theorem u2_0_4 : chk2 [0, 3, 5, 7, 9] [0, 3, 5, 7, 8] [1, 3, 5, 7, 9] 0 1 = true := by decide +kernel
theorem ab0_8 : aboveC 0 8 = [0, 3, 5, 7, 9, 11, 13, 15, 17] := by decide +kernel
theorem u2_0_8 : chk2 [0, 3, 5, 7, 9, 11, 13, 15, 17] [0, 3, 5, 7, 9, 11, 13, 15, 16] [1, 3, 5, 7, 9, 11, 13, 15, 17] 0 1 = true := by decide +kernel
theorem ab1_2 : aboveC 1 2 = [0, 2, 5] := by decide +kernel
theorem u2_1_2 : chk2 [0, 2, 5] [0, 3, 4] [1, 3, 5] 1 2 = true := by decide +kernel
theorem ab1_3 : aboveC 1 3 = [0, 2, 5, 7] := by decide +kernel
theorem u2_1_3 : chk2 [0, 2, 5, 7] [0, 2, 4, 6] [1, 3, 5, 7] 1 2 = true := by decide +kernel
theorem ab1_5 : aboveC 1 5 = [0, 2, 5, 7, 9, 11] := by decide +kernel
theorem u2_1_5 : chk2 [0, 2, 5, 7, 9, 11] [0, 2, 5, 7, 8, 10] [1, 3, 5, 7, 9, 11] 1 2 = true := by decide +kernel
theorem ab1_9 : aboveC 1 9 = [0, 2, 5, 7, 9, 11, 13, 15, 17, 19] := by decide +kernel
theorem u2_1_9 : chk2 [0, 2, 5, 7, 9, 11, 13, 15, 17, 19] [0, 2, 5, 7, 9, 11, 13, 15, 16, 18] [1, 3, 5, 7, 9, 11, 13, 15, 17, 19] 1 2 = true := by decide +kernel
theorem ab2_3 : aboveC 2 3 = [0, 3, 4, 7] := by decide +kernel
theorem u2_2_3 : chk2 [0, 3, 4, 7] [0, 2, 4, 6] [1, 3, 5, 7] 2 2 = true := by decide +kernel
theorem ab2_4 : aboveC 2 4 = [0, 3, 4, 7, 9] := by decide +kernel
theorem u2_2_4 : chk2 [0, 3, 4, 7, 9] [0, 3, 5, 7, 8] [1, 3, 5, 7, 9] 2 2 = true := by decide +kernel
theorem ab2_6 : aboveC 2 6 = [0, 3, 4, 7, 9, 11, 13] := by decide +kernel
theorem u2_2_6 : chk2 [0, 3, 4, 7, 9, 11, 13] [0, 3, 4, 7, 8, 11, 12] [1, 3, 5, 7, 9, 11, 13] 2 2 = true := by decide +kernel
theorem ab2_10 : aboveC 2 10 = [0, 3, 4, 7, 9, 11, 13, 15, 17, 19, 21] := by decide +kernel
theorem u2_2_10 : chk2 [0, 3, 4, 7, 9, 11, 13, 15, 17, 19, 21] [0, 3, 4, 7, 9, 11, 13, 15, 16, 19, 20] [1, 3, 5, 7, 9, 11, 13, 15, 17, 19, 21] 2 2 = true := by decide +kernel
theorem ab3_4 : aboveC 3 4 = [0, 2, 4, 6, 9] := by decide +kernel
theorem u2_3_4 : chk2 [0, 2, 4, 6, 9] [0, 3, 5, 7, 8] [1, 3, 5, 7, 9] 3 4 = true := by decide +kernel
theorem ab3_5 : aboveC 3 5 = [0, 2, 4, 6, 9, 11] := by decide +kernel
theorem u2_3_5 : chk2 [0, 2, 4, 6, 9, 11] [0, 2, 5, 7, 8, 10] [1, 3, 5, 7, 9, 11] 3 4 = true := by decide +kernel
theorem ab3_7 : aboveC 3 7 = [0, 2, 4, 6, 9, 11, 13, 15] := by decide +kernel
theorem u2_3_7 : chk2 [0, 2, 4, 6, 9, 11, 13, 15] [0, 2, 4, 6, 8, 10, 12, 14] [1, 3, 5, 7, 9, 11, 13, 15] 3 4 = true := by decide +kernel
theorem ab3_11 : aboveC 3 11 = [0, 2, 4, 6, 9, 11, 13, 15, 17, 19, 21, 23] := by decide +kernel
theorem u2_3_11 : chk2 [0, 2, 4, 6, 9, 11, 13, 15, 17, 19, 21, 23] [0, 2, 4, 6, 9, 11, 13, 15, 16, 18, 20, 22] [1, 3, 5, 7, 9, 11, 13, 15, 17, 19, 21, 23] 3 4 = true := by decide +kernel
theorem ab4_5 : aboveC 4 5 = [0, 3, 5, 7, 8, 11] := by decide +kernel
theorem u2_4_5 : chk2 [0, 3, 5, 7, 8, 11] [0, 2, 5, 7, 8, 10] [1, 3, 5, 7, 9, 11] 4 2 = true := by decide +kernel
theorem ab4_6 : aboveC 4 6 = [0, 3, 5, 7, 8, 11, 13] := by decide +kernel
theorem u2_4_6 : chk2 [0, 3, 5, 7, 8, 11, 13] [0, 3, 4, 7, 8, 11, 12] [1, 3, 5, 7, 9, 11, 13] 4 2 = true := by decide +kernel
theorem ab4_8 : aboveC 4 8 = [0, 3, 5, 7, 8, 11, 13, 15, 17] := by decide +kernel
theorem u2_4_8 : chk2 [0, 3, 5, 7, 8, 11, 13, 15, 17] [0, 3, 5, 7, 9, 11, 13, 15, 16] [1, 3, 5, 7, 9, 11, 13, 15, 17] 4 2 = true := by decide +kernel
theorem ab4_12 : aboveC 4 12 = [0, 3, 5, 7, 8, 11, 13, 15, 17, 19, 21, 23, 25] := by decide +kernel
theorem u2_4_12 : chk2 [0, 3, 5, 7, 8, 11, 13, 15, 17, 19, 21, 23, 25] [0, 3, 5, 7, 8, 11, 13, 15, 16, 19, 21, 23, 24] [1, 3, 5, 7, 9, 11, 13, 15, 17, 19, 21, 23, 25] 4 2 = true := by decide +kernel
theorem ab5_6 : aboveC 5 6 = [0, 2, 5, 7, 8, 10, 13] := by decide +kernel
theorem u2_5_6 : chk2 [0, 2, 5, 7, 8, 10, 13] [0, 3, 4, 7, 8, 11, 12] [1, 3, 5, 7, 9, 11, 13] 5 4 = true := by decide +kernel
theorem ab5_7 : aboveC 5 7 = [0, 2, 5, 7, 8, 10, 13, 15] := by decide +kernel
theorem u2_5_7 : chk2 [0, 2, 5, 7, 8, 10, 13, 15] [0, 2, 4, 6, 8, 10, 12, 14] [1, 3, 5, 7, 9, 11, 13, 15] 5 4 = true := by decide +kernel
theorem ab5_9 : aboveC 5 9 = [0, 2, 5, 7, 8, 10, 13, 15, 17, 19] := by decide +kernel
theorem u2_5_9 : chk2 [0, 2, 5, 7, 8, 10, 13, 15, 17, 19] [0, 2, 5, 7, 9, 11, 13, 15, 16, 18] [1, 3, 5, 7, 9, 11, 13, 15, 17, 19] 5 4 = true := by decide +kernel
theorem ab5_13 : aboveC 5 13 = [0, 2, 5, 7, 8, 10, 13, 15, 17, 19, 21, 23, 25, 27] := by decide +kernel
theorem u2_5_13 : chk2 [0, 2, 5, 7, 8, 10, 13, 15, 17, 19, 21, 23, 25, 27] [0, 2, 5, 7, 8, 10, 13, 15, 16, 18, 21, 23, 24, 26] [1, 3, 5, 7, 9, 11, 13, 15, 17, 19, 21, 23, 25, 27] 5 4 = true := by decide +kernel
theorem ab6_7 : aboveC 6 7 = [0, 3, 4, 7, 8, 11, 12, 15] := by decide +kernel
theorem u2_6_7 : chk2 [0, 3, 4, 7, 8, 11, 12, 15] [0, 2, 4, 6, 8, 10, 12, 14] [1, 3, 5, 7, 9, 11, 13, 15] 6 4 = true := by decide +kernel
theorem ab6_8 : aboveC 6 8 = [0, 3, 4, 7, 8, 11, 12, 15, 17] := by decide +kernel
theorem u2_6_8 : chk2 [0, 3, 4, 7, 8, 11, 12, 15, 17] [0, 3, 5, 7, 9, 11, 13, 15, 16] [1, 3, 5, 7, 9, 11, 13, 15, 17] 6 4 = true := by decide +kernel
theorem ab6_10 : aboveC 6 10 = [0, 3, 4, 7, 8, 11, 12, 15, 17, 19, 21] := by decide +kernel
theorem u2_6_10 : chk2 [0, 3, 4, 7, 8, 11, 12, 15, 17, 19, 21] [0, 3, 4, 7, 9, 11, 13, 15, 16, 19, 20] [1, 3, 5, 7, 9, 11, 13, 15, 17, 19, 21] 6 4 = true := by decide +kernel
theorem ab6_14 : aboveC 6 14 = [0, 3, 4, 7, 8, 11, 12, 15, 17, 19, 21, 23, 25, 27, 29] := by decide +kernel
theorem u2_6_14 : chk2 [0, 3, 4, 7, 8, 11, 12, 15, 17, 19, 21, 23, 25, 27, 29] [0, 3, 4, 7, 8, 11, 12, 15, 16, 19, 20, 23, 24, 27, 28] [1, 3, 5, 7, 9, 11, 13, 15, 17, 19, 21, 23, 25, 27, 29] 6 4 = true := by decide +kernel
theorem ab7_8 : aboveC 7 8 = [0, 2, 4, 6, 8, 10, 12, 14, 17] := by decide +kernel
theorem u2_7_8 : chk2 [0, 2, 4, 6, 8, 10, 12, 14, 17] [0, 3, 5, 7, 9, 11, 13, 15, 16] [1, 3, 5, 7, 9, 11, 13, 15, 17] 7 8 = true := by decide +kernel
theorem ab7_9 : aboveC 7 9 = [0, 2, 4, 6, 8, 10, 12, 14, 17, 19] := by decide +kernel
theorem u2_7_9 : chk2 [0, 2, 4, 6, 8, 10, 12, 14, 17, 19] [0, 2, 5, 7, 9, 11, 13, 15, 16, 18] [1, 3, 5, 7, 9, 11, 13, 15, 17, 19] 7 8 = true := by decide +kernel
theorem ab7_11 : aboveC 7 11 = [0, 2, 4, 6, 8, 10, 12, 14, 17, 19, 21, 23] := by decide +kernel
theorem u2_7_11 : chk2 [0, 2, 4, 6, 8, 10, 12, 14, 17, 19, 21, 23] [0, 2, 4, 6, 9, 11, 13, 15, 16, 18, 20, 22] [1, 3, 5, 7, 9, 11, 13, 15, 17, 19, 21, 23] 7 8 = true := by decide +kernel
theorem ab7_15 : aboveC 7 15 = [0, 2, 4, 6, 8, 10, 12, 14, 17, 19, 21, 23, 25, 27, 29, 31] := by decide +kernel
theorem u2_7_15 : chk2 [0, 2, 4, 6, 8, 10, 12, 14, 17, 19, 21, 23, 25, 27, 29, 31] [0, 2, 4, 6, 8, 10, 12, 14, 16, 18, 20, 22, 24, 26, 28, 30] [1, 3, 5, 7, 9, 11, 13, 15, 17, 19, 21, 23, 25, 27, 29, 31] 7 8 = true := by decide +kernel
theorem ab8_9 : aboveC 8 9 = [0, 3, 5, 7, 9, 11, 13, 15, 16, 19] := by decide +kernel
theorem u2_8_9 : chk2 [0, 3, 5, 7, 9, 11, 13, 15, 16, 19] [0, 2, 5, 7, 9, 11, 13, 15, 16, 18] [1, 3, 5, 7, 9, 11, 13, 15, 17, 19] 8 2 = true := by decide +kernel
theorem ab8_10 : aboveC 8 10 = [0, 3, 5, 7, 9, 11, 13, 15, 16, 19, 21] := by decide +kernel
theorem u2_8_10 : chk2 [0, 3, 5, 7, 9, 11, 13, 15, 16, 19, 21] [0, 3, 4, 7, 9, 11, 13, 15, 16, 19, 20] [1, 3, 5, 7, 9, 11, 13, 15, 17, 19, 21] 8 2 = true := by decide +kernel
theorem ab8_12 : aboveC 8 12 = [0, 3, 5, 7, 9, 11, 13, 15, 16, 19, 21, 23, 25] := by decide +kernel
theorem u2_8_12 : chk2 [0, 3, 5, 7, 9, 11, 13, 15, 16, 19, 21, 23, 25] [0, 3, 5, 7, 8, 11, 13, 15, 16, 19, 21, 23, 24] [1, 3, 5, 7, 9, 11, 13, 15, 17, 19, 21, 23, 25] 8 2 = true := by decide +kernel
theorem ab9_10 : aboveC 9 10 = [0, 2, 5, 7, 9, 11, 13, 15, 16, 18, 21] := by decide +kernel
theorem u2_9_10 : chk2 [0, 2, 5, 7, 9, 11, 13, 15, 16, 18, 21] [0, 3, 4, 7, 9, 11, 13, 15, 16, 19, 20] [1, 3, 5, 7, 9, 11, 13, 15, 17, 19, 21] 9 4 = true := by decide +kernel
theorem ab9_11 : aboveC 9 11 = [0, 2, 5, 7, 9, 11, 13, 15, 16, 18, 21, 23] := by decide +kernel
theorem u2_9_11 : chk2 [0, 2, 5, 7, 9, 11, 13, 15, 16, 18, 21, 23] [0, 2, 4, 6, 9, 11, 13, 15, 16, 18, 20, 22] [1, 3, 5, 7, 9, 11, 13, 15, 17, 19, 21, 23] 9 4 = true := by decide +kernel
theorem ab9_13 : aboveC 9 13 = [0, 2, 5, 7, 9, 11, 13, 15, 16, 18, 21, 23, 25, 27] := by decide +kernel
theorem u2_9_13 : chk2 [0, 2, 5, 7, 9, 11, 13, 15, 16, 18, 21, 23, 25, 27] [0, 2, 5, 7, 8, 10, 13, 15, 16, 18, 21, 23, 24, 26] [1, 3, 5, 7, 9, 11, 13, 15, 17, 19, 21, 23, 25, 27] 9 4 = true := by decide +kernel
theorem ab10_11 : aboveC 10 11 = [0, 3, 4, 7, 9, 11, 13, 15, 16, 19, 20, 23] := by decide +kernel
theorem u2_10_11 : chk2 [0, 3, 4, 7, 9, 11, 13, 15, 16, 19, 20, 23] [0, 2, 4, 6, 9, 11, 13, 15, 16, 18, 20, 22] [1, 3, 5, 7, 9, 11, 13, 15, 17, 19, 21, 23] 10 4 = true := by decide +kernel
theorem ab10_12 : aboveC 10 12 = [0, 3, 4, 7, 9, 11, 13, 15, 16, 19, 20, 23, 25] := by decide +kernel
theorem u2_10_12 : chk2 [0, 3, 4, 7, 9, 11, 13, 15, 16, 19, 20, 23, 25] [0, 3, 5, 7, 8, 11, 13, 15, 16, 19, 21, 23, 24] [1, 3, 5, 7, 9, 11, 13, 15, 17, 19, 21, 23, 25] 10 4 = true := by decide +kernel
theorem ab10_14 : aboveC 10 14 = [0, 3, 4, 7, 9, 11, 13, 15, 16, 19, 20, 23, 25, 27, 29] := by decide +kernel
theorem u2_10_14 : chk2 [0, 3, 4, 7, 9, 11, 13, 15, 16, 19, 20, 23, 25, 27, 29] [0, 3, 4, 7, 8, 11, 12, 15, 16, 19, 20, 23, 24, 27, 28] [1, 3, 5, 7, 9, 11, 13, 15, 17, 19, 21, 23, 25, 27, 29] 10 4 = true := by decide +kernel
theorem ab11_12 : aboveC 11 12 = [0, 2, 4, 6, 9, 11, 13, 15, 16, 18, 20, 22, 25] := by decide +kernel
theorem u2_11_12 : chk2 [0, 2, 4, 6, 9, 11, 13, 15, 16, 18, 20, 22, 25] [0, 3, 5, 7, 8, 11, 13, 15, 16, 19, 21, 23, 24] [1, 3, 5, 7, 9, 11, 13, 15, 17, 19, 21, 23, 25] 11 8 = true := by decide +kernel
theorem ab11_13 : aboveC 11 13 = [0, 2, 4, 6, 9, 11, 13, 15, 16, 18, 20, 22, 25, 27] := by decide +kernel
theorem u2_11_13 : chk2 [0, 2, 4, 6, 9, 11, 13, 15, 16, 18, 20, 22, 25, 27] [0, 2, 5, 7, 8, 10, 13, 15, 16, 18, 21, 23, 24, 26] [1, 3, 5, 7, 9, 11, 13, 15, 17, 19, 21, 23, 25, 27] 11 8 = true := by decide +kernel
theorem ab11_15 : aboveC 11 15 = [0, 2, 4, 6, 9, 11, 13, 15, 16, 18, 20, 22, 25, 27, 29, 31] := by decide +kernel
theorem u2_11_15 : chk2 [0, 2, 4, 6, 9, 11, 13, 15, 16, 18, 20, 22, 25, 27, 29, 31] [0, 2, 4, 6, 8, 10, 12, 14, 16, 18, 20, 22, 24, 26, 28, 30] [1, 3, 5, 7, 9, 11, 13, 15, 17, 19, 21, 23, 25, 27, 29, 31] 11 8 = true := by decide +kernel
noncomputable def pairs3 : List (Nat × Nat) := [(0, 1), (0, 2), (0, 4), (0, 8), (1, 2), (1, 3), (1, 5), (1, 9), (2, 3), (2, 4), (2, 6), (2, 10), (3, 4), (3, 5), (3, 7), (3, 11), (4, 5), (4, 6), (4, 8), (4, 12), (5, 6), (5, 7), (5, 9), (5, 13), (6, 7), (6, 8), (6, 10), (6, 14), (7, 8), (7, 9), (7, 11), (7, 15), (8, 9), (8, 10), (8, 12), (9, 10), (9, 11), (9, 13), (10, 11), (10, 12), (10, 14), (11, 12), (11, 13), (11, 15)]
theorem tab2 : ∀ n m, (n, m) ∈ pairs3 → chk2 (aboveC n m) (belowC m) (smallC m) n (2 ^ onesN n) = true := by
  suffices key : ∀ p ∈ pairs3, chk2 (aboveC p.1 p.2) (belowC p.2) (smallC p.2) p.1 (2 ^ onesN p.1) = true from fun n m h => key (n, m) h
  unfold pairs3
  refine List.forall_mem_cons.mpr ⟨?_, ?_⟩
  · show chk2 (aboveC 0 1) (belowC 1) (smallC 1) 0 (2 ^ onesN 0) = true
    rw [ab0_1, bl1, sm1]; exact u2_0_1
  refine List.forall_mem_cons.mpr ⟨?_, ?_⟩
  · show chk2 (aboveC 0 2) (belowC 2) (smallC 2) 0 (2 ^ onesN 0) = true
    rw [ab0_2, bl2, sm2]; exact u2_0_2
  refine List.forall_mem_cons.mpr ⟨?_, ?_⟩
  · show chk2 (aboveC 0 4) (belowC 4) (smallC 4) 0 (2 ^ onesN 0) = true
    rw [ab0_4, bl4, sm4]; exact u2_0_4
  refine List.forall_mem_cons.mpr ⟨?_, ?_⟩
  · show chk2 (aboveC 0 8) (belowC 8) (smallC 8) 0 (2 ^ onesN 0) = true
    rw [ab0_8, bl8, sm8]; exact u2_0_8
  refine List.forall_mem_cons.mpr ⟨?_, ?_⟩
  · show chk2 (aboveC 1 2) (belowC 2) (smallC 2) 1 (2 ^ onesN 1) = true
    rw [ab1_2, bl2, sm2]; exact u2_1_2
  refine List.forall_mem_cons.mpr ⟨?_, ?_⟩
  · show chk2 (aboveC 1 3) (belowC 3) (smallC 3) 1 (2 ^ onesN 1) = true
    rw [ab1_3, bl3, sm3]; exact u2_1_3
  refine List.forall_mem_cons.mpr ⟨?_, ?_⟩
  · show chk2 (aboveC 1 5) (belowC 5) (smallC 5) 1 (2 ^ onesN 1) = true
    rw [ab1_5, bl5, sm5]; exact u2_1_5
  refine List.forall_mem_cons.mpr ⟨?_, ?_⟩
  · show chk2 (aboveC 1 9) (belowC 9) (smallC 9) 1 (2 ^ onesN 1) = true
    rw [ab1_9, bl9, sm9]; exact u2_1_9
  refine List.forall_mem_cons.mpr ⟨?_, ?_⟩
  · show chk2 (aboveC 2 3) (belowC 3) (smallC 3) 2 (2 ^ onesN 2) = true
    rw [ab2_3, bl3, sm3]; exact u2_2_3
  refine List.forall_mem_cons.mpr ⟨?_, ?_⟩
  · show chk2 (aboveC 2 4) (belowC 4) (smallC 4) 2 (2 ^ onesN 2) = true
    rw [ab2_4, bl4, sm4]; exact u2_2_4
  refine List.forall_mem_cons.mpr ⟨?_, ?_⟩
  · show chk2 (aboveC 2 6) (belowC 6) (smallC 6) 2 (2 ^ onesN 2) = true
    rw [ab2_6, bl6, sm6]; exact u2_2_6
  refine List.forall_mem_cons.mpr ⟨?_, ?_⟩
  · show chk2 (aboveC 2 10) (belowC 10) (smallC 10) 2 (2 ^ onesN 2) = true
    rw [ab2_10, bl10, sm10]; exact u2_2_10
  refine List.forall_mem_cons.mpr ⟨?_, ?_⟩
  · show chk2 (aboveC 3 4) (belowC 4) (smallC 4) 3 (2 ^ onesN 3) = true
    rw [ab3_4, bl4, sm4]; exact u2_3_4
  refine List.forall_mem_cons.mpr ⟨?_, ?_⟩
  · show chk2 (aboveC 3 5) (belowC 5) (smallC 5) 3 (2 ^ onesN 3) = true
    rw [ab3_5, bl5, sm5]; exact u2_3_5
  refine List.forall_mem_cons.mpr ⟨?_, ?_⟩
  · show chk2 (aboveC 3 7) (belowC 7) (smallC 7) 3 (2 ^ onesN 3) = true
    rw [ab3_7, bl7, sm7]; exact u2_3_7
  refine List.forall_mem_cons.mpr ⟨?_, ?_⟩
  · show chk2 (aboveC 3 11) (belowC 11) (smallC 11) 3 (2 ^ onesN 3) = true
    rw [ab3_11, bl11, sm11]; exact u2_3_11
  refine List.forall_mem_cons.mpr ⟨?_, ?_⟩
  · show chk2 (aboveC 4 5) (belowC 5) (smallC 5) 4 (2 ^ onesN 4) = true
    rw [ab4_5, bl5, sm5]; exact u2_4_5
  refine List.forall_mem_cons.mpr ⟨?_, ?_⟩
  · show chk2 (aboveC 4 6) (belowC 6) (smallC 6) 4 (2 ^ onesN 4) = true
    rw [ab4_6, bl6, sm6]; exact u2_4_6
  refine List.forall_mem_cons.mpr ⟨?_, ?_⟩
  · show chk2 (aboveC 4 8) (belowC 8) (smallC 8) 4 (2 ^ onesN 4) = true
    rw [ab4_8, bl8, sm8]; exact u2_4_8
  refine List.forall_mem_cons.mpr ⟨?_, ?_⟩
  · show chk2 (aboveC 4 12) (belowC 12) (smallC 12) 4 (2 ^ onesN 4) = true
    rw [ab4_12, bl12, sm12]; exact u2_4_12
  refine List.forall_mem_cons.mpr ⟨?_, ?_⟩
  · show chk2 (aboveC 5 6) (belowC 6) (smallC 6) 5 (2 ^ onesN 5) = true
    rw [ab5_6, bl6, sm6]; exact u2_5_6
  refine List.forall_mem_cons.mpr ⟨?_, ?_⟩
  · show chk2 (aboveC 5 7) (belowC 7) (smallC 7) 5 (2 ^ onesN 5) = true
    rw [ab5_7, bl7, sm7]; exact u2_5_7
  refine List.forall_mem_cons.mpr ⟨?_, ?_⟩
  · show chk2 (aboveC 5 9) (belowC 9) (smallC 9) 5 (2 ^ onesN 5) = true
    rw [ab5_9, bl9, sm9]; exact u2_5_9
  refine List.forall_mem_cons.mpr ⟨?_, ?_⟩
  · show chk2 (aboveC 5 13) (belowC 13) (smallC 13) 5 (2 ^ onesN 5) = true
    rw [ab5_13, bl13, sm13]; exact u2_5_13
  refine List.forall_mem_cons.mpr ⟨?_, ?_⟩
  · show chk2 (aboveC 6 7) (belowC 7) (smallC 7) 6 (2 ^ onesN 6) = true
    rw [ab6_7, bl7, sm7]; exact u2_6_7
  refine List.forall_mem_cons.mpr ⟨?_, ?_⟩
  · show chk2 (aboveC 6 8) (belowC 8) (smallC 8) 6 (2 ^ onesN 6) = true
    rw [ab6_8, bl8, sm8]; exact u2_6_8
  refine List.forall_mem_cons.mpr ⟨?_, ?_⟩
  · show chk2 (aboveC 6 10) (belowC 10) (smallC 10) 6 (2 ^ onesN 6) = true
    rw [ab6_10, bl10, sm10]; exact u2_6_10
  refine List.forall_mem_cons.mpr ⟨?_, ?_⟩
  · show chk2 (aboveC 6 14) (belowC 14) (smallC 14) 6 (2 ^ onesN 6) = true
    rw [ab6_14, bl14, sm14]; exact u2_6_14
  refine List.forall_mem_cons.mpr ⟨?_, ?_⟩
  · show chk2 (aboveC 7 8) (belowC 8) (smallC 8) 7 (2 ^ onesN 7) = true
    rw [ab7_8, bl8, sm8]; exact u2_7_8
  refine List.forall_mem_cons.mpr ⟨?_, ?_⟩
  · show chk2 (aboveC 7 9) (belowC 9) (smallC 9) 7 (2 ^ onesN 7) = true
    rw [ab7_9, bl9, sm9]; exact u2_7_9
  refine List.forall_mem_cons.mpr ⟨?_, ?_⟩
  · show chk2 (aboveC 7 11) (belowC 11) (smallC 11) 7 (2 ^ onesN 7) = true
    rw [ab7_11, bl11, sm11]; exact u2_7_11
  refine List.forall_mem_cons.mpr ⟨?_, ?_⟩
  · show chk2 (aboveC 7 15) (belowC 15) (smallC 15) 7 (2 ^ onesN 7) = true
    rw [ab7_15, bl15, sm15]; exact u2_7_15
  refine List.forall_mem_cons.mpr ⟨?_, ?_⟩
  · show chk2 (aboveC 8 9) (belowC 9) (smallC 9) 8 (2 ^ onesN 8) = true
    rw [ab8_9, bl9, sm9]; exact u2_8_9
  refine List.forall_mem_cons.mpr ⟨?_, ?_⟩
  · show chk2 (aboveC 8 10) (belowC 10) (smallC 10) 8 (2 ^ onesN 8) = true
    rw [ab8_10, bl10, sm10]; exact u2_8_10
  refine List.forall_mem_cons.mpr ⟨?_, ?_⟩
  · show chk2 (aboveC 8 12) (belowC 12) (smallC 12) 8 (2 ^ onesN 8) = true
    rw [ab8_12, bl12, sm12]; exact u2_8_12
  refine List.forall_mem_cons.mpr ⟨?_, ?_⟩
  · show chk2 (aboveC 9 10) (belowC 10) (smallC 10) 9 (2 ^ onesN 9) = true
    rw [ab9_10, bl10, sm10]; exact u2_9_10
  refine List.forall_mem_cons.mpr ⟨?_, ?_⟩
  · show chk2 (aboveC 9 11) (belowC 11) (smallC 11) 9 (2 ^ onesN 9) = true
    rw [ab9_11, bl11, sm11]; exact u2_9_11
  refine List.forall_mem_cons.mpr ⟨?_, ?_⟩
  · show chk2 (aboveC 9 13) (belowC 13) (smallC 13) 9 (2 ^ onesN 9) = true
    rw [ab9_13, bl13, sm13]; exact u2_9_13
  refine List.forall_mem_cons.mpr ⟨?_, ?_⟩
  · show chk2 (aboveC 10 11) (belowC 11) (smallC 11) 10 (2 ^ onesN 10) = true
    rw [ab10_11, bl11, sm11]; exact u2_10_11
  refine List.forall_mem_cons.mpr ⟨?_, ?_⟩
  · show chk2 (aboveC 10 12) (belowC 12) (smallC 12) 10 (2 ^ onesN 10) = true
    rw [ab10_12, bl12, sm12]; exact u2_10_12
  refine List.forall_mem_cons.mpr ⟨?_, ?_⟩
  · show chk2 (aboveC 10 14) (belowC 14) (smallC 14) 10 (2 ^ onesN 10) = true
    rw [ab10_14, bl14, sm14]; exact u2_10_14
  refine List.forall_mem_cons.mpr ⟨?_, ?_⟩
  · show chk2 (aboveC 11 12) (belowC 12) (smallC 12) 11 (2 ^ onesN 11) = true
    rw [ab11_12, bl12, sm12]; exact u2_11_12
  refine List.forall_mem_cons.mpr ⟨?_, ?_⟩
  · show chk2 (aboveC 11 13) (belowC 13) (smallC 13) 11 (2 ^ onesN 11) = true
    rw [ab11_13, bl13, sm13]; exact u2_11_13
  refine List.forall_mem_cons.mpr ⟨?_, ?_⟩
  · show chk2 (aboveC 11 15) (belowC 15) (smallC 15) 11 (2 ^ onesN 11) = true
    rw [ab11_15, bl15, sm15]; exact u2_11_15
  exact fun _ h => absurd h List.not_mem_nil
theorem pair_mem {n e : Nat} (hn : n < 12) (h1 : n < 8 → e < 4) (h2 : 8 ≤ n → e < 3) : (n, n + 2 ^ e) ∈ pairs3 := by
  have key : ∀ n < 12, ∀ e < 4, (!(decide (n < 8 ∨ e < 3)) || pairs3.contains (n, n + 2 ^ e)) = true := by decide +kernel
  have := key n hn e (by omega)
  rw [show decide (n < 8 ∨ e < 3) = true from decide_eq_true (by omega)] at this
  simpa using this
theorem pair_le : ∀ n m, (n, m) ∈ pairs3 → n < 12 ∧ n < m ∧ m < 16 ∧ 2 ^ onesN n ≤ m + 1 := by
  have key : ∀ p ∈ pairs3, p.1 < 12 ∧ p.1 < p.2 ∧ p.2 < 16 ∧ 2 ^ onesN p.1 ≤ p.2 + 1 := by decide +kernel
  exact fun n m h => key (n, m) h
/-- Fermat's numbers -/
noncomputable def prodN (m : Nat) : Nat → Nat
  | 0 => 1
  | t + 1 => if m / 2 ^ t % 2 = 1 then prodN m t * [3, 5, 17, 257].getD t 0 else prodN m t
noncomputable def oddC (m : Nat) : List Nat := (List.range 16).filter fun k => (padS 4 (prodN m 4)).getD (3 - k / 4) 0 / 2 ^ (k % 4) % 2 == 1
theorem od1 : (oddC 1 == [0, 1]) = true := by decide +kernel
theorem pr1 : (((List.range 2).filter fun k => (pascal 1).getD k 0 % 2 == 1) == [0, 1] && Nat.blt (prodN 1 4) 65536) = true := by decide +kernel
theorem od2 : (oddC 2 == [0, 2]) = true := by decide +kernel
theorem pr2 : (((List.range 3).filter fun k => (pascal 2).getD k 0 % 2 == 1) == [0, 2] && Nat.blt (prodN 2 4) 65536) = true := by decide +kernel
theorem od3 : (oddC 3 == [0, 1, 2, 3]) = true := by decide +kernel
theorem pr3 : (((List.range 4).filter fun k => (pascal 3).getD k 0 % 2 == 1) == [0, 1, 2, 3] && Nat.blt (prodN 3 4) 65536) = true := by decide +kernel
theorem od4 : (oddC 4 == [0, 4]) = true := by decide +kernel
theorem pr4 : (((List.range 5).filter fun k => (pascal 4).getD k 0 % 2 == 1) == [0, 4] && Nat.blt (prodN 4 4) 65536) = true := by decide +kernel
theorem od5 : (oddC 5 == [0, 1, 4, 5]) = true := by decide +kernel
theorem pr5 : (((List.range 6).filter fun k => (pascal 5).getD k 0 % 2 == 1) == [0, 1, 4, 5] && Nat.blt (prodN 5 4) 65536) = true := by decide +kernel
theorem od6 : (oddC 6 == [0, 2, 4, 6]) = true := by decide +kernel
theorem pr6 : (((List.range 7).filter fun k => (pascal 6).getD k 0 % 2 == 1) == [0, 2, 4, 6] && Nat.blt (prodN 6 4) 65536) = true := by decide +kernel
theorem od7 : (oddC 7 == [0, 1, 2, 3, 4, 5, 6, 7]) = true := by decide +kernel
theorem pr7 : (((List.range 8).filter fun k => (pascal 7).getD k 0 % 2 == 1) == [0, 1, 2, 3, 4, 5, 6, 7] && Nat.blt (prodN 7 4) 65536) = true := by decide +kernel
theorem od8 : (oddC 8 == [0, 8]) = true := by decide +kernel
theorem pr8 : (((List.range 9).filter fun k => (pascal 8).getD k 0 % 2 == 1) == [0, 8] && Nat.blt (prodN 8 4) 65536) = true := by decide +kernel
theorem od9 : (oddC 9 == [0, 1, 8, 9]) = true := by decide +kernel
theorem pr9 : (((List.range 10).filter fun k => (pascal 9).getD k 0 % 2 == 1) == [0, 1, 8, 9] && Nat.blt (prodN 9 4) 65536) = true := by decide +kernel
theorem od10 : (oddC 10 == [0, 2, 8, 10]) = true := by decide +kernel
theorem pr10 : (((List.range 11).filter fun k => (pascal 10).getD k 0 % 2 == 1) == [0, 2, 8, 10] && Nat.blt (prodN 10 4) 65536) = true := by decide +kernel
theorem od11 : (oddC 11 == [0, 1, 2, 3, 8, 9, 10, 11]) = true := by decide +kernel
theorem pr11 : (((List.range 12).filter fun k => (pascal 11).getD k 0 % 2 == 1) == [0, 1, 2, 3, 8, 9, 10, 11] && Nat.blt (prodN 11 4) 65536) = true := by decide +kernel
theorem od12 : (oddC 12 == [0, 4, 8, 12]) = true := by decide +kernel
theorem pr12 : (((List.range 13).filter fun k => (pascal 12).getD k 0 % 2 == 1) == [0, 4, 8, 12] && Nat.blt (prodN 12 4) 65536) = true := by decide +kernel
theorem od13 : (oddC 13 == [0, 1, 4, 5, 8, 9, 12, 13]) = true := by decide +kernel
theorem pr13 : (((List.range 14).filter fun k => (pascal 13).getD k 0 % 2 == 1) == [0, 1, 4, 5, 8, 9, 12, 13] && Nat.blt (prodN 13 4) 65536) = true := by decide +kernel
theorem od14 : (oddC 14 == [0, 2, 4, 6, 8, 10, 12, 14]) = true := by decide +kernel
theorem pr14 : (((List.range 15).filter fun k => (pascal 14).getD k 0 % 2 == 1) == [0, 2, 4, 6, 8, 10, 12, 14] && Nat.blt (prodN 14 4) 65536) = true := by decide +kernel
theorem od15 : (oddC 15 == [0, 1, 2, 3, 4, 5, 6, 7, 8, 9, 10, 11, 12, 13, 14, 15]) = true := by decide +kernel
theorem pr15 : (((List.range 16).filter fun k => (pascal 15).getD k 0 % 2 == 1) == [0, 1, 2, 3, 4, 5, 6, 7, 8, 9, 10, 11, 12, 13, 14, 15] && Nat.blt (prodN 15 4) 65536) = true := by decide +kernel
theorem tab3 : ∀ m, 1 ≤ m → m < 16 → oddC m = ((List.range (m + 1)).filter fun k => (pascal m).getD k 0 % 2 == 1) ∧ prodN m 4 < 65536 := by
  refine upto16 ⟨?_, ?_, ?_, ?_, ?_, ?_, ?_, ?_, ?_, ?_, ?_, ?_, ?_, ?_, ?_⟩
  · exact ⟨(eq_of_beq od1).trans (eq_of_beq (Bool.and_eq_true_iff.mp pr1).1).symm, Nat.le_of_ble_eq_true (Bool.and_eq_true_iff.mp pr1).2⟩
  · exact ⟨(eq_of_beq od2).trans (eq_of_beq (Bool.and_eq_true_iff.mp pr2).1).symm, Nat.le_of_ble_eq_true (Bool.and_eq_true_iff.mp pr2).2⟩
  · exact ⟨(eq_of_beq od3).trans (eq_of_beq (Bool.and_eq_true_iff.mp pr3).1).symm, Nat.le_of_ble_eq_true (Bool.and_eq_true_iff.mp pr3).2⟩
  · exact ⟨(eq_of_beq od4).trans (eq_of_beq (Bool.and_eq_true_iff.mp pr4).1).symm, Nat.le_of_ble_eq_true (Bool.and_eq_true_iff.mp pr4).2⟩
  · exact ⟨(eq_of_beq od5).trans (eq_of_beq (Bool.and_eq_true_iff.mp pr5).1).symm, Nat.le_of_ble_eq_true (Bool.and_eq_true_iff.mp pr5).2⟩
  · exact ⟨(eq_of_beq od6).trans (eq_of_beq (Bool.and_eq_true_iff.mp pr6).1).symm, Nat.le_of_ble_eq_true (Bool.and_eq_true_iff.mp pr6).2⟩
  · exact ⟨(eq_of_beq od7).trans (eq_of_beq (Bool.and_eq_true_iff.mp pr7).1).symm, Nat.le_of_ble_eq_true (Bool.and_eq_true_iff.mp pr7).2⟩
  · exact ⟨(eq_of_beq od8).trans (eq_of_beq (Bool.and_eq_true_iff.mp pr8).1).symm, Nat.le_of_ble_eq_true (Bool.and_eq_true_iff.mp pr8).2⟩
  · exact ⟨(eq_of_beq od9).trans (eq_of_beq (Bool.and_eq_true_iff.mp pr9).1).symm, Nat.le_of_ble_eq_true (Bool.and_eq_true_iff.mp pr9).2⟩
  · exact ⟨(eq_of_beq od10).trans (eq_of_beq (Bool.and_eq_true_iff.mp pr10).1).symm, Nat.le_of_ble_eq_true (Bool.and_eq_true_iff.mp pr10).2⟩
  · exact ⟨(eq_of_beq od11).trans (eq_of_beq (Bool.and_eq_true_iff.mp pr11).1).symm, Nat.le_of_ble_eq_true (Bool.and_eq_true_iff.mp pr11).2⟩
  · exact ⟨(eq_of_beq od12).trans (eq_of_beq (Bool.and_eq_true_iff.mp pr12).1).symm, Nat.le_of_ble_eq_true (Bool.and_eq_true_iff.mp pr12).2⟩
  · exact ⟨(eq_of_beq od13).trans (eq_of_beq (Bool.and_eq_true_iff.mp pr13).1).symm, Nat.le_of_ble_eq_true (Bool.and_eq_true_iff.mp pr13).2⟩
  · exact ⟨(eq_of_beq od14).trans (eq_of_beq (Bool.and_eq_true_iff.mp pr14).1).symm, Nat.le_of_ble_eq_true (Bool.and_eq_true_iff.mp pr14).2⟩
  · exact ⟨(eq_of_beq od15).trans (eq_of_beq (Bool.and_eq_true_iff.mp pr15).1).symm, Nat.le_of_ble_eq_true (Bool.and_eq_true_iff.mp pr15).2⟩
end Mine
namespace Mine
open PySem PySem.W PyProof.Rows PySem.Calls
/-- one step -/
local macro_rules | `(tactic| walk_at "sd") => `(tactic| first | assumption | omega | decide | ((try simp only [lenLid, List.length_map, List.length_range, List.length_append, List.length_cons, List.length_nil, List.length_drop, List.length_take, List.length_replicate] at *); first | omega | decide))
local macro_rules | `(tactic| walk_at "sv") => `(tactic| first
  | (with_reducible first | refine b_add ?_ | refine n_int ?_ | refine b_sub ?_ | refine c_eqI ?_ | refine c_neI ?_ | refine c_ltI ?_ | refine c_leI ?_ | refine c_gtI ?_ | refine c_geI ?_ | refine c_eqS ?_ | refine c_neS ?_ | refine c_eqL ?_ | refine c_eqN ?_ | refine t_bool ?_ | refine t_int ?_ | refine f_ord ?_ | refine f_abs ?_ | refine f_int ?_ | refine f_min ?_ | refine f_sum ?_)
  | ((with_reducible first | refine b_mul ?h1 ?_ | refine b_divp ?h1 ?_ | refine b_modp ?h1 ?_ | refine b_pow2n ?h1 ?_ | refine b_pow16n ?h1 ?_ | refine b_pow2 ?h1 ?_ | refine b_pow16 ?h1 ?_ | refine b_pow ?h1 ?_ | refine b_cat ?h1 ?_ | refine b_rep ?h1 ?_ | refine b_catB ?h1 ?_ | refine t_str ?h1 ?_ | refine f_lenS ?h1 ?_ | refine f_lenM ?h1 ?_ | refine f_lenL ?h1 ?_ | refine f_chr ?h1 ?_ | refine f_divmod ?h1 ?_ | refine m_lower ?h1 ?_); (case h1 => walk_at "sd"))
  | ((with_reducible first | refine c_inC ?h1 ?_ | refine m_getC ?h1 ?_); (case h1 => exact rfl))
  | ((with_reducible refine m_join ?h1 ?h2 ?_); (case h1 => decide +kernel); (case h2 => walk_at "sd"))
  | ((with_reducible first | refine i_strN ?h1 ?h2 ?_ | refine i_natsN ?h1 ?h2 ?_ | refine i_intsN ?h1 ?h2 ?_ | refine i_strsN ?h1 ?h2 ?_); (case h1 => walk_at "sd"); (case h2 => walk_at "sd"))
  | ((with_reducible first | refine cut_fromN ?h1 ?_ | refine cut_toN ?h1 ?_); (case h1 => walk_at "sd"))
  | ((with_reducible first | refine i_ints ?h1 ?h2 ?h3 ?_ | refine i_str ?h1 ?h2 ?h3 ?_); (case h1 => walk_at "sd"); (case h2 => walk_at "sd"); (case h3 => walk_at "sd"))
  | ((with_reducible first | refine i_strn ?h1 ?h2 ?h3 ?_ | refine i_nats ?h1 ?h2 ?h3 ?_); (case h1 => walk_at "sd"); (case h2 => walk_at "sd"); (case h3 => walk_at "sd"))
  | ((with_reducible refine cut_step ?h1 ?h2 ?_); (case h1 => decide); (case h2 => walk_at "sd"))
  | ((with_reducible first | refine cut_from ?h1 ?h2 ?_ | refine cut_to ?h1 ?h2 ?_); (case h1 => walk_at "sd"); (case h2 => walk_at "sd")))
local macro_rules | `(tactic| walk_at "at") => `(tactic| first
  | exact rfl
  | (with_reducible exact at_hit)
  | ((with_reducible refine' at_miss ?h1 ?h2); (case h1 => exact rfl); (case h2 => walk_at "at"))
  | (with_reducible exact at_put_hit)
  | ((with_reducible refine' at_put_miss ?h1 ?h2); (case h1 => exact rfl); (case h2 => walk_at "at"))
  | assumption
  | ((with_reducible refine' at_clean_none ?h1); (case h1 => walk_at "at"))
  | exact at_only (by assumption) (by rfl))
local macro_rules | `(tactic| walk_at "atv") => `(tactic| ((refine' Eq.trans (b := some _) ?h1 ?h2); (case h1 => walk_at "at"); (case h2 => rfl)))
local macro_rules | `(tactic| walk_at "cl") => `(tactic| first
  | (with_reducible exact clean_nil)
  | ((with_reducible refine' clean_plain ?h1); walk_at "cl")
  | ((with_reducible refine' clean_own ?h1); walk_at "cl")
  | exact rfl)
local macro_rules | `(tactic| walk_at "cp") => `(tactic| first
  | (with_reducible exact capt_nil)
  | ((with_reducible refine' capt_keep ?c1 ?c2); (case c1 => exact rfl); (case c2 => walk_at "cp"))
  | ((with_reducible refine' capt_drop ?c1 ?c2); (case c1 => exact rfl); (case c2 => walk_at "cp")))
local macro_rules | `(tactic| walk_at "cps") => `(tactic| ((case k1 => walk_at "cp"); (case k2 => walk_at "sd"); (case k4 => walk_at "at"); (case k9 => exact fun _ _ => Expr.noConfusion)))
local macro_rules | `(tactic| walk_at "only") => `(tactic| first
  | assumption
  | exact only_nil
  | (refine only_clean ?_; walk_at "only")
  | (refine only_put ?_ (by rfl); walk_at "only"))
local macro_rules | `(tactic| walk_at "pt") => `(tactic| first
  | (with_reducible exact put_hit)
  | (with_reducible exact put_nil)
  | ((with_reducible refine' put_miss ?h1 ?h2); (case h1 => exact rfl); (case h2 => walk_at "pt"))
  | ((with_reducible refine' put_app ?h1 ?h2); (case h1 => exact rfl); (case h2 => walk_at "pt"))
  | exact rfl)
local macro_rules | `(tactic| walk_at "st") => `(tactic| first
  | ((with_reducible first | refine' then_put2 ?h1 ?h2 ?_ | refine' wxs_put2 ?h1 ?h2 ?_); (case h1 => walk_at "pt"); (case h2 => walk_at "pt"))
  | ((with_reducible first | refine' then_put ?h1 ?_ | refine' wxs_put ?h1 ?_ | refine' we_put ?h1 ?_ | refine' wt_put ?h1 ?_); (case h1 => walk_at "pt"))
  | (with_reducible first | refine then_next ?_ | refine turn_next ?_ | refine turn_ret ?_ | refine then_ret ?_ | refine post_ret ?_ | refine WXs_nil ?_ | refine WXs_cons ?_ | refine WX_ret ?_ | refine WX_if ?_ | refine WE_int ?_ | refine WE_str ?_ | refine WE_none ?_ | refine WE_bool ?_ | refine WE_bytes ?_ | refine WE_bin ?_ | refine WE_neg ?_ | refine WE_not ?_ | refine WE_or ?_ | refine WE_ife ?_ | refine WE_list ?_ | refine WE_tup ?_ | refine WT_not ?_ | refine WT_and ?_ | refine WT_or ?_ | refine WA_nil ?_ | refine WA_cons ?_ | refine WR_nil ?_ | refine WR_cons ?_ | refine WO_none ?_ | refine WO_some ?_ | refine WEs_nil ?_)
  | ((with_reducible refine WX_clean (e := .ListComp _ _ _ _) ?h1 ?h2 ?_ ?h3); (case h1 => exact rfl); (case h2 => exact rfl); (case h3 => exact rfl))
  | ((with_reducible refine WX_atom ?h1 ?_ ?h3); (case h1 => exact rfl); (case h3 => exact rfl))
  | ((with_reducible refine' WX_set ?h1 ?h2 ?_); (case h1 => walk_at "at"); (case h2 => exact rfl))
  | ((with_reducible refine' WX_aug ?h1 ?_ ?h3); (case h1 => walk_at "at"); (case h3 => exact rfl); (try dsimp only))
  | ((with_reducible refine' WE_cutOr ?h1 ?h2 ?h3 ?h4 ?_); (case h1 => walk_at "at"); (case h2 => walk_at "at"); (case h3 => walk_at "sd"); (case h4 => walk_at "sd"))
  | (with_reducible refine WE_cut ?_)
  | ((with_reducible refine WE_item ?hb ?_); (case hb => exact fun _ _ _ _ => Expr.noConfusion))
  | ((with_reducible refine WE_meth ?_ ?h1 ?h2 ?h3); (case h1 => rfl); (case h2 => rfl); (case h3 => decide))
  | ((with_reducible refine WE_blt ?_ ?h1 ?h2 ?h3); (case h1 => exact rfl); (case h2 => walk_at "at"); (case h3 => exact rfl))
  | ((with_reducible refine WE_fn ?_ ?h1 ?h2 ?h3 ?h4); (case h1 => exact rfl); (case h2 => exact rfl); (case h3 => walk_at "at"); (case h4 => exact rfl))
  | ((with_reducible first | refine WE_cmp ?_ ?hb | refine WT_cmp ?_ ?hb | refine WT_val ?_ ?hb); (case hb => rfl))
  | ((with_reducible refine WEs_cons ?_ ?hb); (case hb => exact fun _ _ => Expr.noConfusion))
  | ((with_reducible refine' WE_name ?h1 ?_); (case h1 => walk_at "at"); (try dsimp only))
  | ((with_reducible refine' WE_globC ?h1 ?h2 ?h3 ?_); (case h1 => walk_at "at"); (case h2 => exact rfl); (case h3 => exact rfl); (try dsimp only))
  | (with_reducible refine WX_two ?_ rfl rfl)
  | ((with_reducible refine And.intro (a := _ ≤ lenLid) ?h1 ?_); (case h1 => walk_at "sd"))
  | ((with_reducible refine And.intro (a := isAtom _ = true) ?h1 ?_); (case h1 => exact rfl))
  | ((with_reducible refine And.intro (a := augOk _ _ _ = true) ?h1 ?_); (case h1 => exact rfl))
  | ((with_reducible refine WX_tup ?_ ?h1 ?h2 ?h3 ?h4); (case h1 => exact rfl); (case h2 => exact rfl); (case h3 => exact rfl); (case h4 => decide))
  | (refine ⟨_, _, rfl, rfl, rfl, ?_⟩)
  | (with_reducible first | refine split_t ?_ | refine split_f ?_ | refine split_t' ?_ | refine split_f' ?_ | refine split_d (fun hc => ?_) (fun hc => ?_) | refine split_e (fun hc => ?_) (fun hc => ?_) | refine split_nd (fun hc => ?_) (fun hc => ?_) | refine split_ne (fun hc => ?_) (fun hc => ?_))
  | walk_at "sv")
noncomputable def low (c : Nat) : List Nat := (Txt.lower ⟨[c].toArray⟩).cps.toList
noncomputable def mapB3 (es : List DictEntry) (c : Nat) : List Nat := match tabGet es c with
  | .str x => x
  | _ => low c
theorem tabGet_form (es : List DictEntry) (i : Int) : tabGet es i = .none ∨ ∃ x, tabGet es i = .str x := by
  unfold tabGet
  split
  · exact .inr ⟨_, rfl⟩
  · exact .inl rfl
namespace L3
theorem w_in_b1 {m : Nat} {c : Nat} {Q : V → Prop} (h : Q (.bool (b1E.any fun e => Value.isInt c e.2))) : WF (CC D3 fs3 (m + 1)) "in_table_b1" [.str [c]] Q := by
  refine WF_of (fnT st2) [("code", ⟨.str [c], false⟩)] (by rfl) (by rfl) (by rfl) ?_
  refine WXs_cons ?_
  repeat' walk_at "st"
  exact h
theorem w_b3 {m : Nat} {c : Nat} {Q : V → Prop} (h : Q (.str (mapB3 b3E c))) : WF (CC D3 fs3 (m + 1)) "map_table_b3" [.str [c]] Q := by
  refine WF_of (fnT st4) [("code", ⟨.str [c], false⟩)] (by rfl) (by rfl) (by rfl) ?_
  refine WXs_cons ?_
  repeat' walk_at "st"
  have e0 : (D3.get (Value.ref 33) (c : Int)).1 = tabGet b3E c := rfl
  rw [e0]
  unfold mapB3 at h
  rcases tabGet_form b3E c with e | ⟨x, e⟩
  · rw [e] at h ⊢
    repeat' walk_at "st"
    refine c_inn (.inl ⟨rfl, ?_⟩)
    repeat' walk_at "st"
    exact h
  · rw [e] at h ⊢
    repeat' walk_at "st"
    refine c_inn (.inr ⟨⟨_, rfl⟩, ?_⟩)
    repeat' walk_at "st"
    exact h
theorem w_subst {m : Nat} {a b : Nat} {Q : V → Prop} (h : Q (.int (if a = b then 0 else if low a = low b then 1 else 2))) : WF (CC D3 fs3 (m + 1)) "_substitution_cost" [.str [a], .str [b]] Q := by
  unfold low at h
  refine WF_of (fnT st11) [("ch_a", ⟨.str [a], false⟩), ("ch_b", ⟨.str [b], false⟩)] (by rfl) (by rfl) (by rfl) ?_
  refine WXs_cons ?_
  repeat' walk_at "st"
  · rename_i hc
    rw [if_pos (by simpa using hc)] at h; exact h
  · rename_i hc hd
    rw [if_neg (by simpa using hc), if_pos hd] at h; exact h
  · rename_i hc hd
    rw [if_neg (by simpa using hc), if_neg hd] at h; exact h
theorem w_ap {m : Nat} {z : Int} {Q : V → Prop} (hz : z.natAbs < 16 ^ 1000) (h : Q (.bytes ((digs z.natAbs).map fun d => UInt8.ofNat (65 + d)))) : WF (CC D3 fs3 (m + 1)) "Int2AP" [.int z] Q := by
  refine WF_of (fnT st6) [("num", ⟨.int z, false⟩)] (by rfl) (by rfl) (by rfl) ?_
  refine WXs_cons ?_
  repeat' walk_at "st"
  refine WX_while (fun i l => ∃ (n : Nat) (v : List Nat) (j : Ls), l = (("num", ⟨.int n, false⟩) :: ("val", ⟨.bytes (v.map fun d => UInt8.ofNat (65 + d)), false⟩) :: ("AP", ⟨.bytes [65, 66, 67, 68, 69, 70, 71, 72, 73, 74, 75, 76, 77, 78, 79, 80], false⟩) :: j : List (Str × Loc)) ∧ Only ["mod"] j ∧ n < 16 ^ i ∧ digs z.natAbs = digs n ++ v ∧ v.length + i ≤ 1000) 1000 (by decide) ⟨z.natAbs, [], [], rfl, only_nil, hz, by simp, by simp⟩ ?_
  rintro i l ⟨n, v, j, rfl, hj, hn, hd, hl⟩
  repeat' walk_at "st"
  · rename_i hc
    cases i with
    | zero => exact absurd (by omega) hc
    | succ i =>
      refine ⟨i, rfl, ?_⟩
      repeat' walk_at "st"
      have h16 : (n : Int) % 16 < 16 ∧ 0 ≤ (n : Int) % 16 := by omega
      have e1 : ([65, 66, 67, 68, 69, 70, 71, 72, 73, 74, 75, 76, 77, 78, 79, 80] : List UInt8).length = 16 := rfl
      refine cut_bytes (by omega) (by omega) (by rw [e1]; omega) (by rw [e1]; omega) (by decide) ?_
      have key : List.drop ((n : Int) % 16).toNat (List.take ((n : Int) % 16 + 1).toNat [65, 66, 67, 68, 69, 70, 71, 72, 73, 74, 75, 76, 77, 78, 79, 80]) = [n % 16].map fun d => UInt8.ofNat (65 + d) := by
        have e2 : ((n : Int) % 16).toNat = n % 16 := by omega
        have e3 : ((n : Int) % 16 + 1).toNat = n % 16 + 1 := by omega
        rw [e2, e3]
        have : ∀ d < 16, List.drop d (List.take (d + 1) [65, 66, 67, 68, 69, 70, 71, 72, 73, 74, 75, 76, 77, 78, 79, 80]) = [d].map fun d => UInt8.ofNat (65 + d) := by decide
        exact this _ (by omega)
      rw [key]
      have hnn : n ≠ 0 := by omega
      repeat' walk_at "st"
      rw [← List.map_append]
      refine ⟨i, Nat.le_refl _, n / 16, n % 16 :: v, _, rfl, by walk_at "only", ?_, ?_, ?_⟩
      · rw [Nat.pow_succ] at hn; omega
      · rw [hd, digs_eq, dif_neg hnn]; simp
      · simp only [List.length_cons]; omega
  · rename_i hc
    obtain rfl : n = 0 := by omega
    rw [hd] at h
    rw [digs_eq, dif_pos rfl, List.nil_append] at h; exact h
end L3
noncomputable def subN (x y : Nat) : Nat := if x = y then 0 else if low x = low y then 1 else 2
theorem take_rev (l : List Nat) (k : Nat) : (l.reverse.drop k).reverse = l.take (l.length - k) := by
  rw [List.drop_reverse, List.reverse_reverse]
theorem getD_rev {l : List Nat} {j : Nat} (h : j < l.length) : l.reverse.getD j 0 = l.getD (l.length - 1 - j) 0 := by
  rw [List.getD_eq_getElem?_getD, List.getD_eq_getElem?_getD, List.getElem?_reverse h]
namespace L3
theorem w_subst' {m : Nat} {a b : Nat} {Q : V → Prop} (h : Q (.int (subN a b : Nat))) : WF (CC D3 fs3 (m + 1)) "_substitution_cost" [.str [a], .str [b]] Q := by
  refine w_subst ?_
  have e : (if a = b then (0 : Int) else if low a = low b then 1 else 2) = (subN a b : Nat) := by
    unfold subN; split
    · rfl
    · split <;> rfl
  rw [e]; exact h
local macro_rules | `(tactic| walk_at "st") => `(tactic| (with_reducible refine w_subst' ?_))
theorem w_lev_rows {m : Nat} {a3 b3 : List Nat} {mc : Nat} {Q : V → Prop} {pre j : Nat} (q1 : 0 < a3.length) (q2 : a3.length ≤ 40) (q3 : b3.length ≤ 40) (q4 : a3.length ≤ b3.length) (h : Q (.int (sortedN subN mc a3 b3 : Nat))) :
    WXs (CC D3 fs3 (m + 1)) (fun x => List.lookup x (fnT st12).scope.names) 188 [("a", ⟨.str a3, false⟩), ("b", ⟨.str b3, false⟩), ("max_cost", ⟨.int mc, false⟩), ("pre", ⟨.int pre, false⟩), ("post", ⟨.int (-(j : Int)), false⟩)] ((fnT st12).body.drop 12) (Post Q) := by
  refine WXs_cons ?_
  unfold sortedN at h
  walk_at "st"
  repeat' ((fail_if_success (with_reducible show WX _ _ _ _ (.Assign _ _ _) _)); walk_at "st")
  · rename_i c1
    rw [if_pos (by omega)] at h; exact h
  rename_i c1
  rw [if_neg (by omega)] at h
  clear c1
  refine WX_newC rfl (by walk_at "cl") ?_ rfl rfl rfl
  refine WE_listRange ?_ rfl rfl rfl rfl
  refine WI_range ?_ rfl rfl rfl
  repeat' walk_at "st"
  refine rng3 (m := a3.length) (by decide) (by unfold lenLid; omega) (by omega) ?_
  have er : (List.range a3.length).map (fun (i : Nat) => V.int (2 + i * 2)) = ((List.range a3.length).map fun i => 2 + i * 2).map fun (x : Nat) => V.int x := by
    rw [List.map_map]; rfl
  rw [er]
  have lr : ((List.range a3.length).map fun i => 2 + i * 2).length = a3.length := by simp
  generalize (List.range a3.length).map (fun i => 2 + i * 2) = row0 at *
  clear er
  repeat' walk_at "st"
  refine WX_forC (fun i l => ∃ (row : List Nat) (result : Nat) (jj : Ls), l = (("a", ⟨.str a3, false⟩) :: ("b", ⟨.str b3, false⟩) :: ("max_cost", ⟨.int mc, false⟩) :: ("pre", ⟨.int pre, false⟩) :: ("post", ⟨.int (-(j : Int)), false⟩) :: ("row", ⟨.list (row.map fun (x : Nat) => V.int x), true⟩) :: ("result", ⟨.int result, false⟩) :: jj : List (Str × Loc)) ∧
    Only ["bindex", "bchar", "distance", "minimum", "index", "substitute", "insert_delete"] jj ∧ row.length = a3.length ∧ outerN subN mc a3 b3 0 row0 0 = outerN subN mc a3 (b3.drop i) i row result) (by walk_at "cl") ?_ rfl
  refine WI_range ?_ rfl (by walk_at "at") rfl
  repeat' walk_at "st"
  refine rng1 rfl (by unfold lenLid; omega) ?_
  refine ⟨⟨row0, 0, [], rfl, only_nil, lr, by rw [List.drop_zero]⟩, ?_, ?_⟩
  · rintro i v l hv ⟨row, result, jj, rfl, hj, hr, ho⟩
    obtain ⟨hi, rfl⟩ := range_item hv
    clear hv
    refine ⟨rfl, ?_⟩
    repeat' walk_at "st"
    refine WX_forC (fun t l => ∃ (cur : List Nat) (d r mn : Nat) (jj : Ls), l = (("a", ⟨.str a3, false⟩) :: ("b", ⟨.str b3, false⟩) :: ("max_cost", ⟨.int mc, false⟩) :: ("pre", ⟨.int pre, false⟩) :: ("post", ⟨.int (-(j : Int)), false⟩) :: ("row", ⟨.list (cur.map fun (x : Nat) => V.int x), true⟩) :: ("result", ⟨.int r, false⟩) :: jj : List (Str × Loc)) ∧
      Only ["bindex", "bchar", "distance", "minimum", "index", "substitute", "insert_delete"] jj ∧ jj.at "distance" = some (.int d) ∧ jj.at "minimum" = some (.int mn) ∧ jj.at "bchar" = some (.str [b3.getD i 0]) ∧ cur.length = a3.length ∧
      innerN subN (b3.getD i 0) a3 row (2 * i) (2 * i) 9223372036854775807 = (cur.take t ++ (innerN subN (b3.getD i 0) (a3.drop t) (cur.drop t) d r mn).1, (innerN subN (b3.getD i 0) (a3.drop t) (cur.drop t) d r mn).2)) (by walk_at "cl") ?_ rfl
    refine WI_range ?_ rfl (by walk_at "at") rfl
    repeat' walk_at "st"
    refine rng1 rfl (by unfold lenLid; omega) ?_
    refine ⟨⟨row, i * 2, i * 2, 9223372036854775807, _, rfl, by walk_at "only", by walk_at "atv", by walk_at "atv", by walk_at "atv", hr, ?_⟩, ?_, ?_⟩
    · rw [Nat.mul_comm 2 i]; simp
    · clear hj h
      rintro t v l hv ⟨cur, d, r, mn, j2, rfl, hj, g1, g2, g3, hc, hin⟩
      obtain ⟨ht, rfl⟩ := range_item hv
      clear hv
      refine ⟨rfl, ?_⟩
      repeat' walk_at "st"
      have e1 : min (min (r : Int) ((cur.getD t 0 : Nat) : Int) + 2) ((d : Int) + (subN (b3.getD i 0) (a3.getD t 0) : Nat)) = ((min (min r (cur.getD t 0) + 2) (d + subN (b3.getD i 0) (a3.getD t 0)) : Nat) : Int) := by omega
      rw [e1]
      refine ⟨_, rfl, rfl, by omega, by rw [List.length_map]; omega, by rw [List.length_map]; unfold lenLid; omega, ?_⟩
      rw [Int.toNat_natCast, show (V.int ((min (min r (cur.getD t 0) + 2) (d + subN (b3.getD i 0) (a3.getD t 0)) : Nat) : Int)) = (fun (x : Nat) => V.int x) (min (min r (cur.getD t 0) + 2) (d + subN (b3.getD i 0) (a3.getD t 0))) from rfl, ← List.map_set]
      rw [innerN_step subN _ (by omega) (by omega)] at hin
      generalize min (min r (cur.getD t 0) + 2) (d + subN (b3.getD i 0) (a3.getD t 0)) = res at *
      have fin : ∀ mn', mn' = (if res < mn then res else mn) → innerN subN (b3.getD i 0) a3 row (2 * i) (2 * i) 9223372036854775807 = ((cur.set t res).take (t + 1) ++ (innerN subN (b3.getD i 0) (a3.drop (t + 1)) ((cur.set t res).drop (t + 1)) (cur.getD t 0) res mn').1, (innerN subN (b3.getD i 0) (a3.drop (t + 1)) ((cur.set t res).drop (t + 1)) (cur.getD t 0) res mn').2) := by
        rintro mn' rfl
        rw [hin, List.drop_set_of_lt (by omega), List.take_succ]
        simp only [List.take_set_of_le (Nat.le_refl t)]
        simp [show t < cur.length by omega]
      dsimp only
      clear e1 hin
      repeat' walk_at "st"
      · rename_i hc1
        refine ⟨cur.set t res, cur.getD t 0, res, res, _, rfl, by walk_at "only", by walk_at "atv", by walk_at "atv", by walk_at "atv", by rw [List.length_set]; exact hc, fin _ (by rw [if_pos (by omega)])⟩
      · rename_i hc1
        refine ⟨cur.set t res, cur.getD t 0, res, mn, _, rfl, by walk_at "only", by walk_at "atv", by walk_at "atv", by walk_at "atv", by rw [List.length_set]; exact hc, fin _ (by rw [if_neg (by omega)])⟩
    · rintro l ⟨cur, d, r, mn, j2, rfl, hj, g1, g2, g3, hc, hin⟩
      rw [List.length_map, List.length_range, List.take_of_length_le (by omega), List.drop_eq_nil_of_le (Nat.le_refl _)] at hin
      simp only [innerN, List.append_nil] at hin
      rw [List.drop_eq_getElem_cons hi] at ho
      simp only [outerN] at ho
      have eg : b3[i] = b3.getD i 0 := by rw [List.getD_eq_getElem?_getD, List.getElem?_eq_getElem hi]; rfl
      rw [eg, hin] at ho
      dsimp only at ho
      repeat' walk_at "st"
      · rename_i hc1
        rw [ho, if_pos (by omega)] at h
        exact h
      · rename_i hc1
        rw [if_neg (by omega)] at ho
        exact ⟨cur, r, _, rfl, by walk_at "only", hc, ho⟩
  · rintro l ⟨row, result, jj, rfl, hj, hr, ho⟩
    rw [List.length_map, List.length_range, List.drop_length] at ho
    rw [ho] at h
    repeat' walk_at "st"
    exact h
end L3
namespace L3
local macro_rules | `(tactic| walk_at "st") => `(tactic| (with_reducible refine w_subst' ?_))
theorem lt40 {n : Nat} (h : (40 : Int) < n) : 40 < n := by omega
theorem nlt40 {n : Nat} (h : ¬ (40 : Int) < n) : ¬ 40 < n := by omega
theorem toN {j n : Nat} : (-(j : Int) - 1 + n).toNat = n - 1 - j := by omega
theorem w_lev {m : Nat} {a b : List Nat} {mc : Nat} {Q : V → Prop} (ha : a.length ≤ 1000) (hb : b.length ≤ 1000) (h : Q (.int (levN subN a b mc : Nat))) : WF (CC D3 fs3 (m + 2)) "_levenshtein_distance" [.str a, .str b, .int mc] Q := by
  refine WF_of (fnT st12) [("a", ⟨.str a, false⟩), ("b", ⟨.str b, false⟩), ("max_cost", ⟨.int mc, false⟩)] (by rfl) (by rfl) (by rfl) ?_
  refine WXs_cons ?_
  repeat' walk_at "st"
  · rename_i hc
    rw [levN, if_pos hc] at h; exact h
  rename_i hc
  rw [levN, if_neg hc] at h
  clear hc
  refine WX_whileR (fun i l => ∃ (pre : Nat), l = ([("a", ⟨.str a, false⟩), ("b", ⟨.str b, false⟩), ("max_cost", ⟨.int mc, false⟩), ("pre", ⟨.int pre, false⟩)] : List (Str × Loc)) ∧ stripP a b = stripP (a.drop pre) (b.drop pre) ∧ pre ≤ a.length ∧ pre ≤ b.length ∧ i = a.length - pre)
    (fun l => ∃ (pre : Nat), l = ([("a", ⟨.str a, false⟩), ("b", ⟨.str b, false⟩), ("max_cost", ⟨.int mc, false⟩), ("pre", ⟨.int pre, false⟩)] : List (Str × Loc)) ∧ stripP a b = (a.drop pre, b.drop pre)) (a.length) (by omega) ⟨0, rfl, rfl, by omega, by omega, rfl⟩ ?_ ?_
  · rintro i l ⟨pre, rfl, hs, h1, h2, rfl⟩
    repeat' walk_at "st"
    · rename_i c1 c2 c3
      simp only [List.length_drop] at c1 c2 c3
      refine ⟨a.length - pre - 1, by omega, ?_⟩
      repeat' walk_at "st"
      refine ⟨a.length - (pre + 1), by omega, pre + 1, rfl, ?_, by omega, by omega, rfl⟩
      rw [hs, stripP_step (by omega) (by omega), if_pos (by simpa using c3)]
    · rename_i c1 c2 c3
      simp only [List.length_drop] at c1 c2 c3
      exact ⟨pre, rfl, by rw [hs, stripP_step (by omega) (by omega), if_neg (by simpa using c3)]⟩
    · rename_i c1 c2
      simp only [List.length_drop] at c1 c2
      exact ⟨pre, rfl, by rw [hs, stripP_nil (by omega)]⟩
    · rename_i c1
      simp only [List.length_drop] at c1
      exact ⟨pre, rfl, by rw [hs, stripP_nil (by omega)]⟩
  rintro l ⟨pre, rfl, hs⟩
  unfold cutN at h
  rw [hs] at h
  dsimp only at h
  have ha1 : (a.drop pre).length ≤ 1000 := by rw [List.length_drop]; omega
  have hb1 : (b.drop pre).length ≤ 1000 := by rw [List.length_drop]; omega
  repeat' walk_at "st"
  clear hs
  generalize a.drop pre = a1 at *
  generalize b.drop pre = b1 at *
  refine WX_whileR (fun i l => ∃ (j : Nat), l = ([("a", ⟨.str a1, false⟩), ("b", ⟨.str b1, false⟩), ("max_cost", ⟨.int mc, false⟩), ("pre", ⟨.int pre, false⟩), ("post", ⟨.int (-(j : Int)), false⟩)] : List (Str × Loc)) ∧ stripP a1.reverse b1.reverse = stripP (a1.reverse.drop j) (b1.reverse.drop j) ∧ j ≤ a1.length ∧ j ≤ b1.length ∧ i = a1.length - j)
    (fun l => ∃ (j : Nat), l = ([("a", ⟨.str a1, false⟩), ("b", ⟨.str b1, false⟩), ("max_cost", ⟨.int mc, false⟩), ("pre", ⟨.int pre, false⟩), ("post", ⟨.int (-(j : Int)), false⟩)] : List (Str × Loc)) ∧ stripP a1.reverse b1.reverse = (a1.reverse.drop j, b1.reverse.drop j) ∧ j ≤ a1.length ∧ j ≤ b1.length) (a1.length) (by omega) ⟨0, rfl, rfl, by omega, by omega, rfl⟩ ?_ ?_
  · rintro i l ⟨j, rfl, hs, h1, h2, rfl⟩
    repeat' walk_at "st"
    · rename_i c1 c2 c3
      simp only [List.length_take] at c1 c2
      rw [toN, toN] at c3
      refine ⟨a1.length - j - 1, by omega, ?_⟩
      repeat' walk_at "st"
      have e3 : -(j : Int) - 1 = -((j + 1 : Nat) : Int) := by omega
      rw [e3]
      refine ⟨a1.length - (j + 1), by omega, j + 1, rfl, ?_, by omega, by omega, rfl⟩
      rw [hs, stripP_step (by rw [List.length_reverse]; omega) (by rw [List.length_reverse]; omega), if_pos (by rw [getD_rev (by omega), getD_rev (by omega)]; simpa using c3)]
    · rename_i c1 c2 c3
      simp only [List.length_take] at c1 c2
      rw [toN, toN] at c3
      refine ⟨j, rfl, ?_, h1, h2⟩
      rw [hs, stripP_step (by rw [List.length_reverse]; omega) (by rw [List.length_reverse]; omega), if_neg (by rw [getD_rev (by omega), getD_rev (by omega)]; simpa using c3)]
    · rename_i c1 c2
      simp only [List.length_take] at c1 c2
      exact ⟨j, rfl, by rw [hs, stripP_nil (by simp only [List.length_reverse]; omega)], h1, h2⟩
    · rename_i c1
      simp only [List.length_take] at c1
      exact ⟨j, rfl, by rw [hs, stripP_nil (by simp only [List.length_reverse]; omega)], h1, h2⟩
  rintro l ⟨j, rfl, hs, h1, h2⟩
  rw [hs] at h
  dsimp only at h
  rw [take_rev, take_rev] at h
  have ha2 : (a1.take (a1.length - j)).length ≤ 1000 := by rw [List.length_take]; omega
  have hb2 : (b1.take (b1.length - j)).length ≤ 1000 := by rw [List.length_take]; omega
  repeat' ((fail_if_success (with_reducible show WX _ _ _ _ (.If _ _ _ _) _)); walk_at "st")
  clear hs h1 h2 ha1 hb1
  generalize a1.take (a1.length - j) = a2 at *
  generalize b1.take (b1.length - j) = b2 at *
  clear ha hb
  walk_at "st"
  repeat' ((fail_if_success (with_reducible show WX _ _ _ _ (.If _ _ _ _) _)); walk_at "st")
  rotate_left
  · rename_i n1 n2
    rw [coreN, if_pos (.inr (Nat.eq_zero_of_not_pos n2))] at h; exact h
  · rename_i n1
    rw [coreN, if_pos (.inl (Nat.eq_zero_of_not_pos n1))] at h; exact h
  rename_i n1 n2
  rw [coreN, if_neg (fun q => q.elim (Nat.ne_of_gt n1) (Nat.ne_of_gt n2))] at h
  walk_at "st"
  repeat' ((fail_if_success (with_reducible show WX _ _ _ _ (.If _ _ _ _) _)); walk_at "st")
  rotate_left
  · rename_i n3 n4
    rw [if_pos (.inr (lt40 n4))] at h; exact h
  · rename_i n3
    rw [if_pos (.inl (lt40 n3))] at h; exact h
  rename_i n3 n4
  have m3 := nlt40 n3
  have m4 := nlt40 n4
  clear n3 n4
  rw [if_neg (fun q => q.elim m3 m4)] at h
  refine WX_ifR (fun l => ∃ a3 b3 : List Nat, l = ([("a", ⟨.str a3, false⟩), ("b", ⟨.str b3, false⟩), ("max_cost", ⟨.int mc, false⟩), ("pre", ⟨.int pre, false⟩), ("post", ⟨.int (-(j : Int)), false⟩)] : List (Str × Loc)) ∧ 0 < a3.length ∧ a3.length ≤ 40 ∧ b3.length ≤ 40 ∧ a3.length ≤ b3.length ∧ Q (.int (sortedN subN mc a3 b3 : Nat))) ?_ ?_
  · repeat' walk_at "st"
    · rename_i c1
      have c1 := Int.ofNat_lt.mp c1
      rw [if_pos c1] at h
      exact ⟨b2, a2, rfl, n2, Nat.le_of_not_lt m4, Nat.le_of_not_lt m3, Nat.le_of_lt c1, h⟩
    · rename_i c1
      have c1 : ¬ b2.length < a2.length := fun q => c1 (Int.ofNat_lt.mpr q)
      rw [if_neg c1] at h
      exact ⟨a2, b2, rfl, n1, Nat.le_of_not_lt m3, Nat.le_of_not_lt m4, Nat.le_of_not_lt c1, h⟩
  rintro l ⟨a3, b3, rfl, q1, q2, q3, q4, h⟩
  exact w_lev_rows q1 q2 q3 q4 h
end L3
/-- a list of numbers as a value -/
noncomputable abbrev vnats (xs : List Nat) : V := .list (xs.map fun (x : Nat) => V.int x)
namespace L3
theorem w_pascal {m n : Nat} {Q : V → Prop} (hn : n ≤ 1000) (h : Q (vnats (pascal n))) : WF (CC D3 fs3 (m + 1)) "_law_pascal" [.int n] Q := by
  have hlid : lenLid = 100000 := rfl
  refine WF_of (fnT st14) [("size", ⟨.int n, false⟩)] (by rfl) (by rfl) (by rfl) ?_
  refine WXs_cons ?_
  refine WX_clean rfl rfl ?_ rfl
  repeat' walk_at "st"
  refine WX_whileR (fun i l => ∃ t, l = ([("size", ⟨.int n, false⟩), ("row", ⟨vnats (pascal t), false⟩)] : List (Str × Loc)) ∧ t + i = n) (fun l => l = ([("size", ⟨.int n, false⟩), ("row", ⟨vnats (pascal n), false⟩)] : List (Str × Loc))) n (by omega) ⟨0, rfl, by omega⟩ ?_ ?_
  · rintro i l ⟨t, rfl, hi⟩
    have hp := pascal_length t
    repeat' walk_at "st"
    · rename_i c1
      rw [hp] at c1
      refine ⟨i - 1, by omega, ?_⟩
      refine WXs_cons ?_
      refine WX_clean rfl rfl ?_ rfl
      repeat' walk_at "st"
      refine' WE_compR t (fun k => .int (((pascal t).getD k 0 + (pascal t).getD (k + 1) 0 : Nat) : Int)) ?k1 ?k2 rfl ?k4 rfl rfl rfl rfl ?k9 ?he ?hE ?hQ
      walk_at "cps"
      case he =>
        repeat' walk_at "st"
        rw [hp]; congr 1; omega
      case hE =>
        intro k hk
        repeat' walk_at "st"
        rfl
      case hQ =>
        have e1 : (List.range t).map (fun k => V.int (((pascal t).getD k 0 + (pascal t).getD (k + 1) 0 : Nat) : Int)) = ((List.range ((pascal t).length - 1)).map fun k => (pascal t).getD k 0 + (pascal t).getD (k + 1) 0).map fun (x : Nat) => V.int x := by
          rw [List.map_map, hp]; rfl
        rw [e1]
        refine b_catM (f := fun (x : Nat) => V.int x) (a := [1]) (by simp [hlid]; omega) ?_
        repeat' walk_at "st"
        refine b_catM (f := fun (x : Nat) => V.int x) (b := [1]) (by simp [hlid]; omega) ?_
        refine then_put (by walk_at "pt") ?_
        repeat' walk_at "st"
        exact ⟨i - 1, Nat.le_refl _, t + 1, rfl, by omega⟩
    · rename_i c1
      rw [hp] at c1
      obtain rfl : t = n := by omega
      rfl
  · rintro l rfl
    repeat' walk_at "st"
    exact h
theorem w_ones {m x : Nat} {Q : V → Prop} (hx : x < 1000) (h : Q (.int (onesN x : Nat))) : WF (CC D3 fs3 (m + 1)) "_law_ones" [.int x] Q := by
  have hlid : lenLid = 100000 := rfl
  refine WF_of (fnT st15) [("number", ⟨.int x, false⟩)] (by rfl) (by rfl) (by rfl) ?_
  refine WXs_cons ?_
  repeat' walk_at "st"
  refine' WE_compRIf 4 (fun k => .int k) (fun k => x / 2 ^ k % 2 == 1) ?k1 ?k2 rfl ?k4 rfl rfl rfl rfl ?k9 ?he ?hT ?hE ?hQ
  walk_at "cps"
  case he =>
    repeat' walk_at "st"
    rfl
  case hT =>
    intro k hk
    have h2 : 0 < 2 ^ k ∧ 2 ^ k < 1000 := ⟨Nat.pow_pos (by omega), Nat.lt_of_le_of_lt (Nat.pow_le_pow_right (by omega) (by omega : k ≤ 4)) (by decide)⟩
    repeat' walk_at "st"
    exact dec_nat (x / 2 ^ k % 2) 1
  case hE =>
    intro k hk _
    repeat' walk_at "st"
  case hQ =>
    have hl : ((List.range 4).filter fun k => x / 2 ^ k % 2 == 1).length ≤ 4 := List.length_filter_le _ _
    repeat' walk_at "st"
    exact h
theorem repStr_one' (c : Nat) : ∀ n, repStr [c] n = List.replicate n c
  | 0 => rfl
  | n + 1 => by rw [repStr, repStr_one' c n, List.replicate_succ]; rfl
local macro_rules | `(tactic| walk_at "st") => `(tactic| ((with_reducible refine w_ap ?h1 ?_); (case h1 => walk_at "sd")))
theorem w_word {m s : Nat} {z : Int} {Q : V → Prop} (hs : s ≤ 100) (hz : z.natAbs < 16 ^ s) (h : Q (.str ((padS s z.natAbs).map fun d => 65 + d))) : WF (CC D3 fs3 (m + 2)) "_law_word" [.int z, .int s] Q := by
  have hlid : lenLid = 100000 := rfl
  have hz2 : z.natAbs < 16 ^ 1000 := Nat.lt_of_lt_of_le hz (Nat.pow_le_pow_right (by omega) (by omega))
  have hd := digs_lt z.natAbs
  have hh := digs_head z.natAbs
  have hn := digs_length s z.natAbs hz
  refine WF_of (fnT st16) [("number", ⟨.int z, false⟩), ("size", ⟨.int s, false⟩)] (by rfl) (by rfl) (by rfl) ?_
  refine WXs_cons ?_
  repeat' walk_at "st"
  rw [← pad_digs s _ hz, List.map_append, List.map_replicate] at h
  generalize digs z.natAbs = ds at *
  clear hz hz2
  have e1 : (ds.map fun d => UInt8.ofNat (65 + d)).map (·.toNat) = ds.map fun d => 65 + d := by
    rw [List.map_map]
    apply List.map_congr_left
    intro d hdd
    have := hd d hdd
    show (UInt8.ofNat (65 + d)).toNat = 65 + d
    rw [UInt8.toNat_ofNat']; omega
  refine m_decode (by decide +kernel) ?_ (by rw [List.length_map]; omega) ?_
  · intro c hc
    obtain ⟨d, hdd, rfl⟩ := List.mem_map.mp hc
    have := hd d hdd
    rw [UInt8.toNat_ofNat']; omega
  rw [e1]
  have hl : (ds.map fun d => 65 + d).length = ds.length := List.length_map ..
  repeat' walk_at "st"
  · rename_i hc
    exfalso
    have hA : (Str.ofString "A").cps.toList = [65] := by decide +kernel
    rw [hA] at hc
    cases ds with
    | nil => simp at hc
    | cons d r =>
      have : d = 0 := by simpa using hc
      exact hh d (by simp) this
  · have hA : (Str.ofString "A").cps.toList = [65] := by decide +kernel
    rw [hA, hl]
    repeat' walk_at "st"
    refine b_cat (by rw [repStr_one', List.length_replicate, hl]; omega) ?_
    repeat' walk_at "st"
    rw [repStr_one', show ((s : Int) - (ds.length : Int)).toNat = s - ds.length by omega]
    exact h
end L3
namespace L3
theorem b3_great : ((List.range 16).all fun i => mapB3 b3E (65 + i) == [97 + i]) = true := by decide +kernel
theorem b3_small : ((List.range 16).all fun i => mapB3 b3E (97 + i) == [97 + i]) = true := by decide +kernel
theorem b1_none : ((List.range 16).all fun i => !(b1E.any fun e => Value.isInt ((65 + i : Nat) : Int) e.2) && !(b1E.any fun e => Value.isInt ((97 + i : Nat) : Int) e.2)) = true := by decide +kernel
theorem b1_rider : (([173, 8203, 65039, 847] : List Nat).all fun i => b1E.any fun e => Value.isInt (i : Int) e.2) = true := by decide +kernel
theorem low_great : ((List.range 16).all fun i => low (65 + i) == [97 + i] && low (97 + i) == [97 + i]) = true := by decide +kernel
theorem low_rider : ([173, 8203, 65039, 847].all fun i => low i == [i]) = true := by decide +kernel
end L3
/-- the sign that a canonical sign stands for -/
noncomputable def sg (f : Nat → Nat) (rid : Nat) (c : Nat) : Nat := if c = 1000 then rid else if c % 2 = 0 then 65 + f (c / 2) else 97 + f (c / 2)
noncomputable def inS (c : Nat) : Prop := c = 1000 ∨ c < 32
noncomputable def ridersL : List Nat := [173, 8203, 65039, 847]
theorem all16 {p : Nat → Bool} (h : ((List.range 16).all p) = true) {i : Nat} (hi : i < 16) : p i = true := List.all_eq_true.mp h i (List.mem_range.mpr hi)
theorem sg_great {f : Nat → Nat} {rid k : Nat} (hk : k < 16) : sg f rid (2 * k) = 65 + f k := by
  unfold sg; rw [if_neg (by omega), if_pos (by omega), show 2 * k / 2 = k by omega]
theorem sg_small {f : Nat → Nat} {rid k : Nat} (hk : k < 16) : sg f rid (2 * k + 1) = 97 + f k := by
  unfold sg; rw [if_neg (by omega), if_neg (by omega), show (2 * k + 1) / 2 = k by omega]
theorem sg_rid {f : Nat → Nat} {rid : Nat} : sg f rid 1000 = rid := if_pos rfl
theorem inS_form {c : Nat} (h : inS c) : c = 1000 ∨ ∃ k < 16, c = 2 * k ∨ c = 2 * k + 1 := by
  rcases h with h | h
  · exact .inl h
  · exact .inr ⟨c / 2, by omega, by omega⟩
namespace L3
theorem low_g {i : Nat} (hi : i < 16) : low (65 + i) = [97 + i] := by
  have := all16 low_great hi
  simp only [Bool.and_eq_true] at this
  exact eq_of_beq this.1
theorem low_s {i : Nat} (hi : i < 16) : low (97 + i) = [97 + i] := by
  have := all16 low_great hi
  simp only [Bool.and_eq_true] at this
  exact eq_of_beq this.2
theorem low_r {r : Nat} (hr : r ∈ ridersL) : low r = [r] := eq_of_beq (List.all_eq_true.mp low_rider r hr)
theorem rid_big {r : Nat} (hr : r ∈ ridersL) : 112 < r := by
  simp only [ridersL, List.mem_cons, List.not_mem_nil, or_false] at hr; omega
section
variable {f : Nat → Nat} {rid : Nat} (hf : ∀ k, f k < 16) (hi : ∀ j k, j < 16 → k < 16 → f j = f k → j = k) (hr : rid ∈ ridersL)
include hf hi hr
theorem sg_inj : ∀ x y, inS x → inS y → (sg f rid x = sg f rid y ↔ x = y) := by
  intro x y hx hy
  refine ⟨fun h => ?_, fun h => by rw [h]⟩
  have hb := rid_big hr
  rcases inS_form hx with rfl | ⟨j, hj, rfl | rfl⟩ <;> rcases inS_form hy with rfl | ⟨k, hk, rfl | rfl⟩ <;> (try rw [sg_great hj] at h) <;> (try rw [sg_small hj] at h) <;> (try rw [sg_great hk] at h) <;> (try rw [sg_small hk] at h) <;> (try rw [sg_rid] at h)
  all_goals first
    | rfl
    | (have := hf j; have := hf k; omega)
    | (have := hf j; omega)
    | (have := hf k; omega)
    | (have := hi j k hj hk (by omega); omega)
theorem sg_low : ∀ x y, inS x → inS y → (low (sg f rid x) = low (sg f rid y) ↔ x / 2 = y / 2) := by
  intro x y hx hy
  have hb := rid_big hr
  have key : ∀ c, inS c → low (sg f rid c) = [if c = 1000 then rid else 97 + f (c / 2)] := by
    intro c hc
    rcases inS_form hc with rfl | ⟨k, hk, rfl | rfl⟩
    · rw [sg_rid, low_r hr, if_pos rfl]
    · rw [sg_great hk, low_g (hf k), if_neg (by omega), show 2 * k / 2 = k by omega]
    · rw [sg_small hk, low_s (hf k), if_neg (by omega), show (2 * k + 1) / 2 = k by omega]
  rw [key x hx, key y hy]
  have hfx := hf (x / 2)
  have hfy := hf (y / 2)
  constructor
  · intro h
    have h : (if x = 1000 then rid else 97 + f (x / 2)) = (if y = 1000 then rid else 97 + f (y / 2)) := by simpa using h
    by_cases h1 : x = 1000 <;> by_cases h2 : y = 1000
    · rw [h1, h2]
    · rw [if_pos h1, if_neg h2] at h; omega
    · rw [if_neg h1, if_pos h2] at h; omega
    · rw [if_neg h1, if_neg h2] at h
      exact hi _ _ (by unfold inS at hx; omega) (by unfold inS at hy; omega) (by omega)
  · intro h
    by_cases h1 : x = 1000 <;> by_cases h2 : y = 1000
    · rw [h1, h2]
    · unfold inS at hy; omega
    · unfold inS at hx; omega
    · rw [if_neg h1, if_neg h2, h]
theorem sg_sub : ∀ x y, inS x → inS y → subN (sg f rid x) (sg f rid y) = costQ x y := by
  intro x y hx hy
  rw [costQ_eq]
  unfold subN
  have h1 := sg_inj hf hi hr x y hx hy
  have h2 := sg_low hf hi hr x y hx hy
  by_cases e : x = y
  · rw [if_pos e, if_pos (h1.mpr e)]
  · rw [if_neg e, if_neg (fun q => e (h1.mp q))]
    by_cases e2 : x / 2 = y / 2
    · rw [if_pos e2, if_pos (h2.mpr e2)]
    · rw [if_neg e2, if_neg (fun q => e2 (h2.mp q))]
theorem lev_sg {a b : List Nat} {due mc : Nat} (ha : ∀ x ∈ a, inS x) (hb : ∀ x ∈ b, inS x) (h : levQ a b due = true) (hm : due ≤ mc + 1) : levN subN (a.map (sg f rid)) (b.map (sg f rid)) mc = due := by
  rw [lev_map (S := inS) (σ := sg f rid) (sub' := costQ) (sg_inj hf hi hr) (sg_sub hf hi hr) ha hb]
  exact lev_Q hm h
omit hf hi hr in
theorem mark_in {m : Nat} (hm : m < 16) (row : List Nat) : ∀ x ∈ markC m row, inS x := by
  intro x hx
  unfold markC at hx
  obtain ⟨k, hk, rfl⟩ := List.mem_map.mp hx
  have := List.mem_range.mp hk
  right
  split <;> omega
omit hf hi hr in
theorem small_in {m : Nat} (hm : m < 16) : ∀ x ∈ smallC m, inS x := by
  intro x hx
  unfold smallC at hx
  obtain ⟨k, hk, rfl⟩ := List.mem_map.mp hx
  have := List.mem_range.mp hk
  right; omega
omit hi hr in
theorem mark_sg {m : Nat} (hm : m < 16) (row : List Nat) : markP ((List.range (m + 1)).map fun k => 65 + f k) row = (markC m row).map (sg f rid) := by
  unfold markP markC
  rw [List.length_map, List.length_range, List.map_map]
  apply List.map_congr_left
  intro k hk
  have hk := List.mem_range.mp hk
  have e : ((List.range (m + 1)).map fun k => 65 + f k).getD k 0 = 65 + f k := by simp [List.getD_eq_getElem?_getD, hk]
  have hfk := hf k
  show (if row.getD k 0 % 2 = 1 then _ else lw _) = sg f rid (if row.getD k 0 % 2 = 1 then 2 * k else 2 * k + 1)
  rw [e]
  split
  · rw [sg_great (by omega)]
  · rw [sg_small (by omega)]
    unfold lw
    rw [if_pos (by omega)]; omega
omit hf hi hr in
theorem small_sg {m : Nat} (hm : m < 16) : ((List.range (m + 1)).map fun k => 97 + f k) = (smallC m).map (sg f rid) := by
  unfold smallC
  rw [List.map_map]
  apply List.map_congr_left
  intro k hk
  have hk := List.mem_range.mp hk
  show 97 + f k = sg f rid (2 * k + 1)
  rw [sg_small (by omega)]
omit hf hi hr in
theorem mark_len (m : Nat) (row : List Nat) : (markC m row).length = m + 1 := by simp [markC]
theorem lev1 {m p r mc : Nat} (h1 : 1 ≤ m) (hm : m < 16) (hp : p ≤ m + 1) (hr2 : r ≤ 2) (hmc : 2 * r + 2 ^ onesN m ≤ mc + 1) :
    levN subN ((((belowC m).map (sg f rid)).take p ++ List.replicate r rid) ++ ((belowC m).map (sg f rid)).drop p) ((smallC m).map (sg f rid)) mc = 2 * r + 2 ^ onesN m := by
  have e : ((((belowC m).map (sg f rid)).take p ++ List.replicate r rid) ++ ((belowC m).map (sg f rid)).drop p) = ((belowC m).take p ++ List.replicate r 1000 ++ (belowC m).drop p).map (sg f rid) := by
    rw [List.map_append, List.map_append, List.map_replicate, sg_rid, List.map_take, List.map_drop]
  rw [e]
  have t := tab1 m h1 hm
  unfold chk1 at t
  rw [Bool.and_eq_true] at t
  have hin : ∀ x ∈ (belowC m).take p ++ List.replicate r 1000 ++ (belowC m).drop p, inS x := by
    intro x hx
    rcases List.mem_append.mp hx with hx | hx
    · rcases List.mem_append.mp hx with hx | hx
      · exact mark_in hm _ x (List.mem_of_mem_take hx)
      · exact .inl (List.eq_of_mem_replicate hx)
    · exact mark_in hm _ x (List.mem_of_mem_drop hx)
  refine lev_sg hf hi hr hin (small_in hm) ?_ hmc
  cases r with
  | zero =>
    simp only [List.replicate_zero, List.append_nil, List.take_append_drop, Nat.mul_zero, Nat.zero_add]
    exact t.1
  | succ r =>
    have hl : (belowC m).length = m + 1 := mark_len ..
    exact List.all_eq_true.mp (List.all_eq_true.mp t.2 p (List.mem_range.mpr (by omega))) r (List.mem_range.mpr (by omega))
theorem lev2 {n m mc : Nat} (hp : (n, m) ∈ pairs3) (hmc : 2 ^ onesN n ≤ mc + 1) :
    levN subN ((aboveC n m).map (sg f rid)) ((belowC m).map (sg f rid)) mc = 2 ^ onesN n ∧ levN subN ((belowC m).map (sg f rid)) ((aboveC n m).map (sg f rid)) mc = 2 ^ onesN n ∧
    levN subN (((aboveC n m).map (sg f rid)).take (n + 1)) (((smallC m).map (sg f rid)).take (n + 1)) mc = 2 ^ onesN n := by
  obtain ⟨h1, h2, h3, h4⟩ := pair_le n m hp
  have t := tab2 n m hp
  unfold chk2 at t
  rw [Bool.and_eq_true, Bool.and_eq_true] at t
  refine ⟨lev_sg hf hi hr (mark_in h3 _) (mark_in h3 _) t.1.1 hmc, lev_sg hf hi hr (mark_in h3 _) (mark_in h3 _) t.1.2 hmc, ?_⟩
  rw [← List.map_take, ← List.map_take]
  exact lev_sg hf hi hr (fun x hx => mark_in h3 _ x (List.mem_of_mem_take hx)) (fun x hx => small_in h3 x (List.mem_of_mem_take hx)) t.2 hmc
end
end L3
namespace L3
local macro_rules | `(tactic| walk_at "st") => `(tactic| (with_reducible refine w_b3 ?_))
theorem mapB3_lw {c : Nat} (h : (65 ≤ c ∧ c < 81) ∨ (97 ≤ c ∧ c < 113)) : mapB3 b3E c = [lw c] := by
  unfold lw
  rcases h with h | h
  · have := all16 b3_great (i := c - 65) (by omega)
    rw [show 65 + (c - 65) = c by omega] at this
    rw [eq_of_beq this, if_pos (by omega)]
    congr 1; omega
  · have := all16 b3_small (i := c - 97) (by omega)
    rw [show 97 + (c - 97) = c by omega] at this
    rw [eq_of_beq this, if_neg (by omega)]
theorem flat_one {α β : Type} (l : List α) (f : α → β) : (l.map fun a => [f a]).flatten = l.map f := by
  induction l with
  | nil => rfl
  | cons a r ih => simp [ih]
theorem w_marked {m : Nat} {word row : List Nat} {Q : V → Prop} (hl : word.length = row.length) (hw : word.length ≤ 100) (hc : ∀ c ∈ word, (65 ≤ c ∧ c < 81) ∨ (97 ≤ c ∧ c < 113)) (h : Q (.str (markP word row))) : WF (CC D3 fs3 (m + 2)) "_law_marked" [.str word, vnats row] Q := by
  have hlid : lenLid = 100000 := rfl
  refine WF_of (fnT st17) [("word", ⟨.str word, false⟩), ("row", ⟨vnats row, false⟩)] (by rfl) (by rfl) (by rfl) ?_
  refine WXs_cons ?_
  repeat' walk_at "st"
  refine' WE_compR word.length (fun k => .str [if row.getD k 0 % 2 = 1 then word.getD k 0 else lw (word.getD k 0)]) ?k1 ?k2 rfl ?k4 rfl rfl rfl rfl ?k9 ?he ?hE ?hQ
  walk_at "cps"
  case he =>
    repeat' walk_at "st"
    rfl
  case hE =>
    intro k hk
    have hkr : k < row.length := by omega
    have hm : word.getD k 0 ∈ word := by
      rw [List.getD_eq_getElem?_getD, List.getElem?_eq_getElem hk]
      exact List.getElem_mem hk
    repeat' walk_at "st"
    · rename_i hc1
      have hc1 : row.getD k 0 % 2 = 1 := by omega
      rw [if_pos hc1]
    · rename_i hc1
      have hc1 : ¬ row.getD k 0 % 2 = 1 := by omega
      rw [if_neg hc1, mapB3_lw (hc _ hm)]
  case hQ =>
    have e1 : (List.range word.length).map (fun k => V.str [if row.getD k 0 % 2 = 1 then word.getD k 0 else lw (word.getD k 0)]) = ((List.range word.length).map fun k => [if row.getD k 0 % 2 = 1 then word.getD k 0 else lw (word.getD k 0)]).map .str := by
      rw [List.map_map]; rfl
    rw [e1]
    refine WEs_nil ?_
    refine m_join (by decide +kernel) (by rw [flat_one]; simp; omega) ?_
    rw [flat_one]
    repeat' walk_at "st"
    exact h
end L3
namespace L3
local macro_rules | `(tactic| walk_at "st") => `(tactic| ((with_reducible refine w_word ?h1 ?h2 ?_); (case h1 => walk_at "sd"); (case h2 => walk_at "sd")))
noncomputable abbrev kd18 : Kd := fun x => List.lookup x (fnT st18).scope.names
/-- the law's end: the odd numbers as bits -/
theorem law6 {M m : Nat} {Q : V → Prop} {f : Nat → Nat} {v0 v1 v2 v3 v4 v5 v6 v7 v8 v9 v10 v11 v12 v13 v14 v15 v16 : V} (h1 : 1 ≤ m) (hm : m < 16) (hf : ∀ k, f k < 16) (h : Q (.bool true)) :
    WXs (CC D3 fs3 (M + 4)) kd18 176 [("script", ⟨v0, false⟩), ("start", ⟨v1, false⟩), ("draws", ⟨v2, false⟩), ("n", ⟨v3, false⟩), ("m", ⟨.int m, false⟩), ("figures", ⟨v4, false⟩), ("number", ⟨v5, false⟩),
      ("word", ⟨.str ((List.range (m + 1)).map fun k => 65 + f k), false⟩), ("small", ⟨v6, false⟩), ("earlier", ⟨v7, false⟩), ("later", ⟨v8, false⟩), ("above", ⟨v9, false⟩), ("below", ⟨.str (markP ((List.range (m + 1)).map fun k => 65 + f k) (pascal m)), false⟩), ("place", ⟨v10, false⟩), ("riders", ⟨v11, false⟩), ("typed", ⟨v12, false⟩), ("left", ⟨v13, false⟩), ("plain", ⟨v14, false⟩), ("due", ⟨v15, false⟩), ("pair", ⟨v16, false⟩)] ((fnT st18).body.drop 24) (Post Q) := by
  have hlid : lenLid = 100000 := rfl
  obtain ⟨t1, t2⟩ := tab3 m h1 hm
  refine WXs_cons ?_
  repeat' ((fail_if_success (with_reducible show WX _ _ _ _ (.For _ _ _ _ _) _)); walk_at "st")
  refine' WX_forAcc (y := "product") (fun i => .int (prodN m i : Nat)) 4 ?k1 ?k2 ?k3 ?k4 ?k5 ?k6 ?k7
  case k1 => walk_at "cl"
  case k2 => rfl
  case k3 => decide
  case k7 => rfl
  case k4 =>
    refine WI_range ?_ rfl (by walk_at "at") rfl
    repeat' walk_at "st"
    exact rng1 (m := 4) rfl (by decide) rfl
  case k5 =>
    intro i hi
    have h2 : 0 < 2 ^ i ∧ 2 ^ i < 1000 := ⟨Nat.pow_pos (by omega), Nat.lt_of_le_of_lt (Nat.pow_le_pow_right (by omega) (by omega : i ≤ 4)) (by decide)⟩
    repeat' walk_at "st"
    · rename_i c1
      have c1 : m / 2 ^ i % 2 = 1 := by omega
      have e1 : prodN m (i + 1) = prodN m i * [3, 5, 17, 257].getD i 0 := by rw [prodN, if_pos c1]
      have e2 : [3, 5, 17, 257].getD i 0 ≤ 257 := by
        have : ∀ i < 4, [3, 5, 17, 257].getD i 0 ≤ 257 := by decide
        exact this i hi
      refine i_natsN (xs := [3, 5, 17, 257]) (show i < 4 from hi) (by decide) ?_
      generalize [3, 5, 17, 257].getD i 0 = gg at *
      refine ⟨rfl, b_mul (.inr (by omega)) ?_⟩
      repeat' walk_at "st"
      rw [e1, Int.natCast_mul]; rfl
    · rename_i c1
      have c1 : ¬ m / 2 ^ i % 2 = 1 := by omega
      have e1 : prodN m (i + 1) = prodN m i := by rw [prodN, if_neg c1]
      rw [e1]; rfl
  case k6 =>
    have hz : ((prodN m 4 : Nat) : Int).natAbs < 16 ^ 4 := by rw [Int.natAbs_natCast]; exact t2
    repeat' walk_at "st"
    refine w_word (s := 4) (by decide) hz ?_
    rw [Int.natAbs_natCast]
    have hpl : ((padS 4 (prodN m 4)).map fun d => 65 + d).length = 4 := by rw [List.length_map]; rfl
    repeat' walk_at "st"
    refine' WE_compRIf 16 (fun k => .int k) (fun k => (padS 4 (prodN m 4)).getD (3 - k / 4) 0 / 2 ^ (k % 4) % 2 == 1) ?k1 ?k2 rfl ?k4 rfl rfl rfl rfl ?k9 ?he ?hT ?hE ?hQ
    walk_at "cps"
    case he =>
      repeat' walk_at "st"
      rfl
    case hT =>
      intro k hk
      have h2 : 0 < 2 ^ (k % 4) ∧ 2 ^ (k % 4) < 1000 := ⟨Nat.pow_pos (by omega), Nat.lt_of_le_of_lt (Nat.pow_le_pow_right (by omega) (by omega : k % 4 ≤ 4)) (by decide)⟩
      repeat' walk_at "st"
      have e1 : (3 - (k : Int) / 4).toNat = 3 - k / 4 := by omega
      have e2 : ((k : Int) % 4).toNat = k % 4 := by omega
      have e3 : ((padS 4 (prodN m 4)).map fun d => 65 + d).getD (3 - k / 4) 0 = 65 + (padS 4 (prodN m 4)).getD (3 - k / 4) 0 := by
        have hj : 3 - k / 4 < (padS 4 (prodN m 4)).length := by show 3 - k / 4 < 4; omega
        rw [List.getD_eq_getElem?_getD, List.getD_eq_getElem?_getD, List.getElem?_map, List.getElem?_eq_getElem hj]; rfl
      rw [e1, e2, e3]
      generalize (padS 4 (prodN m 4)).getD (3 - k / 4) 0 = dd
      have e4 : (((65 + dd : Nat) : Int) - 65) = (dd : Int) := by omega
      rw [e4]
      repeat' walk_at "st"
      exact dec_nat (dd / 2 ^ (k % 4) % 2) 1
    case hE =>
      intro k hk _
      repeat' walk_at "st"
    case hQ =>
      repeat' walk_at "st"
      refine' WE_compRIf (m + 1) (fun k => .int k) (fun k => (pascal m).getD k 0 % 2 == 1) ?k1 ?k2 rfl ?k4 rfl rfl rfl rfl ?k9 ?he ?hT ?hE ?hQ
      walk_at "cps"
      case he =>
        repeat' walk_at "st"
        rfl
      case hT =>
        intro k hk
        have hwl : ((List.range (m + 1)).map fun k => 65 + f k).length = m + 1 := by simp
        have hbl : (markP ((List.range (m + 1)).map fun k => 65 + f k) (pascal m)).length = m + 1 := by simp [markP]
        have hkm : k < m + 1 := hk
        have ew : ((List.range (m + 1)).map fun k => 65 + f k).getD k 0 = 65 + f k := by simp [List.getD_eq_getElem?_getD, hk]
        have eb : (markP ((List.range (m + 1)).map fun k => 65 + f k) (pascal m)).getD k 0 = if (pascal m).getD k 0 % 2 = 1 then 65 + f k else 97 + f k := by
          unfold markP
          rw [List.getD_eq_getElem?_getD, List.getElem?_map, List.getElem?_range (by rw [hwl]; exact hk)]
          show (if _ then _ else lw _) = _
          rw [ew]
          have := hf k
          unfold lw
          rw [if_pos (by omega : 65 ≤ 65 + f k ∧ 65 + f k ≤ 90)]
          by_cases hc : (pascal m).getD k 0 % 2 = 1
          · rw [if_pos hc, if_pos hc]
          · rw [if_neg hc, if_neg hc]; omega
        repeat' walk_at "st"
        rw [ew, eb, beq_dec, decide_eq_decide]
        by_cases hc : (pascal m).getD k 0 % 2 = 1
        · rw [if_pos hc]; exact ⟨fun _ => hc, fun _ => rfl⟩
        · rw [if_neg hc]
          exact ⟨fun q => by have q : 97 + f k = 65 + f k := by simpa using q
                             omega, fun q => absurd q hc⟩
      case hE =>
        intro k hk _
        repeat' walk_at "st"
      case hQ =>
        repeat' walk_at "st"
        have := t1
        unfold oddC at this
        rw [this, decide_eq_true rfl]
        exact h
end L3
namespace L3
local macro_rules | `(tactic| walk_at "st") => `(tactic| ((with_reducible refine w_ones ?h1 ?_); (case h1 => walk_at "sd")))
theorem law5 {M n m p r rid : Nat} {Q : V → Prop} {f : Nat → Nat} {d : List Int} {v0 v1 v4 v5 v6 v7 v8 v10 v13 : V} (hp : (n, m) ∈ pairs3) (hf : ∀ k, f k < 16) (hi : ∀ j k, j < 16 → k < 16 → f j = f k → j = k) (hr : rid ∈ ridersL) (hd : d.length = 7) (hpl : p ≤ m + 1) (hr2 : r ≤ 2) (h : Q (.bool true)) :
    WXs (CC D3 fs3 (M + 4)) kd18 181 [("script", ⟨v0, false⟩), ("start", ⟨v1, false⟩), ("draws", ⟨.list (d.map .int), false⟩), ("n", ⟨.int n, false⟩), ("m", ⟨.int m, false⟩), ("figures", ⟨v4, false⟩), ("number", ⟨v5, false⟩),
      ("word", ⟨.str ((List.range (m + 1)).map fun k => 65 + f k), false⟩), ("small", ⟨v6, false⟩), ("earlier", ⟨v7, false⟩), ("later", ⟨v8, false⟩), ("above", ⟨.str ((aboveC n m).map (sg f rid)), false⟩), ("below", ⟨.str ((belowC m).map (sg f rid)), false⟩), ("place", ⟨v10, false⟩), ("riders", ⟨.str (List.replicate r rid), false⟩),
      ("typed", ⟨.str ((((belowC m).map (sg f rid)).take p ++ List.replicate r rid) ++ ((belowC m).map (sg f rid)).drop p), false⟩), ("left", ⟨v13, false⟩), ("plain", ⟨.str ((smallC m).map (sg f rid)), false⟩)] ((fnT st18).body.drop 19) (Post Q) := by
  have hlid : lenLid = 100000 := rfl
  obtain ⟨h1, h2, h3, h4⟩ := pair_le n m hp
  have hbl : ((belowC m).map (sg f rid)).length = m + 1 := by rw [List.length_map]; exact mark_len ..
  have hal : ((aboveC n m).map (sg f rid)).length = m + 1 := by rw [List.length_map]; exact mark_len ..
  have hsl : ((smallC m).map (sg f rid)).length = m + 1 := by rw [List.length_map]; simp [smallC]
  have htl : ((((belowC m).map (sg f rid)).take p ++ List.replicate r rid) ++ ((belowC m).map (sg f rid)).drop p).length = m + 1 + r := by
    rw [List.length_append, List.length_append, List.length_take, List.length_drop, hbl, List.length_replicate]; omega
  have ho : onesN m ≤ 4 := List.length_filter_le _ _
  have ho2 : onesN n ≤ 4 := List.length_filter_le _ _
  have ht1 := fun mc => lev1 (p := p) (r := r) (mc := mc) hf hi hr (by omega : 1 ≤ m) h3 hpl hr2
  have ht2 := fun mc => lev2 (mc := mc) hf hi hr hp
  have hms := mark_sg (rid := rid) hf h3 (pascal m)
  generalize (((belowC m).map (sg f rid)).take p ++ List.replicate r rid) ++ ((belowC m).map (sg f rid)).drop p = T at *
  have hms : markP ((List.range (m + 1)).map fun k => 65 + f k) (pascal m) = (belowC m).map (sg f rid) := hms
  rw [← hms] at hbl ht2 ⊢
  generalize hA : (aboveC n m).map (sg f rid) = A at *
  generalize hS : (smallC m).map (sg f rid) = S at *
  refine WXs_cons ?_
  repeat' ((fail_if_success (with_reducible show WX _ _ _ _ (.If _ _ _ _) _)); walk_at "st")
  have ed : (2 * ((List.replicate r rid).length : Int) + ((2 ^ onesN m : Nat) : Int)) = ((2 * r + 2 ^ onesN m : Nat) : Int) := by rw [List.length_replicate]; omega
  rw [ed]
  have hdue : 1 ≤ 2 * r + 2 ^ onesN m := by have : 0 < 2 ^ onesN m := Nat.pow_pos (by omega); omega
  generalize 2 * r + 2 ^ onesN m = due at *
  clear ed
  repeat' walk_at "st"
  have hmc : ∃ mc : Nat, ((due : Int) - d.getD (6 : Int).toNat 0 / 4 % 2) = mc ∧ due ≤ mc + 1 := ⟨((due : Int) - d.getD (6 : Int).toNat 0 / 4 % 2).toNat, by omega, by omega⟩
  obtain ⟨mc, e1, e2⟩ := hmc
  rw [e1]
  refine w_lev (by omega) (by omega) ?_
  rw [ht1 mc e2]
  repeat' ((fail_if_success (with_reducible show WX _ _ _ _ (.Assign _ _ _) _)); walk_at "st")
  · rename_i hc; exact absurd rfl hc
  clear e1 e2
  refine WX_assignR (fun v => ∃ x y : List Nat, v = .list [.str x, .str y] ∧ ((x = A ∧ y = markP ((List.range (m + 1)).map fun k => 65 + f k) (pascal m)) ∨ (y = A ∧ x = markP ((List.range (m + 1)).map fun k => 65 + f k) (pascal m)))) rfl rfl ?_ ?_ rfl
  · repeat' walk_at "st"
    · exact ⟨_, _, rfl, .inl ⟨rfl, rfl⟩⟩
    · exact ⟨_, _, rfl, .inr ⟨rfl, rfl⟩⟩
  rintro v ⟨x, y, rfl, hxy⟩
  have hx : x.length = m + 1 := by
    rcases hxy with ⟨rfl, rfl⟩ | ⟨rfl, rfl⟩
    · exact hal
    · exact hbl
  have hy : y.length = m + 1 := by
    rcases hxy with ⟨rfl, rfl⟩ | ⟨rfl, rfl⟩
    · exact hbl
    · exact hal
  have hlx : ∀ mc, 2 ^ onesN n ≤ mc + 1 → levN subN x y mc = 2 ^ onesN n := fun mc q => by
    rcases hxy with ⟨rfl, rfl⟩ | ⟨rfl, rfl⟩
    · exact (ht2 mc q).1
    · exact (ht2 mc q).2.1
  clear hxy
  refine then_put (by walk_at "pt") ?_
  repeat' walk_at "st"
  refine i_strs (xs := [x, y]) (by decide) (by simp) (by simp [hlid]) ?_
  show WEs _ _ _ _ _ _
  repeat' walk_at "st"
  refine i_strs (xs := [x, y]) (by decide) (by simp) (by simp [hlid]) ?_
  repeat' walk_at "st"
  refine w_lev (a := x) (b := y) (by omega) (by omega) ?_
  rw [hlx _ (Nat.le_succ _)]
  repeat' ((fail_if_success (with_reducible show WX _ _ _ _ (.If _ _ _ _) _)); walk_at "st")
  · rename_i hc; exact absurd rfl hc
  walk_at "st"
  repeat' ((fail_if_success (with_reducible show WX _ _ _ _ (.If _ _ _ _) _)); walk_at "st")
  have en : ((n : Int) + 1).toNat = n + 1 := rfl
  rw [en]
  refine w_lev (by rw [List.length_take]; omega) (by rw [List.length_take]; omega) ?_
  rw [(ht2 m h4).2.2]
  repeat' ((fail_if_success (with_reducible show WX _ _ _ _ (.Assign _ _ _) _)); walk_at "st")
  · rename_i hc; exact absurd rfl hc
  exact WXs_inv (law6 (by omega) h3 hf h)
end L3
namespace L3
local macro_rules | `(tactic| walk_at "st") => `(tactic| (with_reducible refine w_in_b1 ?_))
local macro_rules | `(tactic| walk_at "st") => `(tactic| (with_reducible refine w_b3 ?_))
theorem mark_chars {f : Nat → Nat} (hf : ∀ k, f k < 16) {m : Nat} (row : List Nat) : ∀ c ∈ markP ((List.range (m + 1)).map fun k => 65 + f k) row, (65 ≤ c ∧ c < 81) ∨ (97 ≤ c ∧ c < 113) := by
  intro c hc
  unfold markP at hc
  obtain ⟨k, hk, rfl⟩ := List.mem_map.mp hc
  have hk : k < m + 1 := by simpa using hk
  have ew : ((List.range (m + 1)).map fun k => 65 + f k).getD k 0 = 65 + f k := by simp [List.getD_eq_getElem?_getD, hk]
  rw [ew]
  have := hf k
  unfold lw
  rw [if_pos (by omega : 65 ≤ 65 + f k ∧ 65 + f k ≤ 90)]
  split <;> omega
theorem b1_let {c : Nat} (h : (65 ≤ c ∧ c < 81) ∨ (97 ≤ c ∧ c < 113)) : (b1E.any fun e => Value.isInt (c : Int) e.2) = false := by
  rcases h with h | h
  · have := all16 b1_none (i := c - 65) (by omega)
    simp only [Bool.and_eq_true, Bool.not_eq_true'] at this
    rw [show 65 + (c - 65) = c by omega] at this
    exact this.1
  · have := all16 b1_none (i := c - 97) (by omega)
    simp only [Bool.and_eq_true, Bool.not_eq_true'] at this
    rw [show 97 + (c - 97) = c by omega] at this
    exact this.2
theorem b1_rid {c : Nat} (h : c ∈ ridersL) : (b1E.any fun e => Value.isInt (c : Int) e.2) = true := List.all_eq_true.mp b1_rider c h
theorem law4 {M n m : Nat} {Q : V → Prop} {f : Nat → Nat} {d : List Int} {v0 v1 v4 v5 v7 v8 : V} (hp : (n, m) ∈ pairs3) (hf : ∀ k, f k < 16) (hi : ∀ j k, j < 16 → k < 16 → f j = f k → j = k) (hd : d.length = 7) (h : Q (.bool true)) :
    WXs (CC D3 fs3 (M + 4)) kd18 187 [("script", ⟨v0, false⟩), ("start", ⟨v1, false⟩), ("draws", ⟨.list (d.map .int), false⟩), ("n", ⟨.int n, false⟩), ("m", ⟨.int m, false⟩), ("figures", ⟨v4, false⟩), ("number", ⟨v5, false⟩),
      ("word", ⟨.str ((List.range (m + 1)).map fun k => 65 + f k), false⟩), ("small", ⟨.str ((List.range (m + 1)).map fun k => 97 + f k), false⟩), ("earlier", ⟨v7, false⟩), ("later", ⟨v8, false⟩), ("above", ⟨.str (markP ((List.range (m + 1)).map fun k => 65 + f k) (pascal n ++ List.replicate (m - n) 0)), false⟩), ("below", ⟨.str (markP ((List.range (m + 1)).map fun k => 65 + f k) (pascal m)), false⟩)] ((fnT st18).body.drop 13) (Post Q) := by
  have hlid : lenLid = 100000 := rfl
  obtain ⟨h1, h2, h3, h4⟩ := pair_le n m hp
  have hB := mark_chars hf (m := m) (pascal m)
  have hmA := fun rid => mark_sg (rid := rid) hf h3 (pascal n ++ List.replicate (m - n) 0)
  have hmB := fun rid => mark_sg (rid := rid) hf h3 (pascal m)
  have hbl : (markP ((List.range (m + 1)).map fun k => 65 + f k) (pascal m)).length = m + 1 := by simp [markP]
  generalize hBe : markP ((List.range (m + 1)).map fun k => 65 + f k) (pascal m) = B at *
  generalize hAe : markP ((List.range (m + 1)).map fun k => 65 + f k) (pascal n ++ List.replicate (m - n) 0) = A at *
  refine WXs_cons ?_
  refine WX_assignR (fun v => ∃ p : Nat, v = .int p ∧ p ≤ m + 1) rfl rfl ?_ ?_ rfl
  · repeat' walk_at "st"
    have q1 := Int.emod_nonneg (d.getD (4 : Int).toNat 0) (by omega : (m : Int) + 2 ≠ 0)
    have q2 := Int.emod_lt_of_pos (d.getD (4 : Int).toNat 0) (by omega : (0 : Int) < (m : Int) + 2)
    generalize d.getD (4 : Int).toNat 0 % ((m : Int) + 2) = q at *
    exact ⟨q.toNat, by congr 1; omega, by omega⟩
  rintro v ⟨p, rfl, hpl⟩
  refine then_put (by walk_at "pt") ?_
  refine WXs_cons ?_
  refine WX_assignR (fun v => ∃ rid r : Nat, v = .str (List.replicate r rid) ∧ rid ∈ ridersL ∧ r ≤ 2) rfl rfl ?_ ?_ rfl
  · repeat' walk_at "st"
    generalize d.getD (6 : Int).toNat 0 = d6
    refine i_strs (xs := [[173], [8203], [65039], [847]]) (by omega) (by simp only [List.length_cons, List.length_nil]; omega) (by decide) ?_
    have hrid : ∃ rid, [[173], [8203], [65039], [847]].getD (d6 % 4).toNat [] = [rid] ∧ rid ∈ ridersL := by
      have key : ∀ i < 4, ∃ rid ∈ ridersL, [[173], [8203], [65039], [847]].getD i [] = [rid] := by decide
      obtain ⟨rid, q1, q2⟩ := key (d6 % 4).toNat (by omega)
      exact ⟨rid, q2, q1⟩
    obtain ⟨rid, q1, q2⟩ := hrid
    rw [q1]
    repeat' walk_at "st"
    rw [repStr_one']
    exact ⟨rid, _, rfl, q2, by omega⟩
  rintro v ⟨rid, r, rfl, hr, hr2⟩
  refine then_put (by walk_at "pt") ?_
  have hT : ∀ c ∈ (B.take p ++ List.replicate r rid) ++ B.drop p, ((65 ≤ c ∧ c < 81) ∨ (97 ≤ c ∧ c < 113)) ∨ c = rid := by
    intro c hc
    rcases List.mem_append.mp hc with hc | hc
    · rcases List.mem_append.mp hc with hc | hc
      · exact .inl (hB c (List.mem_of_mem_take hc))
      · exact .inr (List.eq_of_mem_replicate hc)
    · exact .inl (hB c (List.mem_of_mem_drop hc))
  have hTl : ((B.take p ++ List.replicate r rid) ++ B.drop p).length ≤ 100 := by
    rw [List.length_append, List.length_append, List.length_take, List.length_drop, hbl, List.length_replicate]; omega
  have hTf : ((B.take p ++ List.replicate r rid) ++ B.drop p).filter (fun (c : Nat) => !(b1E.any fun e => Value.isInt (c : Int) e.2)) = B := by
    have hb : ∀ c ∈ B, (!(b1E.any fun e => Value.isInt (c : Int) e.2)) = true := fun c hc => by rw [b1_let (hB c hc)]; rfl
    rw [List.filter_append, List.filter_append, List.filter_eq_self.mpr (fun c hc => hb c (List.mem_of_mem_take hc)), List.filter_eq_self.mpr (fun c hc => hb c (List.mem_of_mem_drop hc)),
      List.filter_eq_nil_iff.mpr (fun c hc => by rw [List.eq_of_mem_replicate hc, b1_rid hr]; decide), List.append_nil, List.take_append_drop]
  repeat' ((fail_if_success (with_reducible show WX _ _ _ _ (.Assign _ (.ListComp _ _ _ _) _) _)); walk_at "st")
  have hTin := hT
  generalize hTe : (B.take p ++ List.replicate r rid) ++ B.drop p = T at *
  refine WX_clean rfl rfl ?_ rfl
  refine' WE_compIf (fun (c : Nat) => V.str [c]) T (fun c => V.str [c]) (fun (c : Nat) => !(b1E.any fun e => Value.isInt (c : Int) e.2)) ?k1 ?k2 rfl rfl rfl
  case k1 => walk_at "cp"
  refine WI_name ?_
  repeat' walk_at "st"
  refine it_str (by omega) ⟨rfl, by omega, ?_, ?_, ?_⟩
  · intro c hc
    repeat' walk_at "st"
    rfl
  · intro c hc _
    repeat' walk_at "st"
  rw [hTf]
  have el : B.map (fun c => V.str [c]) = (B.map fun c => [c]).map .str := by rw [List.map_map]; rfl
  rw [el]
  have hj : ((B.map fun c => [c]).flatten) = B := by rw [flat_one]; simp
  have hsm : B.map lw = (List.range (m + 1)).map fun k => 97 + f k := by
    rw [← hBe]
    unfold markP
    rw [List.map_map, List.length_map, List.length_range]
    apply List.map_congr_left
    intro k hk
    have hk := List.mem_range.mp hk
    have ew : ((List.range (m + 1)).map fun k => 65 + f k).getD k 0 = 65 + f k := by simp [List.getD_eq_getElem?_getD, hk]
    have := hf k
    show lw (if _ then _ else lw _) = _
    rw [ew]
    have e1 : lw (65 + f k) = 97 + f k := by unfold lw; rw [if_pos (by omega)]; omega
    have e2 : lw (97 + f k) = 97 + f k := by unfold lw; rw [if_neg (by omega)]
    split
    · exact e1
    · rw [e1, e2]
  refine then_put (by walk_at "pt") ?_
  repeat' ((fail_if_success (with_reducible show WE _ _ _ _ (.ListComp _ _ _ _) _)); walk_at "st")
  refine' WE_comp (fun (c : Nat) => V.str [c]) B (fun c => V.str [lw c]) ?j1 ?j2 rfl rfl rfl
  case j1 => walk_at "cp"
  refine WI_name ?_
  repeat' walk_at "st"
  refine it_list (by rw [List.length_map, List.length_map]; omega) ⟨el.symm, by omega, ?_, ?_⟩
  · intro c hc
    repeat' walk_at "st"
    rw [mapB3_lw (hB c hc)]
  have em : B.map (fun c => V.str [lw c]) = (B.map fun c => [lw c]).map .str := by rw [List.map_map]; rfl
  have hj2 : ((B.map fun c => [lw c]).flatten) = B.map lw := flat_one B lw
  rw [em]
  refine WEs_nil ?_
  refine m_join (by decide +kernel) (by rw [hj2, List.length_map]; omega) ?_
  rw [hj2, hsm]
  repeat' ((fail_if_success (with_reducible show WX _ _ _ _ (.If _ _ _ _) _)); walk_at "st")
  have hjl : (B.map fun c => [c]).flatten.length ≤ lenLid := by rw [hj]; omega
  walk_at "st"
  repeat' ((fail_if_success (with_reducible show WX _ _ _ _ (.Assign _ _ _) _)); walk_at "st")
  rotate_left
  · rename_i hc; exact absurd rfl hc
  · rename_i hc; exact absurd hj hc
  have eA : A = (aboveC n m).map (sg f rid) := hmA rid
  have eB : B = (belowC m).map (sg f rid) := hmB rid
  have eS : ((List.range (m + 1)).map fun k => 97 + f k) = (smallC m).map (sg f rid) := small_sg h3
  rw [← hTe, eA, eB, eS]
  exact WXs_inv (law5 hp hf hi hr hd hpl hr2 h)
end L3
namespace L3
theorem odd_inj {a c : Int} {j k : Nat} (hj : j < 16) (hk : k < 16) (h : (c + (2 * a + 1) * (j : Int)) % 16 = (c + (2 * a + 1) * (k : Int)) % 16) : j = k := by
  have key : ∀ b < 8, ∀ j < 16, ∀ k < 16, (2 * b + 1) * j % 16 = (2 * b + 1) * k % 16 → j = k := by decide +kernel
  have h1 : ((2 * a + 1) * (j : Int)) % 16 = ((2 * a + 1) * (k : Int)) % 16 := by omega
  have h2 : ∀ x : Int, ((2 * a + 1) * x) % 16 = ((2 * (a % 8) + 1) * x) % 16 := fun x => by
    have : (2 * a + 1) % 16 = (2 * (a % 8) + 1) % 16 := by omega
    rw [Int.mul_emod, this, ← Int.mul_emod]
  rw [h2, h2] at h1
  obtain ⟨b, hb⟩ : ∃ b : Nat, a % 8 = b := ⟨(a % 8).toNat, by omega⟩
  rw [hb] at h1
  exact key b (by omega) j hj k hk (by
    have e : ∀ y : Nat, ((2 * (b : Int) + 1) * (y : Int)) % 16 = (((2 * b + 1) * y % 16 : Nat) : Int) := fun y => by simp
    rw [e, e] at h1
    exact Int.ofNat_inj.mp h1)
theorem law3b {v0 v1 v2 : V} {d : List Int} {n m : Nat} {f : Nat → Nat} (hp : (n, m) ∈ pairs3) (hf : ∀ k, f k < 16) (hi : ∀ j k, j < 16 → k < 16 → f j = f k → j = k) (hd : d.length = 7) :
    WXs (CC D3 fs3 5) kd18 193 [("script", ⟨v0, false⟩), ("start", ⟨v1, false⟩), ("draws", ⟨.list (d.map .int), false⟩), ("n", ⟨.int n, false⟩), ("m", ⟨.int m, false⟩), ("figures", ⟨vnats ((List.range (m + 1)).map f), false⟩), ("number", ⟨v2, false⟩), ("word", ⟨.str ((List.range (m + 1)).map fun k => 65 + f k), false⟩)] ((fnT st18).body.drop 7) (Post fun v => v = .bool true) := by
  have hlid : lenLid = 100000 := rfl
  obtain ⟨h1, h2, h3, h4⟩ := pair_le n m hp
  have hfl : ((List.range (m + 1)).map f).length = m + 1 := by simp
  have hm16 : ∀ x ∈ (List.range (m + 1)).map f, x < 16 := fun x hx => by
    obtain ⟨k, _, rfl⟩ := List.mem_map.mp hx
    exact hf k
  have hfm : ∀ c, (((List.range (m + 1)).map f).map fun x => [c + x]).flatten = (List.range (m + 1)).map fun k => c + f k := fun c => by
    rw [flat_one, List.map_map]; rfl
  refine WXs_cons ?_
  -- small
  refine WX_clean rfl rfl ?_ rfl
  repeat' ((fail_if_success (with_reducible show WE _ _ _ _ (.ListComp _ _ _ _) _)); walk_at "st")
  refine' WE_comp (fun (x : Nat) => V.int x) ((List.range (m + 1)).map f) (fun x => V.str [97 + x]) ?k1 ?k2 rfl rfl rfl
  case k1 => walk_at "cp"
  refine WI_name ?_
  repeat' walk_at "st"
  refine it_list (by rw [List.length_map]; omega) ⟨rfl, by omega, ?_, ?_⟩
  · intro x hx
    have := hm16 x hx
    repeat' walk_at "st"
    rfl
  have em : ∀ c, ((List.range (m + 1)).map f).map (fun x => V.str [c + x]) = (((List.range (m + 1)).map f).map fun x => [c + x]).map .str := fun c => by simp only [List.map_map]; rfl
  rw [em]
  refine WEs_nil ?_
  refine m_join (by decide +kernel) (by rw [hfm]; simp; omega) ?_
  rw [hfm]
  refine then_put (by walk_at "pt") ?_
  refine WXs_cons ?_
  -- earlier
  refine WX_clean rfl rfl ?_ rfl
  repeat' walk_at "st"
  refine w_pascal (by omega) ?_
  repeat' walk_at "st"
  refine b_repL (by omega) ?_
  have er : ∀ c : Nat, List.replicate c (V.int 0) = (List.replicate c 0).map fun (x : Nat) => V.int x := fun c => by rw [List.map_replicate]; rfl
  have hmn : ((m : Int) - (n : Int)).toNat = m - n := by omega
  rw [er, hmn]
  have hpn := pascal_length n
  have hpm := pascal_length m
  refine b_catM (by rw [List.length_replicate]; omega) ?_
  refine then_put (by walk_at "pt") ?_
  refine WXs_cons ?_
  refine WX_clean rfl rfl ?_ rfl
  repeat' walk_at "st"
  refine w_pascal (by omega) ?_
  refine then_put (by walk_at "pt") ?_
  refine WXs_cons ?_
  -- the comparison
  refine WX_if (WT_cmp ?_ rfl)
  repeat' ((fail_if_success (with_reducible show WE _ _ _ _ (.ListComp _ _ _ _) _)); walk_at "st")
  refine' WE_comp (fun (x : Nat) => V.int x) ((List.range (m + 1)).map f) (fun x => V.str [65 + x]) ?j1 ?j2 rfl rfl rfl
  case j1 => walk_at "cp"
  refine WI_name ?_
  repeat' walk_at "st"
  refine it_list (by rw [List.length_map]; omega) ⟨rfl, by omega, ?_, ?_⟩
  · intro x hx
    have := hm16 x hx
    repeat' walk_at "st"
    rfl
  rw [em]
  refine WEs_nil ?_
  refine m_join (by decide +kernel) (by rw [hfm]; simp; omega) ?_
  rw [hfm]
  repeat' ((fail_if_success (with_reducible show WX _ _ _ _ (.Assign _ _ _) _)); walk_at "st")
  · rename_i hc; exact absurd rfl hc
  have hwl : ((List.range (m + 1)).map fun k => 65 + f k).length = m + 1 := by simp
  have hwc : ∀ c ∈ (List.range (m + 1)).map fun k => 65 + f k, (65 ≤ c ∧ c < 81) ∨ (97 ≤ c ∧ c < 113) := fun c hc => by
    obtain ⟨k, _, rfl⟩ := List.mem_map.mp hc
    have := hf k
    left; omega
  refine WX_atom rfl ?_ rfl
  repeat' walk_at "st"
  refine w_marked (by rw [hwl, List.length_append, List.length_replicate]; omega) (by omega) hwc ?_
  repeat' walk_at "st"
  refine w_marked (by rw [hwl]; omega) (by omega) hwc ?_
  refine ⟨rfl, ?_⟩
  refine then_put (by walk_at "pt") ?_
  exact law4 hp hf hi hd rfl
theorem law3 {v0 v1 : V} {d : List Int} {n m : Nat} {f : Nat → Nat} (hp : (n, m) ∈ pairs3) (hf : ∀ k, f k < 16) (hi : ∀ j k, j < 16 → k < 16 → f j = f k → j = k) (hd : d.length = 7) :
    Then (CC D3 fs3 5) kd18 195 ((fnT st18).body.drop 5) (Post fun v => v = .bool true) .next (Ls.put [("script", ⟨v0, false⟩), ("start", ⟨v1, false⟩), ("draws", ⟨.list (d.map .int), false⟩), ("n", ⟨.int n, false⟩), ("m", ⟨.int m, false⟩)] "figures" ⟨.list ((List.range (m + 1)).map fun (k : Nat) => V.int (f k : Nat)), false⟩) := by
  have hlid : lenLid = 100000 := rfl
  obtain ⟨h1, h2, h3, h4⟩ := pair_le n m hp
  have ef : ((List.range (m + 1)).map fun (k : Nat) => V.int (f k : Nat)) = ((List.range (m + 1)).map f).map fun (x : Nat) => V.int x := by rw [List.map_map]; rfl
  have hfl : ((List.range (m + 1)).map f).length = m + 1 := by simp
  have hfg : ∀ k, k < m + 1 → ((List.range (m + 1)).map f).getD k 0 = f k := fun k hk => by simp [List.getD_eq_getElem?_getD, hk]
  rw [ef]
  refine then_put (by walk_at "pt") ?_
  refine WXs_cons ?_
  repeat' ((fail_if_success (with_reducible show WE _ _ _ _ (.ListComp _ _ _ _) _)); walk_at "st")
  refine' WE_compR (m + 1) (fun k => .int (((f k : Nat) : Int) * ((16 ^ (m - k) : Nat) : Int))) ?k1 ?k2 rfl ?k4 rfl rfl rfl rfl ?k9 ?he ?hE ?hQ
  walk_at "cps"
  case he =>
    repeat' walk_at "st"
    rfl
  case hE =>
    intro k hk
    repeat' walk_at "st"
    have e1 : ((m : Int) - (k : Int)).toNat = m - k := by omega
    have := hf k
    rw [hfg k hk, e1]
    refine b_mul (.inl (by omega)) ?_
    rfl
  case hQ =>
    have es : (List.range (m + 1)).map (fun (k : Nat) => V.int (((f k : Nat) : Int) * ((16 ^ (m - k) : Nat) : Int))) = ((List.range (m + 1)).map fun (k : Nat) => ((f k : Nat) : Int) * ((16 ^ (m - k) : Nat) : Int)).map .int := by rw [List.map_map]; rfl
    rw [es]
    have hlt := horner_lt hf (m + 1)
    have hsum := horner_sum f m
    repeat' ((fail_if_success (with_reducible show WX _ _ _ _ (.Assign _ _ _) _)); walk_at "st")
    rw [hsum]
    refine WX_assignR (fun v => v = .str ((List.range (m + 1)).map fun k => 65 + f k)) rfl rfl ?_ ?_ rfl
    · have hw : (padS (m + 1) (horner f (m + 1))).map (fun d => 65 + d) = (List.range (m + 1)).map fun k => 65 + f k := by
        rw [pad_horner hf, List.map_map]; rfl
      repeat' walk_at "st"
      · refine w_word (s := m + 1) (by omega) (by rw [Int.natAbs_natCast]; exact hlt) ?_
        rw [Int.natAbs_natCast, hw]
      · refine w_word (s := m + 1) (by omega) (by rw [Int.natAbs_neg, Int.natAbs_natCast]; exact hlt) ?_
        rw [Int.natAbs_neg, Int.natAbs_natCast, hw]
    rintro v rfl
    refine then_put (by walk_at "pt") ?_
    exact law3b hp hf hi hd
theorem law2 {v0 v1 : V} {d : List Int} (hd : d.length = 7) :
    Then (CC D3 fs3 5) kd18 198 ((fnT st18).body.drop 2) (Post fun v => v = .bool true) .next (Ls.put [("script", ⟨v0, false⟩), ("start", ⟨v1, false⟩)] "draws" ⟨.list (d.map .int), false⟩) := by
  have hlid : lenLid = 100000 := rfl
  refine then_put (by walk_at "pt") ?_
  refine WXs_cons ?_
  refine WX_assignR (fun v => ∃ n : Nat, v = .int n ∧ n < 12) rfl rfl ?_ ?_ rfl
  · repeat' walk_at "st"
    exact ⟨(d.getD (0 : Int).toNat 0 % 12).toNat, by congr 1; omega, by omega⟩
  rintro v ⟨n, rfl, hn⟩
  refine then_put (by walk_at "pt") ?_
  refine WXs_cons ?_
  refine WX_assignR (fun v => ∃ e : Nat, v = .int ((n + 2 ^ e : Nat) : Int) ∧ (n < 8 → e < 4) ∧ (8 ≤ n → e < 3)) rfl rfl ?_ ?_ rfl
  · repeat' walk_at "st"
    · rename_i hc
      exact ⟨_, rfl, by omega, by omega⟩
    · rename_i hc
      exact ⟨_, rfl, by omega, by omega⟩
  rintro v ⟨e, rfl, he1, he2⟩
  have hp := pair_mem hn he1 he2
  obtain ⟨h1, h2, h3, h4⟩ := pair_le _ _ hp
  generalize n + 2 ^ e = m at *
  clear he1 he2
  refine then_put (by walk_at "pt") ?_
  repeat' ((fail_if_success (with_reducible show WE _ _ _ _ (.ListComp _ _ _ _) _)); walk_at "st")
  obtain ⟨f, hfe⟩ : ∃ f : Nat → Nat, ∀ k : Nat, (d.getD (2 : Int).toNat 0 + (2 * d.getD (3 : Int).toNat 0 + 1) * (k : Int)) % 16 = (f k : Nat) := ⟨fun k => ((d.getD (2 : Int).toNat 0 + (2 * d.getD (3 : Int).toNat 0 + 1) * (k : Int)) % 16).toNat, fun k => (Int.toNat_of_nonneg (Int.emod_nonneg _ (by decide))).symm⟩
  have hf : ∀ k, f k < 16 := fun k => by have := hfe k; omega
  have hi : ∀ j k, j < 16 → k < 16 → f j = f k → j = k := fun j k hj hk e => odd_inj hj hk (by rw [hfe j, hfe k, e])
  refine' WE_compR (m + 1) (fun k => .int (f k : Nat)) ?k1 ?k2 rfl ?k4 rfl rfl rfl rfl ?k9 ?he ?hE ?hQ
  walk_at "cps"
  case he =>
    repeat' walk_at "st"
    rfl
  case hE =>
    intro k hk
    repeat' walk_at "st"
    rw [hfe]
  case hQ =>
    exact law3 hp hf hi hd
theorem law_walk {ns : List Int} (hns : ns.length ≤ 63) : WF (CC D3 fs3 6) "law" [.list (ns.map .int)] (fun v => v = .bool true) := by
  have hlid : lenLid = 100000 := rfl
  refine WF_of (fnT st18) [("script", ⟨.list (ns.map .int), false⟩)] (by rfl) (by rfl) (by rfl) ?_
  refine WXs_cons ?_
  refine WX_clean rfl rfl ?_ rfl
  repeat' walk_at "st"
  have es : V.list [.int 4, .int 1, .int 14, .int 5, .int 2, .int 1, .int 0] = V.list (([4, 1, 14, 5, 2, 1, 0] : List Int).map .int) := rfl
  rw [es]
  refine' WE_compR 7 (fun k => .int (([4, 1, 14, 5, 2, 1, 0] : List Int).getD k 0 + (pickL ns (some (k : Int)) none (some 7)).sum)) ?k1 ?k2 rfl ?k4 rfl rfl rfl rfl ?k9 ?he ?hE ?hQ
  walk_at "cps"
  case he =>
    repeat' walk_at "st"
    rfl
  case hE =>
    intro k hk
    repeat' walk_at "st"
    rfl
  case hQ =>
    have ed : (List.range 7).map (fun (k : Nat) => V.int (([4, 1, 14, 5, 2, 1, 0] : List Int).getD k 0 + (pickL ns (some (k : Int)) none (some 7)).sum)) = ((List.range 7).map fun (k : Nat) => ([4, 1, 14, 5, 2, 1, 0] : List Int).getD k 0 + (pickL ns (some (k : Int)) none (some 7)).sum).map .int := by rw [List.map_map]; rfl
    rw [ed]
    have hd : ((List.range 7).map fun (k : Nat) => ([4, 1, 14, 5, 2, 1, 0] : List Int).getD k 0 + (pickL ns (some (k : Int)) none (some 7)).sum).length = 7 := by simp
    generalize (List.range 7).map (fun (k : Nat) => ([4, 1, 14, 5, 2, 1, 0] : List Int).getD k 0 + (pickL ns (some (k : Int)) none (some 7)).sum) = d at *
    clear ed es
    exact law2 hd
theorem ta3 : PySem.Challenge.rw_ta0051_03.Holds := fin_holds fun ns h => law_walk h
end L3
end Mine
theorem PySem.Challenge.cw_ta0051_03_holds : PySem.Challenge.rw_ta0051_03.Holds :=
  Mine.L3.ta3
