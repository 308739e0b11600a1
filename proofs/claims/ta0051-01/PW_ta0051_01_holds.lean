import PyProof.Rows.All
import Wide.All
import OpenK.AllK
import Wide.FinOn
import Lean
import PySem.Challenge.RW_ta0051_01
set_option Elab.async false
set_option compiler.extract_closed false
set_option maxRecDepth 100000
set_option linter.unusedVariables false
namespace Mine
open PySem PySem.W PyProof.Rows PySem.Calls

/-- plain values -/
inductive V where
  | none
  | bool (b : Bool)
  | int (i : Int)
  | str (x : List Nat)
  | bytes (b : List UInt8)
  | list (xs : List V)
  | tup (xs : List V)
  | dict (kv : List (List Nat × Int))
  | val (w : Value)

noncomputable abbrev Keep (mu : List Addr) (h h' : Heap) : Prop := ∀ b o, b ∉ mu → h.get? b = some o → h'.get? b = some o
noncomputable abbrev KeepAll (h h' : Heap) : Prop := ∀ b o, h.get? b = some o → h'.get? b = some o

/-- the entries of a dict of texts and ints -/
noncomputable def IntEnts (P : Params) : List DictEntry → List (List Nat × Int) → Prop
  | [], [] => True
  | e :: es, p :: ps => (∃ t t', e = ⟨PyData.keyHash P ⟨p.1.toArray⟩, .str ⟨p.1.toArray⟩ t, .int p.2 t'⟩) ∧ IntEnts P es ps
  | _, _ => False
noncomputable def IsIntDict (P : Params) (h : Heap) (a : Addr) (kv : List (List Nat × Int)) : Prop :=
  ∃ es n, h.get? a = some ⟨.type "dict", Option.none, .dict es n, #[]⟩ ∧ IntEnts P es.toList kv ∧ (a == sysModules) = false ∧ (kv.map (·.1)).Nodup

mutual
noncomputable def Rep (P : Params) (mu : List Addr) (h : Heap) : V → Value → Prop
  | .none, w => w = .none
  | .bool b, w => w = .bool b
  | .int i, w => ∃ t, w = .int i t
  | .str x, w => ∃ t, w = .str ⟨x.toArray⟩ t
  | .bytes b, w => ∃ t, w = .bytes b.toArray t
  | .list xs, w => ∃ a ws, w = .ref a ∧ a ∉ mu ∧ h.IsList a (List.toArray ws) ∧ Reps P mu h xs ws
  | .tup xs, w => ∃ a ws, w = .ref a ∧ a ∉ mu ∧ h.IsTuple a (List.toArray ws) ∧ Reps P mu h xs ws
  | .dict kv, w => ∃ a, w = .ref a ∧ a ∉ mu ∧ IsIntDict P h a kv
  | .val u, w => w = u
noncomputable def Reps (P : Params) (mu : List Addr) (h : Heap) : List V → List Value → Prop
  | [], ws => ws = []
  | x :: xs, ws => ∃ w ws', ws = w :: ws' ∧ Rep P mu h x w ∧ Reps P mu h xs ws'
end

section
variable {P : Params} {mu mu' : List Addr} {h h' : Heap}
theorem IsIntDict.keep {a : Addr} {kv : List (List Nat × Int)} (x : IsIntDict P h a kv) (e : ∀ o, h.get? a = some o → h'.get? a = some o) : IsIntDict P h' a kv :=
  by obtain ⟨es, n, g, i⟩ := x; exact ⟨es, n, e _ g, i⟩
theorem isList_keep {a : Addr} {ws : Array Value} (x : h.IsList a ws) (e : ∀ o, h.get? a = some o → h'.get? a = some o) : h'.IsList a ws :=
  by obtain ⟨o, g, r⟩ := x; exact ⟨o, e _ g, r⟩
theorem isTuple_keep {a : Addr} {ws : Array Value} (x : h.IsTuple a ws) (e : ∀ o, h.get? a = some o → h'.get? a = some o) : h'.IsTuple a ws :=
  by obtain ⟨o, g, r⟩ := x; exact ⟨o, e _ g, r⟩
mutual
theorem Rep.keep (k : Keep mu h h') : ∀ {v : V} {w : Value}, Rep P mu h v w → Rep P mu h' v w
  | .none, _, x => x
  | .bool _, _, x => x
  | .int _, _, x => x
  | .str _, _, x => x
  | .bytes _, _, x => x
  | .list xs, _, x => by
    unfold Rep at x ⊢
    obtain ⟨a, ws, e, ha, l, r⟩ := x
    exact ⟨a, ws, e, ha, isList_keep l (fun o => k a o ha), Reps.keep k r⟩
  | .tup xs, _, x => by
    unfold Rep at x ⊢
    obtain ⟨a, ws, e, ha, l, r⟩ := x
    exact ⟨a, ws, e, ha, isTuple_keep l (fun o => k a o ha), Reps.keep k r⟩
  | .dict kv, _, x => by
    unfold Rep at x ⊢
    obtain ⟨a, e, ha, l⟩ := x
    exact ⟨a, e, ha, l.keep (fun o => k a o ha)⟩
  | .val _, _, x => x
theorem Reps.keep (k : Keep mu h h') : ∀ {vs : List V} {ws : List Value}, Reps P mu h vs ws → Reps P mu h' vs ws
  | [], _, x => x
  | v :: vs, _, x => by
    unfold Reps at x ⊢
    obtain ⟨w, ws', e, r, rs⟩ := x
    exact ⟨w, ws', e, Rep.keep k r, Reps.keep k rs⟩
end
mutual
theorem Rep.sub (k : ∀ a ∈ mu', a ∈ mu) : ∀ {v : V} {w : Value}, Rep P mu h v w → Rep P mu' h v w
  | .none, _, x => x
  | .bool _, _, x => x
  | .int _, _, x => x
  | .str _, _, x => x
  | .bytes _, _, x => x
  | .list xs, _, x => by
    unfold Rep at x ⊢
    obtain ⟨a, ws, e, ha, l, r⟩ := x
    exact ⟨a, ws, e, fun q => ha (k a q), l, Reps.sub k r⟩
  | .tup xs, _, x => by
    unfold Rep at x ⊢
    obtain ⟨a, ws, e, ha, l, r⟩ := x
    exact ⟨a, ws, e, fun q => ha (k a q), l, Reps.sub k r⟩
  | .dict kv, _, x => by
    unfold Rep at x ⊢
    obtain ⟨a, e, ha, l⟩ := x
    exact ⟨a, e, fun q => ha (k a q), l⟩
  | .val _, _, x => x
theorem Reps.sub (k : ∀ a ∈ mu', a ∈ mu) : ∀ {vs : List V} {ws : List Value}, Reps P mu h vs ws → Reps P mu' h vs ws
  | [], _, x => x
  | v :: vs, _, x => by
    unfold Reps at x ⊢
    obtain ⟨w, ws', e, r, rs⟩ := x
    exact ⟨w, ws', e, Rep.sub k r, Reps.sub k rs⟩
end
mutual
/-- new mutable objects: none of them stood in the heap -/
theorem Rep.more (k : ∀ a, a ∈ mu' → a ∈ mu ∨ h.get? a = Option.none) : ∀ {v : V} {w : Value}, Rep P mu h v w → Rep P mu' h v w
  | .none, _, x => x
  | .bool _, _, x => x
  | .int _, _, x => x
  | .str _, _, x => x
  | .bytes _, _, x => x
  | .list xs, _, x => by
    unfold Rep at x ⊢
    obtain ⟨a, ws, e, ha, l, r⟩ := x
    refine ⟨a, ws, e, fun q => ?_, l, Reps.more k r⟩
    rcases k a q with q | q
    · exact ha q
    · obtain ⟨o, g, _⟩ := l; rw [q] at g; cases g
  | .tup xs, _, x => by
    unfold Rep at x ⊢
    obtain ⟨a, ws, e, ha, l, r⟩ := x
    refine ⟨a, ws, e, fun q => ?_, l, Reps.more k r⟩
    rcases k a q with q | q
    · exact ha q
    · obtain ⟨o, g, _⟩ := l; rw [q] at g; cases g
  | .dict kv, _, x => by
    unfold Rep at x ⊢
    obtain ⟨a, e, ha, l⟩ := x
    refine ⟨a, e, fun q => ?_, l⟩
    rcases k a q with q | q
    · exact ha q
    · obtain ⟨_, _, g, _⟩ := l; rw [q] at g; cases g
  | .val _, _, x => x
theorem Reps.more (k : ∀ a, a ∈ mu' → a ∈ mu ∨ h.get? a = Option.none) : ∀ {vs : List V} {ws : List Value}, Reps P mu h vs ws → Reps P mu' h vs ws
  | [], _, x => x
  | v :: vs, _, x => by
    unfold Reps at x ⊢
    obtain ⟨w, ws', e, r, rs⟩ := x
    exact ⟨w, ws', e, Rep.more k r, Reps.more k rs⟩
end
theorem KeepAll.keep (k : KeepAll h h') : Keep mu h h' := fun b o _ e => k b o e
theorem Rep.all {v : V} {w : Value} (x : Rep P mu h v w) (k : KeepAll h h') : Rep P mu h' v w := x.keep k.keep
theorem Reps.all {v : List V} {w : List Value} (x : Reps P mu h v w) (k : KeepAll h h') : Reps P mu h' v w := x.keep k.keep
theorem Reps.length : ∀ {vs : List V} {ws : List Value}, Reps P mu h vs ws → ws.length = vs.length
  | [], ws, x => by unfold Reps at x; simp [x]
  | v :: vs, ws, x => by
    unfold Reps at x
    obtain ⟨w, ws', rfl, _, rs⟩ := x
    simp [rs.length]
theorem Reps.get : ∀ {vs : List V} {ws : List Value} {i : Nat} {v : V}, Reps P mu h vs ws → vs[i]? = some v → ∃ w, ws[i]? = some w ∧ Rep P mu h v w
  | [], ws, i, v, x, e => by simp at e
  | u :: vs, ws, i, v, x, e => by
    unfold Reps at x
    obtain ⟨w, ws', rfl, r, rs⟩ := x
    cases i with
    | zero => simp at e; subst e; exact ⟨w, rfl, r⟩
    | succ i => simp at e ⊢; exact rs.get e
theorem Reps.append : ∀ {vs us : List V} {ws xs : List Value}, Reps P mu h vs ws → Reps P mu h us xs → Reps P mu h (vs ++ us) (ws ++ xs)
  | [], us, ws, xs, a, b => by unfold Reps at a; subst a; simpa using b
  | v :: vs, us, ws, xs, a, b => by
    unfold Reps at a
    obtain ⟨w, ws', rfl, r, rs⟩ := a
    show Reps P mu h (v :: (vs ++ us)) (w :: (ws' ++ xs))
    unfold Reps
    exact ⟨w, _, rfl, r, rs.append b⟩
theorem Reps.take : ∀ {vs : List V} {ws : List Value} (k : Nat), Reps P mu h vs ws → Reps P mu h (vs.take k) (ws.take k)
  | [], ws, k, x => by unfold Reps at x; subst x; cases k <;> (unfold Reps; rfl)
  | v :: vs, ws, k, x => by
    unfold Reps at x
    obtain ⟨w, ws', rfl, r, rs⟩ := x
    cases k with
    | zero => unfold Reps; rfl
    | succ k => unfold Reps; exact ⟨w, _, rfl, r, rs.take k⟩
theorem Reps.drop : ∀ {vs : List V} {ws : List Value} (k : Nat), Reps P mu h vs ws → Reps P mu h (vs.drop k) (ws.drop k)
  | [], ws, k, x => by unfold Reps at x; subst x; cases k <;> (unfold Reps; rfl)
  | v :: vs, ws, k, x => by
    cases k with
    | zero => exact x
    | succ k =>
      unfold Reps at x
      obtain ⟨w, ws', rfl, r, rs⟩ := x
      exact rs.drop k
end

/-- a triple: the tree gives a value that P holds of; all that stood stands; nothing is raised -/
noncomputable def Tr (prog : Program) (w : World) (A : Around) {α : Type} (t : Sem α) (s : Shared) (Q : α → Heap → Prop) : Prop :=
  wpAny (model prog w) A t (fun v s' => (∃ h' tk, s' = { s with heap := h', toks := tk } ∧ KeepAll s.heap h') ∧ Q v s'.heap) (fun _ _ => False) s
section
variable {prog : Program} {w : World} {A : Around} {α β : Type} {s : Shared}
theorem Tr.use {t : Sem α} {Q : α → Heap → Prop} {R : α → Shared → Prop} {E : Value → Shared → Prop} (x : Tr prog w A t s Q)
    (k : ∀ v h' tk, KeepAll s.heap h' → Q v h' → R v { s with heap := h', toks := tk }) : wpAny (model prog w) A t R E s :=
  wpAny_mono x (fun v s' q => by obtain ⟨⟨h', tk, rfl, kk⟩, q⟩ := q; exact k v h' tk kk q) fun _ _ f => f.elim
theorem Tr.of {t : Sem α} {Q : α → Heap → Prop} (x : ∀ (R : α → Shared → Prop), (∀ v h' tk, KeepAll s.heap h' → Q v h' → R v { s with heap := h', toks := tk }) → wpAny (model prog w) A t R (fun _ _ => False) s) : Tr prog w A t s Q :=
  x _ fun v h' tk kk q => ⟨⟨h', tk, rfl, kk⟩, q⟩
theorem Tr.pure {a : α} {Q : α → Heap → Prop} (q : Q a s.heap) : Tr prog w A (Pure.pure a) s Q := Tr.of fun R k => wpAny_pure (k a s.heap s.toks (fun _ _ e => e) q)
theorem Tr.mono {t : Sem α} {Q R : α → Heap → Prop} (x : Tr prog w A t s Q) (k : ∀ v h', KeepAll s.heap h' → Q v h' → R v h') : Tr prog w A t s R :=
  Tr.of fun S kS => x.use fun v h' tk kk q => kS v h' tk kk (k v h' kk q)
end
end Mine
namespace Mine
open PySem PySem.W PyProof.Rows PySem.Calls

noncomputable abbrev Live (mu : List Addr) (h : Heap) : Prop := ∀ a ∈ mu, ∃ o, h.get? a = some o
theorem Live.fresh {mu : List Addr} {h : Heap} (l : Live mu h) : h.objs.size ∉ mu := fun q => by
  obtain ⟨o, e⟩ := l _ q
  exact absurd (Heap.lt_size e) (Nat.lt_irrefl _)
theorem Live.keep {mu : List Addr} {h h' : Heap} (l : Live mu h) (k : KeepAll h h') : Live mu h' := fun a q => let ⟨o, e⟩ := l a q; ⟨o, k _ _ e⟩
theorem keepAll_push {h : Heap} {o : Obj} : KeepAll h (h.push o) := fun b o' e => Heap.get?_push_of_some _ e
theorem get_push {h : Heap} {c : Value} {d : Option Addr} {dt : Data} {sl : Array (Option Value)} (hd : dt ≠ .freed) : (h.push ⟨c, d, dt, sl⟩).get? h.objs.size = some ⟨c, d, dt, sl⟩ := by
  refine Heap.get?_push_size _ ?_
  cases dt <;> first | rfl | exact absurd rfl hd

/-- the greatest length of a text or list that we let be made -/
noncomputable def lenLid : Nat := 100000

noncomputable def repStr (x : List Nat) : Nat → List Nat
  | 0 => []
  | n + 1 => x ++ repStr x n

section
variable {prog : Program} {w : World} {A : Around} {s : Shared} {mu : List Addr}

theorem intMulOk {a b : Int} (h : a.natAbs < 2 ^ 64 ∨ b.natAbs < 2 ^ 64) : IntMulOk a b := by
  have bits : ∀ x : Int, x.natAbs < 2 ^ 64 → Builtin.Int.intBits x ≤ 64 := fun x hx => by
    unfold Builtin.Int.intBits
    split
    · omega
    · rename_i h0
      have h1 : x.natAbs ≠ 0 := by
        intro e; apply h0; simp at e ⊢; exact e
      have : Nat.log2 x.natAbs < 64 := (Nat.log2_lt h1).mpr hx
      omega
  unfold IntMulOk
  have e : shortFactorBits = 64 := rfl
  rcases h with h | h
  · have := bits a h; simp [e]; omega
  · have := bits b h; simp [e]; omega

theorem fold_rep (x : List Nat) : ∀ (n : Nat) (acc : Array Nat), (List.foldl (fun x1 x2 => x1 ++ x2) acc (List.replicate n x.toArray)) = acc ++ (repStr x n).toArray
  | 0, acc => by show acc = acc ++ #[]; rw [Array.append_empty]
  | n + 1, acc => by
    rw [List.replicate_succ, List.foldl_cons, fold_rep x n]
    show acc ++ x.toArray ++ (repStr x n).toArray = acc ++ (x ++ repStr x n).toArray
    simp
theorem repStr_nil : ∀ n, repStr [] n = []
  | 0 => rfl
  | n + 1 => repStr_nil n
theorem txt_mul (x : List Nat) (n : Int) : Txt.mul ⟨x.toArray⟩ n = ⟨(repStr x n.toNat).toArray⟩ := by
  unfold Txt.mul
  split
  · rename_i h
    have : n.toNat = 0 := by omega
    rw [this]; rfl
  · rename_i h
    split
    · rename_i h2
      simp only [Bool.or_eq_true, beq_iff_eq] at h2
      rcases h2 with h2 | h2
      · subst h2; show _ = (⟨(x ++ []).toArray⟩ : Str); rw [List.append_nil]
      · have : x = [] := by simpa [Str.length] using h2
        subst this; rw [repStr_nil]
    · show (⟨_⟩ : Str) = _
      congr 1
      have := fold_rep x n.toNat #[]
      simpa using this

theorem add_i {a b : Int} {wa wb : Value} (ra : Rep w.params mu s.heap (.int a) wa) (rb : Rep w.params mu s.heap (.int b) wb) : Tr prog w A (binaryOp .Add wa wb) s (fun v h => Rep w.params mu h (.int (a + b)) v) := by
  unfold Rep at ra rb; obtain ⟨t, rfl⟩ := ra; obtain ⟨u, rfl⟩ := rb
  exact Tr.of fun R k => PySem.P.add_int (k _ _ _ (fun _ _ e => e) (by unfold Rep; exact ⟨_, rfl⟩))
theorem sub_i {a b : Int} {wa wb : Value} (ra : Rep w.params mu s.heap (.int a) wa) (rb : Rep w.params mu s.heap (.int b) wb) : Tr prog w A (binaryOp .Sub wa wb) s (fun v h => Rep w.params mu h (.int (a - b)) v) := by
  unfold Rep at ra rb; obtain ⟨t, rfl⟩ := ra; obtain ⟨u, rfl⟩ := rb
  exact Tr.of fun R k => PySem.P.sub_int (k _ _ _ (fun _ _ e => e) (by unfold Rep; exact ⟨_, rfl⟩))
theorem mul_i {a b : Int} {wa wb : Value} (hm : a.natAbs < 2 ^ 64 ∨ b.natAbs < 2 ^ 64) (ra : Rep w.params mu s.heap (.int a) wa) (rb : Rep w.params mu s.heap (.int b) wb) : Tr prog w A (binaryOp .Mult wa wb) s (fun v h => Rep w.params mu h (.int (a * b)) v) := by
  unfold Rep at ra rb; obtain ⟨t, rfl⟩ := ra; obtain ⟨u, rfl⟩ := rb
  exact Tr.of fun R k => PySem.P.mul_int (k _ _ _ (fun _ _ e => e) (by unfold Rep; exact ⟨_, rfl⟩)) (intMulOk hm)
theorem div_i {a b : Int} {wa wb : Value} (hm : b ≠ 0 ∧ b.natAbs < 1073741824) (ra : Rep w.params mu s.heap (.int a) wa) (rb : Rep w.params mu s.heap (.int b) wb) : Tr prog w A (binaryOp .FloorDiv wa wb) s (fun v h => Rep w.params mu h (.int (a.fdiv b)) v) := by
  unfold Rep at ra rb; obtain ⟨t, rfl⟩ := ra; obtain ⟨u, rfl⟩ := rb
  exact Tr.of fun R k => floordiv_int hm.1 (k _ _ _ (fun _ _ e => e) (by unfold Rep; exact ⟨_, rfl⟩)) (.inl (PyProof.noPylong_small hm.2))
theorem mod_i {a b : Int} {wa wb : Value} (hm : b ≠ 0) (ra : Rep w.params mu s.heap (.int a) wa) (rb : Rep w.params mu s.heap (.int b) wb) : Tr prog w A (binaryOp .Mod wa wb) s (fun v h => Rep w.params mu h (.int (a.fmod b)) v) := by
  unfold Rep at ra rb; obtain ⟨t, rfl⟩ := ra; obtain ⟨u, rfl⟩ := rb
  exact Tr.of fun R k => mod_int hm (k _ _ _ (fun _ _ e => e) (by unfold Rep; exact ⟨_, rfl⟩))
theorem pow_i {a b : Int} {wa wb : Value} (hm : 0 ≤ b ∧ b ≤ 1000 ∧ a.natAbs < 2 ^ 64) (ra : Rep w.params mu s.heap (.int a) wa) (rb : Rep w.params mu s.heap (.int b) wb) : Tr prog w A (binaryOp .Pow wa wb) s (fun v h => Rep w.params mu h (.int (a ^ b.toNat)) v) := by
  unfold Rep at ra rb; obtain ⟨t, rfl⟩ := ra; obtain ⟨u, rfl⟩ := rb
  have hb : b ≤ 1048576 := Int.le_trans hm.2.1 (by decide)
  exact Tr.of fun R k => pow_int_small hm.1 (by omega) hm.2.2 (k _ _ _ (fun _ _ e => e) (by unfold Rep; exact ⟨_, rfl⟩))
theorem add_s {x y : List Nat} {wa wb : Value} (hm : x.length + y.length ≤ lenLid) (ra : Rep w.params mu s.heap (.str x) wa) (rb : Rep w.params mu s.heap (.str y) wb) : Tr prog w A (binaryOp .Add wa wb) s (fun v h => Rep w.params mu h (.str (x ++ y)) v) := by
  unfold Rep at ra rb; obtain ⟨t, rfl⟩ := ra; obtain ⟨u, rfl⟩ := rb
  refine Tr.of fun R k => PySem.SB.add (fun t' n => k _ _ _ (fun _ _ e => e) (by unfold Rep; exact ⟨t', by show Value.str ⟨_⟩ _ = _; simp⟩)) ?_
  show _ + _ ≤ sizeLine
  have : sizeLine = 16777216 := rfl
  simp [Str.length, this]; unfold lenLid at hm; omega
theorem mul_s {x : List Nat} {n : Int} {wa wb : Value} (hm : x.length ≤ 100 ∧ n ≤ 100 ∧ -100 ≤ n) (ra : Rep w.params mu s.heap (.str x) wa) (rb : Rep w.params mu s.heap (.int n) wb) : Tr prog w A (binaryOp .Mult wa wb) s (fun v h => Rep w.params mu h (.str (repStr x n.toNat)) v) := by
  unfold Rep at ra rb; obtain ⟨t, rfl⟩ := ra; obtain ⟨u, rfl⟩ := rb
  refine Tr.of fun R k => PySem.SB.mul ⟨?_, fun _ _ => ?_, fun _ _ => ?_⟩ (fun t' m => k _ _ _ (fun _ _ e => e) (by unfold Rep; exact ⟨t', by rw [txt_mul]⟩))
  · simp; omega
  · simp only [Str.length, List.size_toArray]
    have h1 : (x.length : Int) ≤ 100 := by omega
    have h2 : (100 : Int) ≤ (2 ^ 63 - 1) / n := by
      have hn : 0 < n := by omega
      rw [Int.le_ediv_iff_mul_le hn]
      have : (2 : Int) ^ 63 - 1 = 9223372036854775807 := by decide
      rw [this]; omega
    omega
  · unfold Builtin.Str.tooLong
    have : sizeLine = 16777216 := rfl
    simp only [Str.length, List.size_toArray, decide_eq_false_iff_not, this]
    have h1 : n.toNat ≤ 100 := by omega
    have := Nat.mul_le_mul hm.1 h1
    omega
theorem add_l {xs ys : List V} {wa wb : Value} (hm : xs.length + ys.length ≤ lenLid) (ra : Rep w.params mu s.heap (.list xs) wa) (rb : Rep w.params mu s.heap (.list ys) wb) (l : Live mu s.heap) : Tr prog w A (binaryOp .Add wa wb) s (fun v h => Rep w.params mu h (.list (xs ++ ys)) v) := by
  unfold Rep at ra rb; obtain ⟨a, ws, rfl, ha, la, ra⟩ := ra; obtain ⟨b, us, rfl, hb, lb, rb⟩ := rb
  obtain ⟨⟨c1, d1, t1, s1⟩, g1, e1, n1, q1⟩ := la
  obtain ⟨⟨c2, d2, t2, s2⟩, g2, e2, n2, q2⟩ := lb
  simp only at e1 e2 q1 q2
  subst e1 e2 q1 q2
  refine Tr.of fun R k => concat_meets ⟨_, g1, rfl⟩ ⟨_, g2, rfl⟩ noFill_list_add seq_list_add PySem.F.slot_list_add PySem.F.entry_list_add (PySem.F.args_list_add_2 _ _)
    (list_addW a b ws.toArray us.toArray n1 n2 d1 d2 s1 s2 (by
      have : sizeLine = 16777216 := rfl
      have q1 := ra.length
      have q2 := rb.length
      simp only [List.size_toArray, this]; unfold lenLid at hm; omega)) ⟨g1, g2, ?_⟩
  refine k _ _ _ keepAll_push ?_
  unfold Rep
  refine ⟨_, ws ++ us, rfl, l.fresh, ⟨_, get_push (by intro e; cases e), rfl, 0, by show Data.seq (ws.toArray ++ us.toArray) 0 = _; simp⟩, (ra.all keepAll_push).append (rb.all keepAll_push)⟩
theorem add_b {x y : List UInt8} {wa wb : Value} (hm : x.length + y.length ≤ lenLid) (ra : Rep w.params mu s.heap (.bytes x) wa) (rb : Rep w.params mu s.heap (.bytes y) wb) : Tr prog w A (binaryOp .Add wa wb) s (fun v h => Rep w.params mu h (.bytes (x ++ y)) v) := by
  unfold Rep at ra rb; obtain ⟨t, rfl⟩ := ra; obtain ⟨u, rfl⟩ := rb
  refine Tr.of fun R k => KBy.add_bytes (by simp; unfold lenLid at hm; omega) (fun t' n => k _ _ _ (fun _ _ e => e) (by unfold Rep; exact ⟨t', by simp⟩))
end
end Mine
namespace Mine
open PySem PySem.W PyProof.Rows PySem.Calls

theorem beq_dec {α : Type} [BEq α] [LawfulBEq α] [DecidableEq α] (a b : α) : (a == b) = decide (a = b) := by
  by_cases h : a = b <;> simp [h]
section
variable {prog : Program} {w : World} {A : Around} {s : Shared} {mu : List Addr} {P : Params} {h : Heap} {a b : Int} {x y : List Nat} {wa wb : Value}
theorem same_heap {h : Heap} : KeepAll h h := fun _ _ e => e
theorem eq_i (ra : Rep w.params mu s.heap (.int a) wa) (rb : Rep w.params mu s.heap (.int b) wb) : Tr prog w A (compareOp .Eq wa wb) s (fun v _ => v = .bool (decide (a = b))) := by
  unfold Rep at ra rb; obtain ⟨t, rfl⟩ := ra; obtain ⟨u, rfl⟩ := rb
  exact Tr.of fun R k => PySem.P.eq_int (k _ _ s.toks same_heap (by first | rfl | simp only [beq_dec]))
theorem ne_i (ra : Rep w.params mu s.heap (.int a) wa) (rb : Rep w.params mu s.heap (.int b) wb) : Tr prog w A (compareOp .NotEq wa wb) s (fun v _ => v = .bool (decide (a ≠ b))) := by
  unfold Rep at ra rb; obtain ⟨t, rfl⟩ := ra; obtain ⟨u, rfl⟩ := rb
  exact Tr.of fun R k => PySem.P.ne_int (k _ _ s.toks same_heap (by simp only [bne, beq_dec]; simp))
theorem lt_i (ra : Rep w.params mu s.heap (.int a) wa) (rb : Rep w.params mu s.heap (.int b) wb) : Tr prog w A (compareOp .Lt wa wb) s (fun v _ => v = .bool (decide (a < b))) := by
  unfold Rep at ra rb; obtain ⟨t, rfl⟩ := ra; obtain ⟨u, rfl⟩ := rb
  exact Tr.of fun R k => PySem.P.lt_int (k _ _ s.toks same_heap rfl)
theorem le_i (ra : Rep w.params mu s.heap (.int a) wa) (rb : Rep w.params mu s.heap (.int b) wb) : Tr prog w A (compareOp .LtE wa wb) s (fun v _ => v = .bool (decide (a ≤ b))) := by
  unfold Rep at ra rb; obtain ⟨t, rfl⟩ := ra; obtain ⟨u, rfl⟩ := rb
  exact Tr.of fun R k => PySem.P.le_int (k _ _ s.toks same_heap rfl)
theorem gt_i (ra : Rep w.params mu s.heap (.int a) wa) (rb : Rep w.params mu s.heap (.int b) wb) : Tr prog w A (compareOp .Gt wa wb) s (fun v _ => v = .bool (decide (b < a))) := by
  unfold Rep at ra rb; obtain ⟨t, rfl⟩ := ra; obtain ⟨u, rfl⟩ := rb
  exact Tr.of fun R k => PySem.P.gt_int (k _ _ s.toks same_heap rfl)
theorem ge_i (ra : Rep w.params mu s.heap (.int a) wa) (rb : Rep w.params mu s.heap (.int b) wb) : Tr prog w A (compareOp .GtE wa wb) s (fun v _ => v = .bool (decide (b ≤ a))) := by
  unfold Rep at ra rb; obtain ⟨t, rfl⟩ := ra; obtain ⟨u, rfl⟩ := rb
  exact Tr.of fun R k => PySem.P.ge_int (k _ _ s.toks same_heap rfl)
theorem eq_s (ra : Rep w.params mu s.heap (.str x) wa) (rb : Rep w.params mu s.heap (.str y) wb) : Tr prog w A (compareOp .Eq wa wb) s (fun v _ => v = .bool (decide (x = y))) := by
  unfold Rep at ra rb; obtain ⟨t, rfl⟩ := ra; obtain ⟨u, rfl⟩ := rb
  exact Tr.of fun R k => PySem.P.eq_str (k _ _ s.toks same_heap (by first | rfl | simp only [beq_dec]))
theorem ne_s (ra : Rep w.params mu s.heap (.str x) wa) (rb : Rep w.params mu s.heap (.str y) wb) : Tr prog w A (compareOp .NotEq wa wb) s (fun v _ => v = .bool (decide (x ≠ y))) := by
  unfold Rep at ra rb; obtain ⟨t, rfl⟩ := ra; obtain ⟨u, rfl⟩ := rb
  exact Tr.of fun R k => PySem.P.ne_str (k _ _ s.toks same_heap (by simp only [bne, beq_dec]; simp))
theorem isnot_nn (ra : Rep w.params mu s.heap .none wa) (rb : Rep w.params mu s.heap .none wb) : Tr prog w A (compareOp .IsNot wa wb) s (fun v _ => v = .bool false) := by
  unfold Rep at ra rb; subst ra; subst rb
  exact Tr.of fun R k => isnot_none_none (k _ _ s.toks same_heap rfl)
theorem isnot_sn (ra : Rep w.params mu s.heap (.str x) wa) (rb : Rep w.params mu s.heap .none wb) : Tr prog w A (compareOp .IsNot wa wb) s (fun v _ => v = .bool true) := by
  unfold Rep at ra rb; obtain ⟨t, rfl⟩ := ra; subst rb
  exact Tr.of fun R k => isnot_none_ne (by intro e; cases e) (k _ _ s.toks same_heap rfl)
theorem tr_n (ra : Rep w.params mu s.heap .none wa) : Tr prog w A (truthy wa) s (fun v _ => v = false) := by
  unfold Rep at ra; subst ra
  exact Tr.of fun R k => truthy_none (k _ _ s.toks same_heap rfl)
theorem tr_b {c : Bool} (ra : Rep w.params mu s.heap (.bool c) wa) : Tr prog w A (truthy wa) s (fun v _ => v = c) := by
  unfold Rep at ra; subst ra
  exact Tr.of fun R k => wpAny_truthy_bool (k _ _ s.toks same_heap rfl)
theorem tr_i (ra : Rep w.params mu s.heap (.int a) wa) : Tr prog w A (truthy wa) s (fun v _ => v = decide (a ≠ 0)) := by
  unfold Rep at ra; obtain ⟨t, rfl⟩ := ra
  exact Tr.of fun R k => PySem.P.truthy_int (k _ _ s.toks same_heap (by simp only [bne, beq_dec]; simp))
theorem tr_s (hl : x.length ≤ lenLid) (ra : Rep w.params mu s.heap (.str x) wa) : Tr prog w A (truthy wa) s (fun v _ => v = decide (0 < x.length)) := by
  unfold Rep at ra; obtain ⟨t, rfl⟩ := ra
  refine Tr.of fun R k => PySem.P.truthy_str (by simp [Str.length]; unfold lenLid at hl; omega) (k _ _ _ same_heap ?_)
  simp only [Str.length, List.size_toArray, bne, beq_dec]
  cases x with
  | nil => rfl
  | cons a x => simp; omega
end
end Mine
namespace Mine
open PySem PySem.W PyProof.Rows PySem.Calls

/-- a value, and what must hold for it to come -/
noncomputable abbrev W (α : Type) := α × Prop
noncomputable abbrev no : W V := (.none, False)

structure Cfg where
  fn : Str → List V → W V
  gl : Str → Option V
  mem : Value → Int → W Bool
  get : Value → Int → W V

noncomputable def binV (op : Operator) (a b : V) : W V :=
  match op, a, b with
  | .Add, .int a, .int b => (.int (a + b), True)
  | .Sub, .int a, .int b => (.int (a - b), True)
  | .Mult, .int a, .int b => (.int (a * b), a.natAbs < 2 ^ 64 ∨ b.natAbs < 2 ^ 64)
  | .FloorDiv, .int a, .int b => (.int (a.fdiv b), b ≠ 0 ∧ b.natAbs < 1073741824)
  | .Mod, .int a, .int b => (.int (a.fmod b), b ≠ 0)
  | .Pow, .int a, .int b => (.int (a ^ b.toNat), 0 ≤ b ∧ b ≤ 1000 ∧ a.natAbs < 2 ^ 64)
  | .Add, .str x, .str y => (.str (x ++ y), x.length + y.length ≤ lenLid)
  | .Mult, .str x, .int n => (.str (repStr x n.toNat), x.length ≤ 100 ∧ n ≤ 100 ∧ -100 ≤ n)
  | .Add, .list xs, .list ys => (.list (xs ++ ys), xs.length + ys.length ≤ lenLid)
  | .Add, .bytes x, .bytes y => (.bytes (x ++ y), x.length + y.length ≤ lenLid)
  | _, _, _ => no

noncomputable def truV : V → W Bool
  | .none => (false, True)
  | .bool b => (b, True)
  | .int i => (decide (i ≠ 0), True)
  | .str x => (decide (0 < x.length), x.length ≤ lenLid)
  | _ => (false, False)

noncomputable def intsV : List V → W (List Int)
  | [] => ([], True)
  | .int i :: r => (i :: (intsV r).1, (intsV r).2)
  | _ => ([], False)
noncomputable def strsV : List V → W (List (List Nat))
  | [] => ([], True)
  | .str i :: r => (i :: (strsV r).1, (strsV r).2)
  | _ => ([], False)

noncomputable def negV : V → W V
  | .int i => (.int (-i), True)
  | _ => no
noncomputable def cmpV (g : Cfg) (op : CmpOp) (a b : V) : W Bool :=
  match op, a, b with
  | .Eq, .int a, .int b => (decide (a = b), True)
  | .NotEq, .int a, .int b => (decide (a ≠ b), True)
  | .Lt, .int a, .int b => (decide (a < b), True)
  | .LtE, .int a, .int b => (decide (a ≤ b), True)
  | .Gt, .int a, .int b => (decide (b < a), True)
  | .GtE, .int a, .int b => (decide (b ≤ a), True)
  | .Eq, .str a, .str b => (decide (a = b), True)
  | .NotEq, .str a, .str b => (decide (a ≠ b), True)
  | .Eq, .list xs, .list ys => (decide ((intsV xs).1 = (intsV ys).1), (intsV xs).2 ∧ (intsV ys).2)
  | .IsNot, .none, .none => (false, True)
  | .IsNot, .str _, .none => (true, True)
  | .In, .int a, .val w => g.mem w a
  | .In, .str a, .dict kv => ((kv.lookup a).isSome, True)
  | _, _, _ => (false, False)

/-- the item of a sequence at an index -/
noncomputable def seqAt {α : Type} (d : α) (xs : List α) (i : Int) : W α :=
  (xs.getD (if i < 0 then i + xs.length else i).toNat d, -(xs.length : Int) ≤ i ∧ i < xs.length ∧ xs.length ≤ lenLid)
noncomputable def itemV : V → V → W V
  | .list xs, .int i => seqAt .none xs i
  | .str xs, .int i => let r := seqAt 0 xs i; (.str [r.1], r.2)
  | .dict kv, .str x => (.int ((kv.lookup x).getD 0), (kv.lookup x).isSome = true)
  | _, _ => no

/-- a bound of a slice, set into 0..n -/
noncomputable def clip (n : Nat) (d : Nat) : V → W Nat
  | .none => (d, True)
  | .int i => (if i < 0 then (i + n).toNat else min i.toNat n, True)
  | _ => (0, False)
noncomputable def pickL {α : Type} (xs : List α) (lo hi st : Option Int) : List α :=
  (sliceRange (sliceBounds lo hi st xs.length).1 (sliceBounds lo hi st xs.length).2.1 (sliceBounds lo hi st xs.length).2.2).filterMap fun i => xs[i]?
noncomputable def cutV (v lo hi st : V) : W V :=
  match v, st with
  | .str xs, .none => (.str ((xs.take (clip xs.length xs.length hi).1).drop (clip xs.length 0 lo).1), (clip xs.length xs.length hi).2 ∧ (clip xs.length 0 lo).2 ∧ xs.length ≤ lenLid)
  | .bytes xs, .none => (.bytes ((xs.take (clip xs.length xs.length hi).1).drop (clip xs.length 0 lo).1), (clip xs.length xs.length hi).2 ∧ (clip xs.length 0 lo).2 ∧ xs.length ≤ lenLid)
  | .list xs, .none => (.list ((xs.take (clip xs.length xs.length hi).1).drop (clip xs.length 0 lo).1), (clip xs.length xs.length hi).2 ∧ (clip xs.length 0 lo).2 ∧ xs.length ≤ lenLid)
  | .list xs, .int k => match lo, hi with
    | .int i, .none => (.list (pickL xs (some i) none (some k)), k ≠ 0 ∧ xs.length ≤ lenLid)
    | _, _ => no
  | _, _ => no

noncomputable def rangeUp (a : Int) (c : Int) : Nat → List Int
  | 0 => []
  | n + 1 => a :: rangeUp (a + c) c n
/-- the ints of a range with a step above 0 -/
noncomputable def rangeV (a b c : Int) : W (List Int) :=
  (rangeUp a c ((b - a + c - 1).fdiv c).toNat, 0 < c ∧ c ≤ 1000 ∧ -lenLid ≤ a ∧ a ≤ lenLid ∧ b ≤ lenLid ∧ -lenLid ≤ b)

/-- the least of a list -/
noncomputable def minL : List Int → Int
  | [] => 0
  | x :: xs => xs.foldl (fun a b => if b < a then b else a) x
noncomputable def bltV (f : Str) (args : List V) : W V :=
  if f = ("len" : Str) then match args with
    | [.str x] => (.int x.length, x.length ≤ lenLid)
    | [.list x] => (.int x.length, x.length ≤ lenLid)
    | _ => no
  else if f = ("ord" : Str) then match args with
    | [.str [c]] => (.int c, True)
    | _ => no
  else if f = ("chr" : Str) then match args with
    | [.int i] => (.str [i.toNat], 0 ≤ i ∧ i ≤ 1114111)
    | _ => no
  else if f = ("abs" : Str) then match args with
    | [.int i] => (.int (if i < 0 then -i else i), True)
    | _ => no
  else if f = ("int" : Str) then match args with
    | [.int i] => (.int i, True)
    | _ => no
  else if f = ("divmod" : Str) then match args with
    | [.int a, .int b] => (.tup [.int (a.fdiv b), .int (a.fmod b)], b ≠ 0 ∧ b.natAbs < 1073741824)
    | _ => no
  else if f = ("min" : Str) then match args with
    | [.int a, .int b] => (.int (if b < a then b else a), True)
    | [.list xs] => (.int (minL (intsV xs).1), (intsV xs).2 ∧ 0 < xs.length)
    | _ => no
  else if f = ("sum" : Str) then match args with
    | [.list xs] => (.int (intsV xs).1.sum, (intsV xs).2)
    | _ => no
  else no
noncomputable abbrev isBlt (f : Str) : Bool := [("len" : Str), "ord", "chr", "abs", "int", "divmod", "min", "sum"].contains f

/-- methods of a text -/
noncomputable def strM (x : List Nat) (name : Str) (args : List V) : W V := match args with
  | [] => if name = ("lower" : Str) then (.str (Txt.lower ⟨x.toArray⟩).cps.toList, x.length ≤ lenLid) else no
  | [a] => (match a with
    | .list xs => if name = ("join" : Str) then (.str (strsV xs).1.flatten, (strsV xs).2 ∧ (strsV xs).1.flatten.length ≤ lenLid ∧ x = []) else no
    | _ => no)
  | _ => no
noncomputable def bytesM (b : List UInt8) (name : Str) (args : List V) : W V := match args with
  | [a] => (match a with
    | .str x => if name = ("decode" : Str) then (.str (b.map (·.toNat)), (∀ c ∈ b, c.toNat < 128) ∧ b.length ≤ lenLid ∧ x = [97, 115, 99, 105, 105]) else no
    | _ => no)
  | _ => no
noncomputable def valM (g : Cfg) (w : Value) (name : Str) (args : List V) : W V := match args with
  | [a] => (match a with
    | .int i => if name = ("get" : Str) then g.get w i else no
    | _ => no)
  | _ => no
noncomputable def methV (g : Cfg) (o : V) (name : Str) (args : List V) : W V := match o with
  | .str x => strM x name args
  | .bytes b => bytesM b name args
  | .val w => valM g w name args
  | _ => no

/-- what a loop goes over -/
noncomputable def itemsV : V → W (List V)
  | .list xs => (xs, xs.length ≤ lenLid)
  | .str xs => (xs.map fun c => .str [c], xs.length ≤ lenLid)
  | _ => ([], False)

noncomputable abbrev Kd := Str → Option NameKind
structure Loc where
  v : V
  own : Bool := false
noncomputable abbrev Ls := List (Str × Loc)
noncomputable def Ls.put (l : Ls) (x : Str) (v : Loc) : Ls := match l with
  | [] => [(x, v)]
  | (y, u) :: r => if y = x then (x, v) :: r else (y, u) :: Ls.put r x v
noncomputable def Ls.loc (l : Ls) (x : Str) : Option Loc := match l with
  | [] => none
  | (y, u) :: r => if y = x then some u else Ls.loc r x
noncomputable def Ls.at (l : Ls) (x : Str) : Option V := match l with
  | [] => none
  | (y, u) :: r => if y = x then some u.v else Ls.at r x
noncomputable def Ls.clean (l : Ls) : Ls := l.filter fun p => !p.2.own
noncomputable def Ls.capt (l : Ls) (k : Kd) : Ls := l.filter fun p => k p.1 == some .cell || k p.1 == some .free
noncomputable def isAtom : V → Bool
  | .none | .bool _ | .int _ | .str _ | .bytes _ => true
  | _ => false

noncomputable def constV : Const → W V
  | .none => (.none, True)
  | .bool b => (.bool b, True)
  | .int i => (.int i, True)
  | .str s => (.str s.cps.toList, True)
  | .bytes b => (.bytes b, True)
  | _ => no

noncomputable def kindOk (k : Kd) (x : Str) : Bool := k x == some .globalImplicit && !(x == ("__debug__" : Str))
noncomputable def nameOk (x : Str) : Bool := !(x == ("__debug__" : Str)) && !(x == ("__classdict__" : Str)) && !(x == ("__name__" : Str))
/-- no super() -/
noncomputable def baseOk : Expr → Bool
  | .Call (.Name _ _) [] [] _ => false
  | _ => true
noncomputable def selfKind (k : Kd) (p : Str × NameKind) : Str × NameKind := if p.2 == .free && k p.1 == some .cell then (p.1, .cell) else p
noncomputable def inKind (k : Kd) (scope : Scope) : Kd := fun x => (scope.names.map (selfKind k)).lookup x

/-- the ints of a call of range -/
noncomputable def rangeI : List Int → W (List V)
  | [b] => ((rangeV 0 b 1).1.map .int, (rangeV 0 b 1).2)
  | [a, b] => ((rangeV a b 1).1.map .int, (rangeV a b 1).2)
  | [a, b, c] => ((rangeV a b c).1.map .int, (rangeV a b c).2)
  | _ => ([], False)
noncomputable def rangeOf (vs : List V) : W (List V) := ((rangeI (intsV vs).1).1, (intsV vs).2 ∧ (rangeI (intsV vs).1).2)
/-! views: what shape an expression has -/
noncomputable def nmE : Expr → Option Str
  | .Name x _ => some x
  | _ => none
theorem nmE_form {e : Expr} {x : Str} (h : nmE e = some x) : ∃ p, e = .Name x p := by
  unfold nmE at h
  split at h
  · obtain rfl := Option.some.inj h; exact ⟨_, rfl⟩
  · cases h
/-- a call of a name, without keywords -/
noncomputable def callV : Expr → Option (Str × List Expr)
  | .Call f args kw _ => (match kw with
    | [] => (nmE f).map fun x => (x, args)
    | _ :: _ => none)
  | _ => none
theorem callV_form {e : Expr} {x : Str} {args : List Expr} (h : callV e = some (x, args)) : ∃ fp p, e = .Call (.Name x fp) args [] p := by
  unfold callV at h
  split at h
  · split at h
    · obtain ⟨y, hy, e⟩ := Option.map_eq_some_iff.mp h
      cases e
      obtain ⟨fp, rfl⟩ := nmE_form hy
      exact ⟨fp, _, rfl⟩
    · cases h
  · cases h
/-- what is assigned to -/
inductive Tg where
  | name (x : Str)
  | pair (x y : Str)
  | sub (x : Str) (i : Expr)
  | bad
noncomputable def tgPair : List Expr → Tg
  | [a, b] => (match nmE a with
    | some x => (match nmE b with
      | some y => .pair x y
      | none => .bad)
    | none => .bad)
  | _ => .bad
noncomputable def tgV : Expr → Tg
  | .Name x _ => .name x
  | .Tuple es _ _ => tgPair es
  | .Subscript o i _ => (match nmE o with
    | some x => .sub x i
    | none => .bad)
  | _ => .bad
noncomputable def TgIs (e : Expr) : Tg → Prop
  | .name x => ∃ p, e = .Name x p
  | .pair x y => ∃ p q c r, e = .Tuple [.Name x p, .Name y q] c r
  | .sub x i => ∃ p q, e = .Subscript (.Name x p) i q
  | .bad => True
theorem tgPair_form {es : List Expr} {c : Nat} {r : Pos} : TgIs (.Tuple es c r) (tgPair es) := by
  unfold tgPair
  split
  · rename_i a b
    cases ha : nmE a with
    | none => trivial
    | some x => cases hb : nmE b with
      | none => trivial
      | some y =>
        obtain ⟨p, rfl⟩ := nmE_form ha
        obtain ⟨q, rfl⟩ := nmE_form hb
        exact ⟨p, q, c, r, rfl⟩
  · trivial
theorem tgV_form (e : Expr) : TgIs e (tgV e) := by
  cases e with
  | Name x p => exact ⟨p, rfl⟩
  | Tuple es c r => exact tgPair_form
  | Subscript o i p =>
    show TgIs _ (match nmE o with | some x => Tg.sub x i | none => .bad)
    cases ho : nmE o with
    | none => trivial
    | some x =>
      obtain ⟨q, rfl⟩ := nmE_form ho
      exact ⟨q, p, rfl⟩
  | _ => trivial
/-- a comprehension of one name -/
noncomputable def gnV : List Comprehension → Option (Str × Expr × List Expr)
  | [] => none
  | c :: r => (match r with
    | [] => (match nmE c.target with
      | some x => if c.is_async = 0 then some (x, c.iter, c.ifs) else none
      | none => none)
    | _ :: _ => none)
theorem gnV_form {gs : List Comprehension} {x : Str} {it : Expr} {ifs : List Expr} (h : gnV gs = some (x, it, ifs)) : ∃ p, gs = [⟨.Name x p, it, ifs, 0⟩] := by
  cases gs with
  | nil => cases h
  | cons c r => cases r with
    | cons _ _ => cases h
    | nil =>
      obtain ⟨t, i, fs, a⟩ := c
      have h : (match nmE t with
        | some x => if a = 0 then some (x, i, fs) else none
        | none => none) = some (x, it, ifs) := h
      cases ht : nmE t with
      | none => rw [ht] at h; cases h
      | some y =>
        rw [ht] at h
        by_cases ha : a = 0
        · have h : (if a = 0 then some (y, i, fs) else none) = some (x, it, ifs) := h
          rw [if_pos ha] at h; cases h
          obtain ⟨p, rfl⟩ := nmE_form ht
          subst ha
          exact ⟨p, rfl⟩
        · have h : (if a = 0 then some (y, i, fs) else none) = some (x, it, ifs) := h
          rw [if_neg ha] at h; cases h
noncomputable def oneArg : List Expr → List Keyword → Option Expr
  | [a], [] => some a
  | _, _ => none
theorem oneArg_form {as : List Expr} {ks : List Keyword} {a : Expr} (h : oneArg as ks = some a) : as = [a] ∧ ks = [] := by
  cases as with
  | nil => cases h
  | cons x r => cases r with
    | cons _ _ => cases h
    | nil => cases ks with
      | cons _ _ => cases h
      | nil => cases h; exact ⟨rfl, rfl⟩
/-- a method of a name, of one argument, as a statement -/
noncomputable def apV : Expr → Option (Str × Str × Expr × Bool)
  | .Call f args kw p => (match f with
    | .Attribute o name ap => (nmE o).bind fun x => (oneArg args kw).map fun a => (x, name, a, ap.endLine == p.line)
    | _ => none)
  | _ => none
theorem apV_form {e : Expr} {x name : Str} {a : Expr} {b : Bool} (h : apV e = some (x, name, a, b)) : ∃ xp ap p, e = .Call (.Attribute (.Name x xp) name ap) [a] [] p ∧ b = (ap.endLine == p.line) := by
  unfold apV at h
  split at h
  · split at h
    · obtain ⟨y, hy, h⟩ := Option.bind_eq_some_iff.mp h
      obtain ⟨a', ha, e⟩ := Option.map_eq_some_iff.mp h
      cases e
      obtain ⟨xp, rfl⟩ := nmE_form hy
      obtain ⟨rfl, rfl⟩ := oneArg_form ha
      exact ⟨xp, _, _, rfl, rfl⟩
    · cases h
  · cases h
/-- what may stand for the items of a loop, beside a range -/
noncomputable def isSrc : Expr → Bool
  | .Name _ _ => true
  | .List _ _ => true
  | .Constant _ _ _ => true
  | _ => false
/-- a display of constants -/
noncomputable def keyC : Option Expr → Option (List Nat)
  | some e => (match e with
    | .Constant c _ _ => (match c with
      | .str x => some x.cps.toList
      | _ => none)
    | _ => none)
  | none => none
noncomputable def valC : Expr → Option Int
  | .Constant c _ _ => (match c with
    | .int i => some i
    | _ => none)
  | _ => none
noncomputable def constPairs : List (Option Expr) → List Expr → Option (List (List Nat × Int))
  | [], [] => some []
  | k :: ks, v :: vs => (keyC k).bind fun x => (valC v).bind fun i => (constPairs ks vs).map fun r => (x, i) :: r
  | _, _ => none
noncomputable def dictV : Option (List (List Nat × Int)) → W V
  | some kv => (.dict kv, kv.length = 17 ∧ (kv.map (·.1)).Nodup)
  | none => no
/-- a comprehension's variable -/
noncomputable def targetOk (scope : Scope) (x : Str) : Bool := scope.names.lookup x == some .local || scope.names.lookup x == some .cell
/-- the names of a comprehension's scope, or a lambda's -/
noncomputable def ev.scopeOk (k : Kd) (l : Ls) (scope : Scope) (x : Str) : Bool :=
    scope.kind == .function && scope.names.all fun p =>
      match p.2 with
      | .local => scope.names.lookup p.1 == some .local
      | .free => (k p.1 == some .cell || k p.1 == some .free) && (l.at p.1).isSome && p.1 != x
      | .cell => p.1 == x && scope.names.lookup x == some .cell
      | _ => true
noncomputable def compW (k : Kd) (l : Ls) (scope : Scope) (gs : Option (Str × Expr × List Expr)) (I : Expr → W (List V)) (E : Ls → W V) (T : Ls → Expr → W Bool) : W V := match gs with
  | none => no
  | some (x, it, ifs) =>
    let q := I it
    let f : V → Ls := fun v => (l.capt (inKind k scope)).put x ⟨v, false⟩
    match ifs with
    | [] => (.list (q.1.map fun v => (E (f v)).1), q.2 ∧ (targetOk scope x = true ∧ nameOk x = true) ∧ ev.scopeOk k l scope x = true ∧ q.1.length ≤ lenLid ∧ ∀ v ∈ q.1, (E (f v)).2)
    | [t] => (.list ((q.1.filter fun v => (T (f v) t).1).map fun v => (E (f v)).1),
        q.2 ∧ (targetOk scope x = true ∧ nameOk x = true) ∧ ev.scopeOk k l scope x = true ∧ q.1.length ≤ lenLid ∧ ∀ v ∈ q.1, (T (f v) t).2 ∧ ((T (f v) t).1 = true → (E (f v)).2))
    | _ => no
/-- a call of a name -/
noncomputable def callW (fn : Str → List V → W V) (k : Kd) (l : Ls) (f : Str) (args : List Expr) (a : W (List V)) (I : Expr → W (List V)) : W V :=
  if isBlt f then ((bltV f a.1).1, a.2 ∧ (bltV f a.1).2 ∧ l.at f = none ∧ kindOk k f = true)
  else if f = ("list" : Str) then (match args with
    | [e] => (match callV e with
      | some (r, _) => if r = ("range" : Str) then (.list (I e).1, (I e).2 ∧ l.at f = none ∧ kindOk k f = true) else no
      | none => no)
    | _ => no)
  else ((fn f a.1).1, a.2 ∧ (fn f a.1).2 ∧ l.at f = none ∧ kindOk k f = true)
mutual
noncomputable def ev (g : Cfg) (k : Kd) : Nat → Ls → Expr → W V
  | 0, _, _ => no
  | n + 1, l, e => match e with
    | .Constant c _ _ => constV c
    | .Name x _ => match l.at x with
      | some v => (v, True)
      | none => match g.gl x with
        | some v => (v, kindOk k x = true)
        | none => no
    | .BinOp a op b _ => let va := ev g k n l a; let vb := ev g k n l b; let r := binV op va.1 vb.1; (r.1, va.2 ∧ vb.2 ∧ r.2)
    | .UnaryOp op a _ => (match op with
      | .USub => let r := ev g k n l a; let q := negV r.1; (q.1, r.2 ∧ q.2)
      | .Not => let r := ev g k n l a; let t := truV r.1; (.bool (!t.1), r.2 ∧ t.2)
      | _ => no)
    | .BoolOp op es _ => (match op with
      | .Or => (match es with
        | [a, b] => let va := ev g k n l a; let t := truV va.1; if t.1 then (va.1, va.2 ∧ t.2) else let vb := ev g k n l b; (vb.1, va.2 ∧ t.2 ∧ vb.2)
        | _ => no)
      | _ => no)
    | .IfExp t a b _ => let r := evT g k n l t; if r.1 then (let v := ev g k n l a; (v.1, r.2 ∧ v.2)) else (let v := ev g k n l b; (v.1, r.2 ∧ v.2))
    | .Compare a ops bs _ => (match ops with
      | [op] => (match bs with
        | [b] => let va := ev g k n l a; let vb := ev g k n l b; let r := cmpV g op va.1 vb.1; (.bool r.1, va.2 ∧ vb.2 ∧ r.2 ∧ behindInMarks op b = false)
        | _ => no)
      | _ => no)
    | .Subscript v i _ => (match i with
      | .Slice lo hi st _ => let r := ev g k n l v; let a := evO g k n l lo; let b := evO g k n l hi; let c := evO g k n l st; let q := cutV r.1 a.1 b.1 c.1; (q.1, r.2 ∧ a.2 ∧ b.2 ∧ c.2 ∧ q.2)
      | i => let r := ev g k n l v; let j := ev g k n l i; let q := itemV r.1 j.1; (q.1, r.2 ∧ j.2 ∧ q.2))
    | .Dict ks vs _ => dictV (constPairs ks vs)
    | .List es _ => let r := evs g k n l es; (.list r.1, r.2 ∧ r.1.length ≤ lenLid)
    | .Tuple es _ _ => let r := evs g k n l es; (.tup r.1, r.2 ∧ r.1.length ≤ lenLid)
    | .ListComp elt gens scope _ => compW k l scope (gnV gens) (fun it => evI g k n l it) (fun l' => ev g (inKind k scope) n l' elt) (fun l' t => evT g (inKind k scope) n l' t)
    | .Call fe args kw p => (match kw with
      | _ :: _ => no
      | [] => (match fe with
        | .Attribute o name ap =>
          let r := ev g k n l o; let a := evs g k n l args; let q := methV g r.1 name a.1; (q.1, r.2 ∧ a.2 ∧ q.2 ∧ (ap.endLine == p.line) = true ∧ baseOk o = true ∧ args.length ≤ 3)
        | .Name f _ => callW g.fn k l f args (evs g k n l args) (fun e => evI g k n l e)
        | _ => no))
    | _ => no
/-- what is tested -/
noncomputable def evT (g : Cfg) (k : Kd) : Nat → Ls → Expr → W Bool
  | 0, _, _ => (false, False)
  | n + 1, l, e => match e with
    | .UnaryOp .Not a _ => let r := evT g k n l a; (!r.1, r.2)
    | .BoolOp .And es _ => evAnd g k n l es
    | .BoolOp .Or es _ => evOr g k n l es
    | .Compare a [op] [b] _ => let va := ev g k n l a; let vb := ev g k n l b; let r := cmpV g op va.1 vb.1; (r.1, va.2 ∧ vb.2 ∧ r.2 ∧ behindInMarks op b = false)
    | .Compare a [o1, o2] [b, c] _ => let va := ev g k n l a; let vb := ev g k n l b; let r := cmpV g o1 va.1 vb.1
      if r.1 then (let vc := ev g k n l c; let q := cmpV g o2 vb.1 vc.1; (q.1, va.2 ∧ vb.2 ∧ r.2 ∧ vc.2 ∧ q.2 ∧ lastMarks [o1, o2] [b, c] = false)) else (false, va.2 ∧ vb.2 ∧ r.2 ∧ lastMarks [o1, o2] [b, c] = false)
    | .Compare _ _ _ _ => (false, False)
    | .IfExp t a b _ => let r := evT g k n l t; if r.1 then (let v := evT g k n l a; (v.1, r.2 ∧ v.2)) else (let v := evT g k n l b; (v.1, r.2 ∧ v.2))
    | e => let v := ev g k n l e; let t := truV v.1; (t.1, v.2 ∧ t.2)
noncomputable def evAnd (g : Cfg) (k : Kd) : Nat → Ls → List Expr → W Bool
  | 0, _, _ => (false, False)
  | n + 1, l, es => match es with
    | [] => (true, True)
    | e :: r => let v := evT g k n l e; if v.1 then (let q := evAnd g k n l r; (q.1, v.2 ∧ q.2)) else (false, v.2)
noncomputable def evOr (g : Cfg) (k : Kd) : Nat → Ls → List Expr → W Bool
  | 0, _, _ => (false, False)
  | n + 1, l, es => match es with
    | [] => (false, True)
    | e :: r => let v := evT g k n l e; if v.1 then (true, v.2) else (let q := evOr g k n l r; (q.1, v.2 ∧ q.2))
noncomputable def evO (g : Cfg) (k : Kd) : Nat → Ls → Option Expr → W V
  | 0, _, _ => no
  | n + 1, l, e => match e with
    | none => (.none, True)
    | some e => ev g k n l e
noncomputable def evs (g : Cfg) (k : Kd) : Nat → Ls → List Expr → W (List V)
  | 0, _, _ => ([], False)
  | n + 1, l, es => match es with
    | [] => ([], True)
    | .Starred _ _ :: _ => ([], False)
    | e :: r => let v := ev g k n l e; let q := evs g k n l r; (v.1 :: q.1, v.2 ∧ q.2)
/-- what a loop goes over -/
noncomputable def evI (g : Cfg) (k : Kd) : Nat → Ls → Expr → W (List V)
  | 0, _, _ => ([], False)
  | n + 1, l, e => match callV e with
    | some (f, args) =>
      if f = ("range" : Str) then
        let a := evs g k n l args
        let q := rangeOf a.1
        (q.1, a.2 ∧ q.2 ∧ l.at f = none ∧ kindOk k f = true)
      else ([], False)
    | none => let v := ev g k n l e; let q := itemsV v.1; (q.1, isSrc e = true ∧ v.2 ∧ q.2)
end

/-- op= that we evaluate -/
noncomputable def augOk (op : Operator) (a b : V) : Bool := match a with
  | .int _ => (match b with
    | .int _ => decide (op = .Add ∨ op = .Sub ∨ op = .Mult)
    | _ => false)
  | .str _ => (match b with
    | .str _ => decide (op = .Add)
    | _ => false)
  | _ => false
inductive Fl where
  | next
  | ret (v : V)

/-- an expression whose list is new -/
noncomputable def isNew : Expr → Bool
  | .List es _ => es.isEmpty
  | .Call f args kw p => (match callV (.Call f args kw p) with
    | some (f, [a]) => f == ("list" : Str) && (match callV a with
      | some (r, _) => r == ("range" : Str)
      | none => false)
    | _ => false)
  | _ => false
/-- no other list is written to -/
noncomputable def onlyOwn (l : Ls) (x : Str) : Bool := l.all fun p => !p.2.own || p.1 == x
noncomputable def storable (k : Kd) (x : Str) : Bool := (k x == some .local || k x == some .cell) && nameOk x

/-- a tuple of constants alone -/
noncomputable def constTup : Expr → Bool
  | .Tuple vs _ _ => vs.all (constantsAlone 8)
  | _ => false
/-- a value to be stored: it holds no list that is written to -/
noncomputable def evS (g : Cfg) (k : Kd) (n : Nat) (l : Ls) (e : Expr) : W V :=
  let r := ev g k n l e
  if isAtom r.1 then r else ev g k n l.clean e

/-- a pair into two names -/
noncomputable def tupW (k : Kd) (l : Ls) (x y : Str) (e : Expr) (v : W V) : Fl × Ls × Prop := match v.1 with
  | .tup vs => (match vs with
    | [] => (.next, l, False)
    | a :: r => (match r with
      | [] => (.next, l, False)
      | b :: r2 => (match r2 with
        | [] => (.next, (l.put x ⟨a, false⟩).put y ⟨b, false⟩, v.2 ∧ constTup e = false ∧ isAtom a = true ∧ isAtom b = true ∧ storable k x = true ∧ storable k y = true ∧ x ≠ y)
        | _ :: _ => (.next, l, False))))
  | _ => (.next, l, False)
/-- an item of an own list -/
noncomputable def setW (l : Ls) (x : Str) (v j : W V) : Fl × Ls × Prop := match l.loc x with
  | some u => (match u.v with
    | .list xs => (match j.1 with
      | .int i => (.next, l.put x ⟨.list (xs.set i.toNat v.1), true⟩, v.2 ∧ j.2 ∧ isAtom v.1 = true ∧ 0 ≤ i ∧ i < xs.length ∧ xs.length ≤ lenLid ∧ u.own = true)
      | _ => (.next, l, False))
    | _ => (.next, l, False))
  | none => (.next, l, False)
/-- one more item of an own list -/
noncomputable def appW (l : Ls) (x name : Str) (v : W V) (c : Prop) : Fl × Ls × Prop := match l.loc x with
  | some u => (match u.v with
    | .list xs => (.next, l.put x ⟨.list (xs ++ [v.1]), true⟩, v.2 ∧ isAtom v.1 = true ∧ xs.length < lenLid ∧ u.own = true ∧ name = ("append" : Str) ∧ c)
    | _ => (.next, l, False))
  | none => (.next, l, False)
noncomputable def thenW (q : Fl × Ls × Prop) (f : Ls → Fl × Ls × Prop) : Fl × Ls × Prop := match q.1 with
  | .next => ((f q.2.1).1, (f q.2.1).2.1, q.2.2 ∧ (f q.2.1).2.2)
  | .ret u => (.ret u, q.2.1, q.2.2)
noncomputable def loopV (f : Ls → V → Fl × Ls × Prop) : Ls → List V → Fl × Ls × Prop
  | l, [] => (.next, l, True)
  | l, v :: r => thenW (f l v) fun l' => loopV f l' r
noncomputable def whileV (t : Ls → W Bool) (f : Ls → Fl × Ls × Prop) : Nat → Ls → Fl × Ls × Prop
  | 0, l => (.next, l, False)
  | n + 1, l => if (t l).1 then (let q := thenW (f l) fun l' => whileV t f n l'; (q.1, q.2.1, (t l).2 ∧ q.2.2)) else (.next, l, (t l).2)

noncomputable def asgW (k : Kd) (l : Ls) (e : Expr) (tg : Tg) (vc vs v : W V) (vi : Expr → W V) : Fl × Ls × Prop := match tg with
  | .name x =>
    if isNew e then (.next, l.put x ⟨vc.1, true⟩, vc.2 ∧ k x = some .local ∧ nameOk x = true ∧ onlyOwn l x = true)
    else (.next, l.put x ⟨vs.1, false⟩, vs.2 ∧ storable k x = true)
  | .pair x y => tupW k l x y e v
  | .sub x i => setW l x v (vi i)
  | .bad => (.next, l, False)
noncomputable def twoW (k : Kd) (l : Ls) (x y : Option Str) (v : W V) : Fl × Ls × Prop := match x with
  | some x => (match y with
    | some y => (.next, (l.put x ⟨v.1, false⟩).put y ⟨v.1, false⟩, v.2 ∧ isAtom v.1 = true ∧ storable k x = true ∧ storable k y = true)
    | none => (.next, l, False))
  | none => (.next, l, False)
noncomputable def augW (k : Kd) (l : Ls) (op : Operator) (x : Option Str) (a v : W V) : Fl × Ls × Prop := match x with
  | some x => (.next, l.put x ⟨(binV op a.1 v.1).1, false⟩, (l.at x).isSome = true ∧ v.2 ∧ (binV op a.1 v.1).2 ∧ augOk op a.1 v.1 = true ∧ storable k x = true)
  | none => (.next, l, False)
noncomputable def forW (k : Kd) (l : Ls) (x : Option Str) (q : W (List V)) (body : Ls → Fl × Ls × Prop) : Fl × Ls × Prop := match x with
  | some x =>
    let r := loopV (fun l v => let q := body (l.put x ⟨v, false⟩); (q.1, q.2.1, q.2.2 ∧ isAtom v = true)) l q.1
    (r.1, r.2.1, q.2 ∧ r.2.2 ∧ storable k x = true)
  | none => (.next, l, False)
noncomputable def apW (l : Ls) (o : Option (Str × Str × Expr × Bool)) (v : Expr → W V) : Fl × Ls × Prop := match o with
  | some (x, name, a, c) => appW l x name (v a) ((∀ y q, a ≠ .Starred y q) ∧ c = true)
  | none => (.next, l, False)

mutual
noncomputable def ex (g : Cfg) (k : Kd) : Nat → Ls → Stmt → Fl × Ls × Prop
  | 0, l, _ => (.next, l, False)
  | n + 1, l, s => match s with
    | .Return e _ => (match e with
      | some e => let v := ev g k n l e; (.ret v.1, l, v.2)
      | none => (.next, l, False))
    | .Assign ts e _ => (match ts with
      | [] => (.next, l, False)
      | t :: r => (match r with
        | [] => asgW k l e (tgV t) (ev g k n l.clean e) (evS g k n l e) (ev g k n l e) (fun i => ev g k n l i)
        | t2 :: r2 => (match r2 with
          | [] => twoW k l (nmE t) (nmE t2) (ev g k n l e)
          | _ :: _ => (.next, l, False))))
    | .AugAssign t op e _ => augW k l op (nmE t) (ev g k (n + 1) l t) (ev g k n l e)
    | .If t a b _ => let r := evT g k n l t; if r.1 then (let q := exs g k n l a; (q.1, q.2.1, r.2 ∧ q.2.2)) else (let q := exs g k n l b; (q.1, q.2.1, r.2 ∧ q.2.2))
    | .While t body orelse _ => (match orelse with
      | [] => whileV (fun l => evT g k n l t) (fun l => exs g k n l body) 100000 l
      | _ :: _ => (.next, l, False))
    | .For t it body orelse _ => (match orelse with
      | [] => forW k l (nmE t) (evI g k n l.clean it) (fun l => exs g k n l body)
      | _ :: _ => (.next, l, False))
    | .Expr e _ => apW l (apV e) (fun a => ev g k n l a)
    | _ => (.next, l, False)
noncomputable def exs (g : Cfg) (k : Kd) : Nat → Ls → List Stmt → Fl × Ls × Prop
  | 0, l, _ => (.next, l, False)
  | n + 1, l, ss => match ss with
    | [] => (.next, l, True)
    | s :: r => thenW (ex g k n l s) fun l' => exs g k n l' r
end
/-! what it comes to, form by form -/
section
variable {g : Cfg} {k : Kd} {n : Nat} {l : Ls} {a b t e : Expr} {p q : Pos} {es r : List Expr}
theorem ev_name {x : Str} : ev g k (n + 1) l (.Name x p) = match l.at x with
      | some v => (v, True)
      | none => match g.gl x with
        | some v => (v, kindOk k x = true)
        | none => no := rfl
theorem ev_nameL {x : Str} {v : V} (h : l.at x = some v) : ev g k (n + 1) l (.Name x p) = (v, True) := by rw [ev_name, h]
theorem ev_nameG {x : Str} {v : V} (h : l.at x = none) (h2 : g.gl x = some v) : ev g k (n + 1) l (.Name x p) = (v, kindOk k x = true) := by rw [ev_name, h, h2]
theorem ev_nameN {x : Str} (h : l.at x = none) (h2 : g.gl x = none) : ev g k (n + 1) l (.Name x p) = no := by rw [ev_name, h, h2]
theorem ev_bin {op : Operator} : ev g k (n + 1) l (.BinOp a op b p) = ((binV op (ev g k n l a).1 (ev g k n l b).1).1, (ev g k n l a).2 ∧ (ev g k n l b).2 ∧ (binV op (ev g k n l a).1 (ev g k n l b).1).2) := rfl
theorem ev_neg : ev g k (n + 1) l (.UnaryOp .USub a p) = ((negV (ev g k n l a).1).1, (ev g k n l a).2 ∧ (negV (ev g k n l a).1).2) := rfl
theorem ev_not : ev g k (n + 1) l (.UnaryOp .Not a p) = (.bool (!(truV (ev g k n l a).1).1), (ev g k n l a).2 ∧ (truV (ev g k n l a).1).2) := rfl
theorem ev_or : ev g k (n + 1) l (.BoolOp .Or [a, b] p) = if (truV (ev g k n l a).1).1 then ((ev g k n l a).1, (ev g k n l a).2 ∧ (truV (ev g k n l a).1).2) else ((ev g k n l b).1, (ev g k n l a).2 ∧ (truV (ev g k n l a).1).2 ∧ (ev g k n l b).2) := rfl
theorem ev_ife : ev g k (n + 1) l (.IfExp t a b p) = if (evT g k n l t).1 then ((ev g k n l a).1, (evT g k n l t).2 ∧ (ev g k n l a).2) else ((ev g k n l b).1, (evT g k n l t).2 ∧ (ev g k n l b).2) := rfl
theorem ev_cmp {op : CmpOp} : ev g k (n + 1) l (.Compare a [op] [b] p) = (.bool (cmpV g op (ev g k n l a).1 (ev g k n l b).1).1, (ev g k n l a).2 ∧ (ev g k n l b).2 ∧ (cmpV g op (ev g k n l a).1 (ev g k n l b).1).2 ∧ behindInMarks op b = false) := rfl
theorem ev_cut {lo hi st : Option Expr} : ev g k (n + 1) l (.Subscript a (.Slice lo hi st q) p) = ((cutV (ev g k n l a).1 (evO g k n l lo).1 (evO g k n l hi).1 (evO g k n l st).1).1, (ev g k n l a).2 ∧ (evO g k n l lo).2 ∧ (evO g k n l hi).2 ∧ (evO g k n l st).2 ∧ (cutV (ev g k n l a).1 (evO g k n l lo).1 (evO g k n l hi).1 (evO g k n l st).1).2) := rfl
theorem ev_item (hb : ∀ lo hi st q, b ≠ .Slice lo hi st q) : ev g k (n + 1) l (.Subscript a b p) = ((itemV (ev g k n l a).1 (ev g k n l b).1).1, (ev g k n l a).2 ∧ (ev g k n l b).2 ∧ (itemV (ev g k n l a).1 (ev g k n l b).1).2) := by
  cases b <;> first | rfl | exact absurd rfl (hb _ _ _ _)
theorem ev_dict {ks : List (Option Expr)} : ev g k (n + 1) l (.Dict ks es p) = dictV (constPairs ks es) := rfl
theorem ev_list : ev g k (n + 1) l (.List es p) = (.list (evs g k n l es).1, (evs g k n l es).2 ∧ (evs g k n l es).1.length ≤ lenLid) := rfl
theorem ev_tup {c : Nat} : ev g k (n + 1) l (.Tuple es c p) = (.tup (evs g k n l es).1, (evs g k n l es).2 ∧ (evs g k n l es).1.length ≤ lenLid) := rfl
theorem ev_comp0 {x : Str} {scope : Scope} : ev g k (n + 1) l (.ListComp a [⟨.Name x q, b, [], 0⟩] scope p) =
    (.list ((evI g k n l b).1.map fun v => (ev g (inKind k scope) n ((l.capt (inKind k scope)).put x ⟨v, false⟩) a).1), (evI g k n l b).2 ∧ (targetOk scope x = true ∧ nameOk x = true) ∧ ev.scopeOk k l scope x = true ∧ (evI g k n l b).1.length ≤ lenLid ∧
      ∀ v ∈ (evI g k n l b).1, (ev g (inKind k scope) n ((l.capt (inKind k scope)).put x ⟨v, false⟩) a).2) := rfl
theorem ev_comp1 {x : Str} {scope : Scope} : ev g k (n + 1) l (.ListComp a [⟨.Name x q, b, [t], 0⟩] scope p) =
    (.list (((evI g k n l b).1.filter fun v => (evT g (inKind k scope) n ((l.capt (inKind k scope)).put x ⟨v, false⟩) t).1).map fun v => (ev g (inKind k scope) n ((l.capt (inKind k scope)).put x ⟨v, false⟩) a).1), (evI g k n l b).2 ∧ (targetOk scope x = true ∧ nameOk x = true) ∧ ev.scopeOk k l scope x = true ∧ (evI g k n l b).1.length ≤ lenLid ∧
      ∀ v ∈ (evI g k n l b).1, (evT g (inKind k scope) n ((l.capt (inKind k scope)).put x ⟨v, false⟩) t).2 ∧ ((evT g (inKind k scope) n ((l.capt (inKind k scope)).put x ⟨v, false⟩) t).1 = true → (ev g (inKind k scope) n ((l.capt (inKind k scope)).put x ⟨v, false⟩) a).2)) := rfl
theorem ev_meth {name : Str} : ev g k (n + 1) l (.Call (.Attribute a name q) es [] p) = ((methV g (ev g k n l a).1 name (evs g k n l es).1).1, (ev g k n l a).2 ∧ (evs g k n l es).2 ∧ (methV g (ev g k n l a).1 name (evs g k n l es).1).2 ∧ (q.endLine == p.line) = true ∧ baseOk a = true ∧ es.length ≤ 3) := rfl
theorem ev_call {f : Str} : ev g k (n + 1) l (.Call (.Name f q) es [] p) = callW g.fn k l f es (evs g k n l es) (fun e => evI g k n l e) := rfl
theorem ev_comp {gs : List Comprehension} {scope : Scope} : ev g k (n + 1) l (.ListComp a gs scope p) = compW k l scope (gnV gs) (fun it => evI g k n l it) (fun l' => ev g (inKind k scope) n l' a) (fun l' t => evT g (inKind k scope) n l' t) := rfl
theorem evT_not : evT g k (n + 1) l (.UnaryOp .Not a p) = (!(evT g k n l a).1, (evT g k n l a).2) := rfl
theorem evT_and : evT g k (n + 1) l (.BoolOp .And es p) = evAnd g k n l es := rfl
theorem evT_or : evT g k (n + 1) l (.BoolOp .Or es p) = evOr g k n l es := rfl
theorem evT_cmp {op : CmpOp} : evT g k (n + 1) l (.Compare a [op] [b] p) = ((cmpV g op (ev g k n l a).1 (ev g k n l b).1).1, (ev g k n l a).2 ∧ (ev g k n l b).2 ∧ (cmpV g op (ev g k n l a).1 (ev g k n l b).1).2 ∧ behindInMarks op b = false) := rfl
theorem evT_cmp2 {o1 o2 : CmpOp} {c : Expr} : evT g k (n + 1) l (.Compare a [o1, o2] [b, c] p) = if (cmpV g o1 (ev g k n l a).1 (ev g k n l b).1).1 then
      ((cmpV g o2 (ev g k n l b).1 (ev g k n l c).1).1, (ev g k n l a).2 ∧ (ev g k n l b).2 ∧ (cmpV g o1 (ev g k n l a).1 (ev g k n l b).1).2 ∧ (ev g k n l c).2 ∧ (cmpV g o2 (ev g k n l b).1 (ev g k n l c).1).2 ∧ lastMarks [o1, o2] [b, c] = false)
    else (false, (ev g k n l a).2 ∧ (ev g k n l b).2 ∧ (cmpV g o1 (ev g k n l a).1 (ev g k n l b).1).2 ∧ lastMarks [o1, o2] [b, c] = false) := rfl
theorem evT_ife : evT g k (n + 1) l (.IfExp t a b p) = if (evT g k n l t).1 then ((evT g k n l a).1, (evT g k n l t).2 ∧ (evT g k n l a).2) else ((evT g k n l b).1, (evT g k n l t).2 ∧ (evT g k n l b).2) := rfl
theorem evAnd_cons : evAnd g k (n + 1) l (e :: r) = if (evT g k n l e).1 then ((evAnd g k n l r).1, (evT g k n l e).2 ∧ (evAnd g k n l r).2) else (false, (evT g k n l e).2) := rfl
theorem evOr_cons : evOr g k (n + 1) l (e :: r) = if (evT g k n l e).1 then (true, (evT g k n l e).2) else ((evOr g k n l r).1, (evT g k n l e).2 ∧ (evOr g k n l r).2) := rfl
theorem evs_cons (he : ∀ x p, e ≠ .Starred x p) : evs g k (n + 1) l (e :: r) = ((ev g k n l e).1 :: (evs g k n l r).1, (ev g k n l e).2 ∧ (evs g k n l r).2) := by
  cases e <;> first | rfl | exact absurd rfl (he _ _)
theorem evI_range {f : Str} : evI g k (n + 1) l (.Call (.Name f q) es [] p) = if f = ("range" : Str) then ((rangeOf (evs g k n l es).1).1, (evs g k n l es).2 ∧ (rangeOf (evs g k n l es).1).2 ∧ l.at f = none ∧ kindOk k f = true) else ([], False) := rfl
theorem evI_nameX {x : Str} : evI g k (n + 1) l (.Name x p) = ((itemsV (ev g k n l (.Name x p)).1).1, isSrc (.Name x p) = true ∧ (ev g k n l (.Name x p)).2 ∧ (itemsV (ev g k n l (.Name x p)).1).2) := rfl
theorem evI_src (h : callV e = none) : evI g k (n + 1) l e = ((itemsV (ev g k n l e).1).1, isSrc e = true ∧ (ev g k n l e).2 ∧ (itemsV (ev g k n l e).1).2) := by
  have : evI g k (n + 1) l e = match callV e with
    | some (f, args) =>
      if f = ("range" : Str) then ((rangeOf (evs g k n l args).1).1, (evs g k n l args).2 ∧ (rangeOf (evs g k n l args).1).2 ∧ l.at f = none ∧ kindOk k f = true)
      else ([], False)
    | none => ((itemsV (ev g k n l e).1).1, isSrc e = true ∧ (ev g k n l e).2 ∧ (itemsV (ev g k n l e).1).2) := rfl
  rw [this, h]
end
/-! statements -/
section
variable {g : Cfg} {k : Kd} {n : Nat} {l : Ls} {e i t : Expr} {p q u : Pos} {x y : Str} {b c : List Stmt} {s : Stmt}
theorem ex_ret : ex g k (n + 1) l (.Return (some e) p) = (.ret (ev g k n l e).1, l, (ev g k n l e).2) := rfl
theorem ex_asg1 : ex g k (n + 1) l (.Assign [t] e p) = asgW k l e (tgV t) (ev g k n l.clean e) (evS g k n l e) (ev g k n l e) (fun i => ev g k n l i) := rfl
theorem ex_asgT {t2 : Expr} : ex g k (n + 1) l (.Assign [t, t2] e p) = twoW k l (nmE t) (nmE t2) (ev g k n l e) := rfl
theorem ex_augT {op : Operator} : ex g k (n + 1) l (.AugAssign t op e p) = augW k l op (nmE t) (ev g k (n + 1) l t) (ev g k n l e) := rfl
theorem ex_forT : ex g k (n + 1) l (.For t e b [] p) = forW k l (nmE t) (evI g k n l.clean e) (fun l => exs g k n l b) := rfl
theorem ex_expT : ex g k (n + 1) l (.Expr e p) = apW l (apV e) (fun a => ev g k n l a) := rfl
theorem ex_asg : ex g k (n + 1) l (.Assign [.Name x q] e p) = if isNew e then (.next, l.put x ⟨(ev g k n l.clean e).1, true⟩, (ev g k n l.clean e).2 ∧ k x = some .local ∧ nameOk x = true ∧ onlyOwn l x = true)
      else (.next, l.put x ⟨(evS g k n l e).1, false⟩, (evS g k n l e).2 ∧ storable k x = true) := rfl
theorem ex_asg2 : ex g k (n + 1) l (.Assign [.Name x q, .Name y u] e p) = (.next, (l.put x ⟨(ev g k n l e).1, false⟩).put y ⟨(ev g k n l e).1, false⟩, (ev g k n l e).2 ∧ isAtom (ev g k n l e).1 = true ∧ storable k x = true ∧ storable k y = true) := rfl
theorem ex_tup0 {tp : Pos} {j : Nat} : ex g k (n + 1) l (.Assign [.Tuple [.Name x q, .Name y u] j tp] e p) = tupW k l x y e (ev g k n l e) := rfl
theorem ex_set0 {tp : Pos} : ex g k (n + 1) l (.Assign [.Subscript (.Name x q) i tp] e p) = setW l x (ev g k n l e) (ev g k n l i) := rfl
theorem ex_aug0 {op : Operator} : ex g k (n + 1) l (.AugAssign (.Name x q) op e p) = (.next, l.put x ⟨(binV op (ev g k (n + 1) l (.Name x q)).1 (ev g k n l e).1).1, false⟩, (l.at x).isSome = true ∧ (ev g k n l e).2 ∧ (binV op (ev g k (n + 1) l (.Name x q)).1 (ev g k n l e).1).2 ∧ augOk op (ev g k (n + 1) l (.Name x q)).1 (ev g k n l e).1 = true ∧ storable k x = true) := rfl
theorem ex_if0 : ex g k (n + 1) l (.If t b c p) = if (evT g k n l t).1 then ((exs g k n l b).1, (exs g k n l b).2.1, (evT g k n l t).2 ∧ (exs g k n l b).2.2) else ((exs g k n l c).1, (exs g k n l c).2.1, (evT g k n l t).2 ∧ (exs g k n l c).2.2) := rfl
theorem ex_while0 : ex g k (n + 1) l (.While t b [] p) = whileV (fun l => evT g k n l t) (fun l => exs g k n l b) 100000 l := rfl
theorem ex_for0 : ex g k (n + 1) l (.For (.Name x q) e b [] p) =
      ((loopV (fun l v => ((exs g k n (l.put x ⟨v, false⟩) b).1, (exs g k n (l.put x ⟨v, false⟩) b).2.1, (exs g k n (l.put x ⟨v, false⟩) b).2.2 ∧ isAtom v = true)) l (evI g k n l.clean e).1).1,
       (loopV (fun l v => ((exs g k n (l.put x ⟨v, false⟩) b).1, (exs g k n (l.put x ⟨v, false⟩) b).2.1, (exs g k n (l.put x ⟨v, false⟩) b).2.2 ∧ isAtom v = true)) l (evI g k n l.clean e).1).2.1,
       (evI g k n l.clean e).2 ∧ (loopV (fun l v => ((exs g k n (l.put x ⟨v, false⟩) b).1, (exs g k n (l.put x ⟨v, false⟩) b).2.1, (exs g k n (l.put x ⟨v, false⟩) b).2.2 ∧ isAtom v = true)) l (evI g k n l.clean e).1).2.2 ∧ storable k x = true) := rfl
theorem ex_app0 {name : Str} {ap tp : Pos} {xp : Pos} {a : Expr} : ex g k (n + 1) l (.Expr (.Call (.Attribute (.Name x xp) name ap) [a] [] tp) p) = appW l x name (ev g k n l a) ((∀ y q, a ≠ .Starred y q) ∧ (ap.endLine == tp.line) = true) := rfl
theorem exs_cons : exs g k (n + 1) l (s :: b) = thenW (ex g k n l s) fun l' => exs g k n l' b := rfl
theorem loopV_cons {f : Ls → V → Fl × Ls × Prop} {v : V} {r : List V} : loopV f l (v :: r) = thenW (f l v) fun l' => loopV f l' r := rfl
theorem whileV_succ {w : Ls → W Bool} {f : Ls → Fl × Ls × Prop} : whileV w f (n + 1) l = if (w l).1 then ((thenW (f l) fun l' => whileV w f n l').1, (thenW (f l) fun l' => whileV w f n l').2.1, (w l).2 ∧ (thenW (f l) fun l' => whileV w f n l').2.2) else (.next, l, (w l).2) := rfl
end
end Mine
namespace Mine
open PySem PySem.W PyProof.Rows PySem.Calls

theorem filterMap_range {α : Type} (xs : List α) : ∀ (k a : Nat), ((List.range k).map fun j => a + j).filterMap (fun i => xs[i]?) = (xs.drop a).take k
  | 0, a => by simp
  | k + 1, a => by
    rw [List.range_succ, List.map_append, List.filterMap_append, filterMap_range xs k a]
    by_cases h : a + k < xs.length
    · rw [List.take_succ]; simp [h]
    · have e : xs[a + k]? = none := List.getElem?_eq_none (by omega)
      rw [List.take_succ]; simp [e]
theorem sliceRange_one (a b : Nat) : sliceRange a b 1 = (List.range (b - a)).map fun j => a + j := by
  unfold sliceRange
  simp only [show (1 : Int) > 0 from by decide, if_true]
  by_cases h : (a : Int) < b
  · rw [if_pos h]
    have : ((b : Int) - a + 1 - 1) / 1 = ((b - a : Nat) : Int) := by rw [Int.ediv_one]; omega
    rw [this]
    simp only [Int.toNat_natCast]
    apply List.map_congr_left
    intro k _
    omega
  · rw [if_neg h]
    have : b - a = 0 := by omega
    rw [this]; rfl
/-- what a part of a slice is -/
noncomputable def partV : V → Option (Option Int)
  | .none => some none
  | .int i => some (some i)
  | _ => none
theorem cast_min (a b : Nat) : ((min a b : Nat) : Int) = min (a : Int) b := by
  rcases Nat.le_total a b with h | h
  · rw [Nat.min_eq_left h, Int.min_eq_left (Int.ofNat_le.mpr h)]
  · rw [Nat.min_eq_right h, Int.min_eq_right (Int.ofNat_le.mpr h)]
theorem clip_is {n : Nat} {i : Int} : max (0 : Int) (min (if i < 0 then i + (n : Int) else i) n) = ((if i < 0 then (i + n).toNat else min i.toNat n : Nat) : Int) := by
  by_cases hi : i < 0
  · have h : i + (n : Int) ≤ n := by
      have := Int.add_le_add_right (Int.le_of_lt hi) (n : Int)
      rwa [Int.zero_add] at this
    rw [if_pos hi, if_pos hi, Int.ofNat_toNat, Int.max_comm, Int.min_eq_left h]
  · rw [if_neg hi, if_neg hi]
    obtain ⟨k, rfl⟩ := Int.eq_ofNat_of_zero_le (Int.not_lt.mp hi)
    rw [Int.toNat_natCast, cast_min, ← cast_min, Int.max_eq_right (Int.natCast_nonneg _)]
theorem clip_lo {n : Nat} {v : V} {o : Option Int} (h : partV v = some o) : (match o with | none => (0 : Int) | some i => max 0 (min (if i < 0 then i + (n : Int) else i) n)) = ((clip n 0 v).1 : Int) ∧ (clip n 0 v).2 := by
  cases v <;> simp only [partV] at h <;> first | cases h | (obtain rfl := Option.some.inj h; clear h)
  · exact ⟨rfl, trivial⟩
  · rename_i i
    exact ⟨clip_is, trivial⟩
theorem clip_hi {n : Nat} {v : V} {o : Option Int} (h : partV v = some o) : (match o with | none => (n : Int) | some i => max 0 (min (if i < 0 then i + (n : Int) else i) n)) = ((clip n n v).1 : Int) ∧ (clip n n v).2 := by
  cases v <;> simp only [partV] at h <;> first | cases h | (obtain rfl := Option.some.inj h; clear h)
  · exact ⟨rfl, trivial⟩
  · rename_i i
    exact ⟨clip_is, trivial⟩
theorem clip_part {n d : Nat} {v : V} (h : (clip n d v).2) : ∃ o, partV v = some o := by
  cases v <;> first | exact ⟨_, rfl⟩ | exact h.elim
theorem indices_one {n : Nat} {lo hi : V} {l h : Option Int} (el : partV lo = some l) (eh : partV hi = some h) :
    Builtin.Str.strSliceIndices l h 1 n = (List.range ((clip n n hi).1 - (clip n 0 lo).1)).map fun j => (clip n 0 lo).1 + j := by
  rw [← sliceRange_one, ← (clip_lo (n := n) el).1, ← (clip_hi (n := n) eh).1]
  unfold Builtin.Str.strSliceIndices
  cases l <;> cases h <;> rfl
theorem bounds_one {n : Nat} {lo hi : V} {l h : Option Int} (el : partV lo = some l) (eh : partV hi = some h) :
    sliceRange (sliceBounds l h none n).1 (sliceBounds l h none n).2.1 (sliceBounds l h none n).2.2 = (List.range ((clip n n hi).1 - (clip n 0 lo).1)).map fun j => (clip n 0 lo).1 + j := by
  rw [← sliceRange_one, ← (clip_lo (n := n) el).1, ← (clip_hi (n := n) eh).1]
  unfold sliceBounds
  cases l <;> cases h <;> rfl
theorem drop_take' {α : Type} (xs : List α) (a b : Nat) : (xs.drop a).take (b - a) = (xs.take b).drop a := by
  rw [List.drop_take]
end Mine
namespace Mine
open PySem PySem.W PyProof.Rows PySem.Calls
/-! dicts of texts and ints -/
noncomputable def kvD (kv : List (List Nat × Int)) : List (PyData × PyData) := kv.map fun p => (.str ⟨p.1.toArray⟩, .int p.2)
theorem lookup_kvD (x : List Nat) : ∀ kv : List (List Nat × Int), Spec.lookup (.str ⟨x.toArray⟩) (kvD kv) = (kv.lookup x).map PyData.int
  | [] => rfl
  | (y, i) :: r => by
    show (if Spec.same (.str ⟨y.toArray⟩) (.str ⟨x.toArray⟩) then some (PyData.int i) else Spec.lookup _ (kvD r)) = _
    rw [PyProof.V.same_str, lookup_kvD x r, List.lookup_cons]
    by_cases h : x = y
    · subst h; simp
    · have h2 : (x == y) = false := by simpa using h
      have h3 : ¬ (⟨y.toArray⟩ : Str) = ⟨x.toArray⟩ := by
        intro e; apply h; have := congrArg (fun z : Str => z.cps.toList) e; simpa using this.symm
      rw [h2, decide_eq_false h3]; rfl
section
variable {prog : Program} {w : World} {h : Heap} {a : Addr}
/-- the kit's form of the entries -/
noncomputable def KvRel : List (Str × Value) → List (List Nat × Int) → Prop
  | [], [] => True
  | p :: r, q :: s => p.1 = ⟨q.1.toArray⟩ ∧ (∃ t, p.2 = .int q.2 t) ∧ KvRel r s
  | _, _ => False
theorem KvRel.keys : ∀ {kvs : List (Str × Value)} {kv : List (List Nat × Int)}, KvRel kvs kv → kvs.map (·.1) = kv.map fun p => (⟨p.1.toArray⟩ : Str)
  | [], [], _ => rfl
  | p :: r, q :: s, h => by rw [List.map_cons, List.map_cons, h.1, KvRel.keys h.2.2]
  | [], _ :: _, h => h.elim
  | _ :: _, [], h => h.elim
theorem KvRel.flat : ∀ {kvs : List (Str × Value)} {kv : List (List Nat × Int)}, KvRel kvs kv → PyProof.V.FlatPairs PyData.str kvs (kvD kv)
  | [], [], _ => .nil
  | (k, v) :: r, q :: s, h => by
    obtain ⟨h1, ⟨t, h2⟩, h3⟩ := h
    simp only at h1 h2
    subst h1 h2
    exact .cons (PyProof.V.Flat.int _ _) (KvRel.flat h3)
  | [], _ :: _, h => h.elim
  | _ :: _, [], h => h.elim
theorem ents_pairs : ∀ {es : List DictEntry} {kv : List (List Nat × Int)}, IntEnts w.params es kv →
    ∃ kvs, Pairs (PySem.strKind prog w) es kvs ∧ (∀ e ∈ es, ∃ k, (PySem.strKind prog w).is k e.key = true ∧ e.hash = (PySem.strKind prog w).hash k) ∧ KvRel kvs kv
  | [], [], _ => ⟨[], .nil, (fun _ h => nomatch h), trivial⟩
  | e :: es, p :: ps, h => by
    obtain ⟨⟨t, t', rfl⟩, h2⟩ := h
    obtain ⟨kvs, q1, q2, q3⟩ := ents_pairs h2
    refine ⟨(⟨p.1.toArray⟩, .int p.2 t') :: kvs, .cons (strKind_is prog w _ t) rfl q1, fun e he => ?_, rfl, ⟨t', rfl⟩, q3⟩
    rcases List.mem_cons.mp he with rfl | he
    · exact ⟨⟨p.1.toArray⟩, strKind_is prog w _ t, rfl⟩
    · exact q2 e he
  | [], _ :: _, h => h.elim
  | _ :: _, [], h => h.elim
theorem arr_inj : ∀ {l : List (List Nat)}, l.Nodup → (l.map fun p => (⟨p.toArray⟩ : Str)).Nodup
  | [], _ => List.nodup_nil
  | x :: r, h => by
    rw [List.nodup_cons] at h
    rw [List.map_cons, List.nodup_cons]
    refine ⟨fun q => h.1 ?_, arr_inj h.2⟩
    obtain ⟨y, hy, e⟩ := List.mem_map.mp q
    have := congrArg (fun z : Str => z.cps.toList) e
    simp only at this
    rw [← this]; exact hy
theorem arr_inj' : ∀ {l : List (List Nat)}, (l.map fun p => (⟨p.toArray⟩ : Str)).Nodup → l.Nodup
  | [], _ => List.nodup_nil
  | x :: r, h => by
    rw [List.map_cons, List.nodup_cons] at h
    rw [List.nodup_cons]
    exact ⟨fun q => h.1 (List.mem_map.mpr ⟨x, q, rfl⟩), arr_inj' h.2⟩
theorem map_keys (kv : List (List Nat × Int)) : (kv.map fun p => (⟨p.1.toArray⟩ : Str)) = (kv.map (·.1)).map fun p => (⟨p.toArray⟩ : Str) := by
  rw [List.map_map]; rfl
theorem IsIntDict.dictOf {kv : List (List Nat × Int)} (x : IsIntDict w.params h a kv) : ∃ kvs, h.DictOf (PySem.strKind prog w) a kvs ∧ KvRel kvs kv := by
  obtain ⟨es, n, g, i, lo, nd⟩ := x
  obtain ⟨kvs, q1, q2, q3⟩ := ents_pairs (prog := prog) i
  refine ⟨kvs, ⟨_, es, n, g, ⟨rfl, rfl, rfl⟩, rfl, fun e he => q2 e (Array.mem_toList_iff.mpr he), q1, ?_⟩, q3⟩
  rw [q3.keys, map_keys]; exact arr_inj nd
theorem IsIntDict.tab {kv : List (List Nat × Int)} (x : IsIntDict w.params h a kv) : StrTab prog w h a (kvD kv) := by
  obtain ⟨kvs, d, r⟩ := x.dictOf (prog := prog)
  exact ⟨x.choose_spec.choose_spec.2.2.1, kvs, d, r.flat⟩
theorem pairs_ents : ∀ {es : List DictEntry} {kvs : List (Str × Value)} {kv : List (List Nat × Int)}, Pairs (PySem.strKind prog w) es kvs → KvRel kvs kv →
    (∀ e ∈ es, ∃ k, (PySem.strKind prog w).is k e.key = true ∧ e.hash = (PySem.strKind prog w).hash k) → IntEnts w.params es kv
  | _, _, [], .nil, _, _ => trivial
  | _, _, _ :: _, .nil, h, _ => h.elim
  | _, _, [], .cons _ _ _, h, _ => h.elim
  | _, _, q :: s, .cons (e := e) (kv := p) h1 h2 h3, h, hk => by
    obtain ⟨r1, ⟨t', r2⟩, r3⟩ := h
    refine ⟨?_, pairs_ents h3 r3 fun e he => hk e (.tail _ he)⟩
    obtain ⟨k, k1, k2⟩ := hk e (.head _)
    have ek := (PySem.strKind prog w).inj _ _ _ k1 h1
    subst ek
    obtain ⟨t, ht⟩ := Value.isStrOf_shape h1
    refine ⟨t, t', ?_⟩
    obtain ⟨hh, key, val⟩ := e
    simp only at ht h2 k2
    rw [ht, h2, k2, r1, r2]; rfl
theorem IsIntDict.of {kvs : List (Str × Value)} {kv : List (List Nat × Int)} (x : h.DictOf (PySem.strKind prog w) a kvs) (lo : (a == sysModules) = false) (r : KvRel kvs kv) : IsIntDict w.params h a kv := by
  obtain ⟨o, es, ep, g, ⟨c1, c2, c3⟩, hd, hk, hp, hn⟩ := x
  obtain ⟨cls, dict, data, slots⟩ := o
  simp only at c1 c2 c3 hd
  subst c1 c2 c3 hd
  refine ⟨es, ep, g, pairs_ents hp r fun e he => hk e (Array.mem_toList_iff.mp he), lo, ?_⟩
  rw [r.keys, map_keys] at hn; exact arr_inj' hn
end
section
variable {prog : Program} {w : World} {A : Around} {s : Shared} {mu : List Addr} {kv : List (List Nat × Int)} {x : List Nat} {wa wb : Value}
theorem in_dict (ra : Rep w.params mu s.heap (.str x) wa) (rb : Rep w.params mu s.heap (.dict kv) wb) : Tr prog w A (compareOp .In wa wb) s (fun v _ => v = .bool (kv.lookup x).isSome) := by
  unfold Rep at ra rb; obtain ⟨t, rfl⟩ := ra; obtain ⟨a, rfl, _, d⟩ := rb
  refine Tr.of fun R k => in_strTab d.tab ?_
  rw [lookup_kvD, Option.isSome_map]
  exact k _ s.heap _ same_heap rfl
theorem item_dict (hx : (kv.lookup x).isSome = true) (ra : Rep w.params mu s.heap (.dict kv) wa) (rb : Rep w.params mu s.heap (.str x) wb) :
    s.TypeIs wa "dict" ∧ Tr prog w A (getItem wa wb) s (fun v h => Rep w.params mu h (.int ((kv.lookup x).getD 0)) v) := by
  unfold Rep at ra rb; obtain ⟨t, rfl⟩ := rb; obtain ⟨a, rfl, _, d⟩ := ra
  obtain ⟨lo, kvs, hd, hf⟩ := d.tab (prog := prog)
  refine ⟨hd.typeIs, Tr.of fun R k => ?_⟩
  obtain ⟨i, hi⟩ := Option.isSome_iff_exists.mp hx
  obtain ⟨v, hv, hfl⟩ := hf.of_lookup (k := ⟨x.toArray⟩) PyProof.V.same_str (by rw [lookup_kvD, hi]; rfl)
  refine wpAny_getItem_of (strKind_is prog w _ t) hd.mapOf hv (k v s.heap _ same_heap ?_)
  rw [hi]
  unfold Rep; exact hfl.int_inv
end
/-! a display of 17 constants -/
section
variable {prog : Program} {w : World} {A : Around}
noncomputable def GivesKv (prog : Program) (w : World) (A : Around) : List (Sem Value × Sem Value) → List (List Nat × Int) → Prop
  | [], [] => True
  | p :: r, q :: s => (∀ (s : Shared) (Q : Value → Shared → Prop) (E : Value → Shared → Prop), (∀ t tk, Q (.str ⟨q.1.toArray⟩ t) { s with toks := tk }) → wpAny (model prog w) A p.1 Q E s) ∧
      (∀ (s : Shared) (Q : Value → Shared → Prop) (E : Value → Shared → Prop), (∀ t tk, Q (.int q.2 t) { s with toks := tk }) → wpAny (model prog w) A p.2 Q E s) ∧ GivesKv prog w A r s
  | _, _ => False
theorem GivesKv.length : ∀ {ps : List (Sem Value × Sem Value)} {kv : List (List Nat × Int)}, GivesKv prog w A ps kv → ps.length = kv.length
  | [], [], _ => rfl
  | _ :: r, _ :: s, h => by rw [List.length_cons, List.length_cons, GivesKv.length h.2.2]
  | [], _ :: _, h => h.elim
  | _ :: _, [], h => h.elim
theorem keyC_form {k : Option Expr} {x : List Nat} (h : keyC k = some x) : ∃ s a p, k = some (.Constant (.str s) a p) ∧ x = s.cps.toList := by
  unfold keyC at h
  split at h
  · split at h
    · split at h
      · exact ⟨_, _, _, rfl, (Option.some.inj h).symm⟩
      · cases h
    · cases h
  · cases h
theorem valC_form {e : Expr} {i : Int} (h : valC e = some i) : ∃ a p, e = .Constant (.int i) a p := by
  unfold valC at h
  split at h
  · split at h
    · obtain rfl := Option.some.inj h
      exact ⟨_, _, rfl⟩
    · cases h
  · cases h
theorem pairs_shape {env : Env} {pos : Pos} : ∀ {ks : List (Option Expr)} {vs : List Expr} {kv : List (List Nat × Int)}, constPairs ks vs = some kv →
    ∃ ps : List (Sem Value × Sem Value), (evalEachOpt ks env).zip ((evalEach vs env).map fun v => do let x ← v; standAt pos; pure x) = ps.map (fun p => (some p.1, p.2)) ∧ GivesKv prog w A ps kv
  | [], [], kv, h => by cases h; exact ⟨[], rfl, trivial⟩
  | k :: ks, v :: vs, kv, h => by
    have h : (keyC k).bind (fun x => (valC v).bind fun i => (constPairs ks vs).map fun r => (x, i) :: r) = some kv := h
    obtain ⟨x, hx, h⟩ := Option.bind_eq_some_iff.mp h
    obtain ⟨i, hi, h⟩ := Option.bind_eq_some_iff.mp h
    obtain ⟨kv', h', rfl⟩ := Option.map_eq_some_iff.mp h
    obtain ⟨x, a, pa, rfl, rfl⟩ := keyC_form hx
    obtain ⟨b, pb, rfl⟩ := valC_form hi
    obtain ⟨ps, e, g⟩ := pairs_shape (env := env) (pos := pos) h'
    refine ⟨(eval (.Constant (.str x) a pa) env, (do let x ← eval (.Constant (.int i) b pb) env; standAt pos; pure x)) :: ps, ?_, ?_, ?_, g⟩
    · show (some (eval (.Constant (.str x) a pa) env), _) :: List.zip (evalEachOpt ks env) _ = _
      rw [e]; rfl
    · intro s Q E k
      exact Calls.Constant_str (env := env) (k := a) (pos := pa) (k s.toks (s.toks + 1))
    · intro s Q E k
      refine wpAny_bind ?_
      show wpAny _ A (eval (.Constant (.int i) b pb) env) _ E s
      exact fun Γ p hΓ => (wpAny_bind (wpAny_standAt (wpAny_pure (k s.toks (s.toks + 1)))) : wpAny (model prog w) A (do standAt pos; pure (Value.int i s.toks)) Q E { s with toks := s.toks + 1 })
  | [], _ :: _, kv, h => by cases h
  | _ :: _, [], kv, h => by cases h
theorem forIn_gather17 (f : (Option (Sem Value) × Sem Value) → (Option Addr × List (Sem Value × Sem Value)) → Sem (ForInStep (Option Addr × List (Sem Value × Sem Value)))) (F : List (Sem Value × Sem Value) → Sem (Option Addr))
    (hf : ∀ (p : Sem Value × Sem Value) (run : List (Sem Value × Sem Value)), run.length + 1 < 17 → f (some p.1, p.2) (none, run) = pure (.yield (none, run ++ [p])))
    (hl : ∀ (p : Sem Value × Sem Value) (run : List (Sem Value × Sem Value)), run.length + 1 = 17 → f (some p.1, p.2) (none, run) = (F (run ++ [p]) >>= fun m => pure (.yield (m, [])))) :
    ∀ (items run : List (Sem Value × Sem Value)), items ≠ [] → run.length + items.length = 17 → forIn (items.map fun p => (some p.1, p.2)) ((none : Option Addr), run) f = (F (run ++ items) >>= fun m => pure (m, []))
  | [], run, h, _ => absurd rfl h
  | [p], run, _, h => by
    rw [List.map_cons, List.forIn_cons, hl p run (by simpa using h)]
    simp
  | p :: q :: rest, run, _, h => by
    rw [List.map_cons, List.forIn_cons, hf p run (by simp at h; omega), pure_bind]
    have := forIn_gather17 f F hf hl (q :: rest) (run ++ [p]) (by simp) (by simp at h ⊢; omega)
    simpa using this
theorem dictDisplay17 (pairs : List (Sem Value × Sem Value)) (hlen : pairs.length = 17) :
    dictDisplay (pairs.map fun p => (some p.1, p.2)) = (do let d ← subDict pairs; pure (.ref d)) := by
  have h0 : pairs ≠ [] := by intro e; rw [e] at hlen; cases hlen
  unfold dictDisplay
  dsimp only
  rw [forIn_gather17 _ (fun run => do let d ← subDict run; pure (some d)) (fun p run h => by
    have hne : ((run ++ [(p.1, p.2)]).length == 17) = false := by simp; omega
    simp only [hne, Bool.false_eq_true, if_false]) (fun p run h => by
    have hne : ((run ++ [(p.1, p.2)]).length == 17) = true := by simp; omega
    have hn2 : (run ++ [(p.1, p.2)]).isEmpty = false := by simp
    simp only [hne, hn2, Bool.false_eq_true, if_false, if_true]) pairs [] h0 (by simpa using hlen)]
  simp
theorem stored_new {acc : List (Str × Value)} {k : Str} {v : Value} (h : k ∉ acc.map (·.1)) : stored acc k v = acc ++ [(k, v)] := by
  unfold stored
  rw [if_neg]
  rw [List.any_eq_true]
  rintro ⟨kv, hkv, he⟩
  exact h (List.mem_map.mpr ⟨kv, hkv, of_decide_eq_true he⟩)
theorem long_loop {d : Addr} {E : Value → Shared → Prop} (f : (Sem Value × Sem Value) → PUnit → Sem (ForInStep PUnit)) (hf : ∀ p, f p PUnit.unit = (do let kv ← p.1; let vv ← holding [kv] p.2; holding [kv, vv] (dictSet d kv vv); pure (ForInStep.yield PUnit.unit))) :
    ∀ (ps : List (Sem Value × Sem Value)) (kv : List (List Nat × Int)) (acc : List (Str × Value)) (s : Shared) (Q : PUnit → Shared → Prop), GivesKv prog w A ps kv → s.heap.DictOf (PySem.strKind prog w) d acc → (∀ q ∈ kv, (⟨q.1.toArray⟩ : Str) ∉ acc.map (·.1)) →
      (kv.map (·.1)).Nodup → acc.length + kv.length ≤ 100 → (∀ vals h' tk, KvRel vals kv → h'.DictOf (PySem.strKind prog w) d (acc ++ vals) → Heap.SameBut d s.heap h' → Q PUnit.unit { s with heap := h', toks := tk }) → wpAny (model prog w) A (forIn ps PUnit.unit f) Q E s
  | [], [], acc, s, Q, _, hm, _, _, _, hQ => by
    rw [List.forIn_nil]
    exact wpAny_pure (hQ [] s.heap s.toks trivial (by simpa using hm) (Heap.SameBut.refl _ _))
  | p :: ps, q :: kv, acc, s, Q, hg, hm, hn, hd, hl, hQ => by
    obtain ⟨g1, g2, g3⟩ := hg
    rw [List.map_cons, List.nodup_cons] at hd
    rw [List.length_cons] at hl
    rw [List.forIn_cons, hf]
    refine wpAny_bind (wpAny_bind (g1 _ _ _ fun t tk => ?_))
    refine wpAny_bind (wpAny_holding (g2 _ _ _ fun t2 tk2 => ?_))
    have hz : acc.length ≤ sizeLine := by have : sizeLine = 16777216 := rfl; omega
    refine wpAny_bind (wpAny_holding (wpAny_dictSet_pairs (s := { s with toks := tk2 }) (hsz := hz) (strKind_is prog w _ t) hm fun h1 hm1 hs1 => wpAny_pure ?_))
    rw [stored_new (hn q (.head _))] at hm1
    refine long_loop f hf ps kv _ _ Q g3 hm1 (fun r hr hin => ?_) hd.2 (by simp; omega) fun vals h2 tk3 r hm2 hs2 => ?_
    · rw [List.map_append, List.mem_append] at hin
      rcases hin with hin | hin
      · exact hn r (.tail _ hr) hin
      · have e := List.mem_singleton.mp hin
        apply hd.1
        have e := congrArg (fun z : Str => z.cps.toList) e
        simp only at e
        rw [← e]; exact List.mem_map.mpr ⟨r, hr, rfl⟩
    · exact hQ ((⟨q.1.toArray⟩, .int q.2 t2) :: vals) h2 tk3 ⟨rfl, ⟨t2, rfl⟩, r⟩ (by simpa using hm2) (hs1.trans hs2)
  | [], _ :: _, _, _, _, hg, _, _, _, _, _ => hg.elim
  | _ :: _, [], _, _, _, hg, _, _, _, _, _ => hg.elim
theorem dict_display {env : Env} {ks : List (Option Expr)} {vs : List Expr} {pos : Pos} {kv : List (List Nat × Int)} {s : Shared} {mu : List Addr} (hc : constPairs ks vs = some kv) (hl : kv.length = 17) (hn : (kv.map (·.1)).Nodup) (hbig : sysModules < s.heap.objs.size) (live : Live mu s.heap) :
    Tr prog w A (eval (.Dict ks vs pos) env) s (fun v h => Rep w.params mu h (.dict kv) v) := by
  obtain ⟨ps, e, g⟩ := pairs_shape (prog := prog) (w := w) (A := A) (env := env) (pos := pos) hc
  have hps : ps.length = 17 := by rw [g.length, hl]
  refine Tr.of fun R k => ?_
  rw [arm_eval_Dict, e, dictDisplay17 ps hps]
  refine wpAny_bind (wpAny_standAt (wpAny_bind ?_))
  unfold subDict
  refine wpAny_bind (wpAny_alloc ?_)
  refine wpAny_bind (wpAny_holding ?_)
  rw [if_neg (by rw [hps]; decide)]
  refine wpAny_bind (wpAny_rule ?_)
  refine wpAny_bind (long_loop _ ?hf ps kv [] { s with heap := s.heap.push { cls := .type "dict", data := .dict #[] } } _ g (Heap.DictOf.new s.heap) (fun _ _ h => by cases h) hn (by rw [hl]; decide) fun vals h' tk r hm hs => ?_)
  case hf => intro p; rfl
  refine wpAny_pure (wpAny_pure (wpAny_pure ?_))
  refine k _ h' tk (fun b o e => ?_) ?_
  · exact (hs.2 b (Nat.ne_of_lt (Heap.lt_size e))).trans (Heap.get?_push_of_some _ e)
  · unfold Rep
    exact ⟨_, rfl, live.fresh, IsIntDict.of (by simpa using hm) (beq_eq_false_iff_ne.mpr (Nat.ne_of_gt hbig)) r⟩
end
end Mine
namespace Mine
open PySem PySem.W PyProof.Rows PySem.Calls
section
variable {prog : Program} {w : World} {A : Around} {s : Shared} {mu : List Addr}


theorem binV_ok {op : Operator} {a b : V} {wa wb : Value} (h : (binV op a b).2) (ra : Rep w.params mu s.heap a wa) (rb : Rep w.params mu s.heap b wb) (l : Live mu s.heap) :
    Tr prog w A (binaryOp op wa wb) s (fun v h => Rep w.params mu h (binV op a b).1 v) := by
  cases op
  case Add =>
    cases a
    case int x => cases b; case int y => exact add_i ra rb
                  all_goals exact h.elim
    case str x => cases b; case str y => exact add_s h ra rb
                  all_goals exact h.elim
    case list x => cases b; case list y => exact add_l h ra rb l
                   all_goals exact h.elim
    case bytes x => cases b; case bytes y => exact add_b h ra rb
                    all_goals exact h.elim
    all_goals exact h.elim
  case Sub =>
    cases a
    case int x => cases b; case int y => exact sub_i ra rb
                  all_goals exact h.elim
    all_goals exact h.elim
  case Mult =>
    cases a
    case int x => cases b; case int y => exact mul_i h ra rb
                  all_goals exact h.elim
    case str x => cases b; case int y => exact mul_s h ra rb
                  all_goals exact h.elim
    all_goals exact h.elim
  case FloorDiv =>
    cases a
    case int x => cases b; case int y => exact div_i h ra rb
                  all_goals exact h.elim
    all_goals exact h.elim
  case Mod =>
    cases a
    case int x => cases b; case int y => exact mod_i h ra rb
                  all_goals exact h.elim
    all_goals exact h.elim
  case Pow =>
    cases a
    case int x => cases b; case int y => exact pow_i h ra rb
                  all_goals exact h.elim
    all_goals exact h.elim
  all_goals exact h.elim
theorem truV_ok {a : V} {wa : Value} (h : (truV a).2) (ra : Rep w.params mu s.heap a wa) : Tr prog w A (truthy wa) s (fun v _ => v = (truV a).1) := by
  cases a
  case none => exact tr_n ra
  case bool => exact tr_b ra
  case int => exact tr_i ra
  case str => exact tr_s h ra
  all_goals exact h.elim
theorem ints_areV {P : Params} {h : Heap} : ∀ {xs : List V} {ws : List Value}, (intsV xs).2 → Reps P mu h xs ws → IntsAre ws (intsV xs).1
  | [], ws, e, r => by
    unfold Reps at r; subst r; exact .nil
  | x :: xs, ws, e, r => by
    unfold Reps at r
    obtain ⟨w', ws', rfl, r1, rs⟩ := r
    cases x
    case int i =>
      unfold Rep at r1
      obtain ⟨t, rfl⟩ := r1
      exact .cons _ _ (ints_areV (xs := xs) e rs)
    all_goals exact e.elim
/-- the reads of the sets of ints -/
noncomputable def MemOk (prog : Program) (w : World) (hb : Heap) (g : Cfg) : Prop :=
  ∀ (A : Around) (s : Shared) (wv : Value) (i : Int) (t : Tok), KeepAll hb s.heap → (g.mem wv i).2 → Tr prog w A (compareOp .In (.int i t) wv) s (fun v _ => v = .bool (g.mem wv i).1)
theorem cmpV_ok {hb : Heap} {g : Cfg} (G : MemOk prog w hb g) (kb : KeepAll hb s.heap) {op : CmpOp} {a b : V} {wa wb : Value} (h : (cmpV g op a b).2) (ra : Rep w.params mu s.heap a wa) (rb : Rep w.params mu s.heap b wb) (hu : A.units + 64 < cLine) :
    Tr prog w A (compareOp op wa wb) s (fun v _ => v = .bool (cmpV g op a b).1) := by
  cases op
  case Eq =>
    cases a
    case int x => cases b; case int y => exact eq_i ra rb
                  all_goals exact h.elim
    case str x => cases b; case str y => exact eq_s ra rb
                  all_goals exact h.elim
    case list x =>
      cases b
      case list y =>
        unfold Rep at ra rb; obtain ⟨a, ws, rfl, ha, la, ra⟩ := ra; obtain ⟨b, us, rfl, hb, lb, rb⟩ := rb
        exact Tr.of fun R k => ke_eq_ints la lb (ints_areV h.1 ra) (ints_areV h.2 rb) hu (k _ _ s.toks same_heap rfl)
      all_goals exact h.elim
    all_goals exact h.elim
  case NotEq =>
    cases a
    case int x => cases b; case int y => exact ne_i ra rb
                  all_goals exact h.elim
    case str x => cases b; case str y => exact ne_s ra rb
                  all_goals exact h.elim
    all_goals exact h.elim
  case Lt =>
    cases a
    case int x => cases b; case int y => exact lt_i ra rb
                  all_goals exact h.elim
    all_goals exact h.elim
  case LtE =>
    cases a
    case int x => cases b; case int y => exact le_i ra rb
                  all_goals exact h.elim
    all_goals exact h.elim
  case Gt =>
    cases a
    case int x => cases b; case int y => exact gt_i ra rb
                  all_goals exact h.elim
    all_goals exact h.elim
  case GtE =>
    cases a
    case int x => cases b; case int y => exact ge_i ra rb
                  all_goals exact h.elim
    all_goals exact h.elim
  case IsNot =>
    cases a
    case none => cases b; case none => exact isnot_nn ra rb
                 all_goals exact h.elim
    case str x => cases b; case none => exact isnot_sn ra rb
                  all_goals exact h.elim
    all_goals exact h.elim
  case In =>
    cases a
    case int x =>
      cases b
      case val v =>
        unfold Rep at ra rb
        obtain ⟨t, rfl⟩ := ra
        subst rb
        exact G A s _ _ t kb h
      all_goals exact h.elim
    case str x =>
      cases b
      case dict kv => exact in_dict ra rb
      all_goals exact h.elim
    all_goals exact h.elim
  all_goals exact h.elim
end
end Mine
namespace Mine
open PySem PySem.W PyProof.Rows PySem.Calls
section
variable {prog : Program} {w : World} {A : Around} {s : Shared} {mu : List Addr}

theorem subscripted_any (slice : Expr) (o i : Value) : ∃ ops, subscripted slice false o i = operate ops (getItem o i) := by
  cases slice with
  | Slice lo hi st p => cases st <;> exact ⟨_, rfl⟩
  | _ => exact ⟨_, rfl⟩
theorem tr_tail {value slice : Expr} {o i : Value} {T id : String} {Q : Value → Heap → Prop} (hT : s.TypeIs o T) (hl : typeLookup (.type T) "__getitem__" = pure (some (.builtin id)))
    (h : Tr prog w A (getItem o i) s Q) : Tr prog w A (subscriptTail value slice o i) s Q :=
  let ⟨_, e⟩ := subscripted_any slice o i
  Tr.of fun R k => tail_any hT hl (h.use k) e
theorem seqAt_get {α : Type} {d : α} {xs : List α} {i : Int} (h : (seqAt d xs i).2) : xs[(if i < 0 then i + xs.length else i).toNat]? = some (seqAt d xs i).1 := by
  obtain ⟨h1, h2, _⟩ := h
  have hk : (if i < 0 then i + xs.length else i).toNat < xs.length := by split <;> omega
  show _ = some (xs.getD _ d)
  rw [List.getD_eq_getElem?_getD, List.getElem?_eq_getElem hk]; rfl
theorem itemV_ok {value slice : Expr} {o i : V} {wo wi : Value} (h : (itemV o i).2) (ro : Rep w.params mu s.heap o wo) (ri : Rep w.params mu s.heap i wi) :
    Tr prog w A (subscriptTail value slice wo wi) s (fun v h => Rep w.params mu h (itemV o i).1 v) := by
  cases o with
  | list xs => cases i with
    | int k =>
      have h : (seqAt V.none xs k).2 := h
      show Tr prog w A _ s (fun v h => Rep w.params mu h (seqAt V.none xs k).1 v)
      unfold Rep at ro ri
      obtain ⟨a, ws, rfl, ha, la, ra⟩ := ro
      obtain ⟨t, rfl⟩ := ri
      obtain ⟨v, e, rv⟩ := ra.get (seqAt_get h)
      have hlen := ra.length
      obtain ⟨h1, h2, h3⟩ := h
      unfold lenLid at h3
      refine tr_tail la.typeIs slot_list_getitem.lookup (Tr.of fun R kk => ?_)
      by_cases hk : k < 0
      · rw [if_pos hk] at e
        refine wpAny_getItem_list_neg la hk (by simp; omega) (by omega) ?_ (kk v s.heap s.toks (fun _ _ e => e) rv)
        simp only [List.size_toArray, hlen, List.getElem?_toArray]; exact e
      · rw [if_neg hk] at e
        refine wpAny_getItem_list la (by omega) (by omega) ?_ (kk v s.heap s.toks (fun _ _ e => e) rv)
        simp only [List.getElem?_toArray]; exact e
    | _ => exact False.elim h
  | str xs => cases i with
    | int k =>
      have h : (seqAt 0 xs k).2 := h
      show Tr prog w A _ s (fun v h => Rep w.params mu h (.str [(seqAt 0 xs k).1]) v)
      have e := seqAt_get h
      obtain ⟨h1, h2, h3⟩ := h
      unfold lenLid at h3
      unfold Rep at ro ri
      obtain ⟨t, rfl⟩ := ro
      obtain ⟨u, rfl⟩ := ri
      refine tr_tail (typeIs_str _ _ _) F.slot_str_getitem.lookup (Tr.of fun R kk => ?_)
      refine PySem.P.getItem_str (c := (seqAt 0 xs k).1) (by simp; omega) ?_ (kk _ s.heap (s.toks + 1) (fun _ _ e => e) (by unfold Rep; exact ⟨_, rfl⟩))
      unfold seqIndex?
      simp only [Str.length, List.size_toArray]
      rw [if_pos (by simp only [Bool.and_eq_true, decide_eq_true_eq]; split <;> omega)]
      simp only [Option.bind_some, List.getElem?_toArray]; exact e
    | _ => exact False.elim h
  | dict kv => cases i with
    | str x => exact tr_tail (item_dict (prog := prog) (A := A) h ro ri).1 slot_dict_getitem.lookup (item_dict h ro ri).2
    | _ => exact False.elim h
  | _ => exact False.elim h

theorem part_rep {v : V} {wv : Value} {o : Option Int} (h : partV v = some o) (r : Rep w.params mu s.heap v wv) : IsPart wv o ∧ ∃ p : Option (Int × Tok), wv = partValue p ∧ p.map (·.1) = o := by
  cases v <;> simp only [partV] at h <;> first | cases h | (obtain rfl := Option.some.inj h; clear h)
  · unfold Rep at r; subst r; exact ⟨.none, none, rfl, rfl⟩
  · unfold Rep at r; obtain ⟨t, rfl⟩ := r; exact ⟨.int _ _, some (_, t), rfl, rfl⟩
theorem reps_pick {h : Heap} {P : Params} {vs : List V} {ws : List Value} (r : Reps P mu h vs ws) : ∀ (is : List Nat), Reps P mu h (is.filterMap fun i => vs[i]?) (is.filterMap fun i => ws[i]?)
  | [] => by simp [Reps]
  | i :: is => by
    rw [List.filterMap_cons, List.filterMap_cons]
    cases e : vs[i]? with
    | none =>
      have : ws[i]? = none := by
        rw [List.getElem?_eq_none_iff] at e ⊢; rw [r.length]; exact e
      rw [this]; exact reps_pick r is
    | some v =>
      obtain ⟨x, ex, rx⟩ := r.get e
      rw [ex]
      show Reps P mu h (v :: _) (x :: _)
      unfold Reps
      exact ⟨_, _, rfl, rx, reps_pick r is⟩
theorem clip_le (n : Nat) (v : V) : (clip n n v).1 ≤ n := by
  unfold clip
  split <;> simp only
  · exact Nat.le_refl _
  · split <;> omega
  · exact Nat.zero_le _
theorem sizeLine_is : sizeLine = 16777216 := rfl
/-- a slice of a plain value, with the slice laid -/
theorem cutV_ok {value slice : Expr} {o lo hi st : V} {wo wl wh wt : Value} {sl : Addr} (h : (cutV o lo hi st).2) (ro : Rep w.params mu s.heap o wo) (rl : Rep w.params mu s.heap lo wl) (rh : Rep w.params mu s.heap hi wh) (rt : Rep w.params mu s.heap st wt)
    (hs : s.heap.get? sl = some { cls := .type "slice", data := .fields #[wl, wh, wt] }) (l : Live mu s.heap) :
    Tr prog w A (subscriptTail value slice wo (.ref sl)) s (fun v h => Rep w.params mu h (cutV o lo hi st).1 v) := by
  unfold cutV at h ⊢
  split at h <;> (try simp only at h ⊢)
  · rename_i xs
    obtain ⟨h1, h2, h3⟩ := h
    unfold lenLid at h3
    obtain ⟨eo, e1⟩ := clip_part h1
    obtain ⟨ei, e2⟩ := clip_part h2
    obtain ⟨_, p1, rfl, q1⟩ := part_rep e2 rl
    obtain ⟨_, p2, rfl, q2⟩ := part_rep e1 rh
    unfold Rep at ro rt
    obtain ⟨t, rfl⟩ := ro
    subst rt
    refine tr_tail (typeIs_str _ _ _) F.slot_str_getitem.lookup (Tr.of fun R kk => ?_)
    refine wpAny_getItem_str_slice (l := p1) (u := p2) (st := none) ⟨_, hs, rfl, rfl⟩ rfl ?_
    have ep : slicePicked ⟨xs.toArray⟩ p1 p2 none = (List.range ((clip xs.length xs.length hi).1 - (clip xs.length 0 lo).1)).map fun j => (clip xs.length 0 lo).1 + j := by
      unfold slicePicked
      rw [q1, q2]
      simp only [Str.length, List.size_toArray]
      exact indices_one e2 e1
    have ec : List.filterMap (fun i => (Str.cps ⟨xs.toArray⟩)[i]?) (slicePicked ⟨xs.toArray⟩ p1 p2 none) = (xs.take (clip xs.length xs.length hi).1).drop (clip xs.length 0 lo).1 := by
      rw [ep]
      simp only [List.getElem?_toArray]
      rw [filterMap_range, drop_take']
    unfold sliceMade
    rw [ec, ep]
    simp only [List.length_map, List.length_range, Str.length, List.size_toArray]
    split
    · rename_i hw
      have hw : (clip xs.length xs.length hi).1 - (clip xs.length 0 lo).1 = xs.length := by
        simp only [Bool.and_eq_true, beq_iff_eq] at hw; exact hw.2
      refine kk _ s.heap s.toks (fun _ _ e => e) ?_
      unfold Rep
      refine ⟨t, ?_⟩
      have hc := clip_le xs.length hi
      by_cases hz : xs.length = 0
      · have : xs = [] := List.length_eq_zero_iff.mp hz
        subst this; simp
      · have a0 : (clip xs.length 0 lo).1 = 0 := by omega
        have b0 : (clip xs.length xs.length hi).1 = xs.length := by omega
        rw [a0, b0]; simp
    · unfold Made.post
      refine ⟨by simp [Str.length, sizeLine_is]; omega, kk _ s.heap (s.toks + 1) (fun _ _ e => e) ?_⟩
      unfold Rep
      exact ⟨_, rfl⟩
  · rename_i xs
    obtain ⟨h1, h2, h3⟩ := h
    unfold lenLid at h3
    obtain ⟨eo, e1⟩ := clip_part h1
    obtain ⟨ei, e2⟩ := clip_part h2
    obtain ⟨i1, p1, rfl, q1⟩ := part_rep e2 rl
    obtain ⟨i2, p2, rfl, q2⟩ := part_rep e1 rh
    unfold Rep at ro rt
    obtain ⟨t, rfl⟩ := ro
    subst rt
    refine tr_tail (typeIs_bytes _ _ _) FB.slot_bytes_getitem.lookup (Tr.of fun R kk => ?_)
    have ec : KBy.picked xs.toArray ei eo = ((xs.take (clip xs.length xs.length hi).1).drop (clip xs.length 0 lo).1).toArray := by
      unfold KBy.picked Builtin.Bytes.sliced
      simp only [List.size_toArray, List.getElem?_toArray]
      rw [bounds_one e2 e1, filterMap_range, drop_take']
    refine getItem_meets (typeIs_bytes _ _ _) (by decide) FB.slot_bytes_getitem FB.entry_bytes_getitem (FB.args_bytes_getitem_2 _ _) (KBc.meets_slice2 xs.toArray t sl i1 i2)
      ⟨⟨_, hs, rfl, rfl⟩, ?_, fun t' k => ?_⟩
    · rw [ec]; simp [sizeLine_is]; omega
    · rw [ec]; exact kk _ s.heap k (fun _ _ e => e) (by unfold Rep; exact ⟨_, rfl⟩)
  · rename_i xs
    obtain ⟨h1, h2, h3⟩ := h
    unfold lenLid at h3
    obtain ⟨eo, e1⟩ := clip_part h1
    obtain ⟨ei, e2⟩ := clip_part h2
    obtain ⟨i1, p1, rfl, q1⟩ := part_rep e2 rl
    obtain ⟨i2, p2, rfl, q2⟩ := part_rep e1 rh
    unfold Rep at ro rt
    obtain ⟨a, ws, rfl, ha, la, ra⟩ := ro
    subst rt
    have hlen := ra.length
    refine tr_tail la.typeIs slot_list_getitem.lookup (Tr.of fun R kk => ?_)
    refine wpAny_getItem_list_slice la ⟨_, hs, rfl, rfl⟩ i1 i2 .none (by intro e; cases e) ?_ (by simp [sizeLine_is]; omega)
    have ec : slicePick ws.toArray ei eo none = ((ws.take (clip xs.length xs.length hi).1).drop (clip xs.length 0 lo).1).toArray := by
      unfold slicePick
      simp only [List.size_toArray, List.getElem?_toArray, hlen]
      rw [bounds_one e2 e1, filterMap_range, drop_take']
    rw [ec]
    refine kk _ _ s.toks keepAll_push ?_
    unfold Rep
    exact ⟨_, _, rfl, l.fresh, ⟨_, get_push (by intro e; cases e), rfl, 0, rfl⟩, ((ra.all keepAll_push).take _).drop _⟩
  · rename_i xs k
    split at h <;> (try simp only at h ⊢)
    · rename_i i
      obtain ⟨h1, h3⟩ := h
      unfold lenLid at h3
      unfold Rep at ro rt rl rh
      obtain ⟨a, ws, rfl, ha, la, ra⟩ := ro
      obtain ⟨t1, rfl⟩ := rt
      obtain ⟨t2, rfl⟩ := rl
      subst rh
      have hlen := ra.length
      refine tr_tail la.typeIs slot_list_getitem.lookup (Tr.of fun R kk => ?_)
      refine wpAny_getItem_list_slice la ⟨_, hs, rfl, rfl⟩ (.int _ _) .none (.int _ _) (by simpa using h1) ?_ (by simp [sizeLine_is]; omega)
      have ec : slicePick ws.toArray (some i) none (some k) = ((sliceRange (sliceBounds (some i) none (some k) xs.length).1 (sliceBounds (some i) none (some k) xs.length).2.1 (sliceBounds (some i) none (some k) xs.length).2.2).filterMap fun i => ws[i]?).toArray := by
        unfold slicePick
        simp only [List.size_toArray, List.getElem?_toArray, hlen]
      rw [ec]
      refine kk _ _ s.toks keepAll_push ?_
      unfold Rep
      exact ⟨_, _, rfl, l.fresh, ⟨_, get_push (by intro e; cases e), rfl, 0, rfl⟩, reps_pick (ra.all keepAll_push) _⟩
end
end Mine
namespace Mine
open PySem PySem.W PyProof.Rows PySem.Calls
section
variable {prog : Program} {w : World} {A : Around} {s : Shared} {mu : List Addr} {P : Params} {h : Heap}

theorem strs_areV : ∀ {xs : List V} {ws : List Value}, (strsV xs).2 → Reps P mu h xs ws → StrsAre ws ((strsV xs).1.map fun x => ⟨x.toArray⟩)
  | [], ws, e, r => by
    unfold Reps at r; subst r; exact .nil
  | x :: xs, ws, e, r => by
    unfold Reps at r
    obtain ⟨w', ws', rfl, r1, rs⟩ := r
    cases x <;> simp only [strsV] at e
    unfold Rep at r1
    obtain ⟨t, rfl⟩ := r1
    exact .cons _ _ (strs_areV e rs)
theorem intsAre_at : ∀ {ws : List Value} {ns : List Int} {i : Nat} {v : Value}, IntsAre ws ns → ws[i]? = some v → ∃ t, v = .int (ns.getD i 0) t
  | _, _, i, v, .nil, e => by simp at e
  | _, _, i, v, .cons n t r, e => by
    cases i with
    | zero => simp at e; subst e; exact ⟨t, rfl⟩
    | succ i => simp at e; obtain ⟨u, e⟩ := intsAre_at r e; exact ⟨u, by simpa using e⟩
theorem intsAre_length : ∀ {ws : List Value} {ns : List Int}, IntsAre ws ns → ws.length = ns.length
  | _, _, .nil => rfl
  | _, _, .cons n t r => by simp [intsAre_length r]
theorem preSum_succ (val : Nat → Int) (n : Nat) : preSum val (n + 1) = preSum val n + val n := rfl
theorem preSum_list (ns : List Int) : ∀ n, preSum (fun i => ns.getD i 0) n = (ns.take n).sum
  | 0 => rfl
  | n + 1 => by
    rw [preSum_succ, preSum_list ns n, List.take_add_one, List.sum_append]
    by_cases h : n < ns.length
    · simp [List.getD_eq_getElem?_getD, h]
    · simp [List.getD_eq_getElem?_getD, h]
theorem sum_ok {a : Addr} {ws : List Value} {ns : List Int} (hh : A.handled = none) (la : s.heap.IsList a ws.toArray) (hi : IntsAre ws ns) : Tr prog w A (call (.builtin "sum") [.ref a]) s (fun v h => Rep w.params mu h (.int ns.sum) v) := by
  refine Tr.of fun R kk => call_sum_walkG ?_
  refine wpAny_pyIter_list la ?_
  have hne : a ≠ s.heap.objs.size := by
    obtain ⟨o, g, _⟩ := la
    exact Nat.ne_of_lt (Heap.lt_size g)
  have hp := get_push (h := s.heap) (c := .type "list_iterator") (d := none) (dt := .fields #[.ref a, .int 0 0]) (sl := #[]) (by intro e; cases e)
  refine ⟨_, _, _, _, _, _, fun i => ns.getD i 0, rfl, Walks.list (by exact hh) _ _ hne ws.toArray, ⟨⟨_, hp, rfl, rfl⟩, isList_keep la (fun o => keepAll_push _ o)⟩, ?_, ?_, ?_⟩
  · intro b hb
    have ha : a < s.heap.objs.size := by
      obtain ⟨o, g, _⟩ := la
      exact Heap.lt_size g
    rcases List.mem_cons.mp hb with rfl | hb
    · exact Heap.lt_size hp
    · rcases List.mem_cons.mp hb with rfl | hb
      · show _ < (s.heap.push _).objs.size
        rw [Heap.size_push]; exact Nat.lt_succ_of_lt ha
      · cases hb
  · intro i v hv
    have hv : ws[i]? = some v := by simpa using hv
    exact intsAre_at hi hv
  · intro h' tk t' k
    refine kk _ h' tk (fun b o e => k b o ?_ (keepAll_push b o e)) ?_
    · intro hb
      rcases List.mem_singleton.mp hb with rfl
      exact absurd (Heap.lt_size e) (Nat.lt_irrefl _)
    · unfold Rep
      refine ⟨t', ?_⟩
      rw [preSum_list, List.size_toArray, intsAre_length hi, List.take_length]

theorem minL_fold : ∀ (xs : List Int) (x : Int), (xs.foldl (fun a b => if b < a then b else a) x ∈ x :: xs) ∧ ∀ a ∈ x :: xs, xs.foldl (fun a b => if b < a then b else a) x ≤ a
  | [], x => ⟨.head _, fun a h => by rcases List.mem_singleton.mp h with rfl; exact Int.le_refl _⟩
  | y :: r, x => by
    rw [List.foldl_cons]
    obtain ⟨h1, h2⟩ := minL_fold r (if y < x then y else x)
    have hz : (if y < x then y else x) ≤ x ∧ (if y < x then y else x) ≤ y := by split <;> omega
    refine ⟨?_, fun a ha => ?_⟩
    · rcases List.mem_cons.mp h1 with h | h
      · rw [h]; split
        · exact .tail _ (.head _)
        · exact .head _
      · exact .tail _ (.tail _ h)
    · have hh := h2 _ (.head _)
      rcases List.mem_cons.mp ha with rfl | ha
      · exact Int.le_trans hh hz.1
      · rcases List.mem_cons.mp ha with rfl | ha
        · exact Int.le_trans hh hz.2
        · exact h2 a (.tail _ ha)
theorem minL_is {ns : List Int} {M : Int} (h1 : M ∈ ns) (h2 : ∀ a ∈ ns, M ≤ a) : minL ns = M := by
  cases ns with
  | nil => cases h1
  | cons x r =>
    obtain ⟨q1, q2⟩ := minL_fold r x
    exact Int.le_antisymm (q2 _ h1) (h2 _ q1)
theorem min_ok {a : Addr} {ws : List Value} {ns : List Int} (hh : A.handled = none) (la : s.heap.IsList a ws.toArray) (hi : IntsAre ws ns) (hne : 0 < ns.length) : Tr prog w A (call (.builtin "min") [.ref a]) s (fun v h => Rep w.params mu h (.int (minL ns)) v) := by
  obtain ⟨xs, e⟩ := hi.allInts.items
  have hns : ns = xs.toList.map (·.1) := by
    rw [← hi.numsOf, ← nums_intItems, ← e]
  have hsz : 0 < xs.size := by
    have h3 := hne; rw [hns, List.length_map, Array.length_toList] at h3; exact h3
  rw [e] at la
  refine Tr.of fun R k => min_intList hh la hsz fun v h' tk hv hk => k v h' tk hk ?_
  obtain ⟨t, rfl⟩ := intItems_at hv
  obtain ⟨h1, h2⟩ := argBest_lt (numAt xs) (xs.size - 1)
  have : minL ns = numAt xs (argBest (fun i j => decide (numAt xs i < numAt xs j)) (xs.size - 1)) := minL_is (by
      rw [hns, numAt_eq]; exact getD_mem (by rw [List.length_map, Array.length_toList]; omega)) fun a ha => by
      rw [hns] at ha
      obtain ⟨j, hj, rfl⟩ := mem_getD ha
      rw [List.length_map, Array.length_toList] at hj
      rw [← numAt_eq]; exact h2 j (by omega)
  rw [this]
  unfold Rep
  exact ⟨t, rfl⟩

/-- a builtin of the names that we know -/
noncomputable def bltFn (f : Str) : Value := (bootBuiltins f).getD .none
theorem reps_nil {ws : List Value} (r : Reps P mu h [] ws) : ws = [] := by unfold Reps at r; exact r
theorem reps_cons {x : V} {xs : List V} {ws : List Value} (r : Reps P mu h (x :: xs) ws) : ∃ v vs, ws = v :: vs ∧ Rep P mu h x v ∧ Reps P mu h xs vs := by unfold Reps at r; exact r

/-- a test by the first argument alone -/
theorem args1 {f : Str} {args : List V} (hx : (bltV f args).2) (hf : f = ("len" : Str) ∨ f = ("ord" : Str) ∨ f = ("chr" : Str) ∨ f = ("abs" : Str) ∨ f = ("int" : Str) ∨ f = ("sum" : Str)) : ∃ a, args = [a] := by
  cases args with
  | nil => rcases hf with rfl | rfl | rfl | rfl | rfl | rfl <;> exact False.elim hx
  | cons a q => cases q with
    | nil => exact ⟨a, rfl⟩
    | cons b q => rcases hf with rfl | rfl | rfl | rfl | rfl | rfl <;> cases a <;> first | exact False.elim hx | (rename_i x; cases x <;> first | exact False.elim hx | (rename_i x; cases x <;> exact False.elim hx))
theorem args2 {args : List V} (hx : (bltV "divmod" args).2) : ∃ a b, args = [.int a, .int b] := by
  cases args with
  | nil => exact False.elim hx
  | cons a q => cases a with
    | int a => cases q with
      | nil => exact False.elim hx
      | cons b q => cases b with
        | int b => cases q with
          | nil => exact ⟨a, b, rfl⟩
          | cons _ _ => exact False.elim hx
        | _ => exact False.elim hx
    | _ => exact False.elim hx
theorem argsMin {args : List V} (hx : (bltV "min" args).2) : (∃ a b, args = [.int a, .int b]) ∨ ∃ xs, args = [.list xs] := by
  cases args with
  | nil => exact False.elim hx
  | cons a q => cases a with
    | int a => cases q with
      | nil => exact False.elim hx
      | cons b q => cases b with
        | int b => cases q with
          | nil => exact .inl ⟨a, b, rfl⟩
          | cons _ _ => exact False.elim hx
        | _ => exact False.elim hx
    | list xs => cases q with
      | nil => exact .inr ⟨xs, rfl⟩
      | cons _ _ => exact False.elim hx
    | _ => exact False.elim hx
theorem int1 {f : Str} {a : V} (hx : (bltV f [a]).2) (hf : f = ("chr" : Str) ∨ f = ("abs" : Str) ∨ f = ("int" : Str)) : ∃ i, a = .int i := by
  cases a with
  | int i => exact ⟨i, rfl⟩
  | _ => rcases hf with rfl | rfl | rfl <;> exact False.elim hx
theorem bltV_ok {f : Str} {args : List V} {ws : List Value} (hf : isBlt f = true) (hx : (bltV f args).2) (r : Reps w.params mu s.heap args ws) (l : Live mu s.heap) (hh : A.handled = none) :
    Tr prog w A (call (bltFn f) ws) s (fun v h => Rep w.params mu h (bltV f args).1 v) := by
  have hmem : f ∈ [("len" : Str), "ord", "chr", "abs", "int", "divmod", "min", "sum"] := List.contains_iff_mem.mp hf
  simp only [List.mem_cons, List.not_mem_nil, or_false] at hmem
  rcases hmem with rfl | rfl | rfl | rfl | rfl | rfl | rfl | rfl
  · rw [show bltFn ("len" : Str) = .builtin "len" from by decide +kernel]
    obtain ⟨a, rfl⟩ := args1 hx (.inl rfl)
    obtain ⟨v, vs, rfl, r1, r2⟩ := reps_cons r
    cases reps_nil r2
    cases a with
    | str x =>
      unfold Rep at r1
      obtain ⟨t, rfl⟩ := r1
      have hx : x.length ≤ 100000 := hx
      show Tr prog w A _ s (fun v h => Rep w.params mu h (.int x.length) v)
      refine Tr.of fun R kk => SBL.len (by simp [Str.length]; omega) (kk _ s.heap _ (fun _ _ e => e) (by unfold Rep; exact ⟨_, by simp [Str.length]; rfl⟩))
    | list x =>
      unfold Rep at r1
      obtain ⟨a, ws, rfl, ha, la, ra⟩ := r1
      have hx : x.length ≤ 100000 := hx
      have hlen := ra.length
      show Tr prog w A _ s (fun v h => Rep w.params mu h (.int x.length) v)
      refine Tr.of fun R kk => len_list la (by simp; omega) (kk _ s.heap _ (fun _ _ e => e) (by unfold Rep; exact ⟨_, by simp [hlen]; rfl⟩))
    | _ => exact False.elim hx
  · rw [show bltFn ("ord" : Str) = .builtin "ord" from by decide +kernel]
    obtain ⟨a, rfl⟩ := args1 hx (.inr (.inl rfl))
    obtain ⟨v, vs, rfl, r1, r2⟩ := reps_cons r
    cases reps_nil r2
    cases a with
    | str x => cases x with
      | nil => exact False.elim hx
      | cons c x => cases x with
        | nil =>
          unfold Rep at r1
          obtain ⟨t, rfl⟩ := r1
          show Tr prog w A _ s (fun v h => Rep w.params mu h (.int c) v)
          exact Tr.of fun R kk => P.ord_of_char (kk _ s.heap _ (fun _ _ e => e) (by unfold Rep; exact ⟨_, rfl⟩))
        | cons _ _ => exact False.elim hx
    | _ => exact False.elim hx
  · rw [show bltFn ("chr" : Str) = .builtin "chr" from by decide +kernel]
    obtain ⟨a, rfl⟩ := args1 hx (.inr (.inr (.inl rfl)))
    obtain ⟨v, vs, rfl, r1, r2⟩ := reps_cons r
    cases reps_nil r2
    obtain ⟨i, rfl⟩ := int1 hx (.inl rfl)
    unfold Rep at r1
    obtain ⟨t, rfl⟩ := r1
    have hx : 0 ≤ i ∧ i ≤ 1114111 := hx
    show Tr prog w A _ s (fun v h => Rep w.params mu h (.str [i.toNat]) v)
    exact Tr.of fun R kk => chr_of_range hx.1 hx.2 (kk _ s.heap _ (fun _ _ e => e) (by unfold Rep; exact ⟨_, rfl⟩))
  · rw [show bltFn ("abs" : Str) = .builtin "abs" from by decide +kernel]
    obtain ⟨a, rfl⟩ := args1 hx (.inr (.inr (.inr (.inl rfl))))
    obtain ⟨v, vs, rfl, r1, r2⟩ := reps_cons r
    cases reps_nil r2
    obtain ⟨i, rfl⟩ := int1 hx (.inr (.inl rfl))
    unfold Rep at r1
    obtain ⟨t, rfl⟩ := r1
    show Tr prog w A _ s (fun v h => Rep w.params mu h (.int (if i < 0 then -i else i)) v)
    exact Tr.of fun R kk => call_abs_int fun u tk => kk _ s.heap tk (fun _ _ e => e) (by unfold Rep; exact ⟨_, rfl⟩)
  · rw [show bltFn ("int" : Str) = .type "int" from by decide +kernel]
    obtain ⟨a, rfl⟩ := args1 hx (.inr (.inr (.inr (.inr (.inl rfl)))))
    obtain ⟨v, vs, rfl, r1, r2⟩ := reps_cons r
    cases reps_nil r2
    obtain ⟨i, rfl⟩ := int1 hx (.inr (.inr rfl))
    unfold Rep at r1
    obtain ⟨t, rfl⟩ := r1
    show Tr prog w A _ s (fun v h => Rep w.params mu h (.int i) v)
    exact Tr.of fun R kk => call_int_int (kk _ s.heap s.toks (fun _ _ e => e) (by unfold Rep; exact ⟨_, rfl⟩))
  · rw [show bltFn ("divmod" : Str) = .builtin "divmod" from by decide +kernel]
    obtain ⟨i, j, rfl⟩ := args2 hx
    obtain ⟨v, vs, rfl, r1, r2⟩ := reps_cons r
    obtain ⟨v2, vs2, rfl, r3, r4⟩ := reps_cons r2
    cases reps_nil r4
    unfold Rep at r1 r3
    obtain ⟨t, rfl⟩ := r1
    obtain ⟨t2, rfl⟩ := r3
    have hx : j ≠ 0 ∧ j.natAbs < 1073741824 := hx
    show Tr prog w A _ s (fun v h => Rep w.params mu h (.tup [.int (i.fdiv j), .int (i.fmod j)]) v)
    refine Tr.of fun R kk => divmod_int hx.1 (kk _ _ _ keepAll_push ?_) (.inl (PyProof.noPylong_small (by omega)))
    unfold Rep
    refine ⟨_, [_, _], rfl, l.fresh, ⟨_, get_push (by intro e; cases e), rfl, 0, rfl⟩, ?_⟩
    unfold Reps
    refine ⟨_, _, rfl, by unfold Rep; exact ⟨_, rfl⟩, ?_⟩
    unfold Reps
    refine ⟨_, _, rfl, by unfold Rep; exact ⟨_, rfl⟩, ?_⟩
    unfold Reps
    rfl
  · rw [show bltFn ("min" : Str) = .builtin "min" from by decide +kernel]
    rcases argsMin hx with ⟨i, j, rfl⟩ | ⟨xs, rfl⟩
    · obtain ⟨v, vs, rfl, r1, r2⟩ := reps_cons r
      obtain ⟨v2, vs2, rfl, r3, r4⟩ := reps_cons r2
      cases reps_nil r4
      unfold Rep at r1 r3
      obtain ⟨t, rfl⟩ := r1
      obtain ⟨t2, rfl⟩ := r3
      show Tr prog w A _ s (fun v h => Rep w.params mu h (.int (if j < i then j else i)) v)
      refine Tr.of fun R kk => min_two_ints hh fun h' tk k => kk _ h' tk k ?_
      unfold Rep
      split <;> exact ⟨_, rfl⟩
    · obtain ⟨v, vs, rfl, r1, r2⟩ := reps_cons r
      cases reps_nil r2
      have hx : (intsV xs).2 ∧ 0 < xs.length := hx
      show Tr prog w A _ s (fun v h => Rep w.params mu h (.int (minL (intsV xs).1)) v)
      unfold Rep at r1
      obtain ⟨a, ws, rfl, ha, la, ra⟩ := r1
      have hi := ints_areV hx.1 ra
      exact min_ok hh la hi (by rw [← intsAre_length hi, ra.length]; exact hx.2)
  · rw [show bltFn ("sum" : Str) = .builtin "sum" from by decide +kernel]
    obtain ⟨a, rfl⟩ := args1 hx (.inr (.inr (.inr (.inr (.inr rfl)))))
    obtain ⟨v, vs, rfl, r1, r2⟩ := reps_cons r
    cases reps_nil r2
    cases a with
    | list xs =>
      unfold Rep at r1
      obtain ⟨a, ws, rfl, ha, la, ra⟩ := r1
      exact sum_ok hh la (ints_areV hx ra)
    | _ => exact False.elim hx
end
end Mine
namespace Mine
open PySem PySem.W PyProof.Rows PySem.Calls PySem.Builtin
theorem args_decode_2 (a b : Value) : argsOk "bytes.decode" ⟨[a, b], []⟩ := by
  unfold argsOk; rw [signature?_of (id := "bytes.decode") (n := ['e', 'd', 'o', 'c', 'e', 'd']) (o := ['s', 'e', 't', 'y', 'b']) (by kernel_rfl) FB.owner_bytes]; kernel_rfl
section
variable {c : UInt8} {cs : List UInt8} {b : Array UInt8} {t u : Tok}
theorem road_ascii {id : String} : _codecs.decodeRoad id b (PySem.Str.ofString "ascii") none [] = (_codecs.runDecoder id _codecs.asciiDecoder none true b 0 [] >>= fun r => mkStr ⟨r.1⟩) := by kernel_rfl
theorem entry_ascii : «bytes.decode» ⟨[.bytes (c :: cs).toArray t, .str (PySem.Str.ofString "ascii") u], []⟩ = (mkStr (PySem.Str.ofString "utf-8") >>= fun _ => mkStr (PySem.Str.ofString "ascii") >>= fun e => mkStr (PySem.Str.ofString "bytes.decode") >>= fun d =>
    call (.builtin "_codecs.decode.text") [.bytes (c :: cs).toArray t, e, .none, d] >>= fun v => ret v) := by kernel_rfl
theorem entry_nil : «bytes.decode» ⟨[.bytes #[] t, .str (PySem.Str.ofString "ascii") u], []⟩ = (rule "bytes.decode.empty" >>= fun _ => PySem.retStr PySem.Str.empty) := by kernel_rfl
theorem forIn_run {σ : Type} (f : Nat → σ → Sem (ForInStep σ)) (g : Nat → σ) (n : Nat) : ∀ (l : List Nat) (k : Nat), k + l.length = n → (∀ x j, j < n → f x (g j) = pure (.yield (g (j + 1)))) → forIn l (g k) f = (pure (g n) : Sem σ)
  | [], k, e, _ => by
    simp at e; subst e; rfl
  | x :: l, k, e, h => by
    simp at e
    rw [List.forIn_cons, h x k (by omega)]
    exact forIn_run f g n l (k + 1) (by omega) h
theorem run_ascii {id : String} (bs : List UInt8) (hb : ∀ c ∈ bs, c.toNat < 128) (hl : bs.length ≤ lenLid) : _codecs.runDecoder id _codecs.asciiDecoder none true bs.toArray 0 [] = pure ((bs.map (·.toNat)).toArray, bs.length) := by
  unfold lenLid at hl
  unfold _codecs.runDecoder
  simp only [Std.Legacy.Range.forIn_eq_forIn_range']
  have key := fun f h => forIn_run (σ := Nat × Array Nat × _codecs.Faults) f (fun j => (j, ((bs.take j).map (·.toNat)).toArray, {})) bs.length (List.range' 0 bs.length) 0 (by simp) h
  have sz : Std.Legacy.Range.size [:bs.toArray.size] = bs.length := by simp [Std.Legacy.Range.size]
  rw [sz]
  refine (congrArg (fun (m : Sem (Nat × Array Nat × _codecs.Faults)) => m >>= fun s => (pure (s.2.1, s.1) : Sem (Array Nat × Nat))) (key _ ?_)).trans ?_
  · intro x j hj
    dsimp only
    rw [if_neg (by simp [sizeLine_is]; omega), if_neg (by simp; omega)]
    have hc : bs[j].toNat < 128 := hb _ (List.getElem_mem hj)
    have hf : _codecs.asciiDecoder.find true bs.toArray j = _codecs.Found.text [bs[j].toNat] (j + 1) := by
      unfold _codecs.asciiDecoder
      dsimp only
      have : (bs.toArray.getD j 0) = bs[j] := by simp [hj]
      rw [this, if_pos hc]; rfl
    rw [hf]
    dsimp only
    have : (List.map (fun x => x.toNat) (List.take (j + 1) bs)) = (List.map (fun x => x.toNat) (List.take j bs)) ++ [bs[j].toNat] := by
      rw [List.take_add_one, List.map_append]; congr 1; simp [hj]
    rw [this]
    simp
  · rw [List.take_length]; rfl
theorem meets_text {id : PySem.Str} {t1 t2 : Tok} (bs : List UInt8) (hb : ∀ c ∈ bs, c.toNat < 128) (hl : bs.length ≤ lenLid) :
    Meets («_codecs.decode.text» ⟨[.bytes bs.toArray t, .str (PySem.Str.ofString "ascii") t1, .none, .str id t2], []⟩) (fun _ R s => R (.ok (.ret (.str ⟨(bs.map (·.toNat)).toArray⟩ s.toks))) { s with toks := s.toks + 1 }) := by
  refine .of_wp fun prog w A R s h => ?_
  show wpAny _ _ (Bytes.bytesLike _ (.bytes bs.toArray t) >>= fun r => _) _ _ s
  refine wpAny_bind (wpAny_of_eq KBd.like_eq ?_)
  refine wpAny_bind (wpAny_of_eq KBd.held_eq ?_)
  show wpAny _ _ (_codecs.decodeRoad _ bs.toArray (PySem.Str.ofString "ascii") none [] >>= fun v => _) _ _ s
  rw [road_ascii, run_ascii bs hb hl]
  refine wpAny_bind (wpAny_bind (wpAny_pure ?_))
  refine wpAny_mkStr (wpAny_pure ⟨_, rfl, h⟩) ?_
  simp [PySem.Str.length, sizeLine_is]; unfold lenLid at hl; omega
theorem meets_decode (bs : List UInt8) (hb : ∀ c ∈ bs, c.toNat < 128) (hl : bs.length ≤ lenLid) :
    Meets («bytes.decode» ⟨[.bytes bs.toArray t, .str (PySem.Str.ofString "ascii") u], []⟩) (fun _ R s => ∀ t' k, R (.ok (.ret (.str ⟨(bs.map (·.toNat)).toArray⟩ t'))) { s with toks := k }) := by
  refine .of_wp fun prog w A R s h => ?_
  cases bs with
  | nil =>
    rw [entry_nil]
    refine wpAny_bind (wpAny_rule ?_)
    unfold PySem.retStr
    exact wpAny_bind (wpAny_mkStr (wpAny_pure ⟨_, rfl, h _ _⟩) (by decide))
  | cons c cs =>
    rw [entry_ascii]
    refine wpAny_bind (wpAny_mkStr ?_ (by decide))
    refine wpAny_bind (wpAny_mkStr ?_ (by decide))
    refine wpAny_bind (wpAny_mkStr ?_ (by decide))
    exact wpAny_bind (call_function_meets KBd.kind_text KBd.plain_text KBd.entry_text (KBd.args_text _ _ _ _) (meets_text (c :: cs) hb hl) (wpAny_pure ⟨_, rfl, h _ _⟩))
end
section
variable {prog : Program} {w : World} {A : Around} {s : Shared} {mu : List Addr}
theorem decode_ok {bs : List UInt8} {t u : Tok} (hb : ∀ c ∈ bs, c.toNat < 128) (hl : bs.length ≤ lenLid) :
    Tr prog w A (call (.builtin "bytes.decode") [.bytes bs.toArray t, .str (PySem.Str.ofString "ascii") u]) s (fun v h => Rep w.params mu h (.str (bs.map (·.toNat))) v) :=
  Tr.of fun R kk => call_meets FB.slot_bytes_decode (typeIs_bytes _ _ _) FB.entry_bytes_decode (args_decode_2 _ _) (meets_decode bs hb hl) fun t' k => kk _ s.heap k (fun _ _ e => e) (by unfold Rep; exact ⟨_, rfl⟩)
end
end Mine
namespace Mine
open PySem PySem.W PyProof.Rows PySem.Calls

/-- a name stands for a value -/
noncomputable def Rd (env : Env) (h : Heap) (x : Str) (wv : Value) : Prop :=
  (env.kindOf x = some .local ∧ ∃ m, h.Ns env.locals m ∧ m x = some wv) ∨
  ((env.kindOf x = some .cell ∨ env.kindOf x = some .free) ∧ ∃ c, env.cells.lookup x = some c ∧ h.IsCell c (some wv))
theorem Rd.keep {env : Env} {h h' : Heap} {x : Str} {wv : Value} (r : Rd env h x wv) (k : KeepAll h h') : Rd env h' x wv :=
  r.imp (fun ⟨e, m, n, v⟩ => ⟨e, m, n.keeps k, v⟩) fun ⟨e, c, l, o, g, d⟩ => ⟨e, c, l, o, k _ _ g, d⟩

structure Fm (P : Params) (mu : List Addr) (env : Env) (h : Heap) (l : Ls) : Prop where
  kind : env.scope.kind = .function
  glob : env.globals = mainGlobals
  blt : env.builtins = builtinsNs
  read : ∀ x v, l.at x = some v → nameOk x = true ∧ ∃ wv, Rd env h x wv ∧ Rep P mu h v wv
theorem Fm.keep {P : Params} {mu : List Addr} {env : Env} {h h' : Heap} {l : Ls} (F : Fm P mu env h l) (k : KeepAll h h') : Fm P mu env h' l :=
  ⟨F.kind, F.glob, F.blt, fun x v e => by obtain ⟨n, wv, r, p⟩ := F.read x v e; exact ⟨n, wv, r.keep k, p.all k⟩⟩

structure Rm (A : Around) (d : Nat) : Prop where
  handled : A.handled = none
  depth : A.depth + d < recursionLimit
  units : A.units + 4 * d + 64 < cLine

noncomputable def GetOk (prog : Program) (w : World) (hb : Heap) (g : Cfg) : Prop :=
  ∀ (A : Around) (s : Shared) (wv : Value) (i : Int) (t : Tok), KeepAll hb s.heap → (g.get wv i).2 →
    (∃ a ob, wv = .ref a ∧ s.heap.get? a = some ob ∧ ob.cls = .type "dict" ∧ ob.dict = none) ∧
    Tr prog w A (call (.builtin "dict.get") [wv, .int i t]) s (fun v h => ∀ mu, Rep w.params mu h (g.get wv i).1 v)
noncomputable def FnOk (prog : Program) (w : World) (hb : Heap) (mg : Str → Option Value) (g : Cfg) (d : Nat) : Prop :=
  ∀ (f : Str) (args : List V), (g.fn f args).2 → ∃ a o fd, mg f = some (.ref a) ∧ hb.get? a = some o ∧ o.data = .func fd ∧
    ∀ (A : Around) (s : Shared) (mu : List Addr) (ws : List Value), KeepAll hb s.heap → Rm A d → Live mu s.heap → Reps w.params mu s.heap args ws →
      Tr prog w A (call (.ref a) ws) s (fun v h => Rep w.params mu h (g.fn f args).1 v)
structure Base (prog : Program) (w : World) (hb : Heap) (mg mb : Str → Option Value) (g : Cfg) (d : Nat) : Prop where
  gns : hb.Ns mainGlobals mg
  bns : hb.Ns builtinsNs mb
  boot : ∀ x : Str, x ≠ "__name__" → mb x = bootBuiltins x
  gl : ∀ x v, g.gl x = some v → ∃ wv, mg x = some wv ∧ ((∃ i t, v = .int i ∧ wv = .int i t) ∨ v = .val wv)
  nob : ∀ x, (isBlt x = true ∨ x = ("list" : Str) ∨ x = ("range" : Str)) → mg x = none
  mem : MemOk prog w hb g
  get : GetOk prog w hb g
  fn : FnOk prog w hb mg g d
  lim : hb.NoLimit

section
variable {prog : Program} {w : World} {A : Around} {s : Shared} {mu : List Addr} {hb : Heap} {mg mb : Str → Option Value} {g : Cfg} {d : Nat} {env : Env} {l : Ls}

theorem nameOk_debug {x : Str} (h : nameOk x = true) : (x == ("__debug__" : Str)) = false := by
  unfold nameOk at h; simp only [Bool.and_eq_true, Bool.not_eq_true'] at h; exact h.1.1
theorem nameOk_dict {x : Str} (h : nameOk x = true) : (x == ("__classdict__" : Str)) = false := by
  unfold nameOk at h; simp only [Bool.and_eq_true, Bool.not_eq_true'] at h; exact h.1.2
theorem tr_load {x : Str} {wv : Value} {Q : Value → Heap → Prop} (hk : env.scope.kind = .function) (hn : nameOk x = true) (r : Rd env s.heap x wv) (q : Q wv s.heap) : Tr prog w A (loadName env x) s Q := by
  refine Tr.of fun R k => ?_
  rcases r with ⟨e, m, n, v⟩ | ⟨e | e, c, cl, ic⟩
  · exact wpAny_loadName_local hk e n v (k _ s.heap s.toks (fun _ _ e => e) q)
  · exact wpAny_loadName_cell hk e cl ic (k _ s.heap s.toks (fun _ _ e => e) q)
  · exact wpAny_loadName_free hk e cl ic (k _ s.heap s.toks (fun _ _ e => e) q) (nameOk_dict hn)
theorem tr_name {x : Str} {p : Pos} {wv : Value} {Q : Value → Heap → Prop} (hk : env.scope.kind = .function) (hn : nameOk x = true) (r : Rd env s.heap x wv) (q : Q wv s.heap) : Tr prog w A (eval (.Name x p) env) s Q :=
  Tr.of fun R k => wpAny_Name ((tr_load hk hn r q).use k) (nameOk_debug hn)
theorem kindOk_is {k : Kd} {x : Str} (h : kindOk k x = true) : k x = some .globalImplicit ∧ (x == ("__debug__" : Str)) = false := by
  unfold kindOk at h; simp only [Bool.and_eq_true, Bool.not_eq_true', beq_iff_eq] at h; exact h
theorem tr_global {x : Str} {p : Pos} {wv : Value} {Q : Value → Heap → Prop} (B : Base prog w hb mg mb g d) (kb : KeepAll hb s.heap) (F : Fm w.params mu env s.heap l) (hk : kindOk env.kindOf x = true) (hv : mg x = some wv) (q : Q wv s.heap) :
    Tr prog w A (eval (.Name x p) env) s Q :=
  Tr.of fun R k => Name_function_global F.kind (kindOk_is hk).1 (loadGlobal_global (by rw [F.glob]; exact B.gns.keeps kb) hv (k _ s.heap s.toks (fun _ _ e => e) q)) (kindOk_is hk).2
theorem tr_builtin {x : Str} {p : Pos} {wv : Value} {Q : Value → Heap → Prop} (B : Base prog w hb mg mb g d) (kb : KeepAll hb s.heap) (F : Fm w.params mu env s.heap l) (hk : kindOk env.kindOf x = true) (hv : mg x = none) (hn : x ≠ "__name__") (hx : bootBuiltins x = some wv) (q : Q wv s.heap) :
    Tr prog w A (eval (.Name x p) env) s Q :=
  Tr.of fun R k => Name_function_global F.kind (kindOk_is hk).1 (loadGlobal_builtin (by rw [F.glob]; exact B.gns.keeps kb) hv (by rw [F.blt]; exact B.bns.keeps kb) ((B.boot x hn).trans hx) (k _ s.heap s.toks (fun _ _ e => e) q)) (kindOk_is hk).2
theorem evalArgs_of {f : Value} {args : List (Bool × Sem Value)} {E : Value → Shared → Prop} {Q : Args → Shared → Prop} (hp : ∀ a ∈ args, a.1 = false) (h : wpAny (model prog w) A (spliced args) (fun vs s' => Q ⟨vs, []⟩ s') E s) :
    wpAny (model prog w) A (evalArgs f true args []) Q E s := by
  cases args with
  | nil =>
    unfold evalArgs
    show wpAny (model prog w) A (pure (⟨[], []⟩ : Args)) Q E s
    exact fun Γ p hΓ => h Γ p hΓ
  | cons a r =>
    obtain ⟨b, x⟩ := a
    obtain rfl : b = false := hp (b, x) (.head _)
    exact evalArgs_plain h
end
end Mine
namespace Mine
open PySem PySem.W PyProof.Rows PySem.Calls
theorem KeepAll.trans {a b c : Heap} (x : KeepAll a b) (y : KeepAll b c) : KeepAll a c := fun p o e => y p o (x p o e)
section
variable (prog : Program) (w : World) (hb : Heap) (mg mb : Str → Option Value) (g : Cfg) (d : Nat)

/-- the state in which an expression is evaluated -/
structure At (mu : List Addr) (A : Around) (s : Shared) (env : Env) (l : Ls) : Prop where
  fm : Fm w.params mu env s.heap l
  live : Live mu s.heap
  base : KeepAll hb s.heap
  room : Rm A d
variable {prog w hb mg mb g d}
theorem At.go {mu : List Addr} {A : Around} {s : Shared} {env : Env} {l : Ls} (X : At w hb d mu A s env l) {h' : Heap} {tk : Nat} (k : KeepAll s.heap h') : At w hb d mu A { s with heap := h', toks := tk } env l :=
  ⟨X.fm.keep k, X.live.keep k, X.base.trans k, X.room⟩
variable (prog w hb mg mb g d)

/-- what a loop may go over -/
noncomputable def ItOf (mu : List Addr) (h : Heap) (vs : List V) (xv : Value) : Prop :=
  ∀ (A : Around) (s : Shared) (Q : Value → Shared → Prop) (E : Value → Shared → Prop), A.handled = none → KeepAll h s.heap →
    (∀ o fp Pd St tk, Walks prog w A s.heap.objs.size fp [s.heap.objs.size] vs.length Pd St → St 0 (s.heap.push o) → (∀ i h, St i h → ∃ o, h.get? s.heap.objs.size = some o ∧ o.cls ≠ .type "list") →
      (∀ b ∈ fp, b = s.heap.objs.size ∨ ((∃ o, h.get? b = some o) ∧ b ∉ mu)) →
      (∀ i v, i < vs.length → Pd i v → ∃ u, vs[i]? = some u ∧ Rep w.params mu h u v) →
      Q (.ref s.heap.objs.size) { s with heap := s.heap.push o, toks := tk }) →
    wpAny (model prog w) A (pyIter xv) Q E s

structure Snd (n : Nat) : Prop where
  ev : ∀ {env l e mu s A}, At w hb d mu A s env l → (ev g env.kindOf n l e).2 → Tr prog w A (eval e env) s (fun v h => Rep w.params mu h (ev g env.kindOf n l e).1 v)
  evT : ∀ {env l e mu s A}, At w hb d mu A s env l → (evT g env.kindOf n l e).2 → Tr prog w A (isTrue e env (eval e env)) s (fun v h => v = (evT g env.kindOf n l e).1)
  evAnd : ∀ {env l es mu s A}, At w hb d mu A s env l → (evAnd g env.kindOf n l es).2 → Tr prog w A (allTrue .And es env) s (fun v h => v = (evAnd g env.kindOf n l es).1)
  evOr : ∀ {env l es mu s A}, At w hb d mu A s env l → (evOr g env.kindOf n l es).2 → Tr prog w A (allTrue .Or es env) s (fun v h => v = (evOr g env.kindOf n l es).1)
  evO : ∀ {env l e mu s A}, At w hb d mu A s env l → (evO g env.kindOf n l e).2 → Tr prog w A (evalPart e env) s (fun v h => Rep w.params mu h (evO g env.kindOf n l e).1 v)
  evs : ∀ {env l es mu s A pos}, At w hb d mu A s env l → (evs g env.kindOf n l es).2 → (∀ a ∈ backTo pos (starEach es env), a.1 = false) ∧ Tr prog w A (spliced (backTo pos (starEach es env))) s (fun v h => Reps w.params mu h (evs g env.kindOf n l es).1 v)
  evI : ∀ {env l e mu s A}, At w hb d mu A s env l → (evI g env.kindOf n l e).2 → (∀ x, foldedSetIterable e env x = pure x) ∧ Tr prog w A (eval e env) s (fun v h => ItOf prog w mu h (evI g env.kindOf n l e).1 v)
variable {prog w hb mg mb g d}
variable {n : Nat} {env : Env} {l : Ls} {mu : List Addr} {s : Shared} {A : Around}

theorem snd_zero : Snd prog w hb g d 0 :=
  ⟨fun _ h => h.elim, fun _ h => h.elim, fun _ h => h.elim, fun _ h => h.elim, fun _ h => h.elim, fun _ h => h.elim, fun _ h => h.elim⟩

theorem snd_And (S : Snd prog w hb g d n) {es : List Expr} (X : At w hb d mu A s env l) (h : (evAnd g env.kindOf (n + 1) l es).2) :
    Tr prog w A (allTrue .And es env) s (fun v _ => v = (evAnd g env.kindOf (n + 1) l es).1) := by
  cases es with
  | nil => exact Tr.of fun R k => wpAny_allTrue_And_nil (k _ s.heap s.toks (fun _ _ e => e) rfl)
  | cons e r =>
    rw [evAnd_cons] at h ⊢
    refine Tr.of fun R k => wpAny_allTrue_And_cons ?_
    split at h
    · rename_i ht
      refine (S.evT X h.1).use fun b h' tk kk q => ?_
      subst q
      rw [if_pos ht] at k ⊢
      exact (S.evAnd (X.go kk) h.2).use fun b h'' tk' kk' q => k _ _ _ (kk.trans kk') q
    · rename_i ht
      refine (S.evT X h).use fun b h' tk kk q => ?_
      subst q
      rw [if_neg ht] at k ⊢
      exact k _ _ _ kk rfl
theorem snd_Or (S : Snd prog w hb g d n) {es : List Expr} (X : At w hb d mu A s env l) (h : (evOr g env.kindOf (n + 1) l es).2) :
    Tr prog w A (allTrue .Or es env) s (fun v _ => v = (evOr g env.kindOf (n + 1) l es).1) := by
  cases es with
  | nil => exact Tr.of fun R k => fun Γ p hΓ => k _ s.heap s.toks (fun _ _ e => e) rfl
  | cons e r =>
    rw [evOr_cons] at h ⊢
    refine Tr.of fun R k => wpAny_allTrue_Or_cons ?_
    split at h
    · rename_i ht
      refine (S.evT X h).use fun b h' tk kk q => ?_
      subst q
      rw [if_pos ht] at k ⊢
      exact k _ _ _ kk rfl
    · rename_i ht
      refine (S.evT X h.1).use fun b h' tk kk q => ?_
      subst q
      rw [if_neg ht] at k ⊢
      exact (S.evOr (X.go kk) h.2).use fun b h'' tk' kk' q => k _ _ _ (kk.trans kk') q
theorem snd_O (S : Snd prog w hb g d n) {e : Option Expr} (X : At w hb d mu A s env l) (h : (evO g env.kindOf (n + 1) l e).2) :
    Tr prog w A (evalPart e env) s (fun v h => Rep w.params mu h (evO g env.kindOf (n + 1) l e).1 v) := by
  cases e with
  | none => exact Tr.pure (by show Rep _ _ _ V.none _; unfold Rep; rfl)
  | some e => exact S.ev X h
theorem snd_Tv (S : Snd prog w hb g d n) {e : Expr} (X : At w hb d mu A s env l) (he : evT g env.kindOf (n + 1) l e = ((truV (ev g env.kindOf n l e).1).1, (ev g env.kindOf n l e).2 ∧ (truV (ev g env.kindOf n l e).1).2)) (hi : isTrue e env (eval e env) = (do let v ← eval e env; standAt e.pos; holding [v] (truthy v))) (h : (evT g env.kindOf (n + 1) l e).2) :
    Tr prog w A (isTrue e env (eval e env)) s (fun v _ => v = (evT g env.kindOf (n + 1) l e).1) := by
  rw [he] at h ⊢
  exact Tr.of fun R k => wpAny_isTrue_value ((S.ev X h.1).use fun v h' tk kk r => (truV_ok (s := { s with heap := h', toks := tk }) h.2 r).use fun c h'' tk' kk' e => k _ _ _ (kk.trans kk') e) hi
theorem snd_T (B : Base prog w hb mg mb g d) (S : Snd prog w hb g d n) {e : Expr} (X : At w hb d mu A s env l) (h : (evT g env.kindOf (n + 1) l e).2) :
    Tr prog w A (isTrue e env (eval e env)) s (fun v _ => v = (evT g env.kindOf (n + 1) l e).1) := by
  cases e with
  | UnaryOp op a p =>
    cases op with
    | Not => exact Tr.of fun R k => wpAny_isTrue_Not ((S.evT X (e := a) h).use fun b h' tk kk q => k _ _ _ kk (by rw [q]; rfl))
    | _ => exact snd_Tv S X rfl rfl h
  | BoolOp op es p =>
    cases op with
    | And => exact Tr.of fun R k => wpAny_isTrue_BoolOp ((S.evAnd X (es := es) h).use k)
    | Or => exact Tr.of fun R k => wpAny_isTrue_BoolOp ((S.evOr X (es := es) h).use k)
  | Compare a ops bs p =>
    rcases ops with _ | ⟨op, _ | ⟨o2, r⟩⟩
    · exact h.elim
    · rcases bs with _ | ⟨b, _ | ⟨b2, r⟩⟩
      · exact h.elim
      · rw [evT_cmp] at h ⊢
        refine Tr.of fun R k => wpAny_isTrue_Compare1 ((S.ev X h.1).use fun a h1 t1 k1 ra => (S.ev (X.go k1) h.2.1).use fun b h2 t2 k2 rb => ?_) h.2.2.2
        refine (cmpV_ok (w := w) (s := { s with heap := h2, toks := t2 }) (g := g) B.mem (X.base.trans (k1.trans k2)) h.2.2.1 (ra.all k2) rb (by have := X.room.units; omega)).use fun c h3 t3 k3 e => ?_
        subst e
        exact wpAny_truthy_bool (k _ h3 t3 (k1.trans (k2.trans k3)) rfl)
      · exact h.elim
    · rcases r with _ | ⟨o3, r⟩
      · rcases bs with _ | ⟨b, _ | ⟨c, _ | ⟨d', r⟩⟩⟩
        · exact h.elim
        · exact h.elim
        · rw [evT_cmp2] at h ⊢
          have hu : A.units + 64 < cLine := by have := X.room.units; omega
          by_cases ht : (cmpV g op (ev g env.kindOf n l a).1 (ev g env.kindOf n l b).1).1 = true
          · rw [if_pos ht] at h ⊢
            obtain ⟨ha, hb', hr, hc, hq, hm⟩ := h
            refine Tr.of fun R k => isTrue_chain ((S.ev X ha).use fun a h1 t1 k1 ra => test_link ((S.ev (X.go k1) hb').use fun b h2 t2 k2 rb => ?_)) hm
            refine (cmpV_ok (w := w) (s := { s with heap := h2, toks := t2 }) (g := g) B.mem (X.base.trans (k1.trans k2)) hr (ra.all k2) rb hu).use fun c h3 t3 k3 e => ?_
            subst e
            refine wpAny_truthy_bool ?_
            rw [ht, if_pos rfl]
            refine test_last ((S.ev ((X.go (tk := t1) k1).go (tk := t3) (k2.trans k3)) hc).use fun c h4 t4 k4 rc => ?_)
            refine (cmpV_ok (w := w) (s := { s with heap := h4, toks := t4 }) (g := g) B.mem (X.base.trans (k1.trans (k2.trans (k3.trans k4)))) hq ((rb.all k3).all k4) rc hu).use fun c h5 t5 k5 e => ?_
            subst e
            exact wpAny_truthy_bool (k _ h5 t5 (k1.trans (k2.trans (k3.trans (k4.trans k5)))) rfl)
          · rw [if_neg ht] at h ⊢
            obtain ⟨ha, hb', hr, hm⟩ := h
            refine Tr.of fun R k => isTrue_chain ((S.ev X ha).use fun a h1 t1 k1 ra => test_link ((S.ev (X.go k1) hb').use fun b h2 t2 k2 rb => ?_)) hm
            refine (cmpV_ok (w := w) (s := { s with heap := h2, toks := t2 }) (g := g) B.mem (X.base.trans (k1.trans k2)) hr (ra.all k2) rb hu).use fun c h3 t3 k3 e => ?_
            subst e
            refine wpAny_truthy_bool ?_
            rw [if_neg ht]
            exact k _ h3 t3 (k1.trans (k2.trans k3)) rfl
        · exact h.elim
      · exact h.elim
  | IfExp t a b p =>
    rw [evT_ife] at h ⊢
    refine Tr.of fun R k => isTrue_IfExp ?_
    split at h
    · rename_i ht
      refine (S.evT X h.1).use fun b h' tk kk q => ?_
      subst q
      simp only [ht, if_true] at k ⊢
      exact (S.evT (X.go kk) h.2).use fun b h'' tk' kk' q => k _ _ _ (kk.trans kk') q
    · rename_i ht
      refine (S.evT X h.1).use fun b h' tk kk q => ?_
      subst q
      simp only [ht] at k ⊢
      exact (S.evT (X.go kk) h.2).use fun b h'' tk' kk' q => k _ _ _ (kk.trans kk') q
  | _ => exact snd_Tv S X rfl rfl h
end
end Mine
namespace Mine
open PySem PySem.W PyProof.Rows PySem.Calls
section
variable {prog : Program} {w : World} {hb : Heap} {mg mb : Str → Option Value} {g : Cfg} {d : Nat}
variable {n : Nat} {env : Env} {l : Ls} {mu : List Addr} {s : Shared} {A : Around}

theorem starEach_plain {e : Expr} {r : List Expr} (h : ∀ x p, e ≠ .Starred x p) : starEach (e :: r) env = (false, eval e env) :: starEach r env := by
  cases e <;> first | rfl | exact absurd rfl (h _ _)
theorem snd_s (S : Snd prog w hb g d n) {es : List Expr} {pos : Pos} (X : At w hb d mu A s env l) (h : (evs g env.kindOf (n + 1) l es).2) :
    (∀ a ∈ backTo pos (starEach es env), a.1 = false) ∧ Tr prog w A (spliced (backTo pos (starEach es env))) s (fun v h => Reps w.params mu h (evs g env.kindOf (n + 1) l es).1 v) := by
  cases es with
  | nil => exact ⟨fun a ha => (by cases ha), Tr.pure (by show Reps _ _ _ [] _; unfold Reps; rfl)⟩
  | cons e r =>
    have hne : ∀ x p, e ≠ .Starred x p := fun x p q => by subst q; exact h.elim
    rw [evs_cons hne] at h ⊢
    have he : starEach (e :: r) env = (false, eval e env) :: starEach r env := starEach_plain hne
    have hb' : backTo pos (starEach (e :: r) env) = (false, eval e env) :: backTo pos (starEach r env) := by rw [he]; rfl
    rw [hb']
    refine ⟨fun a ha => ?_, Tr.of fun R k => spliced_cons ((S.ev X h.1).use fun v h' tk kk rv => (S.evs (pos := pos) (X.go kk) h.2).2.use fun vs h'' tk' kk' rvs => k _ _ _ (kk.trans kk') ?_)⟩
    · rcases List.mem_cons.mp ha with rfl | ha
      · rfl
      · exact (S.evs (pos := pos) X h.2).1 a ha
    · show Reps _ _ _ (_ :: _) _
      unfold Reps
      exact ⟨_, _, rfl, rv.all kk', rvs⟩

/-- a call of a value that the machine calls, by its place -/
theorem tr_callWith {fv : Value} {args : List (Bool × Sem Value)} {pos : Pos} {Q : Value → Heap → Prop} {P : List Value → Heap → Prop} (hfv : (∃ id, fv = .builtin id) ∨ ∃ T, fv = .type T) (hp : ∀ a ∈ args, a.1 = false) (first : List Value)
    (h : Tr prog w A (spliced args) s P) (hc : ∀ vs h' tk, KeepAll s.heap h' → P vs h' → Tr prog w A (call fv (first ++ vs)) { s with heap := h', toks := tk } Q) : Tr prog w A (callWith pos fv first args []) s Q := by
  have hp' : args.any (·.1) = false := by
    rw [Bool.eq_false_iff]; intro q
    obtain ⟨a, ha, e⟩ := List.any_eq_true.mp q
    rw [hp a ha] at e; cases e
  refine Tr.of fun R k => ?_
  have go : ∀ vs h' tk, KeepAll s.heap h' → P vs h' → wpAny (model prog w) A (call fv (first ++ vs)) R (fun _ _ => False) { s with heap := h', toks := tk } :=
    fun vs h' tk kk p => (hc vs h' tk kk p).use fun v h'' tk' kk' q => k _ _ _ (kk.trans kk') q
  rcases hfv with ⟨id, rfl⟩ | ⟨T, rfl⟩
  · exact callWith_builtin hp' (evalArgs_of hp (h.use go))
  · exact PySem.callWith_type hp' (evalArgs_of hp (h.use go))
theorem tr_call_name {f : Str} {p pos : Pos} {args : List Expr} {Q : Value → Heap → Prop} {t : Value → Sem Value} (h : Tr prog w A (eval (.Name f p) env) s (fun v h' => ∀ tk, Tr prog w A (callWith pos v [] (backTo pos (starEach args env)) []) { s with heap := h', toks := tk } Q)) :
    Tr prog w A (eval (.Call (.Name f p) args [] pos) env) s Q := by
  rw [arm_eval_Call_Name']
  refine Tr.of fun R k => wpAny_bind (h.use fun v h' tk kk q => ?_)
  exact (q tk).use fun v h'' tk' kk' q' => k _ _ _ (kk.trans kk') q'

theorem rangeUp_length (c : Int) : ∀ (n : Nat) (a : Int), (rangeUp a c n).length = n
  | 0, a => rfl
  | n + 1, a => congrArg (· + 1) (rangeUp_length c n (a + c))
theorem rangeUp_get (c : Int) : ∀ (n : Nat) (a : Int) (i : Nat), i < n → (rangeUp a c n)[i]? = some (a + i * c)
  | 0, a, i, h => by omega
  | n + 1, a, 0, h => by show some a = _; simp
  | n + 1, a, i + 1, h => by
    show (rangeUp (a + c) c n)[i]? = _
    rw [rangeUp_get c n (a + c) i (by omega)]
    congr 1
    have : ((i + 1 : Nat) : Int) * c = i * c + c := by rw [Int.natCast_add, Int.add_mul]; simp
    rw [this]; omega
theorem rangeSize_is {a b c : Int} (hc : 0 < c) : Builtin.Range.rangeSize a b c = (((b - a + c - 1).fdiv c).toNat : Int) := by
  unfold Builtin.Range.rangeSize
  rw [if_pos (by omega), Int.fdiv_eq_ediv_of_nonneg _ (by omega)]
  split
  · rename_i h
    have e : (b - a + c - 1) = (b - a - 1) + c * 1 := by omega
    rw [e, Int.add_mul_ediv_left _ _ (by omega)]
    have : 0 ≤ (b - a - 1) / c := Int.ediv_nonneg (by omega) (by omega)
    omega
  · rename_i h
    have : (b - a + c - 1) / c ≤ 0 := by
      have h1 : (b - a + c - 1) / c < 1 := Int.ediv_lt_of_lt_mul hc (by omega)
      omega
    omega
theorem rangeV_small {a b c : Int} (h : (rangeV a b c).2) : Builtin.Range.small a b c = true := by
  obtain ⟨h1, h2, h3, h4, h5, h6⟩ := h
  unfold lenLid at h3 h4 h5 h6
  unfold Builtin.Range.small
  have hs : 0 ≤ Builtin.Range.rangeSize a b c ∧ Builtin.Range.rangeSize a b c ≤ 200001 := by
    rw [rangeSize_is h1]
    refine ⟨by omega, ?_⟩
    rw [Int.fdiv_eq_ediv_of_nonneg _ (by omega)]
    have : (b - a + c - 1) / c ≤ 200001 := by
      have : (b - a + c - 1) / c < 200001 + 1 := by
        apply Int.ediv_lt_of_lt_mul h1
        have e : (200001 + 1) * c = 200002 * c := rfl
        rw [e]; omega
      omega
    omega
  unfold Builtin.Range.rangeFitsLong
  simp only [Bool.and_eq_true, Bool.or_eq_true, beq_iff_eq, decide_eq_true_eq]
  refine ⟨⟨⟨⟨⟨?_, ?_⟩, ?_, ?_⟩, ?_, ?_⟩, ?_, ?_⟩, .inr ?_⟩ <;> first | omega | (rw [if_pos (by omega)]; simp only [Bool.and_eq_true, decide_eq_true_eq]; omega)
/-- a range that stands, as what a loop goes over -/
theorem it_range {a b c : Int} {r : Addr} {t u v : Tok} {h : Heap} (hx : (rangeV a b c).2) (hr : IsRange h r a b c t u v) : ItOf prog w mu h ((rangeV a b c).1.map .int) (.ref r) := by
  intro A s Q E hh kk K
  have hl : ((rangeV a b c).1.map V.int).length = ((b - a + c - 1).fdiv c).toNat := by rw [List.length_map]; exact rangeUp_length c _ a
  refine wpAny_pyIter_range (kk _ _ hr) (rangeV_small hx) ?_
  refine K _ [s.heap.objs.size] (fun i v => ∃ t, v = .int (a + i * c) t) (fun i h => IsRangeIter h s.heap.objs.size (a + i * c) ((((b - a + c - 1).fdiv c).toNat : Int) - i) c) _ ?_ ?_ (fun i h e => ⟨_, e, by simp⟩) ?_ ?_
  · rw [hl]; exact Walks.range hh _ a c _
  · show Heap.get? _ _ = _
    rw [get_push (by intro e; cases e), rangeSize_is hx.1]
    simp
  · intro b hb; exact .inl (List.mem_singleton.mp hb)
  · rintro i v hi ⟨t, rfl⟩
    rw [hl] at hi
    refine ⟨.int (a + i * c), ?_, by unfold Rep; exact ⟨_, rfl⟩⟩
    rw [List.getElem?_map, show (rangeV a b c).1 = rangeUp a c ((b - a + c - 1).fdiv c).toNat from rfl, rangeUp_get c _ a i hi]; rfl
theorem it_items {v : V} {wv : Value} {h : Heap} (hx : (itemsV v).2) (r : Rep w.params mu h v wv) : ItOf prog w mu h (itemsV v).1 wv := by
  cases v
  case list xs =>
    have hx : xs.length ≤ lenLid := hx
    show ItOf prog w mu h xs wv
    unfold Rep at r
    obtain ⟨a, ws, rfl, ha, la, ra⟩ := r
    intro A s Q E hh kk K
    have la' := isList_keep la (fun o => kk a o)
    have hlen := ra.length
    have hne : a ≠ s.heap.objs.size := by
      obtain ⟨o, g, _⟩ := la'
      exact Nat.ne_of_lt (Heap.lt_size g)
    refine wpAny_pyIter_list la' ?_
    refine K _ [s.heap.objs.size, a] (fun i v => ws.toArray[i]? = some v) (fun i h => Heap.IsListIter h s.heap.objs.size a i ∧ Heap.IsList h a ws.toArray) _ ?_ ?_ (fun i h e => let ⟨⟨o, g, c, _⟩, _⟩ := e; ⟨o, g, by rw [c]; simp⟩) ?_ ?_
    · have := Walks.list (prog := prog) (w := w) hh s.heap.objs.size a hne ws.toArray
      have hz : ws.toArray.size = xs.length := by rw [List.size_toArray]; exact hlen
      rw [hz] at this; exact this
    · exact ⟨⟨_, get_push (by intro e; cases e), rfl, rfl⟩, isList_keep la' (fun o => keepAll_push _ o)⟩
    · intro b hb
      rcases List.mem_cons.mp hb with rfl | hb
      · exact .inl rfl
      · rcases List.mem_singleton.mp hb with rfl
        obtain ⟨o, g, _⟩ := la
        exact .inr ⟨⟨o, g⟩, ha⟩
    · intro i v hi hv
      have hv : ws[i]? = some v := by simpa using hv
      have : i < xs.length := hi
      obtain ⟨y, ey, ry⟩ := ra.get (List.getElem?_eq_getElem this)
      rw [hv] at ey; cases ey
      exact ⟨_, List.getElem?_eq_getElem this, ry⟩
  case str xs =>
    have hx : xs.length ≤ lenLid := hx
    show ItOf prog w mu h (xs.map fun c => V.str [c]) wv
    unfold Rep at r
    obtain ⟨t, rfl⟩ := r
    intro A s Q E hh kk K
    have hz : (Str.cps ⟨xs.toArray⟩).size = (xs.map fun c => V.str [c]).length := by simp
    have hp : ∀ b ∈ [s.heap.objs.size], b = s.heap.objs.size ∨ ((∃ o, h.get? b = some o) ∧ b ∉ mu) := fun b hb => .inl (List.mem_singleton.mp hb)
    have hi : ∀ i v, i < (xs.map fun c => V.str [c]).length → SignAt ⟨xs.toArray⟩ i v → ∃ u, (xs.map fun c => V.str [c])[i]? = some u ∧ Rep w.params mu h u v := by
      rintro i v hi ⟨c, u, e, rfl⟩
      have e : xs[i]? = some c := by simpa using e
      exact ⟨.str [c], by rw [List.getElem?_map, e]; rfl, by unfold Rep; exact ⟨_, rfl⟩⟩
    cases ha : (Str.cps ⟨xs.toArray⟩).all (· < 128)
    · refine wpAny_pyIter_wide ha (K _ _ (SignAt ⟨xs.toArray⟩) (fun i h => h.IsStrIter s.heap.objs.size "str_iterator" ⟨xs.toArray⟩ t i) s.toks ?_ ?_ (fun i h e => let ⟨o, g, c, _⟩ := e; ⟨o, g, by rw [c]; simp⟩) hp hi)
      · have := Walks.strWide (prog := prog) (w := w) hh s.heap.objs.size ⟨xs.toArray⟩ t
        rw [hz] at this; exact this
      · exact ⟨_, get_push (by intro e; cases e), rfl, rfl⟩
    · refine wpAny_pyIter_ascii ha (K _ _ (SignAt ⟨xs.toArray⟩) (fun i h => h.IsStrIter s.heap.objs.size "str_ascii_iterator" ⟨xs.toArray⟩ t i) s.toks ?_ ?_ (fun i h e => let ⟨o, g, c, _⟩ := e; ⟨o, g, by rw [c]; simp⟩) hp hi)
      · have := Walks.strAscii (prog := prog) (w := w) hh s.heap.objs.size ⟨xs.toArray⟩ t
        rw [hz] at this; exact this
      · exact ⟨_, get_push (by intro e; cases e), rfl, rfl⟩
  all_goals exact hx.elim
end
end Mine
namespace Mine
open PySem PySem.W PyProof.Rows PySem.Calls
section
variable {prog : Program} {w : World} {hb : Heap} {mg mb : Str → Option Value} {g : Cfg} {d : Nat}
variable {n : Nat} {env : Env} {l : Ls} {mu : List Addr} {s : Shared} {A : Around}

theorem boot_range : bootBuiltins ("range" : Str) = some (.type "range") := by decide +kernel
theorem boot_list : bootBuiltins ("list" : Str) = some (.type "list") := by decide +kernel
/-- a range is made -/
theorem tr_range (B : Base prog w hb mg mb g d) (S : Snd prog w hb g d n) {f : Str} {p pos : Pos} {args : List Expr} (X : At w hb d mu A s env l) (h : (evI g env.kindOf (n + 1) l (.Call (.Name f p) args [] pos)).2) :
    f = ("range" : Str) ∧ Tr prog w A (eval (.Call (.Name f p) args [] pos) env) s (fun v h' => ∃ a b c r t u v', v = .ref r ∧ IsRange h' r a b c t u v' ∧ (rangeV a b c).2 ∧ (evI g env.kindOf (n + 1) l (.Call (.Name f p) args [] pos)).1 = (rangeV a b c).1.map .int ∧ r ∉ mu) := by
  rw [evI_range] at h ⊢
  by_cases hf : f = ("range" : Str)
  · refine ⟨hf, ?_⟩
    subst hf
    rw [if_pos rfl] at h ⊢
    obtain ⟨hs, hr, hl, hk⟩ := h
    refine tr_call_name (t := fun v => pure v) (tr_builtin B X.base X.fm hk (B.nob _ (.inr (.inr rfl))) (by decide) boot_range fun tk => ?_)
    have X' := X.go (h' := s.heap) (tk := tk) (fun _ _ e => e)
    refine tr_callWith (.inr ⟨_, rfl⟩) (S.evs (pos := pos) X' hs).1 [] (S.evs (pos := pos) X' hs).2 fun vs h' tk' kk r => ?_
    have XF := (X.go (tk := tk') kk).live.fresh
    obtain ⟨hi, hr⟩ := hr
    have hI := ints_areV hi r
    show Tr prog w A _ _ (fun (v : Value) (h' : Heap) => ∃ (a b c : Int) (r : Addr) (t u v' : Tok), v = Value.ref r ∧ IsRange h' r a b c t u v' ∧ (rangeV a b c).2 ∧ (rangeI (intsV (evs g env.kindOf n l args).1).1).1 = (rangeV a b c).1.map .int ∧ r ∉ mu)
    generalize (intsV (evs g env.kindOf n l args).1).1 = is at hr hI ⊢
    cases hI with
    | nil => exact hr.elim
    | cons a t q => cases q with
      | nil => exact Tr.of fun R k => call_range_1 (k _ _ _ keepAll_push ⟨0, a, 1, _, _, _, _, rfl, get_push (by intro e; cases e), hr, rfl, XF⟩)
      | cons b t2 q => cases q with
        | nil => exact Tr.of fun R k => call_range_2 (k _ _ _ keepAll_push ⟨a, b, 1, _, _, _, _, rfl, get_push (by intro e; cases e), hr, rfl, XF⟩)
        | cons c t3 q => cases q with
          | nil =>
            have hr' : (rangeV a b c).2 := hr
            exact Tr.of fun R k => call_range_3 (by have := hr'.1; omega) (k _ _ _ keepAll_push ⟨a, b, c, _, _, _, _, rfl, get_push (by intro e; cases e), hr, rfl, XF⟩) (.inl (PyProof.noPylong_small (by have := hr'.1; have := hr'.2.1; omega)))
          | cons _ _ _ => exact hr.elim
  · rw [if_neg hf] at h; exact h.elim
theorem isSrc_fold {e : Expr} (h : isSrc e = true) : ∀ x, foldedSetIterable e env x = pure x := by
  cases e with
  | Name _ _ => exact fun _ => rfl
  | List _ _ => exact fun _ => rfl
  | Constant _ _ _ => exact fun _ => rfl
  | _ => cases h
theorem snd_I (B : Base prog w hb mg mb g d) (S : Snd prog w hb g d n) {e : Expr} (X : At w hb d mu A s env l) (h : (evI g env.kindOf (n + 1) l e).2) :
    (∀ x, foldedSetIterable e env x = pure x) ∧ Tr prog w A (eval e env) s (fun v h => ItOf prog w mu h (evI g env.kindOf (n + 1) l e).1 v) := by
  cases hc : callV e with
  | some p =>
    obtain ⟨f, args⟩ := p
    obtain ⟨fp, pos, rfl⟩ := callV_form hc
    refine ⟨fun _ => rfl, (tr_range B S X h).2.mono fun v h' kk q => ?_⟩
    obtain ⟨a, b, c, r, t, u, v', rfl, hr, hx, e, hm⟩ := q
    rw [e]
    exact it_range hx hr
  | none =>
    rw [evI_src hc] at h ⊢
    exact ⟨isSrc_fold h.1, (S.ev X h.2.1).mono fun v h' kk q => it_items h.2.2 q⟩

theorem carried_reps {P : Params} {h : Heap} : ∀ {ys : List Value} {ns : List Int}, CarriedAll ys (ns.map PyData.int) → Reps P mu h (ns.map .int) ys
  | _, [], c => by
    cases c; unfold Reps; rfl
  | _, i :: ns, c => by
    cases c with
    | cons c r =>
      cases c
      rw [List.map_cons]
      unfold Reps
      exact ⟨_, _, rfl, by unfold Rep; exact ⟨_, rfl⟩, carried_reps r⟩
theorem rangeUp_is (a c : Int) (n : Nat) : rangeUp a c n = rangeInts a c n := by
  apply List.ext_getElem?
  intro i
  by_cases h : i < n
  · rw [rangeUp_get c n a i h]
    unfold rangeInts
    simp [h]
  · rw [List.getElem?_eq_none (by rw [rangeUp_length]; omega), List.getElem?_eq_none (by unfold rangeInts; simp; omega)]
/-- a new list of a range: nothing else knows it -/
theorem tr_list_range (B : Base prog w hb mg mb g d) (S : Snd prog w hb g d n) {f r : Str} {p rp cp pos : Pos} {as : List Expr} (X : At w hb d mu A s env l) (hf : f = ("list" : Str))
    (h : (evI g env.kindOf (n + 1) l (.Call (.Name r rp) as [] cp)).2) (hk : kindOk env.kindOf f = true) :
    Tr prog w A (eval (.Call (.Name f p) [.Call (.Name r rp) as [] cp] [] pos) env) s (fun v h' => ∃ a ws, v = .ref a ∧ s.heap.get? a = none ∧ a ∉ mu ∧ h'.PlainList a (List.toArray ws) ∧ Reps w.params mu h' (evI g env.kindOf (n + 1) l (.Call (.Name r rp) as [] cp)).1 ws) := by
  subst hf
  refine tr_call_name (t := fun v => pure v) (tr_builtin B X.base X.fm hk (B.nob _ (.inr (.inl rfl))) (by decide) boot_list fun tk => ?_)
  have X' := X.go (h' := s.heap) (tk := tk) (fun _ _ e => e)
  have hb1 : backTo pos (starEach [.Call (.Name r rp) as [] cp] env) = [(false, eval (.Call (.Name r rp) as [] cp) env)] := rfl
  rw [hb1]
  refine tr_callWith (P := fun vs h' => ∃ a b c q t u v', vs = [.ref q] ∧ IsRange h' q a b c t u v' ∧ (rangeV a b c).2 ∧ (evI g env.kindOf (n + 1) l (.Call (.Name r rp) as [] cp)).1 = (rangeV a b c).1.map .int) (.inr ⟨_, rfl⟩) (fun a ha => by rcases List.mem_singleton.mp ha with rfl; rfl) [] ?_ ?_
  · refine Tr.of fun R k => spliced_cons ((tr_range B S X' h).2.use fun v h' tk kk q => spliced_nil (k _ _ _ kk ?_))
    obtain ⟨a, b, c, r', t, u, v', rfl, hr, hx, e, hm⟩ := q
    exact ⟨a, b, c, _, t, u, v', rfl, hr, hx, e⟩
  · rintro vs h' tk' kk ⟨a, b, c, q, t, u, v', rfl, hr, hx, e⟩
    have F : Fr ⟨#[], {}⟩ mainGlobals h' mg := ⟨(B.gns.keeps X.base).keeps kk, fun b o e => by have := Heap.lt_size e; exact absurd this (Nat.not_lt_zero _), Nat.zero_le _⟩
    have hn : ((b - a + c - 1).fdiv c).toNat ≤ 2 ^ 24 := by
      have := rangeV_small hx
      obtain ⟨h1, h2, h3, h4, h5, h6⟩ := hx
      unfold lenLid at h3 h4 h5 h6
      rw [Int.fdiv_eq_ediv_of_nonneg _ (by omega)]
      have : (b - a + c - 1) / c < 200001 + 1 := by
        apply Int.ediv_lt_of_lt_mul h1
        have e : (200001 + 1) * c = 200002 * c := rfl
        rw [e]; omega
      omega
    refine Tr.of fun R k => list_rangeD (news := []) X.room.handled F (fun p hp => by cases hp) hr (rangeV_small hx) (rangeSize_is hx.1) hn fun h'' tk'' ys F' N' kk' hf hl hp hc => k _ _ _ kk' ?_
    refine ⟨_, ys, rfl, ?_, (X'.go (tk := tk') kk).live.fresh, hp.1, ?_⟩
    · show s.heap.get? h'.objs.size = none
      cases q : s.heap.get? h'.objs.size with
      | none => rfl
      | some o => exact absurd (Heap.lt_size (kk _ _ q)) (Nat.lt_irrefl _)
    · rw [e, show (rangeV a b c).1 = rangeUp a c ((b - a + c - 1).fdiv c).toNat from rfl, rangeUp_is]
      exact carried_reps hc
end
end Mine
namespace Mine
open PySem PySem.W PyProof.Rows PySem.Calls

section
variable {env : Env} {scope : Scope}
theorem forIn_cells {names : List (Str × NameKind)} (hf : ∀ p ∈ names, p.2 = NameKind.free → ∃ c, env.cells.lookup p.1 = some c) : ∀ (cs : List (Str × Addr)), (∀ p ∈ cs, env.cells.lookup p.1 = some p.2) →
    ∃ cs', (forIn names cs (fun p (r : List (Str × Addr)) => if (p.2 == NameKind.free) = true then (do let c ← cellOf env p.1; pure (ForInStep.yield ((p.1, c) :: r))) else pure (ForInStep.yield r)) : Sem (List (Str × Addr))) = pure cs' ∧
      (∀ p ∈ cs', env.cells.lookup p.1 = some p.2) ∧ (∀ p ∈ cs, p ∈ cs') ∧ ∀ p ∈ names, p.2 = .free → ∃ c, (p.1, c) ∈ cs' := by
  induction names with
  | nil => exact fun cs h => ⟨cs, rfl, h, fun _ h => h, fun p hp => by cases hp⟩
  | cons p r ih =>
    intro cs h
    by_cases hk : (p.2 == NameKind.free) = true
    · obtain ⟨c, hc⟩ := hf p (.head _) (by simpa using hk)
      obtain ⟨cs', e, h1, h2, h3⟩ := ih (fun q hq => hf q (.tail _ hq)) ((p.1, c) :: cs) (fun q hq => by
        rcases List.mem_cons.mp hq with rfl | hq
        · exact hc
        · exact h q hq)
      refine ⟨cs', ?_, h1, fun q hq => h2 q (.tail _ hq), fun q hq e => ?_⟩
      · rw [List.forIn_cons, if_pos hk]
        unfold cellOf
        rw [hc]
        exact e
      · rcases List.mem_cons.mp hq with rfl | hq
        · exact ⟨c, h2 _ (.head _)⟩
        · exact h3 q hq e
    · obtain ⟨cs', e, h1, h2, h3⟩ := ih (fun q hq => hf q (.tail _ hq)) cs h
      refine ⟨cs', ?_, h1, h2, fun q hq e => ?_⟩
      · rw [List.forIn_cons, if_neg hk]; exact e
      · rcases List.mem_cons.mp hq with rfl | hq
        · exact absurd (by rw [e]; rfl) hk
        · exact h3 q hq e
theorem lookup_mem {x : Str} {c : Addr} : ∀ {cs : List (Str × Addr)}, (x, c) ∈ cs → ∃ c', cs.lookup x = some c'
  | [], h => by cases h
  | (y, e) :: r, h => by
    by_cases hy : (x == y) = true
    · exact ⟨e, by simp [List.lookup_cons, hy]⟩
    · rcases List.mem_cons.mp h with h | h
      · cases h; simp at hy
      · obtain ⟨c', e'⟩ := lookup_mem h
        exact ⟨c', by simp only [List.lookup_cons]; rw [show (x == y) = false from by simpa using hy]; exact e'⟩
theorem mem_lookup {x : Str} {c : Addr} : ∀ {cs : List (Str × Addr)}, cs.lookup x = some c → (x, c) ∈ cs
  | [], h => by cases h
  | (y, e) :: r, h => by
    rw [List.lookup_cons] at h
    by_cases hy : (x == y) = true
    · rw [hy] at h
      cases h
      obtain rfl := eq_of_beq hy
      exact .head _
    · rw [show (x == y) = false from by simpa using hy] at h
      exact .tail _ (mem_lookup h)
theorem closure_ok (hf : ∀ p ∈ scope.names, p.2 = NameKind.free → ∃ c, env.cells.lookup p.1 = some c) :
    ∃ cl, closureFor scope env = pure cl ∧ ∀ p ∈ scope.names, p.2 = .free → cl.lookup p.1 = env.cells.lookup p.1 := by
  obtain ⟨cs', e, h1, h2, h3⟩ := forIn_cells hf [] (fun p hp => by cases hp)
  refine ⟨cs', ?_, fun p hp hk => ?_⟩
  · unfold closureFor
    exact (congrArg (fun m : Sem (List (Str × Addr)) => m >>= fun cs => pure cs) e).trans rfl
  · obtain ⟨c, hc⟩ := h3 p hp hk
    obtain ⟨c', e'⟩ := lookup_mem hc
    rw [e', h1 _ (mem_lookup e')]

theorem at_put {l : Ls} {x : Str} {v : Loc} : ∀ {y : Str}, (l.put x v).at y = if y = x then some v.v else l.at y := by
  induction l with
  | nil =>
    intro y
    show (if x = y then some v.v else none) = if y = x then some v.v else none
    by_cases h : x = y
    · rw [if_pos h, if_pos h.symm]
    · rw [if_neg h, if_neg (Ne.symm h)]
  | cons p r ih =>
    intro y
    obtain ⟨z, u⟩ := p
    show Ls.at (if z = x then (x, v) :: r else (z, u) :: Ls.put r x v) y = if y = x then some v.v else if z = y then some u.v else Ls.at r y
    by_cases hz : z = x
    · subst hz
      rw [if_pos rfl]
      show (if z = y then some v.v else Ls.at r y) = _
      by_cases h : z = y
      · subst h; rw [if_pos rfl, if_pos rfl]
      · rw [if_neg h, if_neg h, if_neg (Ne.symm h)]
    · rw [if_neg hz]
      show (if z = y then some u.v else Ls.at (Ls.put r x v) y) = _
      by_cases h : z = y
      · subst h; rw [if_pos rfl, if_neg hz, if_pos rfl]
      · rw [if_neg h, if_neg h]; exact ih
theorem at_capt {l : Ls} {k : Kd} {y : Str} {v : V} (h : (l.capt k).at y = some v) : l.at y = some v ∧ (k y = some .cell ∨ k y = some .free) := by
  induction l with
  | nil => cases h
  | cons p r ih =>
    obtain ⟨z, u⟩ := p
    unfold Ls.capt at h ih
    rw [List.filter_cons] at h
    split at h
    · rename_i hk
      simp only [Ls.at] at h ⊢
      by_cases hz : z = y
      · subst hz
        rw [if_pos rfl] at h ⊢
        refine ⟨h, ?_⟩
        simpa using hk
      · rw [if_neg hz] at h ⊢; exact ih h
    · rename_i hk
      simp only [Ls.at]
      by_cases hz : z = y
      · subst hz
        obtain ⟨h1, h2⟩ := ih h
        exact absurd (by simpa using h2) hk
      · rw [if_neg hz]; exact ih h
theorem kindOf_comp (hk : env.scope.kind = .function) (cl : List (Str × Addr)) (C : Addr) : (compEnvC scope cl C env).kindOf = inKind env.kindOf scope := by
  funext x
  show List.lookup x (relabel scope env).names = _
  unfold inKind relabel selfKind
  congr 1
  apply List.map_congr_left
  rintro ⟨y, k⟩ _
  simp [hk]
theorem inKind_free {k : Kd} {x y : Str} (h : inKind k scope y = some .cell ∨ inKind k scope y = some .free) (hc : ∀ p ∈ scope.names, p.2 = NameKind.cell → p.1 = x) (hxy : y ≠ x) : (y, NameKind.free) ∈ scope.names := by
  unfold inKind at h
  generalize scope.names = ns at h hc
  induction ns with
  | nil => rcases h with h | h <;> cases h
  | cons p r ih =>
    obtain ⟨z, kz⟩ := p
    rw [List.map_cons, List.lookup_cons] at h
    have hz1 : (selfKind k (z, kz)).1 = z := by unfold selfKind; split <;> rfl
    rw [hz1] at h
    by_cases hy : (y == z) = true
    · rw [hy] at h
      obtain rfl := eq_of_beq hy
      have h' : (selfKind k (y, kz)).2 = .cell ∨ (selfKind k (y, kz)).2 = .free := h.imp Option.some.inj Option.some.inj
      have : kz = .free := by
        by_cases hs : (kz == NameKind.free && k y == some .cell) = true
        · simp only [Bool.and_eq_true, beq_iff_eq] at hs
          exact hs.1
        · have e : selfKind k (y, kz) = (y, kz) := if_neg hs
          rw [e] at h'
          rcases h' with h' | h'
          · exact absurd (hc _ (.head _) h') hxy
          · exact h'
      rw [this]; exact .head _
    · rw [show (y == z) = false from by simpa using hy] at h
      exact .tail _ (ih h fun p hp => hc p (.tail _ hp))
end
end Mine
namespace Mine
open PySem PySem.W PyProof.Rows PySem.Calls
theorem fresh_none {h : Heap} {a : Addr} (e : h.objs.size ≤ a) : h.get? a = none := by
  cases q : h.get? a with
  | none => rfl
  | some o => exact absurd (Heap.lt_size q) (Nat.not_lt.mpr e)
theorem sameBut_keep {a : Addr} {h h' : Heap} (s : Heap.SameBut a h h') : ∀ b o, b ≠ a → h.get? b = some o → h'.get? b = some o := fun b o hb e => (s.2 b hb).trans e
theorem reps_one {P : Params} {mu : List Addr} {h : Heap} {v : V} {wv : Value} (r : Rep P mu h v wv) : Reps P mu h [v] [wv] := by
  unfold Reps; exact ⟨_, _, rfl, r, by unfold Reps; rfl⟩
theorem cellsFrom_app : ∀ (names : List (Str × NameKind)) (n : Nat) (acc cl : List (Str × Addr)), cellsFrom n names (acc ++ cl) = cellsFrom n names acc ++ cl
  | [], _, _, _ => rfl
  | (y, k) :: r, n, acc, cl => by
    unfold cellsFrom
    split
    · exact cellsFrom_app r (n + 1) ((y, n) :: acc) cl
    · exact cellsFrom_app r n acc cl
theorem lookup_app {x : Str} : ∀ (a b : List (Str × Addr)), (a ++ b).lookup x = (a.lookup x).or (b.lookup x)
  | [], _ => rfl
  | (y, c) :: r, b => by
    rw [List.cons_append, List.lookup_cons, List.lookup_cons]
    cases x == y with
    | true => rfl
    | false => exact lookup_app r b
theorem cellsFrom_nil (names : List (Str × NameKind)) (n : Nat) (cl : List (Str × Addr)) : cellsFrom n names cl = cellsFrom n names [] ++ cl := cellsFrom_app names n [] cl
theorem cellsFrom_other {x y : Str} : ∀ (names : List (Str × NameKind)) (n : Nat) (acc : List (Str × Addr)), (∀ q ∈ names, q.2 = .cell → q.1 = x) → y ≠ x → (∀ q ∈ acc, q.1 = x) → (cellsFrom n names acc).lookup y = none
  | [], _, acc, _, hy, ha => by
    unfold cellsFrom
    induction acc with
    | nil => rfl
    | cons q r ih =>
      obtain ⟨z, c⟩ := q
      have hz : z = x := ha _ (.head _)
      rw [List.lookup_cons, show (y == z) = false from by simpa [hz] using hy]
      exact ih fun q hq => ha q (.tail _ hq)
  | (z, k) :: r, n, acc, hn, hy, ha => by
    unfold cellsFrom
    split
    · rename_i hk
      refine cellsFrom_other r (n + 1) _ (fun q hq => hn q (.tail _ hq)) hy fun q hq => ?_
      rcases List.mem_cons.mp hq with rfl | hq
      · exact hn (z, k) (.head _) (by simpa using hk)
      · exact ha q hq
    · exact cellsFrom_other r n acc (fun q hq => hn q (.tail _ hq)) hy ha
theorem lookup_relabel_cell {env : Env} : ∀ {names : List (Str × NameKind)} {x : Str}, names.lookup x = some .cell →
    (names.map fun (n, k) => if (k == NameKind.free && env.scope.kind == .function && env.kindOf n == some .cell) then (n, NameKind.cell) else (n, k)).lookup x = some .cell
  | [], _, h => by simp at h
  | (n, k) :: r, x, h => by
    have ih := @lookup_relabel_cell env r x
    show List.lookup x ((if (k == NameKind.free && env.scope.kind == .function && env.kindOf n == some .cell) = true then (n, NameKind.cell) else (n, k)) :: _) = _
    cases hx : x == n with
    | true =>
      simp only [List.lookup_cons, hx] at h
      cases h
      simp [List.lookup_cons, hx]
    | false =>
      simp only [List.lookup_cons, hx] at h
      by_cases hc : (k == NameKind.free && env.scope.kind == .function && env.kindOf n == some .cell) = true
      · rw [if_pos hc]; simp only [List.lookup_cons, hx]; exact ih h
      · rw [if_neg hc]; simp only [List.lookup_cons, hx]; exact ih h
theorem newEnv_cells {M : Model} {A : Around} {s : Shared} {scope : Scope} {globals : Addr} {cl : List (Str × Addr)} {qual : Str} {outer : Env} {Q : Env → Shared → Prop} {E : Value → Shared → Prop}
    (h : Q { scope, locals := s.heap.objs.size, globals, cells := cellsFrom (s.heap.objs.size + 1) scope.names cl, qual, func := none, code := outer.code, frame := outer.frame, builtins := outer.builtins }
      { s with heap := pushCells (s.heap.push { cls := .type "dict", data := .dict #[] }) scope.names }) :
    wpAny M A (newFunctionEnv scope globals cl [] qual none .none (some outer)) Q E s := by
  simp only [newFunctionEnv, Option.isSome_some, if_true]
  refine wpAny_bind (wpAny_alloc ?_)
  refine wpAny_bind (wpAny_layCells _ (fun name kind cells => by cases hkc : kind == NameKind.cell <;> simp [hkc]) _ _ _ _ ?_)
  rw [show ({ s with heap := s.heap.push { cls := .type "dict", data := .dict #[] } } : Shared).heap.objs.size = s.heap.objs.size + 1 from Heap.size_push ..]
  exact wpAny_bind (wpAny_pure (wpAny_pure h))
noncomputable abbrev testsOf (ifs : List Expr) (env : Env) : Sem Bool := forIn ifs true fun c r => if r = true then do let ok ← isTrue c env (eval c env); pure (ForInStep.yield ok) else pure (ForInStep.yield r)
section
variable {prog : Program} {w : World} {hb : Heap} {d : Nat} {env : Env} {l : Ls} {mu : List Addr} {A : Around} {E : Value → Shared → Prop}

theorem fm_comp {scope : Scope} {cl : List (Str × Addr)} {C : Addr} {x : Str} {u : V} {v : Value} {mu' : List Addr} {h₁ h : Heap} (F : Fm w.params mu env h₁ l) (kk : KeepAll h₁ h) (hmu : ∀ a, a ∈ mu' → a ∈ mu ∨ h₁.get? a = none)
    (hkind : scope.kind = .function) (hcell : ∀ y ∈ scope.names, y.2 = .cell → y.1 = x) (hnx : nameOk x = true)
    (hcl : ∀ p ∈ scope.names, p.2 = .free → cl.lookup p.1 = env.cells.lookup p.1) (hcap : ∀ p ∈ scope.names, p.2 = .free → env.kindOf p.1 = some .cell ∨ env.kindOf p.1 = some .free)
    (hrd : Rd (compEnvC scope cl C env) h x v) (ru : Rep w.params mu' h u v) :
    Fm w.params mu' (compEnvC scope cl C env) h ((l.capt (inKind env.kindOf scope)).put x ⟨u, false⟩) := by
  refine ⟨hkind, F.glob, F.blt, fun y t e => ?_⟩
  rw [at_put] at e
  by_cases hy : y = x
  · subst hy
    rw [if_pos rfl] at e
    cases e
    exact ⟨hnx, v, hrd, ru⟩
  · rw [if_neg hy] at e
    obtain ⟨e1, e2⟩ := at_capt e
    obtain ⟨n1, wv, r1, r2⟩ := F.read y t e1
    have hfree := inKind_free e2 hcell hy
    have hk := hcap _ hfree rfl
    refine ⟨n1, wv, .inr ⟨by rw [kindOf_comp F.kind]; exact e2, ?_⟩, (r2.more hmu).all kk⟩
    rcases r1 with ⟨q, _⟩ | ⟨_, c, q1, q2⟩
    · exfalso
      have q : env.kindOf y = some .local := q
      rcases hk with hk | hk <;> (have hk : env.kindOf y = _ := hk; rw [q] at hk; cases hk)
    · refine ⟨c, (hcl _ hfree rfl).trans q1, ?_⟩
      obtain ⟨o, g, dd⟩ := q2
      exact ⟨o, kk _ _ g, dd⟩

/-- the turns of a comprehension; Wd is where the variable is kept -/
theorem comp_loop {elt iter : Expr} {x : Str} {px : Pos} {ifs : List Expr} {scope : Scope} {cl : List (Str × Addr)} {pos : Pos} {vs : List V} {p : V → Bool} {f : V → V} {s₁ : Shared} {o : Obj} {fp : List Addr} {Pd : Nat → Value → Prop} {St : Nat → Heap → Prop} {C D Wd : Addr} {h₁ : Heap} {Hd : Heap → Prop}
    (X : At w hb d mu A s₁ env l) (W : Walks prog w A s₁.heap.objs.size fp [s₁.heap.objs.size] vs.length Pd St) (h0 : St 0 (s₁.heap.push o)) (hI : ∀ i h, St i h → ∃ o, h.get? s₁.heap.objs.size = some o)
    (hfp : ∀ b ∈ fp, b = s₁.heap.objs.size ∨ ((∃ o, s₁.heap.get? b = some o) ∧ b ∉ mu)) (hit : ∀ i v, i < vs.length → Pd i v → ∃ u, vs[i]? = some u ∧ Rep w.params mu s₁.heap u v)
    (hkind : scope.kind = .function) (hcell : ∀ y ∈ scope.names, y.2 = .cell → y.1 = x) (hnx : nameOk x = true)
    (hcl : ∀ p ∈ scope.names, p.2 = .free → cl.lookup p.1 = env.cells.lookup p.1) (hcap : ∀ p ∈ scope.names, p.2 = .free → env.kindOf p.1 = some .cell ∨ env.kindOf p.1 = some .free)
    (hlen : vs.length ≤ lenLid)
    (hT : ∀ v ∈ vs, ∀ C s mu', At w hb d mu' A s (compEnvC scope cl C env) ((l.capt (inKind env.kindOf scope)).put x ⟨v, false⟩) → Tr prog w A (testsOf ifs (compEnvC scope cl C env)) s (fun b _ => b = p v))
    (hE : ∀ v ∈ vs, p v = true → ∀ C s mu', At w hb d mu' A s (compEnvC scope cl C env) ((l.capt (inKind env.kindOf scope)).put x ⟨v, false⟩) → Tr prog w A (eval elt (compEnvC scope cl C env)) s (fun y h => Rep w.params mu' h (f v) y))
    (fD : s₁.heap.get? D = none) (fC : s₁.heap.get? C = none) (fW : s₁.heap.get? Wd = none) (hID : s₁.heap.objs.size ≠ D) (hIC : s₁.heap.objs.size ≠ C) (hIW : s₁.heap.objs.size ≠ Wd) (hWD : Wd ≠ D) (hCD : C ≠ D)
    (k2 : KeepAll (s₁.heap.push o) h₁) (gD : h₁.PlainList D #[]) (H0 : Hd h₁)
    (Hkeep : ∀ h h', Hd h → (∀ o, h.get? C = some o → h'.get? C = some o) → (∀ o, h.get? Wd = some o → h'.get? Wd = some o) → Hd h') (Hns : ∀ h, Hd h → ∃ m, h.Ns C m) (Hlive : ∀ h, Hd h → ∃ o, h.get? Wd = some o)
    (Hstore : ∀ (h : Heap) (tk : Nat) (v : Value) (Q : Unit → Shared → Prop) (E : Value → Shared → Prop), Hd h → (∀ h3 tk3, Hd h3 → Rd (compEnvC scope cl C env) h3 x v → Heap.SameBut Wd h h3 → Q () { s₁ with heap := h3, toks := tk3 }) → wpAny (model prog w) A (storeName (compEnvC scope cl C env) x v) Q E { s₁ with heap := h, toks := tk })
    {RR : Result → Shared → Prop} {tk : Nat}
    (hRR : ∀ h' tk m ws, KeepAll s₁.heap h' → h'.Ns C m → h'.IsList D (List.toArray ws) → Reps w.params (C :: D :: mu) h' ((vs.filter p).map f) ws → RR (.ok .next) { s₁ with heap := h', toks := tk }) :
    codeAny (model prog w) A (.compStart (.ListComp elt [⟨.Name x px, iter, ifs, 0⟩] scope pos) 0 (.ref s₁.heap.objs.size) (.ref D) (compEnvC scope cl C env)) RR { s₁ with heap := h₁, toks := tk } := by
  have fI : s₁.heap.get? s₁.heap.objs.size = none := fresh_none (Nat.le_refl _)
  have nmu : ∀ a, s₁.heap.get? a = none → a ∉ mu := fun a e q => by
    obtain ⟨o, g⟩ := X.live a q
    rw [e] at g; cases g
  have k1 : KeepAll s₁.heap h₁ := fun b o' e => k2 b o' (keepAll_push b o' e)
  let mu₂ : List Addr := s₁.heap.objs.size :: Wd :: C :: D :: mu
  have mW : Wd ∈ mu₂ := .tail _ (.head _)
  have mD : D ∈ mu₂ := .tail _ (.tail _ (.tail _ (.head _)))
  have hmu : ∀ a, a ∈ mu₂ → a ∈ mu ∨ s₁.heap.get? a = none := fun a ha => by
    rcases List.mem_cons.mp ha with rfl | ha
    · exact .inr fI
    · rcases List.mem_cons.mp ha with rfl | ha
      · exact .inr fW
      · rcases List.mem_cons.mp ha with rfl | ha
        · exact .inr fC
        · rcases List.mem_cons.mp ha with rfl | ha
          · exact .inr fD
          · exact .inl ha
  -- what is known at the head of each turn
  let Inv : Nat → Shared → Prop := fun k s => ∃ i h tk ws, s = { s₁ with heap := h, toks := tk } ∧ i ≤ vs.length ∧ k = vs.length - i ∧ St i h ∧ Hd h ∧ h.PlainList D (List.toArray ws) ∧ Reps w.params mu₂ h (((vs.take i).filter p).map f) ws ∧ KeepAll s₁.heap h
  have frame : ∀ {i : Nat} {h h' : Heap}, St i h → (∀ b o', b ≠ Wd → b ≠ D → h.get? b = some o' → h'.get? b = some o') → St i h' := fun st hk => by
    refine W.frame _ _ _ st fun b hb' o' e => ?_
    rcases hfp b hb' with rfl | ⟨⟨o2, e2⟩, _⟩
    · exact hk _ o' hIW hID e
    · exact hk b o' (by rintro rfl; rw [fW] at e2; cases e2) (by rintro rfl; rw [fD] at e2; cases e2) e
  have loop : ∀ s₃ : Shared, Inv vs.length s₃ → codeAny (model prog w) A (.compLoop (.ListComp elt [⟨.Name x px, iter, ifs, 0⟩] scope pos) 0 (.ref s₁.heap.objs.size) (.ref D) (compEnvC scope cl C env)) RR s₃ := by
    intro s₃ hs₃
    refine codeAny_compLoop_tests Inv ?_ _ hs₃ (fun _ => rfl)
    rintro n s ⟨i, h, tk, ws, rfl, hi, rfl, st, hn, hl, hr, hk⟩
    by_cases hlt : i < vs.length
    · -- a turn
      refine W.item i _ _ _ hlt st fun v h2 tk2 hv st2 k2 => ?_
      obtain ⟨u, eu, ru⟩ := hit i v hlt hv
      have k2' : ∀ b o', b ≠ s₁.heap.objs.size → h.get? b = some o' → h2.get? b = some o' := fun b o' hb' e => k2 b o' (fun q => hb' (List.mem_singleton.mp q)) e
      have hn2 : Hd h2 := Hkeep h h2 hn (fun o' e => k2' C o' (Ne.symm hIC) e) (fun o' e => k2' Wd o' (Ne.symm hIW) e)
      have hl2 : h2.PlainList D ws.toArray := by obtain ⟨z, e⟩ := hl; exact ⟨z, k2' D _ (Ne.symm hID) e⟩
      have hr2 : Reps w.params mu₂ h2 (((vs.take i).filter p).map f) ws := hr.keep fun b o' hb' e => k2' b o' (fun q => hb' (q ▸ .head _)) e
      have hk2 : KeepAll s₁.heap h2 := fun b o' e => k2' b o' (by rintro rfl; rw [fI] at e; cases e) (hk b o' e)
      refine wpAny_assign_Name (Hstore h2 tk2 v _ _ hn2 fun h3 tk3 hn3 rd3 hs3 => ?_)
      have k3' : ∀ b o', b ≠ Wd → h2.get? b = some o' → h3.get? b = some o' := sameBut_keep hs3
      have st3 : St (i + 1) h3 := frame st2 fun b o' hb' _ e => k3' b o' hb' e
      have hl3 : h3.PlainList D ws.toArray := by obtain ⟨z, e⟩ := hl2; exact ⟨z, k3' D _ (Ne.symm hWD) e⟩
      have hr3 : Reps w.params mu₂ h3 (((vs.take i).filter p).map f) ws := hr2.keep fun b o' hb' e => k3' b o' (fun q => hb' (q ▸ mW)) e
      have hk3 : KeepAll s₁.heap h3 := fun b o' e => k3' b o' (by rintro rfl; rw [fW] at e; cases e) (hk2 b o' e)
      have live3 : Live mu₂ h3 := fun a ha => by
        rcases List.mem_cons.mp ha with rfl | ha
        · exact hI _ _ st3
        · rcases List.mem_cons.mp ha with rfl | ha
          · exact Hlive _ hn3
          · rcases List.mem_cons.mp ha with rfl | ha
            · obtain ⟨m, oc, _, _, g, _⟩ := Hns _ hn3; exact ⟨oc, g⟩
            · rcases List.mem_cons.mp ha with rfl | ha
              · obtain ⟨z, e⟩ := hl3; exact ⟨_, e⟩
              · obtain ⟨oo, g⟩ := X.live a ha; exact ⟨oo, hk3 _ _ g⟩
      have hu : u ∈ vs := List.mem_of_getElem? eu
      have X3 : At w hb d mu₂ A { s₁ with heap := h3, toks := tk3 } (compEnvC scope cl C env) ((l.capt (inKind env.kindOf scope)).put x ⟨u, false⟩) :=
        ⟨fm_comp X.fm hk3 hmu hkind hcell hnx hcl hcap rd3 ((ru.more hmu).all hk3), live3, X.base.trans hk3, X.room⟩
      have htake : vs.take (i + 1) = vs.take i ++ [u] := by
        rw [List.take_add_one, eu]; rfl
      refine (hT u hu C _ mu₂ X3).use fun b h4 tk4 kk4 eb => ?_
      subst eb
      by_cases hp : p u = true
      · rw [if_pos hp]
        refine (hE u hu hp C _ mu₂ (X3.go kk4)).use fun y h5 tk5 kk5 ry => ?_
        have kk := kk4.trans kk5
        have hl5 : h5.PlainList D ws.toArray := by obtain ⟨z, e⟩ := hl3; exact ⟨z, kk _ _ e⟩
        have hws : ws.length ≤ lenLid := by
          rw [hr.length, List.length_map]
          exact Nat.le_trans (List.length_filter_le _ _) (Nat.le_trans (List.length_take_le' _ _) hlen)
        refine wpAny_list_append_plain hl5 (fun h6 hl6 hs6 => ?_) (by simp [sizeLine_is]; unfold lenLid at hws; omega)
        have k6' : ∀ b o', b ≠ D → h5.get? b = some o' → h6.get? b = some o' := sameBut_keep hs6
        refine ⟨vs.length - (i + 1), Nat.sub_lt_sub_left hlt (Nat.lt_succ_self _), i + 1, h6, tk5, ws ++ [y], rfl, hlt, rfl, frame (frame st3 fun b o' _ _ e => kk b o' e) fun b o' _ hb' e => k6' b o' hb' e, Hkeep h3 h6 hn3 (fun o' e => k6' C o' hCD (kk C o' e)) (fun o' e => k6' Wd o' hWD (kk Wd o' e)), ?_, ?_, ?_⟩
        · obtain ⟨z, e⟩ := hl6
          exact ⟨z, by rw [e]; simp⟩
        · rw [htake, List.filter_append, List.map_append]
          have e1 : (List.filter p [u]).map f = [f u] := by simp [hp]
          rw [e1]
          have kp : Keep mu₂ h5 h6 := fun b o' hb' e => k6' b o' (fun q => hb' (q ▸ mD)) e
          exact ((hr3.all kk).keep kp).append (reps_one (ry.keep kp))
        · exact fun b o' e => k6' b o' (by rintro rfl; rw [fD] at e; cases e) (kk b o' (hk3 b o' e))
      · rw [if_neg hp]
        refine ⟨vs.length - (i + 1), Nat.sub_lt_sub_left hlt (Nat.lt_succ_self _), i + 1, h4, tk4, ws, rfl, hlt, rfl, frame st3 fun b o' _ _ e => kk4 b o' e, Hkeep h3 h4 hn3 (fun o' e => kk4 C o' e) (fun o' e => kk4 Wd o' e), (by obtain ⟨z, e⟩ := hl3; exact ⟨z, kk4 _ _ e⟩), ?_, hk3.trans kk4⟩
        rw [htake, List.filter_append, List.map_append]
        have e1 : (List.filter p [u]).map f = [] := by simp [hp]
        rw [e1, List.append_nil]
        exact hr3.all kk4
    · -- the end
      have hi' : i = vs.length := Nat.le_antisymm hi (Nat.le_of_not_lt hlt)
      subst hi'
      refine W.done _ _ _ st fun h2 tk2 k2 => ?_
      have k2' : ∀ b o', b ≠ s₁.heap.objs.size → h.get? b = some o' → h2.get? b = some o' := fun b o' hb' e => k2 b o' (fun q => hb' (List.mem_singleton.mp q)) e
      have hkE : KeepAll s₁.heap h2 := fun b o' e => k2' b o' (by rintro rfl; rw [fI] at e; cases e) (hk b o' e)
      obtain ⟨m, hm⟩ := Hns _ (Hkeep h h2 hn (fun o' e => k2' C o' (Ne.symm hIC) e) (fun o' e => k2' Wd o' (Ne.symm hIW) e))
      refine hRR h2 tk2 m ws hkE hm ?_ ?_
      · obtain ⟨z, e⟩ := hl
        exact ⟨_, k2' D _ (Ne.symm hID) e, rfl, z, rfl⟩
      · rw [List.take_length] at hr
        exact (hr.keep fun b o' hb' e => k2' b o' (fun q => hb' (q ▸ .head _)) e).sub fun a ha => .tail _ (.tail _ ha)
  have start : Inv vs.length { s₁ with heap := h₁, toks := tk } := by
    refine ⟨0, h₁, tk, [], rfl, Nat.zero_le _, rfl, W.frame _ _ _ h0 fun b hb' o' e => k2 b o' e, H0, gD, ?_, k1⟩
    simp [Reps]
  exact codeAny_compStart_list (loop _ start) (W.self 0 _ _ _ (W.frame _ _ _ h0 fun b hb' o' e => k2 b o' e) (loop _ start))
theorem comp_block {elt iter : Expr} {x : Str} {px : Pos} {ifs : List Expr} {scope : Scope} {cl : List (Str × Addr)} {pos : Pos} {vs : List V} {p : V → Bool} {f : V → V} {s₁ : Shared} {o : Obj} {fp : List Addr} {Pd : Nat → Value → Prop} {St : Nat → Heap → Prop} {tk : Nat}
    (X : At w hb d mu A s₁ env l) (W : Walks prog w A s₁.heap.objs.size fp [s₁.heap.objs.size] vs.length Pd St) (h0 : St 0 (s₁.heap.push o)) (hI : ∀ i h, St i h → ∃ o, h.get? s₁.heap.objs.size = some o)
    (hfp : ∀ b ∈ fp, b = s₁.heap.objs.size ∨ ((∃ o, s₁.heap.get? b = some o) ∧ b ∉ mu)) (hit : ∀ i v, i < vs.length → Pd i v → ∃ u, vs[i]? = some u ∧ Rep w.params mu s₁.heap u v)
    (hkind : scope.kind = .function) (hcell : ∀ y ∈ scope.names, y.2 = .cell → y.1 = x ∧ scope.names.lookup x = some .cell) (hfx : ∀ y ∈ scope.names, y.2 = .free → y.1 ≠ x) (hx : targetOk scope x = true) (hnx : nameOk x = true)
    (hcl : ∀ p ∈ scope.names, p.2 = .free → cl.lookup p.1 = env.cells.lookup p.1) (hcap : ∀ p ∈ scope.names, p.2 = .free → env.kindOf p.1 = some .cell ∨ env.kindOf p.1 = some .free)
    (hlen : vs.length ≤ lenLid)
    (hT : ∀ v ∈ vs, ∀ cl C s mu', At w hb d mu' A s (compEnvC scope cl C env) ((l.capt (inKind env.kindOf scope)).put x ⟨v, false⟩) → Tr prog w A (testsOf ifs (compEnvC scope cl C env)) s (fun b _ => b = p v))
    (hE : ∀ v ∈ vs, p v = true → ∀ cl C s mu', At w hb d mu' A s (compEnvC scope cl C env) ((l.capt (inKind env.kindOf scope)).put x ⟨v, false⟩) → Tr prog w A (eval elt (compEnvC scope cl C env)) s (fun y h => Rep w.params mu' h (f v) y))
    {RR : Value → Addr → Result → Shared → Prop}
    (hRR : ∀ D C h' tk m ws, s₁.heap.get? D = none → s₁.heap.get? C = none → D ∉ mu → C ∉ mu → C ≠ D → KeepAll s₁.heap h' → h'.Ns C m → h'.IsList D (List.toArray ws) → Reps w.params (C :: D :: mu) h' ((vs.filter p).map f) ws → RR (.ref D) C (.ok .next) { s₁ with heap := h', toks := tk }) :
    wpAny (model prog w) A (newList []) (fun acc s₃ => wpAny (model prog w) A (newFunctionEnv scope env.globals cl [] env.qual none .none (some env)) (fun cenv s₄ =>
      codeAny (model prog w) A (.compStart (.ListComp elt [⟨.Name x px, iter, ifs, 0⟩] scope pos) 0 (.ref s₁.heap.objs.size) acc { cenv with scope := relabel scope env }) (RR acc cenv.locals) s₄) E s₃) E { s₁ with heap := s₁.heap.push o, toks := tk } := by
  refine wpAny_newList ?_
  have nmu : ∀ a, s₁.heap.get? a = none → a ∉ mu := fun a e q => by
    obtain ⟨o, g⟩ := X.live a q
    rw [e] at g; cases g
  have zD : (s₁.heap.push o).objs.size = s₁.heap.objs.size + 1 := Heap.size_push ..
  have zC : ((s₁.heap.push o).push { cls := Value.type "list", data := Data.seq (List.toArray []) }).objs.size = s₁.heap.objs.size + 2 := by rw [Heap.size_push, zD]
  have fD : s₁.heap.get? (s₁.heap.push o).objs.size = none := fresh_none (by rw [zD]; exact Nat.le_succ _)
  have fC : s₁.heap.get? ((s₁.heap.push o).push { cls := Value.type "list", data := Data.seq (List.toArray []) }).objs.size = none := fresh_none (by rw [zC]; exact Nat.le_succ_of_le (Nat.le_succ _))
  have hCD : ((s₁.heap.push o).push { cls := Value.type "list", data := Data.seq (List.toArray []) }).objs.size ≠ (s₁.heap.push o).objs.size := by rw [zC, zD]; exact Nat.succ_ne_self _
  have hID : s₁.heap.objs.size ≠ (s₁.heap.push o).objs.size := by rw [zD]; exact Nat.ne_of_lt (Nat.lt_succ_self _)
  have hIC : s₁.heap.objs.size ≠ ((s₁.heap.push o).push { cls := Value.type "list", data := Data.seq (List.toArray []) }).objs.size := by rw [zC]; exact Nat.ne_of_lt (Nat.lt_succ_of_lt (Nat.lt_succ_self _))
  have gD0 : ((s₁.heap.push o).push { cls := Value.type "list", data := Data.seq (List.toArray []) }).get? (s₁.heap.push o).objs.size = some { cls := Value.type "list", data := Data.seq (List.toArray []) } := get_push (by intro e; cases e)
  generalize (s₁.heap.push o).objs.size = D at *
  generalize hH2 : (s₁.heap.push o).push { cls := Value.type "list", data := Data.seq (List.toArray []) } = H2 at *
  have kH2 : KeepAll (s₁.heap.push o) H2 := fun b o' e => by rw [← hH2]; exact keepAll_push b o' e
  have ltH2 : ∀ b o', (s₁.heap.push o).get? b = some o' → b < H2.objs.size := fun b o' e => Heap.lt_size (kH2 b o' e)
  unfold targetOk at hx
  rw [Bool.or_eq_true] at hx
  by_cases hcx : scope.names.lookup x = some .cell
  · -- the variable is in a cell
    refine newEnv_cells ?_
    generalize hC : H2.objs.size = C at *
    have hk3 : KeepAll H2 (pushCells (H2.push { cls := .type "dict", data := .dict #[] }) scope.names) := fun b o' e => pushCells_keeps _ _ b o' (Heap.get?_push_of_some _ e)
    have hsz : (H2.push { cls := .type "dict", data := .dict #[] }).objs.size = C + 1 := by rw [Heap.size_push, hC]
    have ok := cellsFrom_ok scope.names (H2.push { cls := .type "dict", data := .dict #[] }) (C + 1) [] ⟨fun _ _ hm => (nomatch hm), List.Pairwise.nil⟩ (by rw [hsz]; exact Nat.le_refl _)
    rw [hsz] at ok
    obtain ⟨c, hc⟩ := Option.isSome_iff_exists.mp (cellsFrom_some (x := x) scope.names (C + 1) [] (.inl hcx))
    have hce := ok.empty x c (mem_lookup hc)
    have hcc : (cellsFrom (C + 1) scope.names cl).lookup x = some c := by rw [cellsFrom_nil, lookup_app, hc]; rfl
    have hcn : ∀ y, y ≠ x → (cellsFrom (C + 1) scope.names cl).lookup y = cl.lookup y := fun y hy => by
      rw [cellsFrom_nil, lookup_app, cellsFrom_other (x := x) scope.names (C + 1) [] (fun q hq e => (hcell q hq e).1) hy (fun q hq => by cases hq)]; rfl
    have hCc : C < c := hce.2
    have hIc : s₁.heap.objs.size < c := Nat.lt_trans (by rw [zC]; exact Nat.lt_succ_of_lt (Nat.lt_succ_self _)) hCc
    have hDc : D < c := Nat.lt_trans (by rw [zC, zD]; exact Nat.lt_succ_self _) hCc
    have fc : s₁.heap.get? c = none := fresh_none (Nat.le_of_lt hIc)
    have hN : ∃ m, (pushCells (H2.push { cls := .type "dict", data := .dict #[] }) scope.names).Ns C m := ⟨_, by rw [← hC]; exact (Heap.Ns.new H2 (.type "dict")).keeps (pushCells_keeps _ _)⟩
    refine comp_loop (C := C) (D := D) (Wd := c) (cl := cellsFrom (C + 1) scope.names cl) (Hd := fun h => (∃ m, h.Ns C m) ∧ ∃ v₀, h.IsCell c v₀) (RR := RR (.ref D) C) X W h0 hI hfp hit hkind (fun y hy e => (hcell y hy e).1) hnx (fun q hq e => (hcn q.1 (hfx q hq e)).trans (hcl q hq e)) hcap hlen (fun v hv C s mu' => hT v hv _ C s mu') (fun v hv hp C s mu' => hE v hv hp _ C s mu') fD fC fc hID hIC (Nat.ne_of_lt hIc) (Ne.symm (Nat.ne_of_lt hDc)) hCD (kH2.trans hk3) ⟨0, hk3 _ _ gD0⟩ ⟨hN, _, hce.1⟩ ?_ (fun h hh => hh.1) (fun h hh => by obtain ⟨_, o, gg, _⟩ := hh.2; exact ⟨o, gg⟩) ?_ (fun h' tk m ws kk hn hl hr => hRR D C h' tk m ws fD fC (nmu _ fD) (nmu _ fC) hCD kk hn hl hr)
    · rintro h h' ⟨⟨m, hm⟩, v₀, o', gg, dd⟩ kC kW
      exact ⟨⟨m, hm.at' kC⟩, v₀, o', kW _ gg, dd⟩
    · rintro h tk v Q E ⟨⟨m, hm⟩, v₀, ic⟩ k
      have hk' : (compEnvC scope (cellsFrom (C + 1) scope.names cl) C env).kindOf x = some .cell := lookup_relabel_cell hcx
      refine wpAny_storeName_cell hkind hk' hcc (s := { s₁ with heap := h, toks := tk }) ic fun h3 ic3 hs3 => k h3 tk ⟨⟨m, hm.at' fun o' => sameBut_keep hs3 C o' (Nat.ne_of_lt hCc)⟩, _, ic3⟩ (.inr ⟨.inl hk', c, hcc, ic3⟩) hs3
  · have hlx : scope.names.lookup x = some .local := by
      rcases hx with hx | hx
      · simpa using hx
      · exact absurd (by simpa using hx) hcx
    have hnc : ∀ y ∈ scope.names, y.2 ≠ .cell := fun y hy e => hcx (hcell y hy e).2
    refine wpAny_newFunctionEnv hnc (by intro y hy; simp at hy) (fun h₁ hns₁ hsb₁ => ?_) hkind
    dsimp only at hns₁ hsb₁ ⊢
    generalize hC : H2.objs.size = C at *
    have k2 : KeepAll (s₁.heap.push o) h₁ := fun b o' e => sameBut_keep hsb₁ b o' (Nat.ne_of_lt (ltH2 b o' e)) (keepAll_push b o' (kH2 b o' e))
    refine comp_loop (C := C) (D := D) (Wd := C) (cl := cl) (Hd := fun h => ∃ m, h.Ns C m) (RR := RR (.ref D) C) X W h0 hI hfp hit hkind (fun y hy e => (hcell y hy e).1) hnx hcl hcap hlen (fun v hv C s mu' => hT v hv _ C s mu') (fun v hv hp C s mu' => hE v hv hp _ C s mu') fD fC fC hID hIC hIC hCD hCD k2 ⟨0, sameBut_keep hsb₁ D _ (Ne.symm hCD) (keepAll_push _ _ gD0)⟩ ⟨_, hns₁⟩ ?_ (fun h hh => hh) (fun h hh => by obtain ⟨_, o, _, _, gg, _⟩ := hh; exact ⟨o, gg⟩) ?_ (fun h' tk m ws kk hn hl hr => hRR D C h' tk m ws fD fC (nmu _ fD) (nmu _ fC) hCD kk hn hl hr)
    · rintro h h' ⟨m, hm⟩ kC _
      exact ⟨m, hm.at' kC⟩
    · rintro h tk v Q E ⟨m, hm⟩ k
      refine wpAny_storeName_local (s := { s₁ with heap := h, toks := tk }) (lookup_relabel_local hlx) hm (fun h3 hn3 hs3 => k h3 _ ⟨_, hn3⟩ (.inl ⟨lookup_relabel_local hlx, _, hn3, if_pos rfl⟩) hs3) (by show ((relabel scope env).kind == .class || ((relabel scope env).kind == .module && _)) = false; rw [show (relabel scope env).kind = .function from hkind]; rfl)
end
end Mine
namespace Mine
open PySem PySem.W PyProof.Rows PySem.Calls
section
variable {prog : Program} {w : World} {hb : Heap} {mg mb : Str → Option Value} {g : Cfg} {d : Nat}
variable {n : Nat} {env : Env} {l : Ls} {mu : List Addr} {s : Shared} {A : Around}
theorem scope_facts {scope : Scope} {x : Str} (F : Fm w.params mu env s.heap l) (h : Mine.ev.scopeOk env.kindOf l scope x = true) :
    scope.kind = .function ∧ (∀ y ∈ scope.names, y.2 = .cell → y.1 = x ∧ scope.names.lookup x = some .cell) ∧ (∀ y ∈ scope.names, y.2 = .local → scope.names.lookup y.1 = some .local) ∧
    (∀ p ∈ scope.names, p.2 = .free → env.kindOf p.1 = some .cell ∨ env.kindOf p.1 = some .free) ∧ (∀ p ∈ scope.names, p.2 = .free → ∃ c, env.cells.lookup p.1 = some c) ∧ (∀ p ∈ scope.names, p.2 = .free → p.1 ≠ x) := by
  unfold Mine.ev.scopeOk at h
  rw [Bool.and_eq_true] at h
  obtain ⟨h1, h2⟩ := h
  have h2 := List.all_eq_true.mp h2
  refine ⟨by simpa using h1, fun y hy e => ?_, fun y hy e => ?_, fun y hy e => ?_, fun y hy e => ?_, fun y hy e => ?_⟩
  · have := h2 y hy; rw [e] at this; simpa using this
  · have := h2 y hy; rw [e] at this; simpa using this
  · have := h2 y hy; rw [e] at this; simp at this; exact this.1.1
  · have := h2 y hy; rw [e] at this; simp at this
    obtain ⟨⟨hk, hs⟩, _⟩ := this
    obtain ⟨v, hv⟩ := Option.isSome_iff_exists.mp hs
    obtain ⟨_, wv, r, _⟩ := F.read _ _ hv
    rcases r with ⟨q, _⟩ | ⟨_, c, q, _⟩
    · rw [q] at hk; rcases hk with hk | hk <;> cases hk
    · exact ⟨c, q⟩
  · have := h2 y hy; rw [e] at this; simp at this; exact this.2
theorem comp_run (S : Snd prog w hb g d n) {elt it : Expr} {x : Str} {px : Pos} {ifs : List Expr} {scope : Scope} {pos pos' : Pos} {use : Option (Value → Sem Unit)} {Q : Value → Shared → Prop} {E : Value → Shared → Prop} {p : V → Bool} {f : V → V}
    (X : At w hb d mu A s env l) (hq : (evI g env.kindOf n l it).2) (hx : targetOk scope x = true) (hnx : nameOk x = true) (hs : Mine.ev.scopeOk env.kindOf l scope x = true) (hlen : (evI g env.kindOf n l it).1.length ≤ lenLid)
    (hT : ∀ v ∈ (evI g env.kindOf n l it).1, ∀ cenv s mu', cenv.kindOf = inKind env.kindOf scope → At w hb d mu' A s cenv ((l.capt (inKind env.kindOf scope)).put x ⟨v, false⟩) → Tr prog w A (testsOf ifs cenv) s (fun b _ => b = p v))
    (hE : ∀ v ∈ (evI g env.kindOf n l it).1, p v = true → ∀ cenv s mu', cenv.kindOf = inKind env.kindOf scope → At w hb d mu' A s cenv ((l.capt (inKind env.kindOf scope)).put x ⟨v, false⟩) → Tr prog w A (eval elt cenv) s (fun y h => Rep w.params mu' h (f v) y))
    (hQ : ∀ D C h' tk m ws, s.heap.get? D = none → s.heap.get? C = none → D ∉ mu → C ∉ mu → C ≠ D → KeepAll s.heap h' → h'.Ns C m → h'.IsList D (List.toArray ws) → Reps w.params (C :: D :: mu) h' (((evI g env.kindOf n l it).1.filter p).map f) ws →
      compPost (model prog w) A E use Q (.ref D) C (.ok .next) { s with heap := h', toks := tk }) :
    wpAny (model prog w) A (comprehension (.ListComp elt [⟨.Name x px, it, ifs, 0⟩] scope pos) scope env pos' (newList []) false (eval it env) use) Q E s := by
  obtain ⟨hkind, hcell, hnames, hcap, hcells, hfx⟩ := scope_facts X.fm hs
  obtain ⟨cl, ecl, hcl⟩ := closure_ok hcells
  refine wpAny_comprehension_free rfl (S.evI X hq).1 ecl hkind hnames ?_
  refine (S.evI X hq).2.use fun xv h1 tk1 k1 hit => ?_
  refine hit A _ _ _ X.room.handled (fun _ _ e => e) fun o fp Pd St tk W h0 hI hfp hv => ?_
  exact comp_block (RR := fun acc C => compPost (model prog w) A E use Q acc C) (X.go (tk := tk1) k1) W h0 (fun i h e => let ⟨o, g, _⟩ := hI i h e; ⟨o, g⟩) hfp hv hkind hcell hfx hx hnx hcl hcap hlen
    (fun v hv' cl' C s' mu' X' => hT v hv' _ s' mu' (kindOf_comp X.fm.kind cl' C) X')
    (fun v hv' hp cl' C s' mu' X' => hE v hv' hp _ s' mu' (kindOf_comp X.fm.kind cl' C) X')
    (fun D C h' tk' m ws fD fC nD nC hCD kk hn hl hr => hQ D C h' tk' m ws
      (by cases q : s.heap.get? D with
        | none => rfl
        | some o => have := k1 _ _ q; rw [fD] at this; cases this)
      (by cases q : s.heap.get? C with
        | none => rfl
        | some o => have := k1 _ _ q; rw [fC] at this; cases this) nD nC hCD (k1.trans kk) hn hl hr)
/-- the two kinds of comprehension that we evaluate -/
theorem comp_parts (S : Snd prog w hb g d n) {elt it : Expr} {x : Str} {px : Pos} {ifs : List Expr} {scope : Scope} {pos : Pos} (X : At w hb d mu A s env l)
    (h : (ev g env.kindOf (n + 1) l (.ListComp elt [⟨.Name x px, it, ifs, 0⟩] scope pos)).2) : ∃ (p : V → Bool) (f : V → V),
    (ev g env.kindOf (n + 1) l (.ListComp elt [⟨.Name x px, it, ifs, 0⟩] scope pos)).1 = .list (((evI g env.kindOf n l it).1.filter p).map f) ∧
    (evI g env.kindOf n l it).2 ∧ targetOk scope x = true ∧ nameOk x = true ∧ Mine.ev.scopeOk env.kindOf l scope x = true ∧ (evI g env.kindOf n l it).1.length ≤ lenLid ∧
    (∀ v ∈ (evI g env.kindOf n l it).1, ∀ cenv s mu', cenv.kindOf = inKind env.kindOf scope → At w hb d mu' A s cenv ((l.capt (inKind env.kindOf scope)).put x ⟨v, false⟩) → Tr prog w A (testsOf ifs cenv) s (fun b _ => b = p v)) ∧
    (∀ v ∈ (evI g env.kindOf n l it).1, p v = true → ∀ cenv s mu', cenv.kindOf = inKind env.kindOf scope → At w hb d mu' A s cenv ((l.capt (inKind env.kindOf scope)).put x ⟨v, false⟩) → Tr prog w A (eval elt cenv) s (fun y h => Rep w.params mu' h (f v) y)) := by
  cases ifs with
  | nil =>
    rw [ev_comp0] at h ⊢
    refine ⟨fun _ => true, fun v => (ev g (inKind env.kindOf scope) n ((l.capt (inKind env.kindOf scope)).put x ⟨v, false⟩) elt).1, by rw [List.filter_eq_self.mpr (fun _ _ => rfl)], h.1, h.2.1.1, h.2.1.2, h.2.2.1, h.2.2.2.1, ?_, ?_⟩
    · intro v hv cenv s' mu' hk X'
      exact Tr.of fun R k => wpAny_tests_nil (k _ s'.heap s'.toks (fun _ _ e => e) rfl)
    · intro v hv _ cenv s' mu' hk X'
      have := S.ev X' (by rw [hk]; exact h.2.2.2.2 v hv)
      rw [hk] at this; exact this
  | cons t r =>
    cases r with
    | nil =>
      rw [ev_comp1] at h ⊢
      refine ⟨fun v => (evT g (inKind env.kindOf scope) n ((l.capt (inKind env.kindOf scope)).put x ⟨v, false⟩) t).1, fun v => (ev g (inKind env.kindOf scope) n ((l.capt (inKind env.kindOf scope)).put x ⟨v, false⟩) elt).1, rfl, h.1, h.2.1.1, h.2.1.2, h.2.2.1, h.2.2.2.1, ?_, ?_⟩
      · intro v hv cenv s' mu' hk X'
        have := S.evT X' (by rw [hk]; exact (h.2.2.2.2 v hv).1)
        rw [hk] at this
        exact Tr.of fun R k => wpAny_tests_one (this.use k)
      · intro v hv hp cenv s' mu' hk X'
        have := S.ev X' (by rw [hk]; exact (h.2.2.2.2 v hv).2 hp)
        rw [hk] at this; exact this
    | cons t2 r2 => exact h.elim
theorem tr_comp (S : Snd prog w hb g d n) {elt it : Expr} {x : Str} {px : Pos} {ifs : List Expr} {scope : Scope} {pos : Pos} (X : At w hb d mu A s env l)
    (h : (ev g env.kindOf (n + 1) l (.ListComp elt [⟨.Name x px, it, ifs, 0⟩] scope pos)).2) :
    Tr prog w A (eval (.ListComp elt [⟨.Name x px, it, ifs, 0⟩] scope pos) env) s (fun v h' => Rep w.params mu h' (ev g env.kindOf (n + 1) l (.ListComp elt [⟨.Name x px, it, ifs, 0⟩] scope pos)).1 v) := by
  obtain ⟨p, f, ee, hq, hx, hnx, hs, hlen, hT, hE⟩ := comp_parts S X h
  rw [ee]
  refine Tr.of fun R k => ?_
  rw [eval_ListComp]
  refine comp_run S X hq hx hnx hs hlen hT hE fun D C h' tk m ws fD fC nD nC hCD kk hn hl hr => ?_
  refine ⟨m, hn, fun h'' hs'' => k _ h'' tk (fun b o e => sameBut_keep hs'' b o (by rintro rfl; rw [fC] at e; cases e) (kk b o e)) ?_⟩
  unfold Rep
  refine ⟨D, ws, rfl, nD, isList_keep hl (fun o => sameBut_keep hs'' D o (Ne.symm hCD)), ?_⟩
  exact (hr.keep fun b o hb' e => sameBut_keep hs'' b o (fun q => hb' (q ▸ .head _)) e).sub fun a ha => .tail _ (.tail _ ha)
end
end Mine
namespace Mine
open PySem PySem.W PyProof.Rows PySem.Calls
section
variable {prog : Program} {w : World} {hb : Heap} {mg mb : Str → Option Value} {g : Cfg} {d : Nat}
variable {n : Nat} {env : Env} {l : Ls} {mu : List Addr} {s : Shared} {A : Around}

theorem const_ok {c : Const} {k : Nat} {p : Pos} (h : (constV c).2) : Tr prog w A (eval (.Constant c k p) env) s (fun v h => Rep w.params mu h (constV c).1 v) := by
  unfold constV at h ⊢
  split at h <;> (try simp only at h ⊢)
  · exact Tr.of fun R k => PyProof.Rows.Constant_none (k _ s.heap s.toks (fun _ _ e => e) (by unfold Rep; rfl))
  · exact Tr.of fun R k => PyProof.Rows.Constant_bool (k _ s.heap s.toks (fun _ _ e => e) (by unfold Rep; rfl))
  · exact Tr.of fun R k => fun Γ p hΓ => k (.int _ s.toks) s.heap (s.toks + 1) (fun _ _ e => e) (by unfold Rep; exact ⟨_, rfl⟩)
  · exact Tr.of fun R k => Calls.Constant_str (k _ s.heap (s.toks + 1) (fun _ _ e => e) (by unfold Rep; exact ⟨_, rfl⟩))
  · exact Tr.of fun R k => PySem.W.Constant_bytes (k _ s.heap (s.toks + 1) (fun _ _ e => e) (by unfold Rep; exact ⟨_, rfl⟩))
theorem base_ok {o : Expr} {name : Str} {m : Sem Value} (h : baseOk o = true) : attributeBase o name env m = m := by
  cases o with
  | Call f as ks p => cases f with
    | Name x q => cases as with
      | nil => cases ks with
        | nil => exact absurd (show false = true from h) Bool.false_ne_true
        | cons _ _ => rfl
      | cons _ _ => rfl
    | _ => rfl
  | _ => rfl
theorem glued_nil (ys : List (List Nat)) : Txt.join ⟨([] : List Nat).toArray⟩ (ys.map fun x => ⟨x.toArray⟩) = ⟨ys.flatten.toArray⟩ := by
  unfold Txt.join Builtin.Str.glued
  have go : ∀ (ys : List (List Nat)) (acc : Array Nat), List.foldl (fun acc (p : Str) => acc ++ (⟨([] : List Nat).toArray⟩ : Str).cps ++ p.cps) acc (ys.map fun x => ⟨x.toArray⟩) = acc ++ ys.flatten.toArray := by
    intro ys
    induction ys with
    | nil => intro acc; simp
    | cons y r ih => intro acc; rw [List.map_cons, List.foldl_cons, ih]; simp
  cases ys with
  | nil => rfl
  | cons y r =>
    have := go r y.toArray
    simp only [List.map_cons, List.drop_one, List.tail_cons, List.headD_cons]
    rw [this]; simp
theorem if_no {c : Prop} [Decidable c] {x : W V} (h : (if c then x else no).2) : c ∧ x.2 ∧ (if c then x else no) = x := by
  by_cases hc : c
  · rw [if_pos hc] at h ⊢; exact ⟨hc, h, rfl⟩
  · rw [if_neg hc] at h; exact h.elim
theorem lower_ok {x : List Nat} {t : Tok} (h : x.length ≤ lenLid) : Tr prog w A (call (.builtin "str.lower") [.str ⟨x.toArray⟩ t]) s (fun v h => Rep w.params mu h (.str (Txt.lower ⟨x.toArray⟩).cps.toList) v) :=
  Tr.of fun R k => SCL.lower (by simp [Str.length]; unfold lenLid at h; omega) fun _ => k _ s.heap _ (fun _ _ e => e) (by unfold Rep; exact ⟨_, rfl⟩)
theorem join_ok {xs : List V} {t : Tok} {wv : Value} (h1 : (strsV xs).2) (h2 : (strsV xs).1.flatten.length ≤ lenLid) (r : Rep w.params mu s.heap (.list xs) wv) : Tr prog w A (call (.builtin "str.join") [.str ⟨([] : List Nat).toArray⟩ t, wv]) s (fun v h => Rep w.params mu h (.str (strsV xs).1.flatten) v) := by
  unfold Rep at r
  obtain ⟨a, ws, rfl, ha, la, ra⟩ := r
  have hs := strs_areV h1 ra
  refine Tr.of fun R k => join_list la (by simpa using hs) ?_ fun t' m => k _ s.heap m (fun _ _ e => e) ?_
  · unfold lenLid at h2
    simp [Str.length, List.length_flatten] at h2 ⊢
    have e : (List.map ((fun x => x.cps.size) ∘ fun x => ({ cps := x.toArray } : Str)) (strsV xs).1) = List.map List.length (strsV xs).1 := by
      apply List.map_congr_left; intro a _; simp
    rw [e]; omega
  · rw [glued_nil]; unfold Rep; exact ⟨_, rfl⟩

theorem methV_ok (B : Base prog w hb mg mb g d) (kb : KeepAll hb s.heap) (hh : A.handled = none) {o : V} {name : Str} {args : List V} {wo : Value} (h : (methV g o name args).2) (ro : Rep w.params mu s.heap o wo) :
    ∃ T id, PlainAttrs T ∧ Slot T name id ∧ typeOf (.builtin id) = pure (.type "method_descriptor") ∧ s.TypeIs wo T ∧ (∀ a, wo = .ref a → ∃ ob, s.heap.get? a = some ob ∧ ob.dict = none) ∧
      ∀ ws h' tk, KeepAll s.heap h' → Reps w.params mu h' args ws → Tr prog w A (call (.builtin id) (wo :: ws)) { s with heap := h', toks := tk } (fun v h => Rep w.params mu h (methV g o name args).1 v) := by
  cases o with
  | str x =>
    have nr : ∀ {t : Tok} (a : Addr), Value.str ⟨x.toArray⟩ t = .ref a → ∃ ob, s.heap.get? a = some ob ∧ ob.dict = none := fun a e => by cases e
    unfold Rep at ro
    obtain ⟨t, rfl⟩ := ro
    have h : (strM x name args).2 := h
    show ∃ T id, PlainAttrs T ∧ Slot T name id ∧ typeOf (.builtin id) = pure (.type "method_descriptor") ∧ s.TypeIs _ T ∧ _ ∧ ∀ ws h' tk, KeepAll s.heap h' → Reps w.params mu h' args ws → Tr prog w A (call (.builtin id) (_ :: ws)) { s with heap := h', toks := tk } (fun v h => Rep w.params mu h (strM x name args).1 v)
    cases args with
    | nil =>
      obtain ⟨rfl, h2, e⟩ := if_no h
      refine ⟨"str", "str.lower", F.plainAttrs_str, F.slot_str_lower, F.type_str_lower, typeIs_str _ _ _, nr, fun ws h' tk kk r => ?_⟩
      cases reps_nil r
      show Tr prog w A _ _ (fun v h => Rep w.params mu h (if ("lower" : Str) = ("lower" : Str) then _ else no).1 v)
      rw [if_pos rfl]
      exact lower_ok h2
    | cons a r => cases r with
      | cons _ _ => exact h.elim
      | nil => cases a with
        | list xs =>
          obtain ⟨rfl, h2, e⟩ := if_no h
          obtain ⟨h1, h2, rfl⟩ := h2
          refine ⟨"str", "str.join", F.plainAttrs_str, F.slot_str_join, F.type_str_join, typeIs_str _ _ _, nr, fun ws h' tk kk r => ?_⟩
          obtain ⟨v, vs, rfl, r1, r2⟩ := reps_cons r
          cases reps_nil r2
          show Tr prog w A _ _ (fun v h => Rep w.params mu h (if ("join" : Str) = ("join" : Str) then _ else no).1 v)
          rw [if_pos rfl]
          exact join_ok h1 h2 r1
        | _ => exact h.elim
  | bytes b => cases args with
    | nil => exact h.elim
    | cons a r => cases r with
      | cons _ _ => cases a <;> exact h.elim
      | nil => cases a with
        | str x =>
          obtain ⟨rfl, h2, e⟩ := if_no h
          unfold Rep at ro
          obtain ⟨t, rfl⟩ := ro
          refine ⟨"bytes", "bytes.decode", FB.plainAttrs_bytes, FB.slot_bytes_decode, FB.type_bytes_decode, typeIs_bytes _ _ _, fun a e => (by cases e), fun ws h' tk kk r => ?_⟩
          obtain ⟨v, vs, rfl, r1, r2⟩ := reps_cons r
          cases reps_nil r2
          unfold Rep at r1
          obtain ⟨t2, rfl⟩ := r1
          have ex : (⟨x.toArray⟩ : Str) = PySem.Str.ofString "ascii" := by rw [h2.2.2]; decide +kernel
          rw [ex]
          show Tr prog w A _ _ (fun v h => Rep w.params mu h (if ("decode" : Str) = ("decode" : Str) then _ else no).1 v)
          rw [if_pos rfl]
          exact decode_ok h2.1 h2.2.1
        | _ => exact h.elim
  | val wv => cases args with
    | nil => exact h.elim
    | cons a r => cases r with
      | cons _ _ => cases a <;> exact h.elim
      | nil => cases a with
        | int i =>
          obtain ⟨rfl, h2, e⟩ := if_no h
          unfold Rep at ro
          subst ro
          obtain ⟨⟨a, ob, rfl, ga, cls, dn⟩, _⟩ := B.get A s wo i 0 kb h2
          refine ⟨"dict", "dict.get", F.plainAttrs_dict, F.slot_dict_get, F.type_dict_get, ⟨ob, ga, cls⟩, fun a' e => (by cases e; exact ⟨ob, ga, dn⟩), fun ws h' tk kk r => ?_⟩
          obtain ⟨v, vs, rfl, r1, r2⟩ := reps_cons r
          cases reps_nil r2
          unfold Rep at r1
          obtain ⟨t, rfl⟩ := r1
          show Tr prog w A _ _ (fun v h => Rep w.params mu h (if ("get" : Str) = ("get" : Str) then g.get (.ref a) i else no).1 v)
          rw [if_pos rfl]
          exact (B.get A { s with heap := h', toks := tk } _ i t (kb.trans kk) h2).2.mono fun v h'' _ q => q mu
        | _ => exact h.elim
  | _ => exact h.elim
end
end Mine
namespace Mine
open PySem PySem.W PyProof.Rows PySem.Calls
section
variable {prog : Program} {w : World} {hb : Heap} {mg mb : Str → Option Value} {g : Cfg} {d : Nat}
variable {n : Nat} {env : Env} {l : Ls} {mu : List Addr} {s : Shared} {A : Around}

theorem comp_form {k : Kd} {elt : Expr} {gens : List Comprehension} {scope : Scope} {p : Pos} (h : (ev g k (n + 1) l (.ListComp elt gens scope p)).2) : ∃ x px it ifs, gens = [⟨.Name x px, it, ifs, 0⟩] := by
  cases hg : gnV gens with
  | none => rw [ev_comp, hg] at h; exact False.elim h
  | some q =>
    obtain ⟨x, it, ifs⟩ := q
    obtain ⟨px, rfl⟩ := gnV_form hg
    exact ⟨x, px, it, ifs, rfl⟩
theorem name_ok (B : Base prog w hb mg mb g d) {x : Str} {p : Pos} (X : At w hb d mu A s env l) (h : (ev g env.kindOf (n + 1) l (.Name x p)).2) :
    Tr prog w A (eval (.Name x p) env) s (fun v h' => Rep w.params mu h' (ev g env.kindOf (n + 1) l (.Name x p)).1 v) := by
  cases e : l.at x with
  | some v =>
    obtain ⟨hn, wv, r, rep⟩ := X.fm.read x v e
    rw [ev_nameL e]
    exact tr_name X.fm.kind hn r rep
  | none =>
    cases e2 : g.gl x with
    | none => rw [ev_nameN e e2] at h; exact h.elim
    | some v =>
      rw [ev_nameG e e2] at h ⊢
      obtain ⟨wv, hv, hr⟩ := B.gl x v e2
      refine tr_global B X.base X.fm h hv ?_
      rcases hr with ⟨i, t, rfl, rfl⟩ | rfl
      · unfold Rep; exact ⟨_, rfl⟩
      · unfold Rep; rfl
theorem tr_slice (S : Snd prog w hb g d n) {lo hi st : Option Expr} {p : Pos} (X : At w hb d mu A s env l) (h1 : (evO g env.kindOf n l lo).2) (h2 : (evO g env.kindOf n l hi).2) (h3 : (evO g env.kindOf n l st).2) :
    Tr prog w A (eval (.Slice lo hi st p) env) s (fun v h' => ∃ sl wl wh wt, v = .ref sl ∧ h'.get? sl = some { cls := .type "slice", data := .fields #[wl, wh, wt] } ∧ Rep w.params mu h' (evO g env.kindOf n l lo).1 wl ∧ Rep w.params mu h' (evO g env.kindOf n l hi).1 wh ∧ Rep w.params mu h' (evO g env.kindOf n l st).1 wt) := by
  refine Tr.of fun R k => wpAny_Slice ((S.evO X h1).use fun v1 h' t1 k1 r1 => (S.evO (X.go k1) h2).use fun v2 h'' t2 k2 r2 => (S.evO ((X.go (tk := t1) k1).go k2) h3).use fun v3 h3 t3 k3 r3 => ?_)
  refine k _ _ t3 (k1.trans (k2.trans (k3.trans keepAll_push))) ⟨_, v1, v2, v3, rfl, get_push (by intro e; cases e), (r1.all k2).all (k3.trans keepAll_push), r2.all (k3.trans keepAll_push), r3.all keepAll_push⟩
theorem call_ok (B : Base prog w hb mg mb g d) (S : Snd prog w hb g d n) {f : Str} {p pos : Pos} {args : List Expr} (X : At w hb d mu A s env l) (hs : (evs g env.kindOf n l args).2) (hf : (g.fn f (evs g env.kindOf n l args).1).2) (hk : kindOk env.kindOf f = true) :
    Tr prog w A (eval (.Call (.Name f p) args [] pos) env) s (fun v h' => Rep w.params mu h' (g.fn f (evs g env.kindOf n l args).1).1 v) := by
  obtain ⟨a, o, fd, e, ho, hd, hc⟩ := B.fn f _ hf
  refine tr_call_name (t := fun v => pure v) (tr_global B X.base X.fm hk e fun tk => ?_)
  have X1 := X.go (h' := s.heap) (tk := tk) (fun _ _ e => e)
  have hs' := S.evs (pos := pos) X1 hs
  refine Tr.of fun R k => callWith_function (evalArgs_of hs'.1 (hs'.2.use fun vs h' tk' kk r => ⟨⟨kk _ _ (X.base _ _ ho), hd⟩, ?_⟩))
  exact (hc A { s with heap := h', toks := tk' } mu vs (X.base.trans kk) X.room (X1.go (tk := tk') kk).live r).use fun v h'' tk'' kk' q => k _ _ _ (kk.trans kk') q
theorem blt_ok (B : Base prog w hb mg mb g d) (S : Snd prog w hb g d n) {f : Str} {p pos : Pos} {args : List Expr} (X : At w hb d mu A s env l) (hs : (evs g env.kindOf n l args).2) (hb' : isBlt f = true) (hf : (bltV f (evs g env.kindOf n l args).1).2) (hk : kindOk env.kindOf f = true) :
    Tr prog w A (eval (.Call (.Name f p) args [] pos) env) s (fun v h' => Rep w.params mu h' (bltV f (evs g env.kindOf n l args).1).1 v) := by
  have hmem : f ∈ [("len" : Str), "ord", "chr", "abs", "int", "divmod", "min", "sum"] := List.contains_iff_mem.mp hb'
  have hne : f ≠ "__name__" := by rintro rfl; revert hmem; decide
  have hbf : bootBuiltins f = some (bltFn f) ∧ ((∃ id, bltFn f = .builtin id) ∨ ∃ T, bltFn f = .type T) := by
    simp only [List.mem_cons, List.not_mem_nil, or_false] at hmem
    rcases hmem with rfl | rfl | rfl | rfl | rfl | rfl | rfl | rfl
    · exact ⟨by decide +kernel, .inl ⟨"len", by decide +kernel⟩⟩
    · exact ⟨by decide +kernel, .inl ⟨"ord", by decide +kernel⟩⟩
    · exact ⟨by decide +kernel, .inl ⟨"chr", by decide +kernel⟩⟩
    · exact ⟨by decide +kernel, .inl ⟨"abs", by decide +kernel⟩⟩
    · exact ⟨by decide +kernel, .inr ⟨"int", by decide +kernel⟩⟩
    · exact ⟨by decide +kernel, .inl ⟨"divmod", by decide +kernel⟩⟩
    · exact ⟨by decide +kernel, .inl ⟨"min", by decide +kernel⟩⟩
    · exact ⟨by decide +kernel, .inl ⟨"sum", by decide +kernel⟩⟩
  refine tr_call_name (t := fun v => pure v) (tr_builtin B X.base X.fm hk (B.nob _ (.inl hb')) hne hbf.1 fun tk => ?_)
  have X1 := X.go (h' := s.heap) (tk := tk) (fun _ _ e => e)
  have hs' := S.evs (pos := pos) X1 hs
  exact tr_callWith hbf.2 hs'.1 [] hs'.2 fun vs h' tk' kk r => bltV_ok (s := { s with heap := h', toks := tk' }) hb' hf r (X1.go (tk := tk') kk).live X.room.handled
theorem callN_ok (B : Base prog w hb mg mb g d) (S : Snd prog w hb g d n) (P : ∀ m, n = m + 1 → Snd prog w hb g d m) {f : Str} {p pos : Pos} {args : List Expr} (X : At w hb d mu A s env l) (h : (callW g.fn env.kindOf l f args (evs g env.kindOf n l args) (fun e => evI g env.kindOf n l e)).2) :
    Tr prog w A (eval (.Call (.Name f p) args [] pos) env) s (fun v h' => Rep w.params mu h' (callW g.fn env.kindOf l f args (evs g env.kindOf n l args) (fun e => evI g env.kindOf n l e)).1 v) := by
  unfold callW at h ⊢
  by_cases hb' : isBlt f = true
  · rw [if_pos hb'] at h ⊢
    exact blt_ok B S X h.1 hb' h.2.1 h.2.2.2
  · rw [if_neg hb'] at h ⊢
    by_cases hl : f = ("list" : Str)
    · rw [if_pos hl] at h ⊢
      cases args with
      | nil => exact False.elim h
      | cons e r => cases r with
        | cons _ _ => exact False.elim h
        | nil =>
          dsimp only at h ⊢
          cases hc : callV e with
          | none => rw [hc] at h; exact False.elim h
          | some q =>
            obtain ⟨r, as⟩ := q
            rw [hc] at h
            dsimp only at h ⊢
            by_cases hr : r = ("range" : Str)
            · rw [if_pos hr] at h ⊢
              obtain ⟨rp, cp, rfl⟩ := callV_form hc
              subst hr
              cases n with
              | zero => exact h.1.elim
              | succ m =>
                refine (tr_list_range B (P m rfl) X hl h.1 h.2.2).mono fun v h' kk q => ?_
                obtain ⟨a, ws, rfl, _, na, la, ra⟩ := q
                unfold Rep
                exact ⟨a, ws, rfl, na, la.isList, ra⟩
            · rw [if_neg hr] at h; exact False.elim h
    · rw [if_neg hl] at h ⊢
      exact call_ok B S X h.1 h.2.1 h.2.2.2
theorem item_ok (S : Snd prog w hb g d n) {a b : Expr} {p : Pos} (hb' : ∀ lo hi st q, b ≠ .Slice lo hi st q) (X : At w hb d mu A s env l) (h : (ev g env.kindOf (n + 1) l (.Subscript a b p)).2) :
    Tr prog w A (eval (.Subscript a b p) env) s (fun v h' => Rep w.params mu h' (ev g env.kindOf (n + 1) l (.Subscript a b p)).1 v) := by
  rw [ev_item hb'] at h ⊢
  refine Tr.of fun R k => Subscript_ ((S.ev X h.1).use fun a h1 t1 k1 ra => (S.ev (X.go k1) h.2.1).use fun b h2 t2 k2 rb => ?_)
  exact (itemV_ok (s := { s with heap := h2, toks := t2 }) h.2.2 (ra.all k2) rb).use fun c h3 t3 k3 rc => k _ h3 t3 (k1.trans (k2.trans k3)) rc
theorem snd_ev (B : Base prog w hb mg mb g d) (S : Snd prog w hb g d n) (P : ∀ m, n = m + 1 → Snd prog w hb g d m) {e : Expr} (X : At w hb d mu A s env l) (h : (ev g env.kindOf (n + 1) l e).2) :
    Tr prog w A (eval e env) s (fun v h' => Rep w.params mu h' (ev g env.kindOf (n + 1) l e).1 v) := by
  cases e with
  | Constant c j p => exact const_ok h
  | Name x p => exact name_ok B X h
  | BinOp a op b p =>
    rw [ev_bin] at h ⊢
    refine Tr.of fun R k => wpAny_BinOp ((S.ev X h.1).use fun a h1 t1 k1 ra => (S.ev (X.go k1) h.2.1).use fun b h2 t2 k2 rb => ?_)
    exact (binV_ok (s := { s with heap := h2, toks := t2 }) h.2.2 (ra.all k2) rb (X.live.keep (k1.trans k2))).use fun c h3 t3 k3 rc => k _ h3 t3 (k1.trans (k2.trans k3)) rc
  | UnaryOp op a p =>
    cases op with
    | USub =>
      rw [ev_neg] at h ⊢
      refine Tr.of fun R k => wpAny_UnaryOp ((S.ev X h.1).use fun v h1 t1 k1 r => ?_)
      have h2 := h.2
      revert h2 r k
      generalize (ev g env.kindOf n l a).1 = u
      intro k r h2
      cases u with
      | int i =>
        unfold Rep at r
        obtain ⟨t, rfl⟩ := r
        exact PySem.P.neg_int (k _ h1 _ k1 (by show Rep _ _ _ (.int _) _; unfold Rep; exact ⟨_, rfl⟩))
      | _ => exact False.elim h2
    | Not =>
      rw [ev_not] at h ⊢
      refine Tr.of fun R k => UnaryOp_ ((S.ev X h.1).use fun v h1 t1 k1 r => not_of ((truV_ok (s := { s with heap := h1, toks := t1 }) h.2 r).use fun c h2 t2 k2 e => ?_))
      subst e
      exact k _ h2 t2 (k1.trans k2) (by unfold Rep; rfl)
    | _ => exact h.elim
  | BoolOp op es p =>
    cases op with
    | And => exact h.elim
    | Or =>
      rcases es with _ | ⟨a, _ | ⟨b, _ | ⟨c, r⟩⟩⟩
      · exact h.elim
      · exact h.elim
      · rw [ev_or] at h ⊢
        refine Tr.of fun R k => BoolOp_or ?_
        split at h
        · rename_i ht
          refine (S.ev X h.1).use fun v h1 t1 k1 r => (truV_ok (s := { s with heap := h1, toks := t1 }) h.2 r).use fun c h2 t2 k2 e => ?_
          subst e
          rw [if_pos ht] at k ⊢
          exact k _ h2 t2 (k1.trans k2) (r.all k2)
        · rename_i ht
          refine (S.ev X h.1).use fun v h1 t1 k1 r => (truV_ok (s := { s with heap := h1, toks := t1 }) h.2.1 r).use fun c h2 t2 k2 e => ?_
          subst e
          rw [if_neg ht] at k ⊢
          exact BoolOp_one ((S.ev (X.go (k1.trans k2)) h.2.2).use fun v h3 t3 k3 r => k _ _ _ ((k1.trans k2).trans k3) r)
      · exact h.elim
  | IfExp t a b p =>
    rw [ev_ife] at h ⊢
    refine Tr.of fun R k => IfExp_ ?_
    split at h
    · rename_i ht
      refine (S.evT X h.1).use fun b h' tk kk q => ?_
      subst q
      simp only [ht, if_true] at k ⊢
      exact (S.ev (X.go kk) h.2).use fun b h'' tk' kk' q => k _ _ _ (kk.trans kk') q
    · rename_i ht
      refine (S.evT X h.1).use fun b h' tk kk q => ?_
      subst q
      simp only [ht] at k ⊢
      exact (S.ev (X.go kk) h.2).use fun b h'' tk' kk' q => k _ _ _ (kk.trans kk') q
  | Compare a ops bs p =>
    rcases ops with _ | ⟨op, _ | ⟨o2, r⟩⟩
    · exact h.elim
    · rcases bs with _ | ⟨b, _ | ⟨b2, r⟩⟩
      · exact h.elim
      · rw [ev_cmp] at h ⊢
        refine Tr.of fun R k => wpAny_Compare1 ((S.ev X h.1).use fun a h1 t1 k1 ra => (S.ev (X.go k1) h.2.1).use fun b h2 t2 k2 rb => ?_) h.2.2.2
        refine (cmpV_ok (w := w) (s := { s with heap := h2, toks := t2 }) (g := g) B.mem (X.base.trans (k1.trans k2)) h.2.2.1 (ra.all k2) rb (by have := X.room.units; omega)).use fun c h3 t3 k3 e => ?_
        subst e
        exact k _ h3 t3 (k1.trans (k2.trans k3)) (by unfold Rep; rfl)
      · exact h.elim
    · exact h.elim
  | Subscript a b p =>
    cases b with
    | Slice lo hi st q =>
      rw [ev_cut] at h ⊢
      refine Tr.of fun R k => Subscript_ ((S.ev X h.1).use fun a h1 t1 k1 ra => (tr_slice S (X.go k1) h.2.1 h.2.2.1 h.2.2.2.1).use fun b h2 t2 k2 rb => ?_)
      obtain ⟨sl, wl, wh, wt, rfl, hg, rl, rh, rt⟩ := rb
      exact (cutV_ok (s := { s with heap := h2, toks := t2 }) h.2.2.2.2 (ra.all k2) rl rh rt hg (X.live.keep (k1.trans k2))).use fun c h3 t3 k3 rc => k _ h3 t3 (k1.trans (k2.trans k3)) rc
    | _ => exact item_ok S (fun _ _ _ _ => Expr.noConfusion) X h
  | Dict ks vs p =>
    rw [ev_dict] at h ⊢
    cases hc : constPairs ks vs with
    | none => rw [hc] at h; exact False.elim h
    | some kv =>
      rw [hc] at h
      exact dict_display hc h.1 h.2 (modules_low (B.lim.keeps X.base)) X.live
  | List es p =>
    rw [ev_list] at h ⊢
    refine Tr.of fun R k => wpAny_List ((S.evs (pos := p) X h.1).2.use fun vs h1 t1 k1 r => ⟨?_, k _ _ t1 (k1.trans keepAll_push) ?_⟩)
    · have := h.2; unfold lenLid at this; rw [r.length, sizeLine_is]; omega
    · unfold Rep
      exact ⟨_, vs, rfl, (X.go (tk := t1) k1).live.fresh, ⟨_, get_push (by intro e; cases e), rfl, 0, rfl⟩, r.all keepAll_push⟩
  | Tuple es j p =>
    rw [ev_tup] at h ⊢
    refine Tr.of fun R k => wpAny_Tuple ((S.evs (pos := p) X h.1).2.use fun vs h1 t1 k1 r => ⟨?_, k _ _ t1 (k1.trans keepAll_push) ?_⟩)
    · have := h.2; unfold lenLid at this; rw [r.length, sizeLine_is]; omega
    · unfold Rep
      exact ⟨_, vs, rfl, (X.go (tk := t1) k1).live.fresh, ⟨_, get_push (by intro e; cases e), rfl, 0, rfl⟩, r.all keepAll_push⟩
  | ListComp elt gens scope p =>
    obtain ⟨x, px, it, ifs, rfl⟩ := comp_form h
    exact tr_comp S X h
  | Call fe args kw p =>
    cases kw with
    | cons _ _ => cases fe <;> exact h.elim
    | nil =>
      cases fe with
      | Attribute o name ap =>
        rw [ev_meth] at h ⊢
        have hfew := h.2.2.2.2.2
        refine Tr.of fun R k => wpAny_Call_method_lateS (base_ok h.2.2.2.2.1) ?_ h.2.2.2.1 ((S.ev X h.1).use fun ov h1 t1 k1 ro => ?_)
        · have := (S.evs (pos := p) X h.2.1).1
          rw [Bool.and_eq_true, Bool.and_eq_true]
          refine ⟨⟨List.all_eq_true.mpr fun a ha => by rw [this a ha]; rfl, rfl⟩, ?_⟩
          simp; omega
        · have X1 := X.go (tk := t1) k1
          obtain ⟨T, id, pa, sl, ty, tyi, dn, hc⟩ := methV_ok B X1.base X1.room.handled h.2.2.1 ro
          refine ⟨T, id, pa, sl, ty, tyi, dn, ?_⟩
          have hs := S.evs (pos := p) X1 h.2.1
          exact (tr_callWith (.inl ⟨_, rfl⟩) hs.1 [ov] hs.2 fun vs h' tk kk r => hc vs h' tk kk r).use fun v h2 t2 k2 q => k _ _ _ (k1.trans k2) q
      | Name f q => exact callN_ok B S P X h
      | _ => exact h.elim
  | _ => exact h.elim
theorem snd_all (B : Base prog w hb mg mb g d) : ∀ n, Snd prog w hb g d n ∧ ∀ m, n = m + 1 → Snd prog w hb g d m
  | 0 => ⟨snd_zero, fun m e => by cases e⟩
  | n + 1 => by
    obtain ⟨S, P⟩ := snd_all B n
    refine ⟨⟨fun X h => snd_ev B S P X h, fun X h => snd_T B S X h, fun X h => snd_And S X h, fun X h => snd_Or S X h, fun X h => snd_O S X h, fun X h => snd_s S X h, fun X h => snd_I B S X h⟩, fun m e => ?_⟩
    cases e; exact S
theorem snd (B : Base prog w hb mg mb g d) (n : Nat) : Snd prog w hb g d n := (snd_all B n).1
end
end Mine
namespace Mine
open PySem PySem.W PyProof.Rows PySem.Calls

theorem plain_keep {h h' : Heap} {a : Addr} {ws : Array Value} (x : h.PlainList a ws) (e : ∀ o, h.get? a = some o → h'.get? a = some o) : h'.PlainList a ws := x.at e
theorem at_loc (l : Ls) (x : Str) : l.at x = (l.loc x).map (·.v) := by
  induction l with
  | nil => rfl
  | cons p r ih =>
    obtain ⟨y, u⟩ := p
    show (if y = x then some u.v else Ls.at r x) = (if y = x then some u else Ls.loc r x).map (·.v)
    by_cases h : y = x
    · rw [if_pos h, if_pos h]; rfl
    · rw [if_neg h, if_neg h]; exact ih
theorem loc_put {l : Ls} {x : Str} {v : Loc} : ∀ {y : Str}, (l.put x v).loc y = if y = x then some v else l.loc y := by
  induction l with
  | nil =>
    intro y
    show (if x = y then some v else none) = if y = x then some v else none
    by_cases h : x = y
    · rw [if_pos h, if_pos h.symm]
    · rw [if_neg h, if_neg (Ne.symm h)]
  | cons p r ih =>
    intro y
    obtain ⟨z, u⟩ := p
    show Ls.loc (if z = x then (x, v) :: r else (z, u) :: Ls.put r x v) y = if y = x then some v else if z = y then some u else Ls.loc r y
    by_cases hz : z = x
    · subst hz
      rw [if_pos rfl]
      show (if z = y then some v else Ls.loc r y) = _
      by_cases h : z = y
      · subst h; rw [if_pos rfl, if_pos rfl]
      · rw [if_neg h, if_neg h, if_neg (Ne.symm h)]
    · rw [if_neg hz]
      show (if z = y then some u else Ls.loc (Ls.put r x v) y) = _
      by_cases h : z = y
      · subst h; rw [if_pos rfl, if_neg hz, if_pos rfl]
      · rw [if_neg h, if_neg h]; exact ih
theorem put_keys {l : Ls} {x : Str} {v : Loc} : ((l.put x v).map (·.1)) = l.map (·.1) ∨ ((l.put x v).map (·.1) = l.map (·.1) ++ [x] ∧ x ∉ l.map (·.1)) := by
  induction l with
  | nil => exact .inr ⟨rfl, by simp⟩
  | cons p r ih =>
    obtain ⟨z, u⟩ := p
    simp only [Ls.put]
    by_cases hz : z = x
    · rw [if_pos hz]; left; simp [hz]
    · rw [if_neg hz]
      rcases ih with e | ⟨e, n⟩
      · left; simp [e]
      · right; refine ⟨by simp [e], ?_⟩
        simp only [List.map_cons, List.mem_cons, not_or]
        exact ⟨Ne.symm hz, n⟩
theorem put_nodup {l : Ls} {x : Str} {v : Loc} (h : (l.map (·.1)).Nodup) : ((l.put x v).map (·.1)).Nodup := by
  rcases put_keys (l := l) (x := x) (v := v) with e | ⟨e, n⟩
  · rw [e]; exact h
  · rw [e, List.nodup_append]
    refine ⟨h, by simp, fun a ha b hb => ?_⟩
    rcases List.mem_singleton.mp hb with rfl
    rintro rfl; exact n ha
theorem loc_mem {l : Ls} {x : Str} {u : Loc} (h : l.loc x = some u) : x ∈ l.map (·.1) := by
  induction l with
  | nil => cases h
  | cons p r ih =>
    obtain ⟨z, w⟩ := p
    simp only [Ls.loc] at h
    by_cases hz : z = x
    · subst hz; simp
    · rw [if_neg hz] at h; exact List.mem_cons_of_mem _ (ih h)
theorem loc_clean {l : Ls} (hn : (l.map (·.1)).Nodup) {x : Str} {u : Loc} (h : l.clean.loc x = some u) : l.loc x = some u ∧ u.own = false := by
  induction l with
  | nil => cases h
  | cons p r ih =>
    obtain ⟨z, w⟩ := p
    rw [List.map_cons, List.nodup_cons] at hn
    have sub : ∀ {y}, y ∈ (Ls.clean r).map (·.1) → y ∈ r.map (·.1) := fun {y} hy => by
      obtain ⟨q, hq, e⟩ := List.mem_map.mp hy
      exact List.mem_map.mpr ⟨q, (List.mem_filter.mp hq).1, e⟩
    unfold Ls.clean at h ih sub
    rw [List.filter_cons] at h
    split at h
    · rename_i hk
      simp only [Ls.loc] at h ⊢
      by_cases hz : z = x
      · rw [if_pos hz] at h ⊢
        cases h
        exact ⟨rfl, by simpa using hk⟩
      · rw [if_neg hz] at h ⊢; exact ih hn.2 h
    · simp only [Ls.loc]
      by_cases hz : z = x
      · subst hz
        exact absurd (sub (loc_mem h)) hn.1
      · rw [if_neg hz]; exact ih hn.2 h

theorem ns_uniq {h : Heap} {a : Addr} {m m' : Str → Option Value} (x : h.Ns a m) (y : h.Ns a m') (z : Str) : m z = m' z := by
  obtain ⟨o, es, ep, g, dd, _, f⟩ := x
  obtain ⟨o', es', ep', g', dd', _, f'⟩ := y
  rw [g] at g'; cases g'
  rw [dd] at dd'; cases dd'
  rw [← f z, ← f' z]
/-- the state between statements -/
structure Stt (P : Params) (h₀ : Heap) (mc mm : List Addr) (env : Env) (h : Heap) (l : Ls) : Prop where
  kind : env.scope.kind = .function
  glob : env.globals = mainGlobals
  blt : env.builtins = builtinsNs
  keep : KeepAll h₀ h
  new : ∀ a ∈ mm, h₀.get? a = none
  livem : Live mm h
  livec : Live mc h
  apart : ∀ a ∈ mm, a ∉ mc
  hloc : env.locals ∈ mm
  ns : ∃ m, h.Ns env.locals m
  cell : ∀ x, env.kindOf x = some .cell → ∃ c, env.cells.lookup x = some c ∧ c ∈ mm ∧ c ≠ env.locals ∧ ∃ v₀, h.IsCell c v₀
  inj : ∀ x y c, env.kindOf x = some .cell → env.kindOf y = some .cell → env.cells.lookup x = some c → env.cells.lookup y = some c → x = y
  free : ∀ x, env.kindOf x ≠ some .free
  nd : (l.map (·.1)).Nodup
  plain : ∀ x v, l.loc x = some ⟨v, false⟩ → nameOk x = true ∧ ∃ wv, Rd env h x wv ∧ Rep P (mm ++ mc) h v wv
  own : ∀ x v, l.loc x = some ⟨v, true⟩ → nameOk x = true ∧ env.kindOf x = some .local ∧ ∃ a ws xs, v = .list xs ∧ Rd env h x (.ref a) ∧ a ∈ mm ∧ a ≠ env.locals ∧ (∀ y c, env.kindOf y = some .cell → env.cells.lookup y = some c → a ≠ c) ∧
    h.PlainList a (List.toArray ws) ∧ Reps P (mm ++ mc) h xs ws
  one : ∀ x y u v, l.loc x = some ⟨u, true⟩ → l.loc y = some ⟨v, true⟩ → x = y

section
variable {prog : Program} {w : World} {hb : Heap} {mg mb : Str → Option Value} {g : Cfg} {d : Nat}
variable {n : Nat} {env : Env} {l : Ls} {mc mm : List Addr} {s : Shared} {A : Around} {h₀ : Heap}

theorem Stt.nmc (S : Stt w.params h₀ mc mm env s.heap l) {a : Addr} (ha : a ∈ mm) : a ∉ mc := S.apart a ha
/-- all names, for a look -/
theorem Stt.full (S : Stt w.params h₀ mc mm env s.heap l) (kb : KeepAll hb h₀) (r : Rm A d) : At w hb d mc A s env l := by
  refine ⟨⟨S.kind, S.glob, S.blt, fun x v e => ?_⟩, S.livec, kb.trans S.keep, r⟩
  rw [at_loc] at e
  obtain ⟨⟨u, b⟩, e', rfl⟩ := Option.map_eq_some_iff.mp e
  cases b with
  | false =>
    obtain ⟨hn, wv, rd, rp⟩ := S.plain x u e'
    exact ⟨hn, wv, rd, rp.sub fun a ha => List.mem_append_right _ ha⟩
  | true =>
    obtain ⟨hn, hk, a, ws, xs, rfl, rd, ha, _, _, hl, rp⟩ := S.own x u e'
    refine ⟨hn, _, rd, ?_⟩
    unfold Rep
    exact ⟨a, ws, rfl, S.nmc ha, hl.isList, rp.sub fun a ha => List.mem_append_right _ ha⟩
/-- the names of what is not written to -/
theorem Stt.cleanAt (S : Stt w.params h₀ mc mm env s.heap l) (kb : KeepAll hb h₀) (r : Rm A d) : At w hb d (mm ++ mc) A s env l.clean := by
  refine ⟨⟨S.kind, S.glob, S.blt, fun x v e => ?_⟩, fun a ha => ?_, kb.trans S.keep, r⟩
  · rw [at_loc] at e
    obtain ⟨⟨u, b⟩, e', rfl⟩ := Option.map_eq_some_iff.mp e
    obtain ⟨e2, q⟩ := loc_clean S.nd e'
    simp only at q; subst q
    exact S.plain x u e2
  · rcases List.mem_append.mp ha with ha | ha
    · exact S.livem a ha
    · exact S.livec a ha
theorem Stt.go (S : Stt w.params h₀ mc mm env s.heap l) {h' : Heap} (k : KeepAll s.heap h') : Stt w.params h₀ mc mm env h' l :=
  { S with
    keep := S.keep.trans k
    livem := S.livem.keep k
    livec := S.livec.keep k
    ns := by obtain ⟨m, e⟩ := S.ns; exact ⟨m, e.keeps k⟩
    cell := fun x hx => by obtain ⟨c, e, hm, hne, v, o, gg, dd⟩ := S.cell x hx; exact ⟨c, e, hm, hne, v, o, k _ _ gg, dd⟩
    plain := fun x v e => by obtain ⟨hn, wv, rd, rp⟩ := S.plain x v e; exact ⟨hn, wv, rd.keep k, rp.all k⟩
    own := fun x v e => by obtain ⟨hn, hk, a, ws, xs, ev, rd, ha, hne, hc, hl, rp⟩ := S.own x v e; exact ⟨hn, hk, a, ws, xs, ev, rd.keep k, ha, hne, hc, plain_keep hl (fun o => k a o), rp.all k⟩ }
theorem atom_rep {P : Params} {mu : List Addr} {h : Heap} {v : V} {wv : Value} (ha : isAtom v = true) {mu' : List Addr} (r : Rep P mu h v wv) : Rep P mu' h v wv := by
  cases v <;> first | (unfold Rep at r ⊢; exact r) | cases ha
/-- all but the names' own places -/
noncomputable abbrev KeepE (env : Env) (h h' : Heap) : Prop := ∀ b o, b ≠ env.locals → (∀ y c, env.kindOf y = some .cell → env.cells.lookup y = some c → b ≠ c) → h.get? b = some o → h'.get? b = some o
/-- a name is stored -/
theorem Stt.store (S : Stt w.params h₀ mc mm env s.heap l) {x : Str} {v : V} {wv : Value} {Q : Unit → Shared → Prop} {E : Value → Shared → Prop} (hs : storable env.kindOf x = true) (r : Rep w.params (mm ++ mc) s.heap v wv)
    (k : ∀ h' tk, Keep mm s.heap h' → KeepE env s.heap h' → Stt w.params h₀ mc mm env h' (l.put x ⟨v, false⟩) → Q () { s with heap := h', toks := tk }) : wpAny (model prog w) A (storeName env x wv) Q E s := by
  unfold storable at hs
  rw [Bool.and_eq_true, Bool.or_eq_true] at hs
  obtain ⟨hk, hn⟩ := hs
  -- what a change at an address of our own leaves as it is
  have rest : ∀ (b : Addr) (h' : Heap), b ∈ mm → Heap.SameBut b s.heap h' → KeepAll h₀ h' ∧ (∀ u uw, Rep w.params (mm ++ mc) s.heap u uw → Rep w.params (mm ++ mc) h' u uw) ∧ (∀ u uw, Reps w.params (mm ++ mc) s.heap u uw → Reps w.params (mm ++ mc) h' u uw) ∧
      (∀ a, a ∈ mm → a ≠ b → ∃ o, h'.get? a = some o) := fun b h' hb' sb =>
    ⟨fun a o e => sameBut_keep sb a o (by rintro rfl; rw [S.new _ hb'] at e; cases e) (S.keep a o e),
     fun u uw r => r.keep fun a o ha e => sameBut_keep sb a o (by rintro rfl; exact ha (List.mem_append_left _ hb')) e,
     fun u uw r => r.keep fun a o ha e => sameBut_keep sb a o (by rintro rfl; exact ha (List.mem_append_left _ hb')) e,
     fun a ha hne => by obtain ⟨o, e⟩ := S.livem a ha; exact ⟨o, sameBut_keep sb a o hne e⟩⟩
  rcases hk with hk | hk
  · have hk : env.kindOf x = some .local := by simpa using hk
    obtain ⟨m, hm⟩ := S.ns
    refine wpAny_storeName_local hk hm (fun h' hm' sb => k h' _ (fun b o hb e => sameBut_keep sb b o (by rintro rfl; exact hb S.hloc) e) (fun b o h1 h2 e => sameBut_keep sb b o h1 e) ?_) (by rw [S.kind]; rfl)
    obtain ⟨k0, kr, krs, kl⟩ := rest env.locals h' S.hloc sb
    have rdk : ∀ y wv', y ≠ x → Rd env s.heap y wv' → Rd env h' y wv' := fun y wv' hy rd => by
      rcases rd with ⟨e, m', hm2, hv⟩ | ⟨e, c, lc, o, gg, dd⟩
      · refine .inl ⟨e, _, hm', ?_⟩
        rw [if_neg hy]
        rw [ns_uniq hm hm2 y]; exact hv
      · refine .inr ⟨e, c, lc, o, sameBut_keep sb c o ?_ gg, dd⟩
        rcases e with e | e
        · obtain ⟨c', lc', _, hne, _⟩ := S.cell y e
          rw [lc] at lc'; cases lc'; exact hne
        · exact absurd e (S.free y)
    exact { S with
      keep := k0
      livec := fun a ha => by obtain ⟨o, e⟩ := S.livec a ha; exact ⟨o, sameBut_keep sb a o (by rintro rfl; exact S.apart _ S.hloc ha) e⟩
      livem := fun a ha => by
        by_cases e : a = env.locals
        · subst e; obtain ⟨o, _, _, gg, _⟩ := hm'; exact ⟨o, gg⟩
        · exact kl a ha e
      ns := ⟨_, hm'⟩
      cell := fun y hy => by obtain ⟨c, e, hc, hne, v0, o, gg, dd⟩ := S.cell y hy; exact ⟨c, e, hc, hne, v0, o, sameBut_keep sb c o hne gg, dd⟩
      nd := put_nodup S.nd
      plain := fun y u e => by
        rw [loc_put] at e
        by_cases hy : y = x
        · subst hy
          rw [if_pos rfl] at e; cases e
          exact ⟨hn, wv, .inl ⟨hk, _, hm', if_pos rfl⟩, kr _ _ r⟩
        · rw [if_neg hy] at e
          obtain ⟨h1, wv', rd, rp⟩ := S.plain y u e
          exact ⟨h1, wv', rdk y wv' hy rd, kr _ _ rp⟩
      own := fun y u e => by
        rw [loc_put] at e
        by_cases hy : y = x
        · subst hy; rw [if_pos rfl] at e; cases e
        · rw [if_neg hy] at e
          obtain ⟨h1, h2, a, ws, xs, ev, rd, ha, hne, hc, hl, rp⟩ := S.own y u e
          exact ⟨h1, h2, a, ws, xs, ev, rdk y _ hy rd, ha, hne, hc, plain_keep hl (fun o => sameBut_keep sb a o hne), krs _ _ rp⟩
      one := fun y z u v' e1 e2 => by
        rw [loc_put] at e1 e2
        by_cases hy : y = x
        · rw [if_pos hy] at e1; cases e1
        · by_cases hz : z = x
          · rw [if_pos hz] at e2; cases e2
          · rw [if_neg hy] at e1; rw [if_neg hz] at e2; exact S.one y z u v' e1 e2 }
  · have hk : env.kindOf x = some .cell := by simpa using hk
    obtain ⟨c, lc, hc, hne, v0, ic⟩ := S.cell x hk
    refine wpAny_storeName_cell S.kind hk lc ic fun h' ic' sb => k h' _ (fun b o hb e => sameBut_keep sb b o (by rintro rfl; exact hb hc) e) (fun b o h1 h2 e => sameBut_keep sb b o (h2 x c hk lc) e) ?_
    obtain ⟨k0, kr, krs, kl⟩ := rest c h' hc sb
    have rdk : ∀ y wv', y ≠ x → Rd env s.heap y wv' → Rd env h' y wv' := fun y wv' hy rd => by
      rcases rd with ⟨e, m', hm2, hv⟩ | ⟨e, c', lc', o, gg, dd⟩
      · exact .inl ⟨e, m', hm2.at' fun o => sameBut_keep sb _ o (Ne.symm hne), hv⟩
      · refine .inr ⟨e, c', lc', o, sameBut_keep sb c' o ?_ gg, dd⟩
        rintro rfl
        rcases e with e | e
        · exact hy (S.inj y x c' e hk lc' lc)
        · exact absurd e (S.free y)
    exact { S with
      keep := k0
      livec := fun a ha => by obtain ⟨o, e⟩ := S.livec a ha; exact ⟨o, sameBut_keep sb a o (by rintro rfl; exact S.apart _ hc ha) e⟩
      livem := fun a ha => by
        by_cases e : a = c
        · subst e; obtain ⟨o, gg, _⟩ := ic'; exact ⟨o, gg⟩
        · exact kl a ha e
      ns := by obtain ⟨m, hm⟩ := S.ns; exact ⟨m, hm.at' fun o => sameBut_keep sb _ o (Ne.symm hne)⟩
      cell := fun y hy => by
        obtain ⟨c', e, hc', hne', v0', o, gg, dd⟩ := S.cell y hy
        by_cases ecc : c' = c
        · subst ecc; exact ⟨c', e, hc', hne', _, ic'⟩
        · exact ⟨c', e, hc', hne', v0', o, sameBut_keep sb c' o ecc gg, dd⟩
      nd := put_nodup S.nd
      plain := fun y u e => by
        rw [loc_put] at e
        by_cases hy : y = x
        · subst hy
          rw [if_pos rfl] at e; cases e
          exact ⟨hn, wv, .inr ⟨.inl hk, c, lc, ic'⟩, kr _ _ r⟩
        · rw [if_neg hy] at e
          obtain ⟨h1, wv', rd, rp⟩ := S.plain y u e
          exact ⟨h1, wv', rdk y wv' hy rd, kr _ _ rp⟩
      own := fun y u e => by
        rw [loc_put] at e
        by_cases hy : y = x
        · subst hy; rw [if_pos rfl] at e; cases e
        · rw [if_neg hy] at e
          obtain ⟨h1, h2, a, ws, xs, ev, rd, ha, hne', hc', hl, rp⟩ := S.own y u e
          exact ⟨h1, h2, a, ws, xs, ev, rdk y _ hy rd, ha, hne', hc', plain_keep hl (fun o => sameBut_keep sb a o (hc' x c hk lc)), krs _ _ rp⟩
      one := fun y z u v' e1 e2 => by
        rw [loc_put] at e1 e2
        by_cases hy : y = x
        · rw [if_pos hy] at e1; cases e1
        · by_cases hz : z = x
          · rw [if_pos hz] at e2; cases e2
          · rw [if_neg hy] at e1; rw [if_neg hz] at e2; exact S.one y z u v' e1 e2 }
end
end Mine
namespace Mine
open PySem PySem.W PyProof.Rows PySem.Calls
section
variable {prog : Program} {w : World} {hb : Heap} {mg mb : Str → Option Value} {g : Cfg} {d : Nat}
variable {n : Nat} {env : Env} {l : Ls} {mc mm : List Addr} {s : Shared} {A : Around} {h₀ : Heap}

theorem atoms_rep {P : Params} {mu mu' : List Addr} {h h' : Heap} : ∀ {xs : List V} {ws : List Value}, (∀ v ∈ xs, isAtom v = true) → Reps P mu h xs ws → Reps P mu' h' xs ws
  | [], ws, _, r => by unfold Reps at r ⊢; exact r
  | x :: xs, ws, ha, r => by
    unfold Reps at r ⊢
    obtain ⟨v, vs, e, r1, r2⟩ := r
    refine ⟨v, vs, e, ?_, atoms_rep (fun v hv => ha v (.tail _ hv)) r2⟩
    have := ha x (.head _)
    cases x <;> first | (unfold Rep at r1 ⊢; exact r1) | cases this
/-- one more address of our own -/
theorem Stt.addr (S : Stt w.params h₀ mc mm env s.heap l) {h : Heap} {a : Addr} (kk : KeepAll s.heap h) (ha : s.heap.get? a = none) (hl : ∃ o, h.get? a = some o) : Stt w.params h₀ mc (a :: mm) env h l := by
  have hmu : ∀ b, b ∈ (a :: mm) ++ mc → b ∈ mm ++ mc ∨ s.heap.get? b = none := fun b hb => by
    rcases List.mem_cons.mp hb with rfl | hb
    · exact .inr ha
    · exact .inl hb
  have T := S.go kk
  exact { T with
    new := fun b hb => by
      rcases List.mem_cons.mp hb with rfl | hb
      · cases q : h₀.get? b with
        | none => rfl
        | some o => have := S.keep _ _ q; rw [ha] at this; cases this
      · exact S.new b hb
    livem := fun b hb => by
      rcases List.mem_cons.mp hb with rfl | hb
      · exact hl
      · exact T.livem b hb
    hloc := .tail _ S.hloc
    apart := fun b hb q => by
      rcases List.mem_cons.mp hb with rfl | hb
      · obtain ⟨o, e⟩ := S.livec b q; rw [ha] at e; cases e
      · exact S.apart b hb q
    cell := fun x hx => by obtain ⟨c, e, hm, r⟩ := T.cell x hx; exact ⟨c, e, .tail _ hm, r⟩
    plain := fun x v e => by obtain ⟨hn, wv, rd, rp⟩ := S.plain x v e; exact ⟨hn, wv, rd.keep kk, (rp.more hmu).all kk⟩
    own := fun x v e => by obtain ⟨hn, hk, a', ws, xs, ev, rd, ha', hne, hc, hl', rp⟩ := S.own x v e; exact ⟨hn, hk, a', ws, xs, ev, rd.keep kk, .tail _ ha', hne, hc, plain_keep hl' (fun o => kk a' o), (rp.more hmu).all kk⟩ }
theorem Stt.storeOwn (S : Stt w.params h₀ mc mm env s.heap l) {x : Str} {a : Addr} {xs : List V} {ws : List Value} {Q : Unit → Shared → Prop} {E : Value → Shared → Prop} (hk : env.kindOf x = some .local) (hn : nameOk x = true)
    (ham : a ∈ mm) (hal : a ≠ env.locals) (hac : ∀ y c, env.kindOf y = some .cell → env.cells.lookup y = some c → a ≠ c) (hlist : s.heap.PlainList a (List.toArray ws)) (hr : Reps w.params (mm ++ mc) s.heap xs ws)
    (hone : ∀ y u, l.loc y = some ⟨u, true⟩ → y = x)
    (k : ∀ h' tk, Keep mm s.heap h' → Stt w.params h₀ mc mm env h' (l.put x ⟨.list xs, true⟩) → Q () { s with heap := h', toks := tk }) : wpAny (model prog w) A (storeName env x (.ref a)) Q E s := by
  obtain ⟨m, hm⟩ := S.ns
  refine wpAny_storeName_local hk hm (fun h' hm' sb => k h' _ (fun b o hb e => sameBut_keep sb b o (by rintro rfl; exact hb S.hloc) e) ?_) (by rw [S.kind]; rfl)
  have kr : ∀ u uw, Rep w.params (mm ++ mc) s.heap u uw → Rep w.params (mm ++ mc) h' u uw := fun u uw r => r.keep fun a o ha e => sameBut_keep sb a o (by rintro rfl; exact ha (List.mem_append_left _ S.hloc)) e
  have krs : ∀ u uw, Reps w.params (mm ++ mc) s.heap u uw → Reps w.params (mm ++ mc) h' u uw := fun u uw r => r.keep fun a o ha e => sameBut_keep sb a o (by rintro rfl; exact ha (List.mem_append_left _ S.hloc)) e
  have rdk : ∀ y wv', y ≠ x → Rd env s.heap y wv' → Rd env h' y wv' := fun y wv' hy rd => by
    rcases rd with ⟨e, m', hm2, hv⟩ | ⟨e, c, lc, o, gg, dd⟩
    · refine .inl ⟨e, _, hm', ?_⟩
      rw [if_neg hy]
      rw [ns_uniq hm hm2 y]; exact hv
    · refine .inr ⟨e, c, lc, o, sameBut_keep sb c o ?_ gg, dd⟩
      rcases e with e | e
      · obtain ⟨c', lc', _, hne, _⟩ := S.cell y e
        rw [lc] at lc'; cases lc'; exact hne
      · exact absurd e (S.free y)
  exact { S with
    keep := fun a o e => sameBut_keep sb a o (by rintro rfl; rw [S.new _ S.hloc] at e; cases e) (S.keep a o e)
    livec := fun a ha => by obtain ⟨o, e⟩ := S.livec a ha; exact ⟨o, sameBut_keep sb a o (by rintro rfl; exact S.apart _ S.hloc ha) e⟩
    livem := fun a ha => by
      by_cases e : a = env.locals
      · subst e; obtain ⟨o, _, _, gg, _⟩ := hm'; exact ⟨o, gg⟩
      · obtain ⟨o, e2⟩ := S.livem a ha; exact ⟨o, sameBut_keep sb a o e e2⟩
    ns := ⟨_, hm'⟩
    cell := fun y hy => by obtain ⟨c, e, hc, hne, v0, o, gg, dd⟩ := S.cell y hy; exact ⟨c, e, hc, hne, v0, o, sameBut_keep sb c o hne gg, dd⟩
    nd := put_nodup S.nd
    plain := fun y u e => by
      rw [loc_put] at e
      by_cases hy : y = x
      · rw [if_pos hy] at e; cases e
      · rw [if_neg hy] at e
        obtain ⟨h1, wv', rd, rp⟩ := S.plain y u e
        exact ⟨h1, wv', rdk y wv' hy rd, kr _ _ rp⟩
    own := fun y u e => by
      rw [loc_put] at e
      by_cases hy : y = x
      · subst hy; rw [if_pos rfl] at e; cases e
        exact ⟨hn, hk, a, ws, xs, rfl, .inl ⟨hk, _, hm', if_pos rfl⟩, ham, hal, hac, plain_keep hlist (fun o => sameBut_keep sb a o hal), krs _ _ hr⟩
      · rw [if_neg hy] at e
        exact absurd (hone y u e) hy
    one := fun y z u v' e1 e2 => by
      rw [loc_put] at e1 e2
      by_cases hy : y = x
      · by_cases hz : z = x
        · rw [hy, hz]
        · rw [if_neg hz] at e2; exact absurd (hone z v' e2) hz
      · rw [if_neg hy] at e1; exact absurd (hone y u e1) hy }
/-- a list of our own is written to -/
theorem Stt.write (S : Stt w.params h₀ mc mm env s.heap l) {x : Str} {a : Addr} {xs xs' : List V} {ws' : List Value} {h' : Heap} (hx : l.loc x = some ⟨.list xs, true⟩) (rd : Rd env s.heap x (.ref a)) (sb : Heap.SameBut a s.heap h')
    (hlist : h'.PlainList a (List.toArray ws')) (hr : Reps w.params (mm ++ mc) s.heap xs' ws') : Stt w.params h₀ mc mm env h' (l.put x ⟨.list xs', true⟩) := by
  obtain ⟨hn, hk, a', ws, xs2, ev, rd', ham, hal, hac, hl0, hr0⟩ := S.own x _ hx
  have : a' = a := by
    rcases rd with ⟨_, m, hm, hv⟩ | ⟨e | e, _⟩
    · rcases rd' with ⟨_, m', hm', hv'⟩ | ⟨e | e, _⟩
      · have := ns_uniq hm hm' x
        rw [hv, hv'] at this; cases this; rfl
      · rw [hk] at e; cases e
      · rw [hk] at e; cases e
    · rw [hk] at e; cases e
    · rw [hk] at e; cases e
  subst this
  have kr : ∀ u uw, Rep w.params (mm ++ mc) s.heap u uw → Rep w.params (mm ++ mc) h' u uw := fun u uw r => r.keep fun b o hb e => sameBut_keep sb b o (by rintro rfl; exact hb (List.mem_append_left _ ham)) e
  have krs : ∀ u uw, Reps w.params (mm ++ mc) s.heap u uw → Reps w.params (mm ++ mc) h' u uw := fun u uw r => r.keep fun b o hb e => sameBut_keep sb b o (by rintro rfl; exact hb (List.mem_append_left _ ham)) e
  have rdk : ∀ y wv', Rd env s.heap y wv' → Rd env h' y wv' := fun y wv' rd => by
    rcases rd with ⟨e, m', hm2, hv⟩ | ⟨e, c, lc, o, gg, dd⟩
    · exact .inl ⟨e, m', hm2.at' fun o => sameBut_keep sb _ o (Ne.symm hal), hv⟩
    · refine .inr ⟨e, c, lc, o, sameBut_keep sb c o ?_ gg, dd⟩
      rcases e with e | e
      · exact Ne.symm (hac y c e lc)
      · exact absurd e (S.free y)
  exact { S with
    keep := fun b o e => sameBut_keep sb b o (by rintro rfl; rw [S.new _ ham] at e; cases e) (S.keep b o e)
    livec := fun b hb => by obtain ⟨o, e⟩ := S.livec b hb; exact ⟨o, sameBut_keep sb b o (by rintro rfl; exact S.apart _ ham hb) e⟩
    livem := fun b hb => by
      by_cases e : b = a'
      · subst e; obtain ⟨o, gg⟩ := hlist; exact ⟨_, gg⟩
      · obtain ⟨o, e2⟩ := S.livem b hb; exact ⟨o, sameBut_keep sb b o e e2⟩
    ns := by obtain ⟨m, hm⟩ := S.ns; exact ⟨m, hm.at' fun o => sameBut_keep sb _ o (Ne.symm hal)⟩
    cell := fun y hy => by obtain ⟨c, e, hc, hne, v0, o, gg, dd⟩ := S.cell y hy; exact ⟨c, e, hc, hne, v0, o, sameBut_keep sb c o (Ne.symm (hac y c hy e)) gg, dd⟩
    nd := put_nodup S.nd
    plain := fun y u e => by
      rw [loc_put] at e
      by_cases hy : y = x
      · rw [if_pos hy] at e; cases e
      · rw [if_neg hy] at e
        obtain ⟨h1, wv', rd, rp⟩ := S.plain y u e
        exact ⟨h1, wv', rdk y wv' rd, kr _ _ rp⟩
    own := fun y u e => by
      rw [loc_put] at e
      by_cases hy : y = x
      · subst hy; rw [if_pos rfl] at e; cases e
        exact ⟨hn, hk, a', ws', xs', rfl, rdk _ _ rd', ham, hal, hac, hlist, krs _ _ hr⟩
      · rw [if_neg hy] at e
        exact absurd (S.one y x u _ e hx) hy
    one := fun y z u v' e1 e2 => by
      rw [loc_put] at e1 e2
      by_cases hy : y = x
      · by_cases hz : z = x
        · rw [hy, hz]
        · rw [if_neg hz] at e2; exact absurd (S.one z x _ _ e2 hx) hz
      · rw [if_neg hy] at e1; exact absurd (S.one y x _ _ e1 hx) hy }
theorem Stt.same {l' : Ls} {h : Heap} (S : Stt w.params h₀ mc mm env h l) (e : ∀ x, l'.loc x = l.loc x) (hn : (l'.map (·.1)).Nodup) : Stt w.params h₀ mc mm env h l' :=
  { S with
    nd := hn
    plain := fun x v h => S.plain x v (by rw [← e]; exact h)
    own := fun x v h => S.own x v (by rw [← e]; exact h)
    one := fun x y u v h1 h2 => S.one x y u v (by rw [← e]; exact h1) (by rw [← e]; exact h2) }
theorem reps_set {P : Params} {mu : List Addr} {h : Heap} {v : V} {wv : Value} (r : Rep P mu h v wv) : ∀ {xs : List V} {ws : List Value} (i : Nat), Reps P mu h xs ws → Reps P mu h (xs.set i v) (ws.set i wv)
  | [], ws, i, q => by unfold Reps at q; subst q; simp [Reps]
  | x :: xs, ws, i, q => by
    obtain ⟨y, ys, rfl, q1, q2⟩ := reps_cons q
    cases i with
    | zero => show Reps P mu h (v :: xs) (wv :: ys); unfold Reps; exact ⟨_, _, rfl, r, q2⟩
    | succ i => show Reps P mu h (x :: xs.set i v) (y :: ys.set i wv); unfold Reps; exact ⟨_, _, rfl, q1, reps_set r i q2⟩
theorem swap_cases {x y : Str} {px py tp : Pos} {k : Nat} {e : Expr} (hf : env.scope.kind = .function) (h : constTup e = false) :
    swappedStores [.Tuple [.Name x px, .Name y py] k tp] e env = pure none ∨ swappedStores [.Tuple [.Name x px, .Name y py] k tp] e env = pure (some [x, y]) := by
  cases e with
  | Tuple vs k2 p2 =>
    have h : vs.all (constantsAlone 8) = false := h
    unfold swappedStores
    dsimp only
    split
    · exact .inl rfl
    · split
      · exact .inl rfl
      · split
        · exact .inl rfl
        · split
          · exact .inl rfl
          · rw [h]
            right
            rename_i hnm _
            have e1 : (Expr.Name x px).pos = px := rfl
            by_cases h1 : env.kindOf x = some .local <;> by_cases h2 : env.kindOf y = some .local <;> by_cases h3 : py.line = px.line <;>
              first
                | (simp [h1, h2, h3, e1]; done)
                | (exfalso; apply hnm; simp [h1, h2, h3, e1]; done)
  | _ => exact .inl rfl
end
end Mine
namespace Mine
open PySem PySem.W PyProof.Rows PySem.Calls
section
variable {prog : Program} {w : World} {hb : Heap} {mg mb : Str → Option Value} {g : Cfg} {d : Nat}
variable {n : Nat} {env : Env} {l : Ls} {mc mm : List Addr} {s : Shared} {A : Around} {h₀ : Heap}

noncomputable abbrev Grow (mm : List Addr) (h : Heap) (mm' : List Addr) : Prop := ∀ a ∈ mm', a ∈ mm ∨ h.get? a = none
/-- how a statement ends -/
noncomputable def FinS (w : World) (h₀ : Heap) (mc mm : List Addr) (env : Env) (r : Fl × Ls × Prop) (s : Shared) (f : Flow) (s' : Shared) : Prop :=
  ∃ h' tk, s' = { s with heap := h', toks := tk } ∧ Keep mm s.heap h' ∧ match r.1 with
    | .next => f = .next ∧ ∃ mm', Grow mm s.heap mm' ∧ Stt w.params h₀ mc mm' env h' r.2.1
    | .ret v => KeepAll h₀ h' ∧ ∃ wv, f = .ret wv ∧ Rep w.params mc h' v wv
variable (prog w hb g d)
structure Sx (n : Nat) : Prop where
  ex : ∀ {h₀ mc env l mm s A st}, KeepAll hb h₀ → Stt w.params h₀ mc mm env s.heap l → Rm A d → (ex g env.kindOf n l st).2.2 → wpAny (model prog w) A (exec st env) (FinS w h₀ mc mm env (ex g env.kindOf n l st) s) (fun _ _ => False) s
  exs : ∀ {h₀ mc env l mm s A ss}, KeepAll hb h₀ → Stt w.params h₀ mc mm env s.heap l → Rm A d → (exs g env.kindOf n l ss).2.2 → wpAny (model prog w) A (execs ss env) (FinS w h₀ mc mm env (exs g env.kindOf n l ss) s) (fun _ _ => False) s
variable {prog w hb g d}
theorem Keep.trans' {h h1 h2 : Heap} {mm1 : List Addr} (k : Keep mm h h1) (gr : Grow mm h mm1) (k2 : Keep mm1 h1 h2) : Keep mm h h2 := fun b o hb e =>
  k2 b o (fun q => by rcases gr b q with q | q; exact hb q; rw [e] at q; cases q) (k b o hb e)
theorem Grow.trans {h h1 : Heap} {mm1 mm2 : List Addr} (k : Keep mm h h1) (g1 : Grow mm h mm1) (g2 : Grow mm1 h1 mm2) : Grow mm h mm2 := fun a ha => by
  rcases g2 a ha with q | q
  · exact g1 a q
  · cases e : h.get? a with
    | none => exact .inr rfl
    | some o =>
      by_cases hm : a ∈ mm
      · exact .inl hm
      · rw [k a o hm e] at q; cases q
theorem Grow.refl {h : Heap} : Grow mm h mm := fun _ h => .inl h
theorem evS_ok (B : Base prog w hb mg mb g d) (kb : KeepAll hb h₀) (S : Stt w.params h₀ mc mm env s.heap l) (r : Rm A d) {e : Expr} (h : (evS g env.kindOf n l e).2) :
    Tr prog w A (eval e env) s (fun v h' => Rep w.params (mm ++ mc) h' (evS g env.kindOf n l e).1 v) := by
  unfold evS at h ⊢
  dsimp only at h ⊢
  split at h
  · rename_i ha
    rw [if_pos ha]
    exact ((snd B n).ev (S.full kb r) h).mono fun v h' _ q => atom_rep ha q
  · rename_i ha
    rw [if_neg ha]
    exact (snd B n).ev (S.cleanAt kb r) h
/-- from a store to the end of a statement -/
theorem fin_store {x : Str} {v : V} {wv : Value} {s₀ : Shared} {tk : Nat} {h1 : Heap} (S : Stt w.params h₀ mc mm env h1 l) (k1 : Keep mm s₀.heap h1) (hs : storable env.kindOf x = true) (r : Rep w.params (mm ++ mc) h1 v wv) {c : Prop} :
    wpAny (model prog w) A (storeName env x wv) (fun _ => FinS w h₀ mc mm env (.next, l.put x ⟨v, false⟩, c) s₀ .next) (fun _ _ => False) { s₀ with heap := h1, toks := tk } :=
  Stt.store (s := { s₀ with heap := h1, toks := tk }) S hs r fun h' tk' kk _ T => ⟨h', tk', rfl, fun b o hb e => kk b o hb (k1 b o hb e), rfl, mm, Grow.refl, T⟩
theorem swaps_pure (value : Expr) (x : Str) (p : Pos) (line : Nat) (env : Env) : (∃ elt gens scope pos, value = .ListComp elt gens scope pos) ∨ (∃ elt gens scope pos, value = .SetComp elt gens scope pos) ∨ (∃ a elt gens scope pos, value = .DictComp a elt gens scope pos) ∨ swapsWith value (some (.Name x p)) line env = pure false := by
  cases value <;> first | exact .inl ⟨_, _, _, _, rfl⟩ | exact .inr (.inl ⟨_, _, _, _, rfl⟩) | exact .inr (.inr (.inl ⟨_, _, _, _, _, rfl⟩)) | exact .inr (.inr (.inr rfl))
theorem swaps_comp (elt : Expr) (gens : List Comprehension) (scope : Scope) (pos : Pos) (x : Str) (p : Pos) (line : Nat) (env : Env) :
    swapsWith (.ListComp elt gens scope pos) (some (.Name x p)) line env = pure true ∨ swapsWith (.ListComp elt gens scope pos) (some (.Name x p)) line env = pure false := by
  unfold swapsWith
  dsimp only
  generalize (env.blockKind == .function && env.kindOf x == some .local && p.line == (PySem.Expr.ListComp elt gens scope pos).pos.line && !(scope.names.any fun (n, k) => n == x && (k == .local || k == .cell))) = b
  cases b
  · exact .inr rfl
  · exact .inl rfl
theorem Stt.drop {C : Addr} {m : Str → Option Value} {h h' : Heap} (S : Stt w.params h₀ mc (C :: mm) env h l) (hm : h.Ns C m) (sb : Heap.SameBut C h h') (hCm : C ∉ mm) (h1 : C ≠ env.locals) (h2 : ∀ y c, env.kindOf y = some .cell → env.cells.lookup y = some c → C ≠ c) : Stt w.params h₀ mc mm env h' l := by
  have sub : ∀ a, a ∈ mm ++ mc → a ∈ (C :: mm) ++ mc := fun a ha => .tail _ ha
  have fC : h₀.get? C = none := S.new C (.head _)
  have rdk : ∀ y wv', Rd env h y wv' → Rd env h' y wv' := fun y wv' rd => by
    rcases rd with ⟨e, m', hm2, hv⟩ | ⟨e, c, lc, o, gg, dd⟩
    · exact .inl ⟨e, m', hm2.at' fun o => sameBut_keep sb _ o (Ne.symm h1), hv⟩
    · refine .inr ⟨e, c, lc, o, sameBut_keep sb c o ?_ gg, dd⟩
      rcases e with e | e
      · exact Ne.symm (h2 y c e lc)
      · exact absurd e (S.free y)
  have kr : ∀ u uw, Rep w.params ((C :: mm) ++ mc) h u uw → Rep w.params (mm ++ mc) h' u uw := fun u uw r => (r.keep fun b o hb e => sameBut_keep sb b o (fun q => hb (q ▸ .head _)) e).sub sub
  have krs : ∀ u uw, Reps w.params ((C :: mm) ++ mc) h u uw → Reps w.params (mm ++ mc) h' u uw := fun u uw r => (r.keep fun b o hb e => sameBut_keep sb b o (fun q => hb (q ▸ .head _)) e).sub sub
  exact { S with
    keep := fun b o e => sameBut_keep sb b o (by rintro rfl; rw [fC] at e; cases e) (S.keep b o e)
    new := fun a ha => S.new a (.tail _ ha)
    livec := fun b hb => by obtain ⟨o, e⟩ := S.livec b hb; exact ⟨o, sameBut_keep sb b o (by rintro rfl; exact S.apart _ (.head _) hb) e⟩
    apart := fun a ha => S.apart a (.tail _ ha)
    livem := fun a ha => by
      by_cases e : a = C
      · exact absurd (e ▸ ha) hCm
      · obtain ⟨o, e2⟩ := S.livem a (.tail _ ha); exact ⟨o, sameBut_keep sb a o e e2⟩
    hloc := by
      rcases List.mem_cons.mp S.hloc with q | q
      · exact absurd q.symm h1
      · exact q
    ns := by obtain ⟨m, hm⟩ := S.ns; exact ⟨m, hm.at' fun o => sameBut_keep sb _ o (Ne.symm h1)⟩
    cell := fun y hy => by
      obtain ⟨c, e, hc, hne, v0, o, gg, dd⟩ := S.cell y hy
      have := h2 y c hy e
      refine ⟨c, e, ?_, hne, v0, o, sameBut_keep sb c o (Ne.symm this) gg, dd⟩
      rcases List.mem_cons.mp hc with q | q
      · exact absurd q.symm this
      · exact q
    plain := fun y u e => by obtain ⟨h1, wv', rd, rp⟩ := S.plain y u e; exact ⟨h1, wv', rdk y wv' rd, kr _ _ rp⟩
    own := fun y u e => by
      obtain ⟨h1, h2, a, ws, xs, ev, rd, ha, hne', hc', hl, rp⟩ := S.own y u e
      have haC : a ≠ C := by
        rintro rfl
        obtain ⟨z, g1⟩ := hl
        obtain ⟨o', es, ep, g2, q', _⟩ := hm
        rw [g1] at g2; cases g2
        cases q'
      refine ⟨h1, h2, a, ws, xs, ev, rdk y _ rd, ?_, hne', hc', plain_keep hl (fun o => sameBut_keep sb a o haC), krs _ _ rp⟩
      rcases List.mem_cons.mp ha with q | q
      · exact absurd q haC
      · exact q }
end
end Mine
namespace Mine
open PySem PySem.W PyProof.Rows PySem.Calls
section
variable {prog : Program} {w : World} {hb : Heap} {mg mb : Str → Option Value} {g : Cfg} {d : Nat}
variable {n : Nat} {env : Env} {l : Ls} {mc mm : List Addr} {s : Shared} {A : Around} {h₀ : Heap}

theorem ev_comp_form {e : Expr} {l : Ls} {k : Kd} {elt : Expr} {gens : List Comprehension} {scope : Scope} {pos : Pos} (he : e = .ListComp elt gens scope pos) (h : (ev g k n l e).2) :
    ∃ m x px it ifs, n = m + 1 ∧ gens = [⟨.Name x px, it, ifs, 0⟩] := by
  subst he
  cases n with
  | zero => exact h.elim
  | succ m =>
    obtain ⟨x, px, it, ifs, rfl⟩ := comp_form h
    exact ⟨m, x, px, it, ifs, rfl, rfl⟩
/-- a comprehension on the line of its local name: the name is stored first -/
theorem assign_used (B : Base prog w hb mg mb g d) (kb : KeepAll hb h₀) (S : Stt w.params h₀ mc mm env s.heap l) (r : Rm A d) {x : Str} {px : Pos} {elt : Expr} {gens : List Comprehension} {scope : Scope} {pos spos : Pos} {l' : Ls} (X : At w hb d (mm ++ mc) A s env l')
    (h : (ev g env.kindOf n l' (.ListComp elt gens scope pos)).2) (hs : storable env.kindOf x = true) (hsw : swapsWith (.ListComp elt gens scope pos) (some (.Name x px)) spos.line env = pure true) {c : Prop} :
    wpAny (model prog w) A (exec (.Assign [.Name x px] (.ListComp elt gens scope pos) spos) env) (FinS w h₀ mc mm env (.next, l.put x ⟨(ev g env.kindOf n l' (.ListComp elt gens scope pos)).1, false⟩, c) s) (fun _ _ => False) s := by
  obtain ⟨m, y, py, it, ifs, rfl, rfl⟩ := ev_comp_form (g := g) rfl h
  obtain ⟨p, f, ee, hq, hx, hnx, hso, hlen, hT, hE⟩ := comp_parts (snd B m) X h
  rw [ee, exec_Assign_Name_used _ _ _ _ hsw]
  refine wpAny_bind (wpAny_standAt (wpAny_bind ?_))
  show wpAny _ A (do let _ ← comprehension (.ListComp elt [⟨.Name y py, it, ifs, 0⟩] scope pos) scope env _ (newList []) false (eval it env) (some (assign (.Name x px) env))) _ _ s
  refine wpAny_bind (wpAny_mono (comp_run (use := some (assign (.Name x px) env)) (Q := fun _ s' => FinS w h₀ mc mm env (.next, l.put x ⟨.list (((evI g env.kindOf m l' it).1.filter p).map f), false⟩, c) s .next s') (E := fun _ _ => False) (snd B m) X hq hx hnx hso hlen hT hE ?_) (fun _ s' hq => wpAny_pure (wpAny_pure hq)) fun _ _ e => e)
  intro D C h' tk m' ws fD fC nD nC hCD kk hn hl hr
  show wpAny _ A (assign (.Name x px) env (.ref D)) _ _ _
  have gC : ∃ o, h'.get? C = some o := let ⟨o, _, _, gg, _⟩ := hn; ⟨o, gg⟩
  have S1 := S.addr kk fC gC
  have hr' : Reps w.params ((C :: mm) ++ mc) h' (((evI g env.kindOf m l' it).1.filter p).map f) ws := hr.sub fun a ha => by
    rcases List.mem_cons.mp ha with rfl | ha
    · exact .head _
    · exact .tail _ (.tail _ ha)
  have hD : D ∉ (C :: mm) ++ mc := fun q => by
    rcases List.mem_cons.mp q with q | q
    · exact hCD q.symm
    · exact nD q
  have c1 : C ≠ env.locals := fun q => nC (List.mem_append_left _ (q ▸ S.hloc))
  have c2 : ∀ y c, env.kindOf y = some .cell → env.cells.lookup y = some c → C ≠ c := fun y c hk lc q => by
    obtain ⟨c', lc', hc, _⟩ := S.cell y hk
    rw [lc] at lc'; cases lc'
    exact nC (List.mem_append_left _ (q ▸ hc))
  refine wpAny_assign_Name (Stt.store (s := { s with heap := h', toks := tk }) (v := .list (((evI g env.kindOf m l' it).1.filter p).map f)) S1 hs (by unfold Rep; exact ⟨D, ws, rfl, hD, hl, hr'⟩) fun h2 tk2 k2 ke T => ?_)
  have hn2 : h2.Ns C m' := hn.at' fun o e => ke C o c1 c2 e
  refine ⟨m', hn2, fun h3 sb => ⟨h3, tk2, rfl, fun b o hb' e => ?_, rfl, mm, Grow.refl, T.drop hn2 sb (fun q => nC (List.mem_append_left _ q)) c1 c2⟩⟩
  have hbC : b ≠ C := by rintro rfl; rw [fC] at e; cases e
  exact sameBut_keep sb b o hbC (k2 b o (fun q => by rcases List.mem_cons.mp q with q | q; exact hbC q; exact hb' q) (kk b o e))
theorem ev_not_set {e : Expr} {l : Ls} {k : Kd} (h : (ev g k n l e).2) : (∀ elt gens scope pos, e ≠ .SetComp elt gens scope pos) ∧ (∀ a elt gens scope pos, e ≠ .DictComp a elt gens scope pos) := by
  cases n with
  | zero => exact h.elim
  | succ m => constructor <;> (intros; rintro rfl; exact h.elim)
theorem ex_assign (B : Base prog w hb mg mb g d) (kb : KeepAll hb h₀) (S : Stt w.params h₀ mc mm env s.heap l) (r : Rm A d) {x : Str} {px : Pos} {e : Expr} {spos : Pos} (h : (evS g env.kindOf n l e).2) (hs : storable env.kindOf x = true) {c : Prop} :
    wpAny (model prog w) A (exec (.Assign [.Name x px] e spos) env) (FinS w h₀ mc mm env (.next, l.put x ⟨(evS g env.kindOf n l e).1, false⟩, c) s) (fun _ _ => False) s := by
  have plain : swapsWith e (some (.Name x px)) spos.line env = pure false → wpAny (model prog w) A (exec (.Assign [.Name x px] e spos) env) (FinS w h₀ mc mm env (.next, l.put x ⟨(evS g env.kindOf n l e).1, false⟩, c) s) (fun _ _ => False) s := fun hsw =>
    wpAny_Assign_Name ((evS_ok B kb S r h).use fun v h' tk kk q => fin_store (S.go kk) (fun b o _ e => kk b o e) hs q) hsw
  rcases swaps_pure e x px spos.line env with ⟨elt, gens, scope, pos, rfl⟩ | ⟨elt, gens, scope, pos, rfl⟩ | ⟨a, elt, gens, scope, pos, rfl⟩ | hsw
  · rcases swaps_comp elt gens scope pos x px spos.line env with hsw | hsw
    · -- the value is a list: no atom, so read from the clean names
      unfold evS at h ⊢
      dsimp only at h ⊢
      split at h
      · rename_i ha
        obtain ⟨m, y, py, it, ifs, rfl, rfl⟩ := ev_comp_form (g := g) rfl h
        obtain ⟨p, f, ee, _⟩ := comp_parts (snd B m) (S.full kb r) h
        rw [ee] at ha; cases ha
      · rename_i ha
        rw [if_neg ha]
        exact assign_used B kb S r (S.cleanAt kb r) h hs hsw
    · exact plain hsw
  · unfold evS at h
    dsimp only at h
    split at h <;> exact absurd rfl ((ev_not_set h).1 _ _ _ _)
  · unfold evS at h
    dsimp only at h
    split at h <;> exact absurd rfl ((ev_not_set h).2 _ _ _ _ _)
  · exact plain hsw
end
end Mine
namespace Mine
open PySem PySem.W PyProof.Rows PySem.Calls
section
variable {prog : Program} {w : World} {hb : Heap} {mg mb : Str → Option Value} {g : Cfg} {d : Nat}
variable {n : Nat} {env : Env} {l : Ls} {mc mm : List Addr} {s : Shared} {A : Around} {h₀ : Heap}

theorem ex_return (B : Base prog w hb mg mb g d) (kb : KeepAll hb h₀) (S : Stt w.params h₀ mc mm env s.heap l) (r : Rm A d) {e : Expr} {p : Pos} (h : (ev g env.kindOf n l e).2) {c : Prop} :
    wpAny (model prog w) A (exec (.Return (some e) p) env) (FinS w h₀ mc mm env (.ret (ev g env.kindOf n l e).1, l, c) s) (fun _ _ => False) s :=
  wpAny_Return_some (((snd B n).ev (S.full kb r) h).use fun v h' tk kk q => ⟨h', tk, rfl, fun b o _ e => kk b o e, S.keep.trans kk, v, rfl, q⟩)
theorem onlyOwn_loc {x : Str} (h : onlyOwn l x = true) : ∀ y u, l.loc y = some ⟨u, true⟩ → y = x := by
  intro y u e
  unfold onlyOwn at h
  induction l with
  | nil => cases e
  | cons p r ih =>
    obtain ⟨z, t⟩ := p
    rw [List.all_cons, Bool.and_eq_true] at h
    simp only [Ls.loc] at e
    by_cases hz : z = y
    · rw [if_pos hz] at e; cases e
      subst hz
      have := h.1
      simpa using this
    · rw [if_neg hz] at e; exact ih h.2 e
theorem fin_own {x : Str} {a : Addr} {xs : List V} {ws : List Value} {s₀ : Shared} {tk : Nat} {h1 : Heap} (S : Stt w.params h₀ mc mm env s₀.heap l) (kk : KeepAll s₀.heap h1) (hn : nameOk x = true) (hk : env.kindOf x = some .local) (ho : onlyOwn l x = true)
    (fa : s₀.heap.get? a = none) (hl : h1.PlainList a (List.toArray ws)) (hr : Reps w.params ((a :: mm) ++ mc) h1 xs ws) {c : Prop} :
    wpAny (model prog w) A (storeName env x (.ref a)) (fun _ => FinS w h₀ mc mm env (.next, l.put x ⟨.list xs, true⟩, c) s₀ .next) (fun _ _ => False) { s₀ with heap := h1, toks := tk } := by
  have S1 := S.addr kk fa (by obtain ⟨o, gg⟩ := hl; exact ⟨_, gg⟩)
  have alive : ∀ b, (∃ o, s₀.heap.get? b = some o) → a ≠ b := fun b ⟨o, e⟩ q => by subst q; rw [fa] at e; cases e
  refine Stt.storeOwn (s := { s₀ with heap := h1, toks := tk }) S1 hk hn (.head _) (alive _ (S.livem _ S.hloc)) (fun y c hk lc => ?_) hl hr (onlyOwn_loc ho) fun h' tk' k2 T => ⟨h', tk', rfl, fun b o hb' e => ?_, rfl, a :: mm, fun b hb => ?_, T⟩
  · obtain ⟨c', lc', hc, _⟩ := S.cell y hk
    rw [lc] at lc'; cases lc'
    exact alive _ (S.livem _ hc)
  · exact k2 b o (fun q => by rcases List.mem_cons.mp q with q | q; subst q; rw [fa] at e; cases e; exact hb' q) (kk b o e)
  · rcases List.mem_cons.mp hb with rfl | hb
    · exact .inr fa
    · exact .inl hb
/-- the two kinds of new lists -/
theorem newCall_form {q : Option (Str × List Expr)} (h : (match q with
      | some (f, [a]) => f == ("list" : Str) && (match callV a with
        | some (r, _) => r == ("range" : Str)
        | none => false)
      | _ => false) = true) : ∃ rp as cp, q = some (("list" : Str), [Expr.Call (.Name "range" rp) as [] cp]) := by
  obtain _ | ⟨x, _ | ⟨a, _ | ⟨b, r⟩⟩⟩ := q
  · cases h
  · cases h
  · have h : (x == ("list" : Str) && (match callV a with
      | some (r, _) => r == ("range" : Str)
      | none => false)) = true := h
    rw [Bool.and_eq_true] at h
    obtain ⟨h1, h2⟩ := h
    cases ha : callV a with
    | none => rw [ha] at h2; cases h2
    | some q =>
      obtain ⟨r, args⟩ := q
      rw [ha] at h2
      obtain rfl := eq_of_beq h1
      obtain rfl := eq_of_beq (show (r == ("range" : Str)) = true from h2)
      obtain ⟨rp, cp, rfl⟩ := callV_form ha
      exact ⟨_, _, _, rfl⟩
  · cases h
theorem isNew_form {e : Expr} (h : isNew e = true) : (∃ p, e = .List [] p) ∨ ∃ fp rp as cp pos, e = .Call (.Name "list" fp) [.Call (.Name "range" rp) as [] cp] [] pos := by
  unfold isNew at h
  split at h
  · obtain rfl := List.isEmpty_iff.mp h
    exact .inl ⟨_, rfl⟩
  · obtain ⟨rp, as, cp, e⟩ := newCall_form h
    obtain ⟨fp, p, e⟩ := callV_form e
    rw [e]
    exact .inr ⟨_, _, _, _, _, rfl⟩
  · cases h
theorem ints_atoms {vs : List V} {v : V} (hv : v ∈ (rangeOf vs).1) : isAtom v = true := by
  have key : ∀ is : List Int, v ∈ is.map V.int → isAtom v = true := fun is h => by
    obtain ⟨i, _, rfl⟩ := List.mem_map.mp h; rfl
  have hv : v ∈ (rangeI (intsV vs).1).1 := hv
  revert hv
  generalize (intsV vs).1 = is
  intro hv
  match is, hv with
  | [_], hv => exact key _ hv
  | [_, _], hv => exact key _ hv
  | [_, _, _], hv => exact key _ hv
  | [], hv => cases hv
  | _ :: _ :: _ :: _ :: _, hv => cases hv
theorem ex_new (B : Base prog w hb mg mb g d) (kb : KeepAll hb h₀) (S : Stt w.params h₀ mc mm env s.heap l) (r : Rm A d) {x : Str} {px : Pos} {e : Expr} {spos : Pos} (hnew : isNew e = true) (h : (ev g env.kindOf n l.clean e).2) (hk : env.kindOf x = some .local) (hn : nameOk x = true) (ho : onlyOwn l x = true) {c : Prop} :
    wpAny (model prog w) A (exec (.Assign [.Name x px] e spos) env) (FinS w h₀ mc mm env (.next, l.put x ⟨(ev g env.kindOf n l.clean e).1, true⟩, c) s) (fun _ _ => False) s := by
  have X := S.cleanAt kb r
  rcases isNew_form hnew with ⟨p, rfl⟩ | ⟨fp, rp, as, cp, pos, rfl⟩
  · cases n with
    | zero => exact h.elim
    | succ m =>
      cases m with
      | zero => exact h.1.elim
      | succ m =>
        refine wpAny_Assign_Name (wpAny_List (spliced_nil ⟨Nat.zero_le _, ?_⟩)) rfl
        refine fin_own (ws := []) (xs := []) S keepAll_push hn hk ho (fresh_none (Nat.le_refl _)) ⟨0, get_push (by intro e; cases e)⟩ (by simp [Reps])
  · cases n with
    | zero => exact h.elim
    | succ m =>
      rw [ev_call] at h ⊢
      have e1 : callW g.fn env.kindOf l.clean "list" [.Call (.Name "range" rp) as [] cp] (evs g env.kindOf m l.clean [.Call (.Name "range" rp) as [] cp]) (fun e => evI g env.kindOf m l.clean e) = (.list (evI g env.kindOf m l.clean (.Call (.Name "range" rp) as [] cp)).1, (evI g env.kindOf m l.clean (.Call (.Name "range" rp) as [] cp)).2 ∧ l.clean.at "list" = none ∧ kindOk env.kindOf "list" = true) := by
        unfold callW
        rw [if_neg (by decide), if_pos rfl]
        exact if_pos rfl
      rw [e1] at h ⊢
      cases m with
      | zero => exact h.1.elim
      | succ m =>
        refine wpAny_Assign_Name ((tr_list_range (n := m) B (snd B m) X rfl h.1 h.2.2).use fun v h' tk kk q => ?_) rfl
        obtain ⟨a, ws, rfl, fa, na, hl, hr⟩ := q
        refine fin_own S kk hn hk ho fa hl (atoms_rep (fun v hv => ?_) hr)
        rw [evI_range, if_pos rfl] at hv
        exact ints_atoms hv
theorem ex_two (B : Base prog w hb mg mb g d) (kb : KeepAll hb h₀) (S : Stt w.params h₀ mc mm env s.heap l) (r : Rm A d) {x y : Str} {px py : Pos} {e : Expr} {spos : Pos} (h : (ev g env.kindOf n l e).2) (ha : isAtom (ev g env.kindOf n l e).1 = true) (hs : storable env.kindOf x = true) (hs2 : storable env.kindOf y = true) {c : Prop} :
    wpAny (model prog w) A (exec (.Assign [.Name x px, .Name y py] e spos) env) (FinS w h₀ mc mm env (.next, (l.put x ⟨(ev g env.kindOf n l e).1, false⟩).put y ⟨(ev g env.kindOf n l e).1, false⟩, c) s) (fun _ _ => False) s := by
  refine wpAny_Assign_two (((snd B n).ev (S.full kb r) h).use fun v h' tk kk q => ?_) rfl rfl
  refine wpAny_assign_Name (Stt.store (s := { s with heap := h', toks := tk }) (S.go kk) hs (atom_rep ha q) fun h2 tk2 k2 _ T => ?_)
  have k2' : Keep mm s.heap h2 := fun b o hb' e => k2 b o hb' (kk b o e)
  exact wpAny_assign_Name (fin_store T k2' hs2 (atom_rep (mu := mc) ha (by
    revert q
    generalize (ev g env.kindOf n l e).1 = u at ha
    intro q
    cases u <;> first | (unfold Rep at q ⊢; exact q) | cases ha)))
theorem augOk_form {op : Operator} {a b : V} (h : augOk op a b = true) : ((op = .Add ∨ op = .Sub ∨ op = .Mult) ∧ ∃ x y, a = .int x ∧ b = .int y) ∨ (op = .Add ∧ ∃ x y, a = .str x ∧ b = .str y) := by
  cases a with
  | int x => cases b with
    | int y => exact .inl ⟨of_decide_eq_true h, x, y, rfl, rfl⟩
    | _ => cases h
  | str x => cases b with
    | str y => exact .inr ⟨of_decide_eq_true h, x, y, rfl, rfl⟩
    | _ => cases h
  | _ => cases h
theorem inpl_ok {op : Operator} {a b : V} {wa wb : Value} (h : (binV op a b).2) (ha : augOk op a b = true) (ra : Rep w.params mm s.heap a wa) (rb : Rep w.params mm s.heap b wb) :
    isAtom (binV op a b).1 = true ∧ Tr prog w A (inplaceOp op wa wb) s (fun v h => Rep w.params mm h (binV op a b).1 v) := by
  rcases augOk_form ha with ⟨ho, x, y, rfl, rfl⟩ | ⟨rfl, x, y, rfl, rfl⟩
  · unfold Rep at ra rb; obtain ⟨t, rfl⟩ := ra; obtain ⟨u, rfl⟩ := rb
    have rp : ∀ (i : Int) (t : Tok) (h : Heap), Rep w.params mm h (.int i) (.int i t) := fun i t h => by unfold Rep; exact ⟨_, rfl⟩
    rcases ho with rfl | rfl | rfl
    · exact ⟨rfl, Tr.of fun R k => P.iadd_int (k _ s.heap _ (fun _ _ e => e) (rp _ _ _))⟩
    · exact ⟨rfl, Tr.of fun R k => P.isub_int (k _ s.heap _ (fun _ _ e => e) (rp _ _ _))⟩
    · exact ⟨rfl, Tr.of fun R k => P.imul_int (k _ s.heap _ (fun _ _ e => e) (rp _ _ _)) (intMulOk h)⟩
  · have h : x.length + y.length ≤ lenLid := h
    unfold Rep at ra rb; obtain ⟨t, rfl⟩ := ra; obtain ⟨u, rfl⟩ := rb
    refine ⟨rfl, Tr.of fun R k => SB.iadd (fun t' m => k _ s.heap m (fun _ _ e => e) (by show Rep _ _ _ (.str _) _; unfold Rep; exact ⟨t', by show Value.str ⟨_⟩ _ = _; simp⟩)) ?_⟩
    simp [Str.length, sizeLine_is]; unfold lenLid at h; omega
theorem ex_aug (B : Base prog w hb mg mb g d) (kb : KeepAll hb h₀) (S : Stt w.params h₀ mc mm env s.heap l) (r : Rm A d) {x : Str} {px : Pos} {op : Operator} {e : Expr} {spos : Pos} (h : (ev g env.kindOf (n + 1) l (.Name x px)).2) (h2 : (ev g env.kindOf n l e).2) (ha : augOk op (ev g env.kindOf (n + 1) l (.Name x px)).1 (ev g env.kindOf n l e).1 = true)
    (hb2 : (binV op (ev g env.kindOf (n + 1) l (.Name x px)).1 (ev g env.kindOf n l e).1).2) (hx : (l.at x).isSome = true) (hs : storable env.kindOf x = true) {c : Prop} :
    wpAny (model prog w) A (exec (.AugAssign (.Name x px) op e spos) env) (FinS w h₀ mc mm env (.next, l.put x ⟨(binV op (ev g env.kindOf (n + 1) l (.Name x px)).1 (ev g env.kindOf n l e).1).1, false⟩, c) s) (fun _ _ => False) s := by
  have X := S.full kb r
  obtain ⟨v, hv⟩ := Option.isSome_iff_exists.mp hx
  have e1 : (ev g env.kindOf (n + 1) l (.Name x px)).1 = v := by rw [ev_nameL hv]
  rw [e1] at ha hb2 ⊢
  obtain ⟨hn, wv, rd, rep⟩ := X.fm.read x v hv
  refine wpAny_AugAssign_Name ((tr_load (Q := fun u h' => u = wv ∧ h' = s.heap) X.fm.kind hn rd ⟨rfl, rfl⟩).use fun u h1 t1 k1 q => ?_)
  obtain ⟨rfl, rfl⟩ := q
  refine ((snd B n).ev (X.go (tk := t1) k1) h2).use fun b h3 t3 k3 rb => ?_
  have at' := inpl_ok (prog := prog) (A := A) (s := { s with heap := h3, toks := t3 }) hb2 ha (rep.all k3) rb
  refine at'.2.use fun z h4 t4 k4 rz => ?_
  exact fin_store (S.go (k3.trans k4)) (fun b o _ e => (k3.trans k4) b o e) hs (atom_rep at'.1 rz)
theorem ex_sub (B : Base prog w hb mg mb g d) (kb : KeepAll hb h₀) (S : Stt w.params h₀ mc mm env s.heap l) (r : Rm A d) {x : Str} {xp ip : Pos} {i e : Expr} {spos : Pos} {xs : List V} {k : Int} (h : (ev g env.kindOf n l e).2) (h2 : (ev g env.kindOf n l i).2) (hx : l.loc x = some ⟨.list xs, true⟩)
    (ej : (ev g env.kindOf n l i).1 = .int k) (ha : isAtom (ev g env.kindOf n l e).1 = true) (h0 : 0 ≤ k) (h1 : k < xs.length) (hl : xs.length ≤ lenLid) (hsw : swapsWith e (some (.Subscript (.Name x xp) i ip)) spos.line env = pure false) {c : Prop} :
    wpAny (model prog w) A (exec (.Assign [.Subscript (.Name x xp) i ip] e spos) env) (FinS w h₀ mc mm env (.next, l.put x ⟨.list (xs.set k.toNat (ev g env.kindOf n l e).1), true⟩, c) s) (fun _ _ => False) s := by
  have X := S.full kb r
  refine wpAny_Assign_Subscript (((snd B n).ev X h).use fun v h1' t1 k1 rv => ?_) hsw
  have S1 := S.go k1
  obtain ⟨hn, hk, a, ws, xs', ev', rd, ham, hal, hac, hli, hr⟩ := S1.own x _ hx
  cases ev'
  refine (tr_name (s := { s with heap := h1', toks := t1 }) (Q := fun u h' => u = .ref a ∧ h' = h1') S.kind hn rd ⟨rfl, rfl⟩).use fun u h2' t2 k2 q => ?_
  obtain ⟨rfl, rfl⟩ := q
  refine ((snd B n).ev ((X.go (tk := t1) k1).go (tk := t2) k2) h2).use fun j h3 t3 k3 rj => ?_
  rw [ej] at rj
  unfold Rep at rj
  obtain ⟨tj, rfl⟩ := rj
  have hlen := hr.length
  have S3 := S1.go k3
  obtain ⟨z, gz⟩ := hli
  refine ki_setAt (s := { s with heap := h3, toks := t3 }) (k3 a _ gz) h0 (by unfold lenLid at hl; omega) (by simp; omega) ?_
  have hl4' : (h3.update a (Obj.mapSeq (·.setIfInBounds k.toNat v))).PlainList a (List.toArray (ws.set k.toNat v)) := by
    have e1 := Heap.get?_update_self (Obj.mapSeq (·.setIfInBounds k.toNat v)) (k3 a _ gz) rfl
    have e2 : ws.toArray.setIfInBounds k.toNat v = (ws.set k.toNat v).toArray := by simp
    have e3 : Obj.mapSeq (·.setIfInBounds k.toNat v) { cls := .type "list", data := .seq ws.toArray z } = { cls := .type "list", data := .seq (ws.set k.toNat v).toArray (if (ws.set k.toNat v).toArray.size == ws.toArray.size then z else z + 1) } := by
      rw [← e2]; rfl
    exact ⟨_, e1.trans (congrArg some e3)⟩
  have sb : Heap.SameBut a h3 (h3.update a (Obj.mapSeq (·.setIfInBounds k.toNat v))) := Heap.SameBut.update ..
  refine ⟨_, t3, rfl, fun b o hb' e => sameBut_keep sb b o (by rintro rfl; exact hb' ham) (k3 b o (k1 b o e)), rfl, mm, Grow.refl, ?_⟩
  exact Stt.write (s := { s with heap := h3, toks := t3 }) S3 hx (rd.keep k3) sb hl4' (reps_set (atom_rep ha (rv.all k3)) _ (hr.all k3))
theorem ex_app (B : Base prog w hb mg mb g d) (kb : KeepAll hb h₀) (S : Stt w.params h₀ mc mm env s.heap l) (r : Rm A d) {x : Str} {xp ap tp : Pos} {e : Expr} {spos : Pos} {xs : List V} (h : (ev g env.kindOf n l e).2) (hx : l.loc x = some ⟨.list xs, true⟩)
    (ha : isAtom (ev g env.kindOf n l e).1 = true) (hl : xs.length < lenLid) (hst : ∀ y q, e ≠ .Starred y q) (hline : (ap.endLine == tp.line) = true) {c : Prop} :
    wpAny (model prog w) A (exec (.Expr (.Call (.Attribute (.Name x xp) "append" ap) [e] [] tp) spos) env) (FinS w h₀ mc mm env (.next, l.put x ⟨.list (xs ++ [(ev g env.kindOf n l e).1]), true⟩, c) s) (fun _ _ => False) s := by
  have X := S.full kb r
  cases n with
  | zero => exact h.elim
  | succ m =>
    have hes : (evs g env.kindOf (m + 1 + 1) l [e]).2 ∧ (evs g env.kindOf (m + 1 + 1) l [e]).1 = [(ev g env.kindOf (m + 1) l e).1] := by
      rw [evs_cons hst]; exact ⟨⟨h, trivial⟩, rfl⟩
    refine wpAny_Expr_any (wpAny_Call_method_lateS (o := .Name x xp) (args := [e]) rfl ?_ hline ?_) (by unfold interactive; rw [S.kind]; rfl) rfl
    · have := ((snd B (m + 1 + 1)).evs (pos := tp) X hes.1).1
      rw [Bool.and_eq_true, Bool.and_eq_true]
      refine ⟨⟨List.all_eq_true.mpr fun a ha => by rw [this a ha]; rfl, rfl⟩, ?_⟩
      rfl
    · obtain ⟨hn, hk, a, ws, xs', ev', rd, ham, hal, hac, hli, hr⟩ := S.own x _ hx
      cases ev'
      refine (tr_name (Q := fun u h' => u = .ref a ∧ h' = s.heap) S.kind hn rd ⟨rfl, rfl⟩).use fun u h1 t1 k1 q => ?_
      obtain ⟨rfl, rfl⟩ := q
      obtain ⟨z, gz⟩ := hli
      refine ⟨"list", "list.append", PySem.F.plainAttrs_list, slot_list_append, type_list_append, ⟨_, gz, rfl⟩, fun b hb' => (by cases hb'; exact ⟨_, gz, rfl⟩), ?_⟩
      have X1 := X.go (tk := t1) k1
      have hs := (snd B (m + 1 + 1)).evs (pos := tp) X1 hes.1
      have hlen := hr.length
      refine Calls.callWith_builtin (by
        rw [Bool.eq_false_iff]; intro q
        obtain ⟨a, ha, e⟩ := List.any_eq_true.mp q
        rw [hs.1 a ha] at e; cases e) (evalArgs_of hs.1 (hs.2.use fun vs h2 t2 k2 rs => ?_))
      rw [hes.2] at rs
      obtain ⟨wv, vs', rfl, rv, rn⟩ := reps_cons rs
      cases reps_nil rn
      show wpAny _ A (call (.builtin "list.append") [.ref a, wv]) _ _ _
      have S2 := S.go (k1.trans k2)
      refine wpAny_list_append_plain (s := { s with heap := h2, toks := t2 }) ⟨z, k2 _ _ gz⟩ (fun h3 hl3 sb => ?_) (by simp [sizeLine_is]; unfold lenLid at hl; omega)
      refine ⟨h3, t2, rfl, fun b o hb' e => sameBut_keep sb b o (by rintro rfl; exact hb' ham) (k2 b o (k1 b o e)), rfl, mm, Grow.refl, ?_⟩
      have hl4 : h3.PlainList a (List.toArray (ws ++ [wv])) := by
        have : ws.toArray.push wv = (ws ++ [wv]).toArray := by simp
        rw [← this]; exact hl3
      exact Stt.write (s := { s with heap := h2, toks := t2 }) S2 hx (rd.keep (k1.trans k2)) sb hl4 ((hr.all (k1.trans k2)).append (reps_one (atom_rep ha rv)))
end
end Mine
namespace Mine
open PySem PySem.W PyProof.Rows PySem.Calls
section
variable {prog : Program} {w : World} {hb : Heap} {mg mb : Str → Option Value} {g : Cfg} {d : Nat}
variable {n : Nat} {env : Env} {l : Ls} {mc mm : List Addr} {s : Shared} {A : Around} {h₀ : Heap}

theorem swaps_sub (e o i : Expr) (p : Pos) (line : Nat) (env : Env) : swapsWith e (some (.Subscript o i p)) line env = pure false := by
  cases e <;> rfl
theorem atom_keep {P : Params} {mu mu' : List Addr} {h h' : Heap} {v : V} {wv : Value} (ha : isAtom v = true) (r : Rep P mu h v wv) : Rep P mu' h' v wv := by
  cases v <;> first | (unfold Rep at r ⊢; exact r) | cases ha
theorem put_swap (l : Ls) {x y : Str} (hxy : x ≠ y) (a b : Loc) (z : Str) : ((l.put y b).put x a).loc z = ((l.put x a).put y b).loc z := by
  rw [loc_put, loc_put, loc_put, loc_put]
  by_cases h1 : z = x
  · rw [if_pos h1, if_pos h1]
    by_cases h2 : z = y
    · exact absurd (h1.symm.trans h2) hxy
    · rw [if_neg h2]
  · rw [if_neg h1, if_neg h1]
theorem ex_tup (B : Base prog w hb mg mb g d) (kb : KeepAll hb h₀) (S : Stt w.params h₀ mc mm env s.heap l) (r : Rm A d) {x y : Str} {px py tp : Pos} {k : Nat} {e : Expr} {spos : Pos} {a b : V} (h : (ev g env.kindOf n l e).2) (ee : (ev g env.kindOf n l e).1 = .tup [a, b]) (hc : constTup e = false)
    (ha : isAtom a = true) (hb' : isAtom b = true) (hs : storable env.kindOf x = true) (hs2 : storable env.kindOf y = true) (hxy : x ≠ y) {c : Prop} :
    wpAny (model prog w) A (exec (.Assign [.Tuple [.Name x px, .Name y py] k tp] e spos) env) (FinS w h₀ mc mm env (.next, (l.put x ⟨a, false⟩).put y ⟨b, false⟩, c) s) (fun _ _ => False) s := by
  have hsole : swapsWithSole [.Tuple [.Name x px, .Name y py] k tp] e spos.line env = pure false := by
    unfold swapsWithSole
    cases e <;> rfl
  have X := S.full kb r
  have ev1 := (snd B n).ev X h
  rw [ee] at ev1
  rcases swap_cases (k := k) (px := px) (py := py) (tp := tp) (x := x) (y := y) S.kind hc with hw | hw
  · refine Assign_Tuple (ev1.use fun v h1 t1 k1 q => ?_) hsole hw
    unfold Rep at q
    obtain ⟨t, ws, rfl, _, ht, hr⟩ := q
    obtain ⟨w1, ws1, rfl, r1, hr1⟩ := reps_cons hr
    obtain ⟨w2, ws2, rfl, r2, hr2⟩ := reps_cons hr1
    cases reps_nil hr2
    refine wpAny_assign_Tuple r.handled ht rfl rfl fun h2 he => ?_
    have k2 : KeepAll h1 h2 := fun b o e => he b o (Nat.ne_of_lt (Heap.lt_size e)) e
    show wpAny _ A (assignInOrder [assign (.Name x px) env, assign (.Name y py) env] [w1, w2]) _ _ _
    refine wpAny_bind (wpAny_holding (wpAny_assign_Name (Stt.store (s := { s with heap := h2, toks := t1 }) (S.go (k1.trans k2)) hs (atom_keep ha r1) fun h3 t3 k3 _ T => ?_)))
    refine wpAny_bind (wpAny_holding (wpAny_assign_Name (Stt.store (s := { s with heap := h3, toks := t3 }) T hs2 (atom_keep hb' r2) fun h4 t4 k4 _ T2 => ?_)))
    exact wpAny_pure ⟨h4, t4, rfl, fun b o hb' e => k4 b o hb' (k3 b o hb' ((k1.trans k2) b o e)), rfl, mm, Grow.refl, T2⟩
  · refine Assign_Tuple_swapped (names := [x, y]) (ev1.use fun v h1 t1 k1 q => ?_) hsole hw
    unfold Rep at q
    obtain ⟨t, ws, rfl, _, ht, hr⟩ := q
    obtain ⟨w1, ws1, rfl, r1, hr1⟩ := reps_cons hr
    obtain ⟨w2, ws2, rfl, r2, hr2⟩ := reps_cons hr1
    cases reps_nil hr2
    refine unpackItems_tuple (items := [w1, w2].toArray) r.handled ht fun h2 he => ?_
    have k2 : KeepAll h1 h2 := fun b o e => he b o (Nat.ne_of_lt (Heap.lt_size e)) e
    show wpAny _ A (assignInOrder [bindName env y, bindName env x] [w2, w1]) _ _ _
    refine wpAny_bind (wpAny_holding (wpAny_bindName (Stt.store (s := { s with heap := h2, toks := t1 }) (S.go (k1.trans k2)) hs2 (atom_keep hb' r2) fun h3 t3 k3 _ T => ?_)))
    refine wpAny_bind (wpAny_holding (wpAny_bindName (Stt.store (s := { s with heap := h3, toks := t3 }) T hs (atom_keep ha r1) fun h4 t4 k4 _ T2 => ?_)))
    exact wpAny_pure ⟨h4, t4, rfl, fun b o hb' e => k4 b o hb' (k3 b o hb' ((k1.trans k2) b o e)), rfl, mm, Grow.refl, T2.same (fun z => (put_swap l hxy ⟨a, false⟩ ⟨b, false⟩ z).symm) (put_nodup (put_nodup S.nd))⟩
end
end Mine
namespace Mine
open PySem PySem.W PyProof.Rows PySem.Calls
section
variable {prog : Program} {w : World} {hb : Heap} {mg mb : Str → Option Value} {g : Cfg} {d : Nat}
variable {n : Nat} {env : Env} {l : Ls} {mc mm : List Addr} {s : Shared} {A : Around} {h₀ : Heap}

theorem FinS.mk {r : Fl × Ls × Prop} {r' : Fl × Ls × Prop} {f : Flow} {s' : Shared} (h : FinS w h₀ mc mm env r s f s') (e1 : r.1 = r'.1) (e2 : r.2.1 = r'.2.1) : FinS w h₀ mc mm env r' s f s' := by
  unfold FinS at h ⊢
  rw [← e1, ← e2]; exact h
/-- behind a step that kept the state -/
theorem FinS.after {r : Fl × Ls × Prop} {f : Flow} {s' : Shared} {mm1 : List Addr} {h1 : Heap} {tk : Nat} (k1 : Keep mm s.heap h1) (g1 : Grow mm s.heap mm1) (h : FinS w h₀ mc mm1 env r { s with heap := h1, toks := tk } f s') : FinS w h₀ mc mm env r s f s' := by
  obtain ⟨h2, t2, rfl, k2, q⟩ := h
  refine ⟨h2, t2, rfl, k1.trans' g1 k2, ?_⟩
  revert q
  cases r.1 with
  | next => exact fun ⟨e, mm2, g2, T⟩ => ⟨e, mm2, Grow.trans k1 g1 g2, T⟩
  | ret v => exact fun q => q
theorem execs_ok (B : Base prog w hb mg mb g d) (X : Sx prog w hb g d n) (kb : KeepAll hb h₀) (S : Stt w.params h₀ mc mm env s.heap l) (r : Rm A d) {ss : List Stmt} (h : (exs g env.kindOf (n + 1) l ss).2.2) :
    wpAny (model prog w) A (execs ss env) (FinS w h₀ mc mm env (exs g env.kindOf (n + 1) l ss) s) (fun _ _ => False) s := by
  cases ss with
  | nil => exact wpAny_execs_nil ⟨s.heap, s.toks, rfl, fun _ _ _ e => e, rfl, mm, Grow.refl, S⟩
  | cons st rest =>
    rw [exs_cons] at h ⊢
    refine wpAny_execs_cons (wpAny_mono (X.ex (st := st) kb S r (by
      revert h
      generalize ex g env.kindOf n l st = q
      obtain ⟨f, l', c⟩ := q
      cases f with
      | next => exact fun h : c ∧ _ => h.1
      | ret v => exact fun h : c => h)) (fun f s' hf => ?_) fun _ _ f => f.elim)
    revert h hf
    generalize ex g env.kindOf n l st = q
    obtain ⟨fl, l', c⟩ := q
    intro h hf
    cases fl with
    | next =>
      obtain ⟨h1, t1, rfl, k1, rfl, mm1, g1, T⟩ := hf
      have h : c ∧ (exs g env.kindOf n l' rest).2.2 := h
      exact wpAny_mono (X.exs (s := { s with heap := h1, toks := t1 }) kb T r h.2) (fun f s' q => FinS.after k1 g1 (q.mk rfl rfl)) fun _ _ f => f.elim
    | ret v =>
      obtain ⟨h1, t1, rfl, k1, kk, wv, rfl, rp⟩ := hf
      exact ⟨h1, t1, rfl, k1, kk, wv, rfl, rp⟩
theorem ex_if (B : Base prog w hb mg mb g d) (X : Sx prog w hb g d n) (kb : KeepAll hb h₀) (S : Stt w.params h₀ mc mm env s.heap l) (r : Rm A d) {t : Expr} {a b : List Stmt} {p : Pos} (h : (ex g env.kindOf (n + 1) l (.If t a b p)).2.2) :
    wpAny (model prog w) A (exec (.If t a b p) env) (FinS w h₀ mc mm env (ex g env.kindOf (n + 1) l (.If t a b p)) s) (fun _ _ => False) s := by
  rw [ex_if0] at h ⊢
  refine wpAny_If ?_
  by_cases ht : (evT g env.kindOf n l t).1 = true
  · rw [if_pos ht] at h
    refine ((snd B n).evT (S.full kb r) h.1).use fun c h1 t1 k1 e => ?_
    subst e
    rw [if_pos ht, if_pos ht]
    exact wpAny_mono (X.exs (s := { s with heap := h1, toks := t1 }) kb (S.go k1) r h.2) (fun f s' q => FinS.after (fun b o _ e => k1 b o e) Grow.refl (q.mk rfl rfl)) fun _ _ f => f.elim
  · rw [if_neg ht] at h
    refine ((snd B n).evT (S.full kb r) h.1).use fun c h1 t1 k1 e => ?_
    subst e
    rw [if_neg ht, if_neg ht]
    exact wpAny_mono (X.exs (s := { s with heap := h1, toks := t1 }) kb (S.go k1) r h.2) (fun f s' q => FinS.after (fun b o _ e => k1 b o e) Grow.refl (q.mk rfl rfl)) fun _ _ f => f.elim
theorem ex_while (B : Base prog w hb mg mb g d) (X : Sx prog w hb g d n) (kb : KeepAll hb h₀) (S : Stt w.params h₀ mc mm env s.heap l) (r : Rm A d) {t : Expr} {body : List Stmt} {p : Pos} (h : (ex g env.kindOf (n + 1) l (.While t body [] p)).2.2) :
    wpAny (model prog w) A (exec (.While t body [] p) env) (FinS w h₀ mc mm env (ex g env.kindOf (n + 1) l (.While t body [] p)) s) (fun _ _ => False) s := by
  rw [ex_while0] at h ⊢
  refine wpAny_While ?_
  generalize hN : (100000 : Nat) = N at h ⊢
  generalize hr : whileV (fun l => evT g env.kindOf n l t) (fun l => exs g env.kindOf n l body) N l = fin at h ⊢
  let I : Nat → Shared → Prop := fun k s' => ∃ l' mm' h' tk, s' = { s with heap := h', toks := tk } ∧ Keep mm s.heap h' ∧ Grow mm s.heap mm' ∧ Stt w.params h₀ mc mm' env h' l' ∧
    (whileV (fun l => evT g env.kindOf n l t) (fun l => exs g env.kindOf n l body) k l').2.2 ∧ (whileV (fun l => evT g env.kindOf n l t) (fun l => exs g env.kindOf n l body) k l').1 = fin.1 ∧ (whileV (fun l => evT g env.kindOf n l t) (fun l => exs g env.kindOf n l body) k l').2.1 = fin.2.1
  refine codeAny_whileLoop I ?_ N ⟨l, mm, s.heap, s.toks, rfl, fun _ _ _ e => e, Grow.refl, S, by rw [hr]; exact h, by rw [hr], by rw [hr]⟩
  rintro k _ ⟨l', mm', h', tk, rfl, kk, gr, T, hc, e1, e2⟩
  cases k with
  | zero => exact hc.elim
  | succ k =>
    rw [whileV_succ] at hc e1 e2
    by_cases ht : (evT g env.kindOf n l' t).1 = true
    · rw [if_pos ht] at hc e1 e2
      obtain ⟨htc, hc⟩ := hc
      dsimp only at e1 e2
      have hbc : (exs g env.kindOf n l' body).2.2 := by
        revert hc
        generalize exs g env.kindOf n l' body = q
        obtain ⟨f, l2, c⟩ := q
        cases f with
        | next => exact fun h : c ∧ _ => h.1
        | ret v => exact fun h : c => h
      refine ((snd B n).evT (T.full (s := { s with heap := h', toks := tk }) kb r) htc).use fun c h1 t1 k1 e => ?_
      subst e
      rw [if_pos ht]
      have kk1 : Keep mm s.heap h1 := fun b o hb e => k1 b o (kk b o hb e)
      refine wpAny_mono (X.exs (s := { s with heap := h1, toks := t1 }) kb (T.go (s := { s with heap := h', toks := tk }) k1) r hbc) (fun f s' hf => ?_) fun _ _ f => f.elim
      have all := And.intro hc (And.intro e1 (And.intro e2 hf))
      clear hc e1 e2 hf hbc
      revert all
      generalize exs g env.kindOf n l' body = q
      obtain ⟨fl, l2, c2⟩ := q
      rintro ⟨hc, e1, e2, hf⟩
      have gr1 : Grow mm s.heap mm' := gr
      cases fl with
      | next =>
        obtain ⟨h2, t2, rfl, k2, rfl, mm2, g2, T2⟩ := hf
        have hc : c2 ∧ (whileV (fun l => evT g env.kindOf n l t) (fun l => exs g env.kindOf n l body) k l2).2.2 := hc
        exact ⟨k, Nat.lt_succ_self _, l2, mm2, h2, t2, rfl, kk1.trans' gr1 k2, Grow.trans kk1 gr1 g2, T2, hc.2, e1, e2⟩
      | ret v =>
        obtain ⟨h2, t2, rfl, k2, kh, wv, rfl, rp⟩ := hf
        exact ⟨h2, t2, rfl, kk1.trans' gr1 k2, by rw [← e1]; exact ⟨kh, wv, rfl, rp⟩⟩
    · rw [if_neg ht] at hc e1 e2
      refine ((snd B n).evT (T.full (s := { s with heap := h', toks := tk }) kb r) hc).use fun c h1 t1 k1 e => ?_
      subst e
      rw [if_neg ht]
      refine wpAny_execs_nil ⟨h1, t1, rfl, fun b o hb e => k1 b o (kk b o hb e), ?_⟩
      rw [← e1, ← e2]
      exact ⟨rfl, mm', gr, T.go (s := { s with heap := h', toks := tk }) k1⟩
end
end Mine
namespace Mine
open PySem PySem.W PyProof.Rows PySem.Calls
section
variable {prog : Program} {w : World} {hb : Heap} {mg mb : Str → Option Value} {g : Cfg} {d : Nat}
variable {n : Nat} {env : Env} {l : Ls} {mc mm : List Addr} {s : Shared} {A : Around} {h₀ : Heap}

theorem Stt.guard (S : Stt w.params h₀ mc mm env s.heap l) {h : Heap} {a : Addr} (kk : KeepAll s.heap h) (ha : s.heap.get? a = none) (hl : ∃ o, h.get? a = some o) : Stt w.params h₀ (a :: mc) mm env h l := by
  have hmu : ∀ b, b ∈ mm ++ (a :: mc) → b ∈ mm ++ mc ∨ s.heap.get? b = none := fun b hb => by
    rcases List.mem_append.mp hb with hb | hb
    · exact .inl (List.mem_append_left _ hb)
    · rcases List.mem_cons.mp hb with rfl | hb
      · exact .inr ha
      · exact .inl (List.mem_append_right _ hb)
  have T := S.go kk
  exact { T with
    livec := fun b hb => by
      rcases List.mem_cons.mp hb with rfl | hb
      · exact hl
      · exact T.livec b hb
    apart := fun b hb q => by
      rcases List.mem_cons.mp q with rfl | q
      · obtain ⟨o, e⟩ := S.livem b hb; rw [ha] at e; cases e
      · exact S.apart b hb q
    plain := fun x v e => by obtain ⟨hn, wv, rd, rp⟩ := S.plain x v e; exact ⟨hn, wv, rd.keep kk, (rp.more hmu).all kk⟩
    own := fun x v e => by obtain ⟨hn, hk, a', ws, xs, ev, rd, ha', hne, hc, hl', rp⟩ := S.own x v e; exact ⟨hn, hk, a', ws, xs, ev, rd.keep kk, ha', hne, hc, plain_keep hl' (fun o => kk a' o), (rp.more hmu).all kk⟩ }
/-- a guarded iterator goes on -/
theorem Stt.poke {I : Addr} {h h' : Heap} (S : Stt w.params h₀ (I :: mc) mm env h l) (hI : h₀.get? I = none) (k : ∀ b o, b ≠ I → h.get? b = some o → h'.get? b = some o) (lv : ∃ o, h'.get? I = some o) : Stt w.params h₀ (I :: mc) mm env h' l := by
  have ne : ∀ a ∈ mm, a ≠ I := fun a ha q => S.apart a ha (q ▸ .head _)
  have rdk : ∀ y wv', Rd env h y wv' → Rd env h' y wv' := fun y wv' rd => by
    rcases rd with ⟨e, m', hm2, hv⟩ | ⟨e, c, lc, o, gg, dd⟩
    · exact .inl ⟨e, m', hm2.at' fun o => k _ o (ne _ S.hloc), hv⟩
    · refine .inr ⟨e, c, lc, o, k c o ?_ gg, dd⟩
      rcases e with e | e
      · obtain ⟨c', lc', hc, _⟩ := S.cell y e
        rw [lc] at lc'; cases lc'; exact ne _ hc
      · exact absurd e (S.free y)
  have kr : ∀ u uw, Rep w.params (mm ++ (I :: mc)) h u uw → Rep w.params (mm ++ (I :: mc)) h' u uw := fun u uw r => r.keep fun b o hb e => k b o (fun q => hb (q ▸ List.mem_append_right _ (.head _))) e
  have krs : ∀ u uw, Reps w.params (mm ++ (I :: mc)) h u uw → Reps w.params (mm ++ (I :: mc)) h' u uw := fun u uw r => r.keep fun b o hb e => k b o (fun q => hb (q ▸ List.mem_append_right _ (.head _))) e
  exact { S with
    keep := fun b o e => k b o (by rintro rfl; rw [hI] at e; cases e) (S.keep b o e)
    livem := fun a ha => by obtain ⟨o, e⟩ := S.livem a ha; exact ⟨o, k a o (ne a ha) e⟩
    livec := fun a ha => by
      by_cases e : a = I
      · subst e; exact lv
      · obtain ⟨o, e2⟩ := S.livec a ha; exact ⟨o, k a o e e2⟩
    ns := by obtain ⟨m, hm⟩ := S.ns; exact ⟨m, hm.at' fun o => k _ o (ne _ S.hloc)⟩
    cell := fun y hy => by obtain ⟨c, e, hc, hne, v0, o, gg, dd⟩ := S.cell y hy; exact ⟨c, e, hc, hne, v0, o, k c o (ne _ hc) gg, dd⟩
    plain := fun y u e => by obtain ⟨h1, wv', rd, rp⟩ := S.plain y u e; exact ⟨h1, wv', rdk y wv' rd, kr _ _ rp⟩
    own := fun y u e => by obtain ⟨h1, h2, a, ws, xs, ev, rd, ha, hne', hc', hl, rp⟩ := S.own y u e; exact ⟨h1, h2, a, ws, xs, ev, rdk y _ rd, ha, hne', hc', plain_keep hl (fun o => k a o (ne a ha)), krs _ _ rp⟩ }
/-- a guarded iterator is done -/
theorem Stt.release {I : Addr} {h h' : Heap} (S : Stt w.params h₀ (I :: mc) mm env h l) (hI : h₀.get? I = none) (k : ∀ b o, b ≠ I → h.get? b = some o → h'.get? b = some o) (lv : I ∉ mc) : Stt w.params h₀ mc mm env h' l := by
  have sub : ∀ b, b ∈ mm ++ mc → b ∈ mm ++ (I :: mc) := fun b hb => by
    rcases List.mem_append.mp hb with hb | hb
    · exact List.mem_append_left _ hb
    · exact List.mem_append_right _ (.tail _ hb)
  have ne : ∀ a ∈ mm, a ≠ I := fun a ha q => S.apart a ha (q ▸ .head _)
  have rdk : ∀ y wv', Rd env h y wv' → Rd env h' y wv' := fun y wv' rd => by
    rcases rd with ⟨e, m', hm2, hv⟩ | ⟨e, c, lc, o, gg, dd⟩
    · exact .inl ⟨e, m', hm2.at' fun o => k _ o (ne _ S.hloc), hv⟩
    · refine .inr ⟨e, c, lc, o, k c o ?_ gg, dd⟩
      rcases e with e | e
      · obtain ⟨c', lc', hc, _⟩ := S.cell y e
        rw [lc] at lc'; cases lc'; exact ne _ hc
      · exact absurd e (S.free y)
  have kr : ∀ u uw, Rep w.params (mm ++ (I :: mc)) h u uw → Rep w.params (mm ++ mc) h' u uw := fun u uw r => (r.keep fun b o hb e => k b o (fun q => hb (q ▸ List.mem_append_right _ (.head _))) e).sub sub
  have krs : ∀ u uw, Reps w.params (mm ++ (I :: mc)) h u uw → Reps w.params (mm ++ mc) h' u uw := fun u uw r => (r.keep fun b o hb e => k b o (fun q => hb (q ▸ List.mem_append_right _ (.head _))) e).sub sub
  exact { S with
    keep := fun b o e => k b o (by rintro rfl; rw [hI] at e; cases e) (S.keep b o e)
    livem := fun a ha => by obtain ⟨o, e⟩ := S.livem a ha; exact ⟨o, k a o (ne a ha) e⟩
    livec := fun a ha => by obtain ⟨o, e2⟩ := S.livec a (.tail _ ha); exact ⟨o, k a o (by rintro rfl; exact lv ha) e2⟩
    apart := fun b hb q => S.apart b hb (.tail _ q)
    ns := by obtain ⟨m, hm⟩ := S.ns; exact ⟨m, hm.at' fun o => k _ o (ne _ S.hloc)⟩
    cell := fun y hy => by obtain ⟨c, e, hc, hne, v0, o, gg, dd⟩ := S.cell y hy; exact ⟨c, e, hc, hne, v0, o, k c o (ne _ hc) gg, dd⟩
    plain := fun y u e => by obtain ⟨h1, wv', rd, rp⟩ := S.plain y u e; exact ⟨h1, wv', rdk y wv' rd, kr _ _ rp⟩
    own := fun y u e => by obtain ⟨h1, h2, a, ws, xs, ev, rd, ha, hne', hc', hl, rp⟩ := S.own y u e; exact ⟨h1, h2, a, ws, xs, ev, rdk y _ rd, ha, hne', hc', plain_keep hl (fun o => k a o (ne a ha)), krs _ _ rp⟩ }
theorem ex_for (B : Base prog w hb mg mb g d) (X : Sx prog w hb g d n) (kb : KeepAll hb h₀) (S : Stt w.params h₀ mc mm env s.heap l) (r : Rm A d) {x : Str} {px : Pos} {it : Expr} {body : List Stmt} {p : Pos} (h : (ex g env.kindOf (n + 1) l (.For (.Name x px) it body [] p)).2.2) :
    wpAny (model prog w) A (exec (.For (.Name x px) it body [] p) env) (FinS w h₀ mc mm env (ex g env.kindOf (n + 1) l (.For (.Name x px) it body [] p)) s) (fun _ _ => False) s := by
  rw [ex_for0] at h ⊢
  obtain ⟨hq, hc, hs⟩ := h
  have XI := (snd B n).evI (S.cleanAt kb r) hq
  refine wpAny_For (XI.2.use fun xv h1 t1 k1 hit => ?_) XI.1
  generalize (evI g env.kindOf n l.clean it).1 = vs at hit hc ⊢
  refine hit A _ _ _ r.handled (fun _ _ e => e) fun o fp Pd St tk W h0 hI hfp hv => ?_
  dsimp only at W h0 hI hfp ⊢
  generalize hIe : h1.objs.size = I at W h0 hI hfp ⊢
  have fI : h1.get? I = none := fresh_none (by rw [← hIe]; exact Nat.le_refl _)
  let F : Ls → V → Fl × Ls × Prop := fun l v => ((exs g env.kindOf n (l.put x ⟨v, false⟩) body).1, (exs g env.kindOf n (l.put x ⟨v, false⟩) body).2.1, (exs g env.kindOf n (l.put x ⟨v, false⟩) body).2.2 ∧ isAtom v = true)
  generalize hr : loopV F l vs = fin at hc ⊢
  have sI : s.heap.get? I = none := by
    cases q : s.heap.get? I with
    | none => rfl
    | some o => have := k1 _ _ q; rw [fI] at this; cases this
  have hI0 : h₀.get? I = none := by
    cases q : h₀.get? I with
    | none => rfl
    | some o => have := S.keep _ _ q; rw [sI] at this; cases this
  have aI : ∃ o', (h1.push o).get? I = some o' := by obtain ⟨o', gg, _⟩ := hI _ _ h0; exact ⟨o', gg⟩
  have S0 : Stt w.params h₀ (I :: mc) mm env (h1.push o) l := S.guard (k1.trans keepAll_push) sI aI
  let Inv : Nat → Shared → Prop := fun k s' => ∃ i l' mm' h' tk, s' = { s with heap := h', toks := tk } ∧ i ≤ vs.length ∧ k = vs.length - i ∧ St i h' ∧ Keep (I :: mm) (h1.push o) h' ∧ Grow mm (h1.push o) mm' ∧ Stt w.params h₀ (I :: mc) mm' env h' l' ∧
    (loopV F l' (vs.drop i)).2.2 ∧ (loopV F l' (vs.drop i)).1 = fin.1 ∧ (loopV F l' (vs.drop i)).2.1 = fin.2.1
  have keepS : ∀ {h' : Heap}, Keep (I :: mm) (h1.push o) h' → Keep mm s.heap h' := fun kk b o' hb e => kk b o' (fun q => by rcases List.mem_cons.mp q with q | q; subst q; rw [sI] at e; cases e; exact hb q) (keepAll_push b o' (k1 b o' e))
  have growS : ∀ {mm' : List Addr}, Grow mm (h1.push o) mm' → Grow mm s.heap mm' := fun gr a ha => by
    rcases gr a ha with q | q
    · exact .inl q
    · refine .inr ?_
      cases e : s.heap.get? a with
      | none => rfl
      | some o' => have := keepAll_push (o := o) a o' (k1 a o' e); rw [q] at this; cases this
  have fpno : ∀ {mm' : List Addr}, Grow mm (h1.push o) mm' → I ∉ mm' → ∀ b ∈ fp, b ∉ mm' := fun gr hIm b hb' q => by
    rcases hfp b hb' with rfl | ⟨⟨o', e⟩, hn⟩
    · exact hIm q
    · rcases gr b q with q | q
      · exact hn (List.mem_append_left _ q)
      · have := keepAll_push (o := o) b o' e; rw [q] at this; cases this
  refine codeAny_forLoop Inv ?_ vs.length ⟨0, l, mm, h1.push o, tk, rfl, Nat.zero_le _, rfl, h0, fun _ _ _ e => e, Grow.refl, S0, by rw [List.drop_zero, hr]; exact hc, by rw [List.drop_zero, hr], by rw [List.drop_zero, hr]⟩ (fun _ => rfl)
  rintro k _ ⟨i, l', mm', h', tk', rfl, hi, rfl, st, kk, gr, T, hcc, e1, e2⟩
  have hIm : ∀ {mm2 : List Addr} {h2 : Heap} {l2 : Ls}, Stt w.params h₀ (I :: mc) mm2 env h2 l2 → I ∉ mm2 := fun T q => T.apart I q (.head _)
  by_cases hlt : i < vs.length
  · refine W.item i _ _ _ hlt st fun v h2 tk2 hvv st2 k2 => ?_
    obtain ⟨u, eu, ru⟩ := hv i v hlt hvv
    have k2' : ∀ b o', b ≠ I → h'.get? b = some o' → h2.get? b = some o' := fun b o' hb' e => k2 b o' (fun q => hb' (List.mem_singleton.mp q)) e
    have ed : vs.drop i = u :: vs.drop (i + 1) := by
      rw [List.drop_eq_getElem_cons hlt]
      rw [List.getElem?_eq_getElem hlt] at eu
      rw [Option.some.inj eu]
    rw [ed] at hcc e1 e2
    rw [loopV_cons] at hcc e1 e2
    have T2 := T.poke hI0 k2' (by obtain ⟨o', gg, _⟩ := hI _ _ st2; exact ⟨o', gg⟩)
    have hat : isAtom u = true := by
      revert hcc
      dsimp only [F]
      generalize exs g env.kindOf n (l'.put x ⟨u, false⟩) body = q
      obtain ⟨f, l2, c⟩ := q
      cases f with
      | next => exact fun h : (c ∧ _) ∧ _ => h.1.2
      | ret v => exact fun h : c ∧ _ => h.2
    have hbc : (exs g env.kindOf n (l'.put x ⟨u, false⟩) body).2.2 := by
      revert hcc
      dsimp only [F]
      generalize exs g env.kindOf n (l'.put x ⟨u, false⟩) body = q
      obtain ⟨f, l2, c⟩ := q
      cases f with
      | next => exact fun h : (c ∧ _) ∧ _ => h.1.1
      | ret v => exact fun h : c ∧ _ => h.1
    refine wpAny_assign_Name (Stt.store (s := { s with heap := h2, toks := tk2 }) T2 hs (atom_keep hat ru) fun h3 t3 k3 _ T3 => ?_)
    refine wpAny_mono (X.exs (s := { s with heap := h3, toks := t3 }) kb T3 r hbc) (fun f s' hf => ?_) fun _ _ f => f.elim
    have nIm := hIm T
    have kb1 : ∀ b o', b ∉ I :: mm → (h1.push o).get? b = some o' → h3.get? b = some o' ∧ b ∉ mm' := fun b o' hb' e => by
      have hbm : b ∉ mm' := fun q => by
        rcases gr b q with q | q
        · exact hb' (.tail _ q)
        · rw [e] at q; cases q
      exact ⟨k3 b o' hbm (k2' b o' (fun q => hb' (q ▸ .head _)) (kk b o' hb' e)), hbm⟩
    have all := And.intro hf (And.intro hcc (And.intro e1 e2))
    clear hcc e1 e2 hf hbc
    revert all
    dsimp only [F]
    generalize exs g env.kindOf n (l'.put x ⟨u, false⟩) body = q
    obtain ⟨fl, l2, c2⟩ := q
    rintro ⟨hf, hcc, e1, e2⟩
    cases fl with
    | next =>
      obtain ⟨h4, t4, rfl, k4, rfl, mm2, g2, T4⟩ := hf
      have hcc : (c2 ∧ isAtom u = true) ∧ (loopV F l2 (vs.drop (i + 1))).2.2 := hcc
      refine ⟨vs.length - (i + 1), Nat.sub_lt_sub_left hlt (Nat.lt_succ_self _), i + 1, l2, mm2, h4, t4, rfl, hlt, rfl, ?_, ?_, ?_, T4, hcc.2, e1, e2⟩
      · exact W.frame _ _ _ st2 fun b hb' o' e => k4 b o' (fpno gr nIm b hb') (k3 b o' (fpno gr nIm b hb') e)
      · exact fun b o' hb' e => k4 b o' (kb1 b o' hb' e).2 (kb1 b o' hb' e).1
      · intro a ha
        rcases g2 a ha with q | q
        · exact gr a q
        · by_cases hm : a ∈ mm
          · exact .inl hm
          · refine .inr ?_
            cases e : (h1.push o).get? a with
            | none => rfl
            | some o' =>
              have hb' : a ∉ I :: mm := fun q2 => by
                rcases List.mem_cons.mp q2 with q2 | q2
                · subst q2; exact hIm T4 ha
                · exact hm q2
              have := (kb1 a o' hb' e).1
              have q : h3.get? a = none := q
              rw [q] at this; cases this
    | ret v =>
      obtain ⟨h4, t4, rfl, k4, kh, wv, rfl, rp⟩ := hf
      refine ⟨h4, t4, rfl, keepS fun b o' hb' e => k4 b o' (kb1 b o' hb' e).2 (kb1 b o' hb' e).1, ?_⟩
      rw [← e1]
      exact ⟨kh, wv, rfl, rp.sub fun a ha => .tail _ ha⟩
  · have hi' : i = vs.length := Nat.le_antisymm hi (Nat.le_of_not_lt hlt)
    subst hi'
    refine W.done _ _ _ st fun h2 tk2 k2 => ?_
    have k2' : ∀ b o', b ≠ I → h'.get? b = some o' → h2.get? b = some o' := fun b o' hb' e => k2 b o' (fun q => hb' (List.mem_singleton.mp q)) e
    rw [List.drop_length] at e1 e2
    refine wpAny_execs_nil ⟨h2, tk2, rfl, keepS fun b o' hb' e => k2' b o' (fun q => hb' (q ▸ .head _)) (kk b o' hb' e), ?_⟩
    rw [← e1, ← e2]
    exact ⟨rfl, mm', growS gr, T.release hI0 k2' (fun q => by obtain ⟨o', e⟩ := S.livec I q; rw [sI] at e; cases e)⟩
end
end Mine
namespace Mine
open PySem PySem.W PyProof.Rows PySem.Calls
section
variable {prog : Program} {w : World} {hb : Heap} {mg mb : Str → Option Value} {g : Cfg} {d : Nat}
variable {n : Nat} {env : Env} {l : Ls} {mc mm : List Addr} {s : Shared} {A : Around} {h₀ : Heap}
theorem tupW_form {k : Kd} {l : Ls} {x y : Str} {e : Expr} {v : W V} (h : (tupW k l x y e v).2.2) : ∃ a b, v.1 = .tup [a, b] := by
  obtain ⟨v, c⟩ := v
  cases v with
  | tup vs => cases vs with
    | nil => exact False.elim h
    | cons a vs => cases vs with
      | nil => exact False.elim h
      | cons b vs => cases vs with
        | nil => exact ⟨a, b, rfl⟩
        | cons _ _ => exact False.elim h
  | _ => exact False.elim h
theorem setW_form {l : Ls} {x : Str} {v j : W V} (h : (setW l x v j).2.2) : ∃ xs i, l.loc x = some ⟨.list xs, true⟩ ∧ j.1 = .int i := by
  unfold setW at h
  cases hl : l.loc x with
  | none => rw [hl] at h; exact False.elim h
  | some u =>
    rw [hl] at h
    obtain ⟨u, bo⟩ := u
    cases u with
    | list xs =>
      obtain ⟨j, c⟩ := j
      cases j with
      | int i =>
        have h7 : bo = true := h.2.2.2.2.2.2
        subst h7
        exact ⟨xs, i, rfl, rfl⟩
      | _ => exact False.elim h
    | _ => exact False.elim h
theorem appW_form {l : Ls} {x name : Str} {v : W V} {c : Prop} (h : (appW l x name v c).2.2) : ∃ xs, l.loc x = some ⟨.list xs, true⟩ := by
  unfold appW at h
  cases hl : l.loc x with
  | none => rw [hl] at h; exact False.elim h
  | some u =>
    rw [hl] at h
    obtain ⟨u, bo⟩ := u
    cases u with
    | list xs =>
      have h4 : bo = true := h.2.2.2.1
      subst h4
      exact ⟨xs, rfl⟩
    | _ => exact False.elim h
theorem ex_ok (B : Base prog w hb mg mb g d) (X : Sx prog w hb g d n) (kb : KeepAll hb h₀) (S : Stt w.params h₀ mc mm env s.heap l) (r : Rm A d) {st : Stmt} (h : (ex g env.kindOf (n + 1) l st).2.2) :
    wpAny (model prog w) A (exec st env) (FinS w h₀ mc mm env (ex g env.kindOf (n + 1) l st) s) (fun _ _ => False) s := by
  cases st with
  | If t a b p => exact ex_if B X kb S r h
  | While t a o p => cases o with
    | nil => exact ex_while B X kb S r h
    | cons _ _ => exact False.elim h
  | For t it a o p => cases o with
    | nil =>
      cases ht : nmE t with
      | none => rw [ex_forT, ht] at h; exact False.elim h
      | some x =>
        obtain ⟨px, rfl⟩ := nmE_form ht
        exact ex_for B X kb S r h
    | cons _ _ => exact False.elim h
  | Return e p => cases e with
    | none => exact False.elim h
    | some e => exact ex_return B kb S r h
  | AugAssign t op e p =>
    cases ht : nmE t with
    | none => rw [ex_augT, ht] at h; exact False.elim h
    | some x =>
      obtain ⟨xp, rfl⟩ := nmE_form ht
      obtain ⟨h1, h2, h3, h4, h5⟩ := h
      obtain ⟨v, hv⟩ := Option.isSome_iff_exists.mp h1
      exact ex_aug B kb S r (by rw [ev_nameL hv]; trivial) h2 h4 h3 h1 h5
  | Assign ts e p => cases ts with
    | nil => exact False.elim h
    | cons t rs => cases rs with
      | nil =>
        have ht := tgV_form t
        cases hv : tgV t with
        | bad => rw [ex_asg1, hv] at h; exact False.elim h
        | name x =>
          rw [hv] at ht
          obtain ⟨px, rfl⟩ := ht
          rw [ex_asg] at h ⊢
          by_cases hn : isNew e = true
          · rw [if_pos hn] at h ⊢
            exact ex_new B kb S r hn h.1 h.2.1 h.2.2.1 h.2.2.2
          · rw [if_neg hn] at h ⊢
            exact ex_assign B kb S r h.1 h.2
        | pair x y =>
          rw [hv] at ht
          obtain ⟨px, py, j, tp, rfl⟩ := ht
          rw [ex_tup0] at h ⊢
          obtain ⟨a, b, e1⟩ := tupW_form h
          unfold tupW at h ⊢
          rw [e1] at h ⊢
          obtain ⟨h1, h2, h3, h4, h5, h6, h7⟩ := h
          exact ex_tup B kb S r h1 e1 h2 h3 h4 h5 h6 h7
        | sub x i =>
          rw [hv] at ht
          obtain ⟨xp, ip, rfl⟩ := ht
          rw [ex_set0] at h ⊢
          obtain ⟨xs, j, hl, hj⟩ := setW_form h
          unfold setW at h ⊢
          rw [hl] at h ⊢
          dsimp only at h ⊢
          rw [hj] at h ⊢
          obtain ⟨h1, h2, h3, h4, h5, h6, _⟩ := h
          exact ex_sub B kb S r h1 h2 hl hj h3 h4 h5 h6 (swaps_sub _ _ _ _ _ _)
      | cons t2 rs => cases rs with
        | cons _ _ => exact False.elim h
        | nil =>
          cases ht : nmE t with
          | none => rw [ex_asgT, ht] at h; exact False.elim h
          | some x => cases ht2 : nmE t2 with
            | none => rw [ex_asgT, ht, ht2] at h; exact False.elim h
            | some y =>
              obtain ⟨xp, rfl⟩ := nmE_form ht
              obtain ⟨yp, rfl⟩ := nmE_form ht2
              exact ex_two B kb S r h.1 h.2.1 h.2.2.1 h.2.2.2
  | Expr e p =>
    cases ha : apV e with
    | none => rw [ex_expT, ha] at h; exact False.elim h
    | some q =>
      obtain ⟨x, name, a, c⟩ := q
      obtain ⟨xp, ap, tp, rfl, rfl⟩ := apV_form ha
      rw [ex_app0] at h ⊢
      obtain ⟨xs, hl⟩ := appW_form h
      unfold appW at h ⊢
      rw [hl] at h ⊢
      obtain ⟨h1, h2, h3, _, h5, h6, h7⟩ := h
      subst h5
      exact ex_app B kb S r h1 hl h2 h3 h6 h7
  | _ => exact False.elim h
theorem sx_zero : Sx prog w hb g d 0 := ⟨fun _ _ _ h => h.elim, fun _ _ _ h => h.elim⟩
theorem sx (B : Base prog w hb mg mb g d) : ∀ n, Sx prog w hb g d n
  | 0 => sx_zero
  | n + 1 => ⟨fun kb S r h => ex_ok B (sx B n) kb S r h, fun kb S r h => execs_ok B (sx B n) kb S r h⟩
end
end Mine
namespace Mine
open PySem PySem.W PyProof.Rows PySem.Calls
section
variable {prog : Program} {w : World} {hb : Heap} {mg mb : Str → Option Value} {g : Cfg} {d : Nat}

/-- the locals at the start of a body -/
noncomputable def startLs : List Str → List V → Ls
  | x :: xs, v :: vs => (x, ⟨v, false⟩) :: startLs xs vs
  | _, _ => []
theorem start_plain : ∀ {xs : List Str} {vs : List V} {x : Str} {u : Loc}, (startLs xs vs).loc x = some u → u.own = false
  | [], _, _, _, h => by cases h
  | _ :: _, [], _, _, h => by cases h
  | y :: xs, v :: vs, x, u, h => by
    replace h : (if y = x then some (⟨v, false⟩ : Loc) else (startLs xs vs).loc x) = some u := h
    by_cases e : y = x
    · rw [if_pos e] at h; cases h; rfl
    · rw [if_neg e] at h; exact start_plain h
/-- what a name of the arguments stands for -/
theorem start_rep {P : Params} {mu : List Addr} {h : Heap} : ∀ {xs : List Str} {vs : List V} {ws : List Value} {x : Str} {v : V}, Reps P mu h vs ws → (startLs xs vs).loc x = some ⟨v, false⟩ → x ∈ xs ∧ ∃ wv, (xs.zip ws).lookup x = some wv ∧ Rep P mu h v wv
  | [], _, _, _, _, _, h => by cases h
  | _ :: _, [], _, _, _, _, h => by cases h
  | y :: xs, v :: vs, ws, x, u, r, h => by
    obtain ⟨a, as, rfl, r1, r2⟩ := reps_cons r
    replace h : (if y = x then some (⟨v, false⟩ : Loc) else (startLs xs vs).loc x) = some ⟨u, false⟩ := h
    by_cases e : y = x
    · rw [if_pos e] at h; cases h
      subst e
      exact ⟨.head _, a, by simp [List.zip_cons_cons, List.lookup_cons], r1⟩
    · rw [if_neg e] at h
      obtain ⟨hm, wv, h1, h2⟩ := start_rep r2 h
      refine ⟨.tail _ hm, wv, ?_, h2⟩
      rw [List.zip_cons_cons, List.lookup_cons, show (x == y) = false from by simpa using fun q => e q.symm]
      exact h1
theorem bindL_not {ko : Str → Option NameKind} : ∀ (b : List (Str × Value)) (m : Str → Option Value) {x : Str}, x ∉ b.map (·.1) → bindL ko b m x = m x
  | [], m, x, h => rfl
  | (y, v) :: r, m, x, h => by
    simp only [List.map_cons, List.mem_cons, not_or] at h
    show bindL ko r _ x = _
    rw [bindL_not r _ h.2]
    by_cases hk : ko y = some .local
    · rw [if_pos hk]; exact if_neg h.1
    · rw [if_neg hk]
theorem bindC_not {ko : Str → Option NameKind} : ∀ (b : List (Str × Value)) (m : Str → Option Value) {x : Str}, x ∉ b.map (·.1) → bindC ko b m x = m x
  | [], m, x, h => rfl
  | (y, v) :: r, m, x, h => by
    simp only [List.map_cons, List.mem_cons, not_or] at h
    show bindC ko r _ x = _
    rw [bindC_not r _ h.2]
    by_cases hk : ko y = some .local
    · rw [if_pos hk]
    · rw [if_neg hk]; exact if_neg h.1
theorem bindL_at {ko : Str → Option NameKind} : ∀ (b : List (Str × Value)) (m : Str → Option Value) {x : Str} {v : Value}, (b.map (·.1)).Nodup → b.lookup x = some v → ko x = some .local → bindL ko b m x = some v
  | [], m, x, v, _, h, _ => by cases h
  | (y, u) :: r, m, x, v, hn, h, hk => by
    rw [List.map_cons, List.nodup_cons] at hn
    rw [List.lookup_cons] at h
    show bindL ko r _ x = _
    by_cases e : (x == y) = true
    · rw [e] at h; cases h
      obtain rfl := eq_of_beq e
      rw [bindL_not r _ hn.1, if_pos hk]; exact if_pos rfl
    · rw [show (x == y) = false from by simpa using e] at h
      exact bindL_at r _ hn.2 h hk
theorem bindC_at {ko : Str → Option NameKind} : ∀ (b : List (Str × Value)) (m : Str → Option Value) {x : Str} {v : Value}, (b.map (·.1)).Nodup → b.lookup x = some v → ko x = some .cell → bindC ko b m x = some v
  | [], m, x, v, _, h, _ => by cases h
  | (y, u) :: r, m, x, v, hn, h, hk => by
    rw [List.map_cons, List.nodup_cons] at hn
    rw [List.lookup_cons] at h
    show bindC ko r _ x = _
    by_cases e : (x == y) = true
    · rw [e] at h; cases h
      obtain rfl := eq_of_beq e
      rw [bindC_not r _ hn.1, if_neg (by rw [hk]; intro q; cases q)]; exact if_pos rfl
    · rw [show (x == y) = false from by simpa using e] at h
      exact bindC_at r _ hn.2 h hk
theorem pair_one {x y : Str} {c : Addr} : ∀ {cs : List (Str × Addr)}, cs.Pairwise (fun a b => a.2 ≠ b.2) → (x, c) ∈ cs → (y, c) ∈ cs → x = y
  | [], _, h, _ => by cases h
  | p :: r, hp, h1, h2 => by
    rw [List.pairwise_cons] at hp
    rcases List.mem_cons.mp h1 with h1 | h1 <;> rcases List.mem_cons.mp h2 with h2 | h2
    · rw [← h1] at h2; cases h2; rfl
    · exact absurd (by rw [← h1]) (hp.1 _ h2)
    · exact absurd (by rw [← h2]) (hp.1 _ h1)
    · exact pair_one hp.2 h1 h2
end
end Mine
namespace Mine
open PySem PySem.W PyProof.Rows PySem.Calls
section
variable {prog : Program} {w : World} {hb : Heap} {mg mb : Str → Option Value} {g : Cfg} {d : Nat}
theorem startLs_keys : ∀ {xs : List Str} {vs : List V} {y : Str}, y ∈ (startLs xs vs).map (·.1) → y ∈ xs
  | [], _, _, h => by cases h
  | _ :: _, [], _, h => by cases h
  | x :: xs, v :: vs, y, h => by
    rcases List.mem_cons.mp h with rfl | h
    · exact .head _
    · exact .tail _ (startLs_keys h)
theorem startLs_nodup : ∀ {xs : List Str} {vs : List V}, xs.Nodup → ((startLs xs vs).map (·.1)).Nodup
  | [], _, _ => List.nodup_nil
  | _ :: _, [], _ => List.nodup_nil
  | x :: xs, v :: vs, h => by
    rw [List.nodup_cons] at h
    show (x :: (startLs xs vs).map (·.1)).Nodup
    rw [List.nodup_cons]
    exact ⟨fun q => h.1 (startLs_keys q), startLs_nodup h.2⟩
/-- the state at the start of a body -/
theorem stt_start {s s' : Shared} {env : Env} {mc : List Addr} {params : List Str} {args : List V} {ws : List Value} (hk : env.scope.kind = .function) (hg : env.globals = mainGlobals) (hbl : env.builtins = builtinsNs)
    (hnd : params.Nodup) (hlen : ws.length = params.length) (hp : ∀ x ∈ params, (env.kindOf x = some .local ∨ env.kindOf x = some .cell) ∧ nameOk x = true) (hfree : ∀ x, env.kindOf x ≠ some .free)
    (hcn : (env.cells.map (·.1)).Nodup) (hcell : ∀ x, env.kindOf x = some .cell → ∃ c, env.cells.lookup x = some c) (hL : env.locals = s.heap.objs.size)
    (x : InCallC s env.locals (bindL env.kindOf (params.zip ws) fun _ => none) env.cells (bindC env.kindOf (params.zip ws) fun _ => none) s')
    (live : Live mc s.heap) (r : Reps w.params mc s.heap args ws) :
    Stt w.params s.heap mc (env.locals :: env.cells.map (·.2)) env s'.heap (startLs params args) := by
  have look : ∀ n c, (n, c) ∈ env.cells → env.cells.lookup n = some c := fun n c h => lookup_of_mem_nodup hcn h
  have keep : KeepAll s.heap s'.heap := x.toInCall.keep
  have old : ∀ a ∈ env.locals :: env.cells.map (·.2), s.heap.get? a = none := fun a ha => by
    rcases List.mem_cons.mp ha with rfl | ha
    · exact fresh_none (Nat.le_of_eq hL.symm)
    · obtain ⟨p, hp', rfl⟩ := List.mem_map.mp ha
      exact fresh_none (Nat.le_of_lt (hL ▸ x.above p.1 p.2 hp'))
  have hz : (params.zip ws).map (·.1) = params := by
    rw [List.map_fst_zip]; omega
  have hmc : ∀ a ∈ env.locals :: env.cells.map (·.2), a ∉ mc := fun a ha q => by
    obtain ⟨o, e⟩ := live a q
    rw [old a ha] at e; cases e
  have nes : ∀ a, a ∈ (env.locals :: env.cells.map (·.2)) ++ mc → a ∈ mc ∨ s.heap.get? a = none := fun a ha => by
    rcases List.mem_append.mp ha with h | h
    · exact .inr (old a h)
    · exact .inl h
  refine ⟨hk, hg, hbl, keep, old, ?_, live.keep keep, hmc, .head _, ⟨_, x.toInCall.ns⟩, ?_, ?_, hfree, startLs_nodup hnd, ?_, ?_, ?_⟩
  · intro a ha
    rcases List.mem_cons.mp ha with rfl | ha
    · obtain ⟨o, _, _, e, _⟩ := x.toInCall.ns; exact ⟨o, e⟩
    · obtain ⟨p, hp', rfl⟩ := List.mem_map.mp ha
      obtain ⟨o, e, _⟩ := x.cell p.1 p.2 (look p.1 p.2 hp'); exact ⟨o, e⟩
  · intro y hy
    obtain ⟨c, hc⟩ := hcell y hy
    have hm := mem_lookup hc
    exact ⟨c, hc, .tail _ (List.mem_map.mpr ⟨(y, c), hm, rfl⟩), Ne.symm (Nat.ne_of_lt (x.above y c hm)), _, x.cell y c hc⟩
  · intro y z c _ _ h1 h2
    exact pair_one x.apart (mem_lookup h1) (mem_lookup h2)
  · intro y v e
    obtain ⟨hm, wv, h1, h2⟩ := start_rep r e
    obtain ⟨hkk, hn⟩ := hp y hm
    refine ⟨hn, wv, ?_, (h2.more nes).all keep⟩
    rcases hkk with hkk | hkk
    · exact .inl ⟨hkk, _, x.toInCall.ns, bindL_at _ _ (by rw [hz]; exact hnd) h1 hkk⟩
    · obtain ⟨c, hc⟩ := hcell y hkk
      refine .inr ⟨.inl hkk, c, hc, ?_⟩
      have := x.cell y c hc
      rwa [bindC_at _ _ (by rw [hz]; exact hnd) h1 hkk] at this
  · intro y v e
    have := start_plain e; cases this
  · intro y z u v e1 _
    have := start_plain e1; cases this
end
end Mine
namespace Mine
open PySem PySem.W PyProof.Rows PySem.Calls
section
variable {prog : Program} {w : World} {hb : Heap} {mg mb : Str → Option Value} {g : Cfg} {d : Nat}
/-- what is asked of a function's data, all of it to be computed -/
structure FdOk (fd : FuncData) (params : List Str) (body : List Stmt) : Prop where
  co : fd.scope.isCoroutine = false
  gen : fd.scope.isGenerator = false
  kind : fd.scope.kind = .function
  body : fd.body = .stmts body
  glob : fd.globals = mainGlobals
  blt : fd.builtins = builtinsNs
  clo : fd.closure = []
  nd : params.Nodup
  names : ∀ x ∈ params, (fd.scope.names.lookup x = some .local ∨ fd.scope.names.lookup x = some .cell) ∧ nameOk x = true
  free : ∀ x, fd.scope.names.lookup x ≠ some .free
  cells : ((cellsFrom 0 fd.scope.names []).map (·.1)).Nodup
  bind : ∀ ws : List Value, ws.length = params.length → bindArgs fd ⟨ws, []⟩ = pure (params.zip ws)
theorem call_fn {n : Nat} (X : Sx prog w hb g d n) {fd : FuncData} {params : List Str} {body : List Stmt} (O : FdOk fd params body) {a : Addr} {o : Obj} (ho : hb.get? a = some o) (hd : o.data = .func fd) (hlim : hb.NoLimit) (hcd : hb.CodeRec fd.code fd.qualname)
    {A : Around} {s : Shared} {mu : List Addr} {args : List V} {ws : List Value} {v : V} (kb : KeepAll hb s.heap) (rm : Rm A (d + 1)) (live : Live mu s.heap) (r : Reps w.params mu s.heap args ws) (hlen : args.length = params.length)
    (hv : (exs g (fun x => fd.scope.names.lookup x) n (startLs params args) body).1 = .ret v) (hc : (exs g (fun x => fd.scope.names.lookup x) n (startLs params args) body).2.2) :
    Tr prog w A (call (.ref a) ws) s (fun u h => Rep w.params mu h v u) := by
  refine Tr.of fun R k => wpAny_call ?_
  refine codeAny_call_function (by have := rm.depth; omega) (kb _ _ ho) hd O.co O.gen O.body (hcd.keeps kb) ?_
  rw [O.bind ws (by rw [r.length, hlen]), O.clo, O.glob, O.blt]
  refine wpAny_pure ?_
  refine wpAny_newFunctionEnv_cells O.kind (fun y hy => ?_) fun env he s' x => ?_
  · have hm : y.1 ∈ params := (List.of_mem_zip hy).1
    rcases (O.names y.1 hm).1 with q | q
    · exact .inl q
    · exact .inr ⟨q, cellsFrom_some _ _ _ (.inl q)⟩
  · subst he
    obtain ⟨h₁, tk, rfl, kk⟩ := x.done
    refine ⟨(hlim.keeps kb).keeps kk, codeAny_func ?_⟩
    have hcn : ((cellsFrom (s.heap.objs.size + 1) fd.scope.names []).map (·.1)).Nodup := cellsFrom_names fd.scope.names 0 (s.heap.objs.size + 1) [] [] rfl ▸ O.cells
    let env : Env := newEnv fd.scope s.heap.objs.size mainGlobals (cellsFrom (s.heap.objs.size + 1) fd.scope.names []) (fd.qualname ++ ".<locals>.") (some a) fd.code none builtinsNs
    have T := stt_start (env := env) (w := w) (mc := mu) (params := params) (args := args) (ws := ws) O.kind rfl rfl O.nd (by rw [r.length, hlen]) O.names O.free hcn
      (fun y hy => by
        have := cellsFrom_some (x := y) fd.scope.names (s.heap.objs.size + 1) [] (.inl hy)
        exact Option.isSome_iff_exists.mp this) rfl x live r
    have rm' : Rm (A.deeper env) d :=
      ⟨rm.handled, by have := rm.depth; show A.depth + 1 + d < _; omega, by have := rm.units; show A.units + 3 + 4 * d + 64 < _; omega⟩
    refine wpAny_mono (X.exs (h₀ := s.heap) (ss := body) (s := { s with heap := h₁, toks := tk }) kb T rm' hc) (fun f s' hf => ?_) fun _ _ f => f.elim
    obtain ⟨h2, t2, rfl, _, hq⟩ := hf
    have hv' : (exs g env.kindOf n (startLs params args) body).1 = .ret v := hv
    rw [hv'] at hq
    obtain ⟨kh, wv, rfl, rp⟩ := hq
    exact k wv h2 t2 kh rp
end
end Mine
namespace Mine
open PySem PySem.W PyProof.Rows PySem.Calls

/-- a function of the text, as far as the evaluator asks -/
structure FnT where
  name : Str
  params : List Str
  scope : Scope
  body : List Stmt

noncomputable def runFn (g : Cfg) (fs : List FnT) (f : Str) (args : List V) : W V :=
  match fs.find? (fun t => t.name == f) with
  | none => no
  | some t => if args.length = t.params.length then
      (match exs g (fun x => t.scope.names.lookup x) 200 (startLs t.params args) t.body with
        | (.ret v, _, c) => (v, c)
        | (.next, _, _) => no)
    else no
/-- what is known of the text beside its functions -/
structure Dat0 where
  gl : Str → Option V
  mem : Value → Int → W Bool
  get : Value → Int → W V
noncomputable def CC (D : Dat0) (fs : List FnT) : Nat → Cfg
  | 0 => ⟨fun _ _ => no, D.gl, D.mem, D.get⟩
  | k + 1 => ⟨runFn (CC D fs k) fs, D.gl, D.mem, D.get⟩
theorem CC_gl (D : Dat0) (fs : List FnT) : ∀ k, (CC D fs k).gl = D.gl
  | 0 => rfl
  | _ + 1 => rfl
theorem CC_mem (D : Dat0) (fs : List FnT) : ∀ k, (CC D fs k).mem = D.mem
  | 0 => rfl
  | _ + 1 => rfl
theorem CC_get (D : Dat0) (fs : List FnT) : ∀ k, (CC D fs k).get = D.get
  | 0 => rfl
  | _ + 1 => rfl
/-- a function of the text stands in the heap -/
noncomputable def FnAt (hb : Heap) (mg : Str → Option Value) (t : FnT) : Prop :=
  ∃ a o fd, mg t.name = some (.ref a) ∧ hb.get? a = some o ∧ o.data = .func fd ∧ FdOk fd t.params t.body ∧ fd.scope = t.scope ∧ hb.CodeRec fd.code fd.qualname
section
variable {prog : Program} {w : World} {hb : Heap} {mg mb : Str → Option Value}
structure Base0 (prog : Program) (w : World) (hb : Heap) (mg mb : Str → Option Value) (D : Dat0) (fs : List FnT) : Prop where
  gns : hb.Ns mainGlobals mg
  bns : hb.Ns builtinsNs mb
  boot : ∀ x : Str, x ≠ "__name__" → mb x = bootBuiltins x
  gl : ∀ x v, D.gl x = some v → ∃ wv, mg x = some wv ∧ ((∃ i t, v = .int i ∧ wv = .int i t) ∨ v = .val wv)
  nob : ∀ x, (isBlt x = true ∨ x = ("list" : Str) ∨ x = ("range" : Str)) → mg x = none
  mem : ∀ k, MemOk prog w hb (CC D fs k)
  get : ∀ k, GetOk prog w hb (CC D fs k)
  fn : ∀ t ∈ fs, FnAt hb mg t
  lim : hb.NoLimit
theorem base_cc {D : Dat0} {fs : List FnT} (B : Base0 prog w hb mg mb D fs) : ∀ k, Base prog w hb mg mb (CC D fs k) k
  | 0 => ⟨B.gns, B.bns, B.boot, B.gl, B.nob, B.mem 0, B.get 0, fun f args h => h.elim, B.lim⟩
  | k + 1 => by
    refine ⟨B.gns, B.bns, B.boot, B.gl, B.nob, B.mem _, B.get _, fun f args h => ?_, B.lim⟩
    have X : Sx prog w hb (CC D fs k) k 200 := sx (base_cc B k) 200
    have h : (runFn (CC D fs k) fs f args).2 := h
    show ∃ a o fd, _ ∧ _ ∧ _ ∧ ∀ (A : Around) (s : Shared) (mu : List Addr) (ws : List Value), KeepAll hb s.heap → Rm A (k + 1) → Live mu s.heap → Reps w.params mu s.heap args ws →
      Tr prog w A (call (.ref a) ws) s (fun v h => Rep w.params mu h (runFn (CC D fs k) fs f args).1 v)
    unfold runFn at h ⊢
    cases e : fs.find? (fun t => t.name == f) with
    | none => rw [e] at h; exact h.elim
    | some t =>
      rw [e] at h
      dsimp only at h ⊢
      have ht := List.mem_of_find?_eq_some e
      have hn : t.name = f := by have := List.find?_some e; simpa using this
      obtain ⟨a, o, fd, h1, h2, h3, h4, h5, h6⟩ := B.fn t ht
      refine ⟨a, o, fd, hn ▸ h1, h2, h3, fun A s mu ws kb rm live r => ?_⟩
      by_cases hl : args.length = t.params.length
      · rw [if_pos hl] at h ⊢
        rw [← h5] at h ⊢
        generalize hq : exs (CC D fs k) (fun x => fd.scope.names.lookup x) 200 (startLs t.params args) t.body = q at h ⊢
        obtain ⟨fl, l', c⟩ := q
        cases fl with
        | next => exact h.elim
        | ret v =>
          exact call_fn X h4 h2 h3 B.lim h6 kb rm live r hl (by rw [hq]) (by rw [hq]; exact h)
      · rw [if_neg hl] at h; exact h.elim
end
end Mine
namespace Mine
open PySem PySem.W PyProof.Rows PySem.Calls
noncomputable def fnT (st : Stmt) : FnT := match st with
  | .FunctionDef name args body _ _ _ scope _ _ _ => ⟨name, args.args.map (·.arg), scope, body⟩
  | _ => ⟨"", [], default, []⟩

theorem fnAt_of {K : Frag} {h : Heap} {mg : Str → Option Value} (X : K.In h) (G : h.Ns mainGlobals mg) {t : FnT} {a : Addr} {o : Obj} {fd : FuncData} (e1 : nsIn K mainGlobals t.name = some (some (.ref a))) (e2 : K.lookup a = some o) (e3 : o.data = .func fd)
    (ok : FdOk fd t.params t.body) (hs : fd.scope = t.scope) (hc : codeIn K fd.code fd.qualname = true) : FnAt h mg t :=
  ⟨a, o, fd, mg_of X G e1, X _ _ e2, e3, ok, hs, codeRec_of X hc⟩

theorem lookup_memL {L : List (Str × V)} {x : Str} {v : V} (h : L.lookup x = some v) : (x, v) ∈ L := by
  induction L with
  | nil => cases h
  | cons p r ih =>
    obtain ⟨y, u⟩ := p
    rw [List.lookup_cons] at h
    by_cases e : (x == y) = true
    · rw [e] at h
      cases h
      rw [eq_of_beq e]; exact .head _
    · rw [show (x == y) = false from by simpa using e] at h
      exact .tail _ (ih h)
/-- a global value that we know -/
noncomputable def isV (v : V) (wv : Value) : Bool := match v with
  | .int i => Value.isInt i wv
  | .val u => wv == u
  | _ => false
noncomputable def glAt (K : Frag) (p : Str × V) : Bool := match nsIn K mainGlobals p.1 with
  | some o => o.any (isV p.2)
  | none => false
theorem gl_ok {K : Frag} {h : Heap} {mg : Str → Option Value} (X : K.In h) (G : h.Ns mainGlobals mg) {L : List (Str × V)} (hL : (L.all fun p => glAt K p) = true) : ∀ x v, L.lookup x = some v → ∃ wv, mg x = some wv ∧ ((∃ i t, v = .int i ∧ wv = .int i t) ∨ v = .val wv) := fun x v e => by
  have h := List.all_eq_true.mp hL _ (lookup_memL e)
  have h : (match nsIn K mainGlobals x with
    | some o => o.any (isV v)
    | none => false) = true := h
  cases e1 : nsIn K mainGlobals x with
  | none => rw [e1] at h; cases h
  | some o =>
    rw [e1] at h
    cases o with
    | none => cases h
    | some wv =>
      refine ⟨wv, mg_of X G e1, ?_⟩
      have h : isV v wv = true := h
      cases v with
      | int i =>
        obtain ⟨t, rfl⟩ := Value.isInt_shape h
        exact .inl ⟨i, t, rfl, rfl⟩
      | val u =>
        obtain rfl := eq_of_beq (show (wv == u) = true from h)
        exact .inr rfl
      | _ => cases h
noncomputable def bltNames : List Str := ["len", "ord", "chr", "abs", "int", "divmod", "min", "sum", "list", "range"]
theorem nob_ok {K : Frag} {h : Heap} {mg : Str → Option Value} (X : K.In h) (G : h.Ns mainGlobals mg) (hL : (bltNames.all fun x => nsIn K mainGlobals x == some none) = true) : ∀ x, (isBlt x = true ∨ x = ("list" : Str) ∨ x = ("range" : Str)) → mg x = none := fun x hx => by
  have hm : x ∈ bltNames := by
    rcases hx with hx | rfl | rfl
    · have := List.contains_iff_mem.mp hx
      simp only [List.mem_cons, List.not_mem_nil, or_false] at this
      simp only [bltNames, List.mem_cons, List.not_mem_nil, or_false]
      rcases this with h | h | h | h | h | h | h | h <;> simp [h]
    · simp [bltNames]
    · simp [bltNames]
  exact ns_none_of X G (by simpa using List.all_eq_true.mp hL x hm)

section
variable {prog : Program} {w : World} {hb : Heap}
noncomputable def setEs (es : List (Int × Value)) : Bool := es.all fun e => match e.2 with
  | .int k _ => e.1 == hashInt k
  | _ => false
theorem mem_ok {K : Frag} {a : Addr} {es : List (Int × Value)} {ep : Nat} {t : SetTable} {g : Cfg} (X : K.In hb) (e : K.lookup a = some ⟨.type "set", none, .set es.toArray ep t, #[]⟩) (chk : setEs es = true) (hn : es.length < 4096) (fits : t.fits es.length = true)
    (hm : g.mem = fun wv i => (es.any fun e => Value.isInt i e.2, wv = .ref a)) : MemOk prog w hb g := by
  intro A s wv i tk kb h
  rw [hm] at h ⊢
  obtain rfl : wv = .ref a := h
  have so : Obj.SetObjOf (intKind prog w) ⟨.type "set", none, .set es.toArray ep t, #[]⟩ (fun i => es.any fun e => Value.isInt i e.2) es.length := by
    refine ⟨⟨rfl, rfl, rfl⟩, es.toArray, ep, t, rfl, ?_, ?_, by simp, by simpa using fits⟩
    · intro e he
      have he' : e ∈ es := by simpa using he
      clear he
      have := List.all_eq_true.mp chk e he'
      obtain ⟨hh, v⟩ := e
      clear he'
      cases v <;> simp only at this <;> first | cases this | skip
      rename_i k t
      exact ⟨⟨k, isInt_self k t, eq_of_beq this⟩, rfl⟩
    · intro k
      simp only [List.any_eq_true]
      rfl
  refine Tr.of fun R k => ?_
  refine wpAny_inSet_of (knd := intKind prog w) (isInt_self i tk) rfl (so.setOf (kb _ _ (X _ _ e)) (by unfold scanBound; omega)) (k _ s.heap _ (fun _ _ e => e) rfl)
noncomputable def dictEs (es : List DictEntry) : Bool := es.all fun e => (match e.key with
  | .int k _ => e.hash == hashInt k
  | _ => false) && match e.val with
  | .str _ _ => true
  | _ => false
/-- a table's text at an int -/
noncomputable def tabGet (es : List DictEntry) (i : Int) : V := match es.find? (fun e => Value.isInt i e.key) with
  | some ⟨_, _, .str x _⟩ => .str x.cps.toList
  | _ => .none
theorem get_ok {K : Frag} {a : Addr} {es : List DictEntry} {ep : Nat} {g : Cfg} (X : K.In hb) (lo : (a == sysModules) = false) (e : K.lookup a = some ⟨.type "dict", none, .dict es.toArray ep, #[]⟩) (chk : dictEs es = true)
    (hm : g.get = fun wv i => (tabGet es i, wv = .ref a)) : GetOk prog w hb g := by
  intro A s wv i tk kb h
  rw [hm] at h ⊢
  obtain rfl : wv = .ref a := h
  have ho := kb _ _ (X _ _ e)
  refine ⟨⟨a, _, rfl, ho, rfl, rfl⟩, Tr.of fun R k => ?_⟩
  have mo : s.heap.MapOf (intKind prog w) a (fun k => findBy Value.isInt es.toArray k) := by
    refine ⟨_, es.toArray, ep, ho, ⟨rfl, rfl, rfl⟩, rfl, ?_, fun _ => rfl⟩
    intro e he
    have he' : e ∈ es := by simpa using he
    clear he
    have := List.all_eq_true.mp chk e he'
    clear he'
    obtain ⟨hh, key, v⟩ := e
    simp only [Bool.and_eq_true] at this
    obtain ⟨this, _⟩ := this
    cases key <;> simp only at this <;> first | cases this | skip
    rename_i k t
    exact ⟨k, isInt_self k t, eq_of_beq this⟩
  refine call_meetsIn PySem.F.slot_dict_get ⟨_, ho, rfl⟩ PySem.F.entry_dict_get (PySem.F.args_dict_get_2 _ _) (meets_dict_get (intKind prog w) a (k := i) (isInt_self i tk) lo) ⟨_, mo, ?_⟩
  refine k _ s.heap _ (fun _ _ e => e) fun mu => ?_
  unfold tabGet findBy
  rw [← Array.find?_toList]
  cases hf : es.find? (fun e => Value.isInt i e.key) with
  | none => simp only [hf, Option.map_none, Option.getD_none]; unfold Rep; rfl
  | some e =>
    have he := List.mem_of_find?_eq_some hf
    have := List.all_eq_true.mp chk e he
    obtain ⟨hh, key, v⟩ := e
    simp only [Bool.and_eq_true] at this
    obtain ⟨_, this⟩ := this
    cases v <;> simp only at this <;> first | cases this | skip
    rename_i x t
    simp only [hf, Option.map_some, Option.getD_some]
    unfold Rep
    exact ⟨t, rfl⟩
end
end Mine
namespace Mine
open PySem PySem.W PyProof.Rows PySem.Calls
/-- what can be computed of FdOk -/
noncomputable def fdChk (fd : FuncData) (params : List Str) : Bool :=
  !fd.scope.isCoroutine && !fd.scope.isGenerator && fd.scope.kind == .function && fd.globals == mainGlobals && fd.builtins == builtinsNs && fd.closure.isEmpty && decide params.Nodup &&
  (params.all fun x => (fd.scope.names.lookup x == some .local || fd.scope.names.lookup x == some .cell) && nameOk x) && (fd.scope.names.all fun p => !(p.2 == .free)) && decide ((cellsFrom 0 fd.scope.names []).map (·.1)).Nodup
theorem lookup_in {L : List (Str × NameKind)} {x : Str} {v : NameKind} (h : L.lookup x = some v) : (x, v) ∈ L := by
  induction L with
  | nil => cases h
  | cons p r ih =>
    obtain ⟨y, u⟩ := p
    rw [List.lookup_cons] at h
    by_cases e : (x == y) = true
    · rw [e] at h
      cases h
      rw [eq_of_beq e]; exact .head _
    · rw [show (x == y) = false from by simpa using e] at h
      exact .tail _ (ih h)
theorem fdOk_of {fd : FuncData} {params : List Str} {body : List Stmt} (h : fdChk fd params = true) (hb : fd.body = .stmts body) (bind : ∀ ws : List Value, ws.length = params.length → bindArgs fd ⟨ws, []⟩ = pure (params.zip ws)) : FdOk fd params body := by
  unfold fdChk at h
  simp only [Bool.and_eq_true, Bool.not_eq_true', beq_iff_eq, decide_eq_true_eq, List.isEmpty_iff] at h
  obtain ⟨⟨⟨⟨⟨⟨⟨⟨⟨h1, h2⟩, h3⟩, h4⟩, h5⟩, h6⟩, h7⟩, h8⟩, h9⟩, h10⟩ := h
  refine ⟨h1, h2, h3, hb, h4, h5, h6, h7, fun x hx => ?_, fun x hx => ?_, h10, bind⟩
  · have := List.all_eq_true.mp h8 x hx
    simpa using this
  · have := List.all_eq_true.mp h9 _ (lookup_in hx)
    simp at this
theorem len_succ {α : Type} {n : Nat} {l : List α} (h : l.length = n + 1) : ∃ x r, l = x :: r ∧ r.length = n := by
  cases l with
  | nil => cases h
  | cons x r => exact ⟨x, r, rfl, Nat.succ.inj h⟩
theorem bind1 {fd : FuncData} {a : Str} (h : ∀ v, bindArgs fd ⟨[v], []⟩ = pure [(a, v)]) (ws : List Value) (hw : ws.length = [a].length) : bindArgs fd ⟨ws, []⟩ = pure ([a].zip ws) := by
  obtain ⟨v, r, rfl, h1⟩ := len_succ hw
  obtain rfl := List.length_eq_zero_iff.mp h1
  exact h v
theorem bind2 {fd : FuncData} {a b : Str} (h : ∀ v u, bindArgs fd ⟨[v, u], []⟩ = pure [(a, v), (b, u)]) (ws : List Value) (hw : ws.length = [a, b].length) : bindArgs fd ⟨ws, []⟩ = pure ([a, b].zip ws) := by
  obtain ⟨v, r, rfl, h1⟩ := len_succ hw
  obtain ⟨u, r, rfl, h2⟩ := len_succ h1
  obtain rfl := List.length_eq_zero_iff.mp h2
  exact h v u
theorem bind3 {fd : FuncData} {a b c : Str} (h : ∀ v u x, bindArgs fd ⟨[v, u, x], []⟩ = pure [(a, v), (b, u), (c, x)]) (ws : List Value) (hw : ws.length = [a, b, c].length) : bindArgs fd ⟨ws, []⟩ = pure ([a, b, c].zip ws) := by
  obtain ⟨v, r, rfl, h1⟩ := len_succ hw
  obtain ⟨u, r, rfl, h2⟩ := len_succ h1
  obtain ⟨x, r, rfl, h3⟩ := len_succ h2
  obtain rfl := List.length_eq_zero_iff.mp h3
  exact h v u x
end Mine
namespace Mine
open PySem PySem.W PyProof.Rows PySem.Calls
noncomputable section

-- from Goes.lean


structure Cx where
  p : Program
  w : World
  n₀ : Nat
  ann : Option Value
  b : List Stmt
  env : Env
  q : Pos

noncomputable def Goes (C : Cx) (N : Nat) {α : Type} (m : Sem α) (s : Shared) (a : α) (s' : Shared) : Prop :=
  ∀ (K : α → Sem Fin) (H : Value → Sem Fin) (gd : Bool → Bool) (lv : List Value → List Value) (pos : Pos), ∃ n pos', n ≤ N ∧
    segGo treeTable C.p C.w C.n₀ C.ann 1 n s ⟨m.wrap K H gd lv, .body C.b C.env, pos, [topFrame C.q]⟩ = some (s', ⟨K a, .body C.b C.env, pos', [topFrame C.q]⟩)

section
variable {C : Cx} {α β : Type} {s s' s₁ : Shared}

theorem segGo_app {tb : String → Option Builtin} {p : Program} {w : World} {n₀ : Nat} {ann : Option Value} {b : Nat} : ∀ {n m : Nat} {s s₁ s₂ : Shared} {t t₁ t₂ : Thread},
    segGo tb p w n₀ ann b n s t = some (s₁, t₁) → segGo tb p w n₀ ann b m s₁ t₁ = some (s₂, t₂) → segGo tb p w n₀ ann b (n + m) s t = some (s₂, t₂)
  | 0, m, s, s₁, s₂, t, t₁, t₂, h, k => by
    obtain ⟨rfl, rfl⟩ : s = s₁ ∧ t = t₁ := by simpa [segGo] using h
    rw [Nat.zero_add]; exact k
  | n + 1, m, s, s₁, s₂, t, t₁, t₂, h, k => by
    rw [show n + 1 + m = n + m + 1 by omega]
    unfold segGo at h ⊢
    cases he : endAt b t with
    | some f => rw [he] at h; cases h
    | none =>
      rw [he] at h
      cases hk : stepOk n₀ ann t with
      | false => rw [hk] at h; cases h
      | true =>
        rw [hk] at h
        cases hs : step (denote tb) p w s t with
        | halt o s₂ => rw [hs] at h; cases h
        | go s₂ t₂ => rw [hs] at h; exact segGo_app h k

theorem Goes.le {n N : Nat} {m : Sem α} {a : α} (h : Goes C n m s a s') (e : n ≤ N) : Goes C N m s a s' := fun K H gd lv pos =>
  let ⟨k, p, l, r⟩ := h K H gd lv pos; ⟨k, p, Nat.le_trans l e, r⟩
theorem goes_pure {a : α} : Goes C 0 (.pure a) s a s := fun K H gd lv pos => ⟨0, pos, Nat.le_refl _, rfl⟩
theorem goes_pure' {a : α} : Goes C 0 (Pure.pure a : Sem α) s a s := goes_pure
theorem goes_pureN {N : Nat} {a : α} : Goes C N (Pure.pure a : Sem α) s a s := goes_pure.le (Nat.zero_le _)
theorem goes_bind {n₁ n₂ : Nat} {m : Sem α} {f : α → Sem β} {a : α} {b : β} (h : Goes C n₁ m s a s₁) (k : Goes C n₂ (f a) s₁ b s') : Goes C (n₁ + n₂) (m.bind f) s b s' := fun K H gd lv pos => by
  obtain ⟨n, p₁, l, e⟩ := h (fun a => (f a).wrap K H gd lv) H gd lv pos
  obtain ⟨m', p₂, l', e'⟩ := k K H gd lv p₁
  refine ⟨n + m', p₂, Nat.add_le_add l l', ?_⟩
  rw [Sem.bind_eq_wrap, Sem.wrap_wrap]
  exact segGo_app e e'
theorem goes_bind' {n₁ n₂ : Nat} {m : Sem α} {f : α → Sem β} {a : α} {b : β} (h : Goes C n₁ m s a s₁) (k : Goes C n₂ (f a) s₁ b s') : Goes C (n₁ + n₂) (m >>= f) s b s' := goes_bind h k
theorem goes_bindN {n₁ N : Nat} {m : Sem α} {f : α → Sem β} {a : α} {b : β} (h : Goes C n₁ m s a s₁) (k : Goes C (N - n₁) (f a) s₁ b s') (e : n₁ ≤ N := by first | omega | (simp; omega) | simp) : Goes C N (m >>= f) s b s' := (goes_bind h k).le (by omega)
theorem goes_keep {N : Nat} {vs : List Value} {m : Sem α} {a : α} (h : Goes C N m s a s') : Goes C N (m.keep vs) s a s' := fun K H gd lv pos => by
  rw [Sem.keep_eq_wrap, Sem.wrap_wrap]
  exact h K H _ _ pos
theorem goes_holding {N : Nat} {vs : List Value} {m : Sem α} {a : α} (h : Goes C N m s a s') : Goes C N (holding vs m) s a s' := by
  unfold holding; split
  · exact h
  · exact goes_keep h
theorem goes_onRaise {N : Nat} {m : Sem α} {h : Value → Sem Unit} {a : α} (x : Goes C N m s a s') : Goes C N (m.onRaise h) s a s' := fun K H gd lv pos => by
  rw [Sem.onRaise_eq_wrap, Sem.wrap_wrap]
  exact x K _ _ _ pos

/-- one step -/
theorem goes_one {N : Nat} {m : Sem α} {a : α} {s₁ : Shared} (m' : Sem α) (pos' : Pos → Pos)
    (e : ∀ (K : α → Sem Fin) H gd lv pos, segGo treeTable C.p C.w C.n₀ C.ann 1 1 s ⟨m.wrap K H gd lv, .body C.b C.env, pos, [topFrame C.q]⟩ = some (s₁, ⟨m'.wrap K H gd lv, .body C.b C.env, pos' pos, [topFrame C.q]⟩))
    (k : Goes C N m' s₁ a s') : Goes C (1 + N) m s a s' := fun K H gd lv pos => by
  obtain ⟨n, p', l, e'⟩ := k K H gd lv (pos' pos)
  exact ⟨1 + n, p', Nat.add_le_add_left l 1, segGo_app (e K H gd lv pos) e'⟩

theorem goes_fresh : Goes C 1 fresh s s.toks { s with toks := s.toks + 1 } := goes_one (.pure s.toks) id (fun K H gd lv pos => rfl) goes_pure
theorem goes_at {p' : Pos} : Goes C 1 (standAt p') s () s := goes_one (.pure ()) (fun _ => p') (fun K H gd lv pos => rfl) goes_pure
theorem goes_rule {t : String} : Goes C 1 (rule t) s () s := goes_one (.pure ()) id (fun K H gd lv pos => rfl) goes_pure
theorem goes_alloc {o : Obj} : Goes C 1 (alloc o) s s.heap.objs.size { s with heap := s.heap.push o } := goes_one (.pure s.heap.objs.size) id (fun K H gd lv pos => rfl) goes_pure
theorem goes_step {N : Nat} {m : Sem α} {a : α} {s₁ : Shared} (m' : Sem α)
    (hc : ∀ (K : α → Sem Fin) H gd lv pos, endAt 1 ⟨m.wrap K H gd lv, .body C.b C.env, pos, [topFrame C.q]⟩ = none)
    (hk : ∀ (K : α → Sem Fin) H gd lv pos, stepOk C.n₀ C.ann ⟨m.wrap K H gd lv, .body C.b C.env, pos, [topFrame C.q]⟩ = true)
    (e : ∀ (K : α → Sem Fin) H gd lv pos, step (denote treeTable) C.p C.w s ⟨m.wrap K H gd lv, .body C.b C.env, pos, [topFrame C.q]⟩ = .go s₁ ⟨m'.wrap K H gd lv, .body C.b C.env, pos, [topFrame C.q]⟩)
    (k : Goes C N m' s₁ a s') : Goes C (1 + N) m s a s' := goes_one m' id (fun K H gd lv pos => by
  unfold segGo
  rw [hc, hk]
  dsimp only
  rw [e]
  rfl) k
theorem goes_load {a : Addr} {part : Option Value} {o : Obj} (h : s.heap.get? a = some o) : Goes C 1 (loadPart a part) s o s :=
  goes_step (.pure o) (fun _ _ _ _ _ => rfl) (fun _ _ _ _ _ => rfl) (fun K H gd lv pos => by
    obtain ⟨heap, gens, drawn, toks, os⟩ := s
    show (match heap.get? a with | some o => _ | none => _) = _
    rw [show heap.get? a = some o from h]) goes_pure
theorem goes_update {a : Addr} {part : Option Value} {f : Obj → Obj} {o : Obj} (h : s.heap.get? a = some o) (hn : Nat.ble C.n₀ a = true) : Goes C 1 (updatePart a part f) s () { s with heap := s.heap.update a f } :=
  goes_step (.pure ()) (fun _ _ _ _ _ => rfl) (fun _ _ _ _ _ => by
    show (_ && (Nat.ble C.n₀ a || _ || _ || _)) = true
    rw [hn]; rfl) (fun K H gd lv pos => by
    obtain ⟨heap, gens, drawn, toks, os⟩ := s
    show (if (heap.get? a).isSome then _ else _) = _
    rw [show heap.get? a = some o from h]
    rfl) goes_pure

end
variable {C : Cx} {α β : Type} 
noncomputable def hX (x : Int) : Int :=
  let h : Int := x.natAbs % (2 ^ 61 - 1 : Nat)
  let h := if x < 0 then -h else h
  if h == -1 then -2 else h
theorem hX_eq (m : Nat) (h2 : m < 1152921504606846976) : hX (m : Int) = m := by
  unfold hX
  have e : (m % 2305843009213693951) = m := Nat.mod_eq_of_lt (by omega)
  have e2 : (((m : Int).natAbs : Int) % ((2 ^ 61 - 1 : Nat) : Int)) = (m : Int) := by
    show ((m : Int) % (2305843009213693951 : Int)) = m
    omega
  dsimp only
  rw [if_neg (show ¬ ((m : Int) < 0) by omega), e2, if_neg (show ¬ (((m : Int) == -1) = true) by simp <;> omega)]
theorem hash_run (r : Bool) (p : Program) (w : World) (n₀ : Nat) (ann : Option Value) (b : List Stmt) (env : Env) (q : Pos) (heap : Heap) (gens : Array GenState) (drawn : Drawn) (toks : Nat) (os : OsState) (k : Int) (t : Tok) (K : Int → Sem Fin) (H : Value → Sem Fin) (gd : Bool → Bool) (lv : List Value → List Value) (pos : Pos) :
  segGo treeTable p (w.withFollow "special-get-raises" r) n₀ ann 1 5 ⟨heap, gens, drawn, toks, os⟩ ⟨(pyHash (.int k t)).wrap K H gd lv, .body b env, pos, [topFrame q]⟩ =
   some (⟨heap, gens, drawn, toks + 1, os⟩, ⟨(pyHashByItsType.reduced (hX k)).wrap K H gd lv, .body b env, pos, [topFrame q]⟩) := by
  rw [PySem.W.Fast.te3277212676724774461, PySem.W.Fast.te14364793385576792824, PySem.W.Fast.te10540108854288196387, PySem.W.Fast.te199310478702765468]
  cases r <;> kernel_rfl!
theorem goes_hash {s : Shared} {m : Nat} {t : Tok} (h2 : m < 1152921504606846976) : Goes C 5 (pyHash (.int (m : Int) t)) s m { s with toks := s.toks + 1 } := fun K H gd lv pos => by
  obtain ⟨heap, gens, drawn, toks, os⟩ := s
  have e := hash_run (C.w.params.followText "special-get-raises") C.p C.w C.n₀ C.ann C.b C.env C.q heap gens drawn toks os m t K H gd lv pos
  rw [World.withFollow_self, hX_eq m h2] at e
  refine ⟨5, pos, Nat.le_refl _, e.trans ?_⟩
  have er : pyHashByItsType.reduced (m : Int) = .pure (m : Int) := by
    unfold pyHashByItsType.reduced
    have : (decide (-(2 ^ 63 : Int) ≤ (m : Int)) && decide ((m : Int) < 2 ^ 63)) = true := by
      rw [show (2 ^ 63 : Int) = 9223372036854775808 by decide]
      simp; omega
    rw [if_pos this, if_neg (show ¬ (((m : Int) == -1) = true) by simp <;> omega)]
    rfl
  rw [er]; rfl

-- from Goes2.lean


noncomputable def dobj (es : List DictEntry) (n : Nat) : Obj := ⟨.type "dict", none, .dict es.toArray n, #[]⟩
noncomputable def H (pre : List Obj) (o : Obj) (subs : List Obj) (l : Life) : Heap := ⟨(pre ++ o :: subs).toArray, l⟩

theorem H_raw (pre : List Obj) (o : Obj) (subs : List Obj) (l : Life) : (H pre o subs l).objs[pre.length]? = some o := by simp [H]
theorem H_get {pre : List Obj} {es : List DictEntry} {n : Nat} {subs : List Obj} {l : Life} : (H pre (dobj es n) subs l).get? pre.length = some (dobj es n) := by
  unfold Heap.get?
  rw [H_raw]
  rfl
theorem mti (o : Obj) (subs : List Obj) (f : Obj → Obj) : ∀ pre : List Obj, (pre ++ o :: subs).modifyTailIdx pre.length (List.modifyHead f) = pre ++ f o :: subs
  | [] => rfl
  | x :: pre => by
    show x :: (pre ++ o :: subs).modifyTailIdx pre.length (List.modifyHead f) = _
    rw [mti o subs f pre]; rfl
theorem H_upd {pre : List Obj} {o : Obj} {subs : List Obj} {l : Life} {f : Obj → Obj} : (H pre o subs l).update pre.length f = H pre (f o) subs l := by
  simp only [H, Heap.update, Heap.mk.injEq, and_true]
  apply Array.ext'
  simp only [Array.toList_modify, List.modify]
  exact mti o subs f pre
theorem H_last {pre : List Obj} {o x : Obj} {subs : List Obj} {l : Life} : H pre o (subs ++ [x]) l = H (pre ++ o :: subs) x [] l := by
  simp [H]

section
variable {C : Cx} {pre : List Obj} {es : List DictEntry} {n : Nat} {subs : List Obj} {l : Life} {gens : Array GenState} {drawn : Drawn} {toks : Nat} {os : OsState}

noncomputable abbrev Sh (h : Heap) (gens : Array GenState) (drawn : Drawn) (toks : Nat) (os : OsState) : Shared := ⟨h, gens, drawn, toks, os⟩

theorem goes_dictEntries {d : Addr} {s : Shared} {part : Option Value} (h : s.heap.get? d = some (dobj es n)) : Goes C 1 (dictEntries d part) s es.toArray s :=
  Goes.le (goes_bind' (goes_load h) goes_pure') (Nat.le_refl _)
theorem goes_dictEpoch {d : Addr} {s : Shared} {part : Option Value} (h : s.heap.get? d = some (dobj es n)) : Goes C 1 (dictEpoch d part) s n s :=
  Goes.le (goes_bind' (goes_load h) goes_pure') (Nat.le_refl _)

theorem places_nil {h : Int} (ha : ∀ e ∈ es, e.hash ≠ h) : placesWithHash es.toArray.size (fun i => es.toArray[i]?.map (·.hash)) h = [] := by
  unfold placesWithHash
  rw [List.filter_eq_nil_iff]
  intro i hi
  have hi' : i < es.length := by simpa using hi
  simp only [List.getElem?_toArray, List.getElem?_eq_getElem hi', Option.map_some, beq_iff_eq, Option.some.injEq]
  exact ha _ (List.getElem_mem hi')
theorem goes_dictFind {d : Addr} {s : Shared} {k : Int} {t : Tok} (h : s.heap.get? d = some (dobj es n)) (ha : ∀ e ∈ es, e.hash ≠ k) : Goes C 1 (dictFind d (.int k t) k) s none s := by
  unfold dictFind
  refine goes_holding (goes_bindN (goes_dictEntries h) ?_)
  dsimp only
  rw [places_nil ha]
  exact goes_pureN
theorem goes_updKeys {d : Addr} {s : Shared} {part : Option Value} {e : DictEntry} (h : s.heap.get? d = some (dobj es n)) (h' : (s.heap.update d (Obj.mapDictKeys (·.push e))).get? d = some (dobj (es ++ [e]) (n + 1)))
    (hn : Nat.ble C.n₀ d = true) (hz : es.length ≤ 100000) :
    Goes C 3 (updateDictKeys d (·.push e) part) s () { s with heap := s.heap.update d (Obj.mapDictKeys (·.push e)) } := by
  unfold updateDictKeys
  refine goes_bindN (goes_load h) ?_
  refine goes_bindN (goes_update h hn) ?_
  unfold lookBehind
  refine goes_bindN (goes_load h') ?_
  have : (dobj (es ++ [e]) (n + 1)).data.pastItsLine = none := pastItsLine_dict (by
    simp only [List.size_toArray, List.length_append, List.length_singleton]
    have : (2 : Nat) ^ 24 = 16777216 := by decide
    unfold sizeLine; omega)
  rw [this]
  exact goes_pureN
theorem H_map {e : DictEntry} : (H pre (dobj es n) subs l).update pre.length (Obj.mapDictKeys (·.push e)) = H pre (dobj (es ++ [e]) (n + 1)) subs l := by
  rw [H_upd]
  simp [dobj, Obj.mapDictKeys]

theorem goes_put {k : Nat} {t : Tok} {v : Value} {hd : Nat.ble C.n₀ pre.length = true} (ha : ∀ e ∈ es, e.hash ≠ (k : Int)) (hz : es.length ≤ 100000) :
    Goes C 4 (dictPut pre.length (k : Int) (.int k t) v) (Sh (H pre (dobj es n) subs l) gens drawn toks os) () (Sh (H pre (dobj (es ++ [⟨k, .int k t, v⟩]) (n + 1)) subs l) gens drawn toks os) := by
  unfold dictPut
  refine goes_bindN (goes_dictFind H_get ha) ?_
  have := goes_updKeys (C := C) (s := Sh (H pre (dobj es n) subs l) gens drawn toks os) (part := none) (e := ⟨k, .int k t, v⟩) H_get (by show (Heap.update _ _ _).get? _ = _; rw [H_map]; exact H_get) hd hz
  have e : ({ Sh (H pre (dobj es n) subs l) gens drawn toks os with heap := (Sh (H pre (dobj es n) subs l) gens drawn toks os).heap.update pre.length (Obj.mapDictKeys (·.push ⟨k, .int k t, v⟩)) } : Shared) = Sh (H pre (dobj (es ++ [⟨k, .int k t, v⟩]) (n + 1)) subs l) gens drawn toks os := by
    show Sh (Heap.update _ _ _) _ _ _ _ = _
    rw [H_map]
  rw [e] at this
  exact this.le (by first | omega | (simp; omega) | simp)

theorem goes_set {k : Nat} {t : Tok} {v : Value} (hd : Nat.ble C.n₀ pre.length = true) (hk : k < 1152921504606846976) (ha : ∀ e ∈ es, e.hash ≠ (k : Int)) (hz : es.length ≤ 100000) :
    Goes C 10 (dictSet pre.length (.int k t) v) (Sh (H pre (dobj es n) subs l) gens drawn toks os) () (Sh (H pre (dobj (es ++ [⟨k, .int k t, v⟩]) (n + 1)) subs l) gens drawn (toks + 1) os) := by
  unfold dictSet
  refine goes_holding (goes_bindN (goes_hash hk) ?_)
  unfold dictSetHashed
  refine goes_holding (goes_bindN (goes_dictFind H_get ha) ?_)
  refine goes_bindN goes_rule ?_
  have := goes_updKeys (C := C) (s := Sh (H pre (dobj es n) subs l) gens drawn (toks + 1) os) (part := keyPart (.int k t)) (e := ⟨k, .int k t, v⟩) H_get (by show (Heap.update _ _ _).get? _ = _; rw [H_map]; exact H_get) hd hz
  have e : ({ Sh (H pre (dobj es n) subs l) gens drawn (toks + 1) os with heap := (Sh (H pre (dobj es n) subs l) gens drawn (toks + 1) os).heap.update pre.length (Obj.mapDictKeys (·.push ⟨k, .int k t, v⟩)) } : Shared) = Sh (H pre (dobj (es ++ [⟨k, .int k t, v⟩]) (n + 1)) subs l) gens drawn (toks + 1) os := by
    show Sh (Heap.update _ _ _) _ _ _ _ = _
    rw [H_map]
  rw [e] at this
  exact this.le (by first | omega | (simp; omega) | simp)
end

-- from Goes3.lean

section
variable {C : Cx} {pre : List Obj} {es : List DictEntry} {n : Nat} {subs : List Obj} {l : Life} {gens : Array GenState} {drawn : Drawn} {toks : Nat} {os : OsState}

theorem goes_forIn_nil {α β : Type} {f : α → β → Sem (ForInStep β)} {b : β} {s : Shared} : Goes C 0 (forIn ([] : List α) b f) s b s := by
  rw [List.forIn_nil]; exact goes_pureN
theorem goes_forIn_cons {α β : Type} {f : α → β → Sem (ForInStep β)} {x : α} {xs : List α} {b b' r : β} {s s₁ s' : Shared}
    {n₁ N : Nat} (h : Goes C n₁ (f x b) s (.yield b') s₁) (k : Goes C (N - n₁) (forIn xs b' f) s₁ r s') (e : n₁ ≤ N := by first | omega | (simp; omega) | simp) : Goes C N (forIn (x :: xs) b f) s r s' := by
  rw [List.forIn_cons]; exact goes_bindN h k e

noncomputable abbrev Pr := Nat × Str
noncomputable def entL (t : Nat) : List Pr → List DictEntry
  | [] => []
  | p :: r => ⟨(p.1 : Int), .int (p.1 : Int) t, .str p.2 (t + 1)⟩ :: entL (t + 3) r
noncomputable def entS (t : Nat) : List Pr → List DictEntry
  | [] => []
  | p :: r => ⟨(p.1 : Int), .int (p.1 : Int) t, .str p.2 (t + 1)⟩ :: entS (t + 2) r
theorem entL_length : ∀ (t : Nat) (ps : List Pr), (entL t ps).length = ps.length
  | _, [] => rfl
  | t, p :: r => congrArg (· + 1) (entL_length (t + 3) r)
theorem entS_length : ∀ (t : Nat) (ps : List Pr), (entS t ps).length = ps.length
  | _, [] => rfl
  | t, p :: r => congrArg (· + 1) (entS_length (t + 2) r)
theorem entL_hash : ∀ {t : Nat} {ps : List Pr} {e : DictEntry}, e ∈ entL t ps → ∃ p ∈ ps, e.hash = (p.1 : Int)
  | _, [], _, h => by cases h
  | t, p :: r, e, h => by
    rcases List.mem_cons.mp h with rfl | h
    · exact ⟨p, .head _, rfl⟩
    · obtain ⟨q, hq, e⟩ := entL_hash h; exact ⟨q, .tail _ hq, e⟩
theorem entS_hash : ∀ {t : Nat} {ps : List Pr} {e : DictEntry}, e ∈ entS t ps → ∃ p ∈ ps, e.hash = (p.1 : Int)
  | _, [], _, h => by cases h
  | t, p :: r, e, h => by
    rcases List.mem_cons.mp h with rfl | h
    · exact ⟨p, .head _, rfl⟩
    · obtain ⟨q, hq, e⟩ := entS_hash h; exact ⟨q, .tail _ hq, e⟩

structure ItemOk (C : Cx) (x : Sem Value × Sem Value) (p : Pr) : Prop where
  key : ∀ s : Shared, Goes C 1 x.1 s (.int (p.1 : Int) s.toks) { s with toks := s.toks + 1 }
  val : ∀ s : Shared, Goes C 2 x.2 s (.str p.2 s.toks) { s with toks := s.toks + 1 }
  fits : p.1 < 1152921504606846976
inductive Items (C : Cx) : List (Sem Value × Sem Value) → List Pr → Prop
  | nil : Items C [] []
  | cons {x p xs ps} : ItemOk C x p → Items C xs ps → Items C (x :: xs) (p :: ps)
theorem Items.length {xs ps} (h : Items C xs ps) : xs.length = ps.length := by
  induction h with
  | nil => rfl
  | cons _ _ ih => simp [ih]

theorem goes_loopL {xs : List (Sem Value × Sem Value)} {ps : List Pr} (I : Items C xs ps) (hd : Nat.ble C.n₀ pre.length = true) :
    ∀ (es : List DictEntry) (n toks : Nat), (∀ e ∈ es, ∀ p ∈ ps, e.hash < (p.1 : Int)) → ps.Pairwise (fun a b => a.1 < b.1) → es.length + ps.length ≤ 100000 →
    Goes C (13 * ps.length) (forIn xs PUnit.unit fun x r => do
        let kv ← x.1
        let vv ← holding [kv] x.2
        holding [kv, vv] (dictSet pre.length kv vv)
        pure (ForInStep.yield PUnit.unit)) (Sh (H pre (dobj es n) subs l) gens drawn toks os) PUnit.unit
      (Sh (H pre (dobj (es ++ entL toks ps) (n + ps.length)) subs l) gens drawn (toks + 3 * ps.length) os) := by
  induction I with
  | nil => intro es n toks _ _ _; simp only [entL, List.append_nil, List.length_nil, Nat.mul_zero, Nat.add_zero]; exact goes_forIn_nil.le (Nat.zero_le _)
  | @cons x p xs ps hx I ih =>
    intro es n toks hlt hpw hz
    refine goes_forIn_cons (goes_bind' (hx.key _) (goes_bind' (goes_holding (hx.val _)) (goes_bind' (goes_holding (goes_set hd hx.fits (fun e he => Int.ne_of_lt (hlt e he p (.head _))) (by simp at hz; omega))) goes_pure'))) ?_
    have hpw' := List.pairwise_cons.mp hpw
    have := ih (es ++ [⟨(p.1 : Int), .int (p.1 : Int) toks, .str p.2 (toks + 1)⟩]) (n + 1) (toks + 1 + 1 + 1) (fun e he q hq => by
      rcases List.mem_append.mp he with he | he
      · exact hlt e he q (.tail _ hq)
      · rw [List.mem_singleton.mp he]; have := hpw'.1 q hq; show (p.1 : Int) < q.1; omega) hpw'.2 (by simp at hz ⊢; omega)
    have e1 : es ++ [(⟨(p.1 : Int), .int (p.1 : Int) toks, .str p.2 (toks + 1)⟩ : DictEntry)] ++ entL (toks + 1 + 1 + 1) ps = es ++ entL toks (p :: ps) := by simp [entL]
    have e2 : n + 1 + ps.length = n + (p :: ps).length := by simp; omega
    have e3 : toks + 1 + 1 + 1 + 3 * ps.length = toks + 3 * (p :: ps).length := by simp; omega
    rw [e1, e2, e3] at this
    exact this.le (by first | omega | (simp; omega) | simp)

theorem goes_subL {xs : List (Sem Value × Sem Value)} {ps : List Pr} (I : Items C xs ps) (hd : Nat.ble C.n₀ pre.length = true) (hlong : ¬ xs.length ≤ 15) (hpw : ps.Pairwise (fun a b => a.1 < b.1)) (hz : ps.length ≤ 100000) :
    Goes C (2 + 13 * ps.length) (subDict xs) (Sh ⟨pre.toArray, l⟩ gens drawn toks os) pre.length (Sh (H pre (dobj (entL toks ps) ps.length) [] l) gens drawn (toks + 3 * ps.length) os) := by
  unfold subDict
  refine goes_bindN goes_alloc ?_
  have e : (Sh ⟨pre.toArray, l⟩ gens drawn toks os).heap.push { cls := .type "dict", data := .dict #[] } = H pre (dobj [] 0) [] l := by simp [H, Heap.push, dobj]
  have e0 : (Sh ⟨pre.toArray, l⟩ gens drawn toks os).heap.objs.size = pre.length := by simp
  rw [e, e0]
  rw [if_neg hlong]
  have := goes_loopL (subs := []) (l := l) (gens := gens) (drawn := drawn) (os := os) I hd [] 0 toks (fun e he => by cases he) hpw (by simpa using hz)
  rw [List.nil_append, Nat.zero_add] at this
  exact Goes.le (goes_bind' (goes_holding (goes_bind' goes_rule (goes_bind' this goes_pure'))) goes_pure') (by omega)

theorem goes_evalPairs {xs : List (Sem Value × Sem Value)} {ps : List Pr} (I : Items C xs ps) : ∀ (h : Heap) (toks : Nat),
    Goes C (3 * ps.length) (evalPairs xs) (Sh h gens drawn toks os) ((entS toks ps).map fun e => (e.key, e.val)) (Sh h gens drawn (toks + 2 * ps.length) os) := by
  induction I with
  | nil => intro h toks; exact goes_pureN
  | @cons x p xs ps hx I ih =>
    intro h toks
    unfold evalPairs
    refine goes_bindN (hx.key _) (goes_bindN (goes_holding (hx.val _)) ?_)
    have := ih h (toks + 1 + 1)
    rw [show toks + 1 + 1 + 2 * ps.length = toks + 2 * (p :: ps).length by simp; omega] at this
    exact Goes.le (goes_bind' (goes_holding this) goes_pure') (by first | omega | (simp; omega))
theorem goes_loopS (hd : Nat.ble C.n₀ pre.length = true) : ∀ (ps : List Pr) (es : List DictEntry) (n t0 toks : Nat), (∀ p ∈ ps, p.1 < 1152921504606846976) → (∀ e ∈ es, ∀ p ∈ ps, e.hash < (p.1 : Int)) → ps.Pairwise (fun a b => a.1 < b.1) → es.length + ps.length ≤ 100000 →
    Goes C (10 * ps.length) (forIn ((entS t0 ps).map fun e => (e.key, e.val)) PUnit.unit fun x r => do
        dictSet pre.length x.1 x.2
        pure (ForInStep.yield PUnit.unit)) (Sh (H pre (dobj es n) subs l) gens drawn toks os) PUnit.unit
      (Sh (H pre (dobj (es ++ entS t0 ps) (n + ps.length)) subs l) gens drawn (toks + ps.length) os)
  | [], es, n, t0, toks, _, _, _, _ => by simp only [show entS t0 [] = [] from rfl, List.append_nil, List.length_nil, Nat.add_zero, List.map_nil]; exact goes_forIn_nil.le (Nat.zero_le _)
  | p :: ps, es, n, t0, toks, hf, hlt, hpw, hz => by
    have hpw' := List.pairwise_cons.mp hpw
    refine goes_forIn_cons (goes_bind' (goes_set hd (hf p (.head _)) (fun e he => Int.ne_of_lt (hlt e he p (.head _))) (by simp at hz; omega)) goes_pure') ?_
    have := goes_loopS hd ps (es ++ [⟨(p.1 : Int), .int (p.1 : Int) t0, .str p.2 (t0 + 1)⟩]) (n + 1) (t0 + 2) (toks + 1) (fun q hq => hf q (.tail _ hq)) (fun e he q hq => by
      rcases List.mem_append.mp he with he | he
      · exact hlt e he q (.tail _ hq)
      · rw [List.mem_singleton.mp he]; have := hpw'.1 q hq; show (p.1 : Int) < q.1; omega) hpw'.2 (by simp at hz ⊢; omega)
    have e1 : es ++ [(⟨(p.1 : Int), .int (p.1 : Int) t0, .str p.2 (t0 + 1)⟩ : DictEntry)] ++ entS (t0 + 2) ps = es ++ entS t0 (p :: ps) := by rw [List.append_assoc]; rfl
    have e2 : n + 1 + ps.length = n + (p :: ps).length := by simp; omega
    have e3 : toks + 1 + ps.length = toks + (p :: ps).length := by simp; omega
    rw [e1, e2, e3] at this
    exact this.le (by first | omega | (simp; omega) | simp)
theorem goes_subS {xs : List (Sem Value × Sem Value)} {ps : List Pr} (I : Items C xs ps) (hf : ∀ p ∈ ps, p.1 < 1152921504606846976) (hd : Nat.ble C.n₀ pre.length = true) (hshort : xs.length ≤ 15) (hpw : ps.Pairwise (fun a b => a.1 < b.1)) (hz : ps.length ≤ 100000) :
    Goes C (2 + 13 * ps.length) (subDict xs) (Sh ⟨pre.toArray, l⟩ gens drawn toks os) pre.length (Sh (H pre (dobj (entS toks ps) ps.length) [] l) gens drawn (toks + 3 * ps.length) os) := by
  unfold subDict
  refine goes_bindN goes_alloc ?_
  have e : (Sh ⟨pre.toArray, l⟩ gens drawn toks os).heap.push { cls := .type "dict", data := .dict #[] } = H pre (dobj [] 0) [] l := by simp [H, Heap.push, dobj]
  have e0 : (Sh ⟨pre.toArray, l⟩ gens drawn toks os).heap.objs.size = pre.length := by simp
  rw [e, e0]
  rw [if_pos hshort]
  have := goes_loopS (C := C) (subs := []) (l := l) (gens := gens) (drawn := drawn) (os := os) hd ps [] 0 toks (toks + 2 * ps.length) hf (fun e he => by cases he) hpw (by simpa using hz)
  rw [List.nil_append, Nat.zero_add, show toks + 2 * ps.length + ps.length = toks + 3 * ps.length by omega] at this
  exact Goes.le (goes_bind' (goes_holding (goes_bind' (goes_evalPairs I _ _) (goes_holding (goes_bind' this goes_pure')))) goes_pure') (by omega)

/-- merging a dict made just now (the last object) into the first one -/
theorem goes_isDict {a : Addr} {s : Shared} (h : s.heap.get? a = some (dobj es n)) : Goes C 1 (isInstance (.ref a) (.type "dict")) s true s := by
  unfold isInstance
  have e1 : isSubtype (.type "dict") (.type "dict") = pure true := by rw [isSubtype_type]; kernel_rfl!
  refine goes_bindN (goes_bind' (goes_load h) goes_pure') ?_
  show Goes C _ (isSubtype (.type "dict") (.type "dict")) s true s
  rw [e1]; exact goes_pureN
theorem goes_iterOf {a : Addr} {s : Shared} (h : s.heap.get? a = some (dobj es n)) : Goes C 1 (specialOf (.ref a) "__iter__") s (some (.builtin "dict.__iter__")) s := by
  unfold specialOf
  have e2 : typeLookup (.type "dict") "__iter__" = pure (some (.builtin "dict.__iter__")) := by rw [typeLookup_type, builtinLookup_eq_fast]; kernel_rfl!
  refine goes_bindN (goes_bind' (goes_load h) goes_pure') ?_
  show Goes C _ (typeLookup (.type "dict") "__iter__") s _ s
  rw [e2]; exact goes_pureN
end

-- from Goes4.lean

section
variable {C : Cx} {pre : List Obj} {es ss : List DictEntry} {n m : Nat} {subs : List Obj} {l : Life} {gens : Array GenState} {drawn : Drawn} {toks : Nat} {os : OsState}

theorem goes_range' {f : Nat → PUnit → Sem (ForInStep PUnit)} {N c : Nat} (S : Nat → Shared) (h : ∀ i, i < N → Goes C c (f i ⟨⟩) (S i) (.yield ⟨⟩) (S (i + 1))) :
    ∀ (k i : Nat), i + k = N → Goes C (c * k) (forIn (List.range' i k) PUnit.unit f) (S i) PUnit.unit (S N)
  | 0, i, e => by
    obtain rfl : i = N := by omega
    exact goes_forIn_nil.le (Nat.zero_le _)
  | k + 1, i, e => by
    rw [List.range'_succ]
    exact goes_forIn_cons (h i (by omega)) ((goes_range' S h k (i + 1) (by omega)).le (by rw [Nat.mul_succ]; omega)) (by rw [Nat.mul_succ]; omega)
theorem goes_range {f : Nat → PUnit → Sem (ForInStep PUnit)} {N c : Nat} (S : Nat → Shared) (h : ∀ i, i < N → Goes C c (f i ⟨⟩) (S i) (.yield ⟨⟩) (S (i + 1))) :
    Goes C (c * N) (forIn (List.range N) PUnit.unit f) (S 0) PUnit.unit (S N) := by
  rw [List.range_eq_range']
  exact goes_range' S h N 0 (by omega)

noncomputable def Keyed (e : DictEntry) : Prop := ∃ (k : Nat) (t : Tok), e.hash = (k : Int) ∧ e.key = .int (k : Int) t
theorem keyedL : ∀ {t : Nat} {ps : List Pr} {e : DictEntry}, e ∈ entL t ps → Keyed e
  | _, [], _, h => by cases h
  | t, p :: r, e, h => by
    rcases List.mem_cons.mp h with rfl | h
    · exact ⟨p.1, t, rfl, rfl⟩
    · exact keyedL h
theorem keyedS : ∀ {t : Nat} {ps : List Pr} {e : DictEntry}, e ∈ entS t ps → Keyed e
  | _, [], _, h => by cases h
  | t, p :: r, e, h => by
    rcases List.mem_cons.mp h with rfl | h
    · exact ⟨p.1, t, rfl, rfl⟩
    · exact keyedS h

theorem H_sub {o : Obj} : (H pre o (subs ++ [dobj ss m]) l).get? (pre.length + 1 + subs.length) = some (dobj ss m) := by
  rw [H_last]
  have : pre.length + 1 + subs.length = (pre ++ o :: subs).length := by simp; omega
  rw [this]
  exact H_get

theorem goes_merge (hd : Nat.ble C.n₀ pre.length = true) (hsys : (pre.length + 1 + subs.length == sysModules) = false) (hk : ∀ e ∈ ss, Keyed e) (hes : es ≠ [])
    (hlt : ∀ e ∈ es, ∀ e' ∈ ss, e.hash < e'.hash) (hpw : ss.Pairwise (fun a b => a.hash < b.hash)) (hz : es.length + ss.length ≤ 100000) :
    Goes C (5 + 6 * ss.length) (mergeMapping pre.length (.ref (pre.length + 1 + subs.length)) false) (Sh (H pre (dobj es n) (subs ++ [dobj ss m]) l) gens drawn toks os) ()
      (Sh (H pre (dobj (es ++ ss) (n + ss.length)) (subs ++ [dobj ss m]) l) gens drawn toks os) := by
  unfold mergeMapping
  refine goes_bindN (m := isInstance _ _) (goes_isDict (es := ss) (n := m) H_sub) ?_
  dsimp only
  rw [if_pos rfl]
  refine goes_bindN (m := specialOf _ _) (goes_iterOf (es := ss) (n := m) H_sub) ?_
  refine goes_bindN (a := true) goes_pure' ?_
  dsimp only
  rw [if_neg (by rw [hsys]; exact Bool.false_ne_true)]
  refine goes_bindN (goes_dictEntries H_get) ?_
  rw [if_neg (by cases es with | nil => exact absurd rfl hes | cons => simp)]
  refine goes_bindN (goes_dictEntries H_sub) ?_
  refine goes_bindN (goes_dictEpoch H_sub) ?_
  have fin : ∀ {f : Nat → PUnit → Sem (ForInStep PUnit)}, (∀ i, i < ss.length → Goes C 6 (f i ⟨⟩) (Sh (H pre (dobj (es ++ ss.take i) (n + i)) (subs ++ [dobj ss m]) l) gens drawn toks os) (.yield ⟨⟩)
      (Sh (H pre (dobj (es ++ ss.take (i + 1)) (n + (i + 1))) (subs ++ [dobj ss m]) l) gens drawn toks os)) →
      Goes C (6 * ss.length) (forIn (List.range ss.length) PUnit.unit f) (Sh (H pre (dobj es n) (subs ++ [dobj ss m]) l) gens drawn toks os) PUnit.unit
        (Sh (H pre (dobj (es ++ ss) (n + ss.length)) (subs ++ [dobj ss m]) l) gens drawn toks os) := fun h => by
    have key := goes_range (C := C) (N := ss.length) (fun i => Sh (H pre (dobj (es ++ ss.take i) (n + i)) (subs ++ [dobj ss m]) l) gens drawn toks os) h
    simpa only [List.take_zero, List.append_nil, Nat.add_zero, List.take_length] using key
  rw [List.size_toArray]
  refine goes_bindN (fin ?_) goes_pureN
  · intro i hi
    refine goes_bindN (m := dictEntries _) (goes_dictEntries (es := ss) (n := m) H_sub) ?_
    have ei : ss.toArray[i]? = some ss[i] := by simp [hi]
    rw [ei]
    dsimp only
    obtain ⟨k, t, eh, ek⟩ := hk ss[i] (List.getElem_mem hi)
    have eE : ss[i] = ⟨(k : Int), .int (k : Int) t, ss[i].val⟩ := by
      cases h : ss[i] with
      | mk a b c => rw [h] at eh ek; simp only at eh ek; rw [eh, ek]
    have put := goes_put (C := C) (pre := pre) (es := es ++ ss.take i) (n := n + i) (subs := subs ++ [dobj ss m]) (l := l) (gens := gens) (drawn := drawn) (toks := toks) (os := os) (k := k) (t := t) (v := ss[i].val) (hd := hd)
      (fun e he => by
        rcases List.mem_append.mp he with he | he
        · have := hlt e he ss[i] (List.getElem_mem hi); rw [eh] at this; exact Int.ne_of_lt this
        · obtain ⟨j, hj, rfl⟩ := List.getElem_of_mem he
          rw [List.getElem_take]
          have hj' : j < i := by simp at hj; omega
          have := (List.pairwise_iff_getElem.mp hpw) j i (by omega) hi hj'
          rw [eh] at this; exact Int.ne_of_lt this) (by simp; omega)
    have e2 : es ++ ss.take i ++ [(⟨(k : Int), .int (k : Int) t, ss[i].val⟩ : DictEntry)] = es ++ ss.take (i + 1) := by
      rw [← eE, List.append_assoc, List.take_succ_eq_append_getElem hi]
    rw [e2, ← ek, ← eh] at put
    rw [if_neg Bool.false_ne_true]
    refine goes_bindN (goes_holding put) ?_
    refine goes_bindN (goes_dictEpoch H_sub) ?_
    rw [if_neg (by simp)]
    exact goes_pureN
end

-- from Goes5.lean


structure Disp where
  body : (Option (Sem Value) × Sem Value) → (Option Addr × List (Sem Value × Sem Value)) → Sem (ForInStep (Option Addr × List (Sem Value × Sem Value)))
  fin : (Option Addr × List (Sem Value × Sem Value)) → Sem Value
  eq : ∀ items, dictDisplay items = Sem.bind (forIn items (none, []) body) fin
noncomputable def disp : Disp := ⟨_, _, fun items => rfl⟩

section
variable {C : Cx} {pre : List Obj} {es ss : List DictEntry} {n m : Nat} {subs : List Obj} {l : Life} {gens : Array GenState} {drawn : Drawn} {toks : Nat} {os : OsState}
noncomputable abbrev mk (x : Sem Value × Sem Value) : Option (Sem Value) × Sem Value := (some x.1, x.2)

theorem Items.take {xs ps} (h : Items C xs ps) : ∀ k, Items C (xs.take k) (ps.take k) := by
  induction h with
  | nil => intro k; cases k <;> exact .nil
  | cons hx _ ih => intro k; cases k with
    | zero => exact .nil
    | succ k => exact .cons hx (ih k)
theorem Items.drop {xs ps} (h : Items C xs ps) : ∀ k, Items C (xs.drop k) (ps.drop k) := by
  induction h with
  | nil => intro k; cases k <;> exact .nil
  | cons hx hxs ih => intro k; cases k with
    | zero => exact .cons hx hxs
    | succ k => exact ih k
theorem Items.fits {xs ps} (h : Items C xs ps) : ∀ p ∈ ps, p.1 < 1152921504606846976 := by
  induction h with
  | nil => intro p hp; cases hp
  | cons hx _ ih => intro p hp; rcases List.mem_cons.mp hp with rfl | hp; exact hx.fits; exact ih p hp

theorem body_more {x : Sem Value × Sem Value} {main : Option Addr} {run : List (Sem Value × Sem Value)} (h : run.length ≠ 16) : disp.body (mk x) (main, run) = pure (.yield (main, run ++ [x])) := by
  show (if ((run ++ [x]).length == 17) = true then _ else _) = _
  rw [if_neg (by simp; omega)]
theorem goes_run {N : Nat} {main : Option Addr} {s s' : Shared} {r : Option Addr × List (Sem Value × Sem Value)} {rest : List (Option (Sem Value) × Sem Value)} : ∀ (xs run : List (Sem Value × Sem Value)), run.length + xs.length ≤ 16 →
    Goes C N (forIn rest (main, run ++ xs) disp.body) s r s' → Goes C N (forIn (xs.map mk ++ rest) (main, run) disp.body) s r s'
  | [], run, _, h => by simpa using h
  | x :: xs, run, hl, h => by
    rw [List.map_cons, List.cons_append]
    refine goes_forIn_cons (n₁ := 0) (by rw [body_more (by simp at hl; omega)]; exact goes_pure') (goes_run xs (run ++ [x]) (by simp at hl ⊢; omega) ?_)
    simpa using h

/-- the flush, as the display writes it -/
theorem body_full0 {N : Nat} {x : Sem Value × Sem Value} {run : List (Sem Value × Sem Value)} {s s' : Shared} {a : Addr} (h : run.length = 16) (k : Goes C N (subDict (run ++ [x])) s a s') :
    Goes C N (disp.body (mk x) (none, run)) s (.yield (some a, [])) s' := by
  show Goes C _ (if ((run ++ [x]).length == 17) = true then _ else _) s _ s'
  rw [if_pos (by simp; omega)]
  refine (goes_bind' (n₂ := 0) ?_ goes_pure')
  dsimp only
  rw [if_neg (by simp)]
  exact goes_bind' (n₂ := 0) k goes_pure'
theorem goes_flush1 {n₁ n₂ : Nat} {run : List (Sem Value × Sem Value)} {s s₁ s' : Shared} {d a : Addr} (k : Goes C n₁ (subDict run) s a s₁) (k' : Goes C n₂ (mergeMapping d (.ref a) false) s₁ () s') (f : Value → Sem Unit) :
    Goes C (n₁ + n₂) (do
      let sub ← holding [.ref d] (subDict run)
      (holding [.ref d, .ref sub] (mergeMapping d (.ref sub) false)).onRaise f
      pure (some d)) s (some d) s' :=
  goes_bind' (goes_holding k) (goes_bind' (n₂ := 0) (goes_onRaise (goes_holding k')) goes_pure')
theorem body_full1 {n₁ n₂ : Nat} {x : Sem Value × Sem Value} {run : List (Sem Value × Sem Value)} {s s₁ s' : Shared} {d a : Addr} (h : run.length = 16) (k : Goes C n₁ (subDict (run ++ [x])) s a s₁) (k' : Goes C n₂ (mergeMapping d (.ref a) false) s₁ () s') :
    Goes C (n₁ + n₂) (disp.body (mk x) (some d, run)) s (.yield (some d, [])) s' := by
  show Goes C _ (if ((run ++ [x]).length == 17) = true then _ else _) s _ s'
  rw [if_pos (by simp; omega)]
  refine (goes_bind' (n₂ := 0) ?_ goes_pure')
  dsimp only
  rw [if_neg (by simp)]
  exact goes_flush1 k k' _
theorem fin_some {n₁ n₂ : Nat} {run : List (Sem Value × Sem Value)} {s s₁ s' : Shared} {d a : Addr} (h : run ≠ []) (k : Goes C n₁ (subDict run) s a s₁) (k' : Goes C n₂ (mergeMapping d (.ref a) false) s₁ () s') :
    Goes C (n₁ + n₂) (disp.fin (some d, run)) s (.ref d) s' := by
  refine (goes_bind' (n₂ := 0) (a := some d) (s₁ := s') ?_ goes_pure')
  dsimp only
  rw [if_neg (by cases run with | nil => exact absurd rfl h | cons => simp)]
  exact goes_flush1 k k' _

theorem chunk17 {n₁ n₂ : Nat} {main : Option Addr} {s s₁ s' : Shared} {r : Option Addr × List (Sem Value × Sem Value)} {rest : List (Option (Sem Value) × Sem Value)} {d : Addr} (xs : List (Sem Value × Sem Value)) (hx : xs.length = 17)
    (h : ∀ x run, run.length = 16 → run ++ [x] = xs → Goes C n₁ (disp.body (mk x) (main, run)) s (.yield (some d, [])) s₁) (k : Goes C n₂ (forIn rest (some d, []) disp.body) s₁ r s') :
    Goes C (n₁ + n₂) (forIn (xs.map mk ++ rest) (main, []) disp.body) s r s' := by
  obtain ⟨run, x, rfl⟩ : ∃ run x, xs = run ++ [x] := by
    have hne : xs ≠ [] := by intro e; rw [e] at hx; cases hx
    exact ⟨xs.dropLast, xs.getLast hne, (List.dropLast_concat_getLast hne).symm⟩
  have hr : run.length = 16 := by simp at hx; omega
  rw [List.map_append, List.append_assoc]
  refine goes_run run [] (by simp; omega) ?_
  rw [List.nil_append]
  exact goes_forIn_cons (h x run hr rfl) (k.le (by omega))

noncomputable def subObjs (t : Nat) : Nat → List Pr → List Obj
  | 0, _ => []
  | j + 1, ps => dobj (entL t (ps.take 17)) 17 :: subObjs (t + 51) j (ps.drop 17)
theorem entL_app : ∀ (t : Nat) (a b : List Pr), entL t (a ++ b) = entL t a ++ entL (t + 3 * a.length) b
  | t, [], b => by rw [List.nil_append]; rfl
  | t, p :: a, b => by
    have := entL_app (t + 3) a b
    show _ :: entL (t + 3) (a ++ b) = _ :: (entL (t + 3) a ++ entL (t + 3 * (a.length + 1)) b)
    rw [this, show t + 3 + 3 * a.length = t + 3 * (a.length + 1) by omega]

theorem hashPwL : ∀ {t : Nat} {a : List Pr}, a.Pairwise (fun a b => a.1 < b.1) → (entL t a).Pairwise (fun a b => a.hash < b.hash)
  | _, [], _ => .nil
  | t, p :: a, h => by
    have h' := List.pairwise_cons.mp h
    refine List.pairwise_cons.mpr ⟨fun e he => ?_, hashPwL h'.2⟩
    obtain ⟨q, hq, e1⟩ := entL_hash he
    have := h'.1 q hq
    rw [e1]; show (p.1 : Int) < q.1; omega
theorem hashPwS : ∀ {t : Nat} {a : List Pr}, a.Pairwise (fun a b => a.1 < b.1) → (entS t a).Pairwise (fun a b => a.hash < b.hash)
  | _, [], _ => .nil
  | t, p :: a, h => by
    have h' := List.pairwise_cons.mp h
    refine List.pairwise_cons.mpr ⟨fun e he => ?_, hashPwS h'.2⟩
    obtain ⟨q, hq, e1⟩ := entS_hash he
    have := h'.1 q hq
    rw [e1]; show (p.1 : Int) < q.1; omega

theorem goes_rest (hd : ∀ k, Nat.ble C.n₀ (pre.length + k) = true) (hsys : ∀ k, (pre.length + 1 + k == sysModules) = false) :
    ∀ (j : Nat) (xs : List (Sem Value × Sem Value)) (ps : List Pr) (es : List DictEntry) (n : Nat) (subs : List Obj) (toks : Nat), Items C xs ps → 17 * j ≤ ps.length → ps.length - 17 * j ≤ 16 → es ≠ [] → (∀ e ∈ es, ∀ p ∈ ps, e.hash < (p.1 : Int)) → ps.Pairwise (fun a b => a.1 < b.1) → es.length + ps.length ≤ 100000 →
    Goes C (330 * j) (forIn (xs.map mk) (some pre.length, []) disp.body) (Sh (H pre (dobj es n) subs l) gens drawn toks os) (some pre.length, xs.drop (17 * j))
      (Sh (H pre (dobj (es ++ entL toks (ps.take (17 * j))) (n + 17 * j)) (subs ++ subObjs toks j ps) l) gens drawn (toks + 51 * j) os)
  | 0, xs, ps, es, n, subs, toks, I, hl, hr, _, _, _, _ => by
    have := goes_run (C := C) (main := some pre.length) (s := Sh (H pre (dobj es n) subs l) gens drawn toks os) (s' := Sh (H pre (dobj es n) subs l) gens drawn toks os) (rest := []) (r := (some pre.length, xs)) xs [] (by have := I.length; simp; omega) (by rw [List.nil_append]; exact goes_forIn_nil)
    have e1 : subObjs toks 0 ps = [] := rfl
    have e2 : entL toks (ps.take (17 * 0)) = [] := by rw [Nat.mul_zero, List.take_zero]; rfl
    rw [e1, e2]; simpa using this
  | j + 1, xs, ps, es, n, subs, toks, I, hl, hr, hne, hlt, hpw, hz => by
    have hxl := I.length
    have I1 := I.take 17
    have I2 := I.drop 17
    have l1 : (ps.take 17).length = 17 := by simp; omega
    have l2 : (xs.take 17).length = 17 := by simp; omega
    have hsp : ps.take 17 ++ ps.drop 17 = ps := List.take_append_drop ..
    have hpw1 : (ps.take 17).Pairwise (fun a b => a.1 < b.1) := hpw.take
    have hpw2 : (ps.drop 17).Pairwise (fun a b => a.1 < b.1) := hpw.drop
    have hcross : ∀ p ∈ ps.take 17, ∀ q ∈ ps.drop 17, p.1 < q.1 := by
      rw [← hsp] at hpw
      exact (List.pairwise_append.mp hpw).2.2
    have e0 : xs.map mk = (xs.take 17).map mk ++ (xs.drop 17).map mk := by rw [← List.map_append, List.take_append_drop]
    rw [e0]
    have hlen : (pre ++ dobj es n :: subs).length = pre.length + 1 + subs.length := by simp; omega
    refine Goes.le (chunk17 (n₁ := 330) (n₂ := 330 * j) (d := pre.length) (s₁ := Sh (H pre (dobj (es ++ entL toks (ps.take 17)) (n + 17)) (subs ++ [dobj (entL toks (ps.take 17)) 17]) l) gens drawn (toks + 51) os) (xs.take 17) l2 (fun x run hrun hx => ?_) ?_) (by omega)
    · have sub := goes_subL (C := C) (pre := pre ++ dobj es n :: subs) (l := l) (gens := gens) (drawn := drawn) (toks := toks) (os := os) I1 (by rw [hlen, show pre.length + 1 + subs.length = pre.length + (1 + subs.length) by omega]; exact hd _) (by omega) hpw1 (by omega)
      rw [l1, ← H_last, hlen] at sub
      have merge := goes_merge (C := C) (pre := pre) (es := es) (n := n) (subs := subs) (l := l) (gens := gens) (drawn := drawn) (toks := toks + 51) (os := os) (ss := entL toks (ps.take 17)) (m := 17) (hd 0) (hsys _) (fun e he => keyedL he) hne
        (fun e he e' he' => by
          obtain ⟨q, hq, e2⟩ := entL_hash he'
          rw [e2]; exact hlt e he q (List.mem_of_mem_take hq)) (hashPwL hpw1) (by rw [entL_length]; simp; omega)
      rw [entL_length, l1] at merge
      refine Goes.le (body_full1 (n₁ := 223) (n₂ := 107) hrun (a := pre.length + 1 + subs.length) (s₁ := Sh (H pre (dobj es n) (subs ++ [dobj (entL toks (ps.take 17)) 17]) l) gens drawn (toks + 51) os) ?_ merge) (by omega)
      rw [hx]
      exact sub
    · have ih := goes_rest hd hsys j (xs.drop 17) (ps.drop 17) (es ++ entL toks (ps.take 17)) (n + 17) (subs ++ [dobj (entL toks (ps.take 17)) 17]) (toks + 51) I2 (by simp; omega) (by simp; omega) (by simp [hne])
        (fun e he p hp => by
          rcases List.mem_append.mp he with he | he
          · exact hlt e he p (List.mem_of_mem_drop hp)
          · obtain ⟨q, hq, e2⟩ := entL_hash he
            rw [e2]; have := hcross q hq p hp; omega) hpw2 (by simp [entL_length]; omega)
      have x1 : (xs.drop 17).drop (17 * j) = xs.drop (17 * (j + 1)) := by rw [List.drop_drop]; congr 1; omega
      have x2 : es ++ entL toks (ps.take 17) ++ entL (toks + 51) ((ps.drop 17).take (17 * j)) = es ++ entL toks (ps.take (17 * (j + 1))) := by
        have : ps.take (17 * (j + 1)) = ps.take 17 ++ (ps.drop 17).take (17 * j) := by rw [← List.take_add]; congr 1; omega
        rw [this, entL_app, l1, List.append_assoc]
      have x3 : n + 17 + 17 * j = n + 17 * (j + 1) := by omega
      have x4 : toks + 51 + 51 * j = toks + 51 * (j + 1) := by omega
      have x5 : subs ++ [dobj (entL toks (ps.take 17)) 17] ++ subObjs (toks + 51) j (ps.drop 17) = subs ++ subObjs toks (j + 1) ps := by rw [List.append_assoc]; rfl
      rw [x1, x2, x3, x4, x5] at ih
      exact ih

/-- the whole display: one chunk of 17, j more, and 1 to 15 left -/
theorem goes_display {xs : List (Sem Value × Sem Value)} {ps : List Pr} (j : Nat) (I : Items C xs ps) (hl : 17 * (j + 1) < ps.length) (hr : ps.length - 17 * (j + 1) ≤ 15) (hpw : ps.Pairwise (fun a b => a.1 < b.1)) (hz : ps.length ≤ 100000)
    (hd : ∀ k, Nat.ble C.n₀ (pre.length + k) = true) (hsys : ∀ k, (pre.length + 1 + k == sysModules) = false) :
    Goes C (20 * ps.length) (dictDisplay (xs.map mk)) (Sh ⟨pre.toArray, l⟩ gens drawn toks os) (.ref pre.length)
      (Sh (H pre (dobj (entL toks (ps.take (17 * (j + 1))) ++ entS (toks + 51 * (j + 1)) (ps.drop (17 * (j + 1)))) ps.length)
        (subObjs (toks + 51) j (ps.drop 17) ++ [dobj (entS (toks + 51 * (j + 1)) (ps.drop (17 * (j + 1)))) (ps.length - 17 * (j + 1))]) l) gens drawn (toks + 3 * ps.length) os) := by
  rw [disp.eq]
  have hxl := I.length
  have I1 := I.take 17
  have I2 := I.drop 17
  have l1 : (ps.take 17).length = 17 := by simp; omega
  have l2 : (xs.take 17).length = 17 := by simp; omega
  have hsp : ps.take 17 ++ ps.drop 17 = ps := List.take_append_drop ..
  have hpw1 : (ps.take 17).Pairwise (fun a b => a.1 < b.1) := hpw.take
  have hpw2 : (ps.drop 17).Pairwise (fun a b => a.1 < b.1) := hpw.drop
  have hcross : ∀ p ∈ ps.take 17, ∀ q ∈ ps.drop 17, p.1 < q.1 := by
    have h := hpw
    rw [← hsp] at h
    exact (List.pairwise_append.mp h).2.2
  have e0 : xs.map mk = (xs.take 17).map mk ++ (xs.drop 17).map mk := by rw [← List.map_append, List.take_append_drop]
  rw [e0]
  have first := goes_subL (C := C) (pre := pre) (l := l) (gens := gens) (drawn := drawn) (toks := toks) (os := os) I1 (hd 0) (by omega) hpw1 (by omega)
  rw [l1] at first
  have rest := goes_rest (C := C) (pre := pre) (l := l) (gens := gens) (drawn := drawn) (os := os) hd hsys j (xs.drop 17) (ps.drop 17) (entL toks (ps.take 17)) 17 [] (toks + 51) I2 (by simp; omega) (by simp; omega)
    (by intro e; have := congrArg List.length e; rw [entL_length, l1] at this; cases this)
    (fun e he p hp => by
      obtain ⟨q, hq, e2⟩ := entL_hash he
      rw [e2]; have := hcross q hq p hp; omega) hpw2 (by rw [entL_length]; simp; omega)
  have x1 : (xs.drop 17).drop (17 * j) = xs.drop (17 * (j + 1)) := by rw [List.drop_drop]; congr 1; omega
  have x2 : entL toks (ps.take 17) ++ entL (toks + 51) ((ps.drop 17).take (17 * j)) = entL toks (ps.take (17 * (j + 1))) := by
    have : ps.take (17 * (j + 1)) = ps.take 17 ++ (ps.drop 17).take (17 * j) := by rw [← List.take_add]; congr 1; omega
    rw [this, entL_app, l1]
  rw [x1, x2, List.nil_append, show 17 + 17 * j = 17 * (j + 1) by omega, show toks + 51 + 51 * j = toks + 51 * (j + 1) by omega] at rest
  refine Goes.le (goes_bind (n₂ := 2 + 13 * (ps.length - 17 * (j + 1)) + (5 + 6 * (ps.length - 17 * (j + 1)))) (chunk17 (d := pre.length) (xs.take 17) l2 (fun x run hrun hx => body_full0 hrun (by rw [hx]; exact first)) rest) ?_) (by omega)
  have hsubs : (subObjs (toks + 51) j (ps.drop 17)).length = j := by
    have : ∀ (j t : Nat) (ps : List Pr), (subObjs t j ps).length = j := by
      intro j; induction j with
      | zero => intro t ps; rfl
      | succ j ih => intro t ps; exact congrArg (· + 1) (ih _ _)
    exact this _ _ _
  generalize hS : subObjs (toks + 51) j (ps.drop 17) = S at hsubs ⊢
  generalize hE : entL toks (ps.take (17 * (j + 1))) = E
  have hEl : E.length = 17 * (j + 1) := by rw [← hE, entL_length]; simp; omega
  have hlen : (pre ++ dobj E (17 * (j + 1)) :: S).length = pre.length + 1 + S.length := by simp; omega
  have I3 := I.drop (17 * (j + 1))
  have hpw3 : (ps.drop (17 * (j + 1))).Pairwise (fun a b => a.1 < b.1) := hpw.drop
  have l3 : (ps.drop (17 * (j + 1))).length = ps.length - 17 * (j + 1) := by simp
  have sub := goes_subS (C := C) (pre := pre ++ dobj E (17 * (j + 1)) :: S) (l := l) (gens := gens) (drawn := drawn) (toks := toks + 51 * (j + 1)) (os := os) I3 (I3.fits) (by rw [hlen, show pre.length + 1 + S.length = pre.length + (1 + S.length) by omega]; exact hd _) (by simp; omega) hpw3 (by omega)
  rw [l3, ← H_last, hlen] at sub
  have hcross3 : ∀ p ∈ ps.take (17 * (j + 1)), ∀ q ∈ ps.drop (17 * (j + 1)), p.1 < q.1 := by
    have h := hpw
    rw [← List.take_append_drop (17 * (j + 1)) ps] at h
    exact (List.pairwise_append.mp h).2.2
  have merge := goes_merge (C := C) (pre := pre) (es := E) (n := 17 * (j + 1)) (subs := S) (l := l) (gens := gens) (drawn := drawn) (toks := toks + 51 * (j + 1) + 3 * (ps.length - 17 * (j + 1))) (os := os)
    (ss := entS (toks + 51 * (j + 1)) (ps.drop (17 * (j + 1)))) (m := ps.length - 17 * (j + 1)) (hd 0) (hsys _) (fun e he => keyedS he) (by intro e; rw [e] at hEl; cases hEl)
    (fun e he e' he' => by
      rw [← hE] at he
      obtain ⟨p, hp, e1⟩ := entL_hash he
      obtain ⟨q, hq, e2⟩ := entS_hash he'
      rw [e1, e2]; have := hcross3 p hp q hq; omega) (hashPwS hpw3) (by rw [entS_length, hEl, l3]; omega)
  rw [entS_length, l3, show 17 * (j + 1) + (ps.length - 17 * (j + 1)) = ps.length by omega, show toks + 51 * (j + 1) + 3 * (ps.length - 17 * (j + 1)) = toks + 3 * ps.length by omega] at merge
  rw [show toks + 51 * (j + 1) + 3 * (ps.length - 17 * (j + 1)) = toks + 3 * ps.length by omega] at sub
  exact fin_some (by intro e; have := congrArg List.length e; simp at this; omega) sub merge
end

end
end Mine
namespace Mine
open PySem PySem.W PyProof.Rows PySem.Calls
noncomputable section
section
variable {C : Cx}
theorem segRun_mono {tb : String → Option Builtin} {p : Program} {w : World} {n₀ : Nat} {ann : Option Value} {b : Nat} (k : Nat) : ∀ (n : Nat) (s : Shared) (t : Thread) (r : Flow × Shared × Code × Pos),
    segRun tb p w n₀ ann b n s t = some r → segRun tb p w n₀ ann b (n + k) s t = some r
  | 0, _, _, _, h => by simp [segRun] at h
  | n + 1, s, t, r, h => by
    rw [show n + 1 + k = n + k + 1 by omega]
    unfold segRun at h ⊢
    cases he : endAt b t with
    | some f => rw [he] at h; exact h
    | none =>
      rw [he] at h
      cases hk : stepOk n₀ ann t with
      | false => rw [hk] at h; cases h
      | true =>
        rw [hk] at h
        cases hs : step (denote tb) p w s t with
        | halt o s' => rw [hs] at h; cases h
        | go s' t' => rw [hs] at h; exact segRun_mono k n s' t' r h
theorem seg_goes {α β : Type} {N M : Nat} {m : Sem α} {f : α → Sem β} {a : α} {s s' : Shared} {K : β → Sem Fin} {H : Value → Sem Fin} {gd : Bool → Bool} {lv : List Value → List Value} {pos : Pos} {r : Flow × Shared × Code × Pos}
    (h : Goes C N m s a s') (k : ∀ pos', segRun treeTable C.p C.w C.n₀ C.ann 1 M s' ⟨(f a).wrap K H gd lv, .body C.b C.env, pos', [topFrame C.q]⟩ = some r) :
    segRun treeTable C.p C.w C.n₀ C.ann 1 (N + M) s ⟨(m.bind f).wrap K H gd lv, .body C.b C.env, pos, [topFrame C.q]⟩ = some r := by
  obtain ⟨n, p', l, e⟩ := h (fun a => (f a).wrap K H gd lv) H gd lv pos
  rw [Sem.bind_eq_wrap, Sem.wrap_wrap]
  have := segRun_mono (N - n) _ _ _ _ (seg_go e (k p'))
  rw [show n + M + (N - n) = N + M by omega] at this
  exact this

noncomputable def litVal (k : Nat) (v : Expr) : Option Pr := match v with
  | .Constant c _ _ => (match c with
    | .str v => if k < 1152921504606846976 then some (k, v) else none
    | _ => none)
  | _ => none
noncomputable def litOne (k : Option Expr) (v : Expr) : Option Pr := match k with
  | some e => (match e with
    | .Constant c _ _ => (match c with
      | .int i => (match i with
        | .ofNat k => litVal k v
        | .negSucc _ => none)
      | _ => none)
    | _ => none)
  | none => none
noncomputable def litPairs : List (Option Expr) → List Expr → Option (List Pr)
  | [], vs => (match vs with
    | [] => some []
    | _ :: _ => none)
  | k :: ks, vs => (match vs with
    | [] => none
    | v :: vs => (litOne k v).bind fun p => (litPairs ks vs).map (p :: ·))
theorem litVal_form {k : Nat} {v : Expr} {p : Pr} (h : litVal k v = some p) : ∃ u b1 b2, v = .Constant (.str u) b1 b2 ∧ k < 1152921504606846976 ∧ p = (k, u) := by
  cases v with
  | Constant c b1 b2 => cases c with
    | str u =>
      have h : (if k < 1152921504606846976 then some (k, u) else none) = some p := h
      by_cases hk : k < 1152921504606846976
      · rw [if_pos hk] at h
        exact ⟨u, b1, b2, rfl, hk, (Option.some.inj h).symm⟩
      · rw [if_neg hk] at h; cases h
    | _ => exact absurd (show (none : Option Pr) = some p from h) nofun
  | _ => exact absurd (show (none : Option Pr) = some p from h) nofun
theorem litOne_form {k : Option Expr} {v : Expr} {p : Pr} (h : litOne k v = some p) : ∃ i a1 a2, k = some (.Constant (.int (.ofNat i)) a1 a2) ∧ litVal i v = some p := by
  cases k with
  | none => exact absurd (show (none : Option Pr) = some p from h) nofun
  | some e => cases e with
    | Constant c a1 a2 => cases c with
      | int i => cases i with
        | ofNat i => exact ⟨i, a1, a2, rfl, h⟩
        | negSucc _ => exact absurd (show (none : Option Pr) = some p from h) nofun
      | _ => exact absurd (show (none : Option Pr) = some p from h) nofun
    | _ => exact absurd (show (none : Option Pr) = some p from h) nofun
noncomputable def inc : List Pr → Bool
  | [] => true
  | [_] => true
  | a :: b :: r => Nat.blt a.1 b.1 && inc (b :: r)
theorem inc_le : ∀ {a : Pr} {r : List Pr}, inc (a :: r) = true → ∀ b ∈ r, a.1 < b.1
  | a, [], _, b, hb => by cases hb
  | a, c :: r, h, b, hb => by
    obtain ⟨h1, h2⟩ := Bool.and_eq_true_iff.mp h
    have h1' : a.1 < c.1 := Nat.le_of_ble_eq_true h1
    rcases List.mem_cons.mp hb with rfl | hb
    · exact h1'
    · exact Nat.lt_trans h1' (inc_le h2 b hb)
theorem inc_tail : ∀ {a : Pr} {r : List Pr}, inc (a :: r) = true → inc r = true
  | _, [], _ => rfl
  | _, _ :: _, h => (Bool.and_eq_true_iff.mp h).2
theorem inc_pw : ∀ {r : List Pr}, inc r = true → r.Pairwise (fun a b => a.1 < b.1)
  | [], _ => .nil
  | a :: r, h => List.pairwise_cons.mpr ⟨inc_le h, inc_pw (inc_tail h)⟩

noncomputable def itemsOf (ks : List (Option Expr)) (vs : List Expr) (dp : Pos) (env : Env) : List (Option (Sem Value) × Sem Value) :=
  (evalEachOpt ks env).zip ((evalEach vs env).map fun v => do let x ← v; standAt dp; pure x)
theorem lit_cons {k0 : Option Expr} {ks : List (Option Expr)} {v0 : Expr} {vs : List Expr} {ps : List Pr} (h : litPairs (k0 :: ks) (v0 :: vs) = some ps) :
    ∃ k v a1 a2 b1 b2 ps', k0 = some (.Constant (.int (.ofNat k)) a1 a2) ∧ v0 = .Constant (.str v) b1 b2 ∧ k < 1152921504606846976 ∧ litPairs ks vs = some ps' ∧ ps = (k, v) :: ps' := by
  have h : ((litOne k0 v0).bind fun p => (litPairs ks vs).map (p :: ·)) = some ps := h
  obtain ⟨p, h1, h2⟩ := Option.bind_eq_some_iff.mp h
  obtain ⟨ps', h', rfl⟩ := Option.map_eq_some_iff.mp h2
  obtain ⟨i, a1, a2, e1, h3⟩ := litOne_form h1
  obtain ⟨u, b1, b2, e2, hk, rfl⟩ := litVal_form h3
  exact ⟨_, _, _, _, _, _, ps', e1, e2, hk, h', rfl⟩
theorem items_of {dp : Pos} : ∀ {ks : List (Option Expr)} {vs : List Expr} {ps : List Pr}, litPairs ks vs = some ps → ∃ xs, itemsOf ks vs dp C.env = xs.map mk ∧ Items C xs ps
  | [], [], ps, h => by
    obtain rfl : [] = ps := Option.some.inj (show some [] = some ps from h)
    exact ⟨[], rfl, .nil⟩
  | k0 :: ks, v0 :: vs, ps, h => by
    obtain ⟨k, v', a1, a2, b1, b2, ps', rfl, rfl, hk, h', rfl⟩ := lit_cons h
    obtain ⟨xs, hx, I⟩ := items_of (dp := dp) h'
    refine ⟨(eval (.Constant (.int (.ofNat k)) a1 a2) C.env, do let x ← eval (.Constant (.str v') b1 b2) C.env; standAt dp; pure x) :: xs, ?_, .cons ⟨fun s => ?_, fun s => ?_, hk⟩ I⟩
    · rw [List.map_cons, ← hx]; rfl
    · show Goes C 1 (mkInt (k : Int)) s _ _
      exact (goes_bind' (m := fresh) (f := fun t => (pure (Value.int (k : Int) t) : Sem Value)) goes_fresh goes_pure').le (Nat.le_refl _)
    · show Goes C 2 ((mkText v') >>= fun x => standAt dp >>= fun _ => pure x) s _ _
      have h1 : Goes C 1 (mkText v') s (.str v' s.toks) { s with toks := s.toks + 1 } := (goes_bind' (m := fresh) (f := fun t => (pure (Value.str v' t) : Sem Value)) goes_fresh goes_pure').le (Nat.le_refl _)
      exact (goes_bind' h1 (goes_bind' (n₂ := 0) (m := standAt dp) (f := fun _ => (pure (Value.str v' s.toks) : Sem Value)) goes_at goes_pure')).le (Nat.le_refl _)
  | k0 :: ks, [], ps, h => absurd (show (none : Option (List Pr)) = some ps from h) nofun
  | [], _ :: _, ps, h => absurd (show (none : Option (List Pr)) = some ps from h) nofun

noncomputable def storeTail (x : Str) (np : Pos) (ks : List (Option Expr)) (vs : List Expr) (dp : Pos) (env : Env) (v : Value) : Sem Flow :=
  (swappedStores [.Name x np] (.Dict ks vs dp) env).bind fun sw => assignStores env v sw ((assignEach [.Name x np] env).map (·.2))
theorem exec_dict (x : Str) (np : Pos) (ks : List (Option Expr)) (vs : List Expr) (dp pos : Pos) (env : Env) :
    exec (.Assign [.Name x np] (.Dict ks vs dp) pos) env = (standAt pos).bind fun _ => (standAt dp).bind fun _ => (dictDisplay (itemsOf ks vs dp env)).bind (storeTail x np ks vs dp env) := rfl

theorem seg_dict {x : Str} {np : Pos} {ks : List (Option Expr)} {vs : List Expr} {dp pos : Pos} {N M : Nat} {s s' : Shared} {v : Value} {K : Flow → Sem Fin} {H : Value → Sem Fin} {gd : Bool → Bool} {lv : List Value → List Value} {p : Pos} {r : Flow × Shared × Code × Pos}
    (h : Goes C N (dictDisplay (itemsOf ks vs dp C.env)) s v s') (k : ∀ pos', segRun treeTable C.p C.w C.n₀ C.ann 1 M s' ⟨(storeTail x np ks vs dp C.env v).wrap K H gd lv, .body C.b C.env, pos', [topFrame C.q]⟩ = some r) :
    segRun treeTable C.p C.w C.n₀ C.ann 1 (1 + (1 + (N + M))) s ⟨(exec (.Assign [.Name x np] (.Dict ks vs dp) pos) C.env).wrap K H gd lv, .body C.b C.env, p, [topFrame C.q]⟩ = some r := by
  rw [exec_dict]
  exact seg_goes goes_at fun _ => seg_goes goes_at fun _ => seg_goes h k
end
end
end Mine
namespace Mine
open PySem PySem.W PyProof.Rows PySem.Calls
noncomputable section
namespace L1
noncomputable abbrev pp : Program := PySem.Challenge.pw_ta0051_01
noncomputable abbrev bd : List Stmt := behindTheImports pp
noncomputable def fd (st : Stmt) (g : Addr) (pm code : Value) (b : Addr) : FuncData := match st with | .FunctionDef name args body _ _ _ scope _ _ _ => { name := name, qualname := name, params := args, body := .stmts body, scope := scope, globals := g, closure := [], defaults := .none, kwdefaults := .none, pyModule := pm, code := code, builtins := b } | _ => default
noncomputable def st0 : Stmt := (bd[0]?).getD default
noncomputable def st1 : Stmt := (bd[1]?).getD default
noncomputable def st2 : Stmt := (bd[2]?).getD default
noncomputable def st3 : Stmt := (bd[3]?).getD default
noncomputable def st4 : Stmt := (bd[4]?).getD default
noncomputable def st5 : Stmt := (bd[5]?).getD default
noncomputable def st6 : Stmt := (bd[6]?).getD default
noncomputable def st7 : Stmt := (bd[7]?).getD default
noncomputable def st8 : Stmt := (bd[8]?).getD default
noncomputable def st9 : Stmt := (bd[9]?).getD default
noncomputable def st10 : Stmt := (bd[10]?).getD default
noncomputable def st11 : Stmt := (bd[11]?).getD default
noncomputable def st12 : Stmt := (bd[12]?).getD default
noncomputable def st13 : Stmt := (bd[13]?).getD default
noncomputable def st14 : Stmt := (bd[14]?).getD default
noncomputable def st15 : Stmt := (bd[15]?).getD default
noncomputable def st16 : Stmt := (bd[16]?).getD default
noncomputable def st17 : Stmt := (bd[17]?).getD default
noncomputable def st18 : Stmt := (bd[18]?).getD default
noncomputable def st19 : Stmt := (bd[19]?).getD default
theorem bd_eq : bd = [st0, st1, st2, st3, st4, st5, st6, st7, st8, st9, st10, st11, st12, st13, st14, st15, st16, st17, st18, st19] := by kernel_rfl!
noncomputable abbrev env : Env := { scope := pp.main.scope, locals := mainNs, globals := mainNs, cells := [], code := (.ref 13), frame := some 14 }
noncomputable def ks3 : List (Option Expr) := match st11 with | .Assign _ (.Dict ks _ _) _ => ks | _ => []
noncomputable def vs3 : List Expr := match st11 with | .Assign _ (.Dict _ vs _) _ => vs | _ => []
theorem st_eq : st11 = .Assign [.Name (PySem.Str.ofString "b3_exceptions") ⟨62, 0, 62, 13⟩] (.Dict ks3 vs3 ⟨62, 16, 62, 8704⟩) ⟨62, 0, 62, 8704⟩ := by kernel_rfl!
noncomputable def ps3 : List Pr := (litPairs ks3 vs3).getD []
theorem getD_some {α : Type} {o : Option α} {d : α} (h : o.isSome = true) : o = some (o.getD d) := by cases o with | none => cases h | some => rfl
theorem lit_eq : litPairs ks3 vs3 = some ps3 := getD_some (by decide +kernel)
theorem ps_inc : inc ps3 = true := by decide +kernel
theorem ps_len : ps3.length = 650 := by decide +kernel
noncomputable def b3E : List DictEntry := entL 304 (ps3.take 646) ++ entS 2242 (ps3.drop 646)
noncomputable def b3S : List Obj := subObjs 355 37 (ps3.drop 17) ++ [dobj (entS 2242 (ps3.drop 646)) 4]
noncomputable def o11v0 (P : Params) : Obj := ⟨(.type "tuple"), none, (.seq #[] 0), #[]⟩
noncomputable def o12v0 (P : Params) : Obj := ⟨(.none), none, (.fields #[]), #[]⟩
noncomputable def o13v0 (P : Params) : Obj := ⟨(.type "code"), none, (.fields #[(.str ⟨#[60, 109, 111, 100, 117, 108, 101, 62]⟩ 182), (.str ⟨#[60, 109, 111, 100, 117, 108, 101, 62]⟩ 183), (.str ⟨#[47, 99, 108, 97, 105, 109, 47, 99, 117, 116, 46, 112, 121]⟩ 184), (.int 1 0), (.int 0 0), (.int 0 0), (.int 0 0), (.int 0 0), (.ref 11), (.bool false), (.int 181 0), (.ref 12), (.none), (.none), (.none), (.none), (.int 185 0), (.int 1 0), (.str ⟨#[47, 99, 108, 97, 105, 109, 47, 99, 117, 116, 46, 112, 121]⟩ 186)]), #[]⟩
noncomputable def o14v0 (P : Params) : Obj := ⟨(.type "frame"), none, .plain, #[(some (.ref 13)), (some (.ref 3)), (some (.ref 3)), none, (some (.str ⟨#[95, 95, 109, 97, 105, 110, 95, 95]⟩ 164)), none, (some (.ref 0))]⟩
noncomputable def T0 (P : Params) : BT := (.node (boot_o_0 P) (.node (boot_o_1 P) (.node (boot_o_3 P) (.node (boot_o_7 P) .nil .nil) (.node (o11v0 P) .nil .nil)) (.node (boot_o_5 P) (.node (boot_o_9 P) .nil .nil) (.node (o13v0 P) .nil .nil))) (.node (boot_o_2 P) (.node (boot_o_4 P) (.node (boot_o_8 P) .nil .nil) (.node (o12v0 P) .nil .nil)) (.node (boot_o_6 P) (.node (boot_o_10 P) .nil .nil) (.node (o14v0 P) .nil .nil))))
noncomputable def H0 (P : Params) : Heap := Heap.mk (Array.mk [boot_o_0 P, boot_o_1 P, boot_o_2 P, boot_o_3 P, boot_o_4 P, boot_o_5 P, boot_o_6 P, boot_o_7 P, boot_o_8 P, boot_o_9 P, boot_o_10 P, o11v0 P, o12v0 P, o13v0 P, o14v0 P]) {}
theorem pre_run (w : World) (os : OsState) : topGo treeTable pp w 11 (some (.ref 6)) 12 ⟨boot_heap w.params, Array.mk [], boot_drawn, boot_toks, os⟩ (topStub pp) = some (⟨H0 w.params, #[], {}, 187, os⟩, ⟨denote treeTable (.body bd env), .body bd env, ⟨0, 0, 0, 0⟩, [topFrame ⟨0, 0, 0, 0⟩]⟩) := by
  rw [PySem.W.Fast.te15667345088766844465, PySem.W.Fast.te14364793385576792824, PySem.W.Fast.te11892475500146522536]
  kernel_rfl!
theorem block_run (w : World) (os : OsState) : segRun treeTable pp w 11 (some (.ref 6)) 1 1 ⟨H0 w.params, #[], {}, 187, os⟩ (blockOf bd env (.body bd env) ⟨0, 0, 0, 0⟩ [topFrame ⟨0, 0, 0, 0⟩]) = some (.next, SharedT.abs ⟨T0 w.params, 15, {}, #[], {}, 187, os⟩, .body bd env, ⟨0, 0, 0, 0⟩) := by
  rw [PySem.W.Fast.te14374325043358763698, PySem.W.Fast.te14364793385576792824]
  kernel_rfl!
noncomputable def o3v1 (P : Params) : Obj := ⟨(.type "dict"), none, (.dict #[⟨PyData.keyHash P ⟨#[95, 95, 110, 97, 109, 101, 95, 95]⟩, (.str ⟨#[95, 95, 110, 97, 109, 101, 95, 95]⟩ 165), (.str ⟨#[99, 112, 121, 51, 49, 51, 46, 116, 114, 97, 99, 101, 98, 97, 99, 107]⟩ 187)⟩, ⟨PyData.keyHash P ⟨#[95, 95, 100, 111, 99, 95, 95]⟩, (.str ⟨#[95, 95, 100, 111, 99, 95, 95]⟩ 166), (.none)⟩, ⟨PyData.keyHash P ⟨#[95, 95, 112, 97, 99, 107, 97, 103, 101, 95, 95]⟩, (.str ⟨#[95, 95, 112, 97, 99, 107, 97, 103, 101, 95, 95]⟩ 167), (.none)⟩, ⟨PyData.keyHash P ⟨#[95, 95, 108, 111, 97, 100, 101, 114, 95, 95]⟩, (.str ⟨#[95, 95, 108, 111, 97, 100, 101, 114, 95, 95]⟩ 168), (.builtin "__main__.__loader__#opaque")⟩, ⟨PyData.keyHash P ⟨#[95, 95, 115, 112, 101, 99, 95, 95]⟩, (.str ⟨#[95, 95, 115, 112, 101, 99, 95, 95]⟩ 169), (.none)⟩, ⟨PyData.keyHash P ⟨#[95, 95, 97, 110, 110, 111, 116, 97, 116, 105, 111, 110, 115, 95, 95]⟩, (.str ⟨#[95, 95, 97, 110, 110, 111, 116, 97, 116, 105, 111, 110, 115, 95, 95]⟩ 170), (.ref 6)⟩, ⟨PyData.keyHash P ⟨#[95, 95, 98, 117, 105, 108, 116, 105, 110, 115, 95, 95]⟩, (.str ⟨#[95, 95, 98, 117, 105, 108, 116, 105, 110, 115, 95, 95]⟩ 171), (.ref 4)⟩, ⟨PyData.keyHash P ⟨#[95, 95, 102, 105, 108, 101, 95, 95]⟩, (.str ⟨#[95, 95, 102, 105, 108, 101, 95, 95]⟩ 173), (.str ⟨#[47, 99, 108, 97, 105, 109, 47, 99, 117, 116, 46, 112, 121]⟩ 172)⟩, ⟨PyData.keyHash P ⟨#[95, 95, 99, 97, 99, 104, 101, 100, 95, 95]⟩, (.str ⟨#[95, 95, 99, 97, 99, 104, 101, 100, 95, 95]⟩ 174), (.none)⟩] 9), #[]⟩
noncomputable def T1 (P : Params) : BT := (.node (boot_o_0 P) (.node (boot_o_1 P) (.node (o3v1 P) (.node (boot_o_7 P) .nil .nil) (.node (o11v0 P) .nil .nil)) (.node (boot_o_5 P) (.node (boot_o_9 P) .nil .nil) (.node (o13v0 P) .nil .nil))) (.node (boot_o_2 P) (.node (boot_o_4 P) (.node (boot_o_8 P) .nil .nil) (.node (o12v0 P) .nil .nil)) (.node (boot_o_6 P) (.node (boot_o_10 P) .nil .nil) (.node (o14v0 P) .nil .nil))))
theorem pt0 (w : World) (os : OsState) : segRunT treeTable pp w 11 (some (.ref 6)) 1 10 ⟨T0 w.params, 15, {}, #[], {}, 187, os⟩ (piecesOf [st0] env (.body bd env) ⟨0, 0, 0, 0⟩ [topFrame ⟨0, 0, 0, 0⟩]) = some (.next, ⟨T1 w.params, 15, {}, #[], {}, 189, os⟩, .body bd env, ⟨1, 0, 1, 8⟩) := by
  show segRunT treeTable pp _ 11 (some (.ref 6)) 1 10 _ ⟨(execs [st0] env).wrap doneF deadEnd id id, .body bd env, ⟨0, 0, 0, 0⟩, [topFrame ⟨0, 0, 0, 0⟩]⟩ = _
  rw [PySem.W.Fast.te10110043849684766642, PySem.W.Fast.te14364793385576792824, PySem.W.Fast.te12563942051412417395]
  kernel_rfl!
theorem pc0 (w : World) (os : OsState) : segRun treeTable pp w 11 (some (.ref 6)) 1 10 (SharedT.abs ⟨T0 w.params, 15, {}, #[], {}, 187, os⟩) (piecesOf [st0] env (.body bd env) ⟨0, 0, 0, 0⟩ [topFrame ⟨0, 0, 0, 0⟩]) = some (.next, SharedT.abs ⟨T1 w.params, 15, {}, #[], {}, 189, os⟩, .body bd env, ⟨1, 0, 1, 8⟩) := segRun_of (pt0 w os)
noncomputable def o3v2 (P : Params) : Obj := ⟨(.type "dict"), none, (.dict #[⟨PyData.keyHash P ⟨#[95, 95, 110, 97, 109, 101, 95, 95]⟩, (.str ⟨#[95, 95, 110, 97, 109, 101, 95, 95]⟩ 165), (.str ⟨#[99, 112, 121, 51, 49, 51, 46, 116, 114, 97, 99, 101, 98, 97, 99, 107]⟩ 187)⟩, ⟨PyData.keyHash P ⟨#[95, 95, 100, 111, 99, 95, 95]⟩, (.str ⟨#[95, 95, 100, 111, 99, 95, 95]⟩ 166), (.none)⟩, ⟨PyData.keyHash P ⟨#[95, 95, 112, 97, 99, 107, 97, 103, 101, 95, 95]⟩, (.str ⟨#[95, 95, 112, 97, 99, 107, 97, 103, 101, 95, 95]⟩ 167), (.none)⟩, ⟨PyData.keyHash P ⟨#[95, 95, 108, 111, 97, 100, 101, 114, 95, 95]⟩, (.str ⟨#[95, 95, 108, 111, 97, 100, 101, 114, 95, 95]⟩ 168), (.builtin "__main__.__loader__#opaque")⟩, ⟨PyData.keyHash P ⟨#[95, 95, 115, 112, 101, 99, 95, 95]⟩, (.str ⟨#[95, 95, 115, 112, 101, 99, 95, 95]⟩ 169), (.none)⟩, ⟨PyData.keyHash P ⟨#[95, 95, 97, 110, 110, 111, 116, 97, 116, 105, 111, 110, 115, 95, 95]⟩, (.str ⟨#[95, 95, 97, 110, 110, 111, 116, 97, 116, 105, 111, 110, 115, 95, 95]⟩ 170), (.ref 6)⟩, ⟨PyData.keyHash P ⟨#[95, 95, 98, 117, 105, 108, 116, 105, 110, 115, 95, 95]⟩, (.str ⟨#[95, 95, 98, 117, 105, 108, 116, 105, 110, 115, 95, 95]⟩ 171), (.ref 4)⟩, ⟨PyData.keyHash P ⟨#[95, 95, 102, 105, 108, 101, 95, 95]⟩, (.str ⟨#[95, 95, 102, 105, 108, 101, 95, 95]⟩ 173), (.str ⟨#[47, 99, 108, 97, 105, 109, 47, 99, 117, 116, 46, 112, 121]⟩ 172)⟩, ⟨PyData.keyHash P ⟨#[95, 95, 99, 97, 99, 104, 101, 100, 95, 95]⟩, (.str ⟨#[95, 95, 99, 97, 99, 104, 101, 100, 95, 95]⟩ 174), (.none)⟩, ⟨PyData.keyHash P ⟨#[95, 77, 65, 88, 95, 83, 84, 82, 73, 78, 71, 95, 83, 73, 90, 69]⟩, (.str ⟨#[95, 77, 65, 88, 95, 83, 84, 82, 73, 78, 71, 95, 83, 73, 90, 69]⟩ 190), (.int 40 189)⟩] 10), #[]⟩
noncomputable def T2 (P : Params) : BT := (.node (boot_o_0 P) (.node (boot_o_1 P) (.node (o3v2 P) (.node (boot_o_7 P) .nil .nil) (.node (o11v0 P) .nil .nil)) (.node (boot_o_5 P) (.node (boot_o_9 P) .nil .nil) (.node (o13v0 P) .nil .nil))) (.node (boot_o_2 P) (.node (boot_o_4 P) (.node (boot_o_8 P) .nil .nil) (.node (o12v0 P) .nil .nil)) (.node (boot_o_6 P) (.node (boot_o_10 P) .nil .nil) (.node (o14v0 P) .nil .nil))))
theorem pt1 (w : World) (os : OsState) : segRunT treeTable pp w 11 (some (.ref 6)) 1 10 ⟨T1 w.params, 15, {}, #[], {}, 189, os⟩ (piecesOf [st1] env (.body bd env) ⟨1, 0, 1, 8⟩ [topFrame ⟨0, 0, 0, 0⟩]) = some (.next, ⟨T2 w.params, 15, {}, #[], {}, 191, os⟩, .body bd env, ⟨2, 0, 2, 16⟩) := by
  show segRunT treeTable pp _ 11 (some (.ref 6)) 1 10 _ ⟨(execs [st1] env).wrap doneF deadEnd id id, .body bd env, ⟨1, 0, 1, 8⟩, [topFrame ⟨0, 0, 0, 0⟩]⟩ = _
  rw [PySem.W.Fast.te10110043849684766642, PySem.W.Fast.te14364793385576792824, PySem.W.Fast.te12563942051412417395]
  kernel_rfl!
theorem pc1 (w : World) (os : OsState) : segRun treeTable pp w 11 (some (.ref 6)) 1 10 (SharedT.abs ⟨T1 w.params, 15, {}, #[], {}, 189, os⟩) (piecesOf [st1] env (.body bd env) ⟨1, 0, 1, 8⟩ [topFrame ⟨0, 0, 0, 0⟩]) = some (.next, SharedT.abs ⟨T2 w.params, 15, {}, #[], {}, 191, os⟩, .body bd env, ⟨2, 0, 2, 16⟩) := segRun_of (pt1 w os)
noncomputable def o3v3 (P : Params) : Obj := ⟨(.type "dict"), none, (.dict #[⟨PyData.keyHash P ⟨#[95, 95, 110, 97, 109, 101, 95, 95]⟩, (.str ⟨#[95, 95, 110, 97, 109, 101, 95, 95]⟩ 165), (.str ⟨#[99, 112, 121, 51, 49, 51, 46, 116, 114, 97, 99, 101, 98, 97, 99, 107]⟩ 187)⟩, ⟨PyData.keyHash P ⟨#[95, 95, 100, 111, 99, 95, 95]⟩, (.str ⟨#[95, 95, 100, 111, 99, 95, 95]⟩ 166), (.none)⟩, ⟨PyData.keyHash P ⟨#[95, 95, 112, 97, 99, 107, 97, 103, 101, 95, 95]⟩, (.str ⟨#[95, 95, 112, 97, 99, 107, 97, 103, 101, 95, 95]⟩ 167), (.none)⟩, ⟨PyData.keyHash P ⟨#[95, 95, 108, 111, 97, 100, 101, 114, 95, 95]⟩, (.str ⟨#[95, 95, 108, 111, 97, 100, 101, 114, 95, 95]⟩ 168), (.builtin "__main__.__loader__#opaque")⟩, ⟨PyData.keyHash P ⟨#[95, 95, 115, 112, 101, 99, 95, 95]⟩, (.str ⟨#[95, 95, 115, 112, 101, 99, 95, 95]⟩ 169), (.none)⟩, ⟨PyData.keyHash P ⟨#[95, 95, 97, 110, 110, 111, 116, 97, 116, 105, 111, 110, 115, 95, 95]⟩, (.str ⟨#[95, 95, 97, 110, 110, 111, 116, 97, 116, 105, 111, 110, 115, 95, 95]⟩ 170), (.ref 6)⟩, ⟨PyData.keyHash P ⟨#[95, 95, 98, 117, 105, 108, 116, 105, 110, 115, 95, 95]⟩, (.str ⟨#[95, 95, 98, 117, 105, 108, 116, 105, 110, 115, 95, 95]⟩ 171), (.ref 4)⟩, ⟨PyData.keyHash P ⟨#[95, 95, 102, 105, 108, 101, 95, 95]⟩, (.str ⟨#[95, 95, 102, 105, 108, 101, 95, 95]⟩ 173), (.str ⟨#[47, 99, 108, 97, 105, 109, 47, 99, 117, 116, 46, 112, 121]⟩ 172)⟩, ⟨PyData.keyHash P ⟨#[95, 95, 99, 97, 99, 104, 101, 100, 95, 95]⟩, (.str ⟨#[95, 95, 99, 97, 99, 104, 101, 100, 95, 95]⟩ 174), (.none)⟩, ⟨PyData.keyHash P ⟨#[95, 77, 65, 88, 95, 83, 84, 82, 73, 78, 71, 95, 83, 73, 90, 69]⟩, (.str ⟨#[95, 77, 65, 88, 95, 83, 84, 82, 73, 78, 71, 95, 83, 73, 90, 69]⟩ 190), (.int 40 189)⟩, ⟨PyData.keyHash P ⟨#[95, 77, 79, 86, 69, 95, 67, 79, 83, 84]⟩, (.str ⟨#[95, 77, 79, 86, 69, 95, 67, 79, 83, 84]⟩ 192), (.int 2 191)⟩] 11), #[]⟩
noncomputable def T3 (P : Params) : BT := (.node (boot_o_0 P) (.node (boot_o_1 P) (.node (o3v3 P) (.node (boot_o_7 P) .nil .nil) (.node (o11v0 P) .nil .nil)) (.node (boot_o_5 P) (.node (boot_o_9 P) .nil .nil) (.node (o13v0 P) .nil .nil))) (.node (boot_o_2 P) (.node (boot_o_4 P) (.node (boot_o_8 P) .nil .nil) (.node (o12v0 P) .nil .nil)) (.node (boot_o_6 P) (.node (boot_o_10 P) .nil .nil) (.node (o14v0 P) .nil .nil))))
theorem pt2 (w : World) (os : OsState) : segRunT treeTable pp w 11 (some (.ref 6)) 1 10 ⟨T2 w.params, 15, {}, #[], {}, 191, os⟩ (piecesOf [st2] env (.body bd env) ⟨2, 0, 2, 16⟩ [topFrame ⟨0, 0, 0, 0⟩]) = some (.next, ⟨T3 w.params, 15, {}, #[], {}, 193, os⟩, .body bd env, ⟨3, 0, 3, 10⟩) := by
  show segRunT treeTable pp _ 11 (some (.ref 6)) 1 10 _ ⟨(execs [st2] env).wrap doneF deadEnd id id, .body bd env, ⟨2, 0, 2, 16⟩, [topFrame ⟨0, 0, 0, 0⟩]⟩ = _
  rw [PySem.W.Fast.te10110043849684766642, PySem.W.Fast.te14364793385576792824, PySem.W.Fast.te12563942051412417395]
  kernel_rfl!
theorem pc2 (w : World) (os : OsState) : segRun treeTable pp w 11 (some (.ref 6)) 1 10 (SharedT.abs ⟨T2 w.params, 15, {}, #[], {}, 191, os⟩) (piecesOf [st2] env (.body bd env) ⟨2, 0, 2, 16⟩ [topFrame ⟨0, 0, 0, 0⟩]) = some (.next, SharedT.abs ⟨T3 w.params, 15, {}, #[], {}, 193, os⟩, .body bd env, ⟨3, 0, 3, 10⟩) := segRun_of (pt2 w os)
noncomputable def o3v4 (P : Params) : Obj := ⟨(.type "dict"), none, (.dict #[⟨PyData.keyHash P ⟨#[95, 95, 110, 97, 109, 101, 95, 95]⟩, (.str ⟨#[95, 95, 110, 97, 109, 101, 95, 95]⟩ 165), (.str ⟨#[99, 112, 121, 51, 49, 51, 46, 116, 114, 97, 99, 101, 98, 97, 99, 107]⟩ 187)⟩, ⟨PyData.keyHash P ⟨#[95, 95, 100, 111, 99, 95, 95]⟩, (.str ⟨#[95, 95, 100, 111, 99, 95, 95]⟩ 166), (.none)⟩, ⟨PyData.keyHash P ⟨#[95, 95, 112, 97, 99, 107, 97, 103, 101, 95, 95]⟩, (.str ⟨#[95, 95, 112, 97, 99, 107, 97, 103, 101, 95, 95]⟩ 167), (.none)⟩, ⟨PyData.keyHash P ⟨#[95, 95, 108, 111, 97, 100, 101, 114, 95, 95]⟩, (.str ⟨#[95, 95, 108, 111, 97, 100, 101, 114, 95, 95]⟩ 168), (.builtin "__main__.__loader__#opaque")⟩, ⟨PyData.keyHash P ⟨#[95, 95, 115, 112, 101, 99, 95, 95]⟩, (.str ⟨#[95, 95, 115, 112, 101, 99, 95, 95]⟩ 169), (.none)⟩, ⟨PyData.keyHash P ⟨#[95, 95, 97, 110, 110, 111, 116, 97, 116, 105, 111, 110, 115, 95, 95]⟩, (.str ⟨#[95, 95, 97, 110, 110, 111, 116, 97, 116, 105, 111, 110, 115, 95, 95]⟩ 170), (.ref 6)⟩, ⟨PyData.keyHash P ⟨#[95, 95, 98, 117, 105, 108, 116, 105, 110, 115, 95, 95]⟩, (.str ⟨#[95, 95, 98, 117, 105, 108, 116, 105, 110, 115, 95, 95]⟩ 171), (.ref 4)⟩, ⟨PyData.keyHash P ⟨#[95, 95, 102, 105, 108, 101, 95, 95]⟩, (.str ⟨#[95, 95, 102, 105, 108, 101, 95, 95]⟩ 173), (.str ⟨#[47, 99, 108, 97, 105, 109, 47, 99, 117, 116, 46, 112, 121]⟩ 172)⟩, ⟨PyData.keyHash P ⟨#[95, 95, 99, 97, 99, 104, 101, 100, 95, 95]⟩, (.str ⟨#[95, 95, 99, 97, 99, 104, 101, 100, 95, 95]⟩ 174), (.none)⟩, ⟨PyData.keyHash P ⟨#[95, 77, 65, 88, 95, 83, 84, 82, 73, 78, 71, 95, 83, 73, 90, 69]⟩, (.str ⟨#[95, 77, 65, 88, 95, 83, 84, 82, 73, 78, 71, 95, 83, 73, 90, 69]⟩ 190), (.int 40 189)⟩, ⟨PyData.keyHash P ⟨#[95, 77, 79, 86, 69, 95, 67, 79, 83, 84]⟩, (.str ⟨#[95, 77, 79, 86, 69, 95, 67, 79, 83, 84]⟩ 192), (.int 2 191)⟩, ⟨PyData.keyHash P ⟨#[95, 67, 65, 83, 69, 95, 67, 79, 83, 84]⟩, (.str ⟨#[95, 67, 65, 83, 69, 95, 67, 79, 83, 84]⟩ 194), (.int 1 193)⟩] 12), #[]⟩
noncomputable def T4 (P : Params) : BT := (.node (boot_o_0 P) (.node (boot_o_1 P) (.node (o3v4 P) (.node (boot_o_7 P) .nil .nil) (.node (o11v0 P) .nil .nil)) (.node (boot_o_5 P) (.node (boot_o_9 P) .nil .nil) (.node (o13v0 P) .nil .nil))) (.node (boot_o_2 P) (.node (boot_o_4 P) (.node (boot_o_8 P) .nil .nil) (.node (o12v0 P) .nil .nil)) (.node (boot_o_6 P) (.node (boot_o_10 P) .nil .nil) (.node (o14v0 P) .nil .nil))))
theorem pt3 (w : World) (os : OsState) : segRunT treeTable pp w 11 (some (.ref 6)) 1 10 ⟨T3 w.params, 15, {}, #[], {}, 193, os⟩ (piecesOf [st3] env (.body bd env) ⟨3, 0, 3, 10⟩ [topFrame ⟨0, 0, 0, 0⟩]) = some (.next, ⟨T4 w.params, 15, {}, #[], {}, 195, os⟩, .body bd env, ⟨4, 0, 4, 10⟩) := by
  show segRunT treeTable pp _ 11 (some (.ref 6)) 1 10 _ ⟨(execs [st3] env).wrap doneF deadEnd id id, .body bd env, ⟨3, 0, 3, 10⟩, [topFrame ⟨0, 0, 0, 0⟩]⟩ = _
  rw [PySem.W.Fast.te10110043849684766642, PySem.W.Fast.te14364793385576792824, PySem.W.Fast.te12563942051412417395]
  kernel_rfl!
theorem pc3 (w : World) (os : OsState) : segRun treeTable pp w 11 (some (.ref 6)) 1 10 (SharedT.abs ⟨T3 w.params, 15, {}, #[], {}, 193, os⟩) (piecesOf [st3] env (.body bd env) ⟨3, 0, 3, 10⟩ [topFrame ⟨0, 0, 0, 0⟩]) = some (.next, SharedT.abs ⟨T4 w.params, 15, {}, #[], {}, 195, os⟩, .body bd env, ⟨4, 0, 4, 10⟩) := segRun_of (pt3 w os)
noncomputable def o3v5 (P : Params) : Obj := ⟨(.type "dict"), none, (.dict #[⟨PyData.keyHash P ⟨#[95, 95, 110, 97, 109, 101, 95, 95]⟩, (.str ⟨#[95, 95, 110, 97, 109, 101, 95, 95]⟩ 165), (.str ⟨#[99, 112, 121, 51, 49, 51, 46, 116, 114, 97, 99, 101, 98, 97, 99, 107]⟩ 187)⟩, ⟨PyData.keyHash P ⟨#[95, 95, 100, 111, 99, 95, 95]⟩, (.str ⟨#[95, 95, 100, 111, 99, 95, 95]⟩ 166), (.none)⟩, ⟨PyData.keyHash P ⟨#[95, 95, 112, 97, 99, 107, 97, 103, 101, 95, 95]⟩, (.str ⟨#[95, 95, 112, 97, 99, 107, 97, 103, 101, 95, 95]⟩ 167), (.none)⟩, ⟨PyData.keyHash P ⟨#[95, 95, 108, 111, 97, 100, 101, 114, 95, 95]⟩, (.str ⟨#[95, 95, 108, 111, 97, 100, 101, 114, 95, 95]⟩ 168), (.builtin "__main__.__loader__#opaque")⟩, ⟨PyData.keyHash P ⟨#[95, 95, 115, 112, 101, 99, 95, 95]⟩, (.str ⟨#[95, 95, 115, 112, 101, 99, 95, 95]⟩ 169), (.none)⟩, ⟨PyData.keyHash P ⟨#[95, 95, 97, 110, 110, 111, 116, 97, 116, 105, 111, 110, 115, 95, 95]⟩, (.str ⟨#[95, 95, 97, 110, 110, 111, 116, 97, 116, 105, 111, 110, 115, 95, 95]⟩ 170), (.ref 6)⟩, ⟨PyData.keyHash P ⟨#[95, 95, 98, 117, 105, 108, 116, 105, 110, 115, 95, 95]⟩, (.str ⟨#[95, 95, 98, 117, 105, 108, 116, 105, 110, 115, 95, 95]⟩ 171), (.ref 4)⟩, ⟨PyData.keyHash P ⟨#[95, 95, 102, 105, 108, 101, 95, 95]⟩, (.str ⟨#[95, 95, 102, 105, 108, 101, 95, 95]⟩ 173), (.str ⟨#[47, 99, 108, 97, 105, 109, 47, 99, 117, 116, 46, 112, 121]⟩ 172)⟩, ⟨PyData.keyHash P ⟨#[95, 95, 99, 97, 99, 104, 101, 100, 95, 95]⟩, (.str ⟨#[95, 95, 99, 97, 99, 104, 101, 100, 95, 95]⟩ 174), (.none)⟩, ⟨PyData.keyHash P ⟨#[95, 77, 65, 88, 95, 83, 84, 82, 73, 78, 71, 95, 83, 73, 90, 69]⟩, (.str ⟨#[95, 77, 65, 88, 95, 83, 84, 82, 73, 78, 71, 95, 83, 73, 90, 69]⟩ 190), (.int 40 189)⟩, ⟨PyData.keyHash P ⟨#[95, 77, 79, 86, 69, 95, 67, 79, 83, 84]⟩, (.str ⟨#[95, 77, 79, 86, 69, 95, 67, 79, 83, 84]⟩ 192), (.int 2 191)⟩, ⟨PyData.keyHash P ⟨#[95, 67, 65, 83, 69, 95, 67, 79, 83, 84]⟩, (.str ⟨#[95, 67, 65, 83, 69, 95, 67, 79, 83, 84]⟩ 194), (.int 1 193)⟩, ⟨PyData.keyHash P ⟨#[95, 115, 117, 98, 115, 116, 105, 116, 117, 116, 105, 111, 110, 95, 99, 111, 115, 116]⟩, (.str ⟨#[95, 115, 117, 98, 115, 116, 105, 116, 117, 116, 105, 111, 110, 95, 99, 111, 115, 116]⟩ 202), (.ref 21)⟩] 13), #[]⟩
noncomputable def o12v1 (P : Params) : Obj := ⟨(.none), none, (.fields #[(.int 5 0), (.int 0 0), (.ref 20)]), #[]⟩
noncomputable def o15v0 (P : Params) : Obj := ⟨(.type "tuple"), none, (.seq #[] 0), #[]⟩
noncomputable def o16v0 (P : Params) : Obj := ⟨(.none), none, (.fields #[]), #[]⟩
noncomputable def o17v0 (P : Params) : Obj := ⟨(.type "tuple"), none, (.seq #[(.str ⟨#[99, 104, 95, 97]⟩ 198), (.str ⟨#[99, 104, 95, 98]⟩ 199)] 0), #[]⟩
noncomputable def o18v0 (P : Params) : Obj := ⟨(.type "tuple"), none, (.seq #[] 0), #[]⟩
noncomputable def o19v0 (P : Params) : Obj := ⟨(.none), none, .func (fd st4 0 (.none) (.none) 0), #[]⟩
noncomputable def o20v0 (P : Params) : Obj := ⟨(.type "code"), none, (.fields #[(.str ⟨#[95, 115, 117, 98, 115, 116, 105, 116, 117, 116, 105, 111, 110, 95, 99, 111, 115, 116]⟩ 195), (.str ⟨#[95, 115, 117, 98, 115, 116, 105, 116, 117, 116, 105, 111, 110, 95, 99, 111, 115, 116]⟩ 196), (.str ⟨#[47, 99, 108, 97, 105, 109, 47, 99, 117, 116, 46, 112, 121]⟩ 197), (.int 5 0), (.int 2 0), (.int 0 0), (.int 0 0), (.int 3 0), (.ref 15), (.bool true), (.int 181 0), (.ref 16), (.none), (.ref 17), (.ref 18), (.ref 19), (.int 200 0), (.int 5 0), (.str ⟨#[47, 99, 108, 97, 105, 109, 47, 99, 117, 116, 46, 112, 121]⟩ 201)]), #[]⟩
noncomputable def o21v0 (P : Params) : Obj := ⟨(.type "function"), none, .func (fd st4 3 (.str ⟨#[99, 112, 121, 51, 49, 51, 46, 116, 114, 97, 99, 101, 98, 97, 99, 107]⟩ 187) (.ref 20) 0), #[]⟩
noncomputable def T5 (P : Params) : BT := (.node (boot_o_0 P) (.node (boot_o_1 P) (.node (o3v5 P) (.node (boot_o_7 P) (.node (o15v0 P) .nil .nil) .nil) (.node (o11v0 P) (.node (o19v0 P) .nil .nil) .nil)) (.node (boot_o_5 P) (.node (boot_o_9 P) (.node (o17v0 P) .nil .nil) .nil) (.node (o13v0 P) (.node (o21v0 P) .nil .nil) .nil))) (.node (boot_o_2 P) (.node (boot_o_4 P) (.node (boot_o_8 P) (.node (o16v0 P) .nil .nil) .nil) (.node (o12v1 P) (.node (o20v0 P) .nil .nil) .nil)) (.node (boot_o_6 P) (.node (boot_o_10 P) (.node (o18v0 P) .nil .nil) .nil) (.node (o14v0 P) .nil .nil))))
theorem pt4 (w : World) (os : OsState) : segRunT treeTable pp w 11 (some (.ref 6)) 1 31 ⟨T4 w.params, 15, {}, #[], {}, 195, os⟩ (piecesOf [st4] env (.body bd env) ⟨4, 0, 4, 10⟩ [topFrame ⟨0, 0, 0, 0⟩]) = some (.next, ⟨T5 w.params, 22, {}, #[], {}, 203, os⟩, .body bd env, ⟨5, 0, 10, 21⟩) := by
  show segRunT treeTable pp _ 11 (some (.ref 6)) 1 31 _ ⟨(execs [st4] env).wrap doneF deadEnd id id, .body bd env, ⟨4, 0, 4, 10⟩, [topFrame ⟨0, 0, 0, 0⟩]⟩ = _
  rw [PySem.W.Fast.te10110043849684766642, PySem.W.Fast.te14364793385576792824, PySem.W.Fast.te12563942051412417395]
  kernel_rfl!
theorem pc4 (w : World) (os : OsState) : segRun treeTable pp w 11 (some (.ref 6)) 1 31 (SharedT.abs ⟨T4 w.params, 15, {}, #[], {}, 195, os⟩) (piecesOf [st4] env (.body bd env) ⟨4, 0, 4, 10⟩ [topFrame ⟨0, 0, 0, 0⟩]) = some (.next, SharedT.abs ⟨T5 w.params, 22, {}, #[], {}, 203, os⟩, .body bd env, ⟨5, 0, 10, 21⟩) := segRun_of (pt4 w os)
noncomputable def o3v6 (P : Params) : Obj := ⟨(.type "dict"), none, (.dict #[⟨PyData.keyHash P ⟨#[95, 95, 110, 97, 109, 101, 95, 95]⟩, (.str ⟨#[95, 95, 110, 97, 109, 101, 95, 95]⟩ 165), (.str ⟨#[99, 112, 121, 51, 49, 51, 46, 116, 114, 97, 99, 101, 98, 97, 99, 107]⟩ 187)⟩, ⟨PyData.keyHash P ⟨#[95, 95, 100, 111, 99, 95, 95]⟩, (.str ⟨#[95, 95, 100, 111, 99, 95, 95]⟩ 166), (.none)⟩, ⟨PyData.keyHash P ⟨#[95, 95, 112, 97, 99, 107, 97, 103, 101, 95, 95]⟩, (.str ⟨#[95, 95, 112, 97, 99, 107, 97, 103, 101, 95, 95]⟩ 167), (.none)⟩, ⟨PyData.keyHash P ⟨#[95, 95, 108, 111, 97, 100, 101, 114, 95, 95]⟩, (.str ⟨#[95, 95, 108, 111, 97, 100, 101, 114, 95, 95]⟩ 168), (.builtin "__main__.__loader__#opaque")⟩, ⟨PyData.keyHash P ⟨#[95, 95, 115, 112, 101, 99, 95, 95]⟩, (.str ⟨#[95, 95, 115, 112, 101, 99, 95, 95]⟩ 169), (.none)⟩, ⟨PyData.keyHash P ⟨#[95, 95, 97, 110, 110, 111, 116, 97, 116, 105, 111, 110, 115, 95, 95]⟩, (.str ⟨#[95, 95, 97, 110, 110, 111, 116, 97, 116, 105, 111, 110, 115, 95, 95]⟩ 170), (.ref 6)⟩, ⟨PyData.keyHash P ⟨#[95, 95, 98, 117, 105, 108, 116, 105, 110, 115, 95, 95]⟩, (.str ⟨#[95, 95, 98, 117, 105, 108, 116, 105, 110, 115, 95, 95]⟩ 171), (.ref 4)⟩, ⟨PyData.keyHash P ⟨#[95, 95, 102, 105, 108, 101, 95, 95]⟩, (.str ⟨#[95, 95, 102, 105, 108, 101, 95, 95]⟩ 173), (.str ⟨#[47, 99, 108, 97, 105, 109, 47, 99, 117, 116, 46, 112, 121]⟩ 172)⟩, ⟨PyData.keyHash P ⟨#[95, 95, 99, 97, 99, 104, 101, 100, 95, 95]⟩, (.str ⟨#[95, 95, 99, 97, 99, 104, 101, 100, 95, 95]⟩ 174), (.none)⟩, ⟨PyData.keyHash P ⟨#[95, 77, 65, 88, 95, 83, 84, 82, 73, 78, 71, 95, 83, 73, 90, 69]⟩, (.str ⟨#[95, 77, 65, 88, 95, 83, 84, 82, 73, 78, 71, 95, 83, 73, 90, 69]⟩ 190), (.int 40 189)⟩, ⟨PyData.keyHash P ⟨#[95, 77, 79, 86, 69, 95, 67, 79, 83, 84]⟩, (.str ⟨#[95, 77, 79, 86, 69, 95, 67, 79, 83, 84]⟩ 192), (.int 2 191)⟩, ⟨PyData.keyHash P ⟨#[95, 67, 65, 83, 69, 95, 67, 79, 83, 84]⟩, (.str ⟨#[95, 67, 65, 83, 69, 95, 67, 79, 83, 84]⟩ 194), (.int 1 193)⟩, ⟨PyData.keyHash P ⟨#[95, 115, 117, 98, 115, 116, 105, 116, 117, 116, 105, 111, 110, 95, 99, 111, 115, 116]⟩, (.str ⟨#[95, 115, 117, 98, 115, 116, 105, 116, 117, 116, 105, 111, 110, 95, 99, 111, 115, 116]⟩ 202), (.ref 21)⟩, ⟨PyData.keyHash P ⟨#[95, 108, 101, 118, 101, 110, 115, 104, 116, 101, 105, 110, 95, 100, 105, 115, 116, 97, 110, 99, 101]⟩, (.str ⟨#[95, 108, 101, 118, 101, 110, 115, 104, 116, 101, 105, 110, 95, 100, 105, 115, 116, 97, 110, 99, 101]⟩ 222), (.ref 28)⟩] 14), #[]⟩
noncomputable def o12v2 (P : Params) : Obj := ⟨(.none), none, (.fields #[(.int 5 0), (.int 0 0), (.ref 20), (.int 11 0), (.int 0 0), (.ref 27)]), #[]⟩
noncomputable def o22v0 (P : Params) : Obj := ⟨(.type "tuple"), none, (.seq #[] 0), #[]⟩
noncomputable def o23v0 (P : Params) : Obj := ⟨(.none), none, (.fields #[]), #[]⟩
noncomputable def o24v0 (P : Params) : Obj := ⟨(.type "tuple"), none, (.seq #[(.str ⟨#[97]⟩ 206), (.str ⟨#[98]⟩ 207), (.str ⟨#[109, 97, 120, 95, 99, 111, 115, 116]⟩ 208), (.str ⟨#[112, 114, 101]⟩ 209), (.str ⟨#[112, 111, 115, 116]⟩ 210), (.str ⟨#[114, 111, 119]⟩ 211), (.str ⟨#[114, 101, 115, 117, 108, 116]⟩ 212), (.str ⟨#[98, 105, 110, 100, 101, 120]⟩ 213), (.str ⟨#[98, 99, 104, 97, 114]⟩ 214), (.str ⟨#[100, 105, 115, 116, 97, 110, 99, 101]⟩ 215), (.str ⟨#[109, 105, 110, 105, 109, 117, 109]⟩ 216), (.str ⟨#[105, 110, 100, 101, 120]⟩ 217), (.str ⟨#[115, 117, 98, 115, 116, 105, 116, 117, 116, 101]⟩ 218), (.str ⟨#[105, 110, 115, 101, 114, 116, 95, 100, 101, 108, 101, 116, 101]⟩ 219)] 0), #[]⟩
noncomputable def o25v0 (P : Params) : Obj := ⟨(.type "tuple"), none, (.seq #[] 0), #[]⟩
noncomputable def o26v0 (P : Params) : Obj := ⟨(.none), none, .func (fd st5 0 (.none) (.none) 0), #[]⟩
noncomputable def o27v0 (P : Params) : Obj := ⟨(.type "code"), none, (.fields #[(.str ⟨#[95, 108, 101, 118, 101, 110, 115, 104, 116, 101, 105, 110, 95, 100, 105, 115, 116, 97, 110, 99, 101]⟩ 203), (.str ⟨#[95, 108, 101, 118, 101, 110, 115, 104, 116, 101, 105, 110, 95, 100, 105, 115, 116, 97, 110, 99, 101]⟩ 204), (.str ⟨#[47, 99, 108, 97, 105, 109, 47, 99, 117, 116, 46, 112, 121]⟩ 205), (.int 11 0), (.int 3 0), (.int 0 0), (.int 0 0), (.int 3 0), (.ref 22), (.bool true), (.int 181 0), (.ref 23), (.none), (.ref 24), (.ref 25), (.ref 26), (.int 220 0), (.int 11 0), (.str ⟨#[47, 99, 108, 97, 105, 109, 47, 99, 117, 116, 46, 112, 121]⟩ 221)]), #[]⟩
noncomputable def o28v0 (P : Params) : Obj := ⟨(.type "function"), none, .func (fd st5 3 (.str ⟨#[99, 112, 121, 51, 49, 51, 46, 116, 114, 97, 99, 101, 98, 97, 99, 107]⟩ 187) (.ref 27) 0), #[]⟩
noncomputable def T6 (P : Params) : BT := (.node (boot_o_0 P) (.node (boot_o_1 P) (.node (o3v6 P) (.node (boot_o_7 P) (.node (o15v0 P) .nil .nil) (.node (o23v0 P) .nil .nil)) (.node (o11v0 P) (.node (o19v0 P) .nil .nil) (.node (o27v0 P) .nil .nil))) (.node (boot_o_5 P) (.node (boot_o_9 P) (.node (o17v0 P) .nil .nil) (.node (o25v0 P) .nil .nil)) (.node (o13v0 P) (.node (o21v0 P) .nil .nil) .nil))) (.node (boot_o_2 P) (.node (boot_o_4 P) (.node (boot_o_8 P) (.node (o16v0 P) .nil .nil) (.node (o24v0 P) .nil .nil)) (.node (o12v2 P) (.node (o20v0 P) .nil .nil) (.node (o28v0 P) .nil .nil))) (.node (boot_o_6 P) (.node (boot_o_10 P) (.node (o18v0 P) .nil .nil) (.node (o26v0 P) .nil .nil)) (.node (o14v0 P) (.node (o22v0 P) .nil .nil) .nil))))
theorem pt5 (w : World) (os : OsState) : segRunT treeTable pp w 11 (some (.ref 6)) 1 43 ⟨T5 w.params, 22, {}, #[], {}, 203, os⟩ (piecesOf [st5] env (.body bd env) ⟨5, 0, 10, 21⟩ [topFrame ⟨0, 0, 0, 0⟩]) = some (.next, ⟨T6 w.params, 29, {}, #[], {}, 223, os⟩, .body bd env, ⟨11, 0, 48, 17⟩) := by
  show segRunT treeTable pp _ 11 (some (.ref 6)) 1 43 _ ⟨(execs [st5] env).wrap doneF deadEnd id id, .body bd env, ⟨5, 0, 10, 21⟩, [topFrame ⟨0, 0, 0, 0⟩]⟩ = _
  rw [PySem.W.Fast.te10110043849684766642, PySem.W.Fast.te14364793385576792824, PySem.W.Fast.te12563942051412417395]
  kernel_rfl!
theorem pc5 (w : World) (os : OsState) : segRun treeTable pp w 11 (some (.ref 6)) 1 43 (SharedT.abs ⟨T5 w.params, 22, {}, #[], {}, 203, os⟩) (piecesOf [st5] env (.body bd env) ⟨5, 0, 10, 21⟩ [topFrame ⟨0, 0, 0, 0⟩]) = some (.next, SharedT.abs ⟨T6 w.params, 29, {}, #[], {}, 223, os⟩, .body bd env, ⟨11, 0, 48, 17⟩) := segRun_of (pt5 w os)
noncomputable def o3v7 (P : Params) : Obj := ⟨(.type "dict"), none, (.dict #[⟨PyData.keyHash P ⟨#[95, 95, 110, 97, 109, 101, 95, 95]⟩, (.str ⟨#[95, 95, 110, 97, 109, 101, 95, 95]⟩ 165), (.str ⟨#[99, 112, 121, 51, 49, 51, 46, 105, 109, 97, 112, 108, 105, 98]⟩ 223)⟩, ⟨PyData.keyHash P ⟨#[95, 95, 100, 111, 99, 95, 95]⟩, (.str ⟨#[95, 95, 100, 111, 99, 95, 95]⟩ 166), (.none)⟩, ⟨PyData.keyHash P ⟨#[95, 95, 112, 97, 99, 107, 97, 103, 101, 95, 95]⟩, (.str ⟨#[95, 95, 112, 97, 99, 107, 97, 103, 101, 95, 95]⟩ 167), (.none)⟩, ⟨PyData.keyHash P ⟨#[95, 95, 108, 111, 97, 100, 101, 114, 95, 95]⟩, (.str ⟨#[95, 95, 108, 111, 97, 100, 101, 114, 95, 95]⟩ 168), (.builtin "__main__.__loader__#opaque")⟩, ⟨PyData.keyHash P ⟨#[95, 95, 115, 112, 101, 99, 95, 95]⟩, (.str ⟨#[95, 95, 115, 112, 101, 99, 95, 95]⟩ 169), (.none)⟩, ⟨PyData.keyHash P ⟨#[95, 95, 97, 110, 110, 111, 116, 97, 116, 105, 111, 110, 115, 95, 95]⟩, (.str ⟨#[95, 95, 97, 110, 110, 111, 116, 97, 116, 105, 111, 110, 115, 95, 95]⟩ 170), (.ref 6)⟩, ⟨PyData.keyHash P ⟨#[95, 95, 98, 117, 105, 108, 116, 105, 110, 115, 95, 95]⟩, (.str ⟨#[95, 95, 98, 117, 105, 108, 116, 105, 110, 115, 95, 95]⟩ 171), (.ref 4)⟩, ⟨PyData.keyHash P ⟨#[95, 95, 102, 105, 108, 101, 95, 95]⟩, (.str ⟨#[95, 95, 102, 105, 108, 101, 95, 95]⟩ 173), (.str ⟨#[47, 99, 108, 97, 105, 109, 47, 99, 117, 116, 46, 112, 121]⟩ 172)⟩, ⟨PyData.keyHash P ⟨#[95, 95, 99, 97, 99, 104, 101, 100, 95, 95]⟩, (.str ⟨#[95, 95, 99, 97, 99, 104, 101, 100, 95, 95]⟩ 174), (.none)⟩, ⟨PyData.keyHash P ⟨#[95, 77, 65, 88, 95, 83, 84, 82, 73, 78, 71, 95, 83, 73, 90, 69]⟩, (.str ⟨#[95, 77, 65, 88, 95, 83, 84, 82, 73, 78, 71, 95, 83, 73, 90, 69]⟩ 190), (.int 40 189)⟩, ⟨PyData.keyHash P ⟨#[95, 77, 79, 86, 69, 95, 67, 79, 83, 84]⟩, (.str ⟨#[95, 77, 79, 86, 69, 95, 67, 79, 83, 84]⟩ 192), (.int 2 191)⟩, ⟨PyData.keyHash P ⟨#[95, 67, 65, 83, 69, 95, 67, 79, 83, 84]⟩, (.str ⟨#[95, 67, 65, 83, 69, 95, 67, 79, 83, 84]⟩ 194), (.int 1 193)⟩, ⟨PyData.keyHash P ⟨#[95, 115, 117, 98, 115, 116, 105, 116, 117, 116, 105, 111, 110, 95, 99, 111, 115, 116]⟩, (.str ⟨#[95, 115, 117, 98, 115, 116, 105, 116, 117, 116, 105, 111, 110, 95, 99, 111, 115, 116]⟩ 202), (.ref 21)⟩, ⟨PyData.keyHash P ⟨#[95, 108, 101, 118, 101, 110, 115, 104, 116, 101, 105, 110, 95, 100, 105, 115, 116, 97, 110, 99, 101]⟩, (.str ⟨#[95, 108, 101, 118, 101, 110, 115, 104, 116, 101, 105, 110, 95, 100, 105, 115, 116, 97, 110, 99, 101]⟩ 222), (.ref 28)⟩] 14), #[]⟩
noncomputable def T7 (P : Params) : BT := (.node (boot_o_0 P) (.node (boot_o_1 P) (.node (o3v7 P) (.node (boot_o_7 P) (.node (o15v0 P) .nil .nil) (.node (o23v0 P) .nil .nil)) (.node (o11v0 P) (.node (o19v0 P) .nil .nil) (.node (o27v0 P) .nil .nil))) (.node (boot_o_5 P) (.node (boot_o_9 P) (.node (o17v0 P) .nil .nil) (.node (o25v0 P) .nil .nil)) (.node (o13v0 P) (.node (o21v0 P) .nil .nil) .nil))) (.node (boot_o_2 P) (.node (boot_o_4 P) (.node (boot_o_8 P) (.node (o16v0 P) .nil .nil) (.node (o24v0 P) .nil .nil)) (.node (o12v2 P) (.node (o20v0 P) .nil .nil) (.node (o28v0 P) .nil .nil))) (.node (boot_o_6 P) (.node (boot_o_10 P) (.node (o18v0 P) .nil .nil) (.node (o26v0 P) .nil .nil)) (.node (o14v0 P) (.node (o22v0 P) .nil .nil) .nil))))
theorem pt6 (w : World) (os : OsState) : segRunT treeTable pp w 11 (some (.ref 6)) 1 10 ⟨T6 w.params, 29, {}, #[], {}, 223, os⟩ (piecesOf [st6] env (.body bd env) ⟨11, 0, 48, 17⟩ [topFrame ⟨0, 0, 0, 0⟩]) = some (.next, ⟨T7 w.params, 29, {}, #[], {}, 225, os⟩, .body bd env, ⟨49, 0, 49, 8⟩) := by
  show segRunT treeTable pp _ 11 (some (.ref 6)) 1 10 _ ⟨(execs [st6] env).wrap doneF deadEnd id id, .body bd env, ⟨11, 0, 48, 17⟩, [topFrame ⟨0, 0, 0, 0⟩]⟩ = _
  rw [PySem.W.Fast.te10110043849684766642, PySem.W.Fast.te14364793385576792824, PySem.W.Fast.te12563942051412417395]
  kernel_rfl!
theorem pc6 (w : World) (os : OsState) : segRun treeTable pp w 11 (some (.ref 6)) 1 10 (SharedT.abs ⟨T6 w.params, 29, {}, #[], {}, 223, os⟩) (piecesOf [st6] env (.body bd env) ⟨11, 0, 48, 17⟩ [topFrame ⟨0, 0, 0, 0⟩]) = some (.next, SharedT.abs ⟨T7 w.params, 29, {}, #[], {}, 225, os⟩, .body bd env, ⟨49, 0, 49, 8⟩) := segRun_of (pt6 w os)
noncomputable def o3v8 (P : Params) : Obj := ⟨(.type "dict"), none, (.dict #[⟨PyData.keyHash P ⟨#[95, 95, 110, 97, 109, 101, 95, 95]⟩, (.str ⟨#[95, 95, 110, 97, 109, 101, 95, 95]⟩ 165), (.str ⟨#[99, 112, 121, 51, 49, 51, 46, 105, 109, 97, 112, 108, 105, 98]⟩ 223)⟩, ⟨PyData.keyHash P ⟨#[95, 95, 100, 111, 99, 95, 95]⟩, (.str ⟨#[95, 95, 100, 111, 99, 95, 95]⟩ 166), (.none)⟩, ⟨PyData.keyHash P ⟨#[95, 95, 112, 97, 99, 107, 97, 103, 101, 95, 95]⟩, (.str ⟨#[95, 95, 112, 97, 99, 107, 97, 103, 101, 95, 95]⟩ 167), (.none)⟩, ⟨PyData.keyHash P ⟨#[95, 95, 108, 111, 97, 100, 101, 114, 95, 95]⟩, (.str ⟨#[95, 95, 108, 111, 97, 100, 101, 114, 95, 95]⟩ 168), (.builtin "__main__.__loader__#opaque")⟩, ⟨PyData.keyHash P ⟨#[95, 95, 115, 112, 101, 99, 95, 95]⟩, (.str ⟨#[95, 95, 115, 112, 101, 99, 95, 95]⟩ 169), (.none)⟩, ⟨PyData.keyHash P ⟨#[95, 95, 97, 110, 110, 111, 116, 97, 116, 105, 111, 110, 115, 95, 95]⟩, (.str ⟨#[95, 95, 97, 110, 110, 111, 116, 97, 116, 105, 111, 110, 115, 95, 95]⟩ 170), (.ref 6)⟩, ⟨PyData.keyHash P ⟨#[95, 95, 98, 117, 105, 108, 116, 105, 110, 115, 95, 95]⟩, (.str ⟨#[95, 95, 98, 117, 105, 108, 116, 105, 110, 115, 95, 95]⟩ 171), (.ref 4)⟩, ⟨PyData.keyHash P ⟨#[95, 95, 102, 105, 108, 101, 95, 95]⟩, (.str ⟨#[95, 95, 102, 105, 108, 101, 95, 95]⟩ 173), (.str ⟨#[47, 99, 108, 97, 105, 109, 47, 99, 117, 116, 46, 112, 121]⟩ 172)⟩, ⟨PyData.keyHash P ⟨#[95, 95, 99, 97, 99, 104, 101, 100, 95, 95]⟩, (.str ⟨#[95, 95, 99, 97, 99, 104, 101, 100, 95, 95]⟩ 174), (.none)⟩, ⟨PyData.keyHash P ⟨#[95, 77, 65, 88, 95, 83, 84, 82, 73, 78, 71, 95, 83, 73, 90, 69]⟩, (.str ⟨#[95, 77, 65, 88, 95, 83, 84, 82, 73, 78, 71, 95, 83, 73, 90, 69]⟩ 190), (.int 40 189)⟩, ⟨PyData.keyHash P ⟨#[95, 77, 79, 86, 69, 95, 67, 79, 83, 84]⟩, (.str ⟨#[95, 77, 79, 86, 69, 95, 67, 79, 83, 84]⟩ 192), (.int 2 191)⟩, ⟨PyData.keyHash P ⟨#[95, 67, 65, 83, 69, 95, 67, 79, 83, 84]⟩, (.str ⟨#[95, 67, 65, 83, 69, 95, 67, 79, 83, 84]⟩ 194), (.int 1 193)⟩, ⟨PyData.keyHash P ⟨#[95, 115, 117, 98, 115, 116, 105, 116, 117, 116, 105, 111, 110, 95, 99, 111, 115, 116]⟩, (.str ⟨#[95, 115, 117, 98, 115, 116, 105, 116, 117, 116, 105, 111, 110, 95, 99, 111, 115, 116]⟩ 202), (.ref 21)⟩, ⟨PyData.keyHash P ⟨#[95, 108, 101, 118, 101, 110, 115, 104, 116, 101, 105, 110, 95, 100, 105, 115, 116, 97, 110, 99, 101]⟩, (.str ⟨#[95, 108, 101, 118, 101, 110, 115, 104, 116, 101, 105, 110, 95, 100, 105, 115, 116, 97, 110, 99, 101]⟩ 222), (.ref 28)⟩, ⟨PyData.keyHash P ⟨#[73, 110, 116, 50, 65, 80]⟩, (.str ⟨#[73, 110, 116, 50, 65, 80]⟩ 234), (.ref 35)⟩] 15), #[]⟩
noncomputable def o12v3 (P : Params) : Obj := ⟨(.none), none, (.fields #[(.int 5 0), (.int 0 0), (.ref 20), (.int 11 0), (.int 0 0), (.ref 27), (.int 50 0), (.int 0 0), (.ref 34)]), #[]⟩
noncomputable def o29v0 (P : Params) : Obj := ⟨(.type "tuple"), none, (.seq #[] 0), #[]⟩
noncomputable def o30v0 (P : Params) : Obj := ⟨(.none), none, (.fields #[]), #[]⟩
noncomputable def o31v0 (P : Params) : Obj := ⟨(.type "tuple"), none, (.seq #[(.str ⟨#[110, 117, 109]⟩ 228), (.str ⟨#[118, 97, 108]⟩ 229), (.str ⟨#[65, 80]⟩ 230), (.str ⟨#[109, 111, 100]⟩ 231)] 0), #[]⟩
noncomputable def o32v0 (P : Params) : Obj := ⟨(.type "tuple"), none, (.seq #[] 0), #[]⟩
noncomputable def o33v0 (P : Params) : Obj := ⟨(.none), none, .func (fd st7 0 (.none) (.none) 0), #[]⟩
noncomputable def o34v0 (P : Params) : Obj := ⟨(.type "code"), none, (.fields #[(.str ⟨#[73, 110, 116, 50, 65, 80]⟩ 225), (.str ⟨#[73, 110, 116, 50, 65, 80]⟩ 226), (.str ⟨#[47, 99, 108, 97, 105, 109, 47, 99, 117, 116, 46, 112, 121]⟩ 227), (.int 50 0), (.int 1 0), (.int 0 0), (.int 0 0), (.int 3 0), (.ref 29), (.bool true), (.int 181 0), (.ref 30), (.none), (.ref 31), (.ref 32), (.ref 33), (.int 232 0), (.int 50 0), (.str ⟨#[47, 99, 108, 97, 105, 109, 47, 99, 117, 116, 46, 112, 121]⟩ 233)]), #[]⟩
noncomputable def o35v0 (P : Params) : Obj := ⟨(.type "function"), none, .func (fd st7 3 (.str ⟨#[99, 112, 121, 51, 49, 51, 46, 105, 109, 97, 112, 108, 105, 98]⟩ 223) (.ref 34) 0), #[]⟩
noncomputable def T8 (P : Params) : BT := (.node (boot_o_0 P) (.node (boot_o_1 P) (.node (o3v8 P) (.node (boot_o_7 P) (.node (o15v0 P) (.node (o31v0 P) .nil .nil) .nil) (.node (o23v0 P) .nil .nil)) (.node (o11v0 P) (.node (o19v0 P) (.node (o35v0 P) .nil .nil) .nil) (.node (o27v0 P) .nil .nil))) (.node (boot_o_5 P) (.node (boot_o_9 P) (.node (o17v0 P) (.node (o33v0 P) .nil .nil) .nil) (.node (o25v0 P) .nil .nil)) (.node (o13v0 P) (.node (o21v0 P) .nil .nil) (.node (o29v0 P) .nil .nil)))) (.node (boot_o_2 P) (.node (boot_o_4 P) (.node (boot_o_8 P) (.node (o16v0 P) (.node (o32v0 P) .nil .nil) .nil) (.node (o24v0 P) .nil .nil)) (.node (o12v3 P) (.node (o20v0 P) .nil .nil) (.node (o28v0 P) .nil .nil))) (.node (boot_o_6 P) (.node (boot_o_10 P) (.node (o18v0 P) (.node (o34v0 P) .nil .nil) .nil) (.node (o26v0 P) .nil .nil)) (.node (o14v0 P) (.node (o22v0 P) .nil .nil) (.node (o30v0 P) .nil .nil)))))
theorem pt7 (w : World) (os : OsState) : segRunT treeTable pp w 11 (some (.ref 6)) 1 33 ⟨T7 w.params, 29, {}, #[], {}, 225, os⟩ (piecesOf [st7] env (.body bd env) ⟨49, 0, 49, 8⟩ [topFrame ⟨0, 0, 0, 0⟩]) = some (.next, ⟨T8 w.params, 36, {}, #[], {}, 235, os⟩, .body bd env, ⟨50, 0, 57, 14⟩) := by
  show segRunT treeTable pp _ 11 (some (.ref 6)) 1 33 _ ⟨(execs [st7] env).wrap doneF deadEnd id id, .body bd env, ⟨49, 0, 49, 8⟩, [topFrame ⟨0, 0, 0, 0⟩]⟩ = _
  rw [PySem.W.Fast.te10110043849684766642, PySem.W.Fast.te14364793385576792824, PySem.W.Fast.te12563942051412417395]
  kernel_rfl!
theorem pc7 (w : World) (os : OsState) : segRun treeTable pp w 11 (some (.ref 6)) 1 33 (SharedT.abs ⟨T7 w.params, 29, {}, #[], {}, 225, os⟩) (piecesOf [st7] env (.body bd env) ⟨49, 0, 49, 8⟩ [topFrame ⟨0, 0, 0, 0⟩]) = some (.next, SharedT.abs ⟨T8 w.params, 36, {}, #[], {}, 235, os⟩, .body bd env, ⟨50, 0, 57, 14⟩) := segRun_of (pt7 w os)
noncomputable def o3v9 (P : Params) : Obj := ⟨(.type "dict"), none, (.dict #[⟨PyData.keyHash P ⟨#[95, 95, 110, 97, 109, 101, 95, 95]⟩, (.str ⟨#[95, 95, 110, 97, 109, 101, 95, 95]⟩ 165), (.str ⟨#[99, 112, 121, 51, 49, 51, 46, 115, 116, 114, 105, 110, 103, 112, 114, 101, 112]⟩ 235)⟩, ⟨PyData.keyHash P ⟨#[95, 95, 100, 111, 99, 95, 95]⟩, (.str ⟨#[95, 95, 100, 111, 99, 95, 95]⟩ 166), (.none)⟩, ⟨PyData.keyHash P ⟨#[95, 95, 112, 97, 99, 107, 97, 103, 101, 95, 95]⟩, (.str ⟨#[95, 95, 112, 97, 99, 107, 97, 103, 101, 95, 95]⟩ 167), (.none)⟩, ⟨PyData.keyHash P ⟨#[95, 95, 108, 111, 97, 100, 101, 114, 95, 95]⟩, (.str ⟨#[95, 95, 108, 111, 97, 100, 101, 114, 95, 95]⟩ 168), (.builtin "__main__.__loader__#opaque")⟩, ⟨PyData.keyHash P ⟨#[95, 95, 115, 112, 101, 99, 95, 95]⟩, (.str ⟨#[95, 95, 115, 112, 101, 99, 95, 95]⟩ 169), (.none)⟩, ⟨PyData.keyHash P ⟨#[95, 95, 97, 110, 110, 111, 116, 97, 116, 105, 111, 110, 115, 95, 95]⟩, (.str ⟨#[95, 95, 97, 110, 110, 111, 116, 97, 116, 105, 111, 110, 115, 95, 95]⟩ 170), (.ref 6)⟩, ⟨PyData.keyHash P ⟨#[95, 95, 98, 117, 105, 108, 116, 105, 110, 115, 95, 95]⟩, (.str ⟨#[95, 95, 98, 117, 105, 108, 116, 105, 110, 115, 95, 95]⟩ 171), (.ref 4)⟩, ⟨PyData.keyHash P ⟨#[95, 95, 102, 105, 108, 101, 95, 95]⟩, (.str ⟨#[95, 95, 102, 105, 108, 101, 95, 95]⟩ 173), (.str ⟨#[47, 99, 108, 97, 105, 109, 47, 99, 117, 116, 46, 112, 121]⟩ 172)⟩, ⟨PyData.keyHash P ⟨#[95, 95, 99, 97, 99, 104, 101, 100, 95, 95]⟩, (.str ⟨#[95, 95, 99, 97, 99, 104, 101, 100, 95, 95]⟩ 174), (.none)⟩, ⟨PyData.keyHash P ⟨#[95, 77, 65, 88, 95, 83, 84, 82, 73, 78, 71, 95, 83, 73, 90, 69]⟩, (.str ⟨#[95, 77, 65, 88, 95, 83, 84, 82, 73, 78, 71, 95, 83, 73, 90, 69]⟩ 190), (.int 40 189)⟩, ⟨PyData.keyHash P ⟨#[95, 77, 79, 86, 69, 95, 67, 79, 83, 84]⟩, (.str ⟨#[95, 77, 79, 86, 69, 95, 67, 79, 83, 84]⟩ 192), (.int 2 191)⟩, ⟨PyData.keyHash P ⟨#[95, 67, 65, 83, 69, 95, 67, 79, 83, 84]⟩, (.str ⟨#[95, 67, 65, 83, 69, 95, 67, 79, 83, 84]⟩ 194), (.int 1 193)⟩, ⟨PyData.keyHash P ⟨#[95, 115, 117, 98, 115, 116, 105, 116, 117, 116, 105, 111, 110, 95, 99, 111, 115, 116]⟩, (.str ⟨#[95, 115, 117, 98, 115, 116, 105, 116, 117, 116, 105, 111, 110, 95, 99, 111, 115, 116]⟩ 202), (.ref 21)⟩, ⟨PyData.keyHash P ⟨#[95, 108, 101, 118, 101, 110, 115, 104, 116, 101, 105, 110, 95, 100, 105, 115, 116, 97, 110, 99, 101]⟩, (.str ⟨#[95, 108, 101, 118, 101, 110, 115, 104, 116, 101, 105, 110, 95, 100, 105, 115, 116, 97, 110, 99, 101]⟩ 222), (.ref 28)⟩, ⟨PyData.keyHash P ⟨#[73, 110, 116, 50, 65, 80]⟩, (.str ⟨#[73, 110, 116, 50, 65, 80]⟩ 234), (.ref 35)⟩] 15), #[]⟩
noncomputable def T9 (P : Params) : BT := (.node (boot_o_0 P) (.node (boot_o_1 P) (.node (o3v9 P) (.node (boot_o_7 P) (.node (o15v0 P) (.node (o31v0 P) .nil .nil) .nil) (.node (o23v0 P) .nil .nil)) (.node (o11v0 P) (.node (o19v0 P) (.node (o35v0 P) .nil .nil) .nil) (.node (o27v0 P) .nil .nil))) (.node (boot_o_5 P) (.node (boot_o_9 P) (.node (o17v0 P) (.node (o33v0 P) .nil .nil) .nil) (.node (o25v0 P) .nil .nil)) (.node (o13v0 P) (.node (o21v0 P) .nil .nil) (.node (o29v0 P) .nil .nil)))) (.node (boot_o_2 P) (.node (boot_o_4 P) (.node (boot_o_8 P) (.node (o16v0 P) (.node (o32v0 P) .nil .nil) .nil) (.node (o24v0 P) .nil .nil)) (.node (o12v3 P) (.node (o20v0 P) .nil .nil) (.node (o28v0 P) .nil .nil))) (.node (boot_o_6 P) (.node (boot_o_10 P) (.node (o18v0 P) (.node (o34v0 P) .nil .nil) .nil) (.node (o26v0 P) .nil .nil)) (.node (o14v0 P) (.node (o22v0 P) .nil .nil) (.node (o30v0 P) .nil .nil)))))
theorem pt8 (w : World) (os : OsState) : segRunT treeTable pp w 11 (some (.ref 6)) 1 10 ⟨T8 w.params, 36, {}, #[], {}, 235, os⟩ (piecesOf [st8] env (.body bd env) ⟨50, 0, 57, 14⟩ [topFrame ⟨0, 0, 0, 0⟩]) = some (.next, ⟨T9 w.params, 36, {}, #[], {}, 237, os⟩, .body bd env, ⟨58, 0, 58, 8⟩) := by
  show segRunT treeTable pp _ 11 (some (.ref 6)) 1 10 _ ⟨(execs [st8] env).wrap doneF deadEnd id id, .body bd env, ⟨50, 0, 57, 14⟩, [topFrame ⟨0, 0, 0, 0⟩]⟩ = _
  rw [PySem.W.Fast.te10110043849684766642, PySem.W.Fast.te14364793385576792824, PySem.W.Fast.te12563942051412417395]
  kernel_rfl!
theorem pc8 (w : World) (os : OsState) : segRun treeTable pp w 11 (some (.ref 6)) 1 10 (SharedT.abs ⟨T8 w.params, 36, {}, #[], {}, 235, os⟩) (piecesOf [st8] env (.body bd env) ⟨50, 0, 57, 14⟩ [topFrame ⟨0, 0, 0, 0⟩]) = some (.next, SharedT.abs ⟨T9 w.params, 36, {}, #[], {}, 237, os⟩, .body bd env, ⟨58, 0, 58, 8⟩) := segRun_of (pt8 w os)
noncomputable def o3v10 (P : Params) : Obj := ⟨(.type "dict"), none, (.dict #[⟨PyData.keyHash P ⟨#[95, 95, 110, 97, 109, 101, 95, 95]⟩, (.str ⟨#[95, 95, 110, 97, 109, 101, 95, 95]⟩ 165), (.str ⟨#[99, 112, 121, 51, 49, 51, 46, 115, 116, 114, 105, 110, 103, 112, 114, 101, 112]⟩ 235)⟩, ⟨PyData.keyHash P ⟨#[95, 95, 100, 111, 99, 95, 95]⟩, (.str ⟨#[95, 95, 100, 111, 99, 95, 95]⟩ 166), (.none)⟩, ⟨PyData.keyHash P ⟨#[95, 95, 112, 97, 99, 107, 97, 103, 101, 95, 95]⟩, (.str ⟨#[95, 95, 112, 97, 99, 107, 97, 103, 101, 95, 95]⟩ 167), (.none)⟩, ⟨PyData.keyHash P ⟨#[95, 95, 108, 111, 97, 100, 101, 114, 95, 95]⟩, (.str ⟨#[95, 95, 108, 111, 97, 100, 101, 114, 95, 95]⟩ 168), (.builtin "__main__.__loader__#opaque")⟩, ⟨PyData.keyHash P ⟨#[95, 95, 115, 112, 101, 99, 95, 95]⟩, (.str ⟨#[95, 95, 115, 112, 101, 99, 95, 95]⟩ 169), (.none)⟩, ⟨PyData.keyHash P ⟨#[95, 95, 97, 110, 110, 111, 116, 97, 116, 105, 111, 110, 115, 95, 95]⟩, (.str ⟨#[95, 95, 97, 110, 110, 111, 116, 97, 116, 105, 111, 110, 115, 95, 95]⟩ 170), (.ref 6)⟩, ⟨PyData.keyHash P ⟨#[95, 95, 98, 117, 105, 108, 116, 105, 110, 115, 95, 95]⟩, (.str ⟨#[95, 95, 98, 117, 105, 108, 116, 105, 110, 115, 95, 95]⟩ 171), (.ref 4)⟩, ⟨PyData.keyHash P ⟨#[95, 95, 102, 105, 108, 101, 95, 95]⟩, (.str ⟨#[95, 95, 102, 105, 108, 101, 95, 95]⟩ 173), (.str ⟨#[47, 99, 108, 97, 105, 109, 47, 99, 117, 116, 46, 112, 121]⟩ 172)⟩, ⟨PyData.keyHash P ⟨#[95, 95, 99, 97, 99, 104, 101, 100, 95, 95]⟩, (.str ⟨#[95, 95, 99, 97, 99, 104, 101, 100, 95, 95]⟩ 174), (.none)⟩, ⟨PyData.keyHash P ⟨#[95, 77, 65, 88, 95, 83, 84, 82, 73, 78, 71, 95, 83, 73, 90, 69]⟩, (.str ⟨#[95, 77, 65, 88, 95, 83, 84, 82, 73, 78, 71, 95, 83, 73, 90, 69]⟩ 190), (.int 40 189)⟩, ⟨PyData.keyHash P ⟨#[95, 77, 79, 86, 69, 95, 67, 79, 83, 84]⟩, (.str ⟨#[95, 77, 79, 86, 69, 95, 67, 79, 83, 84]⟩ 192), (.int 2 191)⟩, ⟨PyData.keyHash P ⟨#[95, 67, 65, 83, 69, 95, 67, 79, 83, 84]⟩, (.str ⟨#[95, 67, 65, 83, 69, 95, 67, 79, 83, 84]⟩ 194), (.int 1 193)⟩, ⟨PyData.keyHash P ⟨#[95, 115, 117, 98, 115, 116, 105, 116, 117, 116, 105, 111, 110, 95, 99, 111, 115, 116]⟩, (.str ⟨#[95, 115, 117, 98, 115, 116, 105, 116, 117, 116, 105, 111, 110, 95, 99, 111, 115, 116]⟩ 202), (.ref 21)⟩, ⟨PyData.keyHash P ⟨#[95, 108, 101, 118, 101, 110, 115, 104, 116, 101, 105, 110, 95, 100, 105, 115, 116, 97, 110, 99, 101]⟩, (.str ⟨#[95, 108, 101, 118, 101, 110, 115, 104, 116, 101, 105, 110, 95, 100, 105, 115, 116, 97, 110, 99, 101]⟩ 222), (.ref 28)⟩, ⟨PyData.keyHash P ⟨#[73, 110, 116, 50, 65, 80]⟩, (.str ⟨#[73, 110, 116, 50, 65, 80]⟩ 234), (.ref 35)⟩, ⟨PyData.keyHash P ⟨#[98, 49, 95, 115, 101, 116]⟩, (.str ⟨#[98, 49, 95, 115, 101, 116]⟩ 296), (.ref 43)⟩] 16), #[]⟩
noncomputable def o36v0 (P : Params) : Obj := ⟨(.type "list"), none, (.seq #[(.int 173 237), (.int 847 238), (.int 6150 239), (.int 6155 240), (.int 6156 241), (.int 6157 242), (.int 8203 243), (.int 8204 244), (.int 8205 245), (.int 8288 246), (.int 65279 247)] 0), #[]⟩
noncomputable def o37v0 (P : Params) : Obj := ⟨(.type "range"), none, (.fields #[(.int 65024 248), (.int 65040 249), (.int 1 250)]), #[]⟩
noncomputable def o38v0 (P : Params) : Obj := ⟨(.type "list"), none, (.seq #[(.int 65024 253), (.int 65025 254), (.int 65026 255), (.int 65027 256), (.int 65028 257), (.int 65029 258), (.int 65030 259), (.int 65031 260), (.int 65032 261), (.int 65033 262), (.int 65034 263), (.int 65035 264), (.int 65036 265), (.int 65037 266), (.int 65038 267), (.int 65039 268)] 18), #[]⟩
noncomputable def o39v0 (P : Params) : Obj := ⟨(.type "range_iterator"), none, (.fields #[(.int 65040 0), (.int 0 0), (.int 1 0)]), #[]⟩
noncomputable def o40v0 (P : Params) : Obj := ⟨(.type "tuple"), none, (.seq #[] 0), #[]⟩
noncomputable def o41v0 (P : Params) : Obj := ⟨(.type "StopIteration"), none, (.fields #[(.ref 40), (.none), (.none), (.none), (.bool false), (.none)]), #[]⟩
noncomputable def o42v0 (P : Params) : Obj := ⟨(.type "list"), none, (.seq #[(.int 173 237), (.int 847 238), (.int 6150 239), (.int 6155 240), (.int 6156 241), (.int 6157 242), (.int 8203 243), (.int 8204 244), (.int 8205 245), (.int 8288 246), (.int 65279 247), (.int 65024 253), (.int 65025 254), (.int 65026 255), (.int 65027 256), (.int 65028 257), (.int 65029 258), (.int 65030 259), (.int 65031 260), (.int 65032 261), (.int 65033 262), (.int 65034 263), (.int 65035 264), (.int 65036 265), (.int 65037 266), (.int 65038 267), (.int 65039 268)] 0), #[]⟩
noncomputable def o43v0 (P : Params) : Obj := ⟨(.type "set"), none, (.set #[(65024, (.int 65024 253)), (65025, (.int 65025 254)), (65026, (.int 65026 255)), (65027, (.int 65027 256)), (65028, (.int 65028 257)), (65029, (.int 65029 258)), (6150, (.int 6150 239)), (65030, (.int 65030 259)), (65031, (.int 65031 260)), (65032, (.int 65032 261)), (65033, (.int 65033 262)), (6155, (.int 6155 240)), (6156, (.int 6156 241)), (6157, (.int 6157 242)), (8203, (.int 8203 243)), (8204, (.int 8204 244)), (8205, (.int 8205 245)), (65034, (.int 65034 263)), (65035, (.int 65035 264)), (65036, (.int 65036 265)), (65037, (.int 65037 266)), (65038, (.int 65038 267)), (65039, (.int 65039 268)), (173, (.int 173 237)), (847, (.int 847 238)), (8288, (.int 8288 246)), (65279, (.int 65279 247))] 29 ⟨127, #[0, 1, 2, 3, 4, 5, 6, 7, 8, 9, 10, 11, 12, 13, 14, 15, 16, 17, 18, 19, 20, 21, 22, 45, 79, 96, 127], #[], 0, !P.followText "set-order", 2, true⟩), #[]⟩
noncomputable def o44v0 (P : Params) : Obj := ⟨(.type "list_iterator"), none, (.fields #[(.none), (.int 27 0)]), #[]⟩
noncomputable def o45v0 (P : Params) : Obj := ⟨(.type "tuple"), none, (.seq #[] 0), #[]⟩
noncomputable def o46v0 (P : Params) : Obj := ⟨(.type "StopIteration"), none, (.fields #[(.ref 45), (.none), (.none), (.none), (.bool false), (.none)]), #[]⟩
noncomputable def T10 (P : Params) : BT := (.node (boot_o_0 P) (.node (boot_o_1 P) (.node (o3v10 P) (.node (boot_o_7 P) (.node (o15v0 P) (.node (o31v0 P) .nil .nil) .nil) (.node (o23v0 P) (.node (o39v0 P) .nil .nil) .nil)) (.node (o11v0 P) (.node (o19v0 P) (.node (o35v0 P) .nil .nil) .nil) (.node (o27v0 P) (.node (o43v0 P) .nil .nil) .nil))) (.node (boot_o_5 P) (.node (boot_o_9 P) (.node (o17v0 P) (.node (o33v0 P) .nil .nil) .nil) (.node (o25v0 P) (.node (o41v0 P) .nil .nil) .nil)) (.node (o13v0 P) (.node (o21v0 P) (.node (o37v0 P) .nil .nil) .nil) (.node (o29v0 P) (.node (o45v0 P) .nil .nil) .nil)))) (.node (boot_o_2 P) (.node (boot_o_4 P) (.node (boot_o_8 P) (.node (o16v0 P) (.node (o32v0 P) .nil .nil) .nil) (.node (o24v0 P) (.node (o40v0 P) .nil .nil) .nil)) (.node (o12v3 P) (.node (o20v0 P) (.node (o36v0 P) .nil .nil) .nil) (.node (o28v0 P) (.node (o44v0 P) .nil .nil) .nil))) (.node (boot_o_6 P) (.node (boot_o_10 P) (.node (o18v0 P) (.node (o34v0 P) .nil .nil) .nil) (.node (o26v0 P) (.node (o42v0 P) .nil .nil) .nil)) (.node (o14v0 P) (.node (o22v0 P) (.node (o38v0 P) .nil .nil) .nil) (.node (o30v0 P) (.node (o46v0 P) .nil .nil) .nil)))))
theorem pt9_false_false (w : World) (os : OsState) : segRunT treeTable pp ((w.withFollow "special-get-raises" false).withFollow "set-order" false) 11 (some (.ref 6)) 1 999 ⟨T9 ((w.withFollow "special-get-raises" false).withFollow "set-order" false).params, 36, {}, #[], {}, 237, os⟩ (piecesOf [st9] env (.body bd env) ⟨58, 0, 58, 8⟩ [topFrame ⟨0, 0, 0, 0⟩]) = some (.next, ⟨T10 ((w.withFollow "special-get-raises" false).withFollow "set-order" false).params, 47, {}, #[], {}, 297, os⟩, .body bd env, ⟨59, 0, 59, 6⟩) := by
  show segRunT treeTable pp _ 11 (some (.ref 6)) 1 999 _ ⟨(execs [st9] env).wrap doneF deadEnd id id, .body bd env, ⟨58, 0, 58, 8⟩, [topFrame ⟨0, 0, 0, 0⟩]⟩ = _
  rw [PySem.W.Fast.te10110043849684766642, PySem.W.Fast.te14364793385576792824, PySem.W.Fast.te12563942051412417395]
  kernel_rfl!
theorem pt9_false_true (w : World) (os : OsState) : segRunT treeTable pp ((w.withFollow "special-get-raises" true).withFollow "set-order" false) 11 (some (.ref 6)) 1 999 ⟨T9 ((w.withFollow "special-get-raises" true).withFollow "set-order" false).params, 36, {}, #[], {}, 237, os⟩ (piecesOf [st9] env (.body bd env) ⟨58, 0, 58, 8⟩ [topFrame ⟨0, 0, 0, 0⟩]) = some (.next, ⟨T10 ((w.withFollow "special-get-raises" true).withFollow "set-order" false).params, 47, {}, #[], {}, 297, os⟩, .body bd env, ⟨59, 0, 59, 6⟩) := by
  show segRunT treeTable pp _ 11 (some (.ref 6)) 1 999 _ ⟨(execs [st9] env).wrap doneF deadEnd id id, .body bd env, ⟨58, 0, 58, 8⟩, [topFrame ⟨0, 0, 0, 0⟩]⟩ = _
  rw [PySem.W.Fast.te10110043849684766642, PySem.W.Fast.te14364793385576792824, PySem.W.Fast.te12563942051412417395]
  kernel_rfl!
theorem pt9_true_false (w : World) (os : OsState) : segRunT treeTable pp ((w.withFollow "special-get-raises" false).withFollow "set-order" true) 11 (some (.ref 6)) 1 999 ⟨T9 ((w.withFollow "special-get-raises" false).withFollow "set-order" true).params, 36, {}, #[], {}, 237, os⟩ (piecesOf [st9] env (.body bd env) ⟨58, 0, 58, 8⟩ [topFrame ⟨0, 0, 0, 0⟩]) = some (.next, ⟨T10 ((w.withFollow "special-get-raises" false).withFollow "set-order" true).params, 47, {}, #[], {}, 297, os⟩, .body bd env, ⟨59, 0, 59, 6⟩) := by
  show segRunT treeTable pp _ 11 (some (.ref 6)) 1 999 _ ⟨(execs [st9] env).wrap doneF deadEnd id id, .body bd env, ⟨58, 0, 58, 8⟩, [topFrame ⟨0, 0, 0, 0⟩]⟩ = _
  rw [PySem.W.Fast.te10110043849684766642, PySem.W.Fast.te14364793385576792824, PySem.W.Fast.te12563942051412417395]
  kernel_rfl!
theorem pt9_true_true (w : World) (os : OsState) : segRunT treeTable pp ((w.withFollow "special-get-raises" true).withFollow "set-order" true) 11 (some (.ref 6)) 1 999 ⟨T9 ((w.withFollow "special-get-raises" true).withFollow "set-order" true).params, 36, {}, #[], {}, 237, os⟩ (piecesOf [st9] env (.body bd env) ⟨58, 0, 58, 8⟩ [topFrame ⟨0, 0, 0, 0⟩]) = some (.next, ⟨T10 ((w.withFollow "special-get-raises" true).withFollow "set-order" true).params, 47, {}, #[], {}, 297, os⟩, .body bd env, ⟨59, 0, 59, 6⟩) := by
  show segRunT treeTable pp _ 11 (some (.ref 6)) 1 999 _ ⟨(execs [st9] env).wrap doneF deadEnd id id, .body bd env, ⟨58, 0, 58, 8⟩, [topFrame ⟨0, 0, 0, 0⟩]⟩ = _
  rw [PySem.W.Fast.te10110043849684766642, PySem.W.Fast.te14364793385576792824, PySem.W.Fast.te12563942051412417395]
  kernel_rfl!
theorem pt9 (w : World) (os : OsState) : segRunT treeTable pp w 11 (some (.ref 6)) 1 999 ⟨T9 w.params, 36, {}, #[], {}, 237, os⟩ (piecesOf [st9] env (.body bd env) ⟨58, 0, 58, 8⟩ [topFrame ⟨0, 0, 0, 0⟩]) = some (.next, ⟨T10 w.params, 47, {}, #[], {}, 297, os⟩, .body bd env, ⟨59, 0, 59, 6⟩) := byRow2 "set-order" (P := fun w => segRunT treeTable pp w 11 (some (.ref 6)) 1 999 ⟨T9 w.params, 36, {}, #[], {}, 237, os⟩ (piecesOf [st9] env (.body bd env) ⟨58, 0, 58, 8⟩ [topFrame ⟨0, 0, 0, 0⟩]) = some (.next, ⟨T10 w.params, 47, {}, #[], {}, 297, os⟩, .body bd env, ⟨59, 0, 59, 6⟩)) (fun w => byRow2 "special-get-raises" (P := fun w => segRunT treeTable pp (w.withFollow "set-order" false) 11 (some (.ref 6)) 1 999 ⟨T9 (w.withFollow "set-order" false).params, 36, {}, #[], {}, 237, os⟩ (piecesOf [st9] env (.body bd env) ⟨58, 0, 58, 8⟩ [topFrame ⟨0, 0, 0, 0⟩]) = some (.next, ⟨T10 (w.withFollow "set-order" false).params, 47, {}, #[], {}, 297, os⟩, .body bd env, ⟨59, 0, 59, 6⟩)) (fun w => pt9_false_false w os) (fun w => pt9_false_true w os) w) (fun w => byRow2 "special-get-raises" (P := fun w => segRunT treeTable pp (w.withFollow "set-order" true) 11 (some (.ref 6)) 1 999 ⟨T9 (w.withFollow "set-order" true).params, 36, {}, #[], {}, 237, os⟩ (piecesOf [st9] env (.body bd env) ⟨58, 0, 58, 8⟩ [topFrame ⟨0, 0, 0, 0⟩]) = some (.next, ⟨T10 (w.withFollow "set-order" true).params, 47, {}, #[], {}, 297, os⟩, .body bd env, ⟨59, 0, 59, 6⟩)) (fun w => pt9_true_false w os) (fun w => pt9_true_true w os) w) w
theorem pc9 (w : World) (os : OsState) : segRun treeTable pp w 11 (some (.ref 6)) 1 999 (SharedT.abs ⟨T9 w.params, 36, {}, #[], {}, 237, os⟩) (piecesOf [st9] env (.body bd env) ⟨58, 0, 58, 8⟩ [topFrame ⟨0, 0, 0, 0⟩]) = some (.next, SharedT.abs ⟨T10 w.params, 47, {}, #[], {}, 297, os⟩, .body bd env, ⟨59, 0, 59, 6⟩) := segRun_of (pt9 w os)
noncomputable def o3v11 (P : Params) : Obj := ⟨(.type "dict"), none, (.dict #[⟨PyData.keyHash P ⟨#[95, 95, 110, 97, 109, 101, 95, 95]⟩, (.str ⟨#[95, 95, 110, 97, 109, 101, 95, 95]⟩ 165), (.str ⟨#[99, 112, 121, 51, 49, 51, 46, 115, 116, 114, 105, 110, 103, 112, 114, 101, 112]⟩ 235)⟩, ⟨PyData.keyHash P ⟨#[95, 95, 100, 111, 99, 95, 95]⟩, (.str ⟨#[95, 95, 100, 111, 99, 95, 95]⟩ 166), (.none)⟩, ⟨PyData.keyHash P ⟨#[95, 95, 112, 97, 99, 107, 97, 103, 101, 95, 95]⟩, (.str ⟨#[95, 95, 112, 97, 99, 107, 97, 103, 101, 95, 95]⟩ 167), (.none)⟩, ⟨PyData.keyHash P ⟨#[95, 95, 108, 111, 97, 100, 101, 114, 95, 95]⟩, (.str ⟨#[95, 95, 108, 111, 97, 100, 101, 114, 95, 95]⟩ 168), (.builtin "__main__.__loader__#opaque")⟩, ⟨PyData.keyHash P ⟨#[95, 95, 115, 112, 101, 99, 95, 95]⟩, (.str ⟨#[95, 95, 115, 112, 101, 99, 95, 95]⟩ 169), (.none)⟩, ⟨PyData.keyHash P ⟨#[95, 95, 97, 110, 110, 111, 116, 97, 116, 105, 111, 110, 115, 95, 95]⟩, (.str ⟨#[95, 95, 97, 110, 110, 111, 116, 97, 116, 105, 111, 110, 115, 95, 95]⟩ 170), (.ref 6)⟩, ⟨PyData.keyHash P ⟨#[95, 95, 98, 117, 105, 108, 116, 105, 110, 115, 95, 95]⟩, (.str ⟨#[95, 95, 98, 117, 105, 108, 116, 105, 110, 115, 95, 95]⟩ 171), (.ref 4)⟩, ⟨PyData.keyHash P ⟨#[95, 95, 102, 105, 108, 101, 95, 95]⟩, (.str ⟨#[95, 95, 102, 105, 108, 101, 95, 95]⟩ 173), (.str ⟨#[47, 99, 108, 97, 105, 109, 47, 99, 117, 116, 46, 112, 121]⟩ 172)⟩, ⟨PyData.keyHash P ⟨#[95, 95, 99, 97, 99, 104, 101, 100, 95, 95]⟩, (.str ⟨#[95, 95, 99, 97, 99, 104, 101, 100, 95, 95]⟩ 174), (.none)⟩, ⟨PyData.keyHash P ⟨#[95, 77, 65, 88, 95, 83, 84, 82, 73, 78, 71, 95, 83, 73, 90, 69]⟩, (.str ⟨#[95, 77, 65, 88, 95, 83, 84, 82, 73, 78, 71, 95, 83, 73, 90, 69]⟩ 190), (.int 40 189)⟩, ⟨PyData.keyHash P ⟨#[95, 77, 79, 86, 69, 95, 67, 79, 83, 84]⟩, (.str ⟨#[95, 77, 79, 86, 69, 95, 67, 79, 83, 84]⟩ 192), (.int 2 191)⟩, ⟨PyData.keyHash P ⟨#[95, 67, 65, 83, 69, 95, 67, 79, 83, 84]⟩, (.str ⟨#[95, 67, 65, 83, 69, 95, 67, 79, 83, 84]⟩ 194), (.int 1 193)⟩, ⟨PyData.keyHash P ⟨#[95, 115, 117, 98, 115, 116, 105, 116, 117, 116, 105, 111, 110, 95, 99, 111, 115, 116]⟩, (.str ⟨#[95, 115, 117, 98, 115, 116, 105, 116, 117, 116, 105, 111, 110, 95, 99, 111, 115, 116]⟩ 202), (.ref 21)⟩, ⟨PyData.keyHash P ⟨#[95, 108, 101, 118, 101, 110, 115, 104, 116, 101, 105, 110, 95, 100, 105, 115, 116, 97, 110, 99, 101]⟩, (.str ⟨#[95, 108, 101, 118, 101, 110, 115, 104, 116, 101, 105, 110, 95, 100, 105, 115, 116, 97, 110, 99, 101]⟩ 222), (.ref 28)⟩, ⟨PyData.keyHash P ⟨#[73, 110, 116, 50, 65, 80]⟩, (.str ⟨#[73, 110, 116, 50, 65, 80]⟩ 234), (.ref 35)⟩, ⟨PyData.keyHash P ⟨#[98, 49, 95, 115, 101, 116]⟩, (.str ⟨#[98, 49, 95, 115, 101, 116]⟩ 296), (.ref 43)⟩, ⟨PyData.keyHash P ⟨#[105, 110, 95, 116, 97, 98, 108, 101, 95, 98, 49]⟩, (.str ⟨#[105, 110, 95, 116, 97, 98, 108, 101, 95, 98, 49]⟩ 303), (.ref 53)⟩] 17), #[]⟩
noncomputable def o12v4 (P : Params) : Obj := ⟨(.none), none, (.fields #[(.int 5 0), (.int 0 0), (.ref 20), (.int 11 0), (.int 0 0), (.ref 27), (.int 50 0), (.int 0 0), (.ref 34), (.int 60 0), (.int 0 0), (.ref 52)]), #[]⟩
noncomputable def o47v0 (P : Params) : Obj := ⟨(.type "tuple"), none, (.seq #[] 0), #[]⟩
noncomputable def o48v0 (P : Params) : Obj := ⟨(.none), none, (.fields #[]), #[]⟩
noncomputable def o49v0 (P : Params) : Obj := ⟨(.type "tuple"), none, (.seq #[(.str ⟨#[99, 111, 100, 101]⟩ 300)] 0), #[]⟩
noncomputable def o50v0 (P : Params) : Obj := ⟨(.type "tuple"), none, (.seq #[] 0), #[]⟩
noncomputable def o51v0 (P : Params) : Obj := ⟨(.none), none, .func (fd st10 0 (.none) (.none) 0), #[]⟩
noncomputable def o52v0 (P : Params) : Obj := ⟨(.type "code"), none, (.fields #[(.str ⟨#[105, 110, 95, 116, 97, 98, 108, 101, 95, 98, 49]⟩ 297), (.str ⟨#[105, 110, 95, 116, 97, 98, 108, 101, 95, 98, 49]⟩ 298), (.str ⟨#[47, 99, 108, 97, 105, 109, 47, 99, 117, 116, 46, 112, 121]⟩ 299), (.int 60 0), (.int 1 0), (.int 0 0), (.int 0 0), (.int 3 0), (.ref 47), (.bool true), (.int 181 0), (.ref 48), (.none), (.ref 49), (.ref 50), (.ref 51), (.int 301 0), (.int 60 0), (.str ⟨#[47, 99, 108, 97, 105, 109, 47, 99, 117, 116, 46, 112, 121]⟩ 302)]), #[]⟩
noncomputable def o53v0 (P : Params) : Obj := ⟨(.type "function"), none, .func (fd st10 3 (.str ⟨#[99, 112, 121, 51, 49, 51, 46, 115, 116, 114, 105, 110, 103, 112, 114, 101, 112]⟩ 235) (.ref 52) 0), #[]⟩
noncomputable def T11 (P : Params) : BT := (.node (boot_o_0 P) (.node (boot_o_1 P) (.node (o3v11 P) (.node (boot_o_7 P) (.node (o15v0 P) (.node (o31v0 P) .nil .nil) (.node (o47v0 P) .nil .nil)) (.node (o23v0 P) (.node (o39v0 P) .nil .nil) .nil)) (.node (o11v0 P) (.node (o19v0 P) (.node (o35v0 P) .nil .nil) (.node (o51v0 P) .nil .nil)) (.node (o27v0 P) (.node (o43v0 P) .nil .nil) .nil))) (.node (boot_o_5 P) (.node (boot_o_9 P) (.node (o17v0 P) (.node (o33v0 P) .nil .nil) (.node (o49v0 P) .nil .nil)) (.node (o25v0 P) (.node (o41v0 P) .nil .nil) .nil)) (.node (o13v0 P) (.node (o21v0 P) (.node (o37v0 P) .nil .nil) (.node (o53v0 P) .nil .nil)) (.node (o29v0 P) (.node (o45v0 P) .nil .nil) .nil)))) (.node (boot_o_2 P) (.node (boot_o_4 P) (.node (boot_o_8 P) (.node (o16v0 P) (.node (o32v0 P) .nil .nil) (.node (o48v0 P) .nil .nil)) (.node (o24v0 P) (.node (o40v0 P) .nil .nil) .nil)) (.node (o12v4 P) (.node (o20v0 P) (.node (o36v0 P) .nil .nil) (.node (o52v0 P) .nil .nil)) (.node (o28v0 P) (.node (o44v0 P) .nil .nil) .nil))) (.node (boot_o_6 P) (.node (boot_o_10 P) (.node (o18v0 P) (.node (o34v0 P) .nil .nil) (.node (o50v0 P) .nil .nil)) (.node (o26v0 P) (.node (o42v0 P) .nil .nil) .nil)) (.node (o14v0 P) (.node (o22v0 P) (.node (o38v0 P) .nil .nil) .nil) (.node (o30v0 P) (.node (o46v0 P) .nil .nil) .nil)))))
theorem pt10 (w : World) (os : OsState) : segRunT treeTable pp w 11 (some (.ref 6)) 1 30 ⟨T10 w.params, 47, {}, #[], {}, 297, os⟩ (piecesOf [st10] env (.body bd env) ⟨59, 0, 59, 6⟩ [topFrame ⟨0, 0, 0, 0⟩]) = some (.next, ⟨T11 w.params, 54, {}, #[], {}, 304, os⟩, .body bd env, ⟨60, 0, 61, 30⟩) := by
  show segRunT treeTable pp _ 11 (some (.ref 6)) 1 30 _ ⟨(execs [st10] env).wrap doneF deadEnd id id, .body bd env, ⟨59, 0, 59, 6⟩, [topFrame ⟨0, 0, 0, 0⟩]⟩ = _
  rw [PySem.W.Fast.te10110043849684766642, PySem.W.Fast.te14364793385576792824, PySem.W.Fast.te12563942051412417395]
  kernel_rfl!
theorem pc10 (w : World) (os : OsState) : segRun treeTable pp w 11 (some (.ref 6)) 1 30 (SharedT.abs ⟨T10 w.params, 47, {}, #[], {}, 297, os⟩) (piecesOf [st10] env (.body bd env) ⟨59, 0, 59, 6⟩ [topFrame ⟨0, 0, 0, 0⟩]) = some (.next, SharedT.abs ⟨T11 w.params, 54, {}, #[], {}, 304, os⟩, .body bd env, ⟨60, 0, 61, 30⟩) := segRun_of (pt10 w os)
noncomputable def o3v12 (P : Params) : Obj := ⟨(.type "dict"), none, (.dict #[⟨PyData.keyHash P ⟨#[95, 95, 110, 97, 109, 101, 95, 95]⟩, (.str ⟨#[95, 95, 110, 97, 109, 101, 95, 95]⟩ 165), (.str ⟨#[99, 112, 121, 51, 49, 51, 46, 115, 116, 114, 105, 110, 103, 112, 114, 101, 112]⟩ 235)⟩, ⟨PyData.keyHash P ⟨#[95, 95, 100, 111, 99, 95, 95]⟩, (.str ⟨#[95, 95, 100, 111, 99, 95, 95]⟩ 166), (.none)⟩, ⟨PyData.keyHash P ⟨#[95, 95, 112, 97, 99, 107, 97, 103, 101, 95, 95]⟩, (.str ⟨#[95, 95, 112, 97, 99, 107, 97, 103, 101, 95, 95]⟩ 167), (.none)⟩, ⟨PyData.keyHash P ⟨#[95, 95, 108, 111, 97, 100, 101, 114, 95, 95]⟩, (.str ⟨#[95, 95, 108, 111, 97, 100, 101, 114, 95, 95]⟩ 168), (.builtin "__main__.__loader__#opaque")⟩, ⟨PyData.keyHash P ⟨#[95, 95, 115, 112, 101, 99, 95, 95]⟩, (.str ⟨#[95, 95, 115, 112, 101, 99, 95, 95]⟩ 169), (.none)⟩, ⟨PyData.keyHash P ⟨#[95, 95, 97, 110, 110, 111, 116, 97, 116, 105, 111, 110, 115, 95, 95]⟩, (.str ⟨#[95, 95, 97, 110, 110, 111, 116, 97, 116, 105, 111, 110, 115, 95, 95]⟩ 170), (.ref 6)⟩, ⟨PyData.keyHash P ⟨#[95, 95, 98, 117, 105, 108, 116, 105, 110, 115, 95, 95]⟩, (.str ⟨#[95, 95, 98, 117, 105, 108, 116, 105, 110, 115, 95, 95]⟩ 171), (.ref 4)⟩, ⟨PyData.keyHash P ⟨#[95, 95, 102, 105, 108, 101, 95, 95]⟩, (.str ⟨#[95, 95, 102, 105, 108, 101, 95, 95]⟩ 173), (.str ⟨#[47, 99, 108, 97, 105, 109, 47, 99, 117, 116, 46, 112, 121]⟩ 172)⟩, ⟨PyData.keyHash P ⟨#[95, 95, 99, 97, 99, 104, 101, 100, 95, 95]⟩, (.str ⟨#[95, 95, 99, 97, 99, 104, 101, 100, 95, 95]⟩ 174), (.none)⟩, ⟨PyData.keyHash P ⟨#[95, 77, 65, 88, 95, 83, 84, 82, 73, 78, 71, 95, 83, 73, 90, 69]⟩, (.str ⟨#[95, 77, 65, 88, 95, 83, 84, 82, 73, 78, 71, 95, 83, 73, 90, 69]⟩ 190), (.int 40 189)⟩, ⟨PyData.keyHash P ⟨#[95, 77, 79, 86, 69, 95, 67, 79, 83, 84]⟩, (.str ⟨#[95, 77, 79, 86, 69, 95, 67, 79, 83, 84]⟩ 192), (.int 2 191)⟩, ⟨PyData.keyHash P ⟨#[95, 67, 65, 83, 69, 95, 67, 79, 83, 84]⟩, (.str ⟨#[95, 67, 65, 83, 69, 95, 67, 79, 83, 84]⟩ 194), (.int 1 193)⟩, ⟨PyData.keyHash P ⟨#[95, 115, 117, 98, 115, 116, 105, 116, 117, 116, 105, 111, 110, 95, 99, 111, 115, 116]⟩, (.str ⟨#[95, 115, 117, 98, 115, 116, 105, 116, 117, 116, 105, 111, 110, 95, 99, 111, 115, 116]⟩ 202), (.ref 21)⟩, ⟨PyData.keyHash P ⟨#[95, 108, 101, 118, 101, 110, 115, 104, 116, 101, 105, 110, 95, 100, 105, 115, 116, 97, 110, 99, 101]⟩, (.str ⟨#[95, 108, 101, 118, 101, 110, 115, 104, 116, 101, 105, 110, 95, 100, 105, 115, 116, 97, 110, 99, 101]⟩ 222), (.ref 28)⟩, ⟨PyData.keyHash P ⟨#[73, 110, 116, 50, 65, 80]⟩, (.str ⟨#[73, 110, 116, 50, 65, 80]⟩ 234), (.ref 35)⟩, ⟨PyData.keyHash P ⟨#[98, 49, 95, 115, 101, 116]⟩, (.str ⟨#[98, 49, 95, 115, 101, 116]⟩ 296), (.ref 43)⟩, ⟨PyData.keyHash P ⟨#[105, 110, 95, 116, 97, 98, 108, 101, 95, 98, 49]⟩, (.str ⟨#[105, 110, 95, 116, 97, 98, 108, 101, 95, 98, 49]⟩ 303), (.ref 53)⟩, ⟨PyData.keyHash P ⟨#[98, 51, 95, 101, 120, 99, 101, 112, 116, 105, 111, 110, 115]⟩, (.str ⟨#[98, 51, 95, 101, 120, 99, 101, 112, 116, 105, 111, 110, 115]⟩ 2254), (.ref 54)⟩] 18), #[]⟩
noncomputable def o54v0 (P : Params) : Obj := dobj b3E 650
noncomputable def o55v0 (P : Params) : Obj := (b3S[0]?).getD default
noncomputable def o56v0 (P : Params) : Obj := (b3S[1]?).getD default
noncomputable def o57v0 (P : Params) : Obj := (b3S[2]?).getD default
noncomputable def o58v0 (P : Params) : Obj := (b3S[3]?).getD default
noncomputable def o59v0 (P : Params) : Obj := (b3S[4]?).getD default
noncomputable def o60v0 (P : Params) : Obj := (b3S[5]?).getD default
noncomputable def o61v0 (P : Params) : Obj := (b3S[6]?).getD default
noncomputable def o62v0 (P : Params) : Obj := (b3S[7]?).getD default
noncomputable def o63v0 (P : Params) : Obj := (b3S[8]?).getD default
noncomputable def o64v0 (P : Params) : Obj := (b3S[9]?).getD default
noncomputable def o65v0 (P : Params) : Obj := (b3S[10]?).getD default
noncomputable def o66v0 (P : Params) : Obj := (b3S[11]?).getD default
noncomputable def o67v0 (P : Params) : Obj := (b3S[12]?).getD default
noncomputable def o68v0 (P : Params) : Obj := (b3S[13]?).getD default
noncomputable def o69v0 (P : Params) : Obj := (b3S[14]?).getD default
noncomputable def o70v0 (P : Params) : Obj := (b3S[15]?).getD default
noncomputable def o71v0 (P : Params) : Obj := (b3S[16]?).getD default
noncomputable def o72v0 (P : Params) : Obj := (b3S[17]?).getD default
noncomputable def o73v0 (P : Params) : Obj := (b3S[18]?).getD default
noncomputable def o74v0 (P : Params) : Obj := (b3S[19]?).getD default
noncomputable def o75v0 (P : Params) : Obj := (b3S[20]?).getD default
noncomputable def o76v0 (P : Params) : Obj := (b3S[21]?).getD default
noncomputable def o77v0 (P : Params) : Obj := (b3S[22]?).getD default
noncomputable def o78v0 (P : Params) : Obj := (b3S[23]?).getD default
noncomputable def o79v0 (P : Params) : Obj := (b3S[24]?).getD default
noncomputable def o80v0 (P : Params) : Obj := (b3S[25]?).getD default
noncomputable def o81v0 (P : Params) : Obj := (b3S[26]?).getD default
noncomputable def o82v0 (P : Params) : Obj := (b3S[27]?).getD default
noncomputable def o83v0 (P : Params) : Obj := (b3S[28]?).getD default
noncomputable def o84v0 (P : Params) : Obj := (b3S[29]?).getD default
noncomputable def o85v0 (P : Params) : Obj := (b3S[30]?).getD default
noncomputable def o86v0 (P : Params) : Obj := (b3S[31]?).getD default
noncomputable def o87v0 (P : Params) : Obj := (b3S[32]?).getD default
noncomputable def o88v0 (P : Params) : Obj := (b3S[33]?).getD default
noncomputable def o89v0 (P : Params) : Obj := (b3S[34]?).getD default
noncomputable def o90v0 (P : Params) : Obj := (b3S[35]?).getD default
noncomputable def o91v0 (P : Params) : Obj := (b3S[36]?).getD default
noncomputable def o92v0 (P : Params) : Obj := (b3S[37]?).getD default
noncomputable def Tm (P : Params) : BT := (.node (boot_o_0 P) (.node (boot_o_1 P) (.node (o3v11 P) (.node (boot_o_7 P) (.node (o15v0 P) (.node (o31v0 P) (.node (o63v0 P) .nil .nil) .nil) (.node (o47v0 P) (.node (o79v0 P) .nil .nil) .nil)) (.node (o23v0 P) (.node (o39v0 P) (.node (o71v0 P) .nil .nil) .nil) (.node (o55v0 P) (.node (o87v0 P) .nil .nil) .nil))) (.node (o11v0 P) (.node (o19v0 P) (.node (o35v0 P) (.node (o67v0 P) .nil .nil) .nil) (.node (o51v0 P) (.node (o83v0 P) .nil .nil) .nil)) (.node (o27v0 P) (.node (o43v0 P) (.node (o75v0 P) .nil .nil) .nil) (.node (o59v0 P) (.node (o91v0 P) .nil .nil) .nil)))) (.node (boot_o_5 P) (.node (boot_o_9 P) (.node (o17v0 P) (.node (o33v0 P) (.node (o65v0 P) .nil .nil) .nil) (.node (o49v0 P) (.node (o81v0 P) .nil .nil) .nil)) (.node (o25v0 P) (.node (o41v0 P) (.node (o73v0 P) .nil .nil) .nil) (.node (o57v0 P) (.node (o89v0 P) .nil .nil) .nil))) (.node (o13v0 P) (.node (o21v0 P) (.node (o37v0 P) (.node (o69v0 P) .nil .nil) .nil) (.node (o53v0 P) (.node (o85v0 P) .nil .nil) .nil)) (.node (o29v0 P) (.node (o45v0 P) (.node (o77v0 P) .nil .nil) .nil) (.node (o61v0 P) .nil .nil))))) (.node (boot_o_2 P) (.node (boot_o_4 P) (.node (boot_o_8 P) (.node (o16v0 P) (.node (o32v0 P) (.node (o64v0 P) .nil .nil) .nil) (.node (o48v0 P) (.node (o80v0 P) .nil .nil) .nil)) (.node (o24v0 P) (.node (o40v0 P) (.node (o72v0 P) .nil .nil) .nil) (.node (o56v0 P) (.node (o88v0 P) .nil .nil) .nil))) (.node (o12v4 P) (.node (o20v0 P) (.node (o36v0 P) (.node (o68v0 P) .nil .nil) .nil) (.node (o52v0 P) (.node (o84v0 P) .nil .nil) .nil)) (.node (o28v0 P) (.node (o44v0 P) (.node (o76v0 P) .nil .nil) .nil) (.node (o60v0 P) (.node (o92v0 P) .nil .nil) .nil)))) (.node (boot_o_6 P) (.node (boot_o_10 P) (.node (o18v0 P) (.node (o34v0 P) (.node (o66v0 P) .nil .nil) .nil) (.node (o50v0 P) (.node (o82v0 P) .nil .nil) .nil)) (.node (o26v0 P) (.node (o42v0 P) (.node (o74v0 P) .nil .nil) .nil) (.node (o58v0 P) (.node (o90v0 P) .nil .nil) .nil))) (.node (o14v0 P) (.node (o22v0 P) (.node (o38v0 P) (.node (o70v0 P) .nil .nil) .nil) (.node (o54v0 P) (.node (o86v0 P) .nil .nil) .nil)) (.node (o30v0 P) (.node (o46v0 P) (.node (o78v0 P) .nil .nil) .nil) (.node (o62v0 P) .nil .nil))))))
noncomputable def T12 (P : Params) : BT := (.node (boot_o_0 P) (.node (boot_o_1 P) (.node (o3v12 P) (.node (boot_o_7 P) (.node (o15v0 P) (.node (o31v0 P) (.node (o63v0 P) .nil .nil) .nil) (.node (o47v0 P) (.node (o79v0 P) .nil .nil) .nil)) (.node (o23v0 P) (.node (o39v0 P) (.node (o71v0 P) .nil .nil) .nil) (.node (o55v0 P) (.node (o87v0 P) .nil .nil) .nil))) (.node (o11v0 P) (.node (o19v0 P) (.node (o35v0 P) (.node (o67v0 P) .nil .nil) .nil) (.node (o51v0 P) (.node (o83v0 P) .nil .nil) .nil)) (.node (o27v0 P) (.node (o43v0 P) (.node (o75v0 P) .nil .nil) .nil) (.node (o59v0 P) (.node (o91v0 P) .nil .nil) .nil)))) (.node (boot_o_5 P) (.node (boot_o_9 P) (.node (o17v0 P) (.node (o33v0 P) (.node (o65v0 P) .nil .nil) .nil) (.node (o49v0 P) (.node (o81v0 P) .nil .nil) .nil)) (.node (o25v0 P) (.node (o41v0 P) (.node (o73v0 P) .nil .nil) .nil) (.node (o57v0 P) (.node (o89v0 P) .nil .nil) .nil))) (.node (o13v0 P) (.node (o21v0 P) (.node (o37v0 P) (.node (o69v0 P) .nil .nil) .nil) (.node (o53v0 P) (.node (o85v0 P) .nil .nil) .nil)) (.node (o29v0 P) (.node (o45v0 P) (.node (o77v0 P) .nil .nil) .nil) (.node (o61v0 P) .nil .nil))))) (.node (boot_o_2 P) (.node (boot_o_4 P) (.node (boot_o_8 P) (.node (o16v0 P) (.node (o32v0 P) (.node (o64v0 P) .nil .nil) .nil) (.node (o48v0 P) (.node (o80v0 P) .nil .nil) .nil)) (.node (o24v0 P) (.node (o40v0 P) (.node (o72v0 P) .nil .nil) .nil) (.node (o56v0 P) (.node (o88v0 P) .nil .nil) .nil))) (.node (o12v4 P) (.node (o20v0 P) (.node (o36v0 P) (.node (o68v0 P) .nil .nil) .nil) (.node (o52v0 P) (.node (o84v0 P) .nil .nil) .nil)) (.node (o28v0 P) (.node (o44v0 P) (.node (o76v0 P) .nil .nil) .nil) (.node (o60v0 P) (.node (o92v0 P) .nil .nil) .nil)))) (.node (boot_o_6 P) (.node (boot_o_10 P) (.node (o18v0 P) (.node (o34v0 P) (.node (o66v0 P) .nil .nil) .nil) (.node (o50v0 P) (.node (o82v0 P) .nil .nil) .nil)) (.node (o26v0 P) (.node (o42v0 P) (.node (o74v0 P) .nil .nil) .nil) (.node (o58v0 P) (.node (o90v0 P) .nil .nil) .nil))) (.node (o14v0 P) (.node (o22v0 P) (.node (o38v0 P) (.node (o70v0 P) .nil .nil) .nil) (.node (o54v0 P) (.node (o86v0 P) .nil .nil) .nil)) (.node (o30v0 P) (.node (o46v0 P) (.node (o78v0 P) .nil .nil) .nil) (.node (o62v0 P) .nil .nil))))))
theorem tail_run (w : World) (os : OsState) (p' : Pos) : segRun treeTable pp w 11 (some (.ref 6)) 1 60 (SharedT.abs ⟨Tm w.params, 93, {}, #[], {}, 2254, os⟩) ⟨Sem.wrap (fun f => Sem.wrap doneF deadEnd id id (match f with | .next => execs [] env | f => pure f)) deadEnd id id (storeTail (PySem.Str.ofString "b3_exceptions") ⟨62, 0, 62, 13⟩ ks3 vs3 ⟨62, 16, 62, 8704⟩ env (.ref 54)), .body bd env, p', [topFrame ⟨0, 0, 0, 0⟩]⟩ = some (.next, SharedT.abs ⟨T12 w.params, 93, {}, #[], {}, 2255, os⟩, .body bd env, ⟨62, 0, 62, 13⟩) := segRun_of (by
  unfold storeTail
  rw [PySem.W.Fast.te10110043849684766642, PySem.W.Fast.te14364793385576792824, PySem.W.Fast.te4016559146275205325, PySem.W.Fast.te2470068587113613483, PySem.W.Fast.te15628205474173192105]
  kernel_rfl!)
theorem mid_eq (P : Params) : (T11 P).list 54 ++ dobj b3E 650 :: b3S = (Tm P).list 93 := by kernel_rfl!
theorem pc11 (w : World) (os : OsState) : segRun treeTable pp w 11 (some (.ref 6)) 1 13062 (SharedT.abs ⟨T11 w.params, 54, {}, #[], {}, 304, os⟩) (piecesOf [st11] env (.body bd env) ⟨60, 0, 61, 30⟩ [topFrame ⟨0, 0, 0, 0⟩]) = some (.next, SharedT.abs ⟨T12 w.params, 93, {}, #[], {}, 2255, os⟩, .body bd env, ⟨62, 0, 62, 13⟩) := by
  show segRun treeTable pp w 11 (some (.ref 6)) 1 13062 (SharedT.abs ⟨T11 w.params, 54, {}, #[], {}, 304, os⟩) ⟨((exec st11 env).bind (fun f => match f with | .next => execs [] env | f => pure f)).wrap doneF deadEnd id id, .body bd env, ⟨60, 0, 61, 30⟩, [topFrame ⟨0, 0, 0, 0⟩]⟩ = _
  rw [Sem.bind_eq_wrap, Sem.wrap_wrap, st_eq]
  obtain ⟨xs, hx, I⟩ := items_of (C := ⟨pp, w, 11, (some (.ref 6)), bd, env, ⟨0, 0, 0, 0⟩⟩) (dp := ⟨62, 16, 62, 8704⟩) lit_eq
  have hpl : ((T11 w.params).list 54).length = 54 := by simp [BT.list]
  have D := goes_display (C := ⟨pp, w, 11, (some (.ref 6)), bd, env, ⟨0, 0, 0, 0⟩⟩) (pre := (T11 w.params).list 54) (l := {}) (gens := #[]) (drawn := {}) (toks := 304) (os := os) 37 I (by rw [ps_len]; decide) (by rw [ps_len]; decide) (inc_pw ps_inc) (by rw [ps_len]; decide)
    (fun k => by rw [hpl]; show Nat.ble 11 (54 + k) = true; exact Nat.ble_eq_true_of_le (by omega)) (fun k => by rw [hpl]; show (54 + 1 + k == sysModules) = false; simp [sysModules]; omega)
  rw [hpl, ps_len] at D
  have e1 : (Sh (H ((T11 w.params).list 54) (dobj b3E 650) b3S {}) #[] {} 2254 os) = SharedT.abs ⟨Tm w.params, 93, {}, #[], {}, 2254, os⟩ := by
    show Sh ⟨((T11 w.params).list 54 ++ dobj b3E 650 :: b3S).toArray, {}⟩ #[] {} 2254 os = _
    rw [mid_eq]; rfl
  have D' : Goes ⟨pp, w, 11, (some (.ref 6)), bd, env, ⟨0, 0, 0, 0⟩⟩ 13000 (dictDisplay (itemsOf ks3 vs3 ⟨62, 16, 62, 8704⟩ env)) (SharedT.abs ⟨T11 w.params, 54, {}, #[], {}, 304, os⟩) (.ref 54) (SharedT.abs ⟨Tm w.params, 93, {}, #[], {}, 2254, os⟩) := by
    rw [← e1, show itemsOf ks3 vs3 ⟨62, 16, 62, 8704⟩ env = xs.map mk from hx]
    exact D
  exact seg_dict (C := ⟨pp, w, 11, (some (.ref 6)), bd, env, ⟨0, 0, 0, 0⟩⟩) (N := 13000) (M := 60) D' (fun p' => tail_run w os p')
noncomputable def o3v13 (P : Params) : Obj := ⟨(.type "dict"), none, (.dict #[⟨PyData.keyHash P ⟨#[95, 95, 110, 97, 109, 101, 95, 95]⟩, (.str ⟨#[95, 95, 110, 97, 109, 101, 95, 95]⟩ 165), (.str ⟨#[99, 112, 121, 51, 49, 51, 46, 115, 116, 114, 105, 110, 103, 112, 114, 101, 112]⟩ 235)⟩, ⟨PyData.keyHash P ⟨#[95, 95, 100, 111, 99, 95, 95]⟩, (.str ⟨#[95, 95, 100, 111, 99, 95, 95]⟩ 166), (.none)⟩, ⟨PyData.keyHash P ⟨#[95, 95, 112, 97, 99, 107, 97, 103, 101, 95, 95]⟩, (.str ⟨#[95, 95, 112, 97, 99, 107, 97, 103, 101, 95, 95]⟩ 167), (.none)⟩, ⟨PyData.keyHash P ⟨#[95, 95, 108, 111, 97, 100, 101, 114, 95, 95]⟩, (.str ⟨#[95, 95, 108, 111, 97, 100, 101, 114, 95, 95]⟩ 168), (.builtin "__main__.__loader__#opaque")⟩, ⟨PyData.keyHash P ⟨#[95, 95, 115, 112, 101, 99, 95, 95]⟩, (.str ⟨#[95, 95, 115, 112, 101, 99, 95, 95]⟩ 169), (.none)⟩, ⟨PyData.keyHash P ⟨#[95, 95, 97, 110, 110, 111, 116, 97, 116, 105, 111, 110, 115, 95, 95]⟩, (.str ⟨#[95, 95, 97, 110, 110, 111, 116, 97, 116, 105, 111, 110, 115, 95, 95]⟩ 170), (.ref 6)⟩, ⟨PyData.keyHash P ⟨#[95, 95, 98, 117, 105, 108, 116, 105, 110, 115, 95, 95]⟩, (.str ⟨#[95, 95, 98, 117, 105, 108, 116, 105, 110, 115, 95, 95]⟩ 171), (.ref 4)⟩, ⟨PyData.keyHash P ⟨#[95, 95, 102, 105, 108, 101, 95, 95]⟩, (.str ⟨#[95, 95, 102, 105, 108, 101, 95, 95]⟩ 173), (.str ⟨#[47, 99, 108, 97, 105, 109, 47, 99, 117, 116, 46, 112, 121]⟩ 172)⟩, ⟨PyData.keyHash P ⟨#[95, 95, 99, 97, 99, 104, 101, 100, 95, 95]⟩, (.str ⟨#[95, 95, 99, 97, 99, 104, 101, 100, 95, 95]⟩ 174), (.none)⟩, ⟨PyData.keyHash P ⟨#[95, 77, 65, 88, 95, 83, 84, 82, 73, 78, 71, 95, 83, 73, 90, 69]⟩, (.str ⟨#[95, 77, 65, 88, 95, 83, 84, 82, 73, 78, 71, 95, 83, 73, 90, 69]⟩ 190), (.int 40 189)⟩, ⟨PyData.keyHash P ⟨#[95, 77, 79, 86, 69, 95, 67, 79, 83, 84]⟩, (.str ⟨#[95, 77, 79, 86, 69, 95, 67, 79, 83, 84]⟩ 192), (.int 2 191)⟩, ⟨PyData.keyHash P ⟨#[95, 67, 65, 83, 69, 95, 67, 79, 83, 84]⟩, (.str ⟨#[95, 67, 65, 83, 69, 95, 67, 79, 83, 84]⟩ 194), (.int 1 193)⟩, ⟨PyData.keyHash P ⟨#[95, 115, 117, 98, 115, 116, 105, 116, 117, 116, 105, 111, 110, 95, 99, 111, 115, 116]⟩, (.str ⟨#[95, 115, 117, 98, 115, 116, 105, 116, 117, 116, 105, 111, 110, 95, 99, 111, 115, 116]⟩ 202), (.ref 21)⟩, ⟨PyData.keyHash P ⟨#[95, 108, 101, 118, 101, 110, 115, 104, 116, 101, 105, 110, 95, 100, 105, 115, 116, 97, 110, 99, 101]⟩, (.str ⟨#[95, 108, 101, 118, 101, 110, 115, 104, 116, 101, 105, 110, 95, 100, 105, 115, 116, 97, 110, 99, 101]⟩ 222), (.ref 28)⟩, ⟨PyData.keyHash P ⟨#[73, 110, 116, 50, 65, 80]⟩, (.str ⟨#[73, 110, 116, 50, 65, 80]⟩ 234), (.ref 35)⟩, ⟨PyData.keyHash P ⟨#[98, 49, 95, 115, 101, 116]⟩, (.str ⟨#[98, 49, 95, 115, 101, 116]⟩ 296), (.ref 43)⟩, ⟨PyData.keyHash P ⟨#[105, 110, 95, 116, 97, 98, 108, 101, 95, 98, 49]⟩, (.str ⟨#[105, 110, 95, 116, 97, 98, 108, 101, 95, 98, 49]⟩ 303), (.ref 53)⟩, ⟨PyData.keyHash P ⟨#[98, 51, 95, 101, 120, 99, 101, 112, 116, 105, 111, 110, 115]⟩, (.str ⟨#[98, 51, 95, 101, 120, 99, 101, 112, 116, 105, 111, 110, 115]⟩ 2254), (.ref 54)⟩, ⟨PyData.keyHash P ⟨#[109, 97, 112, 95, 116, 97, 98, 108, 101, 95, 98, 51]⟩, (.str ⟨#[109, 97, 112, 95, 116, 97, 98, 108, 101, 95, 98, 51]⟩ 2262), (.ref 99)⟩] 19), #[]⟩
noncomputable def o12v5 (P : Params) : Obj := ⟨(.none), none, (.fields #[(.int 5 0), (.int 0 0), (.ref 20), (.int 11 0), (.int 0 0), (.ref 27), (.int 50 0), (.int 0 0), (.ref 34), (.int 60 0), (.int 0 0), (.ref 52), (.int 63 0), (.int 0 0), (.ref 98)]), #[]⟩
noncomputable def o93v0 (P : Params) : Obj := ⟨(.type "tuple"), none, (.seq #[] 0), #[]⟩
noncomputable def o94v0 (P : Params) : Obj := ⟨(.none), none, (.fields #[]), #[]⟩
noncomputable def o95v0 (P : Params) : Obj := ⟨(.type "tuple"), none, (.seq #[(.str ⟨#[99, 111, 100, 101]⟩ 2258), (.str ⟨#[114]⟩ 2259)] 0), #[]⟩
noncomputable def o96v0 (P : Params) : Obj := ⟨(.type "tuple"), none, (.seq #[] 0), #[]⟩
noncomputable def o97v0 (P : Params) : Obj := ⟨(.none), none, .func (fd st12 0 (.none) (.none) 0), #[]⟩
noncomputable def o98v0 (P : Params) : Obj := ⟨(.type "code"), none, (.fields #[(.str ⟨#[109, 97, 112, 95, 116, 97, 98, 108, 101, 95, 98, 51]⟩ 2255), (.str ⟨#[109, 97, 112, 95, 116, 97, 98, 108, 101, 95, 98, 51]⟩ 2256), (.str ⟨#[47, 99, 108, 97, 105, 109, 47, 99, 117, 116, 46, 112, 121]⟩ 2257), (.int 63 0), (.int 1 0), (.int 0 0), (.int 0 0), (.int 3 0), (.ref 93), (.bool true), (.int 181 0), (.ref 94), (.none), (.ref 95), (.ref 96), (.ref 97), (.int 2260 0), (.int 63 0), (.str ⟨#[47, 99, 108, 97, 105, 109, 47, 99, 117, 116, 46, 112, 121]⟩ 2261)]), #[]⟩
noncomputable def o99v0 (P : Params) : Obj := ⟨(.type "function"), none, .func (fd st12 3 (.str ⟨#[99, 112, 121, 51, 49, 51, 46, 115, 116, 114, 105, 110, 103, 112, 114, 101, 112]⟩ 235) (.ref 98) 0), #[]⟩
noncomputable def T13 (P : Params) : BT := (.node (boot_o_0 P) (.node (boot_o_1 P) (.node (o3v13 P) (.node (boot_o_7 P) (.node (o15v0 P) (.node (o31v0 P) (.node (o63v0 P) .nil .nil) (.node (o95v0 P) .nil .nil)) (.node (o47v0 P) (.node (o79v0 P) .nil .nil) .nil)) (.node (o23v0 P) (.node (o39v0 P) (.node (o71v0 P) .nil .nil) .nil) (.node (o55v0 P) (.node (o87v0 P) .nil .nil) .nil))) (.node (o11v0 P) (.node (o19v0 P) (.node (o35v0 P) (.node (o67v0 P) .nil .nil) (.node (o99v0 P) .nil .nil)) (.node (o51v0 P) (.node (o83v0 P) .nil .nil) .nil)) (.node (o27v0 P) (.node (o43v0 P) (.node (o75v0 P) .nil .nil) .nil) (.node (o59v0 P) (.node (o91v0 P) .nil .nil) .nil)))) (.node (boot_o_5 P) (.node (boot_o_9 P) (.node (o17v0 P) (.node (o33v0 P) (.node (o65v0 P) .nil .nil) (.node (o97v0 P) .nil .nil)) (.node (o49v0 P) (.node (o81v0 P) .nil .nil) .nil)) (.node (o25v0 P) (.node (o41v0 P) (.node (o73v0 P) .nil .nil) .nil) (.node (o57v0 P) (.node (o89v0 P) .nil .nil) .nil))) (.node (o13v0 P) (.node (o21v0 P) (.node (o37v0 P) (.node (o69v0 P) .nil .nil) .nil) (.node (o53v0 P) (.node (o85v0 P) .nil .nil) .nil)) (.node (o29v0 P) (.node (o45v0 P) (.node (o77v0 P) .nil .nil) .nil) (.node (o61v0 P) (.node (o93v0 P) .nil .nil) .nil))))) (.node (boot_o_2 P) (.node (boot_o_4 P) (.node (boot_o_8 P) (.node (o16v0 P) (.node (o32v0 P) (.node (o64v0 P) .nil .nil) (.node (o96v0 P) .nil .nil)) (.node (o48v0 P) (.node (o80v0 P) .nil .nil) .nil)) (.node (o24v0 P) (.node (o40v0 P) (.node (o72v0 P) .nil .nil) .nil) (.node (o56v0 P) (.node (o88v0 P) .nil .nil) .nil))) (.node (o12v5 P) (.node (o20v0 P) (.node (o36v0 P) (.node (o68v0 P) .nil .nil) .nil) (.node (o52v0 P) (.node (o84v0 P) .nil .nil) .nil)) (.node (o28v0 P) (.node (o44v0 P) (.node (o76v0 P) .nil .nil) .nil) (.node (o60v0 P) (.node (o92v0 P) .nil .nil) .nil)))) (.node (boot_o_6 P) (.node (boot_o_10 P) (.node (o18v0 P) (.node (o34v0 P) (.node (o66v0 P) .nil .nil) (.node (o98v0 P) .nil .nil)) (.node (o50v0 P) (.node (o82v0 P) .nil .nil) .nil)) (.node (o26v0 P) (.node (o42v0 P) (.node (o74v0 P) .nil .nil) .nil) (.node (o58v0 P) (.node (o90v0 P) .nil .nil) .nil))) (.node (o14v0 P) (.node (o22v0 P) (.node (o38v0 P) (.node (o70v0 P) .nil .nil) .nil) (.node (o54v0 P) (.node (o86v0 P) .nil .nil) .nil)) (.node (o30v0 P) (.node (o46v0 P) (.node (o78v0 P) .nil .nil) .nil) (.node (o62v0 P) (.node (o94v0 P) .nil .nil) .nil))))))
theorem pt12 (w : World) (os : OsState) : segRunT treeTable pp w 11 (some (.ref 6)) 1 31 ⟨T12 w.params, 93, {}, #[], {}, 2255, os⟩ (piecesOf [st12] env (.body bd env) ⟨62, 0, 62, 13⟩ [topFrame ⟨0, 0, 0, 0⟩]) = some (.next, ⟨T13 w.params, 100, {}, #[], {}, 2263, os⟩, .body bd env, ⟨63, 0, 67, 23⟩) := by
  show segRunT treeTable pp _ 11 (some (.ref 6)) 1 31 _ ⟨(execs [st12] env).wrap doneF deadEnd id id, .body bd env, ⟨62, 0, 62, 13⟩, [topFrame ⟨0, 0, 0, 0⟩]⟩ = _
  rw [PySem.W.Fast.te10110043849684766642, PySem.W.Fast.te14364793385576792824, PySem.W.Fast.te12563942051412417395]
  kernel_rfl!
theorem pc12 (w : World) (os : OsState) : segRun treeTable pp w 11 (some (.ref 6)) 1 31 (SharedT.abs ⟨T12 w.params, 93, {}, #[], {}, 2255, os⟩) (piecesOf [st12] env (.body bd env) ⟨62, 0, 62, 13⟩ [topFrame ⟨0, 0, 0, 0⟩]) = some (.next, SharedT.abs ⟨T13 w.params, 100, {}, #[], {}, 2263, os⟩, .body bd env, ⟨63, 0, 67, 23⟩) := segRun_of (pt12 w os)
noncomputable def o3v14 (P : Params) : Obj := ⟨(.type "dict"), none, (.dict #[⟨PyData.keyHash P ⟨#[95, 95, 110, 97, 109, 101, 95, 95]⟩, (.str ⟨#[95, 95, 110, 97, 109, 101, 95, 95]⟩ 165), (.str ⟨#[108, 97, 119, 95, 116, 97, 48, 48, 53, 49, 95, 48, 49]⟩ 2263)⟩, ⟨PyData.keyHash P ⟨#[95, 95, 100, 111, 99, 95, 95]⟩, (.str ⟨#[95, 95, 100, 111, 99, 95, 95]⟩ 166), (.none)⟩, ⟨PyData.keyHash P ⟨#[95, 95, 112, 97, 99, 107, 97, 103, 101, 95, 95]⟩, (.str ⟨#[95, 95, 112, 97, 99, 107, 97, 103, 101, 95, 95]⟩ 167), (.none)⟩, ⟨PyData.keyHash P ⟨#[95, 95, 108, 111, 97, 100, 101, 114, 95, 95]⟩, (.str ⟨#[95, 95, 108, 111, 97, 100, 101, 114, 95, 95]⟩ 168), (.builtin "__main__.__loader__#opaque")⟩, ⟨PyData.keyHash P ⟨#[95, 95, 115, 112, 101, 99, 95, 95]⟩, (.str ⟨#[95, 95, 115, 112, 101, 99, 95, 95]⟩ 169), (.none)⟩, ⟨PyData.keyHash P ⟨#[95, 95, 97, 110, 110, 111, 116, 97, 116, 105, 111, 110, 115, 95, 95]⟩, (.str ⟨#[95, 95, 97, 110, 110, 111, 116, 97, 116, 105, 111, 110, 115, 95, 95]⟩ 170), (.ref 6)⟩, ⟨PyData.keyHash P ⟨#[95, 95, 98, 117, 105, 108, 116, 105, 110, 115, 95, 95]⟩, (.str ⟨#[95, 95, 98, 117, 105, 108, 116, 105, 110, 115, 95, 95]⟩ 171), (.ref 4)⟩, ⟨PyData.keyHash P ⟨#[95, 95, 102, 105, 108, 101, 95, 95]⟩, (.str ⟨#[95, 95, 102, 105, 108, 101, 95, 95]⟩ 173), (.str ⟨#[47, 99, 108, 97, 105, 109, 47, 99, 117, 116, 46, 112, 121]⟩ 172)⟩, ⟨PyData.keyHash P ⟨#[95, 95, 99, 97, 99, 104, 101, 100, 95, 95]⟩, (.str ⟨#[95, 95, 99, 97, 99, 104, 101, 100, 95, 95]⟩ 174), (.none)⟩, ⟨PyData.keyHash P ⟨#[95, 77, 65, 88, 95, 83, 84, 82, 73, 78, 71, 95, 83, 73, 90, 69]⟩, (.str ⟨#[95, 77, 65, 88, 95, 83, 84, 82, 73, 78, 71, 95, 83, 73, 90, 69]⟩ 190), (.int 40 189)⟩, ⟨PyData.keyHash P ⟨#[95, 77, 79, 86, 69, 95, 67, 79, 83, 84]⟩, (.str ⟨#[95, 77, 79, 86, 69, 95, 67, 79, 83, 84]⟩ 192), (.int 2 191)⟩, ⟨PyData.keyHash P ⟨#[95, 67, 65, 83, 69, 95, 67, 79, 83, 84]⟩, (.str ⟨#[95, 67, 65, 83, 69, 95, 67, 79, 83, 84]⟩ 194), (.int 1 193)⟩, ⟨PyData.keyHash P ⟨#[95, 115, 117, 98, 115, 116, 105, 116, 117, 116, 105, 111, 110, 95, 99, 111, 115, 116]⟩, (.str ⟨#[95, 115, 117, 98, 115, 116, 105, 116, 117, 116, 105, 111, 110, 95, 99, 111, 115, 116]⟩ 202), (.ref 21)⟩, ⟨PyData.keyHash P ⟨#[95, 108, 101, 118, 101, 110, 115, 104, 116, 101, 105, 110, 95, 100, 105, 115, 116, 97, 110, 99, 101]⟩, (.str ⟨#[95, 108, 101, 118, 101, 110, 115, 104, 116, 101, 105, 110, 95, 100, 105, 115, 116, 97, 110, 99, 101]⟩ 222), (.ref 28)⟩, ⟨PyData.keyHash P ⟨#[73, 110, 116, 50, 65, 80]⟩, (.str ⟨#[73, 110, 116, 50, 65, 80]⟩ 234), (.ref 35)⟩, ⟨PyData.keyHash P ⟨#[98, 49, 95, 115, 101, 116]⟩, (.str ⟨#[98, 49, 95, 115, 101, 116]⟩ 296), (.ref 43)⟩, ⟨PyData.keyHash P ⟨#[105, 110, 95, 116, 97, 98, 108, 101, 95, 98, 49]⟩, (.str ⟨#[105, 110, 95, 116, 97, 98, 108, 101, 95, 98, 49]⟩ 303), (.ref 53)⟩, ⟨PyData.keyHash P ⟨#[98, 51, 95, 101, 120, 99, 101, 112, 116, 105, 111, 110, 115]⟩, (.str ⟨#[98, 51, 95, 101, 120, 99, 101, 112, 116, 105, 111, 110, 115]⟩ 2254), (.ref 54)⟩, ⟨PyData.keyHash P ⟨#[109, 97, 112, 95, 116, 97, 98, 108, 101, 95, 98, 51]⟩, (.str ⟨#[109, 97, 112, 95, 116, 97, 98, 108, 101, 95, 98, 51]⟩ 2262), (.ref 99)⟩] 19), #[]⟩
noncomputable def T14 (P : Params) : BT := (.node (boot_o_0 P) (.node (boot_o_1 P) (.node (o3v14 P) (.node (boot_o_7 P) (.node (o15v0 P) (.node (o31v0 P) (.node (o63v0 P) .nil .nil) (.node (o95v0 P) .nil .nil)) (.node (o47v0 P) (.node (o79v0 P) .nil .nil) .nil)) (.node (o23v0 P) (.node (o39v0 P) (.node (o71v0 P) .nil .nil) .nil) (.node (o55v0 P) (.node (o87v0 P) .nil .nil) .nil))) (.node (o11v0 P) (.node (o19v0 P) (.node (o35v0 P) (.node (o67v0 P) .nil .nil) (.node (o99v0 P) .nil .nil)) (.node (o51v0 P) (.node (o83v0 P) .nil .nil) .nil)) (.node (o27v0 P) (.node (o43v0 P) (.node (o75v0 P) .nil .nil) .nil) (.node (o59v0 P) (.node (o91v0 P) .nil .nil) .nil)))) (.node (boot_o_5 P) (.node (boot_o_9 P) (.node (o17v0 P) (.node (o33v0 P) (.node (o65v0 P) .nil .nil) (.node (o97v0 P) .nil .nil)) (.node (o49v0 P) (.node (o81v0 P) .nil .nil) .nil)) (.node (o25v0 P) (.node (o41v0 P) (.node (o73v0 P) .nil .nil) .nil) (.node (o57v0 P) (.node (o89v0 P) .nil .nil) .nil))) (.node (o13v0 P) (.node (o21v0 P) (.node (o37v0 P) (.node (o69v0 P) .nil .nil) .nil) (.node (o53v0 P) (.node (o85v0 P) .nil .nil) .nil)) (.node (o29v0 P) (.node (o45v0 P) (.node (o77v0 P) .nil .nil) .nil) (.node (o61v0 P) (.node (o93v0 P) .nil .nil) .nil))))) (.node (boot_o_2 P) (.node (boot_o_4 P) (.node (boot_o_8 P) (.node (o16v0 P) (.node (o32v0 P) (.node (o64v0 P) .nil .nil) (.node (o96v0 P) .nil .nil)) (.node (o48v0 P) (.node (o80v0 P) .nil .nil) .nil)) (.node (o24v0 P) (.node (o40v0 P) (.node (o72v0 P) .nil .nil) .nil) (.node (o56v0 P) (.node (o88v0 P) .nil .nil) .nil))) (.node (o12v5 P) (.node (o20v0 P) (.node (o36v0 P) (.node (o68v0 P) .nil .nil) .nil) (.node (o52v0 P) (.node (o84v0 P) .nil .nil) .nil)) (.node (o28v0 P) (.node (o44v0 P) (.node (o76v0 P) .nil .nil) .nil) (.node (o60v0 P) (.node (o92v0 P) .nil .nil) .nil)))) (.node (boot_o_6 P) (.node (boot_o_10 P) (.node (o18v0 P) (.node (o34v0 P) (.node (o66v0 P) .nil .nil) (.node (o98v0 P) .nil .nil)) (.node (o50v0 P) (.node (o82v0 P) .nil .nil) .nil)) (.node (o26v0 P) (.node (o42v0 P) (.node (o74v0 P) .nil .nil) .nil) (.node (o58v0 P) (.node (o90v0 P) .nil .nil) .nil))) (.node (o14v0 P) (.node (o22v0 P) (.node (o38v0 P) (.node (o70v0 P) .nil .nil) .nil) (.node (o54v0 P) (.node (o86v0 P) .nil .nil) .nil)) (.node (o30v0 P) (.node (o46v0 P) (.node (o78v0 P) .nil .nil) .nil) (.node (o62v0 P) (.node (o94v0 P) .nil .nil) .nil))))))
theorem pt13 (w : World) (os : OsState) : segRunT treeTable pp w 11 (some (.ref 6)) 1 10 ⟨T13 w.params, 100, {}, #[], {}, 2263, os⟩ (piecesOf [st13] env (.body bd env) ⟨63, 0, 67, 23⟩ [topFrame ⟨0, 0, 0, 0⟩]) = some (.next, ⟨T14 w.params, 100, {}, #[], {}, 2265, os⟩, .body bd env, ⟨68, 0, 68, 8⟩) := by
  show segRunT treeTable pp _ 11 (some (.ref 6)) 1 10 _ ⟨(execs [st13] env).wrap doneF deadEnd id id, .body bd env, ⟨63, 0, 67, 23⟩, [topFrame ⟨0, 0, 0, 0⟩]⟩ = _
  rw [PySem.W.Fast.te10110043849684766642, PySem.W.Fast.te14364793385576792824, PySem.W.Fast.te12563942051412417395]
  kernel_rfl!
theorem pc13 (w : World) (os : OsState) : segRun treeTable pp w 11 (some (.ref 6)) 1 10 (SharedT.abs ⟨T13 w.params, 100, {}, #[], {}, 2263, os⟩) (piecesOf [st13] env (.body bd env) ⟨63, 0, 67, 23⟩ [topFrame ⟨0, 0, 0, 0⟩]) = some (.next, SharedT.abs ⟨T14 w.params, 100, {}, #[], {}, 2265, os⟩, .body bd env, ⟨68, 0, 68, 8⟩) := segRun_of (pt13 w os)
noncomputable def o3v15 (P : Params) : Obj := ⟨(.type "dict"), none, (.dict #[⟨PyData.keyHash P ⟨#[95, 95, 110, 97, 109, 101, 95, 95]⟩, (.str ⟨#[95, 95, 110, 97, 109, 101, 95, 95]⟩ 165), (.str ⟨#[108, 97, 119, 95, 116, 97, 48, 48, 53, 49, 95, 48, 49]⟩ 2263)⟩, ⟨PyData.keyHash P ⟨#[95, 95, 100, 111, 99, 95, 95]⟩, (.str ⟨#[95, 95, 100, 111, 99, 95, 95]⟩ 166), (.none)⟩, ⟨PyData.keyHash P ⟨#[95, 95, 112, 97, 99, 107, 97, 103, 101, 95, 95]⟩, (.str ⟨#[95, 95, 112, 97, 99, 107, 97, 103, 101, 95, 95]⟩ 167), (.none)⟩, ⟨PyData.keyHash P ⟨#[95, 95, 108, 111, 97, 100, 101, 114, 95, 95]⟩, (.str ⟨#[95, 95, 108, 111, 97, 100, 101, 114, 95, 95]⟩ 168), (.builtin "__main__.__loader__#opaque")⟩, ⟨PyData.keyHash P ⟨#[95, 95, 115, 112, 101, 99, 95, 95]⟩, (.str ⟨#[95, 95, 115, 112, 101, 99, 95, 95]⟩ 169), (.none)⟩, ⟨PyData.keyHash P ⟨#[95, 95, 97, 110, 110, 111, 116, 97, 116, 105, 111, 110, 115, 95, 95]⟩, (.str ⟨#[95, 95, 97, 110, 110, 111, 116, 97, 116, 105, 111, 110, 115, 95, 95]⟩ 170), (.ref 6)⟩, ⟨PyData.keyHash P ⟨#[95, 95, 98, 117, 105, 108, 116, 105, 110, 115, 95, 95]⟩, (.str ⟨#[95, 95, 98, 117, 105, 108, 116, 105, 110, 115, 95, 95]⟩ 171), (.ref 4)⟩, ⟨PyData.keyHash P ⟨#[95, 95, 102, 105, 108, 101, 95, 95]⟩, (.str ⟨#[95, 95, 102, 105, 108, 101, 95, 95]⟩ 173), (.str ⟨#[47, 99, 108, 97, 105, 109, 47, 99, 117, 116, 46, 112, 121]⟩ 172)⟩, ⟨PyData.keyHash P ⟨#[95, 95, 99, 97, 99, 104, 101, 100, 95, 95]⟩, (.str ⟨#[95, 95, 99, 97, 99, 104, 101, 100, 95, 95]⟩ 174), (.none)⟩, ⟨PyData.keyHash P ⟨#[95, 77, 65, 88, 95, 83, 84, 82, 73, 78, 71, 95, 83, 73, 90, 69]⟩, (.str ⟨#[95, 77, 65, 88, 95, 83, 84, 82, 73, 78, 71, 95, 83, 73, 90, 69]⟩ 190), (.int 40 189)⟩, ⟨PyData.keyHash P ⟨#[95, 77, 79, 86, 69, 95, 67, 79, 83, 84]⟩, (.str ⟨#[95, 77, 79, 86, 69, 95, 67, 79, 83, 84]⟩ 192), (.int 2 191)⟩, ⟨PyData.keyHash P ⟨#[95, 67, 65, 83, 69, 95, 67, 79, 83, 84]⟩, (.str ⟨#[95, 67, 65, 83, 69, 95, 67, 79, 83, 84]⟩ 194), (.int 1 193)⟩, ⟨PyData.keyHash P ⟨#[95, 115, 117, 98, 115, 116, 105, 116, 117, 116, 105, 111, 110, 95, 99, 111, 115, 116]⟩, (.str ⟨#[95, 115, 117, 98, 115, 116, 105, 116, 117, 116, 105, 111, 110, 95, 99, 111, 115, 116]⟩ 202), (.ref 21)⟩, ⟨PyData.keyHash P ⟨#[95, 108, 101, 118, 101, 110, 115, 104, 116, 101, 105, 110, 95, 100, 105, 115, 116, 97, 110, 99, 101]⟩, (.str ⟨#[95, 108, 101, 118, 101, 110, 115, 104, 116, 101, 105, 110, 95, 100, 105, 115, 116, 97, 110, 99, 101]⟩ 222), (.ref 28)⟩, ⟨PyData.keyHash P ⟨#[73, 110, 116, 50, 65, 80]⟩, (.str ⟨#[73, 110, 116, 50, 65, 80]⟩ 234), (.ref 35)⟩, ⟨PyData.keyHash P ⟨#[98, 49, 95, 115, 101, 116]⟩, (.str ⟨#[98, 49, 95, 115, 101, 116]⟩ 296), (.ref 43)⟩, ⟨PyData.keyHash P ⟨#[105, 110, 95, 116, 97, 98, 108, 101, 95, 98, 49]⟩, (.str ⟨#[105, 110, 95, 116, 97, 98, 108, 101, 95, 98, 49]⟩ 303), (.ref 53)⟩, ⟨PyData.keyHash P ⟨#[98, 51, 95, 101, 120, 99, 101, 112, 116, 105, 111, 110, 115]⟩, (.str ⟨#[98, 51, 95, 101, 120, 99, 101, 112, 116, 105, 111, 110, 115]⟩ 2254), (.ref 54)⟩, ⟨PyData.keyHash P ⟨#[109, 97, 112, 95, 116, 97, 98, 108, 101, 95, 98, 51]⟩, (.str ⟨#[109, 97, 112, 95, 116, 97, 98, 108, 101, 95, 98, 51]⟩ 2262), (.ref 99)⟩, ⟨PyData.keyHash P ⟨#[95, 108, 97, 119, 95, 102, 105, 103, 117, 114, 101, 115]⟩, (.str ⟨#[95, 108, 97, 119, 95, 102, 105, 103, 117, 114, 101, 115]⟩ 2271), (.ref 106)⟩] 20), #[]⟩
noncomputable def o12v6 (P : Params) : Obj := ⟨(.none), none, (.fields #[(.int 5 0), (.int 0 0), (.ref 20), (.int 11 0), (.int 0 0), (.ref 27), (.int 50 0), (.int 0 0), (.ref 34), (.int 60 0), (.int 0 0), (.ref 52), (.int 63 0), (.int 0 0), (.ref 98), (.int 69 0), (.int 0 0), (.ref 105)]), #[]⟩
noncomputable def o100v0 (P : Params) : Obj := ⟨(.type "tuple"), none, (.seq #[] 0), #[]⟩
noncomputable def o101v0 (P : Params) : Obj := ⟨(.none), none, (.fields #[]), #[]⟩
noncomputable def o102v0 (P : Params) : Obj := ⟨(.type "tuple"), none, (.seq #[(.str ⟨#[110, 117, 109, 98, 101, 114]⟩ 2268)] 0), #[]⟩
noncomputable def o103v0 (P : Params) : Obj := ⟨(.type "tuple"), none, (.seq #[] 0), #[]⟩
noncomputable def o104v0 (P : Params) : Obj := ⟨(.none), none, .func (fd st14 0 (.none) (.none) 0), #[]⟩
noncomputable def o105v0 (P : Params) : Obj := ⟨(.type "code"), none, (.fields #[(.str ⟨#[95, 108, 97, 119, 95, 102, 105, 103, 117, 114, 101, 115]⟩ 2265), (.str ⟨#[95, 108, 97, 119, 95, 102, 105, 103, 117, 114, 101, 115]⟩ 2266), (.str ⟨#[47, 99, 108, 97, 105, 109, 47, 99, 117, 116, 46, 112, 121]⟩ 2267), (.int 69 0), (.int 1 0), (.int 0 0), (.int 0 0), (.int 3 0), (.ref 100), (.bool true), (.int 181 0), (.ref 101), (.none), (.ref 102), (.ref 103), (.ref 104), (.int 2269 0), (.int 69 0), (.str ⟨#[47, 99, 108, 97, 105, 109, 47, 99, 117, 116, 46, 112, 121]⟩ 2270)]), #[]⟩
noncomputable def o106v0 (P : Params) : Obj := ⟨(.type "function"), none, .func (fd st14 3 (.str ⟨#[108, 97, 119, 95, 116, 97, 48, 48, 53, 49, 95, 48, 49]⟩ 2263) (.ref 105) 0), #[]⟩
noncomputable def T15 (P : Params) : BT := (.node (boot_o_0 P) (.node (boot_o_1 P) (.node (o3v15 P) (.node (boot_o_7 P) (.node (o15v0 P) (.node (o31v0 P) (.node (o63v0 P) .nil .nil) (.node (o95v0 P) .nil .nil)) (.node (o47v0 P) (.node (o79v0 P) .nil .nil) .nil)) (.node (o23v0 P) (.node (o39v0 P) (.node (o71v0 P) .nil .nil) (.node (o103v0 P) .nil .nil)) (.node (o55v0 P) (.node (o87v0 P) .nil .nil) .nil))) (.node (o11v0 P) (.node (o19v0 P) (.node (o35v0 P) (.node (o67v0 P) .nil .nil) (.node (o99v0 P) .nil .nil)) (.node (o51v0 P) (.node (o83v0 P) .nil .nil) .nil)) (.node (o27v0 P) (.node (o43v0 P) (.node (o75v0 P) .nil .nil) .nil) (.node (o59v0 P) (.node (o91v0 P) .nil .nil) .nil)))) (.node (boot_o_5 P) (.node (boot_o_9 P) (.node (o17v0 P) (.node (o33v0 P) (.node (o65v0 P) .nil .nil) (.node (o97v0 P) .nil .nil)) (.node (o49v0 P) (.node (o81v0 P) .nil .nil) .nil)) (.node (o25v0 P) (.node (o41v0 P) (.node (o73v0 P) .nil .nil) (.node (o105v0 P) .nil .nil)) (.node (o57v0 P) (.node (o89v0 P) .nil .nil) .nil))) (.node (o13v0 P) (.node (o21v0 P) (.node (o37v0 P) (.node (o69v0 P) .nil .nil) (.node (o101v0 P) .nil .nil)) (.node (o53v0 P) (.node (o85v0 P) .nil .nil) .nil)) (.node (o29v0 P) (.node (o45v0 P) (.node (o77v0 P) .nil .nil) .nil) (.node (o61v0 P) (.node (o93v0 P) .nil .nil) .nil))))) (.node (boot_o_2 P) (.node (boot_o_4 P) (.node (boot_o_8 P) (.node (o16v0 P) (.node (o32v0 P) (.node (o64v0 P) .nil .nil) (.node (o96v0 P) .nil .nil)) (.node (o48v0 P) (.node (o80v0 P) .nil .nil) .nil)) (.node (o24v0 P) (.node (o40v0 P) (.node (o72v0 P) .nil .nil) (.node (o104v0 P) .nil .nil)) (.node (o56v0 P) (.node (o88v0 P) .nil .nil) .nil))) (.node (o12v6 P) (.node (o20v0 P) (.node (o36v0 P) (.node (o68v0 P) .nil .nil) (.node (o100v0 P) .nil .nil)) (.node (o52v0 P) (.node (o84v0 P) .nil .nil) .nil)) (.node (o28v0 P) (.node (o44v0 P) (.node (o76v0 P) .nil .nil) .nil) (.node (o60v0 P) (.node (o92v0 P) .nil .nil) .nil)))) (.node (boot_o_6 P) (.node (boot_o_10 P) (.node (o18v0 P) (.node (o34v0 P) (.node (o66v0 P) .nil .nil) (.node (o98v0 P) .nil .nil)) (.node (o50v0 P) (.node (o82v0 P) .nil .nil) .nil)) (.node (o26v0 P) (.node (o42v0 P) (.node (o74v0 P) .nil .nil) (.node (o106v0 P) .nil .nil)) (.node (o58v0 P) (.node (o90v0 P) .nil .nil) .nil))) (.node (o14v0 P) (.node (o22v0 P) (.node (o38v0 P) (.node (o70v0 P) .nil .nil) (.node (o102v0 P) .nil .nil)) (.node (o54v0 P) (.node (o86v0 P) .nil .nil) .nil)) (.node (o30v0 P) (.node (o46v0 P) (.node (o78v0 P) .nil .nil) .nil) (.node (o62v0 P) (.node (o94v0 P) .nil .nil) .nil))))))
theorem pt14 (w : World) (os : OsState) : segRunT treeTable pp w 11 (some (.ref 6)) 1 30 ⟨T14 w.params, 100, {}, #[], {}, 2265, os⟩ (piecesOf [st14] env (.body bd env) ⟨68, 0, 68, 8⟩ [topFrame ⟨0, 0, 0, 0⟩]) = some (.next, ⟨T15 w.params, 107, {}, #[], {}, 2272, os⟩, .body bd env, ⟨69, 0, 70, 58⟩) := by
  show segRunT treeTable pp _ 11 (some (.ref 6)) 1 30 _ ⟨(execs [st14] env).wrap doneF deadEnd id id, .body bd env, ⟨68, 0, 68, 8⟩, [topFrame ⟨0, 0, 0, 0⟩]⟩ = _
  rw [PySem.W.Fast.te10110043849684766642, PySem.W.Fast.te14364793385576792824, PySem.W.Fast.te12563942051412417395]
  kernel_rfl!
theorem pc14 (w : World) (os : OsState) : segRun treeTable pp w 11 (some (.ref 6)) 1 30 (SharedT.abs ⟨T14 w.params, 100, {}, #[], {}, 2265, os⟩) (piecesOf [st14] env (.body bd env) ⟨68, 0, 68, 8⟩ [topFrame ⟨0, 0, 0, 0⟩]) = some (.next, SharedT.abs ⟨T15 w.params, 107, {}, #[], {}, 2272, os⟩, .body bd env, ⟨69, 0, 70, 58⟩) := segRun_of (pt14 w os)
noncomputable def o3v16 (P : Params) : Obj := ⟨(.type "dict"), none, (.dict #[⟨PyData.keyHash P ⟨#[95, 95, 110, 97, 109, 101, 95, 95]⟩, (.str ⟨#[95, 95, 110, 97, 109, 101, 95, 95]⟩ 165), (.str ⟨#[108, 97, 119, 95, 116, 97, 48, 48, 53, 49, 95, 48, 49]⟩ 2263)⟩, ⟨PyData.keyHash P ⟨#[95, 95, 100, 111, 99, 95, 95]⟩, (.str ⟨#[95, 95, 100, 111, 99, 95, 95]⟩ 166), (.none)⟩, ⟨PyData.keyHash P ⟨#[95, 95, 112, 97, 99, 107, 97, 103, 101, 95, 95]⟩, (.str ⟨#[95, 95, 112, 97, 99, 107, 97, 103, 101, 95, 95]⟩ 167), (.none)⟩, ⟨PyData.keyHash P ⟨#[95, 95, 108, 111, 97, 100, 101, 114, 95, 95]⟩, (.str ⟨#[95, 95, 108, 111, 97, 100, 101, 114, 95, 95]⟩ 168), (.builtin "__main__.__loader__#opaque")⟩, ⟨PyData.keyHash P ⟨#[95, 95, 115, 112, 101, 99, 95, 95]⟩, (.str ⟨#[95, 95, 115, 112, 101, 99, 95, 95]⟩ 169), (.none)⟩, ⟨PyData.keyHash P ⟨#[95, 95, 97, 110, 110, 111, 116, 97, 116, 105, 111, 110, 115, 95, 95]⟩, (.str ⟨#[95, 95, 97, 110, 110, 111, 116, 97, 116, 105, 111, 110, 115, 95, 95]⟩ 170), (.ref 6)⟩, ⟨PyData.keyHash P ⟨#[95, 95, 98, 117, 105, 108, 116, 105, 110, 115, 95, 95]⟩, (.str ⟨#[95, 95, 98, 117, 105, 108, 116, 105, 110, 115, 95, 95]⟩ 171), (.ref 4)⟩, ⟨PyData.keyHash P ⟨#[95, 95, 102, 105, 108, 101, 95, 95]⟩, (.str ⟨#[95, 95, 102, 105, 108, 101, 95, 95]⟩ 173), (.str ⟨#[47, 99, 108, 97, 105, 109, 47, 99, 117, 116, 46, 112, 121]⟩ 172)⟩, ⟨PyData.keyHash P ⟨#[95, 95, 99, 97, 99, 104, 101, 100, 95, 95]⟩, (.str ⟨#[95, 95, 99, 97, 99, 104, 101, 100, 95, 95]⟩ 174), (.none)⟩, ⟨PyData.keyHash P ⟨#[95, 77, 65, 88, 95, 83, 84, 82, 73, 78, 71, 95, 83, 73, 90, 69]⟩, (.str ⟨#[95, 77, 65, 88, 95, 83, 84, 82, 73, 78, 71, 95, 83, 73, 90, 69]⟩ 190), (.int 40 189)⟩, ⟨PyData.keyHash P ⟨#[95, 77, 79, 86, 69, 95, 67, 79, 83, 84]⟩, (.str ⟨#[95, 77, 79, 86, 69, 95, 67, 79, 83, 84]⟩ 192), (.int 2 191)⟩, ⟨PyData.keyHash P ⟨#[95, 67, 65, 83, 69, 95, 67, 79, 83, 84]⟩, (.str ⟨#[95, 67, 65, 83, 69, 95, 67, 79, 83, 84]⟩ 194), (.int 1 193)⟩, ⟨PyData.keyHash P ⟨#[95, 115, 117, 98, 115, 116, 105, 116, 117, 116, 105, 111, 110, 95, 99, 111, 115, 116]⟩, (.str ⟨#[95, 115, 117, 98, 115, 116, 105, 116, 117, 116, 105, 111, 110, 95, 99, 111, 115, 116]⟩ 202), (.ref 21)⟩, ⟨PyData.keyHash P ⟨#[95, 108, 101, 118, 101, 110, 115, 104, 116, 101, 105, 110, 95, 100, 105, 115, 116, 97, 110, 99, 101]⟩, (.str ⟨#[95, 108, 101, 118, 101, 110, 115, 104, 116, 101, 105, 110, 95, 100, 105, 115, 116, 97, 110, 99, 101]⟩ 222), (.ref 28)⟩, ⟨PyData.keyHash P ⟨#[73, 110, 116, 50, 65, 80]⟩, (.str ⟨#[73, 110, 116, 50, 65, 80]⟩ 234), (.ref 35)⟩, ⟨PyData.keyHash P ⟨#[98, 49, 95, 115, 101, 116]⟩, (.str ⟨#[98, 49, 95, 115, 101, 116]⟩ 296), (.ref 43)⟩, ⟨PyData.keyHash P ⟨#[105, 110, 95, 116, 97, 98, 108, 101, 95, 98, 49]⟩, (.str ⟨#[105, 110, 95, 116, 97, 98, 108, 101, 95, 98, 49]⟩ 303), (.ref 53)⟩, ⟨PyData.keyHash P ⟨#[98, 51, 95, 101, 120, 99, 101, 112, 116, 105, 111, 110, 115]⟩, (.str ⟨#[98, 51, 95, 101, 120, 99, 101, 112, 116, 105, 111, 110, 115]⟩ 2254), (.ref 54)⟩, ⟨PyData.keyHash P ⟨#[109, 97, 112, 95, 116, 97, 98, 108, 101, 95, 98, 51]⟩, (.str ⟨#[109, 97, 112, 95, 116, 97, 98, 108, 101, 95, 98, 51]⟩ 2262), (.ref 99)⟩, ⟨PyData.keyHash P ⟨#[95, 108, 97, 119, 95, 102, 105, 103, 117, 114, 101, 115]⟩, (.str ⟨#[95, 108, 97, 119, 95, 102, 105, 103, 117, 114, 101, 115]⟩ 2271), (.ref 106)⟩, ⟨PyData.keyHash P ⟨#[95, 108, 97, 119, 95, 99, 104, 97, 110, 103, 101, 100]⟩, (.str ⟨#[95, 108, 97, 119, 95, 99, 104, 97, 110, 103, 101, 100]⟩ 2280), (.ref 113)⟩] 21), #[]⟩
noncomputable def o12v7 (P : Params) : Obj := ⟨(.none), none, (.fields #[(.int 5 0), (.int 0 0), (.ref 20), (.int 11 0), (.int 0 0), (.ref 27), (.int 50 0), (.int 0 0), (.ref 34), (.int 60 0), (.int 0 0), (.ref 52), (.int 63 0), (.int 0 0), (.ref 98), (.int 69 0), (.int 0 0), (.ref 105), (.int 71 0), (.int 0 0), (.ref 112)]), #[]⟩
noncomputable def o107v0 (P : Params) : Obj := ⟨(.type "tuple"), none, (.seq #[] 0), #[]⟩
noncomputable def o108v0 (P : Params) : Obj := ⟨(.none), none, (.fields #[]), #[]⟩
noncomputable def o109v0 (P : Params) : Obj := ⟨(.type "tuple"), none, (.seq #[(.str ⟨#[102, 105, 103, 117, 114, 101, 115]⟩ 2275), (.str ⟨#[100, 114, 97, 119]⟩ 2276), (.str ⟨#[112, 108, 97, 99, 101]⟩ 2277)] 0), #[]⟩
noncomputable def o110v0 (P : Params) : Obj := ⟨(.type "tuple"), none, (.seq #[] 0), #[]⟩
noncomputable def o111v0 (P : Params) : Obj := ⟨(.none), none, .func (fd st15 0 (.none) (.none) 0), #[]⟩
noncomputable def o112v0 (P : Params) : Obj := ⟨(.type "code"), none, (.fields #[(.str ⟨#[95, 108, 97, 119, 95, 99, 104, 97, 110, 103, 101, 100]⟩ 2272), (.str ⟨#[95, 108, 97, 119, 95, 99, 104, 97, 110, 103, 101, 100]⟩ 2273), (.str ⟨#[47, 99, 108, 97, 105, 109, 47, 99, 117, 116, 46, 112, 121]⟩ 2274), (.int 71 0), (.int 2 0), (.int 0 0), (.int 0 0), (.int 3 0), (.ref 107), (.bool true), (.int 181 0), (.ref 108), (.none), (.ref 109), (.ref 110), (.ref 111), (.int 2278 0), (.int 71 0), (.str ⟨#[47, 99, 108, 97, 105, 109, 47, 99, 117, 116, 46, 112, 121]⟩ 2279)]), #[]⟩
noncomputable def o113v0 (P : Params) : Obj := ⟨(.type "function"), none, .func (fd st15 3 (.str ⟨#[108, 97, 119, 95, 116, 97, 48, 48, 53, 49, 95, 48, 49]⟩ 2263) (.ref 112) 0), #[]⟩
noncomputable def T16 (P : Params) : BT := (.node (boot_o_0 P) (.node (boot_o_1 P) (.node (o3v16 P) (.node (boot_o_7 P) (.node (o15v0 P) (.node (o31v0 P) (.node (o63v0 P) .nil .nil) (.node (o95v0 P) .nil .nil)) (.node (o47v0 P) (.node (o79v0 P) .nil .nil) (.node (o111v0 P) .nil .nil))) (.node (o23v0 P) (.node (o39v0 P) (.node (o71v0 P) .nil .nil) (.node (o103v0 P) .nil .nil)) (.node (o55v0 P) (.node (o87v0 P) .nil .nil) .nil))) (.node (o11v0 P) (.node (o19v0 P) (.node (o35v0 P) (.node (o67v0 P) .nil .nil) (.node (o99v0 P) .nil .nil)) (.node (o51v0 P) (.node (o83v0 P) .nil .nil) .nil)) (.node (o27v0 P) (.node (o43v0 P) (.node (o75v0 P) .nil .nil) (.node (o107v0 P) .nil .nil)) (.node (o59v0 P) (.node (o91v0 P) .nil .nil) .nil)))) (.node (boot_o_5 P) (.node (boot_o_9 P) (.node (o17v0 P) (.node (o33v0 P) (.node (o65v0 P) .nil .nil) (.node (o97v0 P) .nil .nil)) (.node (o49v0 P) (.node (o81v0 P) .nil .nil) (.node (o113v0 P) .nil .nil))) (.node (o25v0 P) (.node (o41v0 P) (.node (o73v0 P) .nil .nil) (.node (o105v0 P) .nil .nil)) (.node (o57v0 P) (.node (o89v0 P) .nil .nil) .nil))) (.node (o13v0 P) (.node (o21v0 P) (.node (o37v0 P) (.node (o69v0 P) .nil .nil) (.node (o101v0 P) .nil .nil)) (.node (o53v0 P) (.node (o85v0 P) .nil .nil) .nil)) (.node (o29v0 P) (.node (o45v0 P) (.node (o77v0 P) .nil .nil) (.node (o109v0 P) .nil .nil)) (.node (o61v0 P) (.node (o93v0 P) .nil .nil) .nil))))) (.node (boot_o_2 P) (.node (boot_o_4 P) (.node (boot_o_8 P) (.node (o16v0 P) (.node (o32v0 P) (.node (o64v0 P) .nil .nil) (.node (o96v0 P) .nil .nil)) (.node (o48v0 P) (.node (o80v0 P) .nil .nil) (.node (o112v0 P) .nil .nil))) (.node (o24v0 P) (.node (o40v0 P) (.node (o72v0 P) .nil .nil) (.node (o104v0 P) .nil .nil)) (.node (o56v0 P) (.node (o88v0 P) .nil .nil) .nil))) (.node (o12v7 P) (.node (o20v0 P) (.node (o36v0 P) (.node (o68v0 P) .nil .nil) (.node (o100v0 P) .nil .nil)) (.node (o52v0 P) (.node (o84v0 P) .nil .nil) .nil)) (.node (o28v0 P) (.node (o44v0 P) (.node (o76v0 P) .nil .nil) (.node (o108v0 P) .nil .nil)) (.node (o60v0 P) (.node (o92v0 P) .nil .nil) .nil)))) (.node (boot_o_6 P) (.node (boot_o_10 P) (.node (o18v0 P) (.node (o34v0 P) (.node (o66v0 P) .nil .nil) (.node (o98v0 P) .nil .nil)) (.node (o50v0 P) (.node (o82v0 P) .nil .nil) .nil)) (.node (o26v0 P) (.node (o42v0 P) (.node (o74v0 P) .nil .nil) (.node (o106v0 P) .nil .nil)) (.node (o58v0 P) (.node (o90v0 P) .nil .nil) .nil))) (.node (o14v0 P) (.node (o22v0 P) (.node (o38v0 P) (.node (o70v0 P) .nil .nil) (.node (o102v0 P) .nil .nil)) (.node (o54v0 P) (.node (o86v0 P) .nil .nil) .nil)) (.node (o30v0 P) (.node (o46v0 P) (.node (o78v0 P) .nil .nil) (.node (o110v0 P) .nil .nil)) (.node (o62v0 P) (.node (o94v0 P) .nil .nil) .nil))))))
theorem pt15 (w : World) (os : OsState) : segRunT treeTable pp w 11 (some (.ref 6)) 1 32 ⟨T15 w.params, 107, {}, #[], {}, 2272, os⟩ (piecesOf [st15] env (.body bd env) ⟨69, 0, 70, 58⟩ [topFrame ⟨0, 0, 0, 0⟩]) = some (.next, ⟨T16 w.params, 114, {}, #[], {}, 2281, os⟩, .body bd env, ⟨71, 0, 73, 86⟩) := by
  show segRunT treeTable pp _ 11 (some (.ref 6)) 1 32 _ ⟨(execs [st15] env).wrap doneF deadEnd id id, .body bd env, ⟨69, 0, 70, 58⟩, [topFrame ⟨0, 0, 0, 0⟩]⟩ = _
  rw [PySem.W.Fast.te10110043849684766642, PySem.W.Fast.te14364793385576792824, PySem.W.Fast.te12563942051412417395]
  kernel_rfl!
theorem pc15 (w : World) (os : OsState) : segRun treeTable pp w 11 (some (.ref 6)) 1 32 (SharedT.abs ⟨T15 w.params, 107, {}, #[], {}, 2272, os⟩) (piecesOf [st15] env (.body bd env) ⟨69, 0, 70, 58⟩ [topFrame ⟨0, 0, 0, 0⟩]) = some (.next, SharedT.abs ⟨T16 w.params, 114, {}, #[], {}, 2281, os⟩, .body bd env, ⟨71, 0, 73, 86⟩) := segRun_of (pt15 w os)
noncomputable def o3v17 (P : Params) : Obj := ⟨(.type "dict"), none, (.dict #[⟨PyData.keyHash P ⟨#[95, 95, 110, 97, 109, 101, 95, 95]⟩, (.str ⟨#[95, 95, 110, 97, 109, 101, 95, 95]⟩ 165), (.str ⟨#[108, 97, 119, 95, 116, 97, 48, 48, 53, 49, 95, 48, 49]⟩ 2263)⟩, ⟨PyData.keyHash P ⟨#[95, 95, 100, 111, 99, 95, 95]⟩, (.str ⟨#[95, 95, 100, 111, 99, 95, 95]⟩ 166), (.none)⟩, ⟨PyData.keyHash P ⟨#[95, 95, 112, 97, 99, 107, 97, 103, 101, 95, 95]⟩, (.str ⟨#[95, 95, 112, 97, 99, 107, 97, 103, 101, 95, 95]⟩ 167), (.none)⟩, ⟨PyData.keyHash P ⟨#[95, 95, 108, 111, 97, 100, 101, 114, 95, 95]⟩, (.str ⟨#[95, 95, 108, 111, 97, 100, 101, 114, 95, 95]⟩ 168), (.builtin "__main__.__loader__#opaque")⟩, ⟨PyData.keyHash P ⟨#[95, 95, 115, 112, 101, 99, 95, 95]⟩, (.str ⟨#[95, 95, 115, 112, 101, 99, 95, 95]⟩ 169), (.none)⟩, ⟨PyData.keyHash P ⟨#[95, 95, 97, 110, 110, 111, 116, 97, 116, 105, 111, 110, 115, 95, 95]⟩, (.str ⟨#[95, 95, 97, 110, 110, 111, 116, 97, 116, 105, 111, 110, 115, 95, 95]⟩ 170), (.ref 6)⟩, ⟨PyData.keyHash P ⟨#[95, 95, 98, 117, 105, 108, 116, 105, 110, 115, 95, 95]⟩, (.str ⟨#[95, 95, 98, 117, 105, 108, 116, 105, 110, 115, 95, 95]⟩ 171), (.ref 4)⟩, ⟨PyData.keyHash P ⟨#[95, 95, 102, 105, 108, 101, 95, 95]⟩, (.str ⟨#[95, 95, 102, 105, 108, 101, 95, 95]⟩ 173), (.str ⟨#[47, 99, 108, 97, 105, 109, 47, 99, 117, 116, 46, 112, 121]⟩ 172)⟩, ⟨PyData.keyHash P ⟨#[95, 95, 99, 97, 99, 104, 101, 100, 95, 95]⟩, (.str ⟨#[95, 95, 99, 97, 99, 104, 101, 100, 95, 95]⟩ 174), (.none)⟩, ⟨PyData.keyHash P ⟨#[95, 77, 65, 88, 95, 83, 84, 82, 73, 78, 71, 95, 83, 73, 90, 69]⟩, (.str ⟨#[95, 77, 65, 88, 95, 83, 84, 82, 73, 78, 71, 95, 83, 73, 90, 69]⟩ 190), (.int 40 189)⟩, ⟨PyData.keyHash P ⟨#[95, 77, 79, 86, 69, 95, 67, 79, 83, 84]⟩, (.str ⟨#[95, 77, 79, 86, 69, 95, 67, 79, 83, 84]⟩ 192), (.int 2 191)⟩, ⟨PyData.keyHash P ⟨#[95, 67, 65, 83, 69, 95, 67, 79, 83, 84]⟩, (.str ⟨#[95, 67, 65, 83, 69, 95, 67, 79, 83, 84]⟩ 194), (.int 1 193)⟩, ⟨PyData.keyHash P ⟨#[95, 115, 117, 98, 115, 116, 105, 116, 117, 116, 105, 111, 110, 95, 99, 111, 115, 116]⟩, (.str ⟨#[95, 115, 117, 98, 115, 116, 105, 116, 117, 116, 105, 111, 110, 95, 99, 111, 115, 116]⟩ 202), (.ref 21)⟩, ⟨PyData.keyHash P ⟨#[95, 108, 101, 118, 101, 110, 115, 104, 116, 101, 105, 110, 95, 100, 105, 115, 116, 97, 110, 99, 101]⟩, (.str ⟨#[95, 108, 101, 118, 101, 110, 115, 104, 116, 101, 105, 110, 95, 100, 105, 115, 116, 97, 110, 99, 101]⟩ 222), (.ref 28)⟩, ⟨PyData.keyHash P ⟨#[73, 110, 116, 50, 65, 80]⟩, (.str ⟨#[73, 110, 116, 50, 65, 80]⟩ 234), (.ref 35)⟩, ⟨PyData.keyHash P ⟨#[98, 49, 95, 115, 101, 116]⟩, (.str ⟨#[98, 49, 95, 115, 101, 116]⟩ 296), (.ref 43)⟩, ⟨PyData.keyHash P ⟨#[105, 110, 95, 116, 97, 98, 108, 101, 95, 98, 49]⟩, (.str ⟨#[105, 110, 95, 116, 97, 98, 108, 101, 95, 98, 49]⟩ 303), (.ref 53)⟩, ⟨PyData.keyHash P ⟨#[98, 51, 95, 101, 120, 99, 101, 112, 116, 105, 111, 110, 115]⟩, (.str ⟨#[98, 51, 95, 101, 120, 99, 101, 112, 116, 105, 111, 110, 115]⟩ 2254), (.ref 54)⟩, ⟨PyData.keyHash P ⟨#[109, 97, 112, 95, 116, 97, 98, 108, 101, 95, 98, 51]⟩, (.str ⟨#[109, 97, 112, 95, 116, 97, 98, 108, 101, 95, 98, 51]⟩ 2262), (.ref 99)⟩, ⟨PyData.keyHash P ⟨#[95, 108, 97, 119, 95, 102, 105, 103, 117, 114, 101, 115]⟩, (.str ⟨#[95, 108, 97, 119, 95, 102, 105, 103, 117, 114, 101, 115]⟩ 2271), (.ref 106)⟩, ⟨PyData.keyHash P ⟨#[95, 108, 97, 119, 95, 99, 104, 97, 110, 103, 101, 100]⟩, (.str ⟨#[95, 108, 97, 119, 95, 99, 104, 97, 110, 103, 101, 100]⟩ 2280), (.ref 113)⟩, ⟨PyData.keyHash P ⟨#[95, 108, 97, 119, 95, 116, 121, 112, 101, 100]⟩, (.str ⟨#[95, 108, 97, 119, 95, 116, 121, 112, 101, 100]⟩ 2295), (.ref 120)⟩] 22), #[]⟩
noncomputable def o12v8 (P : Params) : Obj := ⟨(.none), none, (.fields #[(.int 5 0), (.int 0 0), (.ref 20), (.int 11 0), (.int 0 0), (.ref 27), (.int 50 0), (.int 0 0), (.ref 34), (.int 60 0), (.int 0 0), (.ref 52), (.int 63 0), (.int 0 0), (.ref 98), (.int 69 0), (.int 0 0), (.ref 105), (.int 71 0), (.int 0 0), (.ref 112), (.int 74 0), (.int 0 0), (.ref 119)]), #[]⟩
noncomputable def o114v0 (P : Params) : Obj := ⟨(.type "tuple"), none, (.seq #[] 0), #[]⟩
noncomputable def o115v0 (P : Params) : Obj := ⟨(.none), none, (.fields #[]), #[]⟩
noncomputable def o116v0 (P : Params) : Obj := ⟨(.type "tuple"), none, (.seq #[(.str ⟨#[108, 101, 116, 116, 101, 114, 115]⟩ 2284), (.str ⟨#[100, 114, 97, 119]⟩ 2285), (.str ⟨#[112, 97, 105, 114, 115]⟩ 2286), (.str ⟨#[97, 108, 112, 104, 97, 98, 101, 116, 115]⟩ 2287), (.str ⟨#[114, 105, 100, 101, 114, 115]⟩ 2288), (.str ⟨#[116, 121, 112, 101, 100]⟩ 2289), (.str ⟨#[112, 108, 97, 99, 101]⟩ 2290), (.str ⟨#[110]⟩ 2291), (.str ⟨#[112, 97, 105, 114]⟩ 2292)] 0), #[]⟩
noncomputable def o117v0 (P : Params) : Obj := ⟨(.type "tuple"), none, (.seq #[] 0), #[]⟩
noncomputable def o118v0 (P : Params) : Obj := ⟨(.none), none, .func (fd st16 0 (.none) (.none) 0), #[]⟩
noncomputable def o119v0 (P : Params) : Obj := ⟨(.type "code"), none, (.fields #[(.str ⟨#[95, 108, 97, 119, 95, 116, 121, 112, 101, 100]⟩ 2281), (.str ⟨#[95, 108, 97, 119, 95, 116, 121, 112, 101, 100]⟩ 2282), (.str ⟨#[47, 99, 108, 97, 105, 109, 47, 99, 117, 116, 46, 112, 121]⟩ 2283), (.int 74 0), (.int 2 0), (.int 0 0), (.int 0 0), (.int 3 0), (.ref 114), (.bool true), (.int 181 0), (.ref 115), (.none), (.ref 116), (.ref 117), (.ref 118), (.int 2293 0), (.int 74 0), (.str ⟨#[47, 99, 108, 97, 105, 109, 47, 99, 117, 116, 46, 112, 121]⟩ 2294)]), #[]⟩
noncomputable def o120v0 (P : Params) : Obj := ⟨(.type "function"), none, .func (fd st16 3 (.str ⟨#[108, 97, 119, 95, 116, 97, 48, 48, 53, 49, 95, 48, 49]⟩ 2263) (.ref 119) 0), #[]⟩
noncomputable def T17 (P : Params) : BT := (.node (boot_o_0 P) (.node (boot_o_1 P) (.node (o3v17 P) (.node (boot_o_7 P) (.node (o15v0 P) (.node (o31v0 P) (.node (o63v0 P) .nil .nil) (.node (o95v0 P) .nil .nil)) (.node (o47v0 P) (.node (o79v0 P) .nil .nil) (.node (o111v0 P) .nil .nil))) (.node (o23v0 P) (.node (o39v0 P) (.node (o71v0 P) .nil .nil) (.node (o103v0 P) .nil .nil)) (.node (o55v0 P) (.node (o87v0 P) .nil .nil) (.node (o119v0 P) .nil .nil)))) (.node (o11v0 P) (.node (o19v0 P) (.node (o35v0 P) (.node (o67v0 P) .nil .nil) (.node (o99v0 P) .nil .nil)) (.node (o51v0 P) (.node (o83v0 P) .nil .nil) (.node (o115v0 P) .nil .nil))) (.node (o27v0 P) (.node (o43v0 P) (.node (o75v0 P) .nil .nil) (.node (o107v0 P) .nil .nil)) (.node (o59v0 P) (.node (o91v0 P) .nil .nil) .nil)))) (.node (boot_o_5 P) (.node (boot_o_9 P) (.node (o17v0 P) (.node (o33v0 P) (.node (o65v0 P) .nil .nil) (.node (o97v0 P) .nil .nil)) (.node (o49v0 P) (.node (o81v0 P) .nil .nil) (.node (o113v0 P) .nil .nil))) (.node (o25v0 P) (.node (o41v0 P) (.node (o73v0 P) .nil .nil) (.node (o105v0 P) .nil .nil)) (.node (o57v0 P) (.node (o89v0 P) .nil .nil) .nil))) (.node (o13v0 P) (.node (o21v0 P) (.node (o37v0 P) (.node (o69v0 P) .nil .nil) (.node (o101v0 P) .nil .nil)) (.node (o53v0 P) (.node (o85v0 P) .nil .nil) (.node (o117v0 P) .nil .nil))) (.node (o29v0 P) (.node (o45v0 P) (.node (o77v0 P) .nil .nil) (.node (o109v0 P) .nil .nil)) (.node (o61v0 P) (.node (o93v0 P) .nil .nil) .nil))))) (.node (boot_o_2 P) (.node (boot_o_4 P) (.node (boot_o_8 P) (.node (o16v0 P) (.node (o32v0 P) (.node (o64v0 P) .nil .nil) (.node (o96v0 P) .nil .nil)) (.node (o48v0 P) (.node (o80v0 P) .nil .nil) (.node (o112v0 P) .nil .nil))) (.node (o24v0 P) (.node (o40v0 P) (.node (o72v0 P) .nil .nil) (.node (o104v0 P) .nil .nil)) (.node (o56v0 P) (.node (o88v0 P) .nil .nil) (.node (o120v0 P) .nil .nil)))) (.node (o12v8 P) (.node (o20v0 P) (.node (o36v0 P) (.node (o68v0 P) .nil .nil) (.node (o100v0 P) .nil .nil)) (.node (o52v0 P) (.node (o84v0 P) .nil .nil) (.node (o116v0 P) .nil .nil))) (.node (o28v0 P) (.node (o44v0 P) (.node (o76v0 P) .nil .nil) (.node (o108v0 P) .nil .nil)) (.node (o60v0 P) (.node (o92v0 P) .nil .nil) .nil)))) (.node (boot_o_6 P) (.node (boot_o_10 P) (.node (o18v0 P) (.node (o34v0 P) (.node (o66v0 P) .nil .nil) (.node (o98v0 P) .nil .nil)) (.node (o50v0 P) (.node (o82v0 P) .nil .nil) (.node (o114v0 P) .nil .nil))) (.node (o26v0 P) (.node (o42v0 P) (.node (o74v0 P) .nil .nil) (.node (o106v0 P) .nil .nil)) (.node (o58v0 P) (.node (o90v0 P) .nil .nil) .nil))) (.node (o14v0 P) (.node (o22v0 P) (.node (o38v0 P) (.node (o70v0 P) .nil .nil) (.node (o102v0 P) .nil .nil)) (.node (o54v0 P) (.node (o86v0 P) .nil .nil) (.node (o118v0 P) .nil .nil))) (.node (o30v0 P) (.node (o46v0 P) (.node (o78v0 P) .nil .nil) (.node (o110v0 P) .nil .nil)) (.node (o62v0 P) (.node (o94v0 P) .nil .nil) .nil))))))
theorem pt16 (w : World) (os : OsState) : segRunT treeTable pp w 11 (some (.ref 6)) 1 38 ⟨T16 w.params, 114, {}, #[], {}, 2281, os⟩ (piecesOf [st16] env (.body bd env) ⟨71, 0, 73, 86⟩ [topFrame ⟨0, 0, 0, 0⟩]) = some (.next, ⟨T17 w.params, 121, {}, #[], {}, 2296, os⟩, .body bd env, ⟨74, 0, 90, 16⟩) := by
  show segRunT treeTable pp _ 11 (some (.ref 6)) 1 38 _ ⟨(execs [st16] env).wrap doneF deadEnd id id, .body bd env, ⟨71, 0, 73, 86⟩, [topFrame ⟨0, 0, 0, 0⟩]⟩ = _
  rw [PySem.W.Fast.te10110043849684766642, PySem.W.Fast.te14364793385576792824, PySem.W.Fast.te12563942051412417395]
  kernel_rfl!
theorem pc16 (w : World) (os : OsState) : segRun treeTable pp w 11 (some (.ref 6)) 1 38 (SharedT.abs ⟨T16 w.params, 114, {}, #[], {}, 2281, os⟩) (piecesOf [st16] env (.body bd env) ⟨71, 0, 73, 86⟩ [topFrame ⟨0, 0, 0, 0⟩]) = some (.next, SharedT.abs ⟨T17 w.params, 121, {}, #[], {}, 2296, os⟩, .body bd env, ⟨74, 0, 90, 16⟩) := segRun_of (pt16 w os)
noncomputable def o3v18 (P : Params) : Obj := ⟨(.type "dict"), none, (.dict #[⟨PyData.keyHash P ⟨#[95, 95, 110, 97, 109, 101, 95, 95]⟩, (.str ⟨#[95, 95, 110, 97, 109, 101, 95, 95]⟩ 165), (.str ⟨#[108, 97, 119, 95, 116, 97, 48, 48, 53, 49, 95, 48, 49]⟩ 2263)⟩, ⟨PyData.keyHash P ⟨#[95, 95, 100, 111, 99, 95, 95]⟩, (.str ⟨#[95, 95, 100, 111, 99, 95, 95]⟩ 166), (.none)⟩, ⟨PyData.keyHash P ⟨#[95, 95, 112, 97, 99, 107, 97, 103, 101, 95, 95]⟩, (.str ⟨#[95, 95, 112, 97, 99, 107, 97, 103, 101, 95, 95]⟩ 167), (.none)⟩, ⟨PyData.keyHash P ⟨#[95, 95, 108, 111, 97, 100, 101, 114, 95, 95]⟩, (.str ⟨#[95, 95, 108, 111, 97, 100, 101, 114, 95, 95]⟩ 168), (.builtin "__main__.__loader__#opaque")⟩, ⟨PyData.keyHash P ⟨#[95, 95, 115, 112, 101, 99, 95, 95]⟩, (.str ⟨#[95, 95, 115, 112, 101, 99, 95, 95]⟩ 169), (.none)⟩, ⟨PyData.keyHash P ⟨#[95, 95, 97, 110, 110, 111, 116, 97, 116, 105, 111, 110, 115, 95, 95]⟩, (.str ⟨#[95, 95, 97, 110, 110, 111, 116, 97, 116, 105, 111, 110, 115, 95, 95]⟩ 170), (.ref 6)⟩, ⟨PyData.keyHash P ⟨#[95, 95, 98, 117, 105, 108, 116, 105, 110, 115, 95, 95]⟩, (.str ⟨#[95, 95, 98, 117, 105, 108, 116, 105, 110, 115, 95, 95]⟩ 171), (.ref 4)⟩, ⟨PyData.keyHash P ⟨#[95, 95, 102, 105, 108, 101, 95, 95]⟩, (.str ⟨#[95, 95, 102, 105, 108, 101, 95, 95]⟩ 173), (.str ⟨#[47, 99, 108, 97, 105, 109, 47, 99, 117, 116, 46, 112, 121]⟩ 172)⟩, ⟨PyData.keyHash P ⟨#[95, 95, 99, 97, 99, 104, 101, 100, 95, 95]⟩, (.str ⟨#[95, 95, 99, 97, 99, 104, 101, 100, 95, 95]⟩ 174), (.none)⟩, ⟨PyData.keyHash P ⟨#[95, 77, 65, 88, 95, 83, 84, 82, 73, 78, 71, 95, 83, 73, 90, 69]⟩, (.str ⟨#[95, 77, 65, 88, 95, 83, 84, 82, 73, 78, 71, 95, 83, 73, 90, 69]⟩ 190), (.int 40 189)⟩, ⟨PyData.keyHash P ⟨#[95, 77, 79, 86, 69, 95, 67, 79, 83, 84]⟩, (.str ⟨#[95, 77, 79, 86, 69, 95, 67, 79, 83, 84]⟩ 192), (.int 2 191)⟩, ⟨PyData.keyHash P ⟨#[95, 67, 65, 83, 69, 95, 67, 79, 83, 84]⟩, (.str ⟨#[95, 67, 65, 83, 69, 95, 67, 79, 83, 84]⟩ 194), (.int 1 193)⟩, ⟨PyData.keyHash P ⟨#[95, 115, 117, 98, 115, 116, 105, 116, 117, 116, 105, 111, 110, 95, 99, 111, 115, 116]⟩, (.str ⟨#[95, 115, 117, 98, 115, 116, 105, 116, 117, 116, 105, 111, 110, 95, 99, 111, 115, 116]⟩ 202), (.ref 21)⟩, ⟨PyData.keyHash P ⟨#[95, 108, 101, 118, 101, 110, 115, 104, 116, 101, 105, 110, 95, 100, 105, 115, 116, 97, 110, 99, 101]⟩, (.str ⟨#[95, 108, 101, 118, 101, 110, 115, 104, 116, 101, 105, 110, 95, 100, 105, 115, 116, 97, 110, 99, 101]⟩ 222), (.ref 28)⟩, ⟨PyData.keyHash P ⟨#[73, 110, 116, 50, 65, 80]⟩, (.str ⟨#[73, 110, 116, 50, 65, 80]⟩ 234), (.ref 35)⟩, ⟨PyData.keyHash P ⟨#[98, 49, 95, 115, 101, 116]⟩, (.str ⟨#[98, 49, 95, 115, 101, 116]⟩ 296), (.ref 43)⟩, ⟨PyData.keyHash P ⟨#[105, 110, 95, 116, 97, 98, 108, 101, 95, 98, 49]⟩, (.str ⟨#[105, 110, 95, 116, 97, 98, 108, 101, 95, 98, 49]⟩ 303), (.ref 53)⟩, ⟨PyData.keyHash P ⟨#[98, 51, 95, 101, 120, 99, 101, 112, 116, 105, 111, 110, 115]⟩, (.str ⟨#[98, 51, 95, 101, 120, 99, 101, 112, 116, 105, 111, 110, 115]⟩ 2254), (.ref 54)⟩, ⟨PyData.keyHash P ⟨#[109, 97, 112, 95, 116, 97, 98, 108, 101, 95, 98, 51]⟩, (.str ⟨#[109, 97, 112, 95, 116, 97, 98, 108, 101, 95, 98, 51]⟩ 2262), (.ref 99)⟩, ⟨PyData.keyHash P ⟨#[95, 108, 97, 119, 95, 102, 105, 103, 117, 114, 101, 115]⟩, (.str ⟨#[95, 108, 97, 119, 95, 102, 105, 103, 117, 114, 101, 115]⟩ 2271), (.ref 106)⟩, ⟨PyData.keyHash P ⟨#[95, 108, 97, 119, 95, 99, 104, 97, 110, 103, 101, 100]⟩, (.str ⟨#[95, 108, 97, 119, 95, 99, 104, 97, 110, 103, 101, 100]⟩ 2280), (.ref 113)⟩, ⟨PyData.keyHash P ⟨#[95, 108, 97, 119, 95, 116, 121, 112, 101, 100]⟩, (.str ⟨#[95, 108, 97, 119, 95, 116, 121, 112, 101, 100]⟩ 2295), (.ref 120)⟩, ⟨PyData.keyHash P ⟨#[95, 108, 97, 119, 95, 112, 114, 101, 112, 97, 114, 101, 100]⟩, (.str ⟨#[95, 108, 97, 119, 95, 112, 114, 101, 112, 97, 114, 101, 100]⟩ 2301), (.ref 125)⟩] 23), #[]⟩
noncomputable def o12v9 (P : Params) : Obj := ⟨(.none), none, (.fields #[(.int 5 0), (.int 0 0), (.ref 20), (.int 11 0), (.int 0 0), (.ref 27), (.int 50 0), (.int 0 0), (.ref 34), (.int 60 0), (.int 0 0), (.ref 52), (.int 63 0), (.int 0 0), (.ref 98), (.int 69 0), (.int 0 0), (.ref 105), (.int 71 0), (.int 0 0), (.ref 112), (.int 74 0), (.int 0 0), (.ref 119), (.int 91 0), (.int 0 0), (.ref 124)]), #[]⟩
noncomputable def o121v0 (P : Params) : Obj := ⟨(.type "tuple"), none, (.seq #[] 0), #[]⟩
noncomputable def o122v0 (P : Params) : Obj := ⟨(.none), none, (.fields #[]), #[]⟩
noncomputable def o123v0 (P : Params) : Obj := ⟨(.none), none, .func (fd st17 0 (.none) (.none) 0), #[]⟩
noncomputable def o124v0 (P : Params) : Obj := ⟨(.type "code"), none, (.fields #[(.str ⟨#[95, 108, 97, 119, 95, 112, 114, 101, 112, 97, 114, 101, 100]⟩ 2296), (.str ⟨#[95, 108, 97, 119, 95, 112, 114, 101, 112, 97, 114, 101, 100]⟩ 2297), (.str ⟨#[47, 99, 108, 97, 105, 109, 47, 99, 117, 116, 46, 112, 121]⟩ 2298), (.int 91 0), (.int 1 0), (.int 0 0), (.int 0 0), (.int 3 0), (.ref 121), (.bool true), (.int 181 0), (.ref 122), (.none), (.none), (.none), (.ref 123), (.int 2299 0), (.int 91 0), (.str ⟨#[47, 99, 108, 97, 105, 109, 47, 99, 117, 116, 46, 112, 121]⟩ 2300)]), #[]⟩
noncomputable def o125v0 (P : Params) : Obj := ⟨(.type "function"), none, .func (fd st17 3 (.str ⟨#[108, 97, 119, 95, 116, 97, 48, 48, 53, 49, 95, 48, 49]⟩ 2263) (.ref 124) 0), #[]⟩
noncomputable def T18 (P : Params) : BT := (.node (boot_o_0 P) (.node (boot_o_1 P) (.node (o3v18 P) (.node (boot_o_7 P) (.node (o15v0 P) (.node (o31v0 P) (.node (o63v0 P) .nil .nil) (.node (o95v0 P) .nil .nil)) (.node (o47v0 P) (.node (o79v0 P) .nil .nil) (.node (o111v0 P) .nil .nil))) (.node (o23v0 P) (.node (o39v0 P) (.node (o71v0 P) .nil .nil) (.node (o103v0 P) .nil .nil)) (.node (o55v0 P) (.node (o87v0 P) .nil .nil) (.node (o119v0 P) .nil .nil)))) (.node (o11v0 P) (.node (o19v0 P) (.node (o35v0 P) (.node (o67v0 P) .nil .nil) (.node (o99v0 P) .nil .nil)) (.node (o51v0 P) (.node (o83v0 P) .nil .nil) (.node (o115v0 P) .nil .nil))) (.node (o27v0 P) (.node (o43v0 P) (.node (o75v0 P) .nil .nil) (.node (o107v0 P) .nil .nil)) (.node (o59v0 P) (.node (o91v0 P) .nil .nil) (.node (o123v0 P) .nil .nil))))) (.node (boot_o_5 P) (.node (boot_o_9 P) (.node (o17v0 P) (.node (o33v0 P) (.node (o65v0 P) .nil .nil) (.node (o97v0 P) .nil .nil)) (.node (o49v0 P) (.node (o81v0 P) .nil .nil) (.node (o113v0 P) .nil .nil))) (.node (o25v0 P) (.node (o41v0 P) (.node (o73v0 P) .nil .nil) (.node (o105v0 P) .nil .nil)) (.node (o57v0 P) (.node (o89v0 P) .nil .nil) (.node (o121v0 P) .nil .nil)))) (.node (o13v0 P) (.node (o21v0 P) (.node (o37v0 P) (.node (o69v0 P) .nil .nil) (.node (o101v0 P) .nil .nil)) (.node (o53v0 P) (.node (o85v0 P) .nil .nil) (.node (o117v0 P) .nil .nil))) (.node (o29v0 P) (.node (o45v0 P) (.node (o77v0 P) .nil .nil) (.node (o109v0 P) .nil .nil)) (.node (o61v0 P) (.node (o93v0 P) .nil .nil) (.node (o125v0 P) .nil .nil)))))) (.node (boot_o_2 P) (.node (boot_o_4 P) (.node (boot_o_8 P) (.node (o16v0 P) (.node (o32v0 P) (.node (o64v0 P) .nil .nil) (.node (o96v0 P) .nil .nil)) (.node (o48v0 P) (.node (o80v0 P) .nil .nil) (.node (o112v0 P) .nil .nil))) (.node (o24v0 P) (.node (o40v0 P) (.node (o72v0 P) .nil .nil) (.node (o104v0 P) .nil .nil)) (.node (o56v0 P) (.node (o88v0 P) .nil .nil) (.node (o120v0 P) .nil .nil)))) (.node (o12v9 P) (.node (o20v0 P) (.node (o36v0 P) (.node (o68v0 P) .nil .nil) (.node (o100v0 P) .nil .nil)) (.node (o52v0 P) (.node (o84v0 P) .nil .nil) (.node (o116v0 P) .nil .nil))) (.node (o28v0 P) (.node (o44v0 P) (.node (o76v0 P) .nil .nil) (.node (o108v0 P) .nil .nil)) (.node (o60v0 P) (.node (o92v0 P) .nil .nil) (.node (o124v0 P) .nil .nil))))) (.node (boot_o_6 P) (.node (boot_o_10 P) (.node (o18v0 P) (.node (o34v0 P) (.node (o66v0 P) .nil .nil) (.node (o98v0 P) .nil .nil)) (.node (o50v0 P) (.node (o82v0 P) .nil .nil) (.node (o114v0 P) .nil .nil))) (.node (o26v0 P) (.node (o42v0 P) (.node (o74v0 P) .nil .nil) (.node (o106v0 P) .nil .nil)) (.node (o58v0 P) (.node (o90v0 P) .nil .nil) (.node (o122v0 P) .nil .nil)))) (.node (o14v0 P) (.node (o22v0 P) (.node (o38v0 P) (.node (o70v0 P) .nil .nil) (.node (o102v0 P) .nil .nil)) (.node (o54v0 P) (.node (o86v0 P) .nil .nil) (.node (o118v0 P) .nil .nil))) (.node (o30v0 P) (.node (o46v0 P) (.node (o78v0 P) .nil .nil) (.node (o110v0 P) .nil .nil)) (.node (o62v0 P) (.node (o94v0 P) .nil .nil) .nil))))))
theorem pt17 (w : World) (os : OsState) : segRunT treeTable pp w 11 (some (.ref 6)) 1 27 ⟨T17 w.params, 121, {}, #[], {}, 2296, os⟩ (piecesOf [st17] env (.body bd env) ⟨74, 0, 90, 16⟩ [topFrame ⟨0, 0, 0, 0⟩]) = some (.next, ⟨T18 w.params, 126, {}, #[], {}, 2302, os⟩, .body bd env, ⟨91, 0, 92, 83⟩) := by
  show segRunT treeTable pp _ 11 (some (.ref 6)) 1 27 _ ⟨(execs [st17] env).wrap doneF deadEnd id id, .body bd env, ⟨74, 0, 90, 16⟩, [topFrame ⟨0, 0, 0, 0⟩]⟩ = _
  rw [PySem.W.Fast.te10110043849684766642, PySem.W.Fast.te14364793385576792824, PySem.W.Fast.te12563942051412417395]
  kernel_rfl!
theorem pc17 (w : World) (os : OsState) : segRun treeTable pp w 11 (some (.ref 6)) 1 27 (SharedT.abs ⟨T17 w.params, 121, {}, #[], {}, 2296, os⟩) (piecesOf [st17] env (.body bd env) ⟨74, 0, 90, 16⟩ [topFrame ⟨0, 0, 0, 0⟩]) = some (.next, SharedT.abs ⟨T18 w.params, 126, {}, #[], {}, 2302, os⟩, .body bd env, ⟨91, 0, 92, 83⟩) := segRun_of (pt17 w os)
noncomputable def o3v19 (P : Params) : Obj := ⟨(.type "dict"), none, (.dict #[⟨PyData.keyHash P ⟨#[95, 95, 110, 97, 109, 101, 95, 95]⟩, (.str ⟨#[95, 95, 110, 97, 109, 101, 95, 95]⟩ 165), (.str ⟨#[108, 97, 119, 95, 116, 97, 48, 48, 53, 49, 95, 48, 49]⟩ 2263)⟩, ⟨PyData.keyHash P ⟨#[95, 95, 100, 111, 99, 95, 95]⟩, (.str ⟨#[95, 95, 100, 111, 99, 95, 95]⟩ 166), (.none)⟩, ⟨PyData.keyHash P ⟨#[95, 95, 112, 97, 99, 107, 97, 103, 101, 95, 95]⟩, (.str ⟨#[95, 95, 112, 97, 99, 107, 97, 103, 101, 95, 95]⟩ 167), (.none)⟩, ⟨PyData.keyHash P ⟨#[95, 95, 108, 111, 97, 100, 101, 114, 95, 95]⟩, (.str ⟨#[95, 95, 108, 111, 97, 100, 101, 114, 95, 95]⟩ 168), (.builtin "__main__.__loader__#opaque")⟩, ⟨PyData.keyHash P ⟨#[95, 95, 115, 112, 101, 99, 95, 95]⟩, (.str ⟨#[95, 95, 115, 112, 101, 99, 95, 95]⟩ 169), (.none)⟩, ⟨PyData.keyHash P ⟨#[95, 95, 97, 110, 110, 111, 116, 97, 116, 105, 111, 110, 115, 95, 95]⟩, (.str ⟨#[95, 95, 97, 110, 110, 111, 116, 97, 116, 105, 111, 110, 115, 95, 95]⟩ 170), (.ref 6)⟩, ⟨PyData.keyHash P ⟨#[95, 95, 98, 117, 105, 108, 116, 105, 110, 115, 95, 95]⟩, (.str ⟨#[95, 95, 98, 117, 105, 108, 116, 105, 110, 115, 95, 95]⟩ 171), (.ref 4)⟩, ⟨PyData.keyHash P ⟨#[95, 95, 102, 105, 108, 101, 95, 95]⟩, (.str ⟨#[95, 95, 102, 105, 108, 101, 95, 95]⟩ 173), (.str ⟨#[47, 99, 108, 97, 105, 109, 47, 99, 117, 116, 46, 112, 121]⟩ 172)⟩, ⟨PyData.keyHash P ⟨#[95, 95, 99, 97, 99, 104, 101, 100, 95, 95]⟩, (.str ⟨#[95, 95, 99, 97, 99, 104, 101, 100, 95, 95]⟩ 174), (.none)⟩, ⟨PyData.keyHash P ⟨#[95, 77, 65, 88, 95, 83, 84, 82, 73, 78, 71, 95, 83, 73, 90, 69]⟩, (.str ⟨#[95, 77, 65, 88, 95, 83, 84, 82, 73, 78, 71, 95, 83, 73, 90, 69]⟩ 190), (.int 40 189)⟩, ⟨PyData.keyHash P ⟨#[95, 77, 79, 86, 69, 95, 67, 79, 83, 84]⟩, (.str ⟨#[95, 77, 79, 86, 69, 95, 67, 79, 83, 84]⟩ 192), (.int 2 191)⟩, ⟨PyData.keyHash P ⟨#[95, 67, 65, 83, 69, 95, 67, 79, 83, 84]⟩, (.str ⟨#[95, 67, 65, 83, 69, 95, 67, 79, 83, 84]⟩ 194), (.int 1 193)⟩, ⟨PyData.keyHash P ⟨#[95, 115, 117, 98, 115, 116, 105, 116, 117, 116, 105, 111, 110, 95, 99, 111, 115, 116]⟩, (.str ⟨#[95, 115, 117, 98, 115, 116, 105, 116, 117, 116, 105, 111, 110, 95, 99, 111, 115, 116]⟩ 202), (.ref 21)⟩, ⟨PyData.keyHash P ⟨#[95, 108, 101, 118, 101, 110, 115, 104, 116, 101, 105, 110, 95, 100, 105, 115, 116, 97, 110, 99, 101]⟩, (.str ⟨#[95, 108, 101, 118, 101, 110, 115, 104, 116, 101, 105, 110, 95, 100, 105, 115, 116, 97, 110, 99, 101]⟩ 222), (.ref 28)⟩, ⟨PyData.keyHash P ⟨#[73, 110, 116, 50, 65, 80]⟩, (.str ⟨#[73, 110, 116, 50, 65, 80]⟩ 234), (.ref 35)⟩, ⟨PyData.keyHash P ⟨#[98, 49, 95, 115, 101, 116]⟩, (.str ⟨#[98, 49, 95, 115, 101, 116]⟩ 296), (.ref 43)⟩, ⟨PyData.keyHash P ⟨#[105, 110, 95, 116, 97, 98, 108, 101, 95, 98, 49]⟩, (.str ⟨#[105, 110, 95, 116, 97, 98, 108, 101, 95, 98, 49]⟩ 303), (.ref 53)⟩, ⟨PyData.keyHash P ⟨#[98, 51, 95, 101, 120, 99, 101, 112, 116, 105, 111, 110, 115]⟩, (.str ⟨#[98, 51, 95, 101, 120, 99, 101, 112, 116, 105, 111, 110, 115]⟩ 2254), (.ref 54)⟩, ⟨PyData.keyHash P ⟨#[109, 97, 112, 95, 116, 97, 98, 108, 101, 95, 98, 51]⟩, (.str ⟨#[109, 97, 112, 95, 116, 97, 98, 108, 101, 95, 98, 51]⟩ 2262), (.ref 99)⟩, ⟨PyData.keyHash P ⟨#[95, 108, 97, 119, 95, 102, 105, 103, 117, 114, 101, 115]⟩, (.str ⟨#[95, 108, 97, 119, 95, 102, 105, 103, 117, 114, 101, 115]⟩ 2271), (.ref 106)⟩, ⟨PyData.keyHash P ⟨#[95, 108, 97, 119, 95, 99, 104, 97, 110, 103, 101, 100]⟩, (.str ⟨#[95, 108, 97, 119, 95, 99, 104, 97, 110, 103, 101, 100]⟩ 2280), (.ref 113)⟩, ⟨PyData.keyHash P ⟨#[95, 108, 97, 119, 95, 116, 121, 112, 101, 100]⟩, (.str ⟨#[95, 108, 97, 119, 95, 116, 121, 112, 101, 100]⟩ 2295), (.ref 120)⟩, ⟨PyData.keyHash P ⟨#[95, 108, 97, 119, 95, 112, 114, 101, 112, 97, 114, 101, 100]⟩, (.str ⟨#[95, 108, 97, 119, 95, 112, 114, 101, 112, 97, 114, 101, 100]⟩ 2301), (.ref 125)⟩, ⟨PyData.keyHash P ⟨#[95, 108, 97, 119, 95, 109, 101, 110, 100, 101, 100]⟩, (.str ⟨#[95, 108, 97, 119, 95, 109, 101, 110, 100, 101, 100]⟩ 2315), (.ref 132)⟩] 24), #[]⟩
noncomputable def o12v10 (P : Params) : Obj := ⟨(.none), none, (.fields #[(.int 5 0), (.int 0 0), (.ref 20), (.int 11 0), (.int 0 0), (.ref 27), (.int 50 0), (.int 0 0), (.ref 34), (.int 60 0), (.int 0 0), (.ref 52), (.int 63 0), (.int 0 0), (.ref 98), (.int 69 0), (.int 0 0), (.ref 105), (.int 71 0), (.int 0 0), (.ref 112), (.int 74 0), (.int 0 0), (.ref 119), (.int 91 0), (.int 0 0), (.ref 124), (.int 93 0), (.int 0 0), (.ref 131)]), #[]⟩
noncomputable def o126v0 (P : Params) : Obj := ⟨(.type "tuple"), none, (.seq #[] 0), #[]⟩
noncomputable def o127v0 (P : Params) : Obj := ⟨(.none), none, (.fields #[]), #[]⟩
noncomputable def o128v0 (P : Params) : Obj := ⟨(.type "tuple"), none, (.seq #[(.str ⟨#[102, 105, 103, 117, 114, 101, 115]⟩ 2305), (.str ⟨#[109]⟩ 2306), (.str ⟨#[110, 117, 109, 98, 101, 114]⟩ 2307), (.str ⟨#[114, 101, 115, 116]⟩ 2308), (.str ⟨#[116, 97, 103, 115]⟩ 2309), (.str ⟨#[112, 108, 97, 99, 101]⟩ 2310), (.str ⟨#[115, 116, 101, 112]⟩ 2311), (.str ⟨#[99, 104, 97, 110, 103, 101]⟩ 2312)] 0), #[]⟩
noncomputable def o129v0 (P : Params) : Obj := ⟨(.type "tuple"), none, (.seq #[] 0), #[]⟩
noncomputable def o130v0 (P : Params) : Obj := ⟨(.none), none, .func (fd st18 0 (.none) (.none) 0), #[]⟩
noncomputable def o131v0 (P : Params) : Obj := ⟨(.type "code"), none, (.fields #[(.str ⟨#[95, 108, 97, 119, 95, 109, 101, 110, 100, 101, 100]⟩ 2302), (.str ⟨#[95, 108, 97, 119, 95, 109, 101, 110, 100, 101, 100]⟩ 2303), (.str ⟨#[47, 99, 108, 97, 105, 109, 47, 99, 117, 116, 46, 112, 121]⟩ 2304), (.int 93 0), (.int 2 0), (.int 0 0), (.int 0 0), (.int 3 0), (.ref 126), (.bool true), (.int 181 0), (.ref 127), (.none), (.ref 128), (.ref 129), (.ref 130), (.int 2313 0), (.int 93 0), (.str ⟨#[47, 99, 108, 97, 105, 109, 47, 99, 117, 116, 46, 112, 121]⟩ 2314)]), #[]⟩
noncomputable def o132v0 (P : Params) : Obj := ⟨(.type "function"), none, .func (fd st18 3 (.str ⟨#[108, 97, 119, 95, 116, 97, 48, 48, 53, 49, 95, 48, 49]⟩ 2263) (.ref 131) 0), #[]⟩
noncomputable def T19 (P : Params) : BT := (.node (boot_o_0 P) (.node (boot_o_1 P) (.node (o3v19 P) (.node (boot_o_7 P) (.node (o15v0 P) (.node (o31v0 P) (.node (o63v0 P) (.node (o127v0 P) .nil .nil) .nil) (.node (o95v0 P) .nil .nil)) (.node (o47v0 P) (.node (o79v0 P) .nil .nil) (.node (o111v0 P) .nil .nil))) (.node (o23v0 P) (.node (o39v0 P) (.node (o71v0 P) .nil .nil) (.node (o103v0 P) .nil .nil)) (.node (o55v0 P) (.node (o87v0 P) .nil .nil) (.node (o119v0 P) .nil .nil)))) (.node (o11v0 P) (.node (o19v0 P) (.node (o35v0 P) (.node (o67v0 P) (.node (o131v0 P) .nil .nil) .nil) (.node (o99v0 P) .nil .nil)) (.node (o51v0 P) (.node (o83v0 P) .nil .nil) (.node (o115v0 P) .nil .nil))) (.node (o27v0 P) (.node (o43v0 P) (.node (o75v0 P) .nil .nil) (.node (o107v0 P) .nil .nil)) (.node (o59v0 P) (.node (o91v0 P) .nil .nil) (.node (o123v0 P) .nil .nil))))) (.node (boot_o_5 P) (.node (boot_o_9 P) (.node (o17v0 P) (.node (o33v0 P) (.node (o65v0 P) (.node (o129v0 P) .nil .nil) .nil) (.node (o97v0 P) .nil .nil)) (.node (o49v0 P) (.node (o81v0 P) .nil .nil) (.node (o113v0 P) .nil .nil))) (.node (o25v0 P) (.node (o41v0 P) (.node (o73v0 P) .nil .nil) (.node (o105v0 P) .nil .nil)) (.node (o57v0 P) (.node (o89v0 P) .nil .nil) (.node (o121v0 P) .nil .nil)))) (.node (o13v0 P) (.node (o21v0 P) (.node (o37v0 P) (.node (o69v0 P) .nil .nil) (.node (o101v0 P) .nil .nil)) (.node (o53v0 P) (.node (o85v0 P) .nil .nil) (.node (o117v0 P) .nil .nil))) (.node (o29v0 P) (.node (o45v0 P) (.node (o77v0 P) .nil .nil) (.node (o109v0 P) .nil .nil)) (.node (o61v0 P) (.node (o93v0 P) .nil .nil) (.node (o125v0 P) .nil .nil)))))) (.node (boot_o_2 P) (.node (boot_o_4 P) (.node (boot_o_8 P) (.node (o16v0 P) (.node (o32v0 P) (.node (o64v0 P) (.node (o128v0 P) .nil .nil) .nil) (.node (o96v0 P) .nil .nil)) (.node (o48v0 P) (.node (o80v0 P) .nil .nil) (.node (o112v0 P) .nil .nil))) (.node (o24v0 P) (.node (o40v0 P) (.node (o72v0 P) .nil .nil) (.node (o104v0 P) .nil .nil)) (.node (o56v0 P) (.node (o88v0 P) .nil .nil) (.node (o120v0 P) .nil .nil)))) (.node (o12v10 P) (.node (o20v0 P) (.node (o36v0 P) (.node (o68v0 P) (.node (o132v0 P) .nil .nil) .nil) (.node (o100v0 P) .nil .nil)) (.node (o52v0 P) (.node (o84v0 P) .nil .nil) (.node (o116v0 P) .nil .nil))) (.node (o28v0 P) (.node (o44v0 P) (.node (o76v0 P) .nil .nil) (.node (o108v0 P) .nil .nil)) (.node (o60v0 P) (.node (o92v0 P) .nil .nil) (.node (o124v0 P) .nil .nil))))) (.node (boot_o_6 P) (.node (boot_o_10 P) (.node (o18v0 P) (.node (o34v0 P) (.node (o66v0 P) (.node (o130v0 P) .nil .nil) .nil) (.node (o98v0 P) .nil .nil)) (.node (o50v0 P) (.node (o82v0 P) .nil .nil) (.node (o114v0 P) .nil .nil))) (.node (o26v0 P) (.node (o42v0 P) (.node (o74v0 P) .nil .nil) (.node (o106v0 P) .nil .nil)) (.node (o58v0 P) (.node (o90v0 P) .nil .nil) (.node (o122v0 P) .nil .nil)))) (.node (o14v0 P) (.node (o22v0 P) (.node (o38v0 P) (.node (o70v0 P) .nil .nil) (.node (o102v0 P) .nil .nil)) (.node (o54v0 P) (.node (o86v0 P) .nil .nil) (.node (o118v0 P) .nil .nil))) (.node (o30v0 P) (.node (o46v0 P) (.node (o78v0 P) .nil .nil) (.node (o110v0 P) .nil .nil)) (.node (o62v0 P) (.node (o94v0 P) .nil .nil) (.node (o126v0 P) .nil .nil)))))))
theorem pt18 (w : World) (os : OsState) : segRunT treeTable pp w 11 (some (.ref 6)) 1 37 ⟨T18 w.params, 126, {}, #[], {}, 2302, os⟩ (piecesOf [st18] env (.body bd env) ⟨91, 0, 92, 83⟩ [topFrame ⟨0, 0, 0, 0⟩]) = some (.next, ⟨T19 w.params, 133, {}, #[], {}, 2316, os⟩, .body bd env, ⟨93, 0, 102, 19⟩) := by
  show segRunT treeTable pp _ 11 (some (.ref 6)) 1 37 _ ⟨(execs [st18] env).wrap doneF deadEnd id id, .body bd env, ⟨91, 0, 92, 83⟩, [topFrame ⟨0, 0, 0, 0⟩]⟩ = _
  rw [PySem.W.Fast.te10110043849684766642, PySem.W.Fast.te14364793385576792824, PySem.W.Fast.te12563942051412417395]
  kernel_rfl!
theorem pc18 (w : World) (os : OsState) : segRun treeTable pp w 11 (some (.ref 6)) 1 37 (SharedT.abs ⟨T18 w.params, 126, {}, #[], {}, 2302, os⟩) (piecesOf [st18] env (.body bd env) ⟨91, 0, 92, 83⟩ [topFrame ⟨0, 0, 0, 0⟩]) = some (.next, SharedT.abs ⟨T19 w.params, 133, {}, #[], {}, 2316, os⟩, .body bd env, ⟨93, 0, 102, 19⟩) := segRun_of (pt18 w os)
noncomputable def o3v20 (P : Params) : Obj := ⟨(.type "dict"), none, (.dict #[⟨PyData.keyHash P ⟨#[95, 95, 110, 97, 109, 101, 95, 95]⟩, (.str ⟨#[95, 95, 110, 97, 109, 101, 95, 95]⟩ 165), (.str ⟨#[108, 97, 119, 95, 116, 97, 48, 48, 53, 49, 95, 48, 49]⟩ 2263)⟩, ⟨PyData.keyHash P ⟨#[95, 95, 100, 111, 99, 95, 95]⟩, (.str ⟨#[95, 95, 100, 111, 99, 95, 95]⟩ 166), (.none)⟩, ⟨PyData.keyHash P ⟨#[95, 95, 112, 97, 99, 107, 97, 103, 101, 95, 95]⟩, (.str ⟨#[95, 95, 112, 97, 99, 107, 97, 103, 101, 95, 95]⟩ 167), (.none)⟩, ⟨PyData.keyHash P ⟨#[95, 95, 108, 111, 97, 100, 101, 114, 95, 95]⟩, (.str ⟨#[95, 95, 108, 111, 97, 100, 101, 114, 95, 95]⟩ 168), (.builtin "__main__.__loader__#opaque")⟩, ⟨PyData.keyHash P ⟨#[95, 95, 115, 112, 101, 99, 95, 95]⟩, (.str ⟨#[95, 95, 115, 112, 101, 99, 95, 95]⟩ 169), (.none)⟩, ⟨PyData.keyHash P ⟨#[95, 95, 97, 110, 110, 111, 116, 97, 116, 105, 111, 110, 115, 95, 95]⟩, (.str ⟨#[95, 95, 97, 110, 110, 111, 116, 97, 116, 105, 111, 110, 115, 95, 95]⟩ 170), (.ref 6)⟩, ⟨PyData.keyHash P ⟨#[95, 95, 98, 117, 105, 108, 116, 105, 110, 115, 95, 95]⟩, (.str ⟨#[95, 95, 98, 117, 105, 108, 116, 105, 110, 115, 95, 95]⟩ 171), (.ref 4)⟩, ⟨PyData.keyHash P ⟨#[95, 95, 102, 105, 108, 101, 95, 95]⟩, (.str ⟨#[95, 95, 102, 105, 108, 101, 95, 95]⟩ 173), (.str ⟨#[47, 99, 108, 97, 105, 109, 47, 99, 117, 116, 46, 112, 121]⟩ 172)⟩, ⟨PyData.keyHash P ⟨#[95, 95, 99, 97, 99, 104, 101, 100, 95, 95]⟩, (.str ⟨#[95, 95, 99, 97, 99, 104, 101, 100, 95, 95]⟩ 174), (.none)⟩, ⟨PyData.keyHash P ⟨#[95, 77, 65, 88, 95, 83, 84, 82, 73, 78, 71, 95, 83, 73, 90, 69]⟩, (.str ⟨#[95, 77, 65, 88, 95, 83, 84, 82, 73, 78, 71, 95, 83, 73, 90, 69]⟩ 190), (.int 40 189)⟩, ⟨PyData.keyHash P ⟨#[95, 77, 79, 86, 69, 95, 67, 79, 83, 84]⟩, (.str ⟨#[95, 77, 79, 86, 69, 95, 67, 79, 83, 84]⟩ 192), (.int 2 191)⟩, ⟨PyData.keyHash P ⟨#[95, 67, 65, 83, 69, 95, 67, 79, 83, 84]⟩, (.str ⟨#[95, 67, 65, 83, 69, 95, 67, 79, 83, 84]⟩ 194), (.int 1 193)⟩, ⟨PyData.keyHash P ⟨#[95, 115, 117, 98, 115, 116, 105, 116, 117, 116, 105, 111, 110, 95, 99, 111, 115, 116]⟩, (.str ⟨#[95, 115, 117, 98, 115, 116, 105, 116, 117, 116, 105, 111, 110, 95, 99, 111, 115, 116]⟩ 202), (.ref 21)⟩, ⟨PyData.keyHash P ⟨#[95, 108, 101, 118, 101, 110, 115, 104, 116, 101, 105, 110, 95, 100, 105, 115, 116, 97, 110, 99, 101]⟩, (.str ⟨#[95, 108, 101, 118, 101, 110, 115, 104, 116, 101, 105, 110, 95, 100, 105, 115, 116, 97, 110, 99, 101]⟩ 222), (.ref 28)⟩, ⟨PyData.keyHash P ⟨#[73, 110, 116, 50, 65, 80]⟩, (.str ⟨#[73, 110, 116, 50, 65, 80]⟩ 234), (.ref 35)⟩, ⟨PyData.keyHash P ⟨#[98, 49, 95, 115, 101, 116]⟩, (.str ⟨#[98, 49, 95, 115, 101, 116]⟩ 296), (.ref 43)⟩, ⟨PyData.keyHash P ⟨#[105, 110, 95, 116, 97, 98, 108, 101, 95, 98, 49]⟩, (.str ⟨#[105, 110, 95, 116, 97, 98, 108, 101, 95, 98, 49]⟩ 303), (.ref 53)⟩, ⟨PyData.keyHash P ⟨#[98, 51, 95, 101, 120, 99, 101, 112, 116, 105, 111, 110, 115]⟩, (.str ⟨#[98, 51, 95, 101, 120, 99, 101, 112, 116, 105, 111, 110, 115]⟩ 2254), (.ref 54)⟩, ⟨PyData.keyHash P ⟨#[109, 97, 112, 95, 116, 97, 98, 108, 101, 95, 98, 51]⟩, (.str ⟨#[109, 97, 112, 95, 116, 97, 98, 108, 101, 95, 98, 51]⟩ 2262), (.ref 99)⟩, ⟨PyData.keyHash P ⟨#[95, 108, 97, 119, 95, 102, 105, 103, 117, 114, 101, 115]⟩, (.str ⟨#[95, 108, 97, 119, 95, 102, 105, 103, 117, 114, 101, 115]⟩ 2271), (.ref 106)⟩, ⟨PyData.keyHash P ⟨#[95, 108, 97, 119, 95, 99, 104, 97, 110, 103, 101, 100]⟩, (.str ⟨#[95, 108, 97, 119, 95, 99, 104, 97, 110, 103, 101, 100]⟩ 2280), (.ref 113)⟩, ⟨PyData.keyHash P ⟨#[95, 108, 97, 119, 95, 116, 121, 112, 101, 100]⟩, (.str ⟨#[95, 108, 97, 119, 95, 116, 121, 112, 101, 100]⟩ 2295), (.ref 120)⟩, ⟨PyData.keyHash P ⟨#[95, 108, 97, 119, 95, 112, 114, 101, 112, 97, 114, 101, 100]⟩, (.str ⟨#[95, 108, 97, 119, 95, 112, 114, 101, 112, 97, 114, 101, 100]⟩ 2301), (.ref 125)⟩, ⟨PyData.keyHash P ⟨#[95, 108, 97, 119, 95, 109, 101, 110, 100, 101, 100]⟩, (.str ⟨#[95, 108, 97, 119, 95, 109, 101, 110, 100, 101, 100]⟩ 2315), (.ref 132)⟩, ⟨PyData.keyHash P ⟨#[108, 97, 119]⟩, (.str ⟨#[108, 97, 119]⟩ 2321), (.ref 137)⟩] 25), #[]⟩
noncomputable def o12v11 (P : Params) : Obj := ⟨(.none), none, (.fields #[(.int 5 0), (.int 0 0), (.ref 20), (.int 11 0), (.int 0 0), (.ref 27), (.int 50 0), (.int 0 0), (.ref 34), (.int 60 0), (.int 0 0), (.ref 52), (.int 63 0), (.int 0 0), (.ref 98), (.int 69 0), (.int 0 0), (.ref 105), (.int 71 0), (.int 0 0), (.ref 112), (.int 74 0), (.int 0 0), (.ref 119), (.int 91 0), (.int 0 0), (.ref 124), (.int 93 0), (.int 0 0), (.ref 131), (.int 103 0), (.int 0 0), (.ref 136)]), #[]⟩
noncomputable def o133v0 (P : Params) : Obj := ⟨(.type "tuple"), none, (.seq #[] 0), #[]⟩
noncomputable def o134v0 (P : Params) : Obj := ⟨(.none), none, (.fields #[]), #[]⟩
noncomputable def o135v0 (P : Params) : Obj := ⟨(.none), none, .func (fd st19 0 (.none) (.none) 0), #[]⟩
noncomputable def o136v0 (P : Params) : Obj := ⟨(.type "code"), none, (.fields #[(.str ⟨#[108, 97, 119]⟩ 2316), (.str ⟨#[108, 97, 119]⟩ 2317), (.str ⟨#[47, 99, 108, 97, 105, 109, 47, 99, 117, 116, 46, 112, 121]⟩ 2318), (.int 103 0), (.int 1 0), (.int 0 0), (.int 0 0), (.int 3 0), (.ref 133), (.bool true), (.int 181 0), (.ref 134), (.none), (.none), (.none), (.ref 135), (.int 2319 0), (.int 103 0), (.str ⟨#[47, 99, 108, 97, 105, 109, 47, 99, 117, 116, 46, 112, 121]⟩ 2320)]), #[]⟩
noncomputable def o137v0 (P : Params) : Obj := ⟨(.type "function"), none, .func (fd st19 3 (.str ⟨#[108, 97, 119, 95, 116, 97, 48, 48, 53, 49, 95, 48, 49]⟩ 2263) (.ref 136) 0), #[]⟩
noncomputable def T20 (P : Params) : BT := (.node (boot_o_0 P) (.node (boot_o_1 P) (.node (o3v20 P) (.node (boot_o_7 P) (.node (o15v0 P) (.node (o31v0 P) (.node (o63v0 P) (.node (o127v0 P) .nil .nil) .nil) (.node (o95v0 P) .nil .nil)) (.node (o47v0 P) (.node (o79v0 P) .nil .nil) (.node (o111v0 P) .nil .nil))) (.node (o23v0 P) (.node (o39v0 P) (.node (o71v0 P) (.node (o135v0 P) .nil .nil) .nil) (.node (o103v0 P) .nil .nil)) (.node (o55v0 P) (.node (o87v0 P) .nil .nil) (.node (o119v0 P) .nil .nil)))) (.node (o11v0 P) (.node (o19v0 P) (.node (o35v0 P) (.node (o67v0 P) (.node (o131v0 P) .nil .nil) .nil) (.node (o99v0 P) .nil .nil)) (.node (o51v0 P) (.node (o83v0 P) .nil .nil) (.node (o115v0 P) .nil .nil))) (.node (o27v0 P) (.node (o43v0 P) (.node (o75v0 P) .nil .nil) (.node (o107v0 P) .nil .nil)) (.node (o59v0 P) (.node (o91v0 P) .nil .nil) (.node (o123v0 P) .nil .nil))))) (.node (boot_o_5 P) (.node (boot_o_9 P) (.node (o17v0 P) (.node (o33v0 P) (.node (o65v0 P) (.node (o129v0 P) .nil .nil) .nil) (.node (o97v0 P) .nil .nil)) (.node (o49v0 P) (.node (o81v0 P) .nil .nil) (.node (o113v0 P) .nil .nil))) (.node (o25v0 P) (.node (o41v0 P) (.node (o73v0 P) (.node (o137v0 P) .nil .nil) .nil) (.node (o105v0 P) .nil .nil)) (.node (o57v0 P) (.node (o89v0 P) .nil .nil) (.node (o121v0 P) .nil .nil)))) (.node (o13v0 P) (.node (o21v0 P) (.node (o37v0 P) (.node (o69v0 P) (.node (o133v0 P) .nil .nil) .nil) (.node (o101v0 P) .nil .nil)) (.node (o53v0 P) (.node (o85v0 P) .nil .nil) (.node (o117v0 P) .nil .nil))) (.node (o29v0 P) (.node (o45v0 P) (.node (o77v0 P) .nil .nil) (.node (o109v0 P) .nil .nil)) (.node (o61v0 P) (.node (o93v0 P) .nil .nil) (.node (o125v0 P) .nil .nil)))))) (.node (boot_o_2 P) (.node (boot_o_4 P) (.node (boot_o_8 P) (.node (o16v0 P) (.node (o32v0 P) (.node (o64v0 P) (.node (o128v0 P) .nil .nil) .nil) (.node (o96v0 P) .nil .nil)) (.node (o48v0 P) (.node (o80v0 P) .nil .nil) (.node (o112v0 P) .nil .nil))) (.node (o24v0 P) (.node (o40v0 P) (.node (o72v0 P) (.node (o136v0 P) .nil .nil) .nil) (.node (o104v0 P) .nil .nil)) (.node (o56v0 P) (.node (o88v0 P) .nil .nil) (.node (o120v0 P) .nil .nil)))) (.node (o12v11 P) (.node (o20v0 P) (.node (o36v0 P) (.node (o68v0 P) (.node (o132v0 P) .nil .nil) .nil) (.node (o100v0 P) .nil .nil)) (.node (o52v0 P) (.node (o84v0 P) .nil .nil) (.node (o116v0 P) .nil .nil))) (.node (o28v0 P) (.node (o44v0 P) (.node (o76v0 P) .nil .nil) (.node (o108v0 P) .nil .nil)) (.node (o60v0 P) (.node (o92v0 P) .nil .nil) (.node (o124v0 P) .nil .nil))))) (.node (boot_o_6 P) (.node (boot_o_10 P) (.node (o18v0 P) (.node (o34v0 P) (.node (o66v0 P) (.node (o130v0 P) .nil .nil) .nil) (.node (o98v0 P) .nil .nil)) (.node (o50v0 P) (.node (o82v0 P) .nil .nil) (.node (o114v0 P) .nil .nil))) (.node (o26v0 P) (.node (o42v0 P) (.node (o74v0 P) .nil .nil) (.node (o106v0 P) .nil .nil)) (.node (o58v0 P) (.node (o90v0 P) .nil .nil) (.node (o122v0 P) .nil .nil)))) (.node (o14v0 P) (.node (o22v0 P) (.node (o38v0 P) (.node (o70v0 P) (.node (o134v0 P) .nil .nil) .nil) (.node (o102v0 P) .nil .nil)) (.node (o54v0 P) (.node (o86v0 P) .nil .nil) (.node (o118v0 P) .nil .nil))) (.node (o30v0 P) (.node (o46v0 P) (.node (o78v0 P) .nil .nil) (.node (o110v0 P) .nil .nil)) (.node (o62v0 P) (.node (o94v0 P) .nil .nil) (.node (o126v0 P) .nil .nil)))))))
theorem pt19 (w : World) (os : OsState) : segRunT treeTable pp w 11 (some (.ref 6)) 1 27 ⟨T19 w.params, 133, {}, #[], {}, 2316, os⟩ (piecesOf [st19] env (.body bd env) ⟨93, 0, 102, 19⟩ [topFrame ⟨0, 0, 0, 0⟩]) = some (.next, ⟨T20 w.params, 138, {}, #[], {}, 2322, os⟩, .body bd env, ⟨103, 0, 139, 42⟩) := by
  show segRunT treeTable pp _ 11 (some (.ref 6)) 1 27 _ ⟨(execs [st19] env).wrap doneF deadEnd id id, .body bd env, ⟨93, 0, 102, 19⟩, [topFrame ⟨0, 0, 0, 0⟩]⟩ = _
  rw [PySem.W.Fast.te10110043849684766642, PySem.W.Fast.te14364793385576792824, PySem.W.Fast.te12563942051412417395]
  kernel_rfl!
theorem pc19 (w : World) (os : OsState) : segRun treeTable pp w 11 (some (.ref 6)) 1 27 (SharedT.abs ⟨T19 w.params, 133, {}, #[], {}, 2316, os⟩) (piecesOf [st19] env (.body bd env) ⟨93, 0, 102, 19⟩ [topFrame ⟨0, 0, 0, 0⟩]) = some (.next, SharedT.abs ⟨T20 w.params, 138, {}, #[], {}, 2322, os⟩, .body bd env, ⟨103, 0, 139, 42⟩) := segRun_of (pt19 w os)
noncomputable def H1 (P : Params) : Heap := Heap.mk (Array.mk [boot_o_0 P, boot_o_1 P, boot_o_2 P, o3v20 P, boot_o_4 P, boot_o_5 P, boot_o_6 P, boot_o_7 P, boot_o_8 P, boot_o_9 P, boot_o_10 P, o11v0 P, o12v11 P, o13v0 P, o14v0 P, o15v0 P, o16v0 P, o17v0 P, o18v0 P, o19v0 P, o20v0 P, o21v0 P, o22v0 P, o23v0 P, o24v0 P, o25v0 P, o26v0 P, o27v0 P, o28v0 P, o29v0 P, o30v0 P, o31v0 P, o32v0 P, o33v0 P, o34v0 P, o35v0 P, o36v0 P, o37v0 P, o38v0 P, o39v0 P, o40v0 P, o41v0 P, o42v0 P, o43v0 P, o44v0 P, o45v0 P, o46v0 P, o47v0 P, o48v0 P, o49v0 P, o50v0 P, o51v0 P, o52v0 P, o53v0 P, o54v0 P, o55v0 P, o56v0 P, o57v0 P, o58v0 P, o59v0 P, o60v0 P, o61v0 P, o62v0 P, o63v0 P, o64v0 P, o65v0 P, o66v0 P, o67v0 P, o68v0 P, o69v0 P, o70v0 P, o71v0 P, o72v0 P, o73v0 P, o74v0 P, o75v0 P, o76v0 P, o77v0 P, o78v0 P, o79v0 P, o80v0 P, o81v0 P, o82v0 P, o83v0 P, o84v0 P, o85v0 P, o86v0 P, o87v0 P, o88v0 P, o89v0 P, o90v0 P, o91v0 P, o92v0 P, o93v0 P, o94v0 P, o95v0 P, o96v0 P, o97v0 P, o98v0 P, o99v0 P, o100v0 P, o101v0 P, o102v0 P, o103v0 P, o104v0 P, o105v0 P, o106v0 P, o107v0 P, o108v0 P, o109v0 P, o110v0 P, o111v0 P, o112v0 P, o113v0 P, o114v0 P, o115v0 P, o116v0 P, o117v0 P, o118v0 P, o119v0 P, o120v0 P, o121v0 P, o122v0 P, o123v0 P, o124v0 P, o125v0 P, o126v0 P, o127v0 P, o128v0 P, o129v0 P, o130v0 P, o131v0 P, o132v0 P, o133v0 P, o134v0 P, o135v0 P, o136v0 P, o137v0 P]) {}
theorem fin_run (w : World) (os : OsState) : topRun treeTable pp w 11 (some (.ref 6)) 2 (SharedT.abs ⟨T20 w.params, 138, {}, #[], {}, 2322, os⟩) ⟨doneF .next, .body bd env, ⟨103, 0, 139, 42⟩, [topFrame ⟨0, 0, 0, 0⟩]⟩ = some ⟨H1 w.params, #[], {}, 2322, os⟩ := by
  rw [PySem.W.Fast.te14082659384304107361, PySem.W.Fast.te14364793385576792824]
  kernel_rfl!
theorem rr20 (w : World) (os : OsState) : topRun treeTable pp w 11 (some (.ref 6)) 2 (SharedT.abs ⟨T20 w.params, 138, {}, #[], {}, 2322, os⟩) (restOf [] env (.body bd env) ⟨103, 0, 139, 42⟩ [topFrame ⟨0, 0, 0, 0⟩]) = some ⟨H1 w.params, #[], {}, 2322, os⟩ := piece_nil (fin_run w os)
theorem rr19 (w : World) (os : OsState) : topRun treeTable pp w 11 (some (.ref 6)) 29 (SharedT.abs ⟨T19 w.params, 133, {}, #[], {}, 2316, os⟩) (restOf (st19 :: []) env (.body bd env) ⟨93, 0, 102, 19⟩ [topFrame ⟨0, 0, 0, 0⟩]) = some ⟨H1 w.params, #[], {}, 2322, os⟩ := by
  have h := pc19 w os
  have k := rr20 w os
  have r := piece_app h k
  exact r
theorem rr18 (w : World) (os : OsState) : topRun treeTable pp w 11 (some (.ref 6)) 66 (SharedT.abs ⟨T18 w.params, 126, {}, #[], {}, 2302, os⟩) (restOf (st18 :: [st19]) env (.body bd env) ⟨91, 0, 92, 83⟩ [topFrame ⟨0, 0, 0, 0⟩]) = some ⟨H1 w.params, #[], {}, 2322, os⟩ := by
  have h := pc18 w os
  have k := rr19 w os
  have r := piece_app h k
  exact r
theorem rr17 (w : World) (os : OsState) : topRun treeTable pp w 11 (some (.ref 6)) 93 (SharedT.abs ⟨T17 w.params, 121, {}, #[], {}, 2296, os⟩) (restOf (st17 :: [st18, st19]) env (.body bd env) ⟨74, 0, 90, 16⟩ [topFrame ⟨0, 0, 0, 0⟩]) = some ⟨H1 w.params, #[], {}, 2322, os⟩ := by
  have h := pc17 w os
  have k := rr18 w os
  have r := piece_app h k
  exact r
theorem rr16 (w : World) (os : OsState) : topRun treeTable pp w 11 (some (.ref 6)) 131 (SharedT.abs ⟨T16 w.params, 114, {}, #[], {}, 2281, os⟩) (restOf (st16 :: [st17, st18, st19]) env (.body bd env) ⟨71, 0, 73, 86⟩ [topFrame ⟨0, 0, 0, 0⟩]) = some ⟨H1 w.params, #[], {}, 2322, os⟩ := by
  have h := pc16 w os
  have k := rr17 w os
  have r := piece_app h k
  exact r
theorem rr15 (w : World) (os : OsState) : topRun treeTable pp w 11 (some (.ref 6)) 163 (SharedT.abs ⟨T15 w.params, 107, {}, #[], {}, 2272, os⟩) (restOf (st15 :: [st16, st17, st18, st19]) env (.body bd env) ⟨69, 0, 70, 58⟩ [topFrame ⟨0, 0, 0, 0⟩]) = some ⟨H1 w.params, #[], {}, 2322, os⟩ := by
  have h := pc15 w os
  have k := rr16 w os
  have r := piece_app h k
  exact r
theorem rr14 (w : World) (os : OsState) : topRun treeTable pp w 11 (some (.ref 6)) 193 (SharedT.abs ⟨T14 w.params, 100, {}, #[], {}, 2265, os⟩) (restOf (st14 :: [st15, st16, st17, st18, st19]) env (.body bd env) ⟨68, 0, 68, 8⟩ [topFrame ⟨0, 0, 0, 0⟩]) = some ⟨H1 w.params, #[], {}, 2322, os⟩ := by
  have h := pc14 w os
  have k := rr15 w os
  have r := piece_app h k
  exact r
theorem rr13 (w : World) (os : OsState) : topRun treeTable pp w 11 (some (.ref 6)) 203 (SharedT.abs ⟨T13 w.params, 100, {}, #[], {}, 2263, os⟩) (restOf (st13 :: [st14, st15, st16, st17, st18, st19]) env (.body bd env) ⟨63, 0, 67, 23⟩ [topFrame ⟨0, 0, 0, 0⟩]) = some ⟨H1 w.params, #[], {}, 2322, os⟩ := by
  have h := pc13 w os
  have k := rr14 w os
  have r := piece_app h k
  exact r
theorem rr12 (w : World) (os : OsState) : topRun treeTable pp w 11 (some (.ref 6)) 234 (SharedT.abs ⟨T12 w.params, 93, {}, #[], {}, 2255, os⟩) (restOf (st12 :: [st13, st14, st15, st16, st17, st18, st19]) env (.body bd env) ⟨62, 0, 62, 13⟩ [topFrame ⟨0, 0, 0, 0⟩]) = some ⟨H1 w.params, #[], {}, 2322, os⟩ := by
  have h := pc12 w os
  have k := rr13 w os
  have r := piece_app h k
  exact r
theorem rr11 (w : World) (os : OsState) : topRun treeTable pp w 11 (some (.ref 6)) 13296 (SharedT.abs ⟨T11 w.params, 54, {}, #[], {}, 304, os⟩) (restOf (st11 :: [st12, st13, st14, st15, st16, st17, st18, st19]) env (.body bd env) ⟨60, 0, 61, 30⟩ [topFrame ⟨0, 0, 0, 0⟩]) = some ⟨H1 w.params, #[], {}, 2322, os⟩ := by
  have h := pc11 w os
  have k := rr12 w os
  have r := piece_app h k
  exact r
theorem rr10 (w : World) (os : OsState) : topRun treeTable pp w 11 (some (.ref 6)) 13326 (SharedT.abs ⟨T10 w.params, 47, {}, #[], {}, 297, os⟩) (restOf (st10 :: [st11, st12, st13, st14, st15, st16, st17, st18, st19]) env (.body bd env) ⟨59, 0, 59, 6⟩ [topFrame ⟨0, 0, 0, 0⟩]) = some ⟨H1 w.params, #[], {}, 2322, os⟩ := by
  have h := pc10 w os
  have k := rr11 w os
  have r := piece_app h k
  exact r
theorem rr9 (w : World) (os : OsState) : topRun treeTable pp w 11 (some (.ref 6)) 14325 (SharedT.abs ⟨T9 w.params, 36, {}, #[], {}, 237, os⟩) (restOf (st9 :: [st10, st11, st12, st13, st14, st15, st16, st17, st18, st19]) env (.body bd env) ⟨58, 0, 58, 8⟩ [topFrame ⟨0, 0, 0, 0⟩]) = some ⟨H1 w.params, #[], {}, 2322, os⟩ := by
  have h := pc9 w os
  have k := rr10 w os
  have r := piece_app h k
  exact r
theorem rr8 (w : World) (os : OsState) : topRun treeTable pp w 11 (some (.ref 6)) 14335 (SharedT.abs ⟨T8 w.params, 36, {}, #[], {}, 235, os⟩) (restOf (st8 :: [st9, st10, st11, st12, st13, st14, st15, st16, st17, st18, st19]) env (.body bd env) ⟨50, 0, 57, 14⟩ [topFrame ⟨0, 0, 0, 0⟩]) = some ⟨H1 w.params, #[], {}, 2322, os⟩ := by
  have h := pc8 w os
  have k := rr9 w os
  have r := piece_app h k
  exact r
theorem rr7 (w : World) (os : OsState) : topRun treeTable pp w 11 (some (.ref 6)) 14368 (SharedT.abs ⟨T7 w.params, 29, {}, #[], {}, 225, os⟩) (restOf (st7 :: [st8, st9, st10, st11, st12, st13, st14, st15, st16, st17, st18, st19]) env (.body bd env) ⟨49, 0, 49, 8⟩ [topFrame ⟨0, 0, 0, 0⟩]) = some ⟨H1 w.params, #[], {}, 2322, os⟩ := by
  have h := pc7 w os
  have k := rr8 w os
  have r := piece_app h k
  exact r
theorem rr6 (w : World) (os : OsState) : topRun treeTable pp w 11 (some (.ref 6)) 14378 (SharedT.abs ⟨T6 w.params, 29, {}, #[], {}, 223, os⟩) (restOf (st6 :: [st7, st8, st9, st10, st11, st12, st13, st14, st15, st16, st17, st18, st19]) env (.body bd env) ⟨11, 0, 48, 17⟩ [topFrame ⟨0, 0, 0, 0⟩]) = some ⟨H1 w.params, #[], {}, 2322, os⟩ := by
  have h := pc6 w os
  have k := rr7 w os
  have r := piece_app h k
  exact r
theorem rr5 (w : World) (os : OsState) : topRun treeTable pp w 11 (some (.ref 6)) 14421 (SharedT.abs ⟨T5 w.params, 22, {}, #[], {}, 203, os⟩) (restOf (st5 :: [st6, st7, st8, st9, st10, st11, st12, st13, st14, st15, st16, st17, st18, st19]) env (.body bd env) ⟨5, 0, 10, 21⟩ [topFrame ⟨0, 0, 0, 0⟩]) = some ⟨H1 w.params, #[], {}, 2322, os⟩ := by
  have h := pc5 w os
  have k := rr6 w os
  have r := piece_app h k
  exact r
theorem rr4 (w : World) (os : OsState) : topRun treeTable pp w 11 (some (.ref 6)) 14452 (SharedT.abs ⟨T4 w.params, 15, {}, #[], {}, 195, os⟩) (restOf (st4 :: [st5, st6, st7, st8, st9, st10, st11, st12, st13, st14, st15, st16, st17, st18, st19]) env (.body bd env) ⟨4, 0, 4, 10⟩ [topFrame ⟨0, 0, 0, 0⟩]) = some ⟨H1 w.params, #[], {}, 2322, os⟩ := by
  have h := pc4 w os
  have k := rr5 w os
  have r := piece_app h k
  exact r
theorem rr3 (w : World) (os : OsState) : topRun treeTable pp w 11 (some (.ref 6)) 14462 (SharedT.abs ⟨T3 w.params, 15, {}, #[], {}, 193, os⟩) (restOf (st3 :: [st4, st5, st6, st7, st8, st9, st10, st11, st12, st13, st14, st15, st16, st17, st18, st19]) env (.body bd env) ⟨3, 0, 3, 10⟩ [topFrame ⟨0, 0, 0, 0⟩]) = some ⟨H1 w.params, #[], {}, 2322, os⟩ := by
  have h := pc3 w os
  have k := rr4 w os
  have r := piece_app h k
  exact r
theorem rr2 (w : World) (os : OsState) : topRun treeTable pp w 11 (some (.ref 6)) 14472 (SharedT.abs ⟨T2 w.params, 15, {}, #[], {}, 191, os⟩) (restOf (st2 :: [st3, st4, st5, st6, st7, st8, st9, st10, st11, st12, st13, st14, st15, st16, st17, st18, st19]) env (.body bd env) ⟨2, 0, 2, 16⟩ [topFrame ⟨0, 0, 0, 0⟩]) = some ⟨H1 w.params, #[], {}, 2322, os⟩ := by
  have h := pc2 w os
  have k := rr3 w os
  have r := piece_app h k
  exact r
theorem rr1 (w : World) (os : OsState) : topRun treeTable pp w 11 (some (.ref 6)) 14482 (SharedT.abs ⟨T1 w.params, 15, {}, #[], {}, 189, os⟩) (restOf (st1 :: [st2, st3, st4, st5, st6, st7, st8, st9, st10, st11, st12, st13, st14, st15, st16, st17, st18, st19]) env (.body bd env) ⟨1, 0, 1, 8⟩ [topFrame ⟨0, 0, 0, 0⟩]) = some ⟨H1 w.params, #[], {}, 2322, os⟩ := by
  have h := pc1 w os
  have k := rr2 w os
  have r := piece_app h k
  exact r
theorem rr0 (w : World) (os : OsState) : topRun treeTable pp w 11 (some (.ref 6)) 14492 (SharedT.abs ⟨T0 w.params, 15, {}, #[], {}, 187, os⟩) (restOf (st0 :: [st1, st2, st3, st4, st5, st6, st7, st8, st9, st10, st11, st12, st13, st14, st15, st16, st17, st18, st19]) env (.body bd env) ⟨0, 0, 0, 0⟩ [topFrame ⟨0, 0, 0, 0⟩]) = some ⟨H1 w.params, #[], {}, 2322, os⟩ := by
  have h := pc0 w os
  have k := rr1 w os
  have r := piece_app h k
  exact r
theorem whole_run (w : World) (os : OsState) : topRun treeTable pp w 11 (some (.ref 6)) 14505 ⟨boot_heap w.params, Array.mk [], boot_drawn, boot_toks, os⟩ (topStub pp) = some ⟨H1 w.params, #[], {}, 2322, os⟩ := by
  have k := rr0 w os
  rw [← bd_eq] at k
  have r1 := piece_block (block_run w os) k
  have r2 := go_top (pre_run w os) r1
  exact r2
noncomputable def vq : Program := { pp with main := { pp.main with body := [st19] } }
noncomputable def loose : List PySem.Str := [(PySem.Str.ofString "_MAX_STRING_SIZE"), (PySem.Str.ofString "_MOVE_COST"), (PySem.Str.ofString "_CASE_COST"), (PySem.Str.ofString "_substitution_cost"), (PySem.Str.ofString "_levenshtein_distance"), (PySem.Str.ofString "Int2AP"), (PySem.Str.ofString "b1_set"), (PySem.Str.ofString "in_table_b1"), (PySem.Str.ofString "b3_exceptions"), (PySem.Str.ofString "map_table_b3"), (PySem.Str.ofString "_law_figures"), (PySem.Str.ofString "_law_changed"), (PySem.Str.ofString "_law_typed"), (PySem.Str.ofString "_law_prepared"), (PySem.Str.ofString "_law_mended")]
noncomputable def KK (P : Params) : Frag := [(3, o3v20 P), (4, boot_o_4 P), (5, boot_o_5 P), (6, boot_o_6 P), (7, boot_o_7 P), (8, boot_o_8 P), (9, boot_o_9 P), (10, boot_o_10 P), (11, o11v0 P), (12, o12v11 P), (13, o13v0 P), (14, o14v0 P), (15, o15v0 P), (16, o16v0 P), (17, o17v0 P), (18, o18v0 P), (19, o19v0 P), (20, o20v0 P), (21, o21v0 P), (22, o22v0 P), (23, o23v0 P), (24, o24v0 P), (25, o25v0 P), (26, o26v0 P), (27, o27v0 P), (28, o28v0 P), (29, o29v0 P), (30, o30v0 P), (31, o31v0 P), (32, o32v0 P), (33, o33v0 P), (34, o34v0 P), (35, o35v0 P), (36, o36v0 P), (37, o37v0 P), (38, o38v0 P), (39, o39v0 P), (40, o40v0 P), (41, o41v0 P), (42, o42v0 P), (43, o43v0 P), (44, o44v0 P), (45, o45v0 P), (46, o46v0 P), (47, o47v0 P), (48, o48v0 P), (49, o49v0 P), (50, o50v0 P), (51, o51v0 P), (52, o52v0 P), (53, o53v0 P), (54, o54v0 P), (55, o55v0 P), (56, o56v0 P), (57, o57v0 P), (58, o58v0 P), (59, o59v0 P), (60, o60v0 P), (61, o61v0 P), (62, o62v0 P), (63, o63v0 P), (64, o64v0 P), (65, o65v0 P), (66, o66v0 P), (67, o67v0 P), (68, o68v0 P), (69, o69v0 P), (70, o70v0 P), (71, o71v0 P), (72, o72v0 P), (73, o73v0 P), (74, o74v0 P), (75, o75v0 P), (76, o76v0 P), (77, o77v0 P), (78, o78v0 P), (79, o79v0 P), (80, o80v0 P), (81, o81v0 P), (82, o82v0 P), (83, o83v0 P), (84, o84v0 P), (85, o85v0 P), (86, o86v0 P), (87, o87v0 P), (88, o88v0 P), (89, o89v0 P), (90, o90v0 P), (91, o91v0 P), (92, o92v0 P), (93, o93v0 P), (94, o94v0 P), (95, o95v0 P), (96, o96v0 P), (97, o97v0 P), (98, o98v0 P), (99, o99v0 P), (100, o100v0 P), (101, o101v0 P), (102, o102v0 P), (103, o103v0 P), (104, o104v0 P), (105, o105v0 P), (106, o106v0 P), (107, o107v0 P), (108, o108v0 P), (109, o109v0 P), (110, o110v0 P), (111, o111v0 P), (112, o112v0 P), (113, o113v0 P), (114, o114v0 P), (115, o115v0 P), (116, o116v0 P), (117, o117v0 P), (118, o118v0 P), (119, o119v0 P), (120, o120v0 P), (121, o121v0 P), (122, o122v0 P), (123, o123v0 P), (124, o124v0 P), (125, o125v0 P), (126, o126v0 P), (127, o127v0 P), (128, o128v0 P), (129, o129v0 P), (130, o130v0 P), (131, o131v0 P), (132, o132v0 P), (133, o133v0 P), (134, o134v0 P), (135, o135v0 P), (136, o136v0 P), (137, o137v0 P)]
noncomputable def KA : List Addr := [3, 4, 5, 6, 7, 8, 9, 10, 11, 12, 13, 14, 15, 16, 17, 18, 19, 20, 21, 22, 23, 24, 25, 26, 27, 28, 29, 30, 31, 32, 33, 34, 35, 36, 37, 38, 39, 40, 41, 42, 43, 44, 45, 46, 47, 48, 49, 50, 51, 52, 53, 54, 55, 56, 57, 58, 59, 60, 61, 62, 63, 64, 65, 66, 67, 68, 69, 70, 71, 72, 73, 74, 75, 76, 77, 78, 79, 80, 81, 82, 83, 84, 85, 86, 87, 88, 89, 90, 91, 92, 93, 94, 95, 96, 97, 98, 99, 100, 101, 102, 103, 104, 105, 106, 107, 108, 109, 110, 111, 112, 113, 114, 115, 116, 117, 118, 119, 120, 121, 122, 123, 124, 125, 126, 127, 128, 129, 130, 131, 132, 133, 134, 135, 136, 137]
theorem KA_eq : ∀ P, KA = (KK P).map (·.1) := fun P => by kernel_rfl!
-- keep [19] NN 15505
noncomputable def NN : Nat := 15505
theorem open_run : ∀ w : World, (fencedOpening treeTable pp w NN).map (fun s => (s.heap, s.gens, s.drawn, s.toks)) = some (boot_heap w.params, Array.mk [], boot_drawn, boot_toks) := boot_open (by kernel_rfl!) (by decide +kernel) (fun s => by kernel_rfl!)
theorem size_run (w : World) : ((boot_heap w.params).isNs mainGlobals && (Array.mk [] : Array GenState).size == 0, (boot_heap w.params).objs.size, (boot_heap w.params).nsMap mainGlobals "__annotations__") = (true, 11, (some (.ref 6))) := by
  rw [PySem.W.Fast.te8920871248978507458]
  kernel_rfl!
-- M 14505 toks 2322
end L1
end
end Mine
namespace Mine
open PySem PySem.W PyProof.Rows PySem.Calls
noncomputable section
namespace L1
noncomputable abbrev RR : OpenRow := PySem.Challenge.rw_ta0051_01.row
noncomputable abbrev XX : Shared → Bool := fun s => xlAt vq [] s && recOk (RowW.records RR.toRowW) s
noncomputable abbrev hook : Hook := kHook KK KA KA_eq
noncomputable abbrev SS (w : World) (os : OsState) : Shared := ⟨H1 w.params, #[], {}, 2322, os⟩
noncomputable abbrev mods : List PySem.Str := importedModules pp.main.body
theorem lk1 (w : World) (os : OsState) : (staticsOk mods (boot_heap w.params) (H1 w.params) && namesBound pp (H1 w.params) && gensDone (SS w os) && laidKept (boot_heap w.params) (H1 w.params)) = true := by
  kernel_rfl!
theorem lk3 (w : World) (os : OsState) : hook.obs (SS w os) = hook.val w := by kernel_rfl!
theorem s1 (w : World) (os : OsState) : seen ((recsOf vq).map (·.name)) (ownsOf vq) [] { SS w os with gens := #[] } = expectedOf vq := by kernel_rfl!
theorem s2 (w : World) (os : OsState) : (SS w os).heap.bltView = bltViewBooted := by kernel_rfl!
theorem s3 (w : World) (os : OsState) : ((SS w os).heap.keysOk (looseW vq loose) ((recsOf vq).map (·.name)) ((litsOf vq).map (·.1)) ((clssOf vq (looseW vq loose)).map (·.name)) && (SS w os).heap.accountedOkI mods && (SS w os).heap.isNs mainGlobals && (SS w os).heap.isNs builtinsNs && tablesOk vq (SS w os).heap && XX (SS w os) && (if true then (SS w os).gens.size == 0 else !leftWithCleanup (SS w os).gens)) = true := by kernel_rfl!
theorem s4 (w : World) (os : OsState) : tabsOk vq (SS w os) = true := by kernel_rfl!
theorem s5 (w : World) (os : OsState) : pinSeenD vq (drecsOf vq) (SS w os) = pinGoodD (drecsOf vq) := by kernel_rfl!
theorem s6 (w : World) (os : OsState) : plainSeenE vq (looseW vq loose) (SS w os) = plainGoodE vq (looseW vq loose) := by kernel_rfl!
theorem s7 (w : World) (os : OsState) : plainSeenD vq loose (SS w os) = plainGoodD vq loose := by kernel_rfl!
theorem s8 (w : World) (os : OsState) : wideSeen vq (SS w os) = wideGood vq := by kernel_rfl!
theorem s9 (w : World) (os : OsState) : clsSeenW vq loose (SS w os) = clsGoodW vq loose := by kernel_rfl!
theorem looks (w : World) : (fun os => ((staticsOk mods (boot_heap w.params) (H1 w.params) && namesBound pp (H1 w.params) && gensDone (SS w os) && laidKept (boot_heap w.params) (H1 w.params)),
        openSeen vq loose mods XX true (SS w os), hook.obs (SS w os))) = fun _ => (true, openGood vq loose, hook.val w) :=
  funext fun os => looks_pair (lk1 w os) (looks_pair (looks_pair (s1 w os) (looks_pair (s2 w os) (looks_pair (s3 w os) (looks_pair (s4 w os) (looks_pair (s5 w os) (looks_pair (s6 w os) (looks_pair (s7 w os) (looks_pair (s8 w os) (s9 w os))))))))) (lk3 w os))
theorem left : LeftO pp vq loose XX hook.obs hook.val NN :=
  LeftO.of_pieces open_run size_run whole_run (by decide +kernel) looks
end L1
end
end Mine
namespace Mine
open PySem PySem.W PyProof.Rows PySem.Calls
theorem reps_ints {P : Params} {mu : List Addr} {h : Heap} : ∀ {ws : List Value} {ns : List Int}, IntsAre ws ns → Reps P mu h (ns.map .int) ws
  | _, _, .nil => by simp [Reps]
  | _, _, .cons n t r => by
    rw [List.map_cons]
    unfold Reps
    exact ⟨_, _, rfl, by unfold Rep; exact ⟨t, rfl⟩, reps_ints r⟩
theorem goodW_reads' {c : ClaimW} {cl : Str → Option Addr} {mean : ExcName → Option Value} {args : List WData} {s₁ : Shared} {h' : Heap} {tk : Nat} {v : Value} {d : WData} (kk : KeepAll s₁.heap h') (hg : s₁.gens = #[]) (hr : ReadsW c.records cl h' v d []) 
    (hn : ∀ cls, c.raises args cls = false) (hp : c.post args d args = true) : GoodW c cl mean args s₁ (.ok (.ret v)) { s₁ with heap := h', toks := tk } :=
  ⟨.inl ⟨v, d, [], rfl, hn, hr, hp, fun _ => ⟨List.nodup_nil, fun a ha => by cases ha⟩⟩, kk, rfl, hg⟩
namespace L1
noncomputable def fs1 : List FnT := [fnT st4, fnT st5, fnT st7, fnT st10, fnT st12, fnT st14, fnT st15, fnT st16, fnT st17, fnT st18, fnT st19]
noncomputable def P0 : Params := (aWorld 0).params
noncomputable def b1E : List (Int × Value) := match (o43v0 P0).data with
  | .set es _ _ => es.toList
  | _ => []
noncomputable def gl1 : List (Str × V) := [("_MAX_STRING_SIZE", .int 40), ("_MOVE_COST", .int 2), ("_CASE_COST", .int 1), ("b1_set", .val (.ref 43)), ("b3_exceptions", .val (.ref 54))]
noncomputable def D1 : Dat0 := ⟨fun x => gl1.lookup x, fun wv i => (b1E.any fun e => Value.isInt i e.2, wv = .ref 43), fun wv i => (tabGet b3E i, wv = .ref 54)⟩
theorem gl_all (P : Params) : (gl1.all fun p => glAt (KK P) p) = true := by kernel_rfl!
theorem nob_all (P : Params) : (bltNames.all fun x => nsIn (KK P) mainGlobals x == some none) = true := by kernel_rfl!
theorem set_all : setEs b1E = true := by kernel_rfl!
theorem set_at (P : Params) : (KK P).lookup 43 = some ⟨.type "set", none, .set b1E.toArray 29 ⟨127, #[0, 1, 2, 3, 4, 5, 6, 7, 8, 9, 10, 11, 12, 13, 14, 15, 16, 17, 18, 19, 20, 21, 22, 45, 79, 96, 127], #[], 0, !P.followText "set-order", 2, true⟩, #[]⟩ := by kernel_rfl!
theorem set_fits (P : Params) : (⟨127, #[0, 1, 2, 3, 4, 5, 6, 7, 8, 9, 10, 11, 12, 13, 14, 15, 16, 17, 18, 19, 20, 21, 22, 45, 79, 96, 127], #[], 0, !P.followText "set-order", 2, true⟩ : SetTable).fits b1E.length = true := by kernel_rfl!
theorem dict_at (P : Params) : (KK P).lookup 54 = some ⟨.type "dict", none, .dict b3E.toArray 650, #[]⟩ := by kernel_rfl!
theorem dict_all : dictEs b3E = true := by decide +kernel
theorem fn4 {P : Params} {h : Heap} {mg : Str → Option Value} (X : (KK P).In h) (G : h.Ns mainGlobals mg) : FnAt h mg (fnT st4) :=
  fnAt_of X G (a := 21) (by kernel_rfl!) (o := o21v0 P) (by kernel_rfl!) rfl (fdOk_of (by kernel_rfl!) rfl (bind2 (a := "ch_a") (b := "ch_b") fun v u => by kernel_rfl!)) rfl (by kernel_rfl!)
theorem fn5 {P : Params} {h : Heap} {mg : Str → Option Value} (X : (KK P).In h) (G : h.Ns mainGlobals mg) : FnAt h mg (fnT st5) :=
  fnAt_of X G (a := 28) (by kernel_rfl!) (o := o28v0 P) (by kernel_rfl!) rfl (fdOk_of (by kernel_rfl!) rfl (bind3 (a := "a") (b := "b") (c := "max_cost") fun v u x => by kernel_rfl!)) rfl (by kernel_rfl!)
theorem fn7 {P : Params} {h : Heap} {mg : Str → Option Value} (X : (KK P).In h) (G : h.Ns mainGlobals mg) : FnAt h mg (fnT st7) :=
  fnAt_of X G (a := 35) (by kernel_rfl!) (o := o35v0 P) (by kernel_rfl!) rfl (fdOk_of (by kernel_rfl!) rfl (bind1 (a := "num") fun v => by kernel_rfl!)) rfl (by kernel_rfl!)
theorem fn10 {P : Params} {h : Heap} {mg : Str → Option Value} (X : (KK P).In h) (G : h.Ns mainGlobals mg) : FnAt h mg (fnT st10) :=
  fnAt_of X G (a := 53) (by kernel_rfl!) (o := o53v0 P) (by kernel_rfl!) rfl (fdOk_of (by kernel_rfl!) rfl (bind1 (a := "code") fun v => by kernel_rfl!)) rfl (by kernel_rfl!)
theorem fn12 {P : Params} {h : Heap} {mg : Str → Option Value} (X : (KK P).In h) (G : h.Ns mainGlobals mg) : FnAt h mg (fnT st12) :=
  fnAt_of X G (a := 99) (by kernel_rfl!) (o := o99v0 P) (by kernel_rfl!) rfl (fdOk_of (by kernel_rfl!) rfl (bind1 (a := "code") fun v => by kernel_rfl!)) rfl (by kernel_rfl!)
theorem fn14 {P : Params} {h : Heap} {mg : Str → Option Value} (X : (KK P).In h) (G : h.Ns mainGlobals mg) : FnAt h mg (fnT st14) :=
  fnAt_of X G (a := 106) (by kernel_rfl!) (o := o106v0 P) (by kernel_rfl!) rfl (fdOk_of (by kernel_rfl!) rfl (bind1 (a := "number") fun v => by kernel_rfl!)) rfl (by kernel_rfl!)
theorem fn15 {P : Params} {h : Heap} {mg : Str → Option Value} (X : (KK P).In h) (G : h.Ns mainGlobals mg) : FnAt h mg (fnT st15) :=
  fnAt_of X G (a := 113) (by kernel_rfl!) (o := o113v0 P) (by kernel_rfl!) rfl (fdOk_of (by kernel_rfl!) rfl (bind2 (a := "figures") (b := "draw") fun v u => by kernel_rfl!)) rfl (by kernel_rfl!)
theorem fn16 {P : Params} {h : Heap} {mg : Str → Option Value} (X : (KK P).In h) (G : h.Ns mainGlobals mg) : FnAt h mg (fnT st16) :=
  fnAt_of X G (a := 120) (by kernel_rfl!) (o := o120v0 P) (by kernel_rfl!) rfl (fdOk_of (by kernel_rfl!) rfl (bind2 (a := "letters") (b := "draw") fun v u => by kernel_rfl!)) rfl (by kernel_rfl!)
theorem fn17 {P : Params} {h : Heap} {mg : Str → Option Value} (X : (KK P).In h) (G : h.Ns mainGlobals mg) : FnAt h mg (fnT st17) :=
  fnAt_of X G (a := 125) (by kernel_rfl!) (o := o125v0 P) (by kernel_rfl!) rfl (fdOk_of (by kernel_rfl!) rfl (bind1 (a := "typed") fun v => by kernel_rfl!)) rfl (by kernel_rfl!)
theorem fn18 {P : Params} {h : Heap} {mg : Str → Option Value} (X : (KK P).In h) (G : h.Ns mainGlobals mg) : FnAt h mg (fnT st18) :=
  fnAt_of X G (a := 132) (by kernel_rfl!) (o := o132v0 P) (by kernel_rfl!) rfl (fdOk_of (by kernel_rfl!) rfl (bind2 (a := "figures") (b := "m") fun v u => by kernel_rfl!)) rfl (by kernel_rfl!)
theorem fn19 {P : Params} {h : Heap} {mg : Str → Option Value} (X : (KK P).In h) (G : h.Ns mainGlobals mg) : FnAt h mg (fnT st19) :=
  fnAt_of X G (a := 137) (by kernel_rfl!) (o := o137v0 P) (by kernel_rfl!) rfl (fdOk_of (by kernel_rfl!) rfl (bind1 (a := "script") fun v => by kernel_rfl!)) rfl (by kernel_rfl!)
theorem fn_all {P : Params} {h : Heap} {mg : Str → Option Value} (X : (KK P).In h) (G : h.Ns mainGlobals mg) : ∀ t ∈ fs1, FnAt h mg t := by
  intro t ht
  simp only [fs1, List.mem_cons, List.not_mem_nil, or_false] at ht
  rcases ht with rfl | rfl | rfl | rfl | rfl | rfl | rfl | rfl | rfl | rfl | rfl
  · exact fn4 X G
  · exact fn5 X G
  · exact fn7 X G
  · exact fn10 X G
  · exact fn12 X G
  · exact fn14 X G
  · exact fn15 X G
  · exact fn16 X G
  · exact fn17 X G
  · exact fn18 X G
  · exact fn19 X G
theorem base1 {w : World} {h : Heap} {mg mb : Str → Option Value} (X : (KK w.params).In h) (G : h.Ns mainGlobals mg) (Gb : h.Ns builtinsNs mb) (boot : ∀ x : Str, x ≠ "__name__" → mb x = bootBuiltins x) (lim : h.NoLimit) : Base0 pp w h mg mb D1 fs1 :=
  ⟨G, Gb, boot, gl_ok X G (gl_all _), nob_ok X G (nob_all _), fun k => mem_ok X (set_at _) set_all (by decide +kernel) (set_fits _) (CC_mem _ _ _), fun k => get_ok X (by decide) (dict_at _) dict_all (CC_get _ _ _), fn_all X G, lim⟩
theorem law_fn {w : World} {h : Heap} {mg mb : Str → Option Value} (B : Base0 pp w h mg mb D1 fs1) {fa : Addr} (hf : mg "law" = some (.ref fa)) {A : Around} (rm : Rm A 6) {s : Shared} (kb : KeepAll h s.heap) {ns : List Int} {a : Addr} {ws : List Value} (hl : s.heap.IsList a ws.toArray) (hi : IntsAre ws ns)
    (law_true : ((CC D1 fs1 6).fn "law" [.list (ns.map .int)]).2 ∧ ((CC D1 fs1 6).fn "law" [.list (ns.map .int)]).1 = .bool true) : Tr pp w A (call (.ref fa) [.ref a]) s (fun v _ => v = .bool true) := by
  obtain ⟨a', o, fd, h1, h2, h3, h4⟩ := (base_cc B 6).fn "law" _ law_true.1
  rw [hf] at h1
  cases h1
  refine (h4 A s [] [.ref a] kb rm (fun a ha => by cases ha) (reps_one ?_)).mono fun v h' _ q => ?_
  · unfold Rep
    exact ⟨a, ws, rfl, by simp, hl, reps_ints hi⟩
  · rw [law_true.2] at q
    unfold Rep at q
    exact q
theorem said1 : OpenLaw.wellSaid PySem.Challenge.rw_ta0051_01 = true := by kernel_rfl!
theorem fin_holds (law_true : ∀ ns : List Int, ns.length ≤ 63 → ((CC D1 fs1 6).fn "law" [.list (ns.map .int)]).2 ∧ ((CC D1 fs1 6).fn "law" [.list (ns.map .int)]).1 = .bool true) : PySem.Challenge.rw_ta0051_01.Holds := by
  w_on
  refine holds_law said1 fun said => ?_
  refine holds_open (q := vq) (loose := loose) (Xt := XX) (XP := XL vq []) (Yf := hook.obs) (Ya := hook.val) (YP := hook.says) (N := NN) left hook.of hook.keeps (fun s e => xl_of s (Bool.and_eq_true_iff.mp e).1) XL.keeps (by rfl) (by rfl) (by rfl) (fun s e => recFacts_of (Bool.and_eq_true_iff.mp e).2) (by rfl) (by first | assumption | decide +kernel) (by decide +kernel) ⟨rfl, rfl, rfl, rfl, rfl, by decide +kernel⟩ ?hw ?hc
  case hw => w_witness2
  case hc =>
    intro w s₀ s₁ mg mb G Y fa o pm cd doc dV kV ho hd hcd hD hmg hg args vals as hpre hlay hrd hwl hlo
    have KX := kIn_of Y
    clear hd hcd hD ho
    refine Ground.open G ?_
    intro T B D TE TW
    wrow_args hpre hlay hrd hwl hlo
    rename IntsAre _ _ => hI
    rename Heap.IsList _ _ _ => hL
    have hlen := by rename ¬ (_ < _) => hc; exact hc
    refine (law_fn (base1 KX T.g T.b T.builtins T.nolimit) hmg ⟨rfl, by decide, by decide⟩ (fun _ _ e => e) hL hI (law_true _ (by omega))).use fun v h' tk kk e => ?_
    subst e
    refine GoodW.toG (goodW_reads' kk hg (.bool true) (raisesW_false (by wrow_none_raised)) ?_)
    wrow_post
end L1
end Mine
namespace Mine
open PySem PySem.W PyProof.Rows PySem.Calls
/-! what holds of the evaluator's results, step by step -/
/-- what is asked holds, and Q of the value -/
noncomputable def Pw {α : Type} (x : W α) (Q : α → Prop) : Prop := x.2 ∧ Q x.1
section
variable (g : Cfg) (k : Kd) (n : Nat) (l : Ls)
noncomputable def WE (e : Expr) (Q : V → Prop) : Prop := (ev g k n l e).2 ∧ Q (ev g k n l e).1
noncomputable def WT (e : Expr) (Q : Bool → Prop) : Prop := (evT g k n l e).2 ∧ Q (evT g k n l e).1
noncomputable def WA (es : List Expr) (Q : Bool → Prop) : Prop := (evAnd g k n l es).2 ∧ Q (evAnd g k n l es).1
noncomputable def WR (es : List Expr) (Q : Bool → Prop) : Prop := (evOr g k n l es).2 ∧ Q (evOr g k n l es).1
noncomputable def WO (e : Option Expr) (Q : V → Prop) : Prop := (evO g k n l e).2 ∧ Q (evO g k n l e).1
noncomputable def WEs (es : List Expr) (Q : List V → Prop) : Prop := (evs g k n l es).2 ∧ Q (evs g k n l es).1
noncomputable def WI (e : Expr) (Q : List V → Prop) : Prop := (evI g k n l e).2 ∧ Q (evI g k n l e).1
noncomputable def WX (s : Stmt) (Q : Fl → Ls → Prop) : Prop := (ex g k n l s).2.2 ∧ Q (ex g k n l s).1 (ex g k n l s).2.1
noncomputable def WXs (s : List Stmt) (Q : Fl → Ls → Prop) : Prop := (exs g k n l s).2.2 ∧ Q (exs g k n l s).1 (exs g k n l s).2.1
noncomputable def WF (f : Str) (args : List V) (Q : V → Prop) : Prop := (g.fn f args).2 ∧ Q (g.fn f args).1
end
variable {g : Cfg} {k : Kd} {n : Nat} {l : Ls}
theorem WE.mono {e : Expr} {Q R : V → Prop} (h : WE g k n l e Q) (m : ∀ v, Q v → R v) : WE g k n l e R := ⟨h.1, m _ h.2⟩
theorem WT.mono {e : Expr} {Q R : Bool → Prop} (h : WT g k n l e Q) (m : ∀ v, Q v → R v) : WT g k n l e R := ⟨h.1, m _ h.2⟩
theorem WXs.mono {s : List Stmt} {Q R : Fl → Ls → Prop} (h : WXs g k n l s Q) (m : ∀ f l', Q f l' → R f l') : WXs g k n l s R := ⟨h.1, m _ _ h.2⟩

/-! expressions -/
theorem WE_int {i : Int} {a : Nat} {p : Pos} {Q : V → Prop} (h : Q (.int i)) : WE g k (n + 1) l (.Constant (.int i) a p) Q := ⟨trivial, h⟩
theorem WE_none {a : Nat} {p : Pos} {Q : V → Prop} (h : Q .none) : WE g k (n + 1) l (.Constant .none a p) Q := ⟨trivial, h⟩
theorem WE_bool {b : Bool} {a : Nat} {p : Pos} {Q : V → Prop} (h : Q (.bool b)) : WE g k (n + 1) l (.Constant (.bool b) a p) Q := ⟨trivial, h⟩
theorem WE_bytes {b : List UInt8} {a : Nat} {p : Pos} {Q : V → Prop} (h : Q (.bytes b)) : WE g k (n + 1) l (.Constant (.bytes b) a p) Q := ⟨trivial, h⟩
theorem WE_str {s : Str} {a : Nat} {p : Pos} {Q : V → Prop} (h : Q (.str s.cps.toList)) : WE g k (n + 1) l (.Constant (.str s) a p) Q := ⟨trivial, h⟩
theorem WE_name {x : Str} {p : Pos} {v : V} {Q : V → Prop} (e : l.at x = some v) (h : Q v) : WE g k (n + 1) l (.Name x p) Q := by
  unfold WE; rw [ev_nameL e]; exact ⟨trivial, h⟩
theorem WE_glob {x : Str} {p : Pos} {v : V} {Q : V → Prop} (e : l.at x = none) (e2 : g.gl x = some v) (hk : kindOk k x = true) (h : Q v) : WE g k (n + 1) l (.Name x p) Q := by
  unfold WE; rw [ev_nameG e e2]; exact ⟨hk, h⟩
theorem WE_bin {a b : Expr} {op : Operator} {p : Pos} {Q : V → Prop} (h : WE g k n l a fun va => WE g k n l b fun vb => Pw (binV op va vb) Q) : WE g k (n + 1) l (.BinOp a op b p) Q := by
  unfold WE at h ⊢; rw [ev_bin]; exact ⟨⟨h.1, h.2.1, h.2.2.1⟩, h.2.2.2⟩
theorem WE_neg {a : Expr} {p : Pos} {Q : V → Prop} (h : WE g k n l a fun va => Pw (negV va) Q) : WE g k (n + 1) l (.UnaryOp .USub a p) Q := by
  unfold WE at h ⊢; rw [ev_neg]; exact ⟨⟨h.1, h.2.1⟩, h.2.2⟩
theorem n_int {i : Int} {Q : V → Prop} (h : Q (.int (-i))) : Pw (negV (.int i)) Q := ⟨trivial, h⟩
theorem WE_or {a b : Expr} {p : Pos} {Q : V → Prop} (h : WE g k n l a fun va => Pw (truV va) fun c => (c = true → Q va) ∧ (c = false → WE g k n l b Q)) : WE g k (n + 1) l (.BoolOp .Or [a, b] p) Q := by
  unfold WE at h ⊢
  rw [ev_or]
  split
  · rename_i ht; exact ⟨⟨h.1, h.2.1⟩, h.2.2.1 ht⟩
  · rename_i ht
    have := h.2.2.2 (by simpa using ht)
    exact ⟨⟨h.1, h.2.1, this.1⟩, this.2⟩
theorem WE_ife {t a b : Expr} {p : Pos} {Q : V → Prop} (h : WT g k n l t fun c => (c = true → WE g k n l a Q) ∧ (c = false → WE g k n l b Q)) : WE g k (n + 1) l (.IfExp t a b p) Q := by
  unfold WE at h ⊢
  unfold WT at h
  rw [ev_ife]
  split
  · rename_i ht; exact ⟨⟨h.1, (h.2.1 ht).1⟩, (h.2.1 ht).2⟩
  · rename_i ht
    have := h.2.2 (by simpa using ht)
    exact ⟨⟨h.1, this.1⟩, this.2⟩
theorem WE_cmp {a b : Expr} {op : CmpOp} {p : Pos} {Q : V → Prop} (h : WE g k n l a fun va => WE g k n l b fun vb => Pw (cmpV g op va vb) fun c => Q (.bool c)) (hb : behindInMarks op b = false) : WE g k (n + 1) l (.Compare a [op] [b] p) Q := by
  unfold WE at h ⊢; rw [ev_cmp]; exact ⟨⟨h.1, h.2.1, h.2.2.1, hb⟩, h.2.2.2⟩
theorem WE_item {a i : Expr} {p : Pos} {Q : V → Prop} (hi : ∀ lo hi st q, i ≠ .Slice lo hi st q) (h : WE g k n l a fun va => WE g k n l i fun vi => Pw (itemV va vi) Q) : WE g k (n + 1) l (.Subscript a i p) Q := by
  unfold WE at h ⊢
  rw [ev_item hi]
  exact ⟨⟨h.1, h.2.1, h.2.2.1⟩, h.2.2.2⟩
theorem WE_cut {a : Expr} {lo hi st : Option Expr} {p q : Pos} {Q : V → Prop} (h : WE g k n l a fun va => WO g k n l lo fun v1 => WO g k n l hi fun v2 => WO g k n l st fun v3 => Pw (cutV va v1 v2 v3) Q) : WE g k (n + 1) l (.Subscript a (.Slice lo hi st q) p) Q := by
  unfold WE at h ⊢; unfold WO at h; rw [ev_cut]; exact ⟨⟨h.1, h.2.1, h.2.2.1, h.2.2.2.1, h.2.2.2.2.1⟩, h.2.2.2.2.2⟩
theorem WE_list {es : List Expr} {p : Pos} {Q : V → Prop} (h : WEs g k n l es fun vs => vs.length ≤ lenLid ∧ Q (.list vs)) : WE g k (n + 1) l (.List es p) Q := by
  unfold WE; unfold WEs at h; rw [ev_list]; exact ⟨⟨h.1, h.2.1⟩, h.2.2⟩
theorem WE_tup {es : List Expr} {c : Nat} {p : Pos} {Q : V → Prop} (h : WEs g k n l es fun vs => vs.length ≤ lenLid ∧ Q (.tup vs)) : WE g k (n + 1) l (.Tuple es c p) Q := by
  unfold WE; unfold WEs at h; rw [ev_tup]; exact ⟨⟨h.1, h.2.1⟩, h.2.2⟩
theorem WE_meth {o : Expr} {name : Str} {ap p : Pos} {args : List Expr} {Q : V → Prop} (h : WE g k n l o fun vo => WEs g k n l args fun vs => Pw (methV g vo name vs) Q) (h1 : (ap.endLine == p.line) = true := by rfl) (h2 : baseOk o = true := by rfl) (h3 : args.length ≤ 3 := by decide) :
    WE g k (n + 1) l (.Call (.Attribute o name ap) args [] p) Q := by
  unfold WE at h ⊢; unfold WEs at h; rw [ev_meth]; exact ⟨⟨h.1, h.2.1, h.2.2.1, h1, h2, h3⟩, h.2.2.2⟩
theorem WE_blt {f : Str} {fp p : Pos} {args : List Expr} {Q : V → Prop} (h : WEs g k n l args fun vs => Pw (bltV f vs) Q) (hf : isBlt f = true) (h1 : l.at f = none) (h2 : kindOk k f = true) : WE g k (n + 1) l (.Call (.Name f fp) args [] p) Q := by
  unfold WE; unfold WEs at h; rw [ev_call]; unfold callW; rw [if_pos hf]; exact ⟨⟨h.1, h.2.1, h1, h2⟩, h.2.2⟩
theorem WE_fn {f : Str} {fp p : Pos} {args : List Expr} {Q : V → Prop} (h : WEs g k n l args fun vs => WF g f vs Q) (hf : isBlt f = false) (hl : (f == ("list" : Str)) = false) (h1 : l.at f = none) (h2 : kindOk k f = true) : WE g k (n + 1) l (.Call (.Name f fp) args [] p) Q := by
  unfold WE; unfold WEs WF at h
  have hl : f ≠ ("list" : Str) := by simpa using hl
  rw [ev_call]; unfold callW; rw [if_neg (by rw [hf]; decide), if_neg hl]
  exact ⟨⟨h.1, h.2.1, h1, h2⟩, h.2.2⟩
theorem WE_listRange {f r : Str} {fp rp p cp : Pos} {args : List Expr} {Q : V → Prop} (h : WI g k n l (.Call (.Name r rp) args [] cp) fun vs => Q (.list vs)) (hf : f = ("list" : Str)) (hr : r = ("range" : Str)) (h1 : l.at f = none) (h2 : kindOk k f = true) : WE g k (n + 1) l (.Call (.Name f fp) [.Call (.Name r rp) args [] cp] [] p) Q := by
  unfold WE; unfold WI at h
  subst hf hr
  exact ⟨⟨h.1, h1, h2⟩, h.2⟩
theorem split_d {P A B : Prop} [Decidable P] (h1 : P → A) (h2 : ¬ P → B) : (decide P = true → A) ∧ (decide P = false → B) := ⟨fun h => h1 (of_decide_eq_true h), fun h => h2 (of_decide_eq_false h)⟩
theorem split_e {P A B : Prop} [Decidable P] (h1 : ¬ P → A) (h2 : P → B) : (decide P = false → A) ∧ (decide P = true → B) := ⟨fun h => h1 (of_decide_eq_false h), fun h => h2 (of_decide_eq_true h)⟩
theorem split_ne {P A B : Prop} [Decidable P] (h1 : P → A) (h2 : ¬ P → B) : ((!decide P) = false → A) ∧ ((!decide P) = true → B) := ⟨fun h => h1 (by simpa using h), fun h => h2 (by simpa using h)⟩
theorem split_t {A B : Prop} (h : A) : (true = true → A) ∧ (true = false → B) := ⟨fun _ => h, fun h => nomatch h⟩
theorem split_f {A B : Prop} (h : B) : (false = true → A) ∧ (false = false → B) := ⟨fun h => (nomatch h), fun _ => h⟩
/-! tests -/
theorem WT_cmp2 {a b c : Expr} {o1 o2 : CmpOp} {p : Pos} {Q : Bool → Prop} (hm : lastMarks [o1, o2] [b, c] = false)
    (h : WE g k n l a fun va => WE g k n l b fun vb => Pw (cmpV g o1 va vb) fun t => (t = true → WE g k n l c fun vc => Pw (cmpV g o2 vb vc) Q) ∧ (t = false → Q false)) : WT g k (n + 1) l (.Compare a [o1, o2] [b, c] p) Q := by
  unfold WT; unfold WE at h; rw [evT_cmp2]
  obtain ⟨h1, h2, h3, h4, h5⟩ := h
  split
  · rename_i ht
    have := h4 ht
    unfold WE at this
    exact ⟨⟨h1, h2, h3, this.1, this.2.1, hm⟩, this.2.2⟩
  · rename_i ht
    exact ⟨⟨h1, h2, h3, hm⟩, h5 (by simpa using ht)⟩
theorem WT_not {a : Expr} {p : Pos} {Q : Bool → Prop} (h : WT g k n l a fun b => Q (!b)) : WT g k (n + 1) l (.UnaryOp .Not a p) Q := by
  unfold WT at h ⊢; rw [evT_not]; exact h
theorem WT_and {es : List Expr} {p : Pos} {Q : Bool → Prop} (h : WA g k n l es Q) : WT g k (n + 1) l (.BoolOp .And es p) Q := by
  unfold WT; unfold WA at h; rw [evT_and]; exact h
theorem WT_or {es : List Expr} {p : Pos} {Q : Bool → Prop} (h : WR g k n l es Q) : WT g k (n + 1) l (.BoolOp .Or es p) Q := by
  unfold WT; unfold WR at h; rw [evT_or]; exact h
theorem WT_cmp {a b : Expr} {op : CmpOp} {p : Pos} {Q : Bool → Prop} (h : WE g k n l a fun va => WE g k n l b fun vb => Pw (cmpV g op va vb) Q) (hb : behindInMarks op b = false) : WT g k (n + 1) l (.Compare a [op] [b] p) Q := by
  unfold WT; unfold WE at h; rw [evT_cmp]; exact ⟨⟨h.1, h.2.1, h.2.2.1, hb⟩, h.2.2.2⟩
theorem WT_val {e : Expr} {Q : Bool → Prop} (h : WE g k n l e fun v => Pw (truV v) Q) (he : evT g k (n + 1) l e = ((truV (ev g k n l e).1).1, (ev g k n l e).2 ∧ (truV (ev g k n l e).1).2)) : WT g k (n + 1) l e Q := by
  unfold WT; unfold WE at h; rw [he]; exact ⟨⟨h.1, h.2.1⟩, h.2.2⟩
theorem WA_nil {Q : Bool → Prop} (h : Q true) : WA g k (n + 1) l [] Q := ⟨trivial, h⟩
theorem WA_cons {e : Expr} {r : List Expr} {Q : Bool → Prop} (h : WT g k n l e fun b => (b = true → WA g k n l r Q) ∧ (b = false → Q false)) : WA g k (n + 1) l (e :: r) Q := by
  unfold WA at h ⊢; unfold WT at h; rw [evAnd_cons]
  split
  · rename_i ht; exact ⟨⟨h.1, (h.2.1 ht).1⟩, (h.2.1 ht).2⟩
  · rename_i ht; exact ⟨h.1, h.2.2 (by simpa using ht)⟩
theorem WR_nil {Q : Bool → Prop} (h : Q false) : WR g k (n + 1) l [] Q := ⟨trivial, h⟩
theorem WR_cons {e : Expr} {r : List Expr} {Q : Bool → Prop} (h : WT g k n l e fun b => (b = false → WR g k n l r Q) ∧ (b = true → Q true)) : WR g k (n + 1) l (e :: r) Q := by
  unfold WR at h ⊢; unfold WT at h; rw [evOr_cons]
  split
  · rename_i ht; exact ⟨h.1, h.2.2 ht⟩
  · rename_i ht
    have := h.2.1 (by simpa using ht)
    exact ⟨⟨h.1, this.1⟩, this.2⟩
theorem WO_none {Q : V → Prop} (h : Q .none) : WO g k (n + 1) l none Q := ⟨trivial, h⟩
theorem WO_some {e : Expr} {Q : V → Prop} (h : WE g k n l e Q) : WO g k (n + 1) l (some e) Q := by
  unfold WO; unfold WE at h; exact h
theorem WEs_nil {Q : List V → Prop} (h : Q []) : WEs g k (n + 1) l [] Q := ⟨trivial, h⟩
theorem WEs_cons {e : Expr} {r : List Expr} {Q : List V → Prop} (h : WE g k n l e fun v => WEs g k n l r fun vs => Q (v :: vs)) (hs : ∀ x p, e ≠ .Starred x p) : WEs g k (n + 1) l (e :: r) Q := by
  unfold WEs at h ⊢; unfold WE at h
  rw [evs_cons hs]; exact ⟨⟨h.1, h.2.1⟩, h.2.2⟩
/-! what a loop goes over -/
noncomputable def upTo (a b : Int) : List Int := rangeUp a 1 (b - a).toNat
theorem rangeUp_map (c : Int) : ∀ (m : Nat) (a : Int), rangeUp a c m = (List.range m).map fun (i : Nat) => a + i * c
  | 0, _ => rfl
  | m + 1, a => by
    rw [List.range_succ_eq_map, show rangeUp a c (m + 1) = a :: rangeUp (a + c) c m from rfl, rangeUp_map c m]
    simp only [List.map_cons, List.map_map, Int.natCast_zero, Int.zero_mul, Int.add_zero]
    congr 1
    apply List.map_congr_left
    intro i _
    simp only [Function.comp, Nat.succ_eq_add_one, Int.natCast_add, Int.natCast_one, Int.add_mul, Int.one_mul]
    omega
theorem WI_range {f : Str} {es : List Expr} {fp p : Pos} {Q : List V → Prop} (h : WEs g k n l es fun vs => Pw (rangeOf vs) Q) (hf : f = ("range" : Str)) (h1 : l.at f = none) (h2 : kindOk k f = true) : WI g k (n + 1) l (.Call (.Name f fp) es [] p) Q := by
  unfold WI; unfold WEs at h
  rw [evI_range, if_pos hf]
  exact ⟨⟨h.1, h.2.1, h1, h2⟩, h.2.2⟩
theorem WI_name {x : Str} {p : Pos} {Q : List V → Prop} (h : WE g k n l (.Name x p) fun v => Pw (itemsV v) Q) : WI g k (n + 1) l (.Name x p) Q := by
  unfold WI; unfold WE at h; rw [evI_nameX]; exact ⟨⟨rfl, h.1, h.2.1⟩, h.2.2⟩
theorem rng1 {Q : List V → Prop} {m : Nat} {b : Int} (hb : b = m) (hm : m ≤ lenLid) (h : Q ((List.range m).map fun (i : Nat) => V.int i)) : Pw (rangeOf [.int b]) Q := by
  subst hb
  show (True ∧ (rangeV 0 m 1).2) ∧ Q ((rangeV 0 m 1).1.map .int)
  unfold rangeV
  rw [rangeUp_map]
  unfold lenLid at *
  refine ⟨⟨trivial, by omega⟩, ?_⟩
  have e : (((m : Int) - 0 + 1 - 1).fdiv 1).toNat = m := by
    rw [Int.fdiv_one]; omega
  rw [e, List.map_map]
  have : (V.int ∘ fun (i : Nat) => (0 : Int) + i * 1) = fun (i : Nat) => V.int i := by
    funext i; simp
  rw [this]; exact h
/-! statements -/
theorem WX_ret {e : Expr} {p : Pos} {Q : Fl → Ls → Prop} (h : WE g k n l e fun v => Q (.ret v) l) : WX g k (n + 1) l (.Return (some e) p) Q := by
  unfold WX; unfold WE at h; rw [ex_ret]; exact h
theorem WX_new {x : Str} {px p : Pos} {e : Expr} {Q : Fl → Ls → Prop} (hn : isNew e = true) (h : WE g k n l.clean e fun v => Q .next (l.put x ⟨v, true⟩)) (h1 : k x = some .local) (h2 : nameOk x = true) (h3 : onlyOwn l x = true) : WX g k (n + 1) l (.Assign [.Name x px] e p) Q := by
  unfold WX; unfold WE at h; rw [ex_asg, if_pos hn]; exact ⟨⟨h.1, h1, h2, h3⟩, h.2⟩
/-- one more item -/
theorem WX_app {x : Str} {xp ap tp p : Pos} {e : Expr} {Q : Fl → Ls → Prop} {xs : List V} (hx : l.loc x = some ⟨.list xs, true⟩) (hn : xs.length < lenLid) (hs : ∀ y q, e ≠ .Starred y q) (hl : (ap.endLine == tp.line) = true)
    (h : WE g k n l e fun v => isAtom v = true ∧ Q .next (l.put x ⟨.list (xs ++ [v]), true⟩)) : WX g k (n + 1) l (.Expr (.Call (.Attribute (.Name x xp) "append" ap) [e] [] tp) p) Q := by
  unfold WX; unfold WE at h; rw [ex_app0]; unfold appW; rw [hx]
  exact ⟨⟨h.1, h.2.1, hn, rfl, rfl, hs, hl⟩, h.2.2⟩
theorem WE_dict {ks : List (Option Expr)} {vs : List Expr} {p : Pos} {Q : V → Prop} {kv : List (List Nat × Int)} (h : constPairs ks vs = some kv) (hl : (decide (kv.length = 17) && decide (kv.map (·.1)).Nodup) = true) (hq : Q (.dict kv)) : WE g k (n + 1) l (.Dict ks vs p) Q := by
  unfold WE; rw [ev_dict, h]
  rw [Bool.and_eq_true, decide_eq_true_eq, decide_eq_true_eq] at hl
  exact ⟨hl, hq⟩
/-- a value without parts -/
theorem WX_atom {x : Str} {px p : Pos} {e : Expr} {Q : Fl → Ls → Prop} (hn : isNew e = false) (h : WE g k n l e fun v => isAtom v = true ∧ Q .next (l.put x ⟨v, false⟩)) (h1 : storable k x = true) : WX g k (n + 1) l (.Assign [.Name x px] e p) Q := by
  unfold WX; unfold WE at h
  have e1 : evS g k n l e = ev g k n l e := if_pos h.2.1
  rw [ex_asg, if_neg (by rw [hn]; decide), e1]; exact ⟨⟨h.1, h1⟩, h.2.2⟩
/-- where nothing is written to -/
theorem WX_clean {x : Str} {px p : Pos} {e : Expr} {Q : Fl → Ls → Prop} (hn : isNew e = false) (hc : l.clean = l) (h : WE g k n l e fun v => Q .next (l.put x ⟨v, false⟩)) (h1 : storable k x = true) : WX g k (n + 1) l (.Assign [.Name x px] e p) Q := by
  unfold WX; unfold WE at h
  have e1 : evS g k n l e = ev g k n l e := by
    unfold evS
    rw [hc]
    exact ite_self _
  rw [ex_asg, if_neg (by rw [hn]; decide), e1]; exact ⟨⟨h.1, h1⟩, h.2⟩
theorem WX_two {x y : Str} {px py p : Pos} {e : Expr} {Q : Fl → Ls → Prop} (h : WE g k n l e fun v => isAtom v = true ∧ Q .next ((l.put x ⟨v, false⟩).put y ⟨v, false⟩)) (h1 : storable k x = true) (h2 : storable k y = true) : WX g k (n + 1) l (.Assign [.Name x px, .Name y py] e p) Q := by
  unfold WX; unfold WE at h; rw [ex_asg2]; exact ⟨⟨h.1, h.2.1, h1, h2⟩, h.2.2⟩
theorem WX_tup {x y : Str} {px py tp p : Pos} {c : Nat} {e : Expr} {Q : Fl → Ls → Prop} (h : WE g k n l e fun v => ∃ a b, v = .tup [a, b] ∧ isAtom a = true ∧ isAtom b = true ∧ Q .next ((l.put x ⟨a, false⟩).put y ⟨b, false⟩)) (hc : constTup e = false) (h1 : storable k x = true) (h2 : storable k y = true) (hxy : x ≠ y) :
    WX g k (n + 1) l (.Assign [.Tuple [.Name x px, .Name y py] c tp] e p) Q := by
  unfold WX; unfold WE at h; rw [ex_tup0]
  obtain ⟨h0, a, b, e1, ha, hb, hq⟩ := h
  generalize ev g k n l e = q at h0 e1 ⊢
  obtain ⟨v, cc⟩ := q
  dsimp only at h0 e1
  subst e1
  exact ⟨⟨h0, hc, ha, hb, h1, h2, hxy⟩, hq⟩
theorem WX_set {x : Str} {xp ip p : Pos} {i e : Expr} {Q : Fl → Ls → Prop} {xs : List V} (hx : l.at x = some (.list xs)) (ho : l.loc x = some ⟨.list xs, true⟩) (h : WE g k n l e fun v => WE g k n l i fun j => ∃ m : Int, j = .int m ∧ isAtom v = true ∧ 0 ≤ m ∧ m < xs.length ∧ xs.length ≤ lenLid ∧ Q .next (l.put x ⟨.list (xs.set m.toNat v), true⟩)) :
    WX g k (n + 1) l (.Assign [.Subscript (.Name x xp) i ip] e p) Q := by
  unfold WX; unfold WE at h; rw [ex_set0]
  unfold setW
  rw [ho]
  obtain ⟨h0, h1, m, e1, ha, hb, hq, hr, hs⟩ := h
  generalize ev g k n l i = q at h1 e1 ⊢
  obtain ⟨v, cc⟩ := q
  dsimp only at h1 e1
  subst e1
  exact ⟨⟨h0, h1, ha, hb, hq, hr, rfl⟩, hs⟩
theorem WX_aug {x : Str} {xp p : Pos} {op : Operator} {e : Expr} {a : V} {Q : Fl → Ls → Prop} (hx : l.at x = some a) (h : WE g k n l e fun v => augOk op a v = true ∧ Pw (binV op a v) fun r => Q .next (l.put x ⟨r, false⟩)) (h1 : storable k x = true) : WX g k (n + 1) l (.AugAssign (.Name x xp) op e p) Q := by
  unfold WX; unfold WE at h; rw [ex_aug0, ev_nameL hx]; exact ⟨⟨by rw [hx]; rfl, h.1, h.2.2.1, h.2.1, h1⟩, h.2.2.2⟩
theorem WX_if {t : Expr} {a b : List Stmt} {p : Pos} {Q : Fl → Ls → Prop} (h : WT g k n l t fun c => (c = true → WXs g k n l a Q) ∧ (c = false → WXs g k n l b Q)) : WX g k (n + 1) l (.If t a b p) Q := by
  unfold WX; unfold WT WXs at h; rw [ex_if0]
  split
  · rename_i ht; exact ⟨⟨h.1, (h.2.1 ht).1⟩, (h.2.1 ht).2⟩
  · rename_i ht
    have := h.2.2 (by simpa using ht)
    exact ⟨⟨h.1, this.1⟩, this.2⟩
theorem WXs_nil {Q : Fl → Ls → Prop} (h : Q .next l) : WXs g k (n + 1) l [] Q := ⟨trivial, h⟩
/-- behind a statement -/
noncomputable def Then (g : Cfg) (k : Kd) (n : Nat) (r : List Stmt) (Q : Fl → Ls → Prop) : Fl → Ls → Prop := fun f l' => match f with
  | .next => WXs g k n l' r Q
  | .ret v => Q (.ret v) l'
theorem at_hit {x : Str} {u : Loc} {r : Ls} : Ls.at ((x, u) :: r) x = some u.v := if_pos rfl
theorem at_miss {x y : Str} {u : Loc} {r : Ls} {o : Option V} (h : (y == x) = false) (e : Ls.at r x = o) : Ls.at ((y, u) :: r) x = o := by
  rw [← e]; exact if_neg (by simpa using h)
theorem at_put_hit {x : Str} {u : Loc} {r : Ls} : Ls.at (r.put x u) x = some u.v := by rw [at_put, if_pos rfl]
theorem at_put_miss {x y : Str} {u : Loc} {r : Ls} {o : Option V} (h : (x == y) = false) (e : Ls.at r x = o) : Ls.at (r.put y u) x = o := by
  rw [at_put, if_neg (by simpa using h)]; exact e
/-- names of these alone -/
noncomputable def Only (ns : List Str) (j : Ls) : Prop := ∀ x, ns.contains x = false → j.at x = none
theorem only_nil {ns : List Str} : Only ns [] := fun _ _ => rfl
theorem only_put {ns : List Str} {j : Ls} {x : Str} {u : Loc} (h : Only ns j) (hx : ns.contains x = true) : Only ns (j.put x u) := fun y hy => by
  rw [at_put]
  by_cases e : y = x
  · subst e; rw [hx] at hy; cases hy
  · rw [if_neg e]; exact h y hy
theorem at_only {ns : List Str} {j : Ls} {x : Str} (h : Only ns j) (hx : ns.contains x = false) : j.at x = none := h x hx
theorem put_nil {x : Str} {v : Loc} : Ls.put [] x v = [(x, v)] := rfl
theorem put_hit {x : Str} {v u : Loc} {r : Ls} : Ls.put ((x, u) :: r) x v = (x, v) :: r := if_pos rfl
theorem put_miss {x y : Str} {v u : Loc} {r r' : Ls} (h : (y == x) = false) (e : Ls.put r x v = r') : Ls.put ((y, u) :: r) x v = (y, u) :: r' := by
  rw [← e]; exact if_neg (by simpa using h)
theorem then_put {l l' : Ls} {x : Str} {u : Loc} {r : List Stmt} {Q : Fl → Ls → Prop} (hp : l.put x u = l') (h : WXs g k n l' r Q) : Then g k n r Q .next (l.put x u) := by subst hp; exact h
theorem wxs_put {l l' : Ls} {x : Str} {u : Loc} {r : List Stmt} {Q : Fl → Ls → Prop} (hp : l.put x u = l') (h : WXs g k n l' r Q) : WXs g k n (l.put x u) r Q := by subst hp; exact h
theorem range_item {m i : Nat} {v : V} (h : ((List.range m).map fun (i : Nat) => V.int i)[i]? = some v) : i < m ∧ v = .int i := by
  by_cases hi : i < m
  · simp [hi] at h
    exact ⟨hi, h.symm⟩
  · simp [hi] at h
theorem then_put2 {l l' l'' : Ls} {x y : Str} {u v : Loc} {r : List Stmt} {Q : Fl → Ls → Prop} (hp : l.put x u = l') (hp2 : l'.put y v = l'') (h : WXs g k n l'' r Q) : Then g k n r Q .next ((l.put x u).put y v) := by subst hp hp2; exact h
theorem then_next {r : List Stmt} {Q : Fl → Ls → Prop} (h : WXs g k n l r Q) : Then g k n r Q .next l := h
theorem then_ret {r : List Stmt} {Q : Fl → Ls → Prop} {v : V} (h : Q (.ret v) l) : Then g k n r Q (.ret v) l := h
theorem WXs_cons {s : Stmt} {r : List Stmt} {Q : Fl → Ls → Prop} (h : WX g k n l s (Then g k n r Q)) : WXs g k (n + 1) l (s :: r) Q := by
  unfold WXs; unfold WX Then at h; rw [exs_cons]
  revert h
  generalize ex g k n l s = q
  obtain ⟨f, l', c⟩ := q
  cases f with
  | next => exact fun h => And.intro (And.intro h.1 h.2.1) h.2.2
  | ret v => exact fun h => h
theorem WXs_inv {s : Stmt} {r : List Stmt} {Q : Fl → Ls → Prop} (h : WXs g k (n + 1) l (s :: r) Q) : WX g k n l s (Then g k n r Q) := by
  unfold WXs at h; unfold WX Then WXs; rw [exs_cons] at h
  revert h
  generalize ex g k n l s = q
  obtain ⟨f, l', c⟩ := q
  cases f with
  | next => exact fun h : (c ∧ (exs g k n l' r).2.2) ∧ Q (exs g k n l' r).1 (exs g k n l' r).2.1 => ⟨h.1.1, h.1.2, h.2⟩
  | ret v => exact fun h => h
/-- a loop by what holds at its turns -/
theorem loop_inv {F : Ls → V → Fl × Ls × Prop} {Q : Fl → Ls → Prop} (I : Nat → Ls → Prop) {vs : List V} (turn : ∀ i v l, vs[i]? = some v → I i l → (F l v).2.2 ∧ match (F l v).1 with | .next => I (i + 1) (F l v).2.1 | .ret u => Q (.ret u) (F l v).2.1) (done : ∀ l, I vs.length l → Q .next l) :
    ∀ (m : Nat) (l : Ls), m ≤ vs.length → I m l → (loopV F l (vs.drop m)).2.2 ∧ Q (loopV F l (vs.drop m)).1 (loopV F l (vs.drop m)).2.1 := by
  have key : ∀ (j m : Nat) (l : Ls), vs.length - m = j → m ≤ vs.length → I m l → (loopV F l (vs.drop m)).2.2 ∧ Q (loopV F l (vs.drop m)).1 (loopV F l (vs.drop m)).2.1 := by
    intro j
    induction j with
    | zero =>
      intro m l hj hm hI
      obtain rfl : m = vs.length := by omega
      rw [List.drop_length]
      exact ⟨trivial, done l hI⟩
    | succ j ih =>
      intro m l hj hm hI
      have hlt : m < vs.length := by omega
      rw [List.drop_eq_getElem_cons hlt]
      have t := turn m vs[m] l (List.getElem?_eq_getElem hlt) hI
      have nx := ih (m + 1) (F l vs[m]).2.1 (by omega) (by omega)
      rw [loopV_cons]
      revert t nx
      generalize F l vs[m] = q
      obtain ⟨f, l', c⟩ := q
      cases f with
      | next =>
        intro t nx
        have := nx t.2
        exact And.intro (And.intro t.1 this.1) this.2
      | ret u => exact fun t _ => t
  exact fun m l hm hI => key _ m l rfl hm hI
/-- behind a turn -/
noncomputable def Turn (J : Ls → Prop) (Q : Fl → Ls → Prop) : Fl → Ls → Prop := fun f l => match f with
  | .next => J l
  | .ret u => Q (.ret u) l
theorem turn_next {J : Ls → Prop} {Q : Fl → Ls → Prop} (h : J l) : Turn J Q .next l := h
theorem turn_ret {J : Ls → Prop} {Q : Fl → Ls → Prop} {u : V} (h : Q (.ret u) l) : Turn J Q (.ret u) l := h
theorem WX_for {x : Str} {px p : Pos} {it : Expr} {body : List Stmt} {Q : Fl → Ls → Prop} (I : Nat → Ls → Prop)
    (h : WI g k n l.clean it fun vs => I 0 l ∧ (∀ i v l', vs[i]? = some v → I i l' → isAtom v = true ∧ WXs g k n (l'.put x ⟨v, false⟩) body (Turn (I (i + 1)) Q)) ∧ ∀ l', I vs.length l' → Q .next l') (h1 : storable k x = true) :
    WX g k (n + 1) l (.For (.Name x px) it body [] p) Q := by
  unfold WX; unfold WI at h; rw [ex_for0]
  obtain ⟨hq, h0, turn, done⟩ := h
  have := loop_inv (F := fun l v => ((exs g k n (l.put x ⟨v, false⟩) body).1, (exs g k n (l.put x ⟨v, false⟩) body).2.1, (exs g k n (l.put x ⟨v, false⟩) body).2.2 ∧ isAtom v = true)) (Q := Q) I (vs := (evI g k n l.clean it).1) (fun i v l' e hI => by
    obtain ⟨ha, hb⟩ := turn i v l' e hI
    exact ⟨⟨hb.1, ha⟩, hb.2⟩) done 0 l (Nat.zero_le _) h0
  rw [List.drop_zero] at this
  exact ⟨⟨hq, this.1, h1⟩, this.2⟩
theorem WX_while {t : Expr} {body : List Stmt} {p : Pos} {Q : Fl → Ls → Prop} (I : Nat → Ls → Prop) (m : Nat) (hm : m < 100000) (h0 : I m l)
    (turn : ∀ i l', I i l' → WT g k n l' t fun b => (b = true → ∃ j, i = j + 1 ∧ WXs g k n l' body (Turn (fun l2 => ∃ i', i' ≤ j ∧ I i' l2) Q)) ∧ (b = false → Q .next l')) : WX g k (n + 1) l (.While t body [] p) Q := by
  unfold WX; rw [ex_while0]
  have key : ∀ (c i : Nat) (l' : Ls), i < c → I i l' → (whileV (fun l => evT g k n l t) (fun l => exs g k n l body) c l').2.2 ∧ Q (whileV (fun l => evT g k n l t) (fun l => exs g k n l body) c l').1 (whileV (fun l => evT g k n l t) (fun l => exs g k n l body) c l').2.1 := by
    intro c
    induction c with
    | zero => intro i l' h; omega
    | succ c ih =>
      intro i l' hi hI
      have T := turn i l' hI
      unfold WT at T
      rw [whileV_succ]
      split
      · rename_i ht
        obtain ⟨j, hj, hb⟩ := T.2.1 ht
        unfold WXs Turn at hb
        revert hb
        generalize exs g k n l' body = q
        obtain ⟨f, l2, cc⟩ := q
        cases f with
        | next =>
          rintro ⟨hb, i', hi', hI'⟩
          have := ih i' l2 (by omega) hI'
          exact And.intro (And.intro T.1 (And.intro hb this.1)) this.2
        | ret u => exact fun hb => And.intro (And.intro T.1 hb.1) hb.2
      · rename_i ht
        exact ⟨T.1, T.2.2 (by simpa using ht)⟩
  exact key 100000 m l hm h0
theorem WX_whileR {t : Expr} {body : List Stmt} {p : Pos} {Q : Fl → Ls → Prop} (I : Nat → Ls → Prop) (R : Ls → Prop) (m : Nat) (hm : m < 100000) (h0 : I m l)
    (turn : ∀ i l', I i l' → WT g k n l' t fun b => (b = true → ∃ j, i = j + 1 ∧ WXs g k n l' body (Turn (fun l2 => ∃ i', i' ≤ j ∧ I i' l2) Q)) ∧ (b = false → R l')) (rest : ∀ l', R l' → Q .next l') : WX g k (n + 1) l (.While t body [] p) Q :=
  WX_while I m hm h0 fun i l' hI => (turn i l' hI).mono fun b h => ⟨h.1, fun e => rest _ (h.2 e)⟩
theorem WX_ifR {t : Expr} {a b : List Stmt} {p : Pos} {Q : Fl → Ls → Prop} (R : Ls → Prop) (h : WT g k n l t fun c => (c = true → WXs g k n l a (Turn R Q)) ∧ (c = false → WXs g k n l b (Turn R Q))) (rest : ∀ l', R l' → Q .next l') : WX g k (n + 1) l (.If t a b p) Q := by
  have up : ∀ f l', Turn R Q f l' → Q f l' := fun f l' q => by
    cases f with
    | next => exact rest _ q
    | ret v => exact q
  exact WX_if (h.mono fun c q => ⟨fun e => (q.1 e).mono up, fun e => (q.2 e).mono up⟩)
theorem WX_forC {x : Str} {px p : Pos} {it : Expr} {body : List Stmt} {Q : Fl → Ls → Prop} {lc : Ls} (I : Nat → Ls → Prop) (hc : l.clean = lc)
    (h : WI g k n lc it fun vs => I 0 l ∧ (∀ i v l', vs[i]? = some v → I i l' → isAtom v = true ∧ WXs g k n (l'.put x ⟨v, false⟩) body (Turn (I (i + 1)) Q)) ∧ ∀ l', I vs.length l' → Q .next l') (h1 : storable k x = true) :
    WX g k (n + 1) l (.For (.Name x px) it body [] p) Q := by subst hc; exact WX_for I h h1
theorem WX_newC {x : Str} {px p : Pos} {e : Expr} {Q : Fl → Ls → Prop} {lc : Ls} (hn : isNew e = true) (hc : l.clean = lc) (h : WE g k n lc e fun v => Q .next (l.put x ⟨v, true⟩)) (h1 : k x = some .local) (h2 : nameOk x = true) (h3 : onlyOwn l x = true) : WX g k (n + 1) l (.Assign [.Name x px] e p) Q := by
  subst hc; exact WX_new hn h h1 h2 h3
theorem clean_nil : Ls.clean [] = [] := rfl
theorem clean_plain {x : Str} {v : V} {r r' : Ls} (e : Ls.clean r = r') : Ls.clean ((x, ⟨v, false⟩) :: r) = (x, ⟨v, false⟩) :: r' := by rw [← e]; rfl
theorem clean_own {x : Str} {v : V} {r r' : Ls} (e : Ls.clean r = r') : Ls.clean ((x, ⟨v, true⟩) :: r) = r' := by rw [← e]; rfl
theorem at_clean_none {j : Ls} {x : Str} (hj : j.at x = none) : j.clean.at x = none := by
  induction j with
  | nil => rfl
  | cons p r ih =>
    obtain ⟨y, u⟩ := p
    simp only [Ls.at] at hj
    by_cases e : y = x
    · rw [if_pos e] at hj; cases hj
    · rw [if_neg e] at hj
      unfold Ls.clean at ih ⊢
      rw [List.filter_cons]
      split
      · simp only [Ls.at]
        rw [if_neg e]; exact ih hj
      · exact ih hj
theorem WX_assignR {x : Str} {px p : Pos} {e : Expr} {Q : Fl → Ls → Prop} (R : V → Prop) (hn : isNew e = false) (hc : l.clean = l) (h : WE g k n l e R) (rest : ∀ v, R v → Q .next (l.put x ⟨v, false⟩)) (h1 : storable k x = true) : WX g k (n + 1) l (.Assign [.Name x px] e p) Q :=
  WX_clean hn hc (h.mono rest) h1
/-! calls -/
noncomputable def Post (Q : V → Prop) : Fl → Ls → Prop := fun f _ => ∃ v, f = .ret v ∧ Q v
theorem WF_of {D : Dat0} {fs : List FnT} {m : Nat} {f : Str} {args : List V} {Q : V → Prop} (t : FnT) (ls : Ls) (hf : fs.find? (fun t => t.name == f) = some t) (hl : args.length = t.params.length) (hs : startLs t.params args = ls)
    (h : WXs (CC D fs m) (fun x => t.scope.names.lookup x) 200 ls t.body (Post Q)) : WF (CC D fs (m + 1)) f args Q := by
  subst hs
  unfold WXs Post at h
  show (runFn (CC D fs m) fs f args).2 ∧ Q (runFn (CC D fs m) fs f args).1
  unfold runFn
  rw [hf]
  dsimp only
  rw [if_pos hl]
  revert h
  generalize exs (CC D fs m) (fun x => t.scope.names.lookup x) 200 (startLs t.params args) t.body = q
  obtain ⟨fl, l', c⟩ := q
  rintro ⟨h1, v, rfl, h2⟩
  exact ⟨h1, h2⟩
theorem post_ret {Q : V → Prop} {v : V} {l : Ls} (h : Q v) : Post Q (.ret v) l := ⟨v, rfl, h⟩
theorem WE_globC {D : Dat0} {fs : List FnT} {m : Nat} {x : Str} {p : Pos} {v : V} {Q : V → Prop} (e : l.at x = none) (e2 : D.gl x = some v) (hk : kindOk k x = true) (h : Q v) : WE (CC D fs m) k (n + 1) l (.Name x p) Q :=
  WE_glob e (by rw [CC_gl]; exact e2) hk h
/-! comprehensions -/
theorem capt_nil {k : Kd} : Ls.capt [] k = [] := rfl
theorem capt_keep {k : Kd} {x : Str} {u : Loc} {r r' : Ls} (h : (k x == some .cell || k x == some .free) = true) (e : Ls.capt r k = r') : Ls.capt ((x, u) :: r) k = (x, u) :: r' := by
  subst e
  unfold Ls.capt
  rw [List.filter_cons, if_pos h]
theorem capt_drop {k : Kd} {x : Str} {u : Loc} {r r' : Ls} (h : (k x == some .cell || k x == some .free) = false) (e : Ls.capt r k = r') : Ls.capt ((x, u) :: r) k = r' := by
  subst e
  unfold Ls.capt
  rw [List.filter_cons, if_neg (by rw [h]; decide)]
theorem we_put {l l' : Ls} {x : Str} {u : Loc} {e : Expr} {Q : V → Prop} (hp : l.put x u = l') (h : WE g k n l' e Q) : WE g k n (l.put x u) e Q := by subst hp; exact h
theorem wt_put {l l' : Ls} {x : Str} {u : Loc} {e : Expr} {Q : Bool → Prop} (hp : l.put x u = l') (h : WT g k n l' e Q) : WT g k n (l.put x u) e Q := by subst hp; exact h
theorem WE_comp {α : Type} {elt it : Expr} {x : Str} {px p : Pos} {scope : Scope} {lc : Ls} {Q : V → Prop} (φ : α → V) (L : List α) (F : α → V) (hc : l.capt (inKind k scope) = lc)
    (h : WI g k n l it fun vs => vs = L.map φ ∧ L.length ≤ lenLid ∧ (∀ a ∈ L, WE g (inKind k scope) n (lc.put x ⟨φ a, false⟩) elt fun r => r = F a) ∧ Q (.list (L.map F)))
    (hx : targetOk scope x = true) (hn : nameOk x = true) (hs : Mine.ev.scopeOk k l scope x = true) : WE g k (n + 1) l (.ListComp elt [⟨.Name x px, it, [], 0⟩] scope p) Q := by
  subst hc
  unfold WE WI at *; rw [ev_comp0]
  obtain ⟨hq, e, hl, he, hQ⟩ := h
  rw [e]
  refine ⟨⟨hq, ⟨hx, hn⟩, hs, by simpa using hl, ?_⟩, ?_⟩
  · intro v hv
    obtain ⟨a, ha, rfl⟩ := List.mem_map.mp hv
    exact (he a ha).1
  · rw [List.map_map]
    have : List.map ((fun v => (ev g (inKind k scope) n ((l.capt (inKind k scope)).put x ⟨v, false⟩) elt).1) ∘ φ) L = L.map F := List.map_congr_left fun a ha => (he a ha).2
    rw [this]; exact hQ
theorem WE_compIf {α : Type} {elt it t : Expr} {x : Str} {px p : Pos} {scope : Scope} {lc : Ls} {Q : V → Prop} (φ : α → V) (L : List α) (F : α → V) (T : α → Bool) (hc : l.capt (inKind k scope) = lc)
    (h : WI g k n l it fun vs => vs = L.map φ ∧ L.length ≤ lenLid ∧ (∀ a ∈ L, WT g (inKind k scope) n (lc.put x ⟨φ a, false⟩) t fun b => b = T a) ∧ (∀ a ∈ L, T a = true → WE g (inKind k scope) n (lc.put x ⟨φ a, false⟩) elt fun r => r = F a) ∧ Q (.list ((L.filter T).map F)))
    (hx : targetOk scope x = true) (hn : nameOk x = true) (hs : Mine.ev.scopeOk k l scope x = true) : WE g k (n + 1) l (.ListComp elt [⟨.Name x px, it, [t], 0⟩] scope p) Q := by
  subst hc
  unfold WE WI WT at *; rw [ev_comp1]
  obtain ⟨hq, e, hl, ht, he, hQ⟩ := h
  rw [e]
  refine ⟨⟨hq, ⟨hx, hn⟩, hs, by simpa using hl, ?_⟩, ?_⟩
  · intro v hv
    obtain ⟨a, ha, rfl⟩ := List.mem_map.mp hv
    exact ⟨(ht a ha).1, fun q => (he a ha (by rw [← (ht a ha).2]; exact q)).1⟩
  · have e1 : List.filter (fun v => (evT g (inKind k scope) n ((l.capt (inKind k scope)).put x ⟨v, false⟩) t).1) (L.map φ) = (L.filter T).map φ := by
      rw [List.filter_map]
      congr 1
      apply List.filter_congr
      intro a ha
      exact (ht a ha).2
    rw [e1, List.map_map]
    have : List.map ((fun v => (ev g (inKind k scope) n ((l.capt (inKind k scope)).put x ⟨v, false⟩) elt).1) ∘ φ) (L.filter T) = (L.filter T).map F := List.map_congr_left fun a ha => by
      obtain ⟨h1, h2⟩ := List.mem_filter.mp ha
      exact (he a h1 h2).2
    rw [this]; exact hQ
/-- over range(m), m a number -/
theorem WE_compR {elt e : Expr} {x f : Str} {px p fp rp : Pos} {scope : Scope} {lc : Ls} {Q : V → Prop} (m : Nat) (F : Nat → V) (hc : l.capt (inKind k scope) = lc) (hm : m ≤ lenLid) (hf : f = ("range" : Str)) (h1 : l.at f = none) (h2 : kindOk k f = true)
    (hx : targetOk scope x = true) (hn : nameOk x = true) (hs : Mine.ev.scopeOk k l scope x = true) (hes : ∀ x p, e ≠ .Starred x p)
    (he : WE g k (n + 1) l e fun v => v = .int m)
    (hE : ∀ i < m, WE g (inKind k scope) (n + 1 + 1 + 1) (lc.put x ⟨.int i, false⟩) elt fun r => r = F i) (hQ : Q (.list ((List.range m).map F))) : WE g k (n + 1 + 1 + 1 + 1) l (.ListComp elt [⟨.Name x px, .Call (.Name f fp) [e] [] rp, [], 0⟩] scope p) Q := by
  refine WE_comp (fun (i : Nat) => V.int i) (List.range m) F hc ?_ hx hn hs
  refine WI_range ?_ hf h1 h2
  refine WEs_cons (he.mono fun v hv => ?_) hes
  subst hv
  refine WEs_nil (rng1 rfl hm ⟨rfl, by simpa using hm, fun a ha => hE a (List.mem_range.mp ha), hQ⟩)
theorem WE_compRIf {elt e t : Expr} {x f : Str} {px p fp rp : Pos} {scope : Scope} {lc : Ls} {Q : V → Prop} (m : Nat) (F : Nat → V) (T : Nat → Bool) (hc : l.capt (inKind k scope) = lc) (hm : m ≤ lenLid) (hf : f = ("range" : Str)) (h1 : l.at f = none) (h2 : kindOk k f = true)
    (hx : targetOk scope x = true) (hn : nameOk x = true) (hs : Mine.ev.scopeOk k l scope x = true) (hes : ∀ x p, e ≠ .Starred x p)
    (he : WE g k (n + 1) l e fun v => v = .int m)
    (hT : ∀ i < m, WT g (inKind k scope) (n + 1 + 1 + 1) (lc.put x ⟨.int i, false⟩) t fun b => b = T i)
    (hE : ∀ i < m, T i = true → WE g (inKind k scope) (n + 1 + 1 + 1) (lc.put x ⟨.int i, false⟩) elt fun r => r = F i) (hQ : Q (.list (((List.range m).filter T).map F))) : WE g k (n + 1 + 1 + 1 + 1) l (.ListComp elt [⟨.Name x px, .Call (.Name f fp) [e] [] rp, [t], 0⟩] scope p) Q := by
  refine WE_compIf (fun (i : Nat) => V.int i) (List.range m) F T hc ?_ hx hn hs
  refine WI_range ?_ hf h1 h2
  refine WEs_cons (he.mono fun v hv => ?_) hes
  subst hv
  refine WEs_nil (rng1 rfl hm ⟨rfl, by simpa using hm, fun a ha => hT a (List.mem_range.mp ha), fun a ha => hE a (List.mem_range.mp ha), hQ⟩)
end Mine
namespace Mine
open PySem PySem.W PyProof.Rows PySem.Calls
/-! the steps on values -/
section
variable {Q : V → Prop} {g : Cfg}
theorem b_add {a b : Int} (h : Q (.int (a + b))) : Pw (binV .Add (.int a) (.int b)) Q := ⟨trivial, h⟩
theorem b_sub {a b : Int} (h : Q (.int (a - b))) : Pw (binV .Sub (.int a) (.int b)) Q := ⟨trivial, h⟩
theorem b_mul {a b : Int} (hm : a.natAbs < 2 ^ 64 ∨ b.natAbs < 2 ^ 64) (h : Q (.int (a * b))) : Pw (binV .Mult (.int a) (.int b)) Q := ⟨hm, h⟩
theorem b_div {a b : Int} (hm : b ≠ 0 ∧ b.natAbs < 1073741824) (h : Q (.int (a.fdiv b))) : Pw (binV .FloorDiv (.int a) (.int b)) Q := ⟨hm, h⟩
theorem b_mod {a b : Int} (hm : b ≠ 0) (h : Q (.int (a.fmod b))) : Pw (binV .Mod (.int a) (.int b)) Q := ⟨hm, h⟩
/-- by a positive number -/
theorem b_divp {a b : Int} (hm : 0 < b ∧ b < 1073741824) (h : Q (.int (a / b))) : Pw (binV .FloorDiv (.int a) (.int b)) Q :=
  b_div ⟨by omega, by omega⟩ (by rw [Int.fdiv_eq_ediv_of_nonneg _ (by omega)]; exact h)
theorem b_modp {a b : Int} (hm : 0 < b) (h : Q (.int (a % b))) : Pw (binV .Mod (.int a) (.int b)) Q :=
  b_mod (by omega) (by rw [Int.fmod_eq_emod_of_nonneg _ (by omega)]; exact h)
theorem b_pow {a b : Int} (hm : 0 ≤ b ∧ b ≤ 1000 ∧ a.natAbs < 2 ^ 64) (h : Q (.int (a ^ b.toNat))) : Pw (binV .Pow (.int a) (.int b)) Q := ⟨hm, h⟩
theorem b_pow16 {e : Int} (hm : 0 ≤ e ∧ e ≤ 1000) (h : Q (.int ((16 ^ e.toNat : Nat) : Int))) : Pw (binV .Pow (.int 16) (.int e)) Q :=
  b_pow ⟨hm.1, hm.2, by decide⟩ (by rw [Int.natCast_pow] at h; exact h)
theorem b_cat {a b : List Nat} (hm : a.length + b.length ≤ lenLid) (h : Q (.str (a ++ b))) : Pw (binV .Add (.str a) (.str b)) Q := ⟨hm, h⟩
theorem b_rep {a : List Nat} {b : Int} (hm : a.length ≤ 100 ∧ b ≤ 100 ∧ -100 ≤ b) (h : Q (.str (repStr a b.toNat))) : Pw (binV .Mult (.str a) (.int b)) Q := ⟨hm, h⟩
theorem b_catL {a b : List V} (hm : a.length + b.length ≤ lenLid) (h : Q (.list (a ++ b))) : Pw (binV .Add (.list a) (.list b)) Q := ⟨hm, h⟩
theorem b_catB {a b : List UInt8} (hm : a.length + b.length ≤ lenLid) (h : Q (.bytes (a ++ b))) : Pw (binV .Add (.bytes a) (.bytes b)) Q := ⟨hm, h⟩
end
section
variable {Q : Bool → Prop} {g : Cfg}
theorem c_eqI {a b : Int} (h : Q (decide (a = b))) : Pw (cmpV g .Eq (.int a) (.int b)) Q := ⟨trivial, h⟩
theorem c_neI {a b : Int} (h : Q (decide (a ≠ b))) : Pw (cmpV g .NotEq (.int a) (.int b)) Q := ⟨trivial, h⟩
theorem c_ltI {a b : Int} (h : Q (decide (a < b))) : Pw (cmpV g .Lt (.int a) (.int b)) Q := ⟨trivial, h⟩
theorem c_leI {a b : Int} (h : Q (decide (a ≤ b))) : Pw (cmpV g .LtE (.int a) (.int b)) Q := ⟨trivial, h⟩
theorem c_gtI {a b : Int} (h : Q (decide (b < a))) : Pw (cmpV g .Gt (.int a) (.int b)) Q := ⟨trivial, h⟩
theorem c_eqS {a b : List Nat} (h : Q (decide (a = b))) : Pw (cmpV g .Eq (.str a) (.str b)) Q := ⟨trivial, h⟩
theorem c_neS {a b : List Nat} (h : Q (decide (a ≠ b))) : Pw (cmpV g .NotEq (.str a) (.str b)) Q := ⟨trivial, h⟩
theorem c_inn {v : V} (hv : (v = .none ∧ Q false) ∨ ((∃ x, v = .str x) ∧ Q true)) : Pw (cmpV g .IsNot v .none) Q := by
  rcases hv with ⟨rfl, h⟩ | ⟨⟨x, rfl⟩, h⟩
  · exact ⟨trivial, h⟩
  · exact ⟨trivial, h⟩
theorem c_in {a : Int} {w : Value} (hm : (g.mem w a).2) (h : Q (g.mem w a).1) : Pw (cmpV g .In (.int a) (.val w)) Q := ⟨hm, h⟩
theorem c_inD {a : List Nat} {kv : List (List Nat × Int)} (h : Q (kv.lookup a).isSome) : Pw (cmpV g .In (.str a) (.dict kv)) Q := ⟨trivial, h⟩
theorem c_inC {D : Dat0} {fs : List FnT} {m : Nat} {a : Int} {w : Value} (hm : (D.mem w a).2) (h : Q (D.mem w a).1) : Pw (cmpV (CC D fs m) .In (.int a) (.val w)) Q :=
  c_in (by rw [CC_mem]; exact hm) (by rw [CC_mem]; exact h)
theorem intsV_map : ∀ (xs : List Int), intsV (xs.map .int) = (xs, True)
  | [] => rfl
  | x :: r => by
    show (x :: (intsV (r.map .int)).1, (intsV (r.map .int)).2) = _
    rw [intsV_map r]
theorem strsV_map : ∀ (xs : List (List Nat)), strsV (xs.map .str) = (xs, True)
  | [] => rfl
  | x :: r => by
    show (x :: (strsV (r.map .str)).1, (strsV (r.map .str)).2) = _
    rw [strsV_map r]
theorem c_eqL {a b : List Int} (h : Q (decide (a = b))) : Pw (cmpV g .Eq (.list (a.map .int)) (.list (b.map .int))) Q := by
  unfold cmpV
  simp only [intsV_map]
  exact ⟨⟨trivial, trivial⟩, h⟩
theorem it_str {Q : List V → Prop} {xs : List Nat} (hl : xs.length ≤ lenLid) (h : Q (xs.map fun c => V.str [c])) : Pw (itemsV (.str xs)) Q := ⟨hl, h⟩
theorem it_list {Q : List V → Prop} {xs : List V} (hl : xs.length ≤ lenLid) (h : Q xs) : Pw (itemsV (.list xs)) Q := ⟨hl, h⟩
theorem rng3 {Q : List V → Prop} {m : Nat} {a b c : Int} (hc : 0 < c ∧ c ≤ 1000) (ha : -lenLid ≤ a ∧ a ≤ lenLid ∧ b ≤ lenLid ∧ -lenLid ≤ b) (hm : (b - a + c - 1) / c = m) (h : Q ((List.range m).map fun (i : Nat) => V.int (a + i * c))) : Pw (rangeOf [.int a, .int b, .int c]) Q := by
  show (True ∧ (rangeV a b c).2) ∧ Q ((rangeV a b c).1.map .int)
  unfold rangeV
  rw [rangeUp_map]
  refine ⟨⟨trivial, hc.1, hc.2, ha⟩, ?_⟩
  have e : ((b - a + c - 1).fdiv c).toNat = m := by
    rw [Int.fdiv_eq_ediv_of_nonneg _ (by omega), hm]; rfl
  rw [e, List.map_map]
  exact h
theorem t_bool {b : Bool} (h : Q b) : Pw (truV (.bool b)) Q := ⟨trivial, h⟩
theorem t_int {b : Int} (h : Q (decide (b ≠ 0))) : Pw (truV (.int b)) Q := ⟨trivial, h⟩
theorem t_str {b : List Nat} (hl : b.length ≤ lenLid) (h : Q (decide (0 < b.length))) : Pw (truV (.str b)) Q := ⟨hl, h⟩
end
section
variable {Q : V → Prop} {g : Cfg}
theorem i_list {xs : List V} {i : Int} (h0 : 0 ≤ i) (h1 : i < xs.length) (hl : xs.length ≤ lenLid) (h : Q (xs.getD i.toNat .none)) : Pw (itemV (.list xs) (.int i)) Q := by
  unfold itemV seqAt
  dsimp only
  rw [if_neg (by omega)]
  exact ⟨⟨by omega, h1, hl⟩, h⟩
theorem i_str {xs : List Nat} {i : Int} (h0 : 0 ≤ i) (h1 : i < xs.length) (hl : xs.length ≤ lenLid) (h : Q (.str [xs.getD i.toNat 0])) : Pw (itemV (.str xs) (.int i)) Q := by
  unfold itemV seqAt
  dsimp only
  rw [if_neg (by omega)]
  exact ⟨⟨by omega, h1, hl⟩, h⟩
theorem i_strn {xs : List Nat} {i : Int} (h0 : i < 0) (h1 : -(xs.length : Int) ≤ i) (hl : xs.length ≤ lenLid) (h : Q (.str [xs.getD (i + xs.length).toNat 0])) : Pw (itemV (.str xs) (.int i)) Q := by
  unfold itemV seqAt
  dsimp only
  rw [if_pos h0]
  exact ⟨⟨h1, by omega, hl⟩, h⟩
theorem i_ints {xs : List Int} {i : Int} (h0 : 0 ≤ i) (h1 : i < xs.length) (hl : xs.length ≤ lenLid) (h : Q (.int (xs.getD i.toNat 0))) : Pw (itemV (.list (xs.map .int)) (.int i)) Q := by
  refine i_list h0 (by simpa using h1) (by simpa using hl) ?_
  have : i.toNat < xs.length := by omega
  rw [List.getD_eq_getElem?_getD, List.getElem?_map, List.getElem?_eq_getElem this]
  rw [List.getD_eq_getElem?_getD, List.getElem?_eq_getElem this] at h
  exact h
theorem i_strs {xs : List (List Nat)} {i : Int} (h0 : 0 ≤ i) (h1 : i < xs.length) (hl : xs.length ≤ lenLid) (h : Q (.str (xs.getD i.toNat []))) : Pw (itemV (.list (xs.map .str)) (.int i)) Q := by
  refine i_list h0 (by simpa using h1) (by simpa using hl) ?_
  have : i.toNat < xs.length := by omega
  rw [List.getD_eq_getElem?_getD, List.getElem?_map, List.getElem?_eq_getElem this]
  rw [List.getD_eq_getElem?_getD, List.getElem?_eq_getElem this] at h
  exact h
theorem i_nats {xs : List Nat} {i : Int} (h0 : 0 ≤ i) (h1 : i < xs.length) (hl : xs.length ≤ lenLid) (h : Q (.int (xs.getD i.toNat 0 : Nat))) : Pw (itemV (.list (xs.map fun (x : Nat) => V.int x)) (.int i)) Q := by
  refine i_list h0 (by simpa using h1) (by simpa using hl) ?_
  have : i.toNat < xs.length := by omega
  rw [List.getD_eq_getElem?_getD, List.getElem?_map, List.getElem?_eq_getElem this]
  rw [List.getD_eq_getElem?_getD, List.getElem?_eq_getElem this] at h
  exact h
theorem i_dict {kv : List (List Nat × Int)} {x : List Nat} {i : Int} (hi : kv.lookup x = some i) (h : Q (.int i)) : Pw (itemV (.dict kv) (.str x)) Q := by
  have e : itemV (.dict kv) (.str x) = (.int ((kv.lookup x).getD 0), (kv.lookup x).isSome = true) := rfl
  rw [e, hi]; exact ⟨rfl, h⟩
theorem clip_pos {n d : Nat} {i : Int} (h : 0 ≤ i) : clip n d (.int i) = (min i.toNat n, True) := by
  unfold clip; dsimp only; rw [if_neg (by omega)]
theorem clip_neg {n d : Nat} {i : Int} (h : i < 0) : clip n d (.int i) = ((i + n).toNat, True) := by
  unfold clip; dsimp only; rw [if_pos h]
theorem cut_from {xs : List Nat} {i : Int} (h0 : 0 ≤ i) (hl : xs.length ≤ lenLid) (h : Q (.str (xs.drop i.toNat))) : Pw (cutV (.str xs) (.int i) .none .none) Q := by
  unfold cutV
  dsimp only
  rw [clip_pos h0]
  refine ⟨⟨trivial, trivial, hl⟩, ?_⟩
  show Q (.str ((xs.take xs.length).drop (min i.toNat xs.length)))
  rw [List.take_length]
  by_cases e : i.toNat ≤ xs.length
  · rw [Nat.min_eq_left e]; exact h
  · rw [Nat.min_eq_right (by omega), List.drop_length]
    rw [List.drop_eq_nil_of_le (by omega)] at h; exact h
theorem cut_to {xs : List Nat} {i : Int} (h0 : 0 ≤ i) (hl : xs.length ≤ lenLid) (h : Q (.str (xs.take i.toNat))) : Pw (cutV (.str xs) .none (.int i) .none) Q := by
  unfold cutV
  dsimp only
  rw [clip_pos h0]
  refine ⟨⟨trivial, trivial, hl⟩, ?_⟩
  show Q (.str ((xs.take (min i.toNat xs.length)).drop 0))
  rw [List.drop_zero]
  by_cases e : i.toNat ≤ xs.length
  · rw [Nat.min_eq_left e]; exact h
  · rw [Nat.min_eq_right (by omega), List.take_length]
    rw [List.take_of_length_le (by omega)] at h; exact h
theorem cut_ton {xs : List Nat} {i : Int} (h0 : i < 0) (hl : xs.length ≤ lenLid) (h : Q (.str (xs.take (i + xs.length).toNat))) : Pw (cutV (.str xs) .none (.int i) .none) Q := by
  unfold cutV
  dsimp only
  rw [clip_neg h0]
  refine ⟨⟨trivial, trivial, hl⟩, ?_⟩
  exact h
theorem cut_all {xs : List Nat} (hl : xs.length ≤ lenLid) (h : Q (.str xs)) : Pw (cutV (.str xs) .none .none .none) Q := by
  unfold cutV
  refine ⟨⟨trivial, trivial, hl⟩, ?_⟩
  show Q (.str ((xs.take xs.length).drop 0))
  rw [List.take_length]; exact h
theorem pickL_map {α β : Type} (f : α → β) (xs : List α) (lo hi st : Option Int) : pickL (xs.map f) lo hi st = (pickL xs lo hi st).map f := by
  unfold pickL
  rw [List.length_map, List.map_filterMap]
  congr 1
  funext i
  rw [List.getElem?_map]
theorem cut_step {xs : List Int} {i k : Int} (hk : k ≠ 0) (hl : xs.length ≤ lenLid) (h : Q (.list ((pickL xs (some i) none (some k)).map .int))) : Pw (cutV (.list (xs.map .int)) (.int i) .none (.int k)) Q := by
  unfold cutV
  dsimp only
  rw [pickL_map]
  exact ⟨⟨hk, by rw [List.length_map]; exact hl⟩, h⟩
theorem cut_bytes {xs : List UInt8} {i j : Int} (h0 : 0 ≤ i) (h1 : 0 ≤ j) (h2 : i ≤ xs.length) (h3 : j ≤ xs.length) (hl : xs.length ≤ lenLid) (h : Q (.bytes ((xs.take j.toNat).drop i.toNat))) : Pw (cutV (.bytes xs) (.int i) (.int j) .none) Q := by
  unfold cutV
  dsimp only
  rw [clip_pos h0, clip_pos h1]
  refine ⟨⟨trivial, trivial, hl⟩, ?_⟩
  show Q (.bytes ((xs.take (min j.toNat xs.length)).drop (min i.toNat xs.length)))
  rw [Nat.min_eq_left (by omega), Nat.min_eq_left (by omega)]; exact h
theorem i_strN {xs : List Nat} {i : Nat} (h1 : i < xs.length) (hl : xs.length ≤ lenLid) (h : Q (.str [xs.getD i 0])) : Pw (itemV (.str xs) (.int (i : Int))) Q := i_str (by omega) (by omega) hl h
theorem i_natsN {xs : List Nat} {i : Nat} (h1 : i < xs.length) (hl : xs.length ≤ lenLid) (h : Q (.int (xs.getD i 0 : Nat))) : Pw (itemV (.list (xs.map fun (x : Nat) => V.int x)) (.int (i : Int))) Q := i_nats (by omega) (by omega) hl h
theorem i_intsN {xs : List Int} {i : Nat} (h1 : i < xs.length) (hl : xs.length ≤ lenLid) (h : Q (.int (xs.getD i 0))) : Pw (itemV (.list (xs.map .int)) (.int (i : Int))) Q := i_ints (by omega) (by omega) hl h
theorem cut_fromN {xs : List Nat} {i : Nat} (hl : xs.length ≤ lenLid) (h : Q (.str (xs.drop i))) : Pw (cutV (.str xs) (.int (i : Int)) .none .none) Q := cut_from (by omega) hl h
theorem WE_cutOr {k : Kd} {n : Nat} {l : Ls} {x y : Str} {xp yp cp op sp p : Pos} {c : Nat} {xs : List Nat} {j : Nat} (hx : l.at x = some (.str xs)) (hy : l.at y = some (.int (-(j : Int)))) (hj : j ≤ xs.length) (hl : xs.length ≤ lenLid) (h : Q (.str (xs.take (xs.length - j)))) :
    WE g k (n + 5) l (.Subscript (.Name x xp) (.Slice none (some (.BoolOp .Or [.Name y yp, .Constant .none c cp] op)) none sp) p) Q := by
  refine WE_cut (WE_name hx (WO_none (WO_some (WE_or (WE_name hy ?_)))))
  refine t_int ?_
  refine split_d (fun hc => ?_) (fun hc => ?_)
  · refine WO_none ?_
    refine cut_ton (by omega) hl ?_
    have : (-(j : Int) + (xs.length : Int)).toNat = xs.length - j := by omega
    rw [this]; exact h
  · refine WE_none (WO_none ?_)
    refine cut_all hl ?_
    have : j = 0 := by omega
    subst this
    rw [Nat.sub_zero, List.take_length] at h; exact h
theorem f_lenS {x : List Nat} (hl : x.length ≤ lenLid) (h : Q (.int x.length)) : Pw (bltV "len" [.str x]) Q := ⟨hl, h⟩
theorem f_lenL {x : List V} (hl : x.length ≤ lenLid) (h : Q (.int x.length)) : Pw (bltV "len" [.list x]) Q := ⟨hl, h⟩
theorem f_lenM {α : Type} {f : α → V} {x : List α} (hl : x.length ≤ lenLid) (h : Q (.int x.length)) : Pw (bltV "len" [.list (x.map f)]) Q := by
  refine f_lenL (by rw [List.length_map]; exact hl) ?_
  rw [List.length_map]; exact h
theorem f_ord {c : Nat} (h : Q (.int c)) : Pw (bltV "ord" [.str [c]]) Q := by
  have e : bltV "ord" [.str [c]] = (.int c, True) := rfl
  rw [e]; exact ⟨trivial, h⟩
theorem f_chr {i : Int} (hi : 0 ≤ i ∧ i ≤ 1114111) (h : Q (.str [i.toNat])) : Pw (bltV "chr" [.int i]) Q := by
  have e : bltV "chr" [.int i] = (.str [i.toNat], 0 ≤ i ∧ i ≤ 1114111) := rfl
  rw [e]; exact ⟨hi, h⟩
theorem f_abs {i : Int} (h : Q (.int i.natAbs)) : Pw (bltV "abs" [.int i]) Q := by
  have e : bltV "abs" [.int i] = (.int (if i < 0 then -i else i), True) := rfl
  rw [e]
  refine ⟨trivial, ?_⟩
  have : (if i < 0 then -i else i) = (i.natAbs : Int) := by split <;> omega
  rw [this]; exact h
theorem f_int {i : Int} (h : Q (.int i)) : Pw (bltV "int" [.int i]) Q := by
  have e : bltV "int" [.int i] = (.int i, True) := rfl
  rw [e]; exact ⟨trivial, h⟩
theorem f_divmod {a b : Int} (hb : 0 < b ∧ b < 1073741824) (h : Q (.tup [.int (a / b), .int (a % b)])) : Pw (bltV "divmod" [.int a, .int b]) Q := by
  have e : bltV "divmod" [.int a, .int b] = (.tup [.int (a.fdiv b), .int (a.fmod b)], b ≠ 0 ∧ b.natAbs < 1073741824) := rfl
  rw [e, Int.fdiv_eq_ediv_of_nonneg _ (by omega), Int.fmod_eq_emod_of_nonneg _ (by omega)]
  exact ⟨⟨by omega, by omega⟩, h⟩
theorem f_min {a b : Int} (h : Q (.int (min a b))) : Pw (bltV "min" [.int a, .int b]) Q := by
  have e : bltV "min" [.int a, .int b] = (.int (if b < a then b else a), True) := rfl
  rw [e]
  refine ⟨trivial, ?_⟩
  have : (if b < a then b else a) = min a b := by split <;> omega
  rw [this]; exact h
theorem f_minL {a : List Int} (hl : 0 < a.length) (h : Q (.int (minL a))) : Pw (bltV "min" [.list (a.map .int)]) Q := by
  have e : bltV "min" [.list (a.map .int)] = (.int (minL (intsV (a.map .int)).1), (intsV (a.map .int)).2 ∧ 0 < (a.map V.int).length) := rfl
  rw [e, intsV_map]; exact ⟨⟨trivial, by simpa using hl⟩, h⟩
theorem f_sum {a : List Int} (h : Q (.int a.sum)) : Pw (bltV "sum" [.list (a.map .int)]) Q := by
  have e : bltV "sum" [.list (a.map .int)] = (.int (intsV (a.map .int)).1.sum, (intsV (a.map .int)).2) := rfl
  rw [e, intsV_map]; exact ⟨trivial, h⟩
theorem m_lower {x : List Nat} (hl : x.length ≤ lenLid) (h : Q (.str (Txt.lower ⟨x.toArray⟩).cps.toList)) : Pw (methV g (.str x) "lower" []) Q := ⟨hl, h⟩
theorem m_join {s : Str} {x : List (List Nat)} (hs : s.cps.toList = []) (hl : x.flatten.length ≤ lenLid) (h : Q (.str x.flatten)) : Pw (methV g (.str s.cps.toList) "join" [.list (x.map .str)]) Q := by
  have e : methV g (.str []) "join" [.list (x.map .str)] = (.str (strsV (x.map .str)).1.flatten, (strsV (x.map .str)).2 ∧ (strsV (x.map .str)).1.flatten.length ≤ lenLid ∧ ([] : List Nat) = []) := rfl
  rw [hs, e, strsV_map]; exact ⟨⟨trivial, hl, rfl⟩, h⟩
theorem m_decode {s : Str} {b : List UInt8} (hs : s.cps.toList = [97, 115, 99, 105, 105]) (hb : ∀ c ∈ b, c.toNat < 128) (hl : b.length ≤ lenLid) (h : Q (.str (b.map (·.toNat)))) : Pw (methV g (.bytes b) "decode" [.str s.cps.toList]) Q := by
  rw [hs]
  have e : methV g (.bytes b) "decode" [.str [97, 115, 99, 105, 105]] = (.str (b.map (·.toNat)), (∀ c ∈ b, c.toNat < 128) ∧ b.length ≤ lenLid ∧ ([97, 115, 99, 105, 105] : List Nat) = [97, 115, 99, 105, 105]) := rfl
  rw [e]; exact ⟨⟨hb, hl, rfl⟩, h⟩
theorem m_get {w : Value} {i : Int} (hg : (g.get w i).2) (h : Q (g.get w i).1) : Pw (methV g (.val w) "get" [.int i]) Q := by
  have e : methV g (.val w) "get" [.int i] = g.get w i := rfl
  rw [e]; exact ⟨hg, h⟩
theorem m_getC {D : Dat0} {fs : List FnT} {m : Nat} {w : Value} {i : Int} (hg : (D.get w i).2) (h : Q (D.get w i).1) : Pw (methV (CC D fs m) (.val w) "get" [.int i]) Q :=
  m_get (by rw [CC_get]; exact hg) (by rw [CC_get]; exact h)
end
end Mine
namespace Mine
open PySem PySem.W PyProof.Rows PySem.Calls
section
variable {Q : V → Prop} {g : Cfg}
theorem cutL_to {xs : List V} {i : Int} (h0 : 0 ≤ i) (hl : xs.length ≤ lenLid) (h : Q (.list (xs.take i.toNat))) : Pw (cutV (.list xs) .none (.int i) .none) Q := by
  unfold cutV
  dsimp only
  rw [clip_pos h0]
  refine ⟨⟨trivial, trivial, hl⟩, ?_⟩
  show Q (.list ((xs.take (min i.toNat xs.length)).drop 0))
  rw [List.drop_zero]
  by_cases e : i.toNat ≤ xs.length
  · rw [Nat.min_eq_left e]; exact h
  · rw [Nat.min_eq_right (by omega), List.take_length]
    rw [List.take_of_length_le (by omega)] at h; exact h
theorem cutL_from {xs : List V} {i : Int} (h0 : 0 ≤ i) (hl : xs.length ≤ lenLid) (h : Q (.list (xs.drop i.toNat))) : Pw (cutV (.list xs) (.int i) .none .none) Q := by
  unfold cutV
  dsimp only
  rw [clip_pos h0]
  refine ⟨⟨trivial, trivial, hl⟩, ?_⟩
  show Q (.list ((xs.take xs.length).drop (min i.toNat xs.length)))
  rw [List.take_length]
  by_cases e : i.toNat ≤ xs.length
  · rw [Nat.min_eq_left e]; exact h
  · rw [Nat.min_eq_right (by omega), List.drop_length]
    rw [List.drop_eq_nil_of_le (by omega)] at h; exact h
theorem cut_mid {xs : List Nat} {i j : Nat} {a b : Int} (ea : a = i) (eb : b = j) (hi : i ≤ xs.length) (hl : xs.length ≤ lenLid) (h : Q (.str ((xs.take j).drop i))) : Pw (cutV (.str xs) (.int a) (.int b) .none) Q := by
  subst ea eb
  unfold cutV
  dsimp only
  rw [clip_pos (by omega), clip_pos (by omega)]
  refine ⟨⟨trivial, trivial, hl⟩, ?_⟩
  show Q (.str ((xs.take (min (j : Int).toNat xs.length)).drop (min (i : Int).toNat xs.length)))
  rw [Int.toNat_natCast, Int.toNat_natCast, Nat.min_eq_left hi]
  by_cases e : j ≤ xs.length
  · rw [Nat.min_eq_left e]; exact h
  · rw [Nat.min_eq_right (by omega), List.take_length]
    rw [List.take_of_length_le (by omega)] at h; exact h
end
theorem rng2 {Q : List V → Prop} {m : Nat} {a b : Int} (ha : -lenLid ≤ a ∧ a ≤ lenLid ∧ b ≤ lenLid ∧ -lenLid ≤ b) (hm : b - a = m) (h : Q ((List.range m).map fun (i : Nat) => V.int (a + i))) : Pw (rangeOf [.int a, .int b]) Q := by
  show (True ∧ (rangeV a b 1).2) ∧ Q ((rangeV a b 1).1.map .int)
  unfold rangeV
  rw [rangeUp_map]
  refine ⟨⟨trivial, by decide, by decide, ha⟩, ?_⟩
  have e : ((b - a + 1 - 1).fdiv 1).toNat = m := by
    rw [Int.fdiv_one]; omega
  rw [e, List.map_map]
  have : (V.int ∘ fun (i : Nat) => a + i * 1) = fun (i : Nat) => V.int (a + i) := by
    funext i; simp
  rw [this]; exact h
theorem range_itemA {m i : Nat} {a : Int} {v : V} (h : ((List.range m).map fun (i : Nat) => V.int (a + i))[i]? = some v) : i < m ∧ v = .int (a + i) := by
  by_cases hi : i < m
  · simp [hi] at h
    exact ⟨hi, h.symm⟩
  · simp [hi] at h
/-! names, where the list's end is not known -/
theorem at_capt_hit {l : Ls} {k : Kd} {y : Str} {o : Option V} (hk : (k y == some .cell || k y == some .free) = true) (h : l.at y = o) : (l.capt k).at y = o := by
  subst h
  induction l with
  | nil => rfl
  | cons p r ih =>
    obtain ⟨z, u⟩ := p
    unfold Ls.capt at ih ⊢
    rw [List.filter_cons]
    simp only [Ls.at]
    by_cases hz : z = y
    · subst hz
      rw [if_pos rfl, if_pos hk]
      simp [Ls.at]
    · rw [if_neg hz]
      split
      · simp only [Ls.at]; rw [if_neg hz]; exact ih
      · exact ih
theorem at_capt_none {l : Ls} {k : Kd} {y : Str} (h : l.at y = none) : (l.capt k).at y = none := by
  cases e : (l.capt k).at y with
  | none => rfl
  | some v => rw [(at_capt e).1] at h; cases h
noncomputable def scopeChk (k : Kd) (cap : List Str) (scope : Scope) (x : Str) : Bool :=
  scope.kind == .function && scope.names.all fun p =>
    match p.2 with
    | .local => scope.names.lookup p.1 == some .local
    | .free => (k p.1 == some .cell || k p.1 == some .free) && cap.contains p.1 && p.1 != x
    | .cell => p.1 == x && scope.names.lookup x == some .cell
    | _ => true
theorem scopeOk_of {k : Kd} {l : Ls} {scope : Scope} {x : Str} (cap : List Str) (h1 : scopeChk k cap scope x = true) (h2 : ∀ y ∈ cap, ∃ v, l.at y = some v) : Mine.ev.scopeOk k l scope x = true := by
  unfold scopeChk at h1
  unfold Mine.ev.scopeOk
  rw [Bool.and_eq_true] at h1 ⊢
  refine ⟨h1.1, List.all_eq_true.mpr fun p hp => ?_⟩
  have := List.all_eq_true.mp h1.2 p hp
  revert this
  obtain ⟨n, kk⟩ := p
  cases kk with
  | free =>
    intro h
    have h : ((k n == some .cell || k n == some .free) && cap.contains n && n != x) = true := h
    show ((k n == some .cell || k n == some .free) && (l.at n).isSome && n != x) = true
    rw [Bool.and_eq_true, Bool.and_eq_true] at h ⊢
    obtain ⟨v, hv⟩ := h2 n (List.contains_iff_mem.mp h.1.2)
    exact ⟨⟨h.1.1, by rw [hv]; rfl⟩, h.2⟩
  | _ => exact id
/-- a value with parts, stored beside an own list -/
theorem WX_cleanW {g : Cfg} {k : Kd} {n : Nat} {l lc : Ls} {x : Str} {px p : Pos} {e : Expr} {Q : Fl → Ls → Prop} (hn : isNew e = false) (h0 : WE g k n l e fun v => isAtom v = false) (hc : l.clean = lc) (h : WE g k n lc e fun v => Q .next (l.put x ⟨v, false⟩)) (h1 : storable k x = true) : WX g k (n + 1) l (.Assign [.Name x px] e p) Q := by
  unfold WX
  have e1 : evS g k n l e = ev g k n lc e := by
    unfold evS
    dsimp only
    rw [if_neg (by rw [h0.2]; decide), hc]
  rw [ex_asg, if_neg (by rw [hn]; decide), e1]
  exact ⟨⟨h.1, h1⟩, h.2⟩
theorem WX_cleanK {g : Cfg} {k : Kd} {n : Nat} {l lc : Ls} {x : Str} {px p : Pos} {e : Expr} {Q : Fl → Ls → Prop} (hn : isNew e = false) (h0 : isAtom (ev g k n l e).1 = false) (hc : l.clean = lc) (h : WE g k n lc e fun v => Q .next (l.put x ⟨v, false⟩)) (h1 : storable k x = true) : WX g k (n + 1) l (.Assign [.Name x px] e p) Q := by
  unfold WX
  have e1 : evS g k n l e = ev g k n lc e := by
    unfold evS
    dsimp only
    rw [if_neg (by rw [h0]; decide), hc]
  rw [ex_asg, if_neg (by rw [hn]; decide), e1]
  exact ⟨⟨h.1, h1⟩, h.2⟩
/-- a list of numbers as a value -/
noncomputable abbrev vnats (xs : List Nat) : V := .list (xs.map fun (x : Nat) => V.int x)
theorem clean_put' {j : Ls} {x : Str} {v : V} (h : Ls.clean j = j) : Ls.clean (j.put x ⟨v, false⟩) = j.put x ⟨v, false⟩ := by
  induction j with
  | nil => rfl
  | cons p r ih =>
    obtain ⟨y, u⟩ := p
    have h2 : u.own = false ∧ Ls.clean r = r := by
      unfold Ls.clean at h ⊢
      rw [List.filter_eq_self] at h ⊢
      exact ⟨by simpa using h (y, u) (.head _), fun a ha => h a (.tail _ ha)⟩
    simp only [Ls.put]
    split
    · obtain ⟨h3, h4⟩ := h2
      show _ :: Ls.clean r = _
      rw [h4]
    · have := ih h2.2
      obtain ⟨uv, uo⟩ := u
      obtain ⟨h3, h4⟩ := h2
      dsimp only at h3
      subst h3
      show _ :: Ls.clean (Ls.put r x ⟨v, false⟩) = _
      rw [this]
theorem repStr_one' (c : Nat) : ∀ n, repStr [c] n = List.replicate n c
  | 0 => rfl
  | n + 1 => by rw [show repStr [c] (n + 1) = [c] ++ repStr [c] n from rfl, repStr_one' c n, List.replicate_succ]; rfl
theorem flat_one {α : Type} (B : List α) (f : α → Nat) : ((B.map fun c => [f c]).flatten) = B.map f := by
  induction B with
  | nil => rfl
  | cons b r ih => rw [List.map_cons, List.map_cons, List.flatten_cons, ih]; rfl
theorem at_nil {x : Str} : Ls.at [] x = none := rfl
theorem cutL_toN {Q : V → Prop} {F : List Nat} {p : Nat} (hl : F.length ≤ lenLid) (h : Q (vnats (F.take p))) : Pw (cutV (vnats F) .none (.int p) .none) Q :=
  cutL_to (by omega) (by rw [List.length_map]; exact hl) (by rw [Int.toNat_natCast, ← List.map_take]; exact h)
theorem cutL_fromN {Q : V → Prop} {F : List Nat} {p : Nat} (hl : F.length ≤ lenLid) (h : Q (vnats (F.drop p))) : Pw (cutV (vnats F) (.int p) .none .none) Q :=
  cutL_from (by omega) (by rw [List.length_map]; exact hl) (by rw [Int.toNat_natCast, ← List.map_drop]; exact h)
theorem b_catN {Q : V → Prop} {a b : List Nat} (hl : a.length + b.length ≤ lenLid) (h : Q (vnats (a ++ b))) : Pw (binV .Add (vnats a) (vnats b)) Q :=
  b_catL (by rw [List.length_map, List.length_map]; exact hl) (by rw [← List.map_append]; exact h)
theorem dec_ne (a b : Nat) : decide ((a : Int) ≠ (b : Int)) = (a != b) := by
  by_cases h : a = b
  · subst h; simp
  · have : ¬ (a : Int) = (b : Int) := fun e => h (Int.ofNat_inj.mp e)
    simp [h, this]
end Mine
namespace Mine
/-! the distance, as plain numbers -/
noncomputable def stripP : List Nat → List Nat → List Nat × List Nat
  | x :: xs, y :: ys => if x = y then stripP xs ys else (x :: xs, y :: ys)
  | a, b => (a, b)
noncomputable def innerN (sub : Nat → Nat → Nat) (c : Nat) : List Nat → List Nat → Nat → Nat → Nat → List Nat × Nat × Nat
  | x :: xs, w :: ws, d, r, m =>
    let res := min (min r w + 2) (d + sub c x)
    let q := innerN sub c xs ws w res (if res < m then res else m)
    (res :: q.1, q.2.1, q.2.2)
  | _, _, d, r, m => ([], r, m)
noncomputable def outerN (sub : Nat → Nat → Nat) (mc : Nat) (a : List Nat) : List Nat → Nat → List Nat → Nat → Nat
  | [], _, _, result => result
  | c :: cs, i, row, _ =>
    let q := innerN sub c a row (2 * i) (2 * i) 9223372036854775807
    if mc < q.2.2 then mc + 1 else outerN sub mc a cs (i + 1) q.1 q.2.1
noncomputable def sortedN (sub : Nat → Nat → Nat) (mc : Nat) (a b : List Nat) : Nat :=
  if mc < (b.length - a.length) * 2 then mc + 1 else outerN sub mc a b 0 ((List.range a.length).map fun i => 2 + i * 2) 0
noncomputable def coreN (sub : Nat → Nat → Nat) (mc : Nat) (a b : List Nat) : Nat :=
  if a.length = 0 ∨ b.length = 0 then 2 * (a.length + b.length)
  else if 40 < a.length ∨ 40 < b.length then mc + 1
  else if b.length < a.length then sortedN sub mc b a else sortedN sub mc a b
theorem stripP_cons (x y : Nat) (xs ys : List Nat) : stripP (x :: xs) (y :: ys) = if x = y then stripP xs ys else (x :: xs, y :: ys) := rfl
theorem innerN_nil (sub : Nat → Nat → Nat) (c : Nat) (row : List Nat) (d r m : Nat) : innerN sub c [] row d r m = ([], r, m) := by cases row <;> rfl
theorem innerN_cons (sub : Nat → Nat → Nat) (c x w : Nat) (xs ws : List Nat) (d r m : Nat) : innerN sub c (x :: xs) (w :: ws) d r m =
    (min (min r w + 2) (d + sub c x) :: (innerN sub c xs ws w (min (min r w + 2) (d + sub c x)) (if min (min r w + 2) (d + sub c x) < m then min (min r w + 2) (d + sub c x) else m)).1,
      (innerN sub c xs ws w (min (min r w + 2) (d + sub c x)) (if min (min r w + 2) (d + sub c x) < m then min (min r w + 2) (d + sub c x) else m)).2.1,
      (innerN sub c xs ws w (min (min r w + 2) (d + sub c x)) (if min (min r w + 2) (d + sub c x) < m then min (min r w + 2) (d + sub c x) else m)).2.2) := rfl
theorem outerN_nil (sub : Nat → Nat → Nat) (mc : Nat) (a : List Nat) (i : Nat) (row : List Nat) (r : Nat) : outerN sub mc a [] i row r = r := rfl
theorem outerN_cons (sub : Nat → Nat → Nat) (mc : Nat) (a : List Nat) (c : Nat) (cs : List Nat) (i : Nat) (row : List Nat) (r : Nat) : outerN sub mc a (c :: cs) i row r =
    if mc < (innerN sub c a row (2 * i) (2 * i) 9223372036854775807).2.2 then mc + 1 else outerN sub mc a cs (i + 1) (innerN sub c a row (2 * i) (2 * i) 9223372036854775807).1 (innerN sub c a row (2 * i) (2 * i) 9223372036854775807).2.1 := rfl
noncomputable def cutN (a b : List Nat) : List Nat × List Nat :=
  let p := stripP a b
  let q := stripP p.1.reverse p.2.reverse
  (q.1.reverse, q.2.reverse)
noncomputable def levN (sub : Nat → Nat → Nat) (a b : List Nat) (mc : Nat) : Nat :=
  if a = b then 0 else coreN sub mc (cutN a b).1 (cutN a b).2

theorem stripP_step {a b : List Nat} {i : Nat} (ha : i < a.length) (hb : i < b.length) : stripP (a.drop i) (b.drop i) = if a.getD i 0 = b.getD i 0 then stripP (a.drop (i + 1)) (b.drop (i + 1)) else (a.drop i, b.drop i) := by
  rw [List.drop_eq_getElem_cons ha, List.drop_eq_getElem_cons hb]
  rw [stripP_cons]
  simp only [List.getD_eq_getElem?_getD, List.getElem?_eq_getElem ha, List.getElem?_eq_getElem hb, Option.getD_some]
theorem stripP_nil {a b : List Nat} {i : Nat} (h : a.length ≤ i ∨ b.length ≤ i) : stripP (a.drop i) (b.drop i) = (a.drop i, b.drop i) := by
  rcases h with h | h
  · rw [List.drop_eq_nil_of_le h]
    cases b.drop i <;> rfl
  · rw [List.drop_eq_nil_of_le h]
    cases a.drop i <;> rfl
theorem innerN_step (sub : Nat → Nat → Nat) (c : Nat) {a row : List Nat} {i d r m : Nat} (ha : i < a.length) (hb : i < row.length) :
    innerN sub c (a.drop i) (row.drop i) d r m =
      (min (min r (row.getD i 0) + 2) (d + sub c (a.getD i 0)) :: (innerN sub c (a.drop (i + 1)) (row.drop (i + 1)) (row.getD i 0) (min (min r (row.getD i 0) + 2) (d + sub c (a.getD i 0))) (if min (min r (row.getD i 0) + 2) (d + sub c (a.getD i 0)) < m then min (min r (row.getD i 0) + 2) (d + sub c (a.getD i 0)) else m)).1,
       (innerN sub c (a.drop (i + 1)) (row.drop (i + 1)) (row.getD i 0) (min (min r (row.getD i 0) + 2) (d + sub c (a.getD i 0))) (if min (min r (row.getD i 0) + 2) (d + sub c (a.getD i 0)) < m then min (min r (row.getD i 0) + 2) (d + sub c (a.getD i 0)) else m)).2) := by
  rw [List.drop_eq_getElem_cons ha, List.drop_eq_getElem_cons hb]
  rw [innerN_cons]
  simp only [List.getD_eq_getElem?_getD, List.getElem?_eq_getElem ha, List.getElem?_eq_getElem hb, Option.getD_some]
/-- the digits to the base 16 -/
noncomputable def digsF : Nat → Nat → List Nat
  | 0, _ => []
  | f + 1, n => if n = 0 then [] else digsF f (n / 16) ++ [n % 16]
noncomputable def digs (n : Nat) : List Nat := digsF n n
theorem digsF_fuel : ∀ (f n : Nat), n ≤ f → digsF f n = digsF n n
  | 0, 0, _ => rfl
  | f + 1, 0, _ => rfl
  | f + 1, n + 1, h => by
    have h2 : (n + 1) / 16 ≤ n := Nat.le_of_lt_succ (Nat.div_lt_self (Nat.succ_pos n) (by decide))
    show (if n + 1 = 0 then [] else digsF f ((n + 1) / 16) ++ [(n + 1) % 16]) = (if n + 1 = 0 then [] else digsF n ((n + 1) / 16) ++ [(n + 1) % 16])
    rw [digsF_fuel f _ (Nat.le_trans h2 (Nat.le_of_succ_le_succ h)), digsF_fuel n _ h2]
theorem digs_eq (n : Nat) : digs n = if h : n = 0 then [] else digs (n / 16) ++ [n % 16] := by
  cases n with
  | zero => rfl
  | succ n =>
    rw [dif_neg (Nat.succ_ne_zero n)]
    show (if n + 1 = 0 then [] else digsF n ((n + 1) / 16) ++ [(n + 1) % 16]) = _
    rw [if_neg (Nat.succ_ne_zero n), digsF_fuel n _ (Nat.le_of_lt_succ (Nat.div_lt_self (Nat.succ_pos n) (by decide)))]
    rfl
/-- the word of a number: the first digit is not nought -/
theorem digs_head (n : Nat) : ∀ d ∈ (digs n).head?, d ≠ 0 := by
  induction n using Nat.strongRecOn with
  | ind n ih =>
    intro d hd
    rw [digs_eq] at hd
    split at hd
    · cases hd
    · rename_i hn
      by_cases h0 : n / 16 = 0
      · rw [h0] at hd
        rw [digs_eq, dif_pos rfl] at hd
        simp at hd
        omega
      · have := ih (n / 16) (by omega) d
        apply this
        have hne : digs (n / 16) ≠ [] := by
          rw [digs_eq, dif_neg h0]; simp
        cases e : digs (n / 16) with
        | nil => exact absurd e hne
        | cons a r => rw [e] at hd; simpa using hd
theorem digs_lt (n : Nat) : ∀ d ∈ digs n, d < 16 := by
  induction n using Nat.strongRecOn with
  | ind n ih =>
    intro d hd
    rw [digs_eq] at hd
    split at hd
    · cases hd
    · rename_i hn
      rcases List.mem_append.mp hd with hd | hd
      · exact ih _ (by omega) d hd
      · rcases List.mem_singleton.mp hd with rfl; omega
theorem digs_length : ∀ (s n : Nat), n < 16 ^ s → (digs n).length ≤ s
  | 0, n, h => by
    have : n = 0 := by simpa using h
    subst this; rw [digs_eq, dif_pos rfl]; simp
  | s + 1, n, h => by
    rw [digs_eq]
    split
    · simp
    · rw [List.length_append]
      have := digs_length s (n / 16) (by rw [Nat.pow_succ] at h; omega)
      simp; omega
/-- the last s digits -/
noncomputable def padS : Nat → Nat → List Nat
  | 0, _ => []
  | s + 1, n => padS s (n / 16) ++ [n % 16]
theorem pad_digs : ∀ (s n : Nat), n < 16 ^ s → List.replicate (s - (digs n).length) 0 ++ digs n = padS s n
  | 0, n, h => by
    have : n = 0 := by simpa using h
    subst this; rw [digs_eq, dif_pos rfl]; rfl
  | s + 1, n, h => by
    have h' : n / 16 < 16 ^ s := by rw [Nat.pow_succ] at h; omega
    have ih := pad_digs s (n / 16) h'
    have hl := digs_length s (n / 16) h'
    show _ = padS s (n / 16) ++ [n % 16]
    rw [← ih, digs_eq]
    split
    · rename_i h0
      subst h0
      rw [Nat.zero_div, digs_eq, dif_pos rfl]
      simp [List.replicate_succ']
    · rw [List.length_append, List.length_singleton, show s + 1 - ((digs (n / 16)).length + 1) = s - (digs (n / 16)).length by omega, List.append_assoc]
noncomputable def horner (f : Nat → Nat) : Nat → Nat
  | 0 => 0
  | s + 1 => 16 * horner f s + f s
/-! renaming -/
section
variable {S : Nat → Prop} {σ : Nat → Nat} {sub sub' : Nat → Nat → Nat}
theorem map_inj {a b : List Nat} (hi : ∀ x y, S x → S y → (σ x = σ y ↔ x = y)) (ha : ∀ x ∈ a, S x) (hb : ∀ x ∈ b, S x) : a.map σ = b.map σ ↔ a = b := by
  induction a generalizing b with
  | nil => cases b <;> simp
  | cons x r ih =>
    cases b with
    | nil => simp
    | cons y q =>
      simp only [List.map_cons, List.cons.injEq]
      rw [hi x y (ha x (.head _)) (hb y (.head _)), ih (fun z hz => ha z (.tail _ hz)) (fun z hz => hb z (.tail _ hz))]
theorem strip_map (hi : ∀ x y, S x → S y → (σ x = σ y ↔ x = y)) : ∀ {a b : List Nat}, (∀ x ∈ a, S x) → (∀ x ∈ b, S x) → stripP (a.map σ) (b.map σ) = ((stripP a b).1.map σ, (stripP a b).2.map σ) ∧ (∀ x ∈ (stripP a b).1, S x) ∧ (∀ x ∈ (stripP a b).2, S x)
  | [], b, ha, hb => by
    have e : ∀ c : List Nat, stripP [] c = ([], c) := fun c => by cases c <;> rfl
    rw [List.map_nil, e, e]; exact ⟨rfl, ha, hb⟩
  | x :: xs, [], ha, hb => ⟨rfl, ha, hb⟩
  | x :: xs, y :: ys, ha, hb => by
    show (if σ x = σ y then stripP (xs.map σ) (ys.map σ) else (σ x :: xs.map σ, σ y :: ys.map σ)) = ((if x = y then stripP xs ys else (x :: xs, y :: ys)).1.map σ, (if x = y then stripP xs ys else (x :: xs, y :: ys)).2.map σ) ∧ (∀ z ∈ (if x = y then stripP xs ys else (x :: xs, y :: ys)).1, S z) ∧ (∀ z ∈ (if x = y then stripP xs ys else (x :: xs, y :: ys)).2, S z)
    by_cases h : x = y
    · rw [if_pos h, if_pos ((hi x y (ha x (.head _)) (hb y (.head _))).mpr h)]
      exact strip_map hi (fun z hz => ha z (.tail _ hz)) (fun z hz => hb z (.tail _ hz))
    · rw [if_neg h, if_neg (fun q => h ((hi x y (ha x (.head _)) (hb y (.head _))).mp q))]
      exact ⟨rfl, ha, hb⟩
theorem inner_map (hs : ∀ x y, S x → S y → sub (σ x) (σ y) = sub' x y) {c : Nat} (hc : S c) : ∀ {a row : List Nat} {d r m : Nat}, (∀ x ∈ a, S x) → innerN sub (σ c) (a.map σ) row d r m = innerN sub' c a row d r m
  | [], _, _, _, _, _ => rfl
  | x :: xs, [], _, _, _, _ => rfl
  | x :: xs, w :: ws, d, r, m, ha => by
    rw [List.map_cons, innerN_cons, innerN_cons, hs c x hc (ha x (.head _)), inner_map hs hc (fun z hz => ha z (.tail _ hz))]
theorem outer_map (hs : ∀ x y, S x → S y → sub (σ x) (σ y) = sub' x y) {mc : Nat} {a : List Nat} (ha : ∀ x ∈ a, S x) : ∀ {b : List Nat} {i : Nat} {row : List Nat} {r : Nat}, (∀ x ∈ b, S x) → outerN sub mc (a.map σ) (b.map σ) i row r = outerN sub' mc a b i row r
  | [], _, _, _, _ => rfl
  | c :: cs, i, row, r, hb => by
    rw [List.map_cons, outerN_cons, outerN_cons, inner_map hs (hb c (.head _)) ha]
    split
    · rfl
    · exact outer_map hs ha (fun z hz => hb z (.tail _ hz))
theorem sorted_map (hs : ∀ x y, S x → S y → sub (σ x) (σ y) = sub' x y) {mc : Nat} {a b : List Nat} (ha : ∀ x ∈ a, S x) (hb : ∀ x ∈ b, S x) : sortedN sub mc (a.map σ) (b.map σ) = sortedN sub' mc a b := by
  unfold sortedN
  rw [List.length_map, List.length_map, outer_map hs ha hb]
theorem core_map (hs : ∀ x y, S x → S y → sub (σ x) (σ y) = sub' x y) {mc : Nat} {a b : List Nat} (ha : ∀ x ∈ a, S x) (hb : ∀ x ∈ b, S x) : coreN sub mc (a.map σ) (b.map σ) = coreN sub' mc a b := by
  unfold coreN
  rw [List.length_map, List.length_map, sorted_map hs ha hb, sorted_map hs hb ha]
theorem lev_map (hi : ∀ x y, S x → S y → (σ x = σ y ↔ x = y)) (hs : ∀ x y, S x → S y → sub (σ x) (σ y) = sub' x y) {mc : Nat} {a b : List Nat} (ha : ∀ x ∈ a, S x) (hb : ∀ x ∈ b, S x) : levN sub (a.map σ) (b.map σ) mc = levN sub' a b mc := by
  unfold levN cutN
  obtain ⟨e1, h1, h2⟩ := strip_map hi ha hb
  obtain ⟨e2, h3, h4⟩ := strip_map hi (a := (stripP a b).1.reverse) (b := (stripP a b).2.reverse) (fun x hx => h1 x (List.mem_reverse.mp hx)) (fun x hx => h2 x (List.mem_reverse.mp hx))
  rw [e1]
  dsimp only
  rw [← List.map_reverse, ← List.map_reverse, e2]
  dsimp only
  rw [← List.map_reverse, ← List.map_reverse, core_map hs (fun x hx => h3 x (List.mem_reverse.mp hx)) (fun x hx => h4 x (List.mem_reverse.mp hx))]
  by_cases h : a = b
  · rw [if_pos h, if_pos ((map_inj hi ha hb).mpr h)]
  · rw [if_neg h, if_neg (fun q => h ((map_inj hi ha hb).mp q))]
end
end Mine
namespace Mine
/-! the distance reckoned fast by the kernel; signs: 2 i a great letter, 2 i + 1 a small one -/
noncomputable section
noncomputable def mn (a b : Nat) : Nat := Nat.sub a (Nat.sub a b)
theorem mn_eq (a b : Nat) : mn a b = min a b := by
  show a - (a - b) = min a b
  first | exact Nat.sub_sub_eq_min a b | omega
noncomputable def costQ (x y : Nat) : Nat := Bool.rec (Bool.rec 2 1 (Nat.beq (Nat.div x 2) (Nat.div y 2))) 0 (Nat.beq x y)
theorem beq_t {a b : Nat} (h : a = b) : Nat.beq a b = true := by subst h; exact Nat.beq_refl a
theorem beq_f {a b : Nat} (h : a ≠ b) : Nat.beq a b = false := by
  cases e : Nat.beq a b
  · rfl
  · exact absurd (Nat.eq_of_beq_eq_true e) h
theorem costQ_eq (x y : Nat) : costQ x y = if x = y then 0 else if x / 2 = y / 2 then 1 else 2 := by
  unfold costQ
  by_cases h : x = y
  · rw [if_pos h, beq_t h]
  · rw [if_neg h, beq_f h]
    by_cases h2 : x / 2 = y / 2
    · rw [if_pos h2, beq_t (show Nat.div x 2 = Nat.div y 2 from h2)]
    · rw [if_neg h2, beq_f (show Nat.div x 2 ≠ Nat.div y 2 from h2)]
noncomputable def innerQ (c : Nat) (as : List Nat) : List Nat → Nat → Nat → List Nat :=
  List.rec (motive := fun _ => List Nat → Nat → Nat → List Nat) (fun _ _ _ => []) (fun x _ ih row d r =>
    List.rec (motive := fun _ => List Nat) [] (fun w ws _ =>
      (fun res => List.cons res (ih ws w res)) (mn (Nat.add (mn r w) 2) (Nat.add d (costQ c x)))) row) as
theorem innerQ_nil (c : Nat) (row : List Nat) (d r : Nat) : innerQ c [] row d r = [] := rfl
theorem innerQ_cons (c x w : Nat) (xs ws : List Nat) (d r : Nat) : innerQ c (x :: xs) (w :: ws) d r = min (min r w + 2) (d + costQ c x) :: innerQ c xs ws w (min (min r w + 2) (d + costQ c x)) := by
  rw [← mn_eq, ← mn_eq]; rfl
noncomputable def lastQ (l : List Nat) : Nat → Nat := List.rec (motive := fun _ => Nat → Nat) (fun d => d) (fun x _ ih _ => ih x) l
theorem lastQ_cons (x : Nat) (l : List Nat) (d : Nat) : lastQ (x :: l) d = lastQ l x := rfl
noncomputable def minQ (l : List Nat) : Nat := List.rec (motive := fun _ => Nat) 9223372036854775807 (fun x _ ih => mn x ih) l
theorem minQ_cons (x : Nat) (l : List Nat) : minQ (x :: l) = min x (minQ l) := by rw [← mn_eq]; rfl
theorem ite_mn (a b : Nat) : (if a < b then a else b) = min b a := by split <;> omega
theorem inner_Q (c : Nat) : ∀ (a row : List Nat) (d r m : Nat), m ≤ 9223372036854775807 → innerN costQ c a row d r m = (innerQ c a row d r, lastQ (innerQ c a row d r) r, min m (minQ (innerQ c a row d r)))
  | [], row, d, r, m, hm => by
    have e : innerN costQ c [] row d r m = ([], r, m) := by cases row <;> rfl
    rw [e, innerQ_nil]
    show _ = ([], r, min m 9223372036854775807)
    rw [Nat.min_eq_left hm]
  | x :: xs, [], d, r, m, hm => by
    show ([], r, m) = ([], r, min m 9223372036854775807)
    rw [Nat.min_eq_left hm]
  | x :: xs, w :: ws, d, r, m, hm => by
    rw [innerN_cons, ite_mn, inner_Q c xs ws w _ _ (Nat.le_trans (Nat.min_le_left ..) hm), innerQ_cons, lastQ_cons, minQ_cons, Nat.min_assoc]
/-- the rows one by one: the last is due at its end, no row is above it -/
noncomputable def outerQ (as bs : List Nat) : Nat → List Nat → Nat → Bool :=
  List.rec (motive := fun _ => Nat → List Nat → Nat → Bool) (fun _ row due => Nat.beq (lastQ row 0) due) (fun c _ ih i row due =>
    (fun r' => and (Nat.ble (minQ r') due) (ih (Nat.succ i) r' due)) (innerQ c as row (Nat.mul 2 i) (Nat.mul 2 i))) bs
theorem outer_Q {x : Nat} {xs : List Nat} {due mc : Nat} (hm : due ≤ mc + 1) : ∀ (bs : List Nat) (i : Nat) (w : Nat) (ws : List Nat) (res : Nat), (bs = [] → res = lastQ (w :: ws) 0) → outerQ (x :: xs) bs i (w :: ws) due = true → outerN costQ mc (x :: xs) bs i (w :: ws) res = due
  | [], i, w, ws, res, hr, h => by
    have h : Nat.beq (lastQ (w :: ws) 0) due = true := h
    rw [outerN_nil, hr rfl]
    exact Nat.eq_of_beq_eq_true h
  | c :: cs, i, w, ws, res, hr, h => by
    have h : and (Nat.ble (minQ (innerQ c (x :: xs) (w :: ws) (2 * i) (2 * i))) due) (outerQ (x :: xs) cs (i + 1) (innerQ c (x :: xs) (w :: ws) (2 * i) (2 * i)) due) = true := h
    rw [Bool.and_eq_true] at h
    have h1 := Nat.le_of_ble_eq_true h.1
    rw [outerN_cons, inner_Q c _ _ _ _ _ (Nat.le_refl _)]
    dsimp only
    have h2 := h.2
    rw [innerQ_cons] at h1 h2 ⊢
    by_cases e : mc < min 9223372036854775807 (minQ (min (min (2 * i) w + 2) (2 * i + costQ c x) :: innerQ c xs ws w (min (min (2 * i) w + 2) (2 * i + costQ c x))))
    · rw [if_pos e]; omega
    · rw [if_neg e]
      exact outer_Q hm cs (i + 1) _ _ _ (fun _ => rfl) h2
noncomputable def rowQ (n : Nat) : List Nat := (List.range n).map fun i => 2 + i * 2
noncomputable def sortedQ (a b : List Nat) (due : Nat) : Bool := and (Nat.ble (Nat.mul (Nat.sub b.length a.length) 2) due) (outerQ a b 0 (rowQ a.length) due)
theorem sorted_Q {a b : List Nat} {due mc : Nat} (hm : due ≤ mc + 1) (ha : a ≠ []) (hb : b ≠ []) (h : sortedQ a b due = true) : sortedN costQ mc a b = due := by
  unfold sortedQ at h
  rw [Bool.and_eq_true] at h
  have h1 := Nat.le_of_ble_eq_true h.1
  have h1 : (b.length - a.length) * 2 ≤ due := h1
  unfold sortedN
  split
  · omega
  · cases a with
    | nil => exact absurd rfl ha
    | cons x xs =>
      have e : rowQ (x :: xs).length = 2 :: ((List.range xs.length).map fun i => 2 + (i + 1) * 2) := by
        unfold rowQ
        rw [List.length_cons, List.range_succ_eq_map, List.map_cons, List.map_map]; rfl
      have e2 : (List.map (fun i => 2 + i * 2) (List.range (x :: xs).length)) = rowQ (x :: xs).length := rfl
      rw [e2, e]
      rw [e] at h
      exact outer_Q hm b 0 _ _ _ (fun q => absurd q hb) h.2
/-- the check of a distance -/
noncomputable def coreQ (a b : List Nat) (due : Nat) : Bool :=
  match a, b with
  | [], b => Nat.beq (Nat.mul 2 b.length) due
  | a, [] => Nat.beq (Nat.mul 2 a.length) due
  | x :: xs, y :: ys => and (and (Nat.ble xs.length 39) (Nat.ble ys.length 39)) (bif Nat.ble (Nat.succ ys.length) xs.length then sortedQ (y :: ys) (x :: xs) due else sortedQ (x :: xs) (y :: ys) due)
theorem core_Q {a b : List Nat} {due mc : Nat} (hm : due ≤ mc + 1) (h : coreQ a b due = true) : coreN costQ mc a b = due := by
  unfold coreQ at h
  unfold coreN
  split at h
  · have := Nat.eq_of_beq_eq_true h
    rw [if_pos (by simp)]
    simp; exact this
  · have := Nat.eq_of_beq_eq_true h
    rw [if_pos (by simp)]
    simp; exact this
  · rename_i x xs y ys
    rw [Bool.and_eq_true, Bool.and_eq_true] at h
    have h1 := Nat.le_of_ble_eq_true h.1.1
    have h2 := Nat.le_of_ble_eq_true h.1.2
    rw [if_neg (by simp), if_neg (by simp only [List.length_cons]; omega)]
    have h3 := h.2
    by_cases e : (y :: ys).length < (x :: xs).length
    · rw [if_pos e]
      rw [show Nat.ble (Nat.succ ys.length) xs.length = true from Nat.ble_eq_true_of_le (by simp only [List.length_cons] at e; omega)] at h3
      exact sorted_Q hm (by simp) (by simp) h3
    · rw [if_neg e]
      rw [show Nat.ble (Nat.succ ys.length) xs.length = false from by
        cases q : Nat.ble (Nat.succ ys.length) xs.length
        · rfl
        · have := Nat.le_of_ble_eq_true q
          simp only [List.length_cons] at e
          omega] at h3
      exact sorted_Q hm (by simp) (by simp) h3
noncomputable def levQ (a b : List Nat) (due : Nat) : Bool := (fun c => coreQ c.1 c.2 due) (cutN a b)
theorem lev_Q {a b : List Nat} {due mc : Nat} (hm : due ≤ mc + 1) (h : levQ a b due = true) : levN costQ a b mc = due := by
  unfold levN
  split
  · rename_i e
    subst e
    have h : coreQ (cutN a a).1 (cutN a a).2 due = true := h
    have e2 : ∀ a : List Nat, stripP a a = ([], []) := fun a => by
      induction a with
      | nil => rfl
      | cons x r ih => rw [stripP_cons, if_pos rfl]; exact ih
    unfold cutN at h
    rw [e2] at h
    have h : Nat.beq 0 due = true := h
    exact Nat.eq_of_beq_eq_true h
  · exact core_Q hm h
end
end Mine
namespace Mine
open PySem PySem.W PyProof.Rows PySem.Calls
/-- one step -/
local macro_rules | `(tactic| walk_at "sd") => `(tactic| first | assumption | decide | omega | ((try simp only [lenLid, List.length_map, List.length_range, List.length_append, List.length_cons, List.length_nil, List.length_drop, List.length_take, List.length_replicate] at *); first | omega | decide))
local macro_rules | `(tactic| walk_at "sv") => `(tactic| first
  | (with_reducible first | apply b_add | apply n_int | apply b_sub | apply c_eqI | apply c_neI | apply c_ltI | apply c_leI | apply c_gtI | apply c_eqS | apply c_neS | apply c_eqL | apply c_inD | apply t_bool | apply t_int | apply f_ord | apply f_abs | apply f_int | apply f_min | apply f_sum)
  | ((with_reducible first | apply b_mul | apply b_divp | apply b_modp | apply b_pow16 | apply b_pow | apply b_cat | apply b_rep | apply b_catB | apply t_str | apply f_lenS | apply f_lenM | apply f_lenL | apply f_chr | apply f_divmod | apply m_lower); walk_at "sd")
  | ((with_reducible first | apply c_inC | apply m_getC); exact rfl)
  | ((with_reducible apply m_join); decide +kernel; walk_at "sd")
  | ((with_reducible first | apply i_strN | apply i_natsN | apply i_intsN ); walk_at "sd"; walk_at "sd")
  | ((with_reducible first | apply cut_fromN ); walk_at "sd")
  | ((with_reducible first | apply i_ints | apply i_str); walk_at "sd"; walk_at "sd"; walk_at "sd")
  | ((with_reducible first | apply i_strn | apply i_nats); walk_at "sd"; walk_at "sd"; walk_at "sd")
  | ((with_reducible apply cut_step); decide; walk_at "sd")
  | ((with_reducible first | apply cut_from | apply cut_to); walk_at "sd"; walk_at "sd"))
local macro_rules | `(tactic| walk_at "at") => `(tactic| first
  | (with_reducible exact at_hit)
  | (with_reducible exact at_put_hit)
  | ((with_reducible first | apply at_miss | apply at_put_miss | apply at_capt_hit); exact rfl; walk_at "at")
  | (with_reducible assumption)
  | ((with_reducible first | apply at_capt_none | apply at_clean_none); walk_at "at")
  | (with_reducible exact at_nil)
  | exact at_only (by assumption) (by rfl)
  | exact rfl)
local macro_rules | `(tactic| walk_at "atv") => `(tactic| ((refine' Eq.trans (b := some _) ?h1 ?h2); (case h1 => walk_at "at"); (case h2 => rfl)))
local macro_rules | `(tactic| walk_at "cl") => `(tactic| first
  | ((with_reducible first | apply clean_plain | apply clean_own | apply clean_put'); walk_at "cl")
  | (with_reducible assumption)
  | exact rfl)
local macro_rules | `(tactic| walk_at "cp") => `(tactic| first
  | ((with_reducible first | apply capt_keep | apply capt_drop); exact rfl; walk_at "cp")
  | exact rfl)
local macro_rules | `(tactic| walk_at "cps") => `(tactic| ((case k1 => walk_at "cp"); (case k2 => walk_at "sd"); (case k4 => walk_at "at"); (case k9 => exact fun _ _ => Expr.noConfusion)))
local macro_rules | `(tactic| walk_at "only") => `(tactic| first
  | assumption
  | exact only_nil
  | (refine only_put ?_ (by rfl); walk_at "only"))
local macro_rules | `(tactic| walk_at "pt") => `(tactic| first
  | (with_reducible exact put_hit)
  | (with_reducible exact put_nil)
  | ((with_reducible apply put_miss); exact rfl; walk_at "pt")
  | exact rfl)
local macro_rules | `(tactic| walk_at "pu") => `(tactic| first
  | (with_reducible exact put_hit)
  | (with_reducible exact put_nil)
  | ((with_reducible apply put_miss); exact rfl; walk_at "pt"))
local macro_rules | `(tactic| walk_at "st") => `(tactic| first
  | ((with_reducible apply then_put2); walk_at "pt"; walk_at "pt")
  | ((with_reducible apply then_put); walk_at "pt")
  | ((with_reducible first | apply wxs_put | apply we_put | apply wt_put); walk_at "pu")
  | (with_reducible first | apply then_next | apply turn_next | apply turn_ret | apply then_ret | apply post_ret | apply WXs_nil | apply WXs_cons | apply WX_ret | apply WX_if | apply WE_int | apply WE_str | apply WE_none | apply WE_bool | apply WE_bytes | apply WE_bin | apply WE_neg | apply WE_or | apply WE_ife | apply WE_list | apply WE_tup | apply WT_not | apply WT_and | apply WT_or | apply WA_nil | apply WA_cons | apply WR_nil | apply WR_cons | apply WO_none | apply WO_some | apply WEs_nil)
  | ((with_reducible refine WX_clean (e := .ListComp _ _ _ _) ?h1 ?h2 ?_ ?h3); (case h1 => exact rfl); (case h2 => exact rfl); (case h3 => exact rfl))
  | ((with_reducible refine WX_atom ?h1 ?_ ?h3); (case h1 => exact rfl); (case h3 => exact rfl))
  | ((with_reducible apply WX_set); walk_at "at"; exact rfl)
  | ((with_reducible refine' WX_aug ?h1 ?_ ?h3); (case h1 => walk_at "at"); (case h3 => exact rfl); (try dsimp only))
  | ((with_reducible refine' WE_cutOr ?h1 ?h2 ?h3 ?h4 ?_); (case h1 => walk_at "at"); (case h2 => walk_at "at"); (case h3 => walk_at "sd"); (case h4 => walk_at "sd"))
  | (with_reducible apply WE_cut)
  | ((with_reducible refine WE_item ?hb ?_); (case hb => exact fun _ _ _ _ => Expr.noConfusion))
  | ((with_reducible refine WE_meth ?_ ?h1 ?h2 ?h3); (case h1 => rfl); (case h2 => rfl); (case h3 => decide))
  | ((with_reducible refine WE_blt ?_ ?h1 ?h2 ?h3); (case h1 => exact rfl); (case h2 => walk_at "at"); (case h3 => exact rfl))
  | ((with_reducible refine WE_fn ?_ ?h1 ?h2 ?h3 ?h4); (case h1 => exact rfl); (case h2 => exact rfl); (case h3 => walk_at "at"); (case h4 => exact rfl))
  | ((with_reducible refine WT_cmp2 ?hm ?_); (case hm => exact rfl))
  | ((with_reducible first | refine WE_cmp ?_ ?hb | refine WT_cmp ?_ ?hb | refine WT_val ?_ ?hb); (case hb => rfl))
  | ((with_reducible refine WEs_cons ?_ ?hb); (case hb => exact fun _ _ => Expr.noConfusion))
  | ((with_reducible refine' WE_name ?h1 ?_); (case h1 => walk_at "at"); (try dsimp only))
  | ((with_reducible refine' WE_globC ?h1 ?h2 ?h3 ?_); (case h1 => walk_at "at"); (case h2 => exact rfl); (case h3 => exact rfl); (try dsimp only))
  | (with_reducible refine WX_two ?_ rfl rfl)
  | ((with_reducible refine And.intro (a := _ ≤ lenLid) ?h1 ?_); (case h1 => walk_at "sd"))
  | ((with_reducible refine And.intro (a := isAtom _ = true) ?h1 ?_); (case h1 => exact rfl))
  | ((with_reducible refine And.intro (a := augOk _ _ _ = true) ?h1 ?_); (case h1 => exact rfl))
  | ((with_reducible refine WX_tup ?_ ?h1 ?h2 ?h3 ?h4); (case h1 => exact rfl); (case h2 => exact rfl); (case h3 => exact rfl); (case h4 => decide))
  | (refine ⟨_, _, rfl, rfl, rfl, ?_⟩)
  | (with_reducible first | apply split_t | apply split_f | refine split_d (fun hc => ?_) (fun hc => ?_) | refine split_e (fun hc => ?_) (fun hc => ?_) | refine split_ne (fun hc => ?_) (fun hc => ?_))
  | walk_at "sv")
noncomputable def low (c : Nat) : List Nat := (Txt.lower ⟨[c].toArray⟩).cps.toList
noncomputable def mapB3 (es : List DictEntry) (c : Nat) : List Nat := match tabGet es c with
  | .str x => x
  | _ => low c
theorem tabGet_form (es : List DictEntry) (i : Int) : tabGet es i = .none ∨ ∃ x, tabGet es i = .str x := by
  unfold tabGet
  split
  · exact .inr ⟨_, rfl⟩
  · exact .inl rfl
namespace L1
theorem w_in_b1 {m : Nat} {c : Nat} {Q : V → Prop} (h : Q (.bool (b1E.any fun e => Value.isInt c e.2))) : WF (CC D1 fs1 (m + 1)) "in_table_b1" [.str [c]] Q := by
  refine WF_of (fnT st10) [("code", ⟨.str [c], false⟩)] (by rfl) (by rfl) (by rfl) ?_
  refine WXs_cons ?_
  repeat' walk_at "st"
  exact h
theorem w_b3 {m : Nat} {c : Nat} {Q : V → Prop} (h : Q (.str (mapB3 b3E c))) : WF (CC D1 fs1 (m + 1)) "map_table_b3" [.str [c]] Q := by
  refine WF_of (fnT st12) [("code", ⟨.str [c], false⟩)] (by rfl) (by rfl) (by rfl) ?_
  refine WXs_cons ?_
  repeat' walk_at "st"
  have e0 : (D1.get (Value.ref 54) (c : Int)).1 = tabGet b3E c := rfl
  rw [e0]
  unfold mapB3 at h
  rcases tabGet_form b3E c with e | ⟨x, e⟩
  · rw [e] at h ⊢
    repeat' walk_at "st"
    refine c_inn (.inl ⟨rfl, ?_⟩)
    repeat' walk_at "st"
    exact h
  · rw [e] at h ⊢
    repeat' walk_at "st"
    refine c_inn (.inr ⟨⟨_, rfl⟩, ?_⟩)
    repeat' walk_at "st"
    exact h
theorem w_subst {m : Nat} {a b : Nat} {Q : V → Prop} (h : Q (.int (if a = b then 0 else if low a = low b then 1 else 2))) : WF (CC D1 fs1 (m + 1)) "_substitution_cost" [.str [a], .str [b]] Q := by
  unfold low at h
  refine WF_of (fnT st4) [("ch_a", ⟨.str [a], false⟩), ("ch_b", ⟨.str [b], false⟩)] (by rfl) (by rfl) (by rfl) ?_
  refine WXs_cons ?_
  repeat' walk_at "st"
  · rename_i hc
    rw [if_pos (by simpa using hc)] at h; exact h
  · rename_i hc hd
    rw [if_neg (by simpa using hc), if_pos hd] at h; exact h
  · rename_i hc hd
    rw [if_neg (by simpa using hc), if_neg hd] at h; exact h
theorem w_ap {m : Nat} {z : Int} {Q : V → Prop} (hz : z.natAbs < 16 ^ 1000) (h : Q (.bytes ((digs z.natAbs).map fun d => UInt8.ofNat (65 + d)))) : WF (CC D1 fs1 (m + 1)) "Int2AP" [.int z] Q := by
  refine WF_of (fnT st7) [("num", ⟨.int z, false⟩)] (by rfl) (by rfl) (by rfl) ?_
  refine WXs_cons ?_
  repeat' walk_at "st"
  refine WX_while (fun i l => ∃ (n : Nat) (v : List Nat) (j : Ls), l = (("num", ⟨.int n, false⟩) :: ("val", ⟨.bytes (v.map fun d => UInt8.ofNat (65 + d)), false⟩) :: ("AP", ⟨.bytes [65, 66, 67, 68, 69, 70, 71, 72, 73, 74, 75, 76, 77, 78, 79, 80], false⟩) :: j : List (Str × Loc)) ∧ Only ["mod"] j ∧ n < 16 ^ i ∧ digs z.natAbs = digs n ++ v ∧ v.length + i ≤ 1000) 1000 (by decide) ⟨z.natAbs, [], [], rfl, only_nil, hz, by simp, by simp⟩ ?_
  rintro i l ⟨n, v, j, rfl, hj, hn, hd, hl⟩
  repeat' walk_at "st"
  · rename_i hc
    cases i with
    | zero => exact absurd (by omega) hc
    | succ i =>
      refine ⟨i, rfl, ?_⟩
      repeat' walk_at "st"
      have h16 : (n : Int) % 16 < 16 ∧ 0 ≤ (n : Int) % 16 := by omega
      have e1 : ([65, 66, 67, 68, 69, 70, 71, 72, 73, 74, 75, 76, 77, 78, 79, 80] : List UInt8).length = 16 := rfl
      refine cut_bytes (by omega) (by omega) (by rw [e1]; omega) (by rw [e1]; omega) (by decide) ?_
      have key : List.drop ((n : Int) % 16).toNat (List.take ((n : Int) % 16 + 1).toNat [65, 66, 67, 68, 69, 70, 71, 72, 73, 74, 75, 76, 77, 78, 79, 80]) = [n % 16].map fun d => UInt8.ofNat (65 + d) := by
        have e2 : ((n : Int) % 16).toNat = n % 16 := by omega
        have e3 : ((n : Int) % 16 + 1).toNat = n % 16 + 1 := by omega
        rw [e2, e3]
        have : ∀ d < 16, List.drop d (List.take (d + 1) [65, 66, 67, 68, 69, 70, 71, 72, 73, 74, 75, 76, 77, 78, 79, 80]) = [d].map fun d => UInt8.ofNat (65 + d) := by decide
        exact this _ (by omega)
      rw [key]
      have hnn : n ≠ 0 := by omega
      repeat' walk_at "st"
      rw [← List.map_append]
      refine ⟨i, Nat.le_refl _, n / 16, n % 16 :: v, _, rfl, by walk_at "only", ?_, ?_, ?_⟩
      · rw [Nat.pow_succ] at hn; omega
      · rw [hd, digs_eq, dif_neg hnn]; simp
      · simp only [List.length_cons]; omega
  · rename_i hc
    obtain rfl : n = 0 := by omega
    rw [hd] at h
    rw [digs_eq, dif_pos rfl, List.nil_append] at h; exact h
end L1
noncomputable def subN (x y : Nat) : Nat := if x = y then 0 else if low x = low y then 1 else 2
theorem take_rev (l : List Nat) (k : Nat) : (l.reverse.drop k).reverse = l.take (l.length - k) := by
  rw [List.drop_reverse, List.reverse_reverse]
theorem getD_rev {l : List Nat} {j : Nat} (h : j < l.length) : l.reverse.getD j 0 = l.getD (l.length - 1 - j) 0 := by
  rw [List.getD_eq_getElem?_getD, List.getD_eq_getElem?_getD, List.getElem?_reverse h]
namespace L1
theorem w_subst' {m : Nat} {a b : Nat} {Q : V → Prop} (h : Q (.int (subN a b : Nat))) : WF (CC D1 fs1 (m + 1)) "_substitution_cost" [.str [a], .str [b]] Q := by
  refine w_subst ?_
  have e : (if a = b then (0 : Int) else if low a = low b then 1 else 2) = (subN a b : Nat) := by
    unfold subN; split
    · rfl
    · split <;> rfl
  rw [e]; exact h
local macro_rules | `(tactic| walk_at "st") => `(tactic| (with_reducible refine w_subst' ?_))
theorem w_lev_rows {m : Nat} {a3 b3 : List Nat} {mc : Nat} {Q : V → Prop} {pre j : Nat} (q1 : 0 < a3.length) (q2 : a3.length ≤ 40) (q3 : b3.length ≤ 40) (q4 : a3.length ≤ b3.length) (h : Q (.int (sortedN subN mc a3 b3 : Nat))) :
    WXs (CC D1 fs1 (m + 1)) (fun x => List.lookup x (fnT st5).scope.names) 188 [("a", ⟨.str a3, false⟩), ("b", ⟨.str b3, false⟩), ("max_cost", ⟨.int mc, false⟩), ("pre", ⟨.int pre, false⟩), ("post", ⟨.int (-(j : Int)), false⟩)] ((fnT st5).body.drop 12) (Post Q) := by
  refine WXs_cons ?_
  unfold sortedN at h
  walk_at "st"
  repeat' ((fail_if_success (with_reducible show WX _ _ _ _ (.Assign _ _ _) _)); walk_at "st")
  · rename_i c1
    rw [if_pos (by omega)] at h; exact h
  rename_i c1
  rw [if_neg (by omega)] at h
  clear c1
  refine WX_newC rfl (by walk_at "cl") ?_ rfl rfl rfl
  refine WE_listRange ?_ rfl rfl rfl rfl
  refine WI_range ?_ rfl rfl rfl
  repeat' walk_at "st"
  refine rng3 (m := a3.length) (by decide) (by unfold lenLid; omega) (by omega) ?_
  have er : (List.range a3.length).map (fun (i : Nat) => V.int (2 + i * 2)) = ((List.range a3.length).map fun i => 2 + i * 2).map fun (x : Nat) => V.int x := by
    rw [List.map_map]; rfl
  rw [er]
  have lr : ((List.range a3.length).map fun i => 2 + i * 2).length = a3.length := by simp
  generalize (List.range a3.length).map (fun i => 2 + i * 2) = row0 at *
  clear er
  repeat' walk_at "st"
  refine WX_forC (fun i l => ∃ (row : List Nat) (result : Nat) (jj : Ls), l = (("a", ⟨.str a3, false⟩) :: ("b", ⟨.str b3, false⟩) :: ("max_cost", ⟨.int mc, false⟩) :: ("pre", ⟨.int pre, false⟩) :: ("post", ⟨.int (-(j : Int)), false⟩) :: ("row", ⟨.list (row.map fun (x : Nat) => V.int x), true⟩) :: ("result", ⟨.int result, false⟩) :: jj : List (Str × Loc)) ∧
    Only ["bindex", "bchar", "distance", "minimum", "index", "substitute", "insert_delete"] jj ∧ row.length = a3.length ∧ outerN subN mc a3 b3 0 row0 0 = outerN subN mc a3 (b3.drop i) i row result) (by walk_at "cl") ?_ rfl
  refine WI_range ?_ rfl (by walk_at "at") rfl
  repeat' walk_at "st"
  refine rng1 rfl (by unfold lenLid; omega) ?_
  refine ⟨⟨row0, 0, [], rfl, only_nil, lr, by rw [List.drop_zero]⟩, ?_, ?_⟩
  · rintro i v l hv ⟨row, result, jj, rfl, hj, hr, ho⟩
    obtain ⟨hi, rfl⟩ := range_item hv
    clear hv
    refine ⟨rfl, ?_⟩
    repeat' walk_at "st"
    refine WX_forC (fun t l => ∃ (cur : List Nat) (d r mn : Nat) (jj : Ls), l = (("a", ⟨.str a3, false⟩) :: ("b", ⟨.str b3, false⟩) :: ("max_cost", ⟨.int mc, false⟩) :: ("pre", ⟨.int pre, false⟩) :: ("post", ⟨.int (-(j : Int)), false⟩) :: ("row", ⟨.list (cur.map fun (x : Nat) => V.int x), true⟩) :: ("result", ⟨.int r, false⟩) :: jj : List (Str × Loc)) ∧
      Only ["bindex", "bchar", "distance", "minimum", "index", "substitute", "insert_delete"] jj ∧ jj.at "distance" = some (.int d) ∧ jj.at "minimum" = some (.int mn) ∧ jj.at "bchar" = some (.str [b3.getD i 0]) ∧ cur.length = a3.length ∧
      innerN subN (b3.getD i 0) a3 row (2 * i) (2 * i) 9223372036854775807 = (cur.take t ++ (innerN subN (b3.getD i 0) (a3.drop t) (cur.drop t) d r mn).1, (innerN subN (b3.getD i 0) (a3.drop t) (cur.drop t) d r mn).2)) (by walk_at "cl") ?_ rfl
    refine WI_range ?_ rfl (by walk_at "at") rfl
    repeat' walk_at "st"
    refine rng1 rfl (by unfold lenLid; omega) ?_
    refine ⟨⟨row, i * 2, i * 2, 9223372036854775807, _, rfl, by walk_at "only", by walk_at "atv", by walk_at "atv", by walk_at "atv", hr, ?_⟩, ?_, ?_⟩
    · rw [Nat.mul_comm 2 i]; simp
    · clear hj h
      rintro t v l hv ⟨cur, d, r, mn, j2, rfl, hj, g1, g2, g3, hc, hin⟩
      obtain ⟨ht, rfl⟩ := range_item hv
      clear hv
      refine ⟨rfl, ?_⟩
      repeat' walk_at "st"
      have e1 : min (min (r : Int) ((cur.getD t 0 : Nat) : Int) + 2) ((d : Int) + (subN (b3.getD i 0) (a3.getD t 0) : Nat)) = ((min (min r (cur.getD t 0) + 2) (d + subN (b3.getD i 0) (a3.getD t 0)) : Nat) : Int) := by
        rw [cast_min, Int.natCast_add, cast_min, Int.natCast_add]; rfl
      rw [e1]
      refine ⟨_, rfl, rfl, by omega, by rw [List.length_map]; omega, by rw [List.length_map]; unfold lenLid; omega, ?_⟩
      rw [Int.toNat_natCast, show (V.int ((min (min r (cur.getD t 0) + 2) (d + subN (b3.getD i 0) (a3.getD t 0)) : Nat) : Int)) = (fun (x : Nat) => V.int x) (min (min r (cur.getD t 0) + 2) (d + subN (b3.getD i 0) (a3.getD t 0))) from rfl, ← List.map_set]
      rw [innerN_step subN _ (by omega) (by omega)] at hin
      generalize min (min r (cur.getD t 0) + 2) (d + subN (b3.getD i 0) (a3.getD t 0)) = res at *
      have fin : ∀ mn', mn' = (if res < mn then res else mn) → innerN subN (b3.getD i 0) a3 row (2 * i) (2 * i) 9223372036854775807 = ((cur.set t res).take (t + 1) ++ (innerN subN (b3.getD i 0) (a3.drop (t + 1)) ((cur.set t res).drop (t + 1)) (cur.getD t 0) res mn').1, (innerN subN (b3.getD i 0) (a3.drop (t + 1)) ((cur.set t res).drop (t + 1)) (cur.getD t 0) res mn').2) := by
        rintro mn' rfl
        rw [hin, List.drop_set_of_lt (by omega), List.take_succ]
        simp only [List.take_set_of_le (Nat.le_refl t)]
        simp [show t < cur.length by omega]
      dsimp only
      clear e1 hin
      repeat' walk_at "st"
      · rename_i hc1
        refine ⟨cur.set t res, cur.getD t 0, res, res, _, rfl, by walk_at "only", by walk_at "atv", by walk_at "atv", by walk_at "atv", by rw [List.length_set]; exact hc, fin _ (by rw [if_pos (by omega)])⟩
      · rename_i hc1
        refine ⟨cur.set t res, cur.getD t 0, res, mn, _, rfl, by walk_at "only", by walk_at "atv", by walk_at "atv", by walk_at "atv", by rw [List.length_set]; exact hc, fin _ (by rw [if_neg (by omega)])⟩
    · rintro l ⟨cur, d, r, mn, j2, rfl, hj, g1, g2, g3, hc, hin⟩
      rw [List.length_map, List.length_range, List.take_of_length_le (by omega), List.drop_eq_nil_of_le (Nat.le_refl _)] at hin
      rw [innerN_nil] at hin
      dsimp only at hin
      rw [List.append_nil] at hin
      rw [List.drop_eq_getElem_cons hi] at ho
      rw [outerN_cons] at ho
      have eg : b3[i] = b3.getD i 0 := by rw [List.getD_eq_getElem?_getD, List.getElem?_eq_getElem hi]; rfl
      rw [eg, hin] at ho
      dsimp only at ho
      repeat' walk_at "st"
      · rename_i hc1
        rw [ho, if_pos (by omega)] at h
        exact h
      · rename_i hc1
        rw [if_neg (by omega)] at ho
        exact ⟨cur, r, _, rfl, by walk_at "only", hc, ho⟩
  · rintro l ⟨row, result, jj, rfl, hj, hr, ho⟩
    rw [List.length_map, List.length_range, List.drop_length] at ho
    rw [ho] at h
    repeat' walk_at "st"
    exact h
end L1
namespace L1
local macro_rules | `(tactic| walk_at "st") => `(tactic| (with_reducible refine w_subst' ?_))
theorem lt40 {n : Nat} (h : (40 : Int) < n) : 40 < n := by omega
theorem nlt40 {n : Nat} (h : ¬ (40 : Int) < n) : ¬ 40 < n := by omega
theorem toN {j n : Nat} : (-(j : Int) - 1 + n).toNat = n - 1 - j := by
  rw [Int.add_comm, Int.sub_eq_add_neg, ← Int.neg_add, ← Int.sub_eq_add_neg, Nat.sub_sub, Nat.add_comm 1 j]
  exact Int.toNat_sub n (j + 1)
theorem w_lev {m : Nat} {a b : List Nat} {mc : Nat} {Q : V → Prop} (ha : a.length ≤ 1000) (hb : b.length ≤ 1000) (h : Q (.int (levN subN a b mc : Nat))) : WF (CC D1 fs1 (m + 2)) "_levenshtein_distance" [.str a, .str b, .int mc] Q := by
  refine WF_of (fnT st5) [("a", ⟨.str a, false⟩), ("b", ⟨.str b, false⟩), ("max_cost", ⟨.int mc, false⟩)] (by rfl) (by rfl) (by rfl) ?_
  refine WXs_cons ?_
  repeat' walk_at "st"
  · rename_i hc
    rw [levN, if_pos hc] at h; exact h
  rename_i hc
  rw [levN, if_neg hc] at h
  clear hc
  refine WX_whileR (fun i l => ∃ (pre : Nat), l = ([("a", ⟨.str a, false⟩), ("b", ⟨.str b, false⟩), ("max_cost", ⟨.int mc, false⟩), ("pre", ⟨.int pre, false⟩)] : List (Str × Loc)) ∧ stripP a b = stripP (a.drop pre) (b.drop pre) ∧ pre ≤ a.length ∧ pre ≤ b.length ∧ i = a.length - pre)
    (fun l => ∃ (pre : Nat), l = ([("a", ⟨.str a, false⟩), ("b", ⟨.str b, false⟩), ("max_cost", ⟨.int mc, false⟩), ("pre", ⟨.int pre, false⟩)] : List (Str × Loc)) ∧ stripP a b = (a.drop pre, b.drop pre)) (a.length) (by omega) ⟨0, rfl, rfl, by omega, by omega, rfl⟩ ?_ ?_
  · rintro i l ⟨pre, rfl, hs, h1, h2, rfl⟩
    repeat' walk_at "st"
    · rename_i c1 c2 c3
      simp only [List.length_drop] at c1 c2 c3
      refine ⟨a.length - pre - 1, (Nat.sub_add_cancel c1).symm, ?_⟩
      repeat' walk_at "st"
      refine ⟨a.length - (pre + 1), by omega, pre + 1, rfl, ?_, by omega, by omega, rfl⟩
      rw [hs, stripP_step (by omega) (by omega), if_pos (by simpa using c3)]
    · rename_i c1 c2 c3
      simp only [List.length_drop] at c1 c2 c3
      exact ⟨pre, rfl, by rw [hs, stripP_step (by omega) (by omega), if_neg (by simpa using c3)]⟩
    · rename_i c1 c2
      simp only [List.length_drop] at c1 c2
      exact ⟨pre, rfl, by rw [hs, stripP_nil (by omega)]⟩
    · rename_i c1
      simp only [List.length_drop] at c1
      exact ⟨pre, rfl, by rw [hs, stripP_nil (by omega)]⟩
  rintro l ⟨pre, rfl, hs⟩
  unfold cutN at h
  rw [hs] at h
  dsimp only at h
  have ha1 : (a.drop pre).length ≤ 1000 := by rw [List.length_drop]; omega
  have hb1 : (b.drop pre).length ≤ 1000 := by rw [List.length_drop]; omega
  repeat' walk_at "st"
  clear hs
  generalize a.drop pre = a1 at *
  generalize b.drop pre = b1 at *
  refine WX_whileR (fun i l => ∃ (j : Nat), l = ([("a", ⟨.str a1, false⟩), ("b", ⟨.str b1, false⟩), ("max_cost", ⟨.int mc, false⟩), ("pre", ⟨.int pre, false⟩), ("post", ⟨.int (-(j : Int)), false⟩)] : List (Str × Loc)) ∧ stripP a1.reverse b1.reverse = stripP (a1.reverse.drop j) (b1.reverse.drop j) ∧ j ≤ a1.length ∧ j ≤ b1.length ∧ i = a1.length - j)
    (fun l => ∃ (j : Nat), l = ([("a", ⟨.str a1, false⟩), ("b", ⟨.str b1, false⟩), ("max_cost", ⟨.int mc, false⟩), ("pre", ⟨.int pre, false⟩), ("post", ⟨.int (-(j : Int)), false⟩)] : List (Str × Loc)) ∧ stripP a1.reverse b1.reverse = (a1.reverse.drop j, b1.reverse.drop j) ∧ j ≤ a1.length ∧ j ≤ b1.length) (a1.length) (by omega) ⟨0, rfl, rfl, by omega, by omega, rfl⟩ ?_ ?_
  · rintro i l ⟨j, rfl, hs, h1, h2, rfl⟩
    repeat' walk_at "st"
    · rename_i c1 c2 c3
      simp only [List.length_take, Nat.min_eq_left (Nat.sub_le _ _)] at c1 c2
      rw [toN, toN] at c3
      refine ⟨a1.length - j - 1, (Nat.sub_add_cancel c1).symm, ?_⟩
      repeat' walk_at "st"
      have e3 : -(j : Int) - 1 = -((j + 1 : Nat) : Int) := by omega
      rw [e3]
      refine ⟨a1.length - (j + 1), by omega, j + 1, rfl, ?_, by omega, by omega, rfl⟩
      rw [hs, stripP_step (by rw [List.length_reverse]; omega) (by rw [List.length_reverse]; omega), if_pos (by rw [getD_rev (by omega), getD_rev (by omega)]; simpa using c3)]
    · rename_i c1 c2 c3
      simp only [List.length_take, Nat.min_eq_left (Nat.sub_le _ _)] at c1 c2
      rw [toN, toN] at c3
      refine ⟨j, rfl, ?_, h1, h2⟩
      rw [hs, stripP_step (by rw [List.length_reverse]; omega) (by rw [List.length_reverse]; omega), if_neg (by rw [getD_rev (by omega), getD_rev (by omega)]; simpa using c3)]
    · rename_i c1 c2
      simp only [List.length_take, Nat.min_eq_left (Nat.sub_le _ _)] at c1 c2
      exact ⟨j, rfl, by rw [hs, stripP_nil (by simp only [List.length_reverse]; omega)], h1, h2⟩
    · rename_i c1
      simp only [List.length_take, Nat.min_eq_left (Nat.sub_le _ _)] at c1
      exact ⟨j, rfl, by rw [hs, stripP_nil (by simp only [List.length_reverse]; omega)], h1, h2⟩
  rintro l ⟨j, rfl, hs, h1, h2⟩
  rw [hs] at h
  dsimp only at h
  rw [take_rev, take_rev] at h
  have ha2 : (a1.take (a1.length - j)).length ≤ 1000 := by rw [List.length_take]; omega
  have hb2 : (b1.take (b1.length - j)).length ≤ 1000 := by rw [List.length_take]; omega
  repeat' ((fail_if_success (with_reducible show WX _ _ _ _ (.If _ _ _ _) _)); walk_at "st")
  clear hs h1 h2 ha1 hb1
  generalize a1.take (a1.length - j) = a2 at *
  generalize b1.take (b1.length - j) = b2 at *
  clear ha hb
  walk_at "st"
  repeat' ((fail_if_success (with_reducible show WX _ _ _ _ (.If _ _ _ _) _)); walk_at "st")
  rotate_left
  · rename_i n1 n2
    rw [coreN, if_pos (.inr (Nat.eq_zero_of_not_pos n2))] at h; exact h
  · rename_i n1
    rw [coreN, if_pos (.inl (Nat.eq_zero_of_not_pos n1))] at h; exact h
  rename_i n1 n2
  rw [coreN, if_neg (fun q => q.elim (Nat.ne_of_gt n1) (Nat.ne_of_gt n2))] at h
  walk_at "st"
  repeat' ((fail_if_success (with_reducible show WX _ _ _ _ (.If _ _ _ _) _)); walk_at "st")
  rotate_left
  · rename_i n3 n4
    rw [if_pos (.inr (lt40 n4))] at h; exact h
  · rename_i n3
    rw [if_pos (.inl (lt40 n3))] at h; exact h
  rename_i n3 n4
  have m3 := nlt40 n3
  have m4 := nlt40 n4
  clear n3 n4
  rw [if_neg (fun q => q.elim m3 m4)] at h
  refine WX_ifR (fun l => ∃ a3 b3 : List Nat, l = ([("a", ⟨.str a3, false⟩), ("b", ⟨.str b3, false⟩), ("max_cost", ⟨.int mc, false⟩), ("pre", ⟨.int pre, false⟩), ("post", ⟨.int (-(j : Int)), false⟩)] : List (Str × Loc)) ∧ 0 < a3.length ∧ a3.length ≤ 40 ∧ b3.length ≤ 40 ∧ a3.length ≤ b3.length ∧ Q (.int (sortedN subN mc a3 b3 : Nat))) ?_ ?_
  · repeat' walk_at "st"
    · rename_i c1
      have c1 := Int.ofNat_lt.mp c1
      rw [if_pos c1] at h
      exact ⟨b2, a2, rfl, n2, Nat.le_of_not_lt m4, Nat.le_of_not_lt m3, Nat.le_of_lt c1, h⟩
    · rename_i c1
      have c1 : ¬ b2.length < a2.length := fun q => c1 (Int.ofNat_lt.mpr q)
      rw [if_neg c1] at h
      exact ⟨a2, b2, rfl, n1, Nat.le_of_not_lt m3, Nat.le_of_not_lt m4, Nat.le_of_not_lt c1, h⟩
  rintro l ⟨a3, b3, rfl, q1, q2, q3, q4, h⟩
  exact w_lev_rows q1 q2 q3 q4 h
end L1
theorem modN (d : Int) (k : Nat) (hk : 0 < k) : ∃ p : Nat, p < k ∧ d % (k : Int) = p := by
  have h0 : (0 : Int) < k := Int.ofNat_lt.mpr hk
  obtain ⟨p, hp⟩ := Int.eq_ofNat_of_zero_le (Int.emod_nonneg d (Int.ne_of_gt h0))
  exact ⟨p, Int.ofNat_lt.mp (hp ▸ Int.emod_lt_of_pos d h0), hp⟩
theorem lt3 {p : Nat} (h : p < 3) : p = 0 ∨ p = 1 ∨ p = 2 := by omega
noncomputable def figs (n : Nat) : List Nat := [n / 256, n / 16 % 16, n % 16]
namespace L1
theorem w_figures {m n : Nat} {Q : V → Prop} (h : Q (vnats (figs n))) : WF (CC D1 fs1 (m + 1)) "_law_figures" [.int n] Q := by
  have hlid : lenLid = 100000 := rfl
  refine WF_of (fnT st14) [("number", ⟨.int n, false⟩)] (by rfl) (by rfl) (by rfl) ?_
  refine WXs_cons ?_
  repeat' walk_at "st"
  exact h
theorem w_changed {m x y z : Nat} {d : Int} {Q : V → Prop} (hx : x < 16) (hy : y < 16) (hz : z < 16) (h : ∀ x y z, x < 16 → y < 16 → z < 16 → Q (vnats [x, y, z])) : WF (CC D1 fs1 (m + 1)) "_law_changed" [vnats [x, y, z], .int d] Q := by
  have hlid : lenLid = 100000 := rfl
  refine WF_of (fnT st15) [("figures", ⟨vnats [x, y, z], false⟩), ("draw", ⟨.int d, false⟩)] (by rfl) (by rfl) (by rfl) ?_
  refine WXs_cons ?_
  repeat' walk_at "st"
  obtain ⟨p, hp, e⟩ : ∃ p : Nat, p < 3 ∧ d % 3 = p := modN d 3 (by decide)
  rw [e]
  refine cutL_to (by omega) (by simp [hlid]) ?_
  repeat' walk_at "st"
  generalize hw : ((([x, y, z].getD p 0 : Nat) : Int) + d / 3) % 16 = w
  obtain ⟨q, hq, rfl⟩ : ∃ q : Nat, q < 16 ∧ w = q := by
    obtain ⟨q, h1, h2⟩ := modN (((([x, y, z].getD p 0 : Nat) : Int) + d / 3)) 16 (by decide)
    exact ⟨q, h1, hw.symm.trans h2⟩
  clear hw e
  refine b_catL (by simp [hlid]; omega) ?_
  repeat' walk_at "st"
  refine cutL_from (by omega) (by simp [hlid]) ?_
  refine b_catL (by simp [hlid]; omega) ?_
  obtain rfl | rfl | rfl := lt3 hp
  · refine then_ret (post_ret ?_)
    exact h q y z hq hy hz
  · refine then_ret (post_ret ?_)
    exact h x q z hx hq hz
  · refine then_ret (post_ret ?_)
    exact h x y q hx hy hq
end L1
/-- what table B.3 and B.1 leave of a text -/
noncomputable def prepL (b1 : Nat → Bool) (b3 : Nat → List Nat) (t : List Nat) : List Nat := ((t.filter fun c => !b1 c).map b3).flatten
theorem prep_app (b1 : Nat → Bool) (b3 : Nat → List Nat) (a b : List Nat) : prepL b1 b3 (a ++ b) = prepL b1 b3 a ++ prepL b1 b3 b := by
  unfold prepL; rw [List.filter_append, List.map_append, List.flatten_append]
theorem off97 {a c : Nat} (h : 97 ≤ c) : ((a : Int) + (c : Int) - 97).toNat = a + (c - 97) := by
  rw [← Nat.add_sub_assoc h, ← Int.natCast_add]
  exact Int.toNat_sub (a + c) 97
noncomputable def pairs17 : List (List Nat × Int) := [([102, 102], 64256), ([102, 105], 64257), ([102, 108], 64258), ([112, 97], 13184), ([110, 97], 13185), ([109, 97], 13187), ([107, 97], 13188), ([107, 98], 13189), ([109, 98], 13190), ([103, 98], 13191), ([112, 102], 13194), ([110, 102], 13195), ([100, 98], 13256), ([104, 112], 13259), ([107, 107], 13261), ([107, 109], 13262), ([110, 111], 8470)]
theorem lookup_memD {x : List Nat} {i : Int} : ∀ {kv : List (List Nat × Int)}, kv.lookup x = some i → (x, i) ∈ kv
  | [], h => by cases h
  | (y, e) :: r, h => by
    rw [List.lookup_cons] at h
    by_cases hy : (x == y) = true
    · rw [hy] at h
      cases h
      obtain rfl := eq_of_beq hy
      exact .head _
    · rw [show (x == y) = false from by simpa using hy] at h
      exact .tail _ (lookup_memD h)
namespace L1
noncomputable def b1 (c : Nat) : Bool := b1E.any fun e => Value.isInt c e.2
noncomputable abbrev prep : List Nat → List Nat := prepL b1 (mapB3 b3E)
theorem tab_pair : (pairs17.all fun p => !b1 p.2.toNat && mapB3 b3E p.2.toNat == p.1 && decide (p.1.length = 2) && decide (0 ≤ p.2) && decide (p.2 ≤ 65000)) = true := by decide +kernel
theorem tab_alpha : ([65, 97, 119808, 120432].all fun a => (List.range 16).all fun i => !b1 (a + i) && mapB3 b3E (a + i) == [97 + i]) = true := by decide +kernel
theorem tab_rider : ([173, 8203, 65039].all fun i => b1 i) = true := by decide +kernel
theorem prep_pair {x : List Nat} {i : Int} (h : pairs17.lookup x = some i) : prep [i.toNat] = x ∧ x.length = 2 ∧ 0 ≤ i ∧ i ≤ 65000 := by
  have := List.all_eq_true.mp tab_pair _ (lookup_memD h)
  simp only [Bool.and_eq_true, decide_eq_true_eq, Bool.not_eq_true', beq_iff_eq] at this
  obtain ⟨⟨⟨⟨h1, h2⟩, h3⟩, h4⟩, h5⟩ := this
  refine ⟨?_, h3, h4, h5⟩
  show prepL b1 (mapB3 b3E) [i.toNat] = x
  unfold prepL
  simp [h1, h2]
theorem prep_alpha {a i : Nat} (ha : a ∈ [65, 97, 119808, 120432]) (hi : i < 16) : prep [a + i] = [97 + i] := by
  have := List.all_eq_true.mp (List.all_eq_true.mp tab_alpha a ha) i (List.mem_range.mpr hi)
  simp only [Bool.and_eq_true, Bool.not_eq_true', beq_iff_eq] at this
  show prepL b1 (mapB3 b3E) [a + i] = _
  unfold prepL
  simp [this.1, this.2]
theorem prep_rider {r : List Nat} (h : r ∈ ([[], [173], [8203], [], [65039]] : List (List Nat))) : prep r = [] ∧ r.length ≤ 1 := by
  have t := tab_rider
  simp only [List.all_cons, List.all_nil, Bool.and_eq_true, Bool.and_true] at t
  obtain ⟨t1, t2, t3⟩ := t
  simp only [List.mem_cons, List.not_mem_nil, or_false] at h
  have key : ∀ c, b1 c = true → prep [c] = [] := fun c hc => by
    show prepL b1 (mapB3 b3E) [c] = []
    unfold prepL; simp [hc]
  rcases h with rfl | rfl | rfl | rfl | rfl
  · exact ⟨rfl, by decide⟩
  · exact ⟨key _ t1, by decide⟩
  · exact ⟨key _ t2, by decide⟩
  · exact ⟨rfl, by decide⟩
  · exact ⟨key _ t3, by decide⟩
theorem w_typed {m : Nat} {ls : List Nat} {d : Int} {Q : V → Prop} (hl : ls.length ≤ 4) (hc : ∀ c ∈ ls, 97 ≤ c ∧ c < 113) (h : ∀ t, prep t = ls → t.length ≤ 8 → Q (.str t)) : WF (CC D1 fs1 (m + 1)) "_law_typed" [.str ls, .int d] Q := by
  have hlid : lenLid = 100000 := rfl
  refine WF_of (fnT st16) [("letters", ⟨.str ls, false⟩), ("draw", ⟨.int d, false⟩)] (by rfl) (by rfl) (by rfl) ?_
  refine WXs_cons ?_
  refine WX_clean rfl rfl ?_ rfl
  refine WE_dict (kv := pairs17) (by rfl) (by decide +kernel) ?_
  refine then_put (by walk_at "pt") ?_
  refine WXs_cons ?_
  refine WX_clean rfl rfl ?_ rfl
  repeat' ((fail_if_success (with_reducible show WX _ _ _ _ (.Assign _ _ _) _)); walk_at "st")
  refine WX_clean rfl rfl ?_ rfl
  repeat' walk_at "st"
  have ea : ([V.int 65, V.int 97, V.int 119808, V.int 120432] : List V) = ([65, 97, 119808, 120432] : List Int).map .int := rfl
  have er : ([V.str (Str.ofString "").cps.toList, V.str [Int.toNat 173], V.str [Int.toNat 8203], V.str (Str.ofString "").cps.toList, V.str [Int.toNat 65039]] : List V) = ([[], [173], [8203], [], [65039]] : List (List Nat)).map .str := by rfl
  have e0 : (Str.ofString "").cps.toList = [] := by rfl
  rw [ea, er, e0]
  refine WX_whileR (fun i l => ∃ (p : Nat) (t : List Nat) (jj : Ls), l = (("letters", ⟨.str ls, false⟩) :: ("draw", ⟨.int d, false⟩) :: ("pairs", ⟨.dict pairs17, false⟩) :: ("alphabets", ⟨.list (([65, 97, 119808, 120432] : List Int).map .int), false⟩) :: ("riders", ⟨.list (([[], [173], [8203], [], [65039]] : List (List Nat)).map .str), false⟩) :: ("typed", ⟨.str t, false⟩) :: ("place", ⟨.int p, false⟩) :: jj : List (Str × Loc)) ∧
      Only ["n", "pair"] jj ∧ p ≤ ls.length ∧ prep t = ls.take p ∧ t.length ≤ 2 * p ∧ i = ls.length - p)
    (fun l => ∃ (t : List Nat) (jj : Ls), l = (("letters", ⟨.str ls, false⟩) :: ("draw", ⟨.int d, false⟩) :: ("pairs", ⟨.dict pairs17, false⟩) :: ("alphabets", ⟨.list (([65, 97, 119808, 120432] : List Int).map .int), false⟩) :: ("riders", ⟨.list (([[], [173], [8203], [], [65039]] : List (List Nat)).map .str), false⟩) :: ("typed", ⟨.str t, false⟩) :: jj : List (Str × Loc)) ∧ prep t = ls ∧ t.length ≤ 8)
    ls.length (by omega) ⟨0, [], [], rfl, only_nil, by omega, rfl, by simp, by omega⟩ ?_ ?_
  · rintro i l ⟨p, t, jj, rfl, hj, hp, ht, htl, rfl⟩
    have h5 : p < ls.length → (0 : Int) < 5 ^ (p : Int).toNat ∧ (5 : Int) ^ (p : Int).toNat < 1073741824 := fun hp => by
      have key : ∀ p : Nat, p < 4 → (0 : Int) < 5 ^ (p : Int).toNat ∧ (5 : Int) ^ (p : Int).toNat < 1073741824 := by decide
      exact key p (by omega)
    repeat' walk_at "st"
    · rename_i c1
      have c1 : p < ls.length := by omega
      have h5 := h5 c1
      refine ⟨ls.length - p - 1, (Nat.sub_add_cancel (Nat.sub_pos_of_lt c1)).symm, ?_⟩
      repeat' walk_at "st"
      generalize d / (5 : Int) ^ (p : Int).toNat = dd
      clear h5
      obtain ⟨n, hn, en⟩ : ∃ n : Nat, n < 20 ∧ dd % 20 = n := modN dd 20 (by decide)
      rw [en]
      refine cut_mid (i := p) (j := p + 2) rfl rfl hp (by omega) ?_
      repeat' ((fail_if_success (with_reducible show WX _ _ _ _ (.If _ _ _ _) _)); walk_at "st")
      refine WX_ifR (fun l => ∃ (p2 : Nat) (t2 : List Nat) (j2 : Ls), l = (("letters", ⟨.str ls, false⟩) :: ("draw", ⟨.int d, false⟩) :: ("pairs", ⟨.dict pairs17, false⟩) :: ("alphabets", ⟨.list (([65, 97, 119808, 120432] : List Int).map .int), false⟩) :: ("riders", ⟨.list (([[], [173], [8203], [], [65039]] : List (List Nat)).map .str), false⟩) :: ("typed", ⟨.str t2, false⟩) :: ("place", ⟨.int p2, false⟩) :: j2 : List (Str × Loc)) ∧
        Only ["n", "pair"] j2 ∧ j2.at "n" = some (.int n) ∧ p < p2 ∧ p2 ≤ ls.length ∧ prep t2 = ls.take p2 ∧ t2.length + 1 ≤ 2 * p2) ?_ ?_
      · have one : ∀ (R : V → Prop), (∀ t2, prep t2 = ls.take (p + 1) → t2.length + 1 ≤ 2 * (p + 1) → R (.str t2)) → Pw (bltV "chr" [V.int (([65, 97, 119808, 120432] : List Int).getD ((n : Int) % 4).toNat 0 + ((ls.getD p 0 : Nat) : Int) - 97)]) fun v => augOk .Add (.str t) v = true ∧ Pw (binV .Add (.str t) v) R := by
          intro R hR
          have hm : ls.getD p 0 ∈ ls := by
            rw [List.getD_eq_getElem?_getD, List.getElem?_eq_getElem c1]
            exact List.getElem_mem c1
          have hcc := hc _ hm
          obtain ⟨a, ha, ea⟩ : ∃ a : Nat, a ∈ [65, 97, 119808, 120432] ∧ ([65, 97, 119808, 120432] : List Int).getD ((n : Int) % 4).toNat 0 = a := by
            have key : ∀ k < 4, ([65, 97, 119808, 120432] : List Int).getD k 0 = (([65, 97, 119808, 120432] : List Nat).getD k 0 : Nat) ∧ ([65, 97, 119808, 120432] : List Nat).getD k 0 ∈ [65, 97, 119808, 120432] := by decide
            have := key ((n : Int) % 4).toNat (by omega)
            exact ⟨_, this.2, this.1⟩
          have ha2 : a ≤ 120432 := by
            simp only [List.mem_cons, List.not_mem_nil, or_false] at ha; omega
          rw [ea]
          refine f_chr (by omega) ⟨rfl, b_cat (by simp [hlid]; omega) (hR _ ?_ (by simp; omega))⟩
          have e1 : ((a : Int) + ((ls.getD p 0 : Nat) : Int) - 97).toNat = a + (ls.getD p 0 - 97) := off97 hcc.1
          have e2 : 97 + (ls.getD p 0 - 97) = ls.getD p 0 := by omega
          rw [e1]
          show prepL b1 (mapB3 b3E) (t ++ _) = _
          rw [prep_app]
          have q := prep_alpha ha (i := ls.getD p 0 - 97) (by omega)
          rw [e2] at q
          rw [show prepL b1 (mapB3 b3E) t = ls.take p from ht, show prepL b1 (mapB3 b3E) [a + (ls.getD p 0 - 97)] = _ from q]
          rw [List.take_add_one, List.getElem?_eq_getElem c1, List.getD_eq_getElem?_getD, List.getElem?_eq_getElem c1]; rfl
        have hjn : (Ls.put (jj.put "n" ⟨.int n, false⟩) "pair" ⟨.str ((ls.take (p + 2)).drop p), false⟩).at "n" = some (.int n) := by walk_at "at"
        cases hlk : pairs17.lookup ((ls.take (p + 2)).drop p) with
        | none =>
          repeat' walk_at "st"
          · rw [hlk]
            refine split_f ?_
            repeat' walk_at "st"
            refine one _ fun t2 h1 h2 => ?_
            repeat' walk_at "st"
            exact ⟨p + 1, t2, _, rfl, by walk_at "only", by walk_at "atv", by omega, by omega, h1, h2⟩
          · refine one _ fun t2 h1 h2 => ?_
            repeat' walk_at "st"
            exact ⟨p + 1, t2, _, rfl, by walk_at "only", by walk_at "atv", by omega, by omega, h1, h2⟩
        | some ii =>
          obtain ⟨g1, g2, g3, g4⟩ := prep_pair hlk
          repeat' walk_at "st"
          · rw [hlk]
            refine split_t ?_
            repeat' walk_at "st"
            refine i_dict hlk ?_
            repeat' walk_at "st"
            have g2' := g2
            rw [List.length_drop, List.length_take] at g2'
            refine ⟨p + 2, _, _, rfl, by walk_at "only", by walk_at "atv", by omega, by omega, ?_, by simp; omega⟩
            show prepL b1 (mapB3 b3E) (t ++ _) = _
            rw [prep_app, show prepL b1 (mapB3 b3E) t = ls.take p from ht, show prepL b1 (mapB3 b3E) [ii.toNat] = _ from g1]
            rw [show ls.take p = (ls.take (p + 2)).take p from by rw [List.take_take, Nat.min_eq_left (by omega)], List.take_append_drop]
          · refine one _ fun t2 h1 h2 => ?_
            repeat' walk_at "st"
            exact ⟨p + 1, t2, _, rfl, by walk_at "only", by walk_at "atv", by omega, by omega, h1, h2⟩
      · rintro l ⟨p2, t2, j2, rfl, hj2, hn2, hp2, hp3, ht2, htl2⟩
        repeat' walk_at "st"
        have hr : ([[], [173], [8203], [], [65039]] : List (List Nat)).getD ((n : Int) / 4).toNat [] ∈ ([[], [173], [8203], [], [65039]] : List (List Nat)) := by
          have key : ∀ k < 5, ([[], [173], [8203], [], [65039]] : List (List Nat)).getD k [] ∈ ([[], [173], [8203], [], [65039]] : List (List Nat)) := by decide
          exact key _ (by omega)
        refine i_strs (by omega) (by show ((n : Int) / 4) < (5 : Nat); omega) (by show (5 : Nat) ≤ lenLid; rw [hlid]; decide) ?_
        generalize ([[], [173], [8203], [], [65039]] : List (List Nat)).getD ((n : Int) / 4).toNat [] = rr at *
        obtain ⟨q1, q2⟩ := prep_rider hr
        refine ⟨rfl, b_cat (by rw [hlid]; omega) ?_⟩
        repeat' walk_at "st"
        refine ⟨ls.length - p2, by omega, p2, _, _, rfl, by walk_at "only", hp3, ?_, by rw [List.length_append]; omega, rfl⟩
        show prepL b1 (mapB3 b3E) (t2 ++ _) = _
        rw [prep_app, show prepL b1 (mapB3 b3E) rr = [] from q1, List.append_nil]; exact ht2
    · rename_i c1
      have c1 : p = ls.length := by omega
      subst c1
      rw [List.take_length] at ht
      exact ⟨t, _, rfl, ht, by omega⟩
  · rintro l ⟨t, jj, rfl, ht, htl⟩
    repeat' walk_at "st"
    exact h t ht htl
end L1
namespace L1
theorem w_prepared {m : Nat} {t : List Nat} {Q : V → Prop} (hl : t.length ≤ 100) (hp : (prep t).length ≤ 100) (h : Q (.str (prep t))) : WF (CC D1 fs1 (m + 2)) "_law_prepared" [.str t] Q := by
  have hlid : lenLid = 100000 := rfl
  refine WF_of (fnT st17) [("typed", ⟨.str t, false⟩)] (by rfl) (by rfl) (by rfl) ?_
  refine WXs_cons ?_
  repeat' ((fail_if_success (with_reducible show WE _ _ _ _ (.ListComp _ _ _ _) _)); walk_at "st")
  refine' WE_compIf (fun (c : Nat) => V.str [c]) t (fun c => V.str (mapB3 b3E c)) (fun c => !b1 c) ?k1 ?k2 rfl rfl rfl
  case k1 => walk_at "cp"
  refine WI_name ?_
  repeat' walk_at "st"
  refine it_str (by omega) ⟨rfl, by omega, fun c _ => ?_, fun c _ _ => ?_, ?_⟩
  · repeat' walk_at "st"
    refine w_in_b1 ?_
    repeat' walk_at "st"
    rfl
  · repeat' walk_at "st"
    refine w_b3 ?_
    rfl
  · have e : (t.filter fun c => !b1 c).map (fun c => V.str (mapB3 b3E c)) = ((t.filter fun c => !b1 c).map (mapB3 b3E)).map .str := by rw [List.map_map]; rfl
    rw [e]
    refine WEs_nil ?_
    refine m_join (by decide +kernel) (by show (prep t).length ≤ _; omega) ?_
    repeat' walk_at "st"
    exact h
/-- a step that a letter can be set back by -/
noncomputable def Cond (x y z m p : Nat) (s : Int) : Prop := ((256 * x + 16 * y + z : Nat) % m - s * ((16 ^ (2 - p) : Nat) : Int)) % m = 0 ∧ 0 ≤ (([x, y, z].getD p 0 : Nat) : Int) - s ∧ (([x, y, z].getD p 0 : Nat) : Int) - s ≤ 15
theorem w_mended {k m x y z : Nat} {Q : V → Prop} (hx : x < 16) (hy : y < 16) (hz : z < 16) (hm : 0 < m) (hm2 : m < 4096)
    (h : ∀ T : List Int, (∀ t ∈ T, ∃ p s, p < 3 ∧ Cond x y z m p s ∧ t = ((256 * x + 16 * y + z : Nat) - s * ((16 ^ (2 - p) : Nat) : Int)) / m) → (T = [] → ∀ p s, p < 3 → -15 ≤ s → s ≤ 15 → ¬ Cond x y z m p s) → Q (.list ((T.take 1).map .int))) :
    WF (CC D1 fs1 (k + 1)) "_law_mended" [vnats [x, y, z], .int m] Q := by
  have hlid : lenLid = 100000 := rfl
  refine WF_of (fnT st18) [("figures", ⟨vnats [x, y, z], false⟩), ("m", ⟨.int m, false⟩)] (by rfl) (by rfl) (by rfl) ?_
  refine WXs_cons ?_
  repeat' walk_at "st"
  have en : (256 : Int) * (([x, y, z].getD (Int.toNat 0) 0 : Nat) : Int) + 16 * (([x, y, z].getD (Int.toNat 1) 0 : Nat) : Int) + (([x, y, z].getD (Int.toNat 2) 0 : Nat) : Int) = ((256 * x + 16 * y + z : Nat) : Int) := by
    show (256 : Int) * (x : Int) + 16 * (y : Int) + (z : Int) = _
    omega
  rw [en]
  generalize hN : 256 * x + 16 * y + z = N at *
  have hN2 : N < 4096 := by rw [← hN]; omega
  have hC : ∀ p s, Cond x y z m p s ↔ ((N : Int) % m - s * ((16 ^ (2 - p) : Nat) : Int)) % m = 0 ∧ 0 ≤ (([x, y, z].getD p 0 : Nat) : Int) - s ∧ (([x, y, z].getD p 0 : Nat) : Int) - s ≤ 15 := fun p s => by unfold Cond; rw [hN]
  refine WX_newC rfl (by walk_at "cl") (WE_list (WEs_nil ⟨by decide, ?_⟩)) rfl rfl rfl
  refine then_put (by walk_at "pt") ?_
  refine WXs_cons ?_
  refine WX_forC (fun i l => ∃ (T : List Int) (jj : Ls), l = (("figures", ⟨vnats [x, y, z], false⟩) :: ("m", ⟨.int m, false⟩) :: ("number", ⟨.int N, false⟩) :: ("rest", ⟨.int ((N : Int) % m), false⟩) :: ("tags", ⟨.list (T.map .int), true⟩) :: jj : List (Str × Loc)) ∧ Only ["place", "step", "change"] jj ∧
    (∀ t ∈ T, ∃ p s, p < 3 ∧ Cond x y z m p s ∧ t = ((N : Int) - s * ((16 ^ (2 - p) : Nat) : Int)) / m) ∧ (T = [] → ∀ p s, p < i → -15 ≤ s → s ≤ 15 → ¬ Cond x y z m p s) ∧ T.length ≤ 31 * i) (by walk_at "cl") ?_ rfl
  refine WI_range ?_ rfl rfl rfl
  repeat' walk_at "st"
  refine rng1 (m := 3) rfl (by decide) ⟨⟨[], [], rfl, only_nil, (fun t ht => by cases ht), (fun _ p s hp => by omega), Nat.zero_le _⟩, ?_, ?_⟩
  · rintro p v l hv ⟨T, jj, rfl, hj, ht1, ht2, htl⟩
    obtain ⟨hp, rfl⟩ := range_item hv
    refine ⟨rfl, ?_⟩
    repeat' walk_at "st"
    refine WX_forC (fun i l => ∃ (T : List Int) (jj : Ls), l = (("figures", ⟨vnats [x, y, z], false⟩) :: ("m", ⟨.int m, false⟩) :: ("number", ⟨.int N, false⟩) :: ("rest", ⟨.int ((N : Int) % m), false⟩) :: ("tags", ⟨.list (T.map .int), true⟩) :: jj : List (Str × Loc)) ∧ Only ["place", "step", "change"] jj ∧ jj.at "place" = some (.int p) ∧
      (∀ t ∈ T, ∃ p s, p < 3 ∧ Cond x y z m p s ∧ t = ((N : Int) - s * ((16 ^ (2 - p) : Nat) : Int)) / m) ∧ (T = [] → (∀ q s, q < p → -15 ≤ s → s ≤ 15 → ¬ Cond x y z m q s) ∧ ∀ s : Int, -15 ≤ s → s < -15 + (i : Int) → ¬ Cond x y z m p s) ∧ T.length ≤ 31 * p + i) (by walk_at "cl") ?_ rfl
    refine WI_range ?_ rfl (by walk_at "at") rfl
    repeat' walk_at "st"
    refine rng2 (m := 31) (by rw [hlid]; decide) rfl ⟨⟨T, _, rfl, by walk_at "only", by walk_at "atv", ht1, (fun e => ⟨ht2 e, fun s h1 h2 => by omega⟩), by omega⟩, ?_, ?_⟩
    · clear hj ht1 ht2 htl hv
      rintro i v l hv ⟨T, jj, rfl, hj, hjp, ht1, ht2, htl⟩
      obtain ⟨hi, rfl⟩ := range_itemA hv
      refine ⟨rfl, ?_⟩
      have keep : ∀ (T2 : List Int), (T2 = [] → T = [] ∧ ¬ Cond x y z m p (-15 + (i : Int))) → T2 = [] → (∀ q s, q < p → -15 ≤ s → s ≤ 15 → ¬ Cond x y z m q s) ∧ ∀ s : Int, -15 ≤ s → s < -15 + ((i + 1 : Nat) : Int) → ¬ Cond x y z m p s := fun T2 h1 h2 => by
        obtain ⟨e, hc⟩ := h1 h2
        refine ⟨(ht2 e).1, fun s q1 q2 => ?_⟩
        by_cases hs : s = -15 + (i : Int)
        · rw [hs]; exact hc
        · exact (ht2 e).2 s q1 (by omega)
      have e2 : (2 - (p : Int)).toNat = 2 - p := Int.toNat_sub 2 p
      repeat' walk_at "st"
      · rename_i c1 c2 c3
        rw [e2] at c1
        refine WX_app (xs := T.map .int) rfl (by rw [List.length_map, hlid]; omega) (fun _ _ => Expr.noConfusion) rfl ?_
        repeat' walk_at "st"
        rw [e2]
        have em : T.map V.int ++ [V.int (((N : Int) - (-15 + (i : Int)) * ((16 ^ (2 - p) : Nat) : Int)) / (m : Int))] = (T ++ [((N : Int) - (-15 + (i : Int)) * ((16 ^ (2 - p) : Nat) : Int)) / (m : Int)]).map .int := by rw [List.map_append]; rfl
        rw [em]
        refine ⟨_, _, rfl, by walk_at "only", by walk_at "atv", fun t ht => ?_, keep _ (fun e => by simp at e), by rw [List.length_append, List.length_singleton]; omega⟩
        rcases List.mem_append.mp ht with ht | ht
        · exact ht1 t ht
        · exact ⟨p, _, hp, (hC _ _).mpr ⟨c1, c2, c3⟩, List.mem_singleton.mp ht⟩
      · rename_i c1 c2 c3
        exact ⟨T, _, rfl, by walk_at "only", by walk_at "atv", ht1, keep T (fun e => ⟨e, fun q => c3 ((hC _ _).mp q).2.2⟩), by omega⟩
      · rename_i c1 c2
        exact ⟨T, _, rfl, by walk_at "only", by walk_at "atv", ht1, keep T (fun e => ⟨e, fun q => c2 ((hC _ _).mp q).2.1⟩), by omega⟩
      · rename_i c1
        rw [e2] at c1
        exact ⟨T, _, rfl, by walk_at "only", by walk_at "atv", ht1, keep T (fun e => ⟨e, fun q => c1 ((hC _ _).mp q).1⟩), by omega⟩
    · rintro l ⟨T, jj, rfl, hj, hjp, ht1, ht2, htl⟩
      rw [List.length_map, List.length_range] at ht2 htl
      repeat' walk_at "st"
      refine ⟨T, _, rfl, hj, ht1, fun e q s hq h1 h2 => ?_, by omega⟩
      by_cases hqp : q = p
      · rw [hqp]; exact (ht2 e).2 s h1 (by omega)
      · exact (ht2 e).1 q s (by omega) h1 h2
  · rintro l ⟨T, jj, rfl, hj, ht1, ht2, htl⟩
    rw [List.length_map, List.length_range] at ht2 htl
    repeat' walk_at "st"
    refine cutL_to (by decide) (by rw [List.length_map, hlid]; omega) ?_
    refine then_ret (post_ret ?_)
    have := h T ht1 ht2
    rw [List.map_take] at this
    exact this
end L1
/-- at how many places two triples differ -/
noncomputable def farN (a b : List Nat) : Nat := ((List.range 3).filter fun k => a.getD k 0 != b.getD k 0).length
noncomputable def ms1 : List Nat := [311, 315, 335, 347, 363, 373]
noncomputable def cnt1 (m : Nat) : Nat := 4095 / m + 1
theorem far_eq (a b c x y z : Nat) : farN [a, b, c] [x, y, z] = (if a = x then 0 else 1) + (if b = y then 0 else 1) + (if c = z then 0 else 1) := by
  have e : farN [a, b, c] [x, y, z] = ([0, 1, 2].filter fun k => [a, b, c].getD k 0 != [x, y, z].getD k 0).length := rfl
  rw [e]
  by_cases h1 : a = x <;> by_cases h2 : b = y <;> by_cases h3 : c = z <;> simp [List.filter_cons, h1, h2, h3]
theorem ms_le {m : Nat} (h : m ∈ ms1) : 311 ≤ m ∧ m ≤ 373 := by
  have key : ∀ m ∈ ms1, 311 ≤ m ∧ m ≤ 373 := by decide
  exact key m h
theorem tab_code : (ms1.all fun m => (List.range (cnt1 m)).all fun t => (List.range (cnt1 m)).all fun u => t == u || (m * t / 256 != m * u / 256 && m * t / 16 % 16 != m * u / 16 % 16 && m * t % 16 != m * u % 16)) = true := by decide +kernel
theorem code_apart {m t u : Nat} (hm : m ∈ ms1) (ht : t < cnt1 m) (hu : u < cnt1 m) (h : t ≠ u) : m * t / 256 ≠ m * u / 256 ∧ m * t / 16 % 16 ≠ m * u / 16 % 16 ∧ m * t % 16 ≠ m * u % 16 := by
  have := List.all_eq_true.mp (List.all_eq_true.mp (List.all_eq_true.mp tab_code m hm) t (List.mem_range.mpr ht)) u (List.mem_range.mpr hu)
  rw [Bool.or_eq_true, Bool.and_eq_true, Bool.and_eq_true] at this
  rcases this with q | ⟨⟨q1, q2⟩, q3⟩
  · exact absurd (by simpa using q) h
  · exact ⟨by simpa using q1, by simpa using q2, by simpa using q3⟩
theorem near_one {m t u x y z : Nat} (hm : m ∈ ms1) (ht : t < cnt1 m) (hu : u < cnt1 m) (h1 : farN (figs (m * t)) [x, y, z] < 2) (h2 : farN (figs (m * u)) [x, y, z] < 2) : t = u := by
  by_cases e : t = u
  · exact e
  · exfalso
    obtain ⟨a1, a2, a3⟩ := code_apart hm ht hu e
    unfold figs at h1 h2
    rw [far_eq] at h1 h2
    generalize m * t / 256 = p0 at *
    generalize m * t / 16 % 16 = p1 at *
    generalize m * t % 16 = p2 at *
    generalize m * u / 256 = q0 at *
    generalize m * u / 16 % 16 = q1 at *
    generalize m * u % 16 = q2 at *
    clear ht hu hm e
    have key : ∀ p q v : Nat, p ≠ q → 1 ≤ (if p = v then 0 else 1) + (if q = v then 0 else 1) := fun p q v h => by
      by_cases e1 : p = v
      · have : ¬ q = v := fun e2 => h (e1.trans e2.symm)
        rw [if_pos e1, if_neg this]; exact Nat.le_refl _
      · rw [if_neg e1]; exact Nat.le_add_right _ _
    have k0 := key _ _ x a1
    have k1 := key _ _ y a2
    have k2 := key _ _ z a3
    omega
theorem figs_sum {n : Nat} (h : n < 4096) : n / 256 < 16 ∧ n / 16 % 16 < 16 ∧ n % 16 < 16 ∧ n = 256 * (n / 256) + 16 * (n / 16 % 16) + n % 16 := by
  refine ⟨Nat.div_lt_of_lt_mul h, Nat.mod_lt _ (by decide), Nat.mod_lt _ (by decide), ?_⟩
  have h1 := Nat.div_add_mod n 16
  have h2 := Nat.div_add_mod (n / 16) 16
  rw [Nat.div_div_eq_div_mul] at h2
  generalize n / (16 * 16) = a at *
  generalize n / 16 % 16 = b at *
  generalize n % 16 = c at *
  rw [← h1, ← h2, Nat.mul_add, ← Nat.mul_assoc]
theorem figs_of {a b c : Nat} (hb : b < 16) (hc : c < 16) : (256 * a + 16 * b + c) / 256 = a ∧ (256 * a + 16 * b + c) / 16 % 16 = b ∧ (256 * a + 16 * b + c) % 16 = c := by
  have e : (256 * a + 16 * b + c) / 16 = 16 * a + b := by
    rw [show 256 * a + 16 * b + c = c + (16 * a + b) * 16 by omega, Nat.add_mul_div_right _ _ (by decide), Nat.div_eq_of_lt hc, Nat.zero_add]
  refine ⟨?_, ?_, ?_⟩
  · rw [show 256 = 16 * 16 from rfl, ← Nat.div_div_eq_div_mul, show 16 * 16 = 256 from rfl, e, Nat.add_comm, Nat.add_mul_div_left _ _ (by decide), Nat.div_eq_of_lt hb, Nat.zero_add]
  · rw [e, Nat.mul_add_mod, Nat.mod_eq_of_lt hb]
  · rw [show 256 * a + 16 * b + c = 16 * (16 * a + b) + c by omega, Nat.mul_add_mod, Nat.mod_eq_of_lt hc]
theorem tag_le {m t : Nat} (hm : 0 < m) (ht : t < cnt1 m) : m * t ≤ 4095 := by
  unfold cnt1 at ht
  have : t ≤ 4095 / m := by omega
  calc m * t ≤ m * (4095 / m) := Nat.mul_le_mul_left _ this
    _ ≤ 4095 := Nat.mul_div_le _ _
theorem filter_one {n t : Nat} {p : Nat → Bool} (ht : t < n) (hp : p t = true) (h : ∀ u < n, p u = true → u = t) : (List.range n).filter p = [t] := by
  have e : (List.range n).filter p = (List.range n).filter fun u => u == t := by
    apply List.filter_congr
    intro u hu
    have hu := List.mem_range.mp hu
    by_cases e : u = t
    · subst e; simp [hp]
    · have : p u = false := by
        cases q : p u with
        | false => rfl
        | true => exact absurd (h u hu q) e
      rw [this]; simp [e]
  rw [e]
  have key : ∀ n, t < n → (List.range n).filter (fun u => u == t) = [t] := by
    intro n
    induction n with
    | zero => intro h; omega
    | succ n ih =>
      intro h
      rw [List.range_succ, List.filter_append]
      by_cases q : t = n
      · subst q
        have : (List.range t).filter (fun u => u == t) = [] := by
          rw [List.filter_eq_nil_iff]
          intro a ha
          have := List.mem_range.mp ha
          simp; omega
        rw [this]; simp
      · rw [ih (by omega)]
        have : ¬ n = t := fun e => q e.symm
        simp [this]
  exact key n ht
namespace L1
theorem cond_mul {x y z m p : Nat} {s : Int} (hm : 0 < m) (h : Cond x y z m p s) : ∃ u : Int, ((256 * x + 16 * y + z : Nat) : Int) - s * ((16 ^ (2 - p) : Nat) : Int) = m * u := by
  obtain ⟨h1, _⟩ := h
  have h1 : (((256 * x + 16 * y + z : Nat) : Int) % m - s * ((16 ^ (2 - p) : Nat) : Int)) % m = 0 := h1
  generalize ((256 * x + 16 * y + z : Nat) : Int) = N at *
  generalize s * ((16 ^ (2 - p) : Nat) : Int) = c at *
  have h2 : (N - c) % (m : Int) = 0 := by
    rw [Int.sub_emod] at h1 ⊢
    rw [Int.emod_emod_of_dvd _ (Int.dvd_refl _)] at h1
    exact h1
  exact ⟨(N - c) / m, (Int.mul_ediv_cancel' (Int.dvd_of_emod_eq_zero h2)).symm⟩
/-- a letter set back gives a tag that is within one letter -/
theorem cond_near {x y z m p : Nat} {s : Int} (hx : x < 16) (hy : y < 16) (hz : z < 16) (hm : 0 < m) (hp : p < 3) (h : Cond x y z m p s) :
    ∃ t : Nat, t < cnt1 m ∧ farN (figs (m * t)) [x, y, z] < 2 ∧ (((256 * x + 16 * y + z : Nat) : Int) - s * ((16 ^ (2 - p) : Nat) : Int)) / m = t := by
  obtain ⟨u, hu⟩ := cond_mul hm h
  obtain ⟨_, h2, h3⟩ := h
  have hU : ∃ a b c : Nat, a < 16 ∧ b < 16 ∧ c < 16 ∧ ((256 * x + 16 * y + z : Nat) : Int) - s * ((16 ^ (2 - p) : Nat) : Int) = (256 * a + 16 * b + c : Nat) ∧ farN [a, b, c] [x, y, z] < 2 := by
    obtain rfl | rfl | rfl := lt3 hp
    · have h2 : 0 ≤ (x : Int) - s := h2
      have h3 : (x : Int) - s ≤ 15 := h3
      refine ⟨((x : Int) - s).toNat, y, z, by omega, hy, hz, ?_, by rw [far_eq, if_pos rfl, if_pos rfl]; split <;> omega⟩
      show _ - s * (256 : Nat) = _
      omega
    · have h2 : 0 ≤ (y : Int) - s := h2
      have h3 : (y : Int) - s ≤ 15 := h3
      refine ⟨x, ((y : Int) - s).toNat, z, hx, by omega, hz, ?_, by rw [far_eq, if_pos rfl, if_pos rfl]; split <;> omega⟩
      show _ - s * (16 : Nat) = _
      omega
    · have h2 : 0 ≤ (z : Int) - s := h2
      have h3 : (z : Int) - s ≤ 15 := h3
      refine ⟨x, y, ((z : Int) - s).toNat, hx, hy, by omega, ?_, by rw [far_eq, if_pos rfl, if_pos rfl]; split <;> omega⟩
      show _ - s * (1 : Nat) = _
      omega
  obtain ⟨a, b, c, ha, hb, hc, hU, hf⟩ := hU
  rw [hU] at hu ⊢
  have hm0 : (0 : Int) < m := by omega
  have hu0 : 0 ≤ u := by
    by_cases q : 0 ≤ u
    · exact q
    · exfalso
      have : (m : Int) * u < 0 := Int.mul_neg_of_pos_of_neg hm0 (by omega)
      omega
  obtain ⟨t, rfl⟩ := Int.eq_ofNat_of_zero_le hu0
  have hN : 256 * a + 16 * b + c = m * t := by
    have : ((256 * a + 16 * b + c : Nat) : Int) = ((m * t : Nat) : Int) := by rw [hu, Int.natCast_mul]
    exact Int.ofNat_inj.mp this
  refine ⟨t, ?_, ?_, ?_⟩
  · unfold cnt1
    have : t ≤ 4095 / m := (Nat.le_div_iff_mul_le hm).mpr (by rw [Nat.mul_comm]; omega)
    omega
  · have e : figs (m * t) = [a, b, c] := by
      rw [← hN]; unfold figs
      obtain ⟨e1, e2, e3⟩ := figs_of (a := a) hb hc
      rw [e1, e2, e3]
    rw [e]; exact hf
  · rw [hu, Int.mul_ediv_cancel_left _ (by omega)]
/-- a tag within one letter gives a step that the letter can be set back by -/
theorem near_cond {x y z m t : Nat} (hx : x < 16) (hy : y < 16) (hz : z < 16) (hm : 0 < m) (ht : t < cnt1 m) (h : farN (figs (m * t)) [x, y, z] < 2) : ∃ p s, p < 3 ∧ -15 ≤ s ∧ s ≤ 15 ∧ Cond x y z m p s := by
  have hle := tag_le hm ht
  have hdv : ((m * t : Nat) : Int) % m = 0 := by rw [Int.natCast_mul]; exact Int.mul_emod_right _ _
  generalize hn : m * t = n at *
  have hb : n / 256 < 16 ∧ n / 16 % 16 < 16 ∧ n % 16 < 16 ∧ n = 256 * (n / 256) + 16 * (n / 16 % 16) + n % 16 := figs_sum (Nat.lt_succ_of_le hle)
  unfold figs at h
  rw [far_eq] at h
  generalize n / 256 = a at *
  generalize n / 16 % 16 = b at *
  generalize n % 16 = c at *
  obtain ⟨ha, hb, hc, e⟩ := hb
  have key : ∀ (p : Nat) (s : Int), ((256 * x + 16 * y + z : Nat) : Int) - s * ((16 ^ (2 - p) : Nat) : Int) = n → (((256 * x + 16 * y + z : Nat) : Int) % m - s * ((16 ^ (2 - p) : Nat) : Int)) % m = 0 := fun p s q => by
    rw [← q] at hdv
    rw [Int.sub_emod] at hdv ⊢
    rw [Int.emod_emod_of_dvd _ (Int.dvd_refl _)]
    exact hdv
  clear hdv hn ht hle
  have cs : (b = y ∧ c = z) ∨ (a = x ∧ c = z) ∨ (a = x ∧ b = y) := by
    by_cases q1 : a = x <;> by_cases q2 : b = y <;> by_cases q3 : c = z <;> simp [q1, q2, q3] at h ⊢
  rcases cs with ⟨rfl, rfl⟩ | ⟨rfl, rfl⟩ | ⟨rfl, rfl⟩
  · refine ⟨0, (x : Int) - a, by omega, by omega, by omega, key _ _ ?_, ?_, ?_⟩
    · show _ - ((x : Int) - a) * (256 : Nat) = _; omega
    · show 0 ≤ (x : Int) - ((x : Int) - a); omega
    · show (x : Int) - ((x : Int) - a) ≤ 15; omega
  · refine ⟨1, (y : Int) - b, by omega, by omega, by omega, key _ _ ?_, ?_, ?_⟩
    · show _ - ((y : Int) - b) * (16 : Nat) = _; omega
    · show 0 ≤ (y : Int) - ((y : Int) - b); omega
    · show (y : Int) - ((y : Int) - b) ≤ 15; omega
  · refine ⟨2, (z : Int) - c, by omega, by omega, by omega, key _ _ ?_, ?_, ?_⟩
    · show _ - ((z : Int) - c) * (1 : Nat) = _; omega
    · show 0 ≤ (z : Int) - ((z : Int) - c); omega
    · show (z : Int) - ((z : Int) - c) ≤ 15; omega
theorem near_mended {m x y z : Nat} (hm : m ∈ ms1) (hx : x < 16) (hy : y < 16) (hz : z < 16) {T : List Int} (h1 : ∀ t ∈ T, ∃ p s, p < 3 ∧ Cond x y z m p s ∧ t = ((256 * x + 16 * y + z : Nat) - s * ((16 ^ (2 - p) : Nat) : Int)) / m)
    (h2 : T = [] → ∀ p s, p < 3 → -15 ≤ s → s ≤ 15 → ¬ Cond x y z m p s) : ((List.range (cnt1 m)).filter fun t => decide (farN (figs (m * t)) [x, y, z] < 2)).map (fun (t : Nat) => (t : Int)) = T.take 1 := by
  have hm0 : 0 < m := by have := ms_le hm; omega
  have hT : ∀ v ∈ T, ∃ t : Nat, t < cnt1 m ∧ farN (figs (m * t)) [x, y, z] < 2 ∧ v = t := fun v hv => by
    obtain ⟨p, s, hp, hc, e⟩ := h1 v hv
    obtain ⟨t, q1, q2, q3⟩ := cond_near hx hy hz hm0 hp hc
    exact ⟨t, q1, q2, e.trans q3⟩
  cases T with
  | nil =>
    have : (List.range (cnt1 m)).filter (fun t => decide (farN (figs (m * t)) [x, y, z] < 2)) = [] := by
      rw [List.filter_eq_nil_iff]
      intro t ht q
      obtain ⟨p, s, hp, q1, q2, hc⟩ := near_cond hx hy hz hm0 (List.mem_range.mp ht) (of_decide_eq_true q)
      exact h2 rfl p s hp q1 q2 hc
    rw [this]; rfl
  | cons v r =>
    obtain ⟨t, q1, q2, rfl⟩ := hT v (.head _)
    rw [filter_one q1 (decide_eq_true q2) fun u hu hd => near_one hm hu q1 (of_decide_eq_true hd) q2]
    rfl
end L1
noncomputable def minC (c0 c1 c2 c3 : Nat) : Nat := min (min (min c0 c1) c2) c3
/-- what it costs to leave out one of the four -/
noncomputable def outC (L F : List Nat) (k : Nat) : Nat := 5 + farN (L.take k ++ L.drop (k + 1)) F
theorem tab_six : ∀ a < 2, ∀ b < 3, ∀ c < 4, ∀ d < 5, ∀ e < 6, (levQ [0, 2 * a, 2 * b] [2 * c + 1, 2 * d + 1, 2 * e + 1] (3 + farN [0, a, b] [c, d, e]) && (farN [0, a, b] [c, d, e] == 3 || levQ [2 * c, 2 * d, 2 * e] [0, 2 * a, 2 * b] (2 * farN [0, a, b] [c, d, e]))) = true := by decide +kernel
noncomputable def chk7 (a b c d e f : Nat) : Bool := levQ [0, 2 * a, 2 * b, 2 * c] [2 * d + 1, 2 * e + 1, 2 * f + 1] (minC (outC [0, a, b, c] [d, e, f] 0) (outC [0, a, b, c] [d, e, f] 1) (outC [0, a, b, c] [d, e, f] 2) (outC [0, a, b, c] [d, e, f] 3))
theorem tab_seven : ∀ a < 2, ∀ b < 3, ∀ c < 4, ∀ d < 5, ∀ e < 6, ∀ f < 7, chk7 a b c d e f = true := by decide +kernel
/-- the sign that a label's letter has -/
noncomputable def sgL (f : Nat → Nat) (c : Nat) : Nat := if c % 2 = 0 then 65 + f (c / 2) else 97 + f (c / 2)
/-- a place's label: the first place of its letter -/
theorem labels (f : Nat → Nat) : ∃ lab : Nat → Nat, (∀ i, lab i ≤ i) ∧ (∀ i, f (lab i) = f i) ∧ ∀ i j, f i = f j → lab i = lab j := by
  have ex : ∀ i, ∃ j, f j = f i ∧ ∀ k < j, f k ≠ f i := fun i => by
    have key : ∀ n, (∃ j ≤ n, f j = f i) → ∃ j, f j = f i ∧ ∀ k < j, f k ≠ f i := by
      intro n
      induction n with
      | zero => rintro ⟨j, hj, e⟩; exact ⟨j, e, fun k hk => by omega⟩
      | succ n ih =>
        rintro ⟨j, hj, e⟩
        by_cases q : ∃ j ≤ n, f j = f i
        · exact ih q
        · refine ⟨j, e, fun k hk e2 => q ⟨k, by omega, e2⟩⟩
    exact key i ⟨i, Nat.le_refl _, rfl⟩
  refine ⟨fun i => (ex i).choose, fun i => ?_, fun i => (ex i).choose_spec.1, fun i j e => ?_⟩
  · by_cases q : (ex i).choose ≤ i
    · exact q
    · exact absurd rfl ((ex i).choose_spec.2 i (by omega))
  · have h1 := (ex i).choose_spec
    have h2 := (ex j).choose_spec
    show (ex i).choose = (ex j).choose
    generalize (ex i).choose = p at *
    generalize (ex j).choose = q at *
    by_cases h : p < q
    · exact absurd (h1.1.trans e) (h2.2 p h)
    · by_cases h' : q < p
      · exact absurd (h2.1.trans e.symm) (h1.2 q h')
      · omega
theorem far_congr {a b c x y z a' b' c' x' y' z' : Nat} (h1 : a = x ↔ a' = x') (h2 : b = y ↔ b' = y') (h3 : c = z ↔ c' = z') : farN [a, b, c] [x, y, z] = farN [a', b', c'] [x', y', z'] := by
  rw [far_eq, far_eq]
  simp only [h1, h2, h3]
namespace L1
theorem low_great : ((List.range 16).all fun i => low (65 + i) == [97 + i] && low (97 + i) == [97 + i]) = true := by decide +kernel
theorem low_g {i : Nat} (hi : i < 16) : low (65 + i) = [97 + i] ∧ low (97 + i) = [97 + i] := by
  have := List.all_eq_true.mp low_great i (List.mem_range.mpr hi)
  rw [Bool.and_eq_true] at this
  exact ⟨eq_of_beq this.1, eq_of_beq this.2⟩
section
variable {f lab : Nat → Nat} (hf : ∀ i, f i < 16) (l2 : ∀ i, f (lab i) = f i) (l3 : ∀ i j, f i = f j → lab i = lab j)
include hf l2 l3
noncomputable def inL (lab : Nat → Nat) (c : Nat) : Prop := ∃ i, c = 2 * lab i ∨ c = 2 * lab i + 1
omit hf l3 in
theorem sgL_form {c : Nat} (h : inL lab c) : ∃ i, c / 2 = lab i ∧ ((c % 2 = 0 ∧ sgL f c = 65 + f i) ∨ (c % 2 = 1 ∧ sgL f c = 97 + f i)) := by
  obtain ⟨i, h⟩ := h
  refine ⟨i, by omega, ?_⟩
  unfold sgL
  rcases h with rfl | rfl
  · left; refine ⟨by omega, ?_⟩
    rw [if_pos (by omega), show 2 * lab i / 2 = lab i by omega, l2]
  · right; refine ⟨by omega, ?_⟩
    rw [if_neg (by omega), show (2 * lab i + 1) / 2 = lab i by omega, l2]
theorem sgL_inj : ∀ x y, inL lab x → inL lab y → (sgL f x = sgL f y ↔ x = y) := by
  intro x y hx hy
  refine ⟨fun h => ?_, fun h => by rw [h]⟩
  obtain ⟨i, ei, hi⟩ := sgL_form l2 hx
  obtain ⟨j, ej, hj⟩ := sgL_form l2 hy
  have := hf i
  have := hf j
  rcases hi with ⟨p1, q1⟩ | ⟨p1, q1⟩ <;> rcases hj with ⟨p2, q2⟩ | ⟨p2, q2⟩ <;> rw [q1, q2] at h
  · have := l3 i j (by omega); omega
  · omega
  · omega
  · have := l3 i j (by omega); omega
theorem sgL_sub : ∀ x y, inL lab x → inL lab y → subN (sgL f x) (sgL f y) = costQ x y := by
  intro x y hx hy
  rw [costQ_eq]
  unfold subN
  have h1 := sgL_inj hf l2 l3 x y hx hy
  have h2 : low (sgL f x) = low (sgL f y) ↔ x / 2 = y / 2 := by
    obtain ⟨i, ei, hi⟩ := sgL_form l2 hx
    obtain ⟨j, ej, hj⟩ := sgL_form l2 hy
    have e1 : low (sgL f x) = [97 + f i] := by
      rcases hi with ⟨_, q⟩ | ⟨_, q⟩ <;> rw [q]
      · exact (low_g (hf i)).1
      · exact (low_g (hf i)).2
    have e2 : low (sgL f y) = [97 + f j] := by
      rcases hj with ⟨_, q⟩ | ⟨_, q⟩ <;> rw [q]
      · exact (low_g (hf j)).1
      · exact (low_g (hf j)).2
    rw [e1, e2, ei, ej]
    constructor
    · intro h; exact l3 i j (by simpa using h)
    · intro h
      have : f i = f j := by rw [← l2 i, ← l2 j, h]
      rw [this]
  by_cases e : x = y
  · rw [if_pos e, if_pos (h1.mpr e)]
  · rw [if_neg e, if_neg (fun q => e (h1.mp q))]
    by_cases e2 : x / 2 = y / 2
    · rw [if_pos e2, if_pos (h2.mpr e2)]
    · rw [if_neg e2, if_neg (fun q => e2 (h2.mp q))]
theorem lev_lab {a b : List Nat} {due mc : Nat} (ha : ∀ x ∈ a, inL lab x) (hb : ∀ x ∈ b, inL lab x) (h : levQ a b due = true) (hm : due ≤ mc + 1) : levN subN (a.map (sgL f)) (b.map (sgL f)) mc = due := by
  rw [lev_map (S := inL lab) (σ := sgL f) (sub' := costQ) (sgL_inj hf l2 l3) (sgL_sub hf l2 l3) ha hb]
  exact lev_Q hm h
end
theorem sgL_g {f lab : Nat → Nat} (l2 : ∀ i, f (lab i) = f i) (i : Nat) : sgL f (2 * lab i) = 65 + f i ∧ sgL f (2 * lab i + 1) = 97 + f i := by
  unfold sgL
  rw [if_pos (by omega), if_neg (by omega), show 2 * lab i / 2 = lab i by omega, show (2 * lab i + 1) / 2 = lab i by omega, l2]
  exact ⟨rfl, rfl⟩
theorem lev_six {p q r x y z : Nat} (hp : p < 16) (hq : q < 16) (hr : r < 16) (hx : x < 16) (hy : y < 16) (hz : z < 16) :
    (∀ mc, 3 + farN [p, q, r] [x, y, z] ≤ mc + 1 → levN subN [65 + p, 65 + q, 65 + r] [97 + x, 97 + y, 97 + z] mc = 3 + farN [p, q, r] [x, y, z]) ∧
    (farN [p, q, r] [x, y, z] < 3 → levN subN [65 + x, 65 + y, 65 + z] [65 + p, 65 + q, 65 + r] (2 * farN [p, q, r] [x, y, z]) = 2 * farN [p, q, r] [x, y, z]) := by
  let f : Nat → Nat := fun i => [p, q, r, x, y, z].getD i 0
  have hf : ∀ i, f i < 16 := fun i => by
    match i with
    | 0 => exact hp
    | 1 => exact hq
    | 2 => exact hr
    | 3 => exact hx
    | 4 => exact hy
    | 5 => exact hz
    | _ + 6 => exact Nat.zero_lt_succ _
  obtain ⟨lab, l1, l2, l3⟩ := labels f
  have h0 : lab 0 = 0 := by have := l1 0; omega
  have iff : ∀ i j, f i = f j ↔ lab i = lab j := fun i j => ⟨l3 i j, fun h => by rw [← l2 i, ← l2 j, h]⟩
  have hfar : farN [p, q, r] [x, y, z] = farN [0, lab 1, lab 2] [lab 3, lab 4, lab 5] := far_congr (by rw [← h0]; exact iff 0 3) (iff 1 4) (iff 2 5)
  have T := tab_six (lab 1) (by have := l1 1; omega) (lab 2) (by have := l1 2; omega) (lab 3) (by have := l1 3; omega) (lab 4) (by have := l1 4; omega) (lab 5) (by have := l1 5; omega)
  rw [← hfar, Bool.and_eq_true, Bool.or_eq_true] at T
  have mem : ∀ i, inL lab (2 * lab i) ∧ inL lab (2 * lab i + 1) := fun i => ⟨⟨i, .inl rfl⟩, ⟨i, .inr rfl⟩⟩
  have z0 : 0 = 2 * lab 0 := by omega
  rw [show [0, 2 * lab 1, 2 * lab 2] = [2 * lab 0, 2 * lab 1, 2 * lab 2] by rw [← z0]] at T
  have m1 : ∀ c ∈ [2 * lab 0, 2 * lab 1, 2 * lab 2], inL lab c := fun c hc => by
    simp only [List.mem_cons, List.not_mem_nil, or_false] at hc
    rcases hc with rfl | rfl | rfl <;> exact (mem _).1
  have m2 : ∀ c ∈ [2 * lab 3 + 1, 2 * lab 4 + 1, 2 * lab 5 + 1], inL lab c := fun c hc => by
    simp only [List.mem_cons, List.not_mem_nil, or_false] at hc
    rcases hc with rfl | rfl | rfl <;> exact (mem _).2
  have m3 : ∀ c ∈ [2 * lab 3, 2 * lab 4, 2 * lab 5], inL lab c := fun c hc => by
    simp only [List.mem_cons, List.not_mem_nil, or_false] at hc
    rcases hc with rfl | rfl | rfl <;> exact (mem _).1
  have g1 : [2 * lab 0, 2 * lab 1, 2 * lab 2].map (sgL f) = [65 + p, 65 + q, 65 + r] := by
    simp only [List.map_cons, List.map_nil, (sgL_g l2 _).1]; rfl
  have g2 : [2 * lab 3 + 1, 2 * lab 4 + 1, 2 * lab 5 + 1].map (sgL f) = [97 + x, 97 + y, 97 + z] := by
    simp only [List.map_cons, List.map_nil, (sgL_g l2 _).2]; rfl
  have g3 : [2 * lab 3, 2 * lab 4, 2 * lab 5].map (sgL f) = [65 + x, 65 + y, 65 + z] := by
    simp only [List.map_cons, List.map_nil, (sgL_g l2 _).1]; rfl
  refine ⟨fun mc hmc => ?_, fun hlt => ?_⟩
  · rw [← g1, ← g2]; exact lev_lab hf l2 l3 m1 m2 T.1 hmc
  · rw [← g1, ← g3]
    refine lev_lab hf l2 l3 m3 m1 ?_ (Nat.le_succ _)
    rcases T.2 with h | h
    · exact absurd (by simpa using h) (Nat.ne_of_lt hlt)
    · exact h
theorem lev_seven {a b c d x y z : Nat} (ha : a < 16) (hb : b < 16) (hc : c < 16) (hd : d < 16) (hx : x < 16) (hy : y < 16) (hz : z < 16) {mc : Nat} (hmc : mc = minC (outC [a, b, c, d] [x, y, z] 0) (outC [a, b, c, d] [x, y, z] 1) (outC [a, b, c, d] [x, y, z] 2) (outC [a, b, c, d] [x, y, z] 3)) :
    levN subN [65 + a, 65 + b, 65 + c, 65 + d] [97 + x, 97 + y, 97 + z] mc = mc := by
  let f : Nat → Nat := fun i => [a, b, c, d, x, y, z].getD i 0
  have hf : ∀ i, f i < 16 := fun i => by
    match i with
    | 0 => exact ha
    | 1 => exact hb
    | 2 => exact hc
    | 3 => exact hd
    | 4 => exact hx
    | 5 => exact hy
    | 6 => exact hz
    | _ + 7 => exact Nat.zero_lt_succ _
  obtain ⟨lab, l1, l2, l3⟩ := labels f
  have h0 : lab 0 = 0 := by have := l1 0; omega
  have iff : ∀ i j, f i = f j ↔ lab i = lab j := fun i j => ⟨l3 i j, fun h => by rw [← l2 i, ← l2 j, h]⟩
  have T := tab_seven (lab 1) (by have := l1 1; omega) (lab 2) (by have := l1 2; omega) (lab 3) (by have := l1 3; omega) (lab 4) (by have := l1 4; omega) (lab 5) (by have := l1 5; omega) (lab 6) (by have := l1 6; omega)
  unfold chk7 at T
  have o0 : outC [a, b, c, d] [x, y, z] 0 = outC [0, lab 1, lab 2, lab 3] [lab 4, lab 5, lab 6] 0 := congrArg (5 + ·) (far_congr (iff 1 4) (iff 2 5) (iff 3 6))
  have o1 : outC [a, b, c, d] [x, y, z] 1 = outC [0, lab 1, lab 2, lab 3] [lab 4, lab 5, lab 6] 1 := congrArg (5 + ·) (far_congr (by rw [← h0]; exact iff 0 4) (iff 2 5) (iff 3 6))
  have o2 : outC [a, b, c, d] [x, y, z] 2 = outC [0, lab 1, lab 2, lab 3] [lab 4, lab 5, lab 6] 2 := congrArg (5 + ·) (far_congr (by rw [← h0]; exact iff 0 4) (iff 1 5) (iff 3 6))
  have o3 : outC [a, b, c, d] [x, y, z] 3 = outC [0, lab 1, lab 2, lab 3] [lab 4, lab 5, lab 6] 3 := congrArg (5 + ·) (far_congr (by rw [← h0]; exact iff 0 4) (iff 1 5) (iff 2 6))
  rw [← o0, ← o1, ← o2, ← o3, ← hmc] at T
  have mem : ∀ i, inL lab (2 * lab i) ∧ inL lab (2 * lab i + 1) := fun i => ⟨⟨i, .inl rfl⟩, ⟨i, .inr rfl⟩⟩
  have z0 : 0 = 2 * lab 0 := by omega
  rw [show [0, 2 * lab 1, 2 * lab 2, 2 * lab 3] = [2 * lab 0, 2 * lab 1, 2 * lab 2, 2 * lab 3] by rw [← z0]] at T
  have m1 : ∀ c ∈ [2 * lab 0, 2 * lab 1, 2 * lab 2, 2 * lab 3], inL lab c := fun c hc => by
    simp only [List.mem_cons, List.not_mem_nil, or_false] at hc
    rcases hc with rfl | rfl | rfl | rfl <;> exact (mem _).1
  have m2 : ∀ c ∈ [2 * lab 4 + 1, 2 * lab 5 + 1, 2 * lab 6 + 1], inL lab c := fun c hc => by
    simp only [List.mem_cons, List.not_mem_nil, or_false] at hc
    rcases hc with rfl | rfl | rfl <;> exact (mem _).2
  have g1 : [2 * lab 0, 2 * lab 1, 2 * lab 2, 2 * lab 3].map (sgL f) = [65 + a, 65 + b, 65 + c, 65 + d] := by
    simp only [List.map_cons, List.map_nil, (sgL_g l2 _).1]; rfl
  have g2 : [2 * lab 4 + 1, 2 * lab 5 + 1, 2 * lab 6 + 1].map (sgL f) = [97 + x, 97 + y, 97 + z] := by
    simp only [List.map_cons, List.map_nil, (sgL_g l2 _).2]; rfl
  rw [← g1, ← g2]; exact lev_lab hf l2 l3 m1 m2 T (Nat.le_succ _)
end L1
theorem min_four (a b c d : Nat) : minL [(a : Int), (b : Int), (c : Int), (d : Int)] = ((minC a b c d : Nat) : Int) := by
  unfold minL minC
  simp only [List.foldl_cons, List.foldl_nil]
  rw [show ∀ x y : Nat, (if (y : Int) < (x : Int) then (y : Int) else (x : Int)) = ((min x y : Nat) : Int) from fun x y => by split <;> omega]
  rw [show ∀ x y : Nat, (if (y : Int) < (x : Int) then (y : Int) else (x : Int)) = ((min x y : Nat) : Int) from fun x y => by split <;> omega]
  rw [show ∀ x y : Nat, (if (y : Int) < (x : Int) then (y : Int) else (x : Int)) = ((min x y : Nat) : Int) from fun x y => by split <;> omega]
namespace L1
noncomputable abbrev kd19 : Kd := fun x => List.lookup x (fnT st19).scope.names
/-- the loop's body -/
noncomputable abbrev body19 : List Stmt := match (fnT st19).body.drop 11 with
  | .For _ _ b _ _ :: _ => b
  | _ => []
/-- behind the last test -/
noncomputable abbrev inner19 : List Stmt := match body19.drop 10 with
  | .If _ b _ _ :: _ => b
  | _ => []
noncomputable abbrev ns19 : List Str := ["tag", "due", "word", "far", "told", "place", "longer", "costs"]
noncomputable abbrev pre1 (v0 v1 : V) (d : List Int) (m x y z : Nat) (T : List Int) (jj : Ls) : Ls :=
  ("script", ⟨v0, false⟩) :: ("start", ⟨v1, false⟩) :: ("draws", ⟨.list (d.map .int), false⟩) :: ("m", ⟨.int m, false⟩) :: ("count", ⟨.int (cnt1 m : Nat), false⟩) :: ("figures", ⟨vnats [x, y, z], false⟩) :: ("letters", ⟨.str [97 + x, 97 + y, 97 + z], false⟩) ::
    ("loud", ⟨.str [65 + x, 65 + y, 65 + z], false⟩) :: ("plain", ⟨.str [97 + x, 97 + y, 97 + z], false⟩) :: ("near", ⟨.list (T.map .int), true⟩) :: jj
set_option maxHeartbeats 2000000 in
theorem turnD {M m t x y z : Nat} {Q : Fl → Ls → Prop} {R : Ls → Prop} {v0 v1 : V} {d T : List Int} {jj : Ls} (ht : t < 16) (hn : m * t < 4096) (hx : x < 16) (hy : y < 16) (hz : z < 16) (hd : d.length = 6) (hj : Only ns19 jj) (hcl : jj.clean = jj)
    (g1 : jj.at "tag" = some (.int t)) (g2 : jj.at "due" = some (vnats (figs (m * t)))) (h : ∀ j2, Only ns19 j2 → j2.clean = j2 → R (pre1 v0 v1 d m x y z T j2)) :
    WXs (CC D1 fs1 (M + 4)) kd19 175 (pre1 v0 v1 d m x y z T jj) inner19 (Turn R Q) := by
  have hlid : lenLid = 100000 := rfl
  have hd5 : (5 : Int) < d.length := by rw [hd]; decide
  have hfb : ∀ c ∈ figs (m * t), c < 16 := fun c hc => by
    simp only [figs, List.mem_cons, List.not_mem_nil, or_false] at hc
    rcases hc with rfl | rfl | rfl <;> omega
  have hfl : (figs (m * t)).length = 3 := rfl
  generalize figs (m * t) = F at *
  refine WXs_cons ?_
  walk_at "st"
  repeat' ((fail_if_success (with_reducible show WX _ _ _ _ (.Assign _ _ _) _)); walk_at "st")
  obtain ⟨p, hp, e⟩ : ∃ p : Nat, p < 4 ∧ 3 - d.getD (Int.toNat 5) 0 / 4 % 4 = p := by
    obtain ⟨q, h1, h2⟩ := modN (d.getD (Int.toNat 5) 0 / 4) 4 (by decide)
    have h2 : d.getD (Int.toNat 5) 0 / 4 % 4 = q := h2
    rw [h2]
    exact ⟨3 - q, by omega, by omega⟩
  rw [e]
  have hl1 : (F.take p).length ≤ 3 := by rw [List.length_take]; omega
  have hl2 : (F.drop p).length ≤ 3 := by rw [List.length_drop]; omega
  refine WX_cleanW rfl ?ha (by walk_at "cl") ?hb rfl
  case ha =>
    repeat' walk_at "st"
    refine cutL_toN (by omega) ?_
    repeat' walk_at "st"
    refine b_catN (b := [t]) (by rw [List.length_singleton]; omega) ?_
    repeat' walk_at "st"
    refine cutL_fromN (by omega) ?_
    refine b_catN (by rw [List.length_append, List.length_singleton]; omega) ?_
    rfl
  case hb =>
    repeat' walk_at "st"
    refine cutL_toN (by omega) ?_
    repeat' walk_at "st"
    refine b_catN (b := [t]) (by rw [List.length_singleton]; omega) ?_
    repeat' walk_at "st"
    refine cutL_fromN (by omega) ?_
    refine b_catN (by rw [List.length_append, List.length_singleton]; omega) ?_
    have hL : ∃ a b c e : Nat, F.take p ++ [t] ++ F.drop p = [a, b, c, e] ∧ a < 16 ∧ b < 16 ∧ c < 16 ∧ e < 16 := by
      match F, hfl, hfb with
      | [f0, f1, f2], _, hfb =>
        have h0 := hfb f0 (by simp)
        have h1 := hfb f1 (by simp)
        have h2 := hfb f2 (by simp)
        obtain rfl | rfl | rfl | rfl : p = 0 ∨ p = 1 ∨ p = 2 ∨ p = 3 := by omega
        · exact ⟨_, _, _, _, rfl, ht, h0, h1, h2⟩
        · exact ⟨_, _, _, _, rfl, h0, ht, h1, h2⟩
        · exact ⟨_, _, _, _, rfl, h0, h1, ht, h2⟩
        · exact ⟨_, _, _, _, rfl, h0, h1, h2, ht⟩
    obtain ⟨a, b, c, e, hL, ha, hb, hc, he⟩ := hL
    rw [hL]
    clear hL hl1 hl2
    refine then_put (by walk_at "pt") ?_
    refine WXs_cons ?_
    refine WX_cleanK rfl rfl (by walk_at "cl") ?_ rfl
    refine' WE_compR 4 (fun k => .int ((outC [a, b, c, e] [x, y, z] k : Nat) : Int)) ?k1 ?k2 rfl ?k4 rfl rfl rfl (scopeOk_of ["figures", "longer"] ?s1 ?s2) ?k9 ?he ?hE ?hQ
    case k1 => walk_at "cp"
    case k2 => walk_at "sd"
    case k4 => walk_at "at"
    case k9 => exact fun _ _ => Expr.noConfusion
    case s1 => exact rfl
    case s2 =>
      intro y hy
      simp only [List.mem_cons, List.not_mem_nil, or_false] at hy
      rcases hy with rfl | rfl
      · exact ⟨_, by walk_at "at"⟩
      · exact ⟨_, by walk_at "at"⟩
    case he =>
      repeat' walk_at "st"
      rfl
    case hE =>
      intro k hk
      repeat' ((fail_if_success (with_reducible show WE _ _ _ _ (.ListComp _ _ _ _) _)); walk_at "st")
      refine' WE_compRIf 3 (fun j => .int j) (fun j => (([a, b, c, e].take k ++ [a, b, c, e].drop (k + 1)).getD j 0 != [x, y, z].getD j 0)) ?j1 ?j2 rfl ?j4 rfl rfl rfl (scopeOk_of ["figures", "longer", "k"] ?i1 ?i2) ?j9 ?je ?jT ?jE ?jQ
      case j1 => walk_at "cp"
      case j2 => walk_at "sd"
      case j4 => walk_at "at"
      case j9 => exact fun _ _ => Expr.noConfusion
      case i1 => exact rfl
      case i2 =>
        intro y hy
        simp only [List.mem_cons, List.not_mem_nil, or_false] at hy
        rcases hy with rfl | rfl | rfl
        · exact ⟨_, by walk_at "at"⟩
        · exact ⟨_, by walk_at "at"⟩
        · exact ⟨_, by walk_at "at"⟩
      case je =>
        repeat' walk_at "st"
        rfl
      case jT =>
        intro j hj
        repeat' walk_at "st"
        refine cutL_toN (by rw [hlid]; simp) ?_
        repeat' walk_at "st"
        rw [show ((k : Int) + 1) = ((k + 1 : Nat) : Int) from rfl]
        refine cutL_fromN (by rw [hlid]; simp) ?_
        have hl4 : ([a, b, c, e].take k).length + ([a, b, c, e].drop (k + 1)).length = 3 := by
          have key : ∀ k < 4, ([0, 0, 0, 0].take k).length + ([0, 0, 0, 0].drop (k + 1)).length = 3 := by decide
          have := key k hk
          rw [List.length_take, List.length_drop] at this ⊢
          exact this
        refine b_catN (by rw [hl4]; decide) ?_
        rw [← List.length_append] at hl4
        repeat' walk_at "st"
        exact dec_ne ..
      case jE =>
        intro j hj _
        repeat' walk_at "st"
      case jQ =>
        have hl3 : (List.filter (fun j => (List.take k [a, b, c, e] ++ List.drop (k + 1) [a, b, c, e]).getD j 0 != [x, y, z].getD j 0) (List.range 3)).length ≤ 3 := List.length_filter_le _ _
        repeat' walk_at "st"
        unfold outC
        rw [Int.natCast_add]; rfl
    case hQ =>
      rw [show (List.range 4).map (fun (k : Nat) => V.int ((outC [a, b, c, e] [x, y, z] k : Nat) : Int)) = ([((outC [a, b, c, e] [x, y, z] 0 : Nat) : Int), ((outC [a, b, c, e] [x, y, z] 1 : Nat) : Int), ((outC [a, b, c, e] [x, y, z] 2 : Nat) : Int), ((outC [a, b, c, e] [x, y, z] 3 : Nat) : Int)] : List Int).map .int from rfl]
      have h7 := fun mc => lev_seven (mc := mc) ha hb hc he hx hy hz
      generalize outC [a, b, c, e] [x, y, z] 0 = c0 at *
      generalize outC [a, b, c, e] [x, y, z] 1 = c1 at *
      generalize outC [a, b, c, e] [x, y, z] 2 = c2 at *
      generalize outC [a, b, c, e] [x, y, z] 3 = c3 at *
      have h7 := h7 _ rfl
      have hmin : minL [(c0 : Int), (c1 : Int), (c2 : Int), (c3 : Int)] = ((minC c0 c1 c2 c3 : Nat) : Int) := min_four ..
      generalize minC c0 c1 c2 c3 = mc at *
      refine then_put (by walk_at "pt") ?_
      refine WXs_cons ?_
      refine WX_if (WT_cmp ?_ rfl)
      repeat' ((fail_if_success (with_reducible show WE _ _ _ _ (.ListComp _ _ _ _) _)); walk_at "st")
      refine' WE_comp (fun (x : Nat) => V.int x) [a, b, c, e] (fun i => V.str [65 + i]) ?l1 ?l2 rfl rfl rfl
      case l1 => walk_at "cp"
      refine WI_name ?_
      repeat' walk_at "st"
      refine it_list (by rw [List.length_map, hlid]; simp) ⟨rfl, by rw [hlid]; simp, ?_, ?_⟩
      · intro i hi
        have hi : i < 16 := by
          simp only [List.mem_cons, List.not_mem_nil, or_false] at hi
          rcases hi with rfl | rfl | rfl | rfl <;> assumption
        repeat' walk_at "st"
        rw [show ((65 : Int) + i).toNat = 65 + i by omega]
      rw [show [a, b, c, e].map (fun i => V.str [65 + i]) = ([[65 + a], [65 + b], [65 + c], [65 + e]] : List (List Nat)).map .str from rfl]
      refine WEs_nil ?_
      refine m_join (by decide +kernel) (by rw [hlid]; simp) ?_
      repeat' walk_at "st"
      refine f_minL (by simp) ?_
      rw [hmin]
      repeat' walk_at "st"
      refine w_lev (by simp) (by simp) ?_
      rw [show ([[65 + a], [65 + b], [65 + c], [65 + e]] : List (List Nat)).flatten = [65 + a, 65 + b, 65 + c, 65 + e] from rfl, h7]
      repeat' walk_at "st"
      refine f_minL (by simp) ?_
      rw [hmin]
      repeat' walk_at "st"
      · rename_i hc; exact absurd rfl hc
      · exact h _ (by walk_at "only") (by walk_at "cl")
end L1
namespace L1
/-- the tags so far that are within one letter -/
noncomputable abbrev nearI (m x y z n : Nat) : List Int := ((List.range n).filter fun t => decide (farN (figs (m * t)) [x, y, z] < 2)).map fun (t : Nat) => (t : Int)
theorem near_len {m x y z n : Nat} : (nearI m x y z n).length ≤ n := by
  rw [List.length_map]
  exact Nat.le_trans (List.length_filter_le _ _) (by rw [List.length_range]; exact Nat.le_refl _)
theorem near_succ {m x y z n : Nat} : nearI m x y z (n + 1) = if farN (figs (m * n)) [x, y, z] < 2 then nearI m x y z n ++ [(n : Int)] else nearI m x y z n := by
  unfold nearI
  rw [List.range_succ, List.filter_append, List.map_append]
  by_cases h : farN (figs (m * n)) [x, y, z] < 2
  · rw [if_pos h, List.filter_cons, if_pos (decide_eq_true h)]; rfl
  · rw [if_neg h, List.filter_cons, if_neg (by rw [decide_eq_true_eq]; exact h)]; simp
theorem turnC {M m t x y z : Nat} {Q : Fl → Ls → Prop} {R : Ls → Prop} {v0 v1 : V} {d : List Int} {jj : Ls} (ht : t < 16) (hn : m * t < 4096) (hx : x < 16) (hy : y < 16) (hz : z < 16) (hd : d.length = 6) (hj : Only ns19 jj) (hcl : jj.clean = jj)
    (g1 : jj.at "tag" = some (.int t)) (g2 : jj.at "due" = some (vnats (figs (m * t)))) (g3 : jj.at "told" = some (.int ((3 + farN (figs (m * t)) [x, y, z] : Nat) : Int))) (h : ∀ j2, Only ns19 j2 → j2.clean = j2 → R (pre1 v0 v1 d m x y z (nearI m x y z (t + 1)) j2)) :
    WXs (CC D1 fs1 (M + 4)) kd19 178 (pre1 v0 v1 d m x y z (nearI m x y z t) jj) (body19.drop 9) (Turn R Q) := by
  have hlid : lenLid = 100000 := rfl
  have hnl : (nearI m x y z t).length ≤ t := near_len
  have hd5 : (5 : Int) < d.length := by rw [hd]; decide
  rw [near_succ] at h
  generalize nearI m x y z t = T at *
  refine WXs_cons ?_
  refine WX_ifR (fun l => l = pre1 v0 v1 d m x y z (if farN (figs (m * t)) [x, y, z] < 2 then T ++ [(t : Int)] else T) jj) ?_ ?_
  · repeat' walk_at "st"
    · rename_i c1
      refine WX_app (xs := (T).map .int) rfl (by rw [List.length_map, hlid]; omega) (fun _ _ => Expr.noConfusion) rfl ?_
      repeat' walk_at "st"
      rw [if_pos (by omega), show T.map V.int ++ [V.int (t : Int)] = (T ++ [(t : Int)]).map .int from by rw [List.map_append]; rfl]
    · rename_i c1
      rw [if_neg (by omega)]
  rintro l rfl
  generalize (if farN (figs (m * t)) [x, y, z] < 2 then T ++ [(t : Int)] else T) = T2 at *
  clear hnl
  walk_at "st"
  refine WXs_cons ?_
  refine WX_ifR (fun l => ∃ j2, Only ns19 j2 ∧ j2.clean = j2 ∧ l = pre1 v0 v1 d m x y z T2 j2) ?_ ?_
  · refine WT_or ?_
    refine WR_cons ?_
    walk_at "st"
    repeat' ((fail_if_success (with_reducible show WXs _ _ _ _ _ _)); walk_at "st")
    · refine WXs_nil (turn_next ⟨jj, hj, hcl, rfl⟩)
    · exact turnD ht hn hx hy hz hd hj hcl g1 g2 fun j2 h1 h2 => ⟨j2, h1, h2, rfl⟩
    · exact turnD ht hn hx hy hz hd hj hcl g1 g2 fun j2 h1 h2 => ⟨j2, h1, h2, rfl⟩
  · rintro l ⟨j2, h1, h2, rfl⟩
    repeat' walk_at "st"
    exact h j2 h1 h2
theorem turnB {M m t x y z : Nat} {Q : Fl → Ls → Prop} {R : Ls → Prop} {v0 v1 : V} {d : List Int} {jj : Ls} (ht : t < 16) (hn : m * t < 4096) (hx : x < 16) (hy : y < 16) (hz : z < 16) (hd : d.length = 6) (hj : Only ns19 jj) (hcl : jj.clean = jj)
    (g1 : jj.at "tag" = some (.int t)) (g2 : jj.at "due" = some (vnats (figs (m * t)))) (g3 : jj.at "word" = some (.str ((figs (m * t)).map fun c => 65 + c))) (h : ∀ j2, Only ns19 j2 → j2.clean = j2 → R (pre1 v0 v1 d m x y z (nearI m x y z (t + 1)) j2)) :
    WXs (CC D1 fs1 (M + 4)) kd19 182 (pre1 v0 v1 d m x y z (nearI m x y z t) jj) (body19.drop 5) (Turn R Q) := by
  have hlid : lenLid = 100000 := rfl
  have hd5 : (5 : Int) < d.length := by rw [hd]; decide
  have hC := fun jj hj hcl g1 g2 g3 => turnC (M := M) (Q := Q) (R := R) (v0 := v0) (v1 := v1) (d := d) (jj := jj) ht hn hx hy hz hd hj hcl g1 g2 g3 h
  have h6 := lev_six (p := m * t / 256) (q := m * t / 16 % 16) (r := m * t % 16) (by omega) (by omega) (by omega) hx hy hz
  rw [show [m * t / 256, m * t / 16 % 16, m * t % 16] = figs (m * t) from rfl] at h6
  rw [show [65 + m * t / 256, 65 + m * t / 16 % 16, 65 + m * t % 16] = (figs (m * t)).map fun c => 65 + c from rfl] at h6
  have hfl : (figs (m * t)).length = 3 := rfl
  generalize nearI m x y z t = T at *
  generalize figs (m * t) = F at *
  have hwl : (F.map fun c => 65 + c).length = 3 := by rw [List.length_map]; exact hfl
  generalize (F.map fun c => 65 + c) = W at *
  refine WXs_cons ?_
  repeat' ((fail_if_success (with_reducible show WE _ _ _ _ (.ListComp _ _ _ _) _)); walk_at "st")
  refine' WE_compRIf 3 (fun j => .int j) (fun j => F.getD j 0 != [x, y, z].getD j 0) ?k1 ?k2 rfl ?k4 rfl rfl rfl (scopeOk_of ["due", "figures"] ?s1 ?s2) ?k9 ?he ?hT ?hE ?hQ
  case k1 => walk_at "cp"
  case k2 => walk_at "sd"
  case k4 => walk_at "at"
  case k9 => exact fun _ _ => Expr.noConfusion
  case s1 => exact rfl
  case s2 =>
    intro y hy
    simp only [List.mem_cons, List.not_mem_nil, or_false] at hy
    rcases hy with rfl | rfl
    · exact ⟨_, by walk_at "at"⟩
    · exact ⟨_, by walk_at "at"⟩
  case he =>
    repeat' walk_at "st"
    rfl
  case hT =>
    intro j hj
    repeat' walk_at "st"
    exact dec_ne ..
  case hE =>
    intro j hj _
    repeat' walk_at "st"
  case hQ =>
    have hl3 : (List.filter (fun j => F.getD j 0 != [x, y, z].getD j 0) (List.range 3)).length ≤ 3 := List.length_filter_le _ _
    have hl4 : (List.filter (fun j => F.getD j 0 != [x, y, z].getD j 0) (List.range 3)).length ≤ lenLid := Nat.le_trans hl3 (by decide)
    have hfar : (List.filter (fun j => F.getD j 0 != [x, y, z].getD j 0) (List.range 3)).length = farN F [x, y, z] := rfl
    repeat' ((fail_if_success (with_reducible show WX _ _ _ _ (.Assign _ _ _) _)); walk_at "st")
    rw [hfar] at *
    generalize farN F [x, y, z] = far at *
    clear hfar
    walk_at "st"
    repeat' ((fail_if_success (with_reducible show WF _ _ _ _)); walk_at "st")
    generalize d.getD (Int.toNat 5) 0 / 2 = d5
    obtain ⟨mc, e1, e2⟩ : ∃ mc : Nat, (3 : Int) + (far : Int) - (d5 + (t : Int)) % 2 = mc ∧ 3 + far ≤ mc + 1 := ⟨((3 : Int) + (far : Int) - (d5 + (t : Int)) % 2).toNat, by omega, by omega⟩
    rw [e1]
    refine w_lev (by omega) (by simp) ?_
    rw [h6.1 mc e2]
    clear e1 e2
    repeat' ((fail_if_success (with_reducible show WX _ _ _ _ (.If _ _ _ _) _)); walk_at "st")
    walk_at "st"
    repeat' ((fail_if_success (with_reducible show WX _ _ _ _ (.If _ _ _ _) _)); walk_at "st")
    · rename_i hc; exact absurd (by omega) hc
    rename_i hc
    clear hc
    walk_at "st"
    repeat' ((fail_if_success (with_reducible show WX _ _ _ _ (.If _ _ _ _) _)); (fail_if_success (with_reducible show WF _ _ _ _)); walk_at "st")
    · rename_i hlt
      rw [show (2 : Int) * (far : Int) = ((2 * far : Nat) : Int) by omega]
      refine w_lev (by simp) (by omega) ?_
      rw [h6.2 (by omega)]
      repeat' ((fail_if_success (with_reducible show WX _ _ _ _ (.If _ _ _ _) _)); walk_at "st")
      · rename_i hc; exact absurd (by omega) hc
      · exact WXs_inv (hC _ (by walk_at "only") (by walk_at "cl") (by walk_at "at") (by walk_at "at") (by walk_at "at"))
    · exact WXs_inv (hC _ (by walk_at "only") (by walk_at "cl") (by walk_at "at") (by walk_at "at") (by walk_at "at"))
end L1
theorem WX_atomR {g : Cfg} {k : Kd} {n : Nat} {l : Ls} {x : Str} {px p : Pos} {e : Expr} {Q : Fl → Ls → Prop} (R : V → Prop) (hn : isNew e = false) (h : WE g k n l e fun v => isAtom v = true ∧ R v) (rest : ∀ v, R v → Q .next (l.put x ⟨v, false⟩)) (h1 : storable k x = true) : WX g k (n + 1) l (.Assign [.Name x px] e p) Q :=
  WX_atom hn (h.mono fun v q => ⟨q.1, rest v q.2⟩) h1
theorem m_decA {g : Cfg} {Q : V → Prop} {s : Str} {ds : List Nat} (hs : s.cps.toList = [97, 115, 99, 105, 105]) (hd : ∀ d ∈ ds, d < 16) (hl : ds.length ≤ lenLid) (h : Q (.str (ds.map fun d => 65 + d))) : Pw (methV g (.bytes (ds.map fun d => UInt8.ofNat (65 + d))) "decode" [.str s.cps.toList]) Q := by
  refine m_decode hs ?_ (by rw [List.length_map]; exact hl) ?_
  · intro c hc
    obtain ⟨d, hdd, rfl⟩ := List.mem_map.mp hc
    have := hd d hdd
    rw [UInt8.toNat_ofNat']; omega
  · have e1 : (ds.map fun d => UInt8.ofNat (65 + d)).map (·.toNat) = ds.map fun d => 65 + d := by
      rw [List.map_map]
      apply List.map_congr_left
      intro d hdd
      have := hd d hdd
      show (UInt8.ofNat (65 + d)).toNat = 65 + d
      rw [UInt8.toNat_ofNat']; omega
    rw [e1]; exact h
theorem figs_pad {n : Nat} (h : n < 4096) : padS 3 n = figs n := by
  show [n / 16 / 16 % 16, n / 16 % 16, n % 16] = [n / 256, n / 16 % 16, n % 16]
  rw [Nat.div_div_eq_div_mul, Nat.mod_eq_of_lt (Nat.div_lt_of_lt_mul h)]
namespace L1
local macro_rules | `(tactic| walk_at "st") => `(tactic| ((with_reducible refine w_ap ?h1 ?_); (case h1 => walk_at "sd")))
theorem turnA {M m t x y z : Nat} {Q : Fl → Ls → Prop} {R : Ls → Prop} {v0 v1 : V} {d : List Int} {jj : Ls} (ht : t < 16) (hm : m < 1000) (hn : m * t < 4096) (hx : x < 16) (hy : y < 16) (hz : z < 16) (hd : d.length = 6) (hj : Only ns19 jj) (hcl : jj.clean = jj)
    (g1 : jj.at "tag" = some (.int t)) (h : ∀ j2, Only ns19 j2 → j2.clean = j2 → R (pre1 v0 v1 d m x y z (nearI m x y z (t + 1)) j2)) :
    WXs (CC D1 fs1 (M + 4)) kd19 187 (pre1 v0 v1 d m x y z (nearI m x y z t) jj) body19 (Turn R Q) := by
  have hlid : lenLid = 100000 := rfl
  have hC := fun jj hj hcl g1 g2 g3 => turnB (M := M) (Q := Q) (R := R) (v0 := v0) (v1 := v1) (d := d) (jj := jj) ht hn hx hy hz hd hj hcl g1 g2 g3 h
  generalize nearI m x y z t = T at *
  have hd5 : (5 : Int) < d.length := by rw [hd]; decide
  have emt : (m : Int) * (t : Int) = ((m * t : Nat) : Int) := (Int.natCast_mul ..).symm
  have hN : m * t < 16 ^ 3 := hn
  have hN2 : m * t < 16 ^ 1000 := Nat.lt_of_lt_of_le hN (Nat.pow_le_pow_right (by omega) (by omega))
  have hdl := digs_lt (m * t)
  have hdh := digs_head (m * t)
  have hdn := digs_length 3 (m * t) hN
  have hpd := pad_digs 3 (m * t) hN
  rw [figs_pad hn] at hpd
  have hfl : (figs (m * t)).length = 3 := rfl
  have hfb : ∀ c ∈ figs (m * t), c < 16 := fun c hc => by
    simp only [figs, List.mem_cons, List.not_mem_nil, or_false] at hc
    rcases hc with rfl | rfl | rfl <;> omega
  refine WXs_cons ?_
  refine WX_cleanW rfl ?ha (by walk_at "cl") ?hb rfl
  case ha =>
    repeat' walk_at "st"
    rw [emt]
    exact w_figures rfl
  case hb =>
    repeat' walk_at "st"
    rw [emt]
    refine w_figures ?_
    generalize figs (m * t) = F at *
    refine then_put (by walk_at "pt") ?_
    refine WXs_cons ?_
    refine WX_atomR (fun v => v = .str ((digs (m * t)).map fun d => 65 + d)) rfl ?_ ?_ rfl
    · repeat' ((fail_if_success (with_reducible show WF _ _ _ _)); walk_at "st")
      · rw [emt]
        refine w_ap (by rw [Int.natAbs_natCast]; exact hN2) ?_
        rw [Int.natAbs_natCast]
        repeat' walk_at "st"
        exact m_decA (by decide +kernel) hdl (by omega) ⟨rfl, rfl⟩
      · rw [Int.neg_mul, emt]
        refine w_ap (by rw [Int.natAbs_neg, Int.natAbs_natCast]; exact hN2) ?_
        rw [Int.natAbs_neg, Int.natAbs_natCast]
        repeat' walk_at "st"
        exact m_decA (by decide +kernel) hdl (by omega) ⟨rfl, rfl⟩
    rintro v rfl
    generalize digs (m * t) = ds at *
    clear hN hN2
    have hl : (ds.map fun d => 65 + d).length = ds.length := List.length_map ..
    have hA : (Str.ofString "A").cps.toList = [65] := by decide +kernel
    refine then_put (by walk_at "pt") ?_
    refine WXs_cons ?_
    refine WX_ifR (fun l => l = pre1 v0 v1 d m x y z T ((jj.put "due" ⟨vnats F, false⟩).put "word" ⟨.str (ds.map fun d => 65 + d), false⟩)) ?_ ?_
    · repeat' walk_at "st"
      · rename_i hc
        exfalso
        rw [hA] at hc
        cases ds with
        | nil => simp at hc
        | cons d r =>
          have : d = 0 := by simpa using hc
          exact hdh d (by simp) this
      · rfl
    rintro l rfl
    walk_at "st"
    refine WXs_cons ?_
    refine WX_atomR (fun v => v = .str (F.map fun c => 65 + c)) rfl ?_ ?_ rfl
    · repeat' ((fail_if_success (with_reducible show Pw (binV .Mult _ _) _)); walk_at "st")
      rw [hA, hl]
      refine b_rep (by rw [List.length_singleton]; omega) ?_
      repeat' walk_at "st"
      rw [repStr_one', show ((3 : Int) - (ds.length : Int)).toNat = 3 - ds.length by omega]
      have e1 : List.replicate (3 - ds.length) 65 ++ ds.map (fun d => 65 + d) = F.map fun c => 65 + c := by
        rw [← hpd, List.map_append, List.map_replicate]
      refine b_cat (by rw [List.length_replicate, hl]; omega) ?_
      rw [e1]
      exact ⟨rfl, rfl⟩
    rintro v rfl
    clear hpd hdn hdl hdh
    refine then_put (by walk_at "pt") ?_
    refine WXs_cons ?_
    refine WX_if (WT_cmp ?_ rfl)
    repeat' ((fail_if_success (with_reducible show WE _ _ _ _ (.ListComp _ _ _ _) _)); walk_at "st")
    refine' WE_comp (fun (x : Nat) => V.int x) F (fun i => V.str [65 + i]) ?l1 ?l2 rfl rfl rfl
    case l1 => walk_at "cp"
    refine WI_name ?_
    repeat' walk_at "st"
    refine it_list (by rw [List.length_map]; omega) ⟨rfl, by omega, ?_, ?_⟩
    · intro i hi
      have hi : i < 16 := hfb i hi
      repeat' walk_at "st"
      rw [show ((65 : Int) + i).toNat = 65 + i by omega]
    have em : F.map (fun i => V.str [65 + i]) = (F.map fun i => [65 + i]).map .str := by rw [List.map_map]; rfl
    have ef : (F.map fun i => [65 + i]).flatten = F.map fun i => 65 + i := flat_one F fun i => 65 + i
    rw [em]
    refine WEs_nil ?_
    refine m_join (by decide +kernel) (by rw [ef, List.length_map]; omega) ?_
    rw [ef]
    repeat' ((fail_if_success (with_reducible show WX _ _ _ _ (.Assign _ _ _) _)); walk_at "st")
    · rename_i hc; exact absurd rfl hc
    · exact WXs_inv (hC _ (by walk_at "only") (by walk_at "cl") (by walk_at "at") (by walk_at "at") (by walk_at "at"))
end L1
namespace L1
noncomputable abbrev pre0 (v0 v1 : V) (d : List Int) (m x y z : Nat) : Ls :=
  [("script", ⟨v0, false⟩), ("start", ⟨v1, false⟩), ("draws", ⟨.list (d.map .int), false⟩), ("m", ⟨.int m, false⟩), ("count", ⟨.int (cnt1 m : Nat), false⟩), ("figures", ⟨vnats [x, y, z], false⟩)]
noncomputable abbrev pre9 (v0 v1 : V) (d : List Int) (m x y z : Nat) : Ls :=
  [("script", ⟨v0, false⟩), ("start", ⟨v1, false⟩), ("draws", ⟨.list (d.map .int), false⟩), ("m", ⟨.int m, false⟩), ("count", ⟨.int (cnt1 m : Nat), false⟩), ("figures", ⟨vnats [x, y, z], false⟩), ("letters", ⟨.str [97 + x, 97 + y, 97 + z], false⟩), ("loud", ⟨.str [65 + x, 65 + y, 65 + z], false⟩), ("plain", ⟨.str [97 + x, 97 + y, 97 + z], false⟩)]
theorem lawC {m x y z : Nat} {v0 v1 : V} {d : List Int} (hm : m ∈ ms1) (hx : x < 16) (hy : y < 16) (hz : z < 16) (hd : d.length = 6) :
    WXs (CC D1 fs1 5) kd19 190 (pre9 v0 v1 d m x y z) ((fnT st19).body.drop 10) (Post fun v => v = .bool true) := by
  have hlid : lenLid = 100000 := rfl
  obtain ⟨m1, m2⟩ := ms_le hm
  have hc14 : cnt1 m ≤ 14 := by
    unfold cnt1
    have : 4095 / m ≤ 4095 / 311 := Nat.div_le_div_left m1 (by decide)
    omega
  refine WXs_cons ?_
  refine WX_newC rfl (by walk_at "cl") (WE_list (WEs_nil ⟨by decide, ?_⟩)) rfl rfl rfl
  refine then_put (by walk_at "pt") ?_
  refine WXs_cons ?_
  refine WX_forC (fun i l => ∃ jj, l = pre1 v0 v1 d m x y z (nearI m x y z i) jj ∧ Only ns19 jj ∧ jj.clean = jj) (by walk_at "cl") ?_ rfl
  refine WI_range ?_ rfl (by walk_at "at") rfl
  repeat' walk_at "st"
  refine rng1 rfl (by omega) ⟨⟨[], rfl, only_nil, rfl⟩, ?_, ?_⟩
  · rintro t v l hv ⟨jj, rfl, hj, hcl⟩
    obtain ⟨ht, rfl⟩ := range_item hv
    clear hv
    refine ⟨rfl, ?_⟩
    have ep : Ls.put (pre1 v0 v1 d m x y z (nearI m x y z t) jj) "tag" ⟨.int t, false⟩ = pre1 v0 v1 d m x y z (nearI m x y z t) (jj.put "tag" ⟨.int t, false⟩) := by
      unfold pre1
      generalize nearI m x y z t = T
      walk_at "pt"
    rw [ep]
    have hle := tag_le (by omega) ht
    exact turnA (M := 1) (by omega) (by omega) (by omega) hx hy hz hd (by walk_at "only") (by walk_at "cl") (by walk_at "at") fun j2 h1 h2 => ⟨j2, rfl, h1, h2⟩
  · rintro l ⟨jj, rfl, hj, hcl⟩
    rw [List.length_map, List.length_range]
    repeat' ((fail_if_success (with_reducible show WF _ _ _ _)); walk_at "st")
    refine w_mended hx hy hz (by omega) (by omega) fun T h1 h2 => ?_
    have key := near_mended hm hx hy hz h1 h2
    refine c_eqL ?_
    repeat' walk_at "st"
    rw [decide_eq_true key]
end L1
theorem i_natsN' {Q : V → Prop} {xs : List Nat} {i : Int} (h0 : 0 ≤ i) (h1 : i < xs.length) (hl : xs.length ≤ lenLid) (h : Q (.int (xs.getD i.toNat 0 : Nat))) : Pw (itemV (.list (xs.map fun (x : Nat) => V.int x)) (.int i)) Q := i_nats h0 h1 hl h
namespace L1
theorem lawB {m x y z : Nat} {v0 v1 : V} {d : List Int} (hm : m ∈ ms1) (hx : x < 16) (hy : y < 16) (hz : z < 16) (hd : d.length = 6) :
    WXs (CC D1 fs1 5) kd19 194 (pre0 v0 v1 d m x y z) ((fnT st19).body.drop 6) (Post fun v => v = .bool true) := by
  have hlid : lenLid = 100000 := rfl
  have hd4 : (4 : Int) < d.length := by rw [hd]; decide
  have hF : ∀ i ∈ [x, y, z], i < 16 := fun i hi => by
    simp only [List.mem_cons, List.not_mem_nil, or_false] at hi
    rcases hi with rfl | rfl | rfl <;> assumption
  have em : ∀ c : Nat, [x, y, z].map (fun i => V.str [c + i]) = ([[c + x], [c + y], [c + z]] : List (List Nat)).map .str := fun c => rfl
  have ef : ∀ c : Nat, ([[c + x], [c + y], [c + z]] : List (List Nat)).flatten = [c + x, c + y, c + z] := fun c => rfl
  refine WXs_cons ?_
  refine WX_clean rfl rfl ?_ rfl
  repeat' ((fail_if_success (with_reducible show WE _ _ _ _ (.ListComp _ _ _ _) _)); walk_at "st")
  refine' WE_comp (fun (x : Nat) => V.int x) [x, y, z] (fun i => V.str [97 + i]) ?k1 ?k2 rfl rfl rfl
  case k1 => walk_at "cp"
  refine WI_name ?_
  repeat' walk_at "st"
  refine it_list (by rw [List.length_map, hlid]; simp) ⟨rfl, by rw [hlid]; simp, ?_, ?_⟩
  · intro i hi
    have := hF i hi
    repeat' walk_at "st"
    rw [show ((97 : Int) + i).toNat = 97 + i by omega]
  rw [em]
  refine WEs_nil ?_
  refine m_join (by decide +kernel) (by rw [ef, hlid]; simp) ?_
  rw [ef]
  refine then_put (by walk_at "pt") ?_
  refine WXs_cons ?_
  refine WX_clean rfl rfl ?_ rfl
  repeat' ((fail_if_success (with_reducible show WE _ _ _ _ (.ListComp _ _ _ _) _)); walk_at "st")
  refine' WE_comp (fun (x : Nat) => V.int x) [x, y, z] (fun i => V.str [65 + i]) ?j1 ?j2 rfl rfl rfl
  case j1 => walk_at "cp"
  refine WI_name ?_
  repeat' walk_at "st"
  refine it_list (by rw [List.length_map, hlid]; simp) ⟨rfl, by rw [hlid]; simp, ?_, ?_⟩
  · intro i hi
    have := hF i hi
    repeat' walk_at "st"
    rw [show ((65 : Int) + i).toNat = 65 + i by omega]
  rw [em]
  refine WEs_nil ?_
  refine m_join (by decide +kernel) (by rw [ef, hlid]; simp) ?_
  rw [ef]
  refine then_put (by walk_at "pt") ?_
  refine WXs_cons ?_
  refine WX_assignR (fun v => v = .str [97 + x, 97 + y, 97 + z]) rfl rfl ?_ ?_ rfl
  · repeat' ((fail_if_success (with_reducible show WF _ _ _ _)); walk_at "st")
    refine w_typed (by simp) (fun c hc => ?_) fun t h1 h2 => ?_
    · simp only [List.mem_cons, List.not_mem_nil, or_false] at hc
      omega
    · repeat' walk_at "st"
      refine w_prepared (by omega) (by rw [h1]; simp) ?_
      rw [h1]
  rintro v rfl
  refine then_put (by walk_at "pt") ?_
  refine WXs_cons ?_
  refine WX_if (WT_cmp ?_ rfl)
  repeat' ((fail_if_success (with_reducible show WXs _ _ _ _ _ _)); walk_at "st")
  · rename_i hc; exact absurd rfl hc
  · exact WXs_nil (then_next (lawC hm hx hy hz hd))
theorem lawA {v0 v1 : V} {d : List Int} (hd : d.length = 6) :
    Then (CC D1 fs1 5) kd19 198 ((fnT st19).body.drop 2) (Post fun v => v = .bool true) .next (Ls.put [("script", ⟨v0, false⟩), ("start", ⟨v1, false⟩)] "draws" ⟨.list (d.map .int), false⟩) := by
  have hlid : lenLid = 100000 := rfl
  refine then_put (by walk_at "pt") ?_
  refine WXs_cons ?_
  refine WX_assignR (fun v => ∃ m : Nat, v = .int m ∧ m ∈ ms1) rfl rfl ?_ ?_ rfl
  · repeat' walk_at "st"
    generalize d.getD (Int.toNat 0) 0 = d0
    refine i_natsN' (xs := ms1) (by show 0 ≤ d0 % 6; omega) (by show d0 % 6 < (6 : Nat); omega) (by decide) ?_
    refine ⟨_, rfl, ?_⟩
    have key : ∀ k < 6, ms1.getD k 0 ∈ ms1 := by decide
    exact key _ (by omega)
  rintro v ⟨m, rfl, hm⟩
  obtain ⟨m1, m2⟩ := ms_le hm
  refine then_put (by walk_at "pt") ?_
  refine WXs_cons ?_
  refine WX_assignR (fun v => v = .int (cnt1 m : Nat)) rfl rfl ?_ ?_ rfl
  · repeat' walk_at "st"
    unfold cnt1
    rw [show (4095 : Int) / (m : Int) + 1 = ((4095 / m + 1 : Nat) : Int) by rw [Int.natCast_add, Int.natCast_ediv]; rfl]
  rintro v rfl
  refine then_put (by walk_at "pt") ?_
  have hc0 : 0 < cnt1 m := Nat.succ_pos _
  refine WXs_cons ?_
  refine WX_assignR (fun v => ∃ x y z : Nat, v = vnats [x, y, z] ∧ x < 16 ∧ y < 16 ∧ z < 16) rfl rfl ?_ ?_ rfl
  · repeat' ((fail_if_success (with_reducible show WF _ _ _ _)); walk_at "st")
    generalize d.getD (Int.toNat 1) 0 = d1
    obtain ⟨t, ht, et⟩ : ∃ t : Nat, t < cnt1 m ∧ d1 % ((cnt1 m : Nat) : Int) = t := by
      have h1 := Int.emod_nonneg d1 (by omega : ((cnt1 m : Nat) : Int) ≠ 0)
      have h2 := Int.emod_lt_of_pos d1 (by omega : (0 : Int) < ((cnt1 m : Nat) : Int))
      exact ⟨(d1 % ((cnt1 m : Nat) : Int)).toNat, by omega, by omega⟩
    rw [et, show (m : Int) * (t : Int) = ((m * t : Nat) : Int) from (Int.natCast_mul ..).symm]
    have hle := tag_le (by omega) ht
    refine w_figures ?_
    repeat' walk_at "st"
    refine w_changed (by omega) (by omega) (by omega) fun x y z hx hy hz => ⟨x, y, z, rfl, hx, hy, hz⟩
  rintro v ⟨x, y, z, rfl, hx, hy, hz⟩
  refine then_put (by walk_at "pt") ?_
  refine WXs_cons ?_
  refine WX_ifR (fun l => ∃ x y z : Nat, l = pre0 v0 v1 d m x y z ∧ x < 16 ∧ y < 16 ∧ z < 16) ?_ ?_
  · repeat' ((fail_if_success (with_reducible show WXs _ _ _ _ _ _)); walk_at "st")
    · refine WXs_cons ?_
      refine WX_assignR (fun v => ∃ x y z : Nat, v = vnats [x, y, z] ∧ x < 16 ∧ y < 16 ∧ z < 16) rfl rfl ?_ ?_ rfl
      · repeat' walk_at "st"
        refine w_changed hx hy hz fun x y z hx hy hz => ⟨x, y, z, rfl, hx, hy, hz⟩
      rintro v ⟨x, y, z, rfl, hx, hy, hz⟩
      refine then_put (by walk_at "pt") ?_
      exact WXs_nil (turn_next ⟨x, y, z, rfl, hx, hy, hz⟩)
    · exact WXs_nil (turn_next ⟨x, y, z, rfl, hx, hy, hz⟩)
  rintro l ⟨x, y, z, rfl, hx, hy, hz⟩
  exact then_next (lawB hm hx hy hz hd)
theorem law_walk {ns : List Int} (hns : ns.length ≤ 63) : WF (CC D1 fs1 6) "law" [.list (ns.map .int)] (fun v => v = .bool true) := by
  have hlid : lenLid = 100000 := rfl
  refine WF_of (fnT st19) [("script", ⟨.list (ns.map .int), false⟩)] (by rfl) (by rfl) (by rfl) ?_
  refine WXs_cons ?_
  refine WX_clean rfl rfl ?_ rfl
  repeat' ((fail_if_success (with_reducible show WE _ _ _ _ (.ListComp _ _ _ _) _)); walk_at "st")
  have es : V.list [.int 0, .int 5, .int 29, .int 0, .int 88, .int 0] = V.list (([0, 5, 29, 0, 88, 0] : List Int).map .int) := rfl
  rw [es]
  refine' WE_compR 6 (fun k => .int (([0, 5, 29, 0, 88, 0] : List Int).getD k 0 + (pickL ns (some (k : Int)) none (some 6)).sum)) ?k1 ?k2 rfl ?k4 rfl rfl rfl rfl ?k9 ?he ?hE ?hQ
  walk_at "cps"
  case he =>
    repeat' walk_at "st"
    rfl
  case hE =>
    intro k hk
    repeat' walk_at "st"
    rfl
  case hQ =>
    have ed : (List.range 6).map (fun (k : Nat) => V.int (([0, 5, 29, 0, 88, 0] : List Int).getD k 0 + (pickL ns (some (k : Int)) none (some 6)).sum)) = ((List.range 6).map fun (k : Nat) => ([0, 5, 29, 0, 88, 0] : List Int).getD k 0 + (pickL ns (some (k : Int)) none (some 6)).sum).map .int := by rw [List.map_map]; rfl
    rw [ed]
    have hd : ((List.range 6).map fun (k : Nat) => ([0, 5, 29, 0, 88, 0] : List Int).getD k 0 + (pickL ns (some (k : Int)) none (some 6)).sum).length = 6 := by simp
    generalize (List.range 6).map (fun (k : Nat) => ([0, 5, 29, 0, 88, 0] : List Int).getD k 0 + (pickL ns (some (k : Int)) none (some 6)).sum) = d at *
    clear ed es
    exact lawA hd
theorem ta1 : PySem.Challenge.rw_ta0051_01.Holds := fin_holds fun ns h => law_walk h
end L1
end Mine
theorem PySem.Challenge.cw_ta0051_01_holds : PySem.Challenge.rw_ta0051_01.Holds :=
  Mine.L1.ta1
