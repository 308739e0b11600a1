import PyProof.Rows.All
import Wide.All
import OpenK.AllK
import Wide.FinOn
import Lean
import PySem.Challenge.RW_ta0051_02
set_option Elab.async false
set_option compiler.extract_closed false
set_option maxRecDepth 100000
set_option linter.unusedVariables false
set_option maxHeartbeats 1000000
set_option linter.constructorNameAsVariable false
namespace Mine
open PySem PySem.W PyProof.Rows PySem.Calls

/-- plain values -/
inductive V where
  | none
  | bool (b : Bool)
  | int (i : Int)
  | str (x : List Nat)
  | bytes (b : List UInt8)
  | list (xs : List V)
  | tup (xs : List V)
  | dict (kv : List (List Nat × Int))
  | val (w : Value)

noncomputable abbrev Keep (mu : List Addr) (h h' : Heap) : Prop := ∀ b o, b ∉ mu → h.get? b = some o → h'.get? b = some o
noncomputable abbrev KeepAll (h h' : Heap) : Prop := ∀ b o, h.get? b = some o → h'.get? b = some o

/-- the entries of a dict of texts and ints -/
noncomputable def IntEnts (P : Params) : List DictEntry → List (List Nat × Int) → Prop
  | [], [] => True
  | e :: es, p :: ps => (∃ t t', e = ⟨PyData.keyHash P ⟨p.1.toArray⟩, .str ⟨p.1.toArray⟩ t, .int p.2 t'⟩) ∧ IntEnts P es ps
  | _, _ => False
noncomputable def IsIntDict (P : Params) (h : Heap) (a : Addr) (kv : List (List Nat × Int)) : Prop :=
  ∃ es n, h.get? a = some ⟨.type "dict", Option.none, .dict es n, #[]⟩ ∧ IntEnts P es.toList kv ∧ (a == sysModules) = false ∧ (kv.map (·.1)).Nodup

mutual
noncomputable def Rep (P : Params) (mu : List Addr) (h : Heap) : V → Value → Prop
  | .none, w => w = .none
  | .bool b, w => w = .bool b
  | .int i, w => ∃ t, w = .int i t
  | .str x, w => ∃ t, w = .str ⟨x.toArray⟩ t
  | .bytes b, w => ∃ t, w = .bytes b.toArray t
  | .list xs, w => ∃ a ws, w = .ref a ∧ a ∉ mu ∧ h.IsList a (List.toArray ws) ∧ Reps P mu h xs ws
  | .tup xs, w => ∃ a ws, w = .ref a ∧ a ∉ mu ∧ h.IsTuple a (List.toArray ws) ∧ Reps P mu h xs ws
  | .dict kv, w => ∃ a, w = .ref a ∧ a ∉ mu ∧ IsIntDict P h a kv
  | .val u, w => w = u
noncomputable def Reps (P : Params) (mu : List Addr) (h : Heap) : List V → List Value → Prop
  | [], ws => ws = []
  | x :: xs, ws => ∃ w ws', ws = w :: ws' ∧ Rep P mu h x w ∧ Reps P mu h xs ws'
end

section
variable {P : Params} {mu mu' : List Addr} {h h' : Heap}
theorem IsIntDict.keep {a : Addr} {kv : List (List Nat × Int)} (x : IsIntDict P h a kv) (e : ∀ o, h.get? a = some o → h'.get? a = some o) : IsIntDict P h' a kv :=
  by obtain ⟨es, n, g, i⟩ := x; exact ⟨es, n, e _ g, i⟩
theorem isList_keep {a : Addr} {ws : Array Value} (x : h.IsList a ws) (e : ∀ o, h.get? a = some o → h'.get? a = some o) : h'.IsList a ws :=
  by obtain ⟨o, g, r⟩ := x; exact ⟨o, e _ g, r⟩
theorem isTuple_keep {a : Addr} {ws : Array Value} (x : h.IsTuple a ws) (e : ∀ o, h.get? a = some o → h'.get? a = some o) : h'.IsTuple a ws :=
  by obtain ⟨o, g, r⟩ := x; exact ⟨o, e _ g, r⟩
mutual
theorem Rep.keep (k : Keep mu h h') : ∀ {v : V} {w : Value}, Rep P mu h v w → Rep P mu h' v w
  | .none, _, x => x
  | .bool _, _, x => x
  | .int _, _, x => x
  | .str _, _, x => x
  | .bytes _, _, x => x
  | .list xs, _, x => by
    unfold Rep at x ⊢
    obtain ⟨a, ws, e, ha, l, r⟩ := x
    exact ⟨a, ws, e, ha, isList_keep l (fun o => k a o ha), Reps.keep k r⟩
  | .tup xs, _, x => by
    unfold Rep at x ⊢
    obtain ⟨a, ws, e, ha, l, r⟩ := x
    exact ⟨a, ws, e, ha, isTuple_keep l (fun o => k a o ha), Reps.keep k r⟩
  | .dict kv, _, x => by
    unfold Rep at x ⊢
    obtain ⟨a, e, ha, l⟩ := x
    exact ⟨a, e, ha, l.keep (fun o => k a o ha)⟩
  | .val _, _, x => x
theorem Reps.keep (k : Keep mu h h') : ∀ {vs : List V} {ws : List Value}, Reps P mu h vs ws → Reps P mu h' vs ws
  | [], _, x => x
  | v :: vs, _, x => by
    unfold Reps at x ⊢
    obtain ⟨w, ws', e, r, rs⟩ := x
    exact ⟨w, ws', e, Rep.keep k r, Reps.keep k rs⟩
end
mutual
theorem Rep.sub (k : ∀ a ∈ mu', a ∈ mu) : ∀ {v : V} {w : Value}, Rep P mu h v w → Rep P mu' h v w
  | .none, _, x => x
  | .bool _, _, x => x
  | .int _, _, x => x
  | .str _, _, x => x
  | .bytes _, _, x => x
  | .list xs, _, x => by
    unfold Rep at x ⊢
    obtain ⟨a, ws, e, ha, l, r⟩ := x
    exact ⟨a, ws, e, fun q => ha (k a q), l, Reps.sub k r⟩
  | .tup xs, _, x => by
    unfold Rep at x ⊢
    obtain ⟨a, ws, e, ha, l, r⟩ := x
    exact ⟨a, ws, e, fun q => ha (k a q), l, Reps.sub k r⟩
  | .dict kv, _, x => by
    unfold Rep at x ⊢
    obtain ⟨a, e, ha, l⟩ := x
    exact ⟨a, e, fun q => ha (k a q), l⟩
  | .val _, _, x => x
theorem Reps.sub (k : ∀ a ∈ mu', a ∈ mu) : ∀ {vs : List V} {ws : List Value}, Reps P mu h vs ws → Reps P mu' h vs ws
  | [], _, x => x
  | v :: vs, _, x => by
    unfold Reps at x ⊢
    obtain ⟨w, ws', e, r, rs⟩ := x
    exact ⟨w, ws', e, Rep.sub k r, Reps.sub k rs⟩
end
mutual
/-- new mutable objects: none of them stood in the heap -/
theorem Rep.more (k : ∀ a, a ∈ mu' → a ∈ mu ∨ h.get? a = Option.none) : ∀ {v : V} {w : Value}, Rep P mu h v w → Rep P mu' h v w
  | .none, _, x => x
  | .bool _, _, x => x
  | .int _, _, x => x
  | .str _, _, x => x
  | .bytes _, _, x => x
  | .list xs, _, x => by
    unfold Rep at x ⊢
    obtain ⟨a, ws, e, ha, l, r⟩ := x
    refine ⟨a, ws, e, fun q => ?_, l, Reps.more k r⟩
    rcases k a q with q | q
    · exact ha q
    · obtain ⟨o, g, _⟩ := l; rw [q] at g; cases g
  | .tup xs, _, x => by
    unfold Rep at x ⊢
    obtain ⟨a, ws, e, ha, l, r⟩ := x
    refine ⟨a, ws, e, fun q => ?_, l, Reps.more k r⟩
    rcases k a q with q | q
    · exact ha q
    · obtain ⟨o, g, _⟩ := l; rw [q] at g; cases g
  | .dict kv, _, x => by
    unfold Rep at x ⊢
    obtain ⟨a, e, ha, l⟩ := x
    refine ⟨a, e, fun q => ?_, l⟩
    rcases k a q with q | q
    · exact ha q
    · obtain ⟨_, _, g, _⟩ := l; rw [q] at g; cases g
  | .val _, _, x => x
theorem Reps.more (k : ∀ a, a ∈ mu' → a ∈ mu ∨ h.get? a = Option.none) : ∀ {vs : List V} {ws : List Value}, Reps P mu h vs ws → Reps P mu' h vs ws
  | [], _, x => x
  | v :: vs, _, x => by
    unfold Reps at x ⊢
    obtain ⟨w, ws', e, r, rs⟩ := x
    exact ⟨w, ws', e, Rep.more k r, Reps.more k rs⟩
end
theorem KeepAll.keep (k : KeepAll h h') : Keep mu h h' := fun b o _ e => k b o e
theorem Rep.all {v : V} {w : Value} (x : Rep P mu h v w) (k : KeepAll h h') : Rep P mu h' v w := x.keep k.keep
theorem Reps.all {v : List V} {w : List Value} (x : Reps P mu h v w) (k : KeepAll h h') : Reps P mu h' v w := x.keep k.keep
theorem Reps.length : ∀ {vs : List V} {ws : List Value}, Reps P mu h vs ws → ws.length = vs.length
  | [], ws, x => by unfold Reps at x; simp [x]
  | v :: vs, ws, x => by
    unfold Reps at x
    obtain ⟨w, ws', rfl, _, rs⟩ := x
    simp [rs.length]
theorem Reps.get : ∀ {vs : List V} {ws : List Value} {i : Nat} {v : V}, Reps P mu h vs ws → vs[i]? = some v → ∃ w, ws[i]? = some w ∧ Rep P mu h v w
  | [], ws, i, v, x, e => by simp at e
  | u :: vs, ws, i, v, x, e => by
    unfold Reps at x
    obtain ⟨w, ws', rfl, r, rs⟩ := x
    cases i with
    | zero => simp at e; subst e; exact ⟨w, rfl, r⟩
    | succ i => simp at e ⊢; exact rs.get e
theorem Reps.append : ∀ {vs us : List V} {ws xs : List Value}, Reps P mu h vs ws → Reps P mu h us xs → Reps P mu h (vs ++ us) (ws ++ xs)
  | [], us, ws, xs, a, b => by unfold Reps at a; subst a; simpa using b
  | v :: vs, us, ws, xs, a, b => by
    unfold Reps at a
    obtain ⟨w, ws', rfl, r, rs⟩ := a
    show Reps P mu h (v :: (vs ++ us)) (w :: (ws' ++ xs))
    unfold Reps
    exact ⟨w, _, rfl, r, rs.append b⟩
end

/-- a triple: the tree gives a value that P holds of; all that stood stands; nothing is raised -/
noncomputable def Tr (prog : Program) (w : World) (A : Around) {α : Type} (t : Sem α) (s : Shared) (Q : α → Heap → Prop) : Prop :=
  wpAny (model prog w) A t (fun v s' => (∃ h' tk, s' = { s with heap := h', toks := tk } ∧ KeepAll s.heap h') ∧ Q v s'.heap) (fun _ _ => False) s
section
variable {prog : Program} {w : World} {A : Around} {α β : Type} {s : Shared}
theorem Tr.use {t : Sem α} {Q : α → Heap → Prop} {R : α → Shared → Prop} {E : Value → Shared → Prop} (x : Tr prog w A t s Q)
    (k : ∀ v h' tk, KeepAll s.heap h' → Q v h' → R v { s with heap := h', toks := tk }) : wpAny (model prog w) A t R E s :=
  wpAny_mono x (fun v s' q => by obtain ⟨⟨h', tk, rfl, kk⟩, q⟩ := q; exact k v h' tk kk q) fun _ _ f => f.elim
theorem Tr.of {t : Sem α} {Q : α → Heap → Prop} (x : ∀ (R : α → Shared → Prop), (∀ v h' tk, KeepAll s.heap h' → Q v h' → R v { s with heap := h', toks := tk }) → wpAny (model prog w) A t R (fun _ _ => False) s) : Tr prog w A t s Q :=
  x _ fun v h' tk kk q => ⟨⟨h', tk, rfl, kk⟩, q⟩
theorem Tr.pure {a : α} {Q : α → Heap → Prop} (q : Q a s.heap) : Tr prog w A (Pure.pure a) s Q := Tr.of fun R k => wpAny_pure (k a s.heap s.toks (fun _ _ e => e) q)
theorem Tr.mono {t : Sem α} {Q R : α → Heap → Prop} (x : Tr prog w A t s Q) (k : ∀ v h', KeepAll s.heap h' → Q v h' → R v h') : Tr prog w A t s R :=
  Tr.of fun S kS => x.use fun v h' tk kk q => kS v h' tk kk (k v h' kk q)
end
end Mine
namespace Mine
open PySem PySem.W PyProof.Rows PySem.Calls

noncomputable abbrev Live (mu : List Addr) (h : Heap) : Prop := ∀ a ∈ mu, ∃ o, h.get? a = some o
theorem Live.fresh {mu : List Addr} {h : Heap} (l : Live mu h) : h.objs.size ∉ mu := fun q => by
  obtain ⟨o, e⟩ := l _ q
  exact absurd (Heap.lt_size e) (Nat.lt_irrefl _)
theorem Live.keep {mu : List Addr} {h h' : Heap} (l : Live mu h) (k : KeepAll h h') : Live mu h' := fun a q => let ⟨o, e⟩ := l a q; ⟨o, k _ _ e⟩
theorem keepAll_push {h : Heap} {o : Obj} : KeepAll h (h.push o) := fun b o' e => Heap.get?_push_of_some _ e
theorem get_push {h : Heap} {c : Value} {d : Option Addr} {dt : Data} {sl : Array (Option Value)} (hd : dt ≠ .freed) : (h.push ⟨c, d, dt, sl⟩).get? h.objs.size = some ⟨c, d, dt, sl⟩ := by
  refine Heap.get?_push_size _ ?_
  cases dt <;> first | rfl | exact absurd rfl hd

/-- the greatest length of a text or list that we let be made -/
noncomputable def lenLid : Nat := 100000

noncomputable def repStr (x : List Nat) : Nat → List Nat
  | 0 => []
  | n + 1 => x ++ repStr x n

section
variable {prog : Program} {w : World} {A : Around} {s : Shared} {mu : List Addr}

theorem intMulOk {a b : Int} (h : a.natAbs < 2 ^ 64 ∨ b.natAbs < 2 ^ 64) : IntMulOk a b := by
  have bits : ∀ x : Int, x.natAbs < 2 ^ 64 → Builtin.Int.intBits x ≤ 64 := fun x hx => by
    unfold Builtin.Int.intBits
    split
    · lia
    · rename_i h0
      have h1 : x.natAbs ≠ 0 := by
        intro e; apply h0; simp at e ⊢; exact e
      have : Nat.log2 x.natAbs < 64 := (Nat.log2_lt h1).mpr hx
      lia
  unfold IntMulOk
  have e : shortFactorBits = 64 := rfl
  rcases h with h | h
  · have := bits a h; simp [e]; lia
  · have := bits b h; simp [e]; lia

theorem fold_rep (x : List Nat) : ∀ (n : Nat) (acc : Array Nat), (List.foldl (fun x1 x2 => x1 ++ x2) acc (List.replicate n x.toArray)) = acc ++ (repStr x n).toArray
  | 0, acc => by show acc = acc ++ #[]; rw [Array.append_empty]
  | n + 1, acc => by
    rw [List.replicate_succ, List.foldl_cons, fold_rep x n]
    show acc ++ x.toArray ++ (repStr x n).toArray = acc ++ (x ++ repStr x n).toArray
    simp
theorem repStr_nil : ∀ n, repStr [] n = []
  | 0 => rfl
  | n + 1 => repStr_nil n
theorem txt_mul (x : List Nat) (n : Int) : Txt.mul ⟨x.toArray⟩ n = ⟨(repStr x n.toNat).toArray⟩ := by
  unfold Txt.mul
  split
  · rename_i h
    have : n.toNat = 0 := by lia
    rw [this]; rfl
  · rename_i h
    split
    · rename_i h2
      simp only [Bool.or_eq_true, beq_iff_eq] at h2
      rcases h2 with h2 | h2
      · subst h2; show _ = (⟨(x ++ []).toArray⟩ : Str); rw [List.append_nil]
      · have : x = [] := by simpa [Str.length] using h2
        subst this; rw [repStr_nil]
    · show (⟨_⟩ : Str) = _
      congr 1
      have := fold_rep x n.toNat #[]
      simpa using this

theorem add_i {a b : Int} {wa wb : Value} (ra : Rep w.params mu s.heap (.int a) wa) (rb : Rep w.params mu s.heap (.int b) wb) : Tr prog w A (binaryOp .Add wa wb) s (fun v h => Rep w.params mu h (.int (a + b)) v) := by
  unfold Rep at ra rb; obtain ⟨t, rfl⟩ := ra; obtain ⟨u, rfl⟩ := rb
  exact Tr.of fun R k => PySem.P.add_int (k _ _ _ (fun _ _ e => e) (by unfold Rep; exact ⟨_, rfl⟩))
theorem sub_i {a b : Int} {wa wb : Value} (ra : Rep w.params mu s.heap (.int a) wa) (rb : Rep w.params mu s.heap (.int b) wb) : Tr prog w A (binaryOp .Sub wa wb) s (fun v h => Rep w.params mu h (.int (a - b)) v) := by
  unfold Rep at ra rb; obtain ⟨t, rfl⟩ := ra; obtain ⟨u, rfl⟩ := rb
  exact Tr.of fun R k => PySem.P.sub_int (k _ _ _ (fun _ _ e => e) (by unfold Rep; exact ⟨_, rfl⟩))
theorem mul_i {a b : Int} {wa wb : Value} (hm : a.natAbs < 2 ^ 64 ∨ b.natAbs < 2 ^ 64) (ra : Rep w.params mu s.heap (.int a) wa) (rb : Rep w.params mu s.heap (.int b) wb) : Tr prog w A (binaryOp .Mult wa wb) s (fun v h => Rep w.params mu h (.int (a * b)) v) := by
  unfold Rep at ra rb; obtain ⟨t, rfl⟩ := ra; obtain ⟨u, rfl⟩ := rb
  exact Tr.of fun R k => PySem.P.mul_int (k _ _ _ (fun _ _ e => e) (by unfold Rep; exact ⟨_, rfl⟩)) (intMulOk hm)
theorem div_i {a b : Int} {wa wb : Value} (hm : b ≠ 0 ∧ b.natAbs < 1073741824) (ra : Rep w.params mu s.heap (.int a) wa) (rb : Rep w.params mu s.heap (.int b) wb) : Tr prog w A (binaryOp .FloorDiv wa wb) s (fun v h => Rep w.params mu h (.int (a.fdiv b)) v) := by
  unfold Rep at ra rb; obtain ⟨t, rfl⟩ := ra; obtain ⟨u, rfl⟩ := rb
  exact Tr.of fun R k => floordiv_int hm.1 (k _ _ _ (fun _ _ e => e) (by unfold Rep; exact ⟨_, rfl⟩)) (.inl (PyProof.noPylong_small hm.2))
theorem mod_i {a b : Int} {wa wb : Value} (hm : b ≠ 0) (ra : Rep w.params mu s.heap (.int a) wa) (rb : Rep w.params mu s.heap (.int b) wb) : Tr prog w A (binaryOp .Mod wa wb) s (fun v h => Rep w.params mu h (.int (a.fmod b)) v) := by
  unfold Rep at ra rb; obtain ⟨t, rfl⟩ := ra; obtain ⟨u, rfl⟩ := rb
  exact Tr.of fun R k => mod_int hm (k _ _ _ (fun _ _ e => e) (by unfold Rep; exact ⟨_, rfl⟩))
theorem pow_i {a b : Int} {wa wb : Value} (hm : 0 ≤ b ∧ b ≤ 1000 ∧ a.natAbs < 2 ^ 64) (ra : Rep w.params mu s.heap (.int a) wa) (rb : Rep w.params mu s.heap (.int b) wb) : Tr prog w A (binaryOp .Pow wa wb) s (fun v h => Rep w.params mu h (.int (a ^ b.toNat)) v) := by
  unfold Rep at ra rb; obtain ⟨t, rfl⟩ := ra; obtain ⟨u, rfl⟩ := rb
  have hb : b ≤ 1048576 := Int.le_trans hm.2.1 (by decide)
  exact Tr.of fun R k => pow_int_small hm.1 (by omega) hm.2.2 (k _ _ _ (fun _ _ e => e) (by unfold Rep; exact ⟨_, rfl⟩))
theorem add_s {x y : List Nat} {wa wb : Value} (hm : x.length + y.length ≤ lenLid) (ra : Rep w.params mu s.heap (.str x) wa) (rb : Rep w.params mu s.heap (.str y) wb) : Tr prog w A (binaryOp .Add wa wb) s (fun v h => Rep w.params mu h (.str (x ++ y)) v) := by
  unfold Rep at ra rb; obtain ⟨t, rfl⟩ := ra; obtain ⟨u, rfl⟩ := rb
  refine Tr.of fun R k => PySem.SB.add (fun t' n => k _ _ _ (fun _ _ e => e) (by unfold Rep; exact ⟨t', by show Value.str ⟨_⟩ _ = _; simp⟩)) ?_
  show _ + _ ≤ sizeLine
  have : sizeLine = 16777216 := rfl
  simp [Str.length, this]; unfold lenLid at hm; lia
theorem mul_s {x : List Nat} {n : Int} {wa wb : Value} (hm : x.length ≤ 100 ∧ n ≤ 100 ∧ -100 ≤ n) (ra : Rep w.params mu s.heap (.str x) wa) (rb : Rep w.params mu s.heap (.int n) wb) : Tr prog w A (binaryOp .Mult wa wb) s (fun v h => Rep w.params mu h (.str (repStr x n.toNat)) v) := by
  unfold Rep at ra rb; obtain ⟨t, rfl⟩ := ra; obtain ⟨u, rfl⟩ := rb
  refine Tr.of fun R k => PySem.SB.mul ⟨?_, fun _ _ => ?_, fun _ _ => ?_⟩ (fun t' m => k _ _ _ (fun _ _ e => e) (by unfold Rep; exact ⟨t', by rw [txt_mul]⟩))
  · simp; lia
  · simp only [Str.length, List.size_toArray]
    have h1 : (x.length : Int) ≤ 100 := by lia
    have h2 : (100 : Int) ≤ (2 ^ 63 - 1) / n := by
      have hn : 0 < n := by lia
      rw [Int.le_ediv_iff_mul_le hn]
      have : (2 : Int) ^ 63 - 1 = 9223372036854775807 := by decide
      rw [this]; lia
    lia
  · unfold Builtin.Str.tooLong
    have : sizeLine = 16777216 := rfl
    simp only [Str.length, List.size_toArray, decide_eq_false_iff_not, this]
    have h1 : n.toNat ≤ 100 := by lia
    have := Nat.mul_le_mul hm.1 h1
    lia
theorem add_b {x y : List UInt8} {wa wb : Value} (hm : x.length + y.length ≤ lenLid) (ra : Rep w.params mu s.heap (.bytes x) wa) (rb : Rep w.params mu s.heap (.bytes y) wb) : Tr prog w A (binaryOp .Add wa wb) s (fun v h => Rep w.params mu h (.bytes (x ++ y)) v) := by
  unfold Rep at ra rb; obtain ⟨t, rfl⟩ := ra; obtain ⟨u, rfl⟩ := rb
  refine Tr.of fun R k => KBy.add_bytes (by simp; unfold lenLid at hm; lia) (fun t' n => k _ _ _ (fun _ _ e => e) (by unfold Rep; exact ⟨t', by simp⟩))
end
end Mine
namespace Mine
open PySem PySem.W PyProof.Rows PySem.Calls

theorem beq_dec {α : Type} [BEq α] [LawfulBEq α] [DecidableEq α] (a b : α) : (a == b) = decide (a = b) := by
  by_cases h : a = b <;> simp [h]
section
variable {prog : Program} {w : World} {A : Around} {s : Shared} {mu : List Addr} {P : Params} {h : Heap} {a b : Int} {x y : List Nat} {wa wb : Value}
theorem same_heap {h : Heap} : KeepAll h h := fun _ _ e => e
theorem eq_i (ra : Rep w.params mu s.heap (.int a) wa) (rb : Rep w.params mu s.heap (.int b) wb) : Tr prog w A (compareOp .Eq wa wb) s (fun v _ => v = .bool (decide (a = b))) := by
  unfold Rep at ra rb; obtain ⟨t, rfl⟩ := ra; obtain ⟨u, rfl⟩ := rb
  exact Tr.of fun R k => PySem.P.eq_int (k _ _ s.toks same_heap (by first | rfl | simp only [beq_dec]))
theorem ne_i (ra : Rep w.params mu s.heap (.int a) wa) (rb : Rep w.params mu s.heap (.int b) wb) : Tr prog w A (compareOp .NotEq wa wb) s (fun v _ => v = .bool (decide (a ≠ b))) := by
  unfold Rep at ra rb; obtain ⟨t, rfl⟩ := ra; obtain ⟨u, rfl⟩ := rb
  exact Tr.of fun R k => PySem.P.ne_int (k _ _ s.toks same_heap (by simp only [bne, beq_dec]; simp))
theorem lt_i (ra : Rep w.params mu s.heap (.int a) wa) (rb : Rep w.params mu s.heap (.int b) wb) : Tr prog w A (compareOp .Lt wa wb) s (fun v _ => v = .bool (decide (a < b))) := by
  unfold Rep at ra rb; obtain ⟨t, rfl⟩ := ra; obtain ⟨u, rfl⟩ := rb
  exact Tr.of fun R k => PySem.P.lt_int (k _ _ s.toks same_heap rfl)
theorem gt_i (ra : Rep w.params mu s.heap (.int a) wa) (rb : Rep w.params mu s.heap (.int b) wb) : Tr prog w A (compareOp .Gt wa wb) s (fun v _ => v = .bool (decide (b < a))) := by
  unfold Rep at ra rb; obtain ⟨t, rfl⟩ := ra; obtain ⟨u, rfl⟩ := rb
  exact Tr.of fun R k => PySem.P.gt_int (k _ _ s.toks same_heap rfl)
theorem eq_s (ra : Rep w.params mu s.heap (.str x) wa) (rb : Rep w.params mu s.heap (.str y) wb) : Tr prog w A (compareOp .Eq wa wb) s (fun v _ => v = .bool (decide (x = y))) := by
  unfold Rep at ra rb; obtain ⟨t, rfl⟩ := ra; obtain ⟨u, rfl⟩ := rb
  exact Tr.of fun R k => PySem.P.eq_str (k _ _ s.toks same_heap (by first | rfl | simp only [beq_dec]))
theorem ne_s (ra : Rep w.params mu s.heap (.str x) wa) (rb : Rep w.params mu s.heap (.str y) wb) : Tr prog w A (compareOp .NotEq wa wb) s (fun v _ => v = .bool (decide (x ≠ y))) := by
  unfold Rep at ra rb; obtain ⟨t, rfl⟩ := ra; obtain ⟨u, rfl⟩ := rb
  exact Tr.of fun R k => PySem.P.ne_str (k _ _ s.toks same_heap (by simp only [bne, beq_dec]; simp))
theorem isnot_nn (ra : Rep w.params mu s.heap .none wa) (rb : Rep w.params mu s.heap .none wb) : Tr prog w A (compareOp .IsNot wa wb) s (fun v _ => v = .bool false) := by
  unfold Rep at ra rb; subst ra; subst rb
  exact Tr.of fun R k => isnot_none_none (k _ _ s.toks same_heap rfl)
theorem isnot_sn (ra : Rep w.params mu s.heap (.str x) wa) (rb : Rep w.params mu s.heap .none wb) : Tr prog w A (compareOp .IsNot wa wb) s (fun v _ => v = .bool true) := by
  unfold Rep at ra rb; obtain ⟨t, rfl⟩ := ra; subst rb
  exact Tr.of fun R k => isnot_none_ne (by intro e; cases e) (k _ _ s.toks same_heap rfl)
theorem tr_n (ra : Rep w.params mu s.heap .none wa) : Tr prog w A (truthy wa) s (fun v _ => v = false) := by
  unfold Rep at ra; subst ra
  exact Tr.of fun R k => truthy_none (k _ _ s.toks same_heap rfl)
theorem tr_b {c : Bool} (ra : Rep w.params mu s.heap (.bool c) wa) : Tr prog w A (truthy wa) s (fun v _ => v = c) := by
  unfold Rep at ra; subst ra
  exact Tr.of fun R k => wpAny_truthy_bool (k _ _ s.toks same_heap rfl)
theorem tr_i (ra : Rep w.params mu s.heap (.int a) wa) : Tr prog w A (truthy wa) s (fun v _ => v = decide (a ≠ 0)) := by
  unfold Rep at ra; obtain ⟨t, rfl⟩ := ra
  exact Tr.of fun R k => PySem.P.truthy_int (k _ _ s.toks same_heap (by simp only [bne, beq_dec]; simp))
theorem tr_s (hl : x.length ≤ lenLid) (ra : Rep w.params mu s.heap (.str x) wa) : Tr prog w A (truthy wa) s (fun v _ => v = decide (0 < x.length)) := by
  unfold Rep at ra; obtain ⟨t, rfl⟩ := ra
  refine Tr.of fun R k => PySem.P.truthy_str (by simp [Str.length]; unfold lenLid at hl; lia) (k _ _ _ same_heap ?_)
  simp only [Str.length, List.size_toArray, bne, beq_dec]
  cases x with
  | nil => rfl
  | cons a x => simp; lia
end
end Mine
namespace Mine
open PySem PySem.W PyProof.Rows PySem.Calls

/-- a value, and what must hold for it to come -/
noncomputable abbrev W (α : Type) := α × Prop
noncomputable abbrev no : W V := (.none, False)

structure Cfg where
  fn : Str → List V → W V
  gl : Str → Option V
  mem : Value → Int → W Bool
  get : Value → Int → W V
  /-- functions that make functions: they write to a table of the code -/
  dn : Str → List V → W V
  dt : Pos → Prop
/-- without functions of the text -/
noncomputable def Cfg.low (g : Cfg) : Cfg := { g with fn := fun _ _ => no, dn := fun _ _ => no, dt := fun _ => False }

noncomputable def binV (op : Operator) (a b : V) : W V :=
  match op, a, b with
  | .Add, .int a, .int b => (.int (a + b), True)
  | .Sub, .int a, .int b => (.int (a - b), True)
  | .Mult, .int a, .int b => (.int (a * b), a.natAbs < 2 ^ 64 ∨ b.natAbs < 2 ^ 64)
  | .FloorDiv, .int a, .int b => (.int (a.fdiv b), b ≠ 0 ∧ b.natAbs < 1073741824)
  | .Mod, .int a, .int b => (.int (a.fmod b), b ≠ 0)
  | .Pow, .int a, .int b => (.int (a ^ b.toNat), 0 ≤ b ∧ b ≤ 1000 ∧ a.natAbs < 2 ^ 64)
  | .Add, .str x, .str y => (.str (x ++ y), x.length + y.length ≤ lenLid)
  | .Mult, .str x, .int n => (.str (repStr x n.toNat), x.length ≤ 100 ∧ n ≤ 100 ∧ -100 ≤ n)
  | .Add, .bytes x, .bytes y => (.bytes (x ++ y), x.length + y.length ≤ lenLid)
  | _, _, _ => no

noncomputable def truV : V → W Bool
  | .none => (false, True)
  | .bool b => (b, True)
  | .int i => (decide (i ≠ 0), True)
  | .str x => (decide (0 < x.length), x.length ≤ lenLid)
  | _ => (false, False)

noncomputable def intsV : List V → W (List Int)
  | [] => ([], True)
  | .int i :: r => (i :: (intsV r).1, (intsV r).2)
  | _ => ([], False)
noncomputable def strsV : List V → W (List (List Nat))
  | [] => ([], True)
  | .str i :: r => (i :: (strsV r).1, (strsV r).2)
  | _ => ([], False)

noncomputable def cmpV (g : Cfg) (op : CmpOp) (a b : V) : W Bool :=
  match op, a, b with
  | .Eq, .int a, .int b => (decide (a = b), True)
  | .NotEq, .int a, .int b => (decide (a ≠ b), True)
  | .Lt, .int a, .int b => (decide (a < b), True)
  | .Gt, .int a, .int b => (decide (b < a), True)
  | .Eq, .str a, .str b => (decide (a = b), True)
  | .NotEq, .str a, .str b => (decide (a ≠ b), True)
  | .IsNot, .none, .none => (false, True)
  | .IsNot, .str _, .none => (true, True)
  | .In, .int a, .val w => g.mem w a
  | .In, .str a, .dict kv => ((kv.lookup a).isSome, True)
  | _, _, _ => (false, False)

/-- the item of a sequence at an index -/
noncomputable def seqAt {α : Type} (d : α) (xs : List α) (i : Int) : W α :=
  (xs.getD (if i < 0 then i + xs.length else i).toNat d, -(xs.length : Int) ≤ i ∧ i < xs.length ∧ xs.length ≤ lenLid)
noncomputable def itemV : V → V → W V
  | .list xs, .int i => seqAt .none xs i
  | .str xs, .int i => let r := seqAt 0 xs i; (.str [r.1], r.2)
  | .dict kv, .str x => (.int ((kv.lookup x).getD 0), (kv.lookup x).isSome = true)
  | _, _ => no

/-- a bound of a slice, set into 0..n -/
noncomputable def clip (n : Nat) (d : Nat) : V → W Nat
  | .none => (d, True)
  | .int i => (if i < 0 then (i + n).toNat else min i.toNat n, True)
  | _ => (0, False)
noncomputable def pickL {α : Type} (xs : List α) (lo hi st : Option Int) : List α :=
  (sliceRange (sliceBounds lo hi st xs.length).1 (sliceBounds lo hi st xs.length).2.1 (sliceBounds lo hi st xs.length).2.2).filterMap fun i => xs[i]?
noncomputable def cutV (v lo hi st : V) : W V :=
  match v, st with
  | .str xs, .none => (.str ((xs.take (clip xs.length xs.length hi).1).drop (clip xs.length 0 lo).1), (clip xs.length xs.length hi).2 ∧ (clip xs.length 0 lo).2 ∧ xs.length ≤ lenLid)
  | .bytes xs, .none => (.bytes ((xs.take (clip xs.length xs.length hi).1).drop (clip xs.length 0 lo).1), (clip xs.length xs.length hi).2 ∧ (clip xs.length 0 lo).2 ∧ xs.length ≤ lenLid)
  | .list xs, .int k => match lo, hi with
    | .int i, .none => (.list (pickL xs (some i) none (some k)), k ≠ 0 ∧ xs.length ≤ lenLid)
    | _, _ => no
  | _, _ => no

noncomputable def rangeUp (a : Int) (c : Int) : Nat → List Int
  | 0 => []
  | n + 1 => a :: rangeUp (a + c) c n
/-- the ints of a range with a step above 0 -/
noncomputable def rangeV (a b c : Int) : W (List Int) :=
  (rangeUp a c ((b - a + c - 1).fdiv c).toNat, 0 < c ∧ c ≤ 1000 ∧ -lenLid ≤ a ∧ a ≤ lenLid ∧ b ≤ lenLid ∧ -lenLid ≤ b)

/-- of so many arguments -/
noncomputable def arg0 (r : W V) : List V → W V
  | [] => r
  | _ => no
noncomputable def arg1 (f : V → W V) : List V → W V
  | [a] => f a
  | _ => no
noncomputable def arg2 (f : V → V → W V) : List V → W V
  | [a, b] => f a b
  | _ => no
noncomputable def lenB : V → W V
  | .str x => (.int x.length, x.length ≤ lenLid)
  | _ => no
noncomputable def ordB : V → W V
  | .str [c] => (.int c, True)
  | _ => no
noncomputable def chrB : V → W V
  | .int i => (.str [i.toNat], 0 ≤ i ∧ i ≤ 1114111)
  | _ => no
noncomputable def absB : V → W V
  | .int i => (.int (if i < 0 then -i else i), True)
  | _ => no
noncomputable def intB : V → W V
  | .int i => (.int i, True)
  | .str x => (.int ((PySem.intText? ⟨x.toArray⟩).getD 0), (PySem.intText? ⟨x.toArray⟩).isSome = true ∧ x.length ≤ 100)
  | _ => no
noncomputable def strB : V → W V
  | .int i => (.str (PySem.Str.ofString (toString i)).cps.toList, i.natAbs < 1000)
  | _ => no
noncomputable def sumB : V → W V
  | .list xs => (.int (intsV xs).1.sum, (intsV xs).2)
  | _ => no
/-- of two ints -/
noncomputable def ints2 (f : Int → Int → W V) : V → V → W V
  | .int a, .int b => f a b
  | _, _ => no
noncomputable def divB (a b : Int) : W V := (.tup [.int (a.fdiv b), .int (a.fmod b)], b ≠ 0 ∧ b.natAbs < 1073741824)
noncomputable def minB (a b : Int) : W V := (.int (if b < a then b else a), True)
noncomputable def bltV (f : Str) (args : List V) : W V :=
  if f = ("len" : Str) then arg1 lenB args
  else if f = ("ord" : Str) then arg1 ordB args
  else if f = ("chr" : Str) then arg1 chrB args
  else if f = ("abs" : Str) then arg1 absB args
  else if f = ("int" : Str) then arg1 intB args
  else if f = ("str" : Str) then arg1 strB args
  else if f = ("divmod" : Str) then arg2 (ints2 divB) args
  else if f = ("min" : Str) then arg2 (ints2 minB) args
  else if f = ("sum" : Str) then arg1 sumB args
  else no
noncomputable abbrev isBlt (f : Str) : Bool := [("len" : Str), "ord", "chr", "abs", "int", "str", "divmod", "min", "sum"].contains f

/-- methods of a text -/
noncomputable def joinM (x : List Nat) : V → W V
  | .list xs => (.str (strsV xs).1.flatten, (strsV xs).2 ∧ (strsV xs).1.flatten.length ≤ lenLid ∧ x = [])
  | _ => no
noncomputable def indexM (x : List Nat) : V → W V
  | .str y => (.int (Txt.find ⟨x.toArray⟩ ⟨y.toArray⟩), 0 ≤ Txt.find ⟨x.toArray⟩ ⟨y.toArray⟩)
  | _ => no
noncomputable def decM (b : List UInt8) : V → W V
  | .str x => (.str (b.map (·.toNat)), (∀ c ∈ b, c.toNat < 128) ∧ b.length ≤ lenLid ∧ x = [97, 115, 99, 105, 105])
  | _ => no
noncomputable def valM (g : Cfg) (w : Value) : V → W V
  | .int i => g.get w i
  | _ => no
/-- methods of a dict of ours -/
noncomputable def dictM (kv : List (List Nat × Int)) (a b : V) : W V := match a with
  | .str x => (match b with
    | .int d => (.int ((kv.lookup x).getD d), True)
    | _ => no)
  | _ => no
noncomputable def methV (g : Cfg) (o : V) (name : Str) (args : List V) : W V := match o with
  | .str x =>
    if name = ("lower" : Str) then arg0 (.str (Txt.lower ⟨x.toArray⟩).cps.toList, x.length ≤ lenLid) args
    else if name = ("upper" : Str) then arg0 (.str (Txt.upper ⟨x.toArray⟩).cps.toList, x.length ≤ lenLid) args
    else if name = ("join" : Str) then arg1 (joinM x) args
    else if name = ("index" : Str) then arg1 (indexM x) args
    else no
  | .bytes b => if name = ("decode" : Str) then arg1 (decM b) args else no
  | .val w => if name = ("get" : Str) then arg1 (valM g w) args else no
  | .dict kv => if name = ("get" : Str) then arg2 (dictM kv) args else no
  | _ => no

/-- what a loop goes over -/
noncomputable def itemsV : V → W (List V)
  | .list xs => (xs, xs.length ≤ lenLid)
  | .str xs => (xs.map fun c => .str [c], xs.length ≤ lenLid)
  | .dict kv => (kv.map fun p => .str p.1, kv.length ≤ lenLid)
  | _ => ([], False)

noncomputable abbrev Kd := Str → Option NameKind
structure Loc where
  v : V
  own : Bool := false
noncomputable abbrev Ls := List (Str × Loc)
noncomputable def Ls.put (l : Ls) (x : Str) (v : Loc) : Ls := match l with
  | [] => [(x, v)]
  | (y, u) :: r => if y = x then (x, v) :: r else (y, u) :: Ls.put r x v
noncomputable def Ls.loc (l : Ls) (x : Str) : Option Loc := match l with
  | [] => none
  | (y, u) :: r => if y = x then some u else Ls.loc r x
noncomputable def Ls.at (l : Ls) (x : Str) : Option V := match l with
  | [] => none
  | (y, u) :: r => if y = x then some u.v else Ls.at r x
noncomputable def Ls.clean (l : Ls) : Ls := l.filter fun p => !p.2.own
noncomputable def Ls.capt (l : Ls) (k : Kd) : Ls := l.filter fun p => k p.1 == some .cell || k p.1 == some .free
noncomputable def isAtom : V → Bool
  | .none | .bool _ | .int _ | .str _ | .bytes _ => true
  | _ => false

noncomputable def constV : Const → W V
  | .none => (.none, True)
  | .bool b => (.bool b, True)
  | .int i => (.int i, True)
  | .str s => (.str s.cps.toList, True)
  | .bytes b => (.bytes b, True)
  | _ => no

noncomputable def kindOk (k : Kd) (x : Str) : Bool := k x == some .globalImplicit && !(x == ("__debug__" : Str))
noncomputable def nameOk (x : Str) : Bool := !(x == ("__debug__" : Str)) && !(x == ("__classdict__" : Str)) && !(x == ("__name__" : Str))
/-- no super() -/
noncomputable def BaseOk (o : Expr) : Prop := ∀ (name : Str) (env : Env) (m : Sem Value), attributeBase o name env m = m
noncomputable def selfKind (k : Kd) (p : Str × NameKind) : Str × NameKind := if p.2 == .free && k p.1 == some .cell then (p.1, .cell) else p
noncomputable def inKind (k : Kd) (scope : Scope) : Kd := fun x => (scope.names.map (selfKind k)).lookup x

/-- the ints of a call of range -/
noncomputable def rangeI : List Int → W (List V)
  | [b] => ((rangeV 0 b 1).1.map .int, (rangeV 0 b 1).2)
  | [a, b] => ((rangeV a b 1).1.map .int, (rangeV a b 1).2)
  | [a, b, c] => ((rangeV a b c).1.map .int, (rangeV a b c).2)
  | _ => ([], False)
noncomputable def rangeOf (vs : List V) : W (List V) := ((rangeI (intsV vs).1).1, (intsV vs).2 ∧ (rangeI (intsV vs).1).2)
/-! views: what shape an expression has -/
noncomputable def nmE : Expr → Option Str
  | .Name x _ => some x
  | _ => none
noncomputable def NmIs (e : Expr) : Option Str → Prop
  | some x => ∃ p, e = .Name x p
  | none => True
theorem nmE_is (e : Expr) : NmIs e (nmE e) := by
  cases e with
  | Name _ p => exact ⟨p, rfl⟩
  | _ => trivial
theorem nmE_form {e : Expr} {x : Str} (h : nmE e = some x) : ∃ p, e = .Name x p := by
  have := nmE_is e
  rw [h] at this; exact this
theorem if_some {α : Type} {c : Prop} [Decidable c] {x : Option α} {y : α} (h : (if c then x else none) = some y) : c ∧ x = some y := by
  by_cases hc : c
  · rw [if_pos hc] at h; exact ⟨hc, h⟩
  · rw [if_neg hc] at h; cases h
noncomputable def callP : Expr → Option (Expr × List Expr × List Keyword)
  | .Call f args kw _ => some (f, args, kw)
  | _ => none
/-- a call of a name, without keywords -/
noncomputable def callV (e : Expr) : Option (Str × List Expr) := match callP e with
  | some (f, args, []) => (nmE f).map fun x => (x, args)
  | _ => none
noncomputable def CallIs (e : Expr) : Option (Str × List Expr) → Prop
  | some q => ∃ fp p, e = .Call (.Name q.1 fp) q.2 [] p
  | none => True
theorem callV_is (e : Expr) : CallIs e (callV e) := by
  cases e with
  | Call f args kw p => cases kw with
    | nil =>
      show CallIs _ ((nmE f).map fun x => (x, args))
      have := nmE_is f
      revert this
      cases nmE f with
      | none => exact fun _ => trivial
      | some x =>
        rintro ⟨fp, rfl⟩
        exact ⟨fp, p, rfl⟩
    | cons _ _ => trivial
  | _ => trivial
theorem callV_form {e : Expr} {x : Str} {args : List Expr} (h : callV e = some (x, args)) : ∃ fp p, e = .Call (.Name x fp) args [] p := by
  have := callV_is e
  rw [h] at this; exact this
noncomputable def constP : Expr → Option Const
  | .Constant c _ _ => some c
  | _ => none
noncomputable def ConstIs (e : Expr) : Option Const → Prop
  | some c => ∃ i p, e = .Constant c i p
  | none => True
theorem constP_is (e : Expr) : ConstIs e (constP e) := by
  cases e with
  | Constant c i p => exact ⟨i, p, rfl⟩
  | _ => trivial
theorem constP_form {e : Expr} {c : Const} (h : constP e = some c) : ∃ i p, e = .Constant c i p := by
  have := constP_is e
  rw [h] at this; exact this
noncomputable def oneE : List Expr → Option Expr
  | [a] => some a
  | _ => none
/-- what is assigned to -/
inductive Tg where
  | name (x : Str)
  | pair (x y : Str)
  | sub (x : Str) (i : Expr)
  | bad
noncomputable def tgPair : List Expr → Tg
  | [a, b] => (match nmE a with
    | some x => (match nmE b with
      | some y => .pair x y
      | none => .bad)
    | none => .bad)
  | _ => .bad
noncomputable def tgV : Expr → Tg
  | .Name x _ => .name x
  | .Tuple es _ _ => tgPair es
  | .Subscript o i _ => (match nmE o with
    | some x => .sub x i
    | none => .bad)
  | _ => .bad
noncomputable def TgIs (e : Expr) : Tg → Prop
  | .name x => ∃ p, e = .Name x p
  | .pair x y => ∃ p q c r, e = .Tuple [.Name x p, .Name y q] c r
  | .sub x i => ∃ p q, e = .Subscript (.Name x p) i q
  | .bad => True
theorem tgPair_form {es : List Expr} {c : Nat} {r : Pos} : TgIs (.Tuple es c r) (tgPair es) := by
  unfold tgPair
  split
  · rename_i a b
    cases ha : nmE a with
    | none => trivial
    | some x => cases hb : nmE b with
      | none => trivial
      | some y =>
        obtain ⟨p, rfl⟩ := nmE_form ha
        obtain ⟨q, rfl⟩ := nmE_form hb
        exact ⟨p, q, c, r, rfl⟩
  · trivial
theorem tgV_form (e : Expr) : TgIs e (tgV e) := by
  cases e with
  | Name x p => exact ⟨p, rfl⟩
  | Tuple es c r => exact tgPair_form
  | Subscript o i p =>
    show TgIs _ (match nmE o with | some x => Tg.sub x i | none => .bad)
    cases ho : nmE o with
    | none => trivial
    | some x =>
      obtain ⟨q, rfl⟩ := nmE_form ho
      exact ⟨q, p, rfl⟩
  | _ => trivial
/-- a comprehension of one name -/
noncomputable def gnV : List Comprehension → Option (Str × Expr × List Expr)
  | [] => none
  | c :: _ => (nmE c.target).map fun x => (x, c.iter, c.ifs)
noncomputable def GnIs (gs : List Comprehension) (x : Str) (it : Expr) (ifs : List Expr) : Prop := ∃ p, gs = [⟨.Name x p, it, ifs, 0⟩]
/-- what may stand for the items of a loop, beside a range -/
noncomputable def IsSrc (e : Expr) : Prop := ∀ (env : Env) (x : Value), foldedSetIterable e env x = pure x
/-- a display of constants -/
noncomputable def cStrOf : Const → Option Str
  | .str s => some s
  | _ => none
noncomputable def StrIs (c : Const) : Option Str → Prop
  | some s => c = .str s
  | none => True
theorem cStrOf_is (c : Const) : StrIs c (cStrOf c) := by
  cases c with
  | str _ => rfl
  | _ => trivial
theorem cStrOf_form {c : Const} {s : Str} (h : cStrOf c = some s) : c = .str s := by
  have := cStrOf_is c
  rw [h] at this; exact this
noncomputable def cIntOf : Const → Option Int
  | .int i => some i
  | _ => none
noncomputable def IntIs (c : Const) : Option Int → Prop
  | some s => c = .int s
  | none => True
theorem cIntOf_is (c : Const) : IntIs c (cIntOf c) := by
  cases c with
  | int _ => rfl
  | _ => trivial
theorem cIntOf_form {c : Const} {s : Int} (h : cIntOf c = some s) : c = .int s := by
  have := cIntOf_is c
  rw [h] at this; exact this
noncomputable def strC (e : Expr) : Option Str := (constP e).bind cStrOf
theorem strC_form {e : Expr} {s : Str} (h : strC e = some s) : ∃ i p, e = .Constant (.str s) i p := by
  obtain ⟨c, h1, h2⟩ := Option.bind_eq_some_iff.mp h
  obtain rfl := cStrOf_form h2
  exact constP_form h1
noncomputable def keyC (o : Option Expr) : Option (List Nat) := (o.bind strC).map fun s => s.cps.toList
theorem keyC_form {o : Option Expr} {x : List Nat} (h : keyC o = some x) : ∃ s i p, o = some (.Constant (.str s) i p) ∧ x = s.cps.toList := by
  obtain ⟨s, h1, h2⟩ := Option.map_eq_some_iff.mp h
  obtain ⟨e, rfl, h3⟩ := Option.bind_eq_some_iff.mp h1
  obtain ⟨i, p, rfl⟩ := strC_form h3
  exact ⟨s, i, p, rfl, h2.symm⟩
noncomputable def valC (e : Expr) : Option Int := (constP e).bind cIntOf
theorem valC_form {e : Expr} {i : Int} (h : valC e = some i) : ∃ k p, e = .Constant (.int i) k p := by
  obtain ⟨c, h1, h2⟩ := Option.bind_eq_some_iff.mp h
  obtain rfl := cIntOf_form h2
  exact constP_form h1
noncomputable def constPairs : List (Option Expr) → List Expr → Option (List (List Nat × Int))
  | [], [] => some []
  | k :: ks, v :: vs => (keyC k).bind fun x => (valC v).bind fun i => (constPairs ks vs).map fun r => (x, i) :: r
  | _, _ => none
noncomputable def dictV : Option (List (List Nat × Int)) → W V
  | some kv => (.dict kv, (kv.length = 17 ∧ (kv.map (·.1)).Nodup) ∨ kv = [])
  | none => no
/-- a comprehension's variable -/
noncomputable def targetOk (scope : Scope) (x : Str) : Bool := scope.names.lookup x == some .local
/-- the names of a comprehension's scope, or a lambda's -/
noncomputable def ev.scopeOk (k : Kd) (l : Ls) (scope : Scope) (x : Str) : Bool :=
    scope.kind == .function && scope.names.all fun p =>
      match p.2 with
      | .local => scope.names.lookup p.1 == some .local
      | .free => (k p.1 == some .cell || k p.1 == some .free) && (l.at p.1).isSome && p.1 != x
      | .cell => false
      | _ => true
noncomputable def compW (k : Kd) (l : Ls) (scope : Scope) (gs : List Comprehension) (I : Expr → W (List V)) (E : Ls → W V) (T : Ls → Expr → W Bool) : W V := match gnV gs with
  | none => no
  | some (x, it, ifs) =>
    let q := I it
    let f : V → Ls := fun v => (l.capt (inKind k scope)).put x ⟨v, false⟩
    let r : W V := match ifs with
    | [] => (.list (q.1.map fun v => (E (f v)).1), q.2 ∧ (targetOk scope x = true ∧ nameOk x = true) ∧ ev.scopeOk k l scope x = true ∧ q.1.length ≤ lenLid ∧ ∀ v ∈ q.1, (E (f v)).2)
    | [t] => (.list ((q.1.filter fun v => (T (f v) t).1).map fun v => (E (f v)).1),
        q.2 ∧ (targetOk scope x = true ∧ nameOk x = true) ∧ ev.scopeOk k l scope x = true ∧ q.1.length ≤ lenLid ∧ ∀ v ∈ q.1, (T (f v) t).2 ∧ ((T (f v) t).1 = true → (E (f v)).2))
    | _ => no
    (r.1, GnIs gs x it ifs ∧ r.2)
theorem compW_form {k : Kd} {l : Ls} {scope : Scope} {gs : List Comprehension} {I : Expr → W (List V)} {E : Ls → W V} {T : Ls → Expr → W Bool} (h : (compW k l scope gs I E T).2) : ∃ x px it ifs, gs = [⟨.Name x px, it, ifs, 0⟩] := by
  unfold compW at h
  revert h
  cases gnV gs with
  | none => exact fun h => h.elim
  | some q => exact fun h => ⟨q.1, _, q.2.1, q.2.2, h.1.choose_spec⟩
noncomputable def sliceP : Expr → Option (Option Expr × Option Expr × Option Expr)
  | .Slice lo hi st _ => some (lo, hi, st)
  | _ => none
noncomputable def SliceIs (e : Expr) : Option (Option Expr × Option Expr × Option Expr) → Prop
  | some q => ∃ p, e = .Slice q.1 q.2.1 q.2.2 p
  | none => True
theorem sliceP_is (e : Expr) : SliceIs e (sliceP e) := by
  cases e with
  | Slice _ _ _ p => exact ⟨p, rfl⟩
  | _ => trivial
/-- a call of a name -/
noncomputable def callW (fn : Str → List V → W V) (k : Kd) (l : Ls) (f : Str) (args : List Expr) (a : W (List V)) (I : Expr → W (List V)) : W V :=
  if isBlt f then ((bltV f a.1).1, a.2 ∧ (bltV f a.1).2 ∧ l.at f = none ∧ kindOk k f = true)
  else if f = ("list" : Str) then (match args with
    | [e] => (match callV e with
      | some (r, _) => if r = ("range" : Str) then (.list (I e).1, (I e).2 ∧ l.at f = none ∧ kindOk k f = true) else no
      | none => no)
    | _ => no)
  else ((fn f a.1).1, a.2 ∧ (fn f a.1).2 ∧ l.at f = none ∧ kindOk k f = true)
mutual
noncomputable def ev (g : Cfg) (k : Kd) : Nat → Ls → Expr → W V
  | 0, _, _ => no
  | n + 1, l, e => match e with
    | .Constant c _ _ => constV c
    | .Name x _ => match l.at x with
      | some v => (v, True)
      | none => match g.gl x with
        | some v => (v, kindOk k x = true)
        | none => no
    | .BinOp a op b _ => let va := ev g k n l a; let vb := ev g k n l b; let r := binV op va.1 vb.1; (r.1, va.2 ∧ vb.2 ∧ r.2)
    | .BoolOp op es _ => (match op with
      | .Or => (match es with
        | [a, b] => let va := ev g k n l a; let t := truV va.1; if t.1 then (va.1, va.2 ∧ t.2) else let vb := ev g k n l b; (vb.1, va.2 ∧ t.2 ∧ vb.2)
        | _ => no)
      | _ => no)
    | .Compare a ops bs _ => (match ops with
      | [op] => (match bs with
        | [b] => let va := ev g k n l a; let vb := ev g k n l b; let r := cmpV g op va.1 vb.1; (.bool r.1, va.2 ∧ vb.2 ∧ r.2 ∧ behindInMarks op b = false)
        | _ => no)
      | _ => no)
    | .Subscript v i _ => (match sliceP i with
      | some (lo, hi, st) => let r := ev g k n l v; let a := evO g k n l lo; let b := evO g k n l hi; let c := evO g k n l st; let q := cutV r.1 a.1 b.1 c.1; (q.1, r.2 ∧ a.2 ∧ b.2 ∧ c.2 ∧ q.2)
      | none => let r := ev g k n l v; let j := ev g k n l i; let q := itemV r.1 j.1; (q.1, r.2 ∧ j.2 ∧ q.2))
    | .Dict ks vs _ => dictV (constPairs ks vs)
    | .List es _ => let r := evs g k n l es; (.list r.1, r.2 ∧ r.1.length ≤ lenLid)
    | .Tuple es _ _ => let r := evs g k n l es; (.tup r.1, r.2 ∧ r.1.length ≤ lenLid)
    | .ListComp elt gens scope _ => compW k l scope gens (fun it => evI g k n l it) (fun l' => ev g (inKind k scope) n l' elt) (fun l' t => evT g (inKind k scope) n l' t)
    | .Call fe args kw p => (match kw with
      | _ :: _ => no
      | [] => (match fe with
        | .Attribute o name ap =>
          let r := ev g k n l o; let a := evs g k n l args; let q := methV g r.1 name a.1; (q.1, r.2 ∧ a.2 ∧ q.2 ∧ (ap.endLine == p.line) = true ∧ BaseOk o ∧ args.length ≤ 3)
        | .Name f _ => callW g.fn k l f args (evs g k n l args) (fun e => evI g k n l e)
        | _ => no))
    | _ => no
/-- what is tested -/
noncomputable def evT (g : Cfg) (k : Kd) : Nat → Ls → Expr → W Bool
  | 0, _, _ => (false, False)
  | n + 1, l, e => match e with
    | .UnaryOp .Not a _ => let r := evT g k n l a; (!r.1, r.2)
    | .BoolOp .And es _ => evAnd g k n l es
    | .BoolOp .Or es _ => evOr g k n l es
    | .Compare a [op] [b] _ => let va := ev g k n l a; let vb := ev g k n l b; let r := cmpV g op va.1 vb.1; (r.1, va.2 ∧ vb.2 ∧ r.2 ∧ behindInMarks op b = false)
    | .Compare _ _ _ _ => (false, False)
    | e => let v := ev g k n l e; let t := truV v.1; (t.1, v.2 ∧ t.2)
noncomputable def evAnd (g : Cfg) (k : Kd) : Nat → Ls → List Expr → W Bool
  | 0, _, _ => (false, False)
  | n + 1, l, es => match es with
    | [] => (true, True)
    | e :: r => let v := evT g k n l e; if v.1 then (let q := evAnd g k n l r; (q.1, v.2 ∧ q.2)) else (false, v.2)
noncomputable def evOr (g : Cfg) (k : Kd) : Nat → Ls → List Expr → W Bool
  | 0, _, _ => (false, False)
  | n + 1, l, es => match es with
    | [] => (false, True)
    | e :: r => let v := evT g k n l e; if v.1 then (true, v.2) else (let q := evOr g k n l r; (q.1, v.2 ∧ q.2))
noncomputable def evO (g : Cfg) (k : Kd) : Nat → Ls → Option Expr → W V
  | 0, _, _ => no
  | n + 1, l, e => match e with
    | none => (.none, True)
    | some e => ev g k n l e
noncomputable def evs (g : Cfg) (k : Kd) : Nat → Ls → List Expr → W (List V)
  | 0, _, _ => ([], False)
  | n + 1, l, es => match es with
    | [] => ([], True)
    | e :: r => let v := ev g k n l e; let q := evs g k n l r; (v.1 :: q.1, v.2 ∧ q.2 ∧ ∀ x p, e ≠ .Starred x p)
/-- what a loop goes over -/
noncomputable def evI (g : Cfg) (k : Kd) : Nat → Ls → Expr → W (List V)
  | 0, _, _ => ([], False)
  | n + 1, l, e => match callV e with
    | some (f, args) =>
      if f = ("range" : Str) then
        let a := evs g k n l args
        let q := rangeOf a.1
        (q.1, a.2 ∧ q.2 ∧ l.at f = none ∧ kindOk k f = true)
      else ([], False)
    | none => let v := ev g k n l e; let q := itemsV v.1; (q.1, IsSrc e ∧ v.2 ∧ q.2)
end

/-- op= that we evaluate -/
inductive AugOk : Operator → V → V → Prop where
  | add {x y : Int} : AugOk .Add (.int x) (.int y)
  | sub {x y : Int} : AugOk .Sub (.int x) (.int y)
  | str {x y : List Nat} : AugOk .Add (.str x) (.str y)
inductive Fl where
  | next
  | ret (v : V)

/-- an expression whose list is new -/
noncomputable def isD0 : Expr → Bool
  | .Dict ks _ _ => ks.isEmpty
  | _ => false
noncomputable def isNew (e : Expr) : Bool := isD0 e || ((callV e).map (·.1) == some ("list" : Str))
/-- such ones as we know -/
noncomputable def NewIs (e : Expr) : Prop := (∃ p, e = .Dict [] [] p) ∨ ∃ fp rp as cp pos, e = .Call (.Name "list" fp) [.Call (.Name "range" rp) as [] cp] [] pos
/-- no other list is written to -/
noncomputable def onlyOwn (l : Ls) (x : Str) : Bool := l.all fun p => !p.2.own || p.1 == x
noncomputable def storable (k : Kd) (x : Str) : Bool := (k x == some .local || k x == some .cell) && nameOk x

/-- a tuple of constants alone -/
noncomputable def constTup : Expr → Bool
  | .Tuple vs _ _ => vs.all (constantsAlone 8)
  | _ => false
/-- a value to be stored: it holds no list that is written to -/
noncomputable def evS (g : Cfg) (k : Kd) (n : Nat) (l : Ls) (e : Expr) : W V :=
  let r := ev g k n l e
  if isAtom r.1 then r else ev g k n l.clean e

noncomputable def tupAt (i : Nat) : V → V
  | .tup vs => vs.getD i .none
  | _ => .none
/-- a pair into two names -/
noncomputable def tupW (k : Kd) (l : Ls) (x y : Str) (e : Expr) (v : W V) : Fl × Ls × Prop :=
  (.next, (l.put x ⟨tupAt 0 v.1, false⟩).put y ⟨tupAt 1 v.1, false⟩, v.2 ∧ v.1 = .tup [tupAt 0 v.1, tupAt 1 v.1] ∧ constTup e = false ∧ isAtom (tupAt 0 v.1) = true ∧ isAtom (tupAt 1 v.1) = true ∧ storable k x = true ∧ storable k y = true ∧ x ≠ y)
/-- a key's value put in -/
noncomputable def putD (kv : List (List Nat × Int)) (x : List Nat) (i : Int) : List (List Nat × Int) :=
  if kv.any (fun p => p.1 == x) then kv.map fun p => if p.1 == x then (p.1, i) else p else kv ++ [(x, i)]
/-- an item of an own list, or of an own dict -/
noncomputable def setV (o v j : V) : V := match j with
  | .int i => (match o with
    | .list xs => .list (xs.set i.toNat v)
    | _ => .none)
  | .str y => (match o with
    | .dict kv => (match v with
      | .int i => .dict (putD kv y i)
      | _ => .none)
    | _ => .none)
  | _ => .none
noncomputable def SetOk (u : Option Loc) (v j : V) : Prop := (∃ xs i, u = some ⟨.list xs, true⟩ ∧ j = .int i ∧ isAtom v = true ∧ 0 ≤ i ∧ i < xs.length ∧ xs.length ≤ lenLid) ∨ ∃ kv y i, u = some ⟨.dict kv, true⟩ ∧ j = .str y ∧ v = .int i ∧ kv.length ≤ lenLid
noncomputable def ownV (u : Option Loc) : V := (u.map (·.v)).getD .none
noncomputable def setW (l : Ls) (x : Str) (v j : W V) : Fl × Ls × Prop := (.next, l.put x ⟨setV (ownV (l.loc x)) v.1 j.1, true⟩, v.2 ∧ j.2 ∧ SetOk (l.loc x) v.1 j.1)
noncomputable def thenW (q : Fl × Ls × Prop) (f : Ls → Fl × Ls × Prop) : Fl × Ls × Prop := match q.1 with
  | .next => ((f q.2.1).1, (f q.2.1).2.1, q.2.2 ∧ (f q.2.1).2.2)
  | .ret u => (.ret u, q.2.1, q.2.2)
noncomputable def loopV (f : Ls → V → Fl × Ls × Prop) : Ls → List V → Fl × Ls × Prop
  | l, [] => (.next, l, True)
  | l, v :: r => thenW (f l v) fun l' => loopV f l' r
noncomputable def whileV (t : Ls → W Bool) (f : Ls → Fl × Ls × Prop) : Nat → Ls → Fl × Ls × Prop
  | 0, l => (.next, l, False)
  | n + 1, l => if (t l).1 then (let q := thenW (f l) fun l' => whileV t f n l'; (q.1, q.2.1, (t l).2 ∧ q.2.2)) else (.next, l, (t l).2)

/-- a lambda of one parameter -/
structure Lam where
  x : Str
  ap : Pos
  body : Expr
  scope : Scope
  pos : Pos
noncomputable abbrev Lam.params (L : Lam) : Arguments := ⟨[], [⟨L.x, none, L.ap⟩], none, [], [], none, []⟩
noncomputable def lamP : Expr → Option Lam
  | .Lambda ps body scope pos => ps.args.head?.map fun q => ⟨q.arg, q.pos, body, scope, pos⟩
  | _ => none
/-- the text and the lambda of sorted(text, key=lambda), if it is one -/
noncomputable def sortC (e : Expr) : Option (Str × Lam) := (callP e).bind fun q => (oneE q.2.1).bind fun a => (callP a).bind fun r => (oneE r.2.1).bind fun c => (strC c).bind fun s => r.2.2.head?.bind fun k => (lamP k.value).map fun L => (s, L)
/-- ''.join(sorted(text, key=lambda)) -/
noncomputable def SortIs (e : Expr) (s : Str) (L : Lam) : Prop := ∃ i cp ap p fp i2 c2 kp q, e = .Call (.Attribute (.Constant (.str ("" : Str)) i cp) ("join" : Str) ap) [.Call (.Name ("sorted" : Str) fp) [.Constant (.str s) i2 c2] [⟨some ("key" : Str), .Lambda L.params L.body L.scope L.pos, kp⟩] q] [] p ∧ (ap.endLine == p.line) = true
/-- what makes a function, or calls one that does -/
inductive Dv where
  | call (f : Str) (args : List Expr)
  | sort (s : Str) (L : Lam)
noncomputable def dvE (e : Expr) : Option Dv := match callV e with
  | some (f, args) => if f = ("_law_orders" : Str) then some (.call f args) else none
  | none => (sortC e).map fun q => .sort q.1 q.2
theorem dvE_call {e : Expr} {f : Str} {args : List Expr} (h : dvE e = some (.call f args)) : callV e = some (f, args) := by
  unfold dvE at h
  revert h
  cases callV e with
  | some q =>
    intro h
    obtain ⟨_, h⟩ := if_some h
    cases h; rfl
  | none =>
    intro h
    obtain ⟨q, _, e⟩ := Option.map_eq_some_iff.mp h
    cases e
/-- put in behind all that are not above -/
noncomputable def insS (p : Nat × List Nat) : List (Nat × List Nat) → List (Nat × List Nat)
  | [] => [p]
  | q :: r => if p.2 < q.2 then p :: q :: r else q :: insS p r
/-- in order of the second, the first ones of what is alike first -/
noncomputable def sortS (l : List (Nat × List Nat)) : List Nat := (l.foldl (fun acc p => insS p acc) []).map (·.1)
noncomputable def strV : V → W (List Nat)
  | .str x => (x, True)
  | _ => ([], False)
/-- the names of a lambda -/
noncomputable def lamOk (k : Kd) (l : Ls) (L : Lam) : Bool :=
  L.scope.kind == .function && !L.scope.isGenerator && !L.scope.isCoroutine && L.scope.names.lookup L.x == some .local && L.x == ("place" : Str) && L.scope.names.all fun p =>
    match p.2 with
    | .local => true
    | .free => k p.1 == some .cell && (l.at p.1).isSome && p.1 != L.x
    | .cell => false
    | _ => true
noncomputable abbrev lamK (L : Lam) : Kd := fun x => L.scope.names.lookup x
noncomputable def sortW (k : Kd) (l : Ls) (s : Str) (L : Lam) (E : Ls → W V) : W V :=
  let cs := s.cps.toList
  let key : Nat → W (List Nat) := fun c => let v := E ((l.capt (lamK L)).put L.x ⟨.str [c], false⟩); ((strV v.1).1, v.2 ∧ (strV v.1).2)
  (.str (sortS (cs.map fun c => (c, (key c).1))), (∀ c ∈ cs, (key c).2) ∧ cs.Nodup ∧ 2 ≤ cs.length ∧ cs.length < 64 ∧ lamOk k l L = true ∧ l.at ("sorted" : Str) = none ∧ kindOk k ("sorted" : Str) = true)
noncomputable def isDict : V → Bool
  | .dict _ => true
  | _ => false
/-- a name of such a thing -/
noncomputable def dvW (g : Cfg) (k : Kd) (l lc : Ls) (x : Str) (e : Expr) (d : Dv) (vs : List Expr → W (List V)) (E : Lam → Ls → W V) : Fl × Ls × Prop := match d with
  | .call f args =>
    let a := vs args
    (.next, l.put x ⟨(g.dn f a.1).1, false⟩, a.2 ∧ (g.dn f a.1).2 ∧ isDict (g.dn f a.1).1 = true ∧ storable k x = true ∧ l.at f = none ∧ kindOk k f = true)
  | .sort s L => let v := sortW k lc s L (E L); (.next, l.put x ⟨v.1, false⟩, SortIs e s L ∧ g.dt L.pos ∧ v.2 ∧ storable k x = true)
noncomputable def asgW (g : Cfg) (k : Kd) (l : Ls) (e : Expr) (tg : Tg) (vc vs v : W V) (vi : Expr → W V) (vd : List Expr → W (List V)) (E : Lam → Ls → W V) : Fl × Ls × Prop := match tg with
  | .name x => match dvE e with
   | some d => dvW g k l l.clean x e d vd E
   | none =>
    if isNew e then (.next, l.put x ⟨vc.1, true⟩, vc.2 ∧ NewIs e ∧ k x = some .local ∧ nameOk x = true ∧ onlyOwn l x = true)
    else (.next, l.put x ⟨vs.1, false⟩, vs.2 ∧ storable k x = true)
  | .pair x y => tupW k l x y e v
  | .sub x i => setW l x v (vi i)
  | .bad => (.next, l, False)
noncomputable def twoW (k : Kd) (l : Ls) (x y : Option Str) (v : W V) : Fl × Ls × Prop := match x with
  | some x => (match y with
    | some y => (.next, (l.put x ⟨v.1, false⟩).put y ⟨v.1, false⟩, v.2 ∧ isAtom v.1 = true ∧ storable k x = true ∧ storable k y = true)
    | none => (.next, l, False))
  | none => (.next, l, False)
noncomputable def augW (k : Kd) (l : Ls) (op : Operator) (x : Option Str) (a v : W V) : Fl × Ls × Prop := match x with
  | some x => (.next, l.put x ⟨(binV op a.1 v.1).1, false⟩, (l.at x).isSome = true ∧ v.2 ∧ (binV op a.1 v.1).2 ∧ AugOk op a.1 v.1 ∧ storable k x = true)
  | none => (.next, l, False)
noncomputable def forW (k : Kd) (l : Ls) (x : Option Str) (q : W (List V)) (body : Ls → Fl × Ls × Prop) : Fl × Ls × Prop := match x with
  | some x =>
    let r := loopV (fun l v => let q := body (l.put x ⟨v, false⟩); (q.1, q.2.1, q.2.2 ∧ isAtom v = true)) l q.1
    (r.1, r.2.1, q.2 ∧ r.2.2 ∧ storable k x = true)
  | none => (.next, l, False)

mutual
noncomputable def ex (g : Cfg) (k : Kd) : Nat → Ls → Stmt → Fl × Ls × Prop
  | 0, l, _ => (.next, l, False)
  | n + 1, l, s => match s with
    | .Return e _ => (match e with
      | some e => let v := ev g k n l e; (.ret v.1, l, v.2)
      | none => (.next, l, False))
    | .Assign ts e _ => (match ts with
      | [] => (.next, l, False)
      | t :: r => (match r with
        | [] => asgW g k l e (tgV t) (ev g k n l.clean e) (evS g k n l e) (ev g k n l e) (fun i => ev g k n l i) (fun as => evs g k n l.clean as) (fun L l' => ev g.low (lamK L) n l' L.body)
        | t2 :: r2 => (match r2 with
          | [] => twoW k l (nmE t) (nmE t2) (ev g k n l e)
          | _ :: _ => (.next, l, False))))
    | .AugAssign t op e _ => augW k l op (nmE t) (ev g k (n + 1) l t) (ev g k n l e)
    | .If t a b _ => let r := evT g k n l t; if r.1 then (let q := exs g k n l a; (q.1, q.2.1, r.2 ∧ q.2.2)) else (let q := exs g k n l b; (q.1, q.2.1, r.2 ∧ q.2.2))
    | .While t body orelse _ => (match orelse with
      | [] => whileV (fun l => evT g k n l t) (fun l => exs g k n l body) 100000 l
      | _ :: _ => (.next, l, False))
    | .For t it body orelse _ => (match orelse with
      | [] => forW k l (nmE t) (evI g k n l.clean it) (fun l => exs g k n l body)
      | _ :: _ => (.next, l, False))
    | _ => (.next, l, False)
noncomputable def exs (g : Cfg) (k : Kd) : Nat → Ls → List Stmt → Fl × Ls × Prop
  | 0, l, _ => (.next, l, False)
  | n + 1, l, ss => match ss with
    | [] => (.next, l, True)
    | s :: r => thenW (ex g k n l s) fun l' => exs g k n l' r
end
/-! what it comes to, form by form -/
section
variable {g : Cfg} {k : Kd} {n : Nat} {l : Ls} {a b t e : Expr} {p q : Pos} {es r : List Expr}
theorem ev_const {c : Const} {j : Nat} : ev g k (n + 1) l (.Constant c j p) = constV c := rfl
theorem ev_name {x : Str} : ev g k (n + 1) l (.Name x p) = match l.at x with
      | some v => (v, True)
      | none => match g.gl x with
        | some v => (v, kindOk k x = true)
        | none => no := rfl
theorem ev_nameL {x : Str} {v : V} (h : l.at x = some v) : ev g k (n + 1) l (.Name x p) = (v, True) := by rw [ev_name, h]
theorem ev_nameG {x : Str} {v : V} (h : l.at x = none) (h2 : g.gl x = some v) : ev g k (n + 1) l (.Name x p) = (v, kindOk k x = true) := by rw [ev_name, h, h2]
theorem ev_nameN {x : Str} (h : l.at x = none) (h2 : g.gl x = none) : ev g k (n + 1) l (.Name x p) = no := by rw [ev_name, h, h2]
theorem ev_bin {op : Operator} : ev g k (n + 1) l (.BinOp a op b p) = ((binV op (ev g k n l a).1 (ev g k n l b).1).1, (ev g k n l a).2 ∧ (ev g k n l b).2 ∧ (binV op (ev g k n l a).1 (ev g k n l b).1).2) := rfl
theorem ev_or : ev g k (n + 1) l (.BoolOp .Or [a, b] p) = if (truV (ev g k n l a).1).1 then ((ev g k n l a).1, (ev g k n l a).2 ∧ (truV (ev g k n l a).1).2) else ((ev g k n l b).1, (ev g k n l a).2 ∧ (truV (ev g k n l a).1).2 ∧ (ev g k n l b).2) := rfl
theorem ev_cmp {op : CmpOp} : ev g k (n + 1) l (.Compare a [op] [b] p) = (.bool (cmpV g op (ev g k n l a).1 (ev g k n l b).1).1, (ev g k n l a).2 ∧ (ev g k n l b).2 ∧ (cmpV g op (ev g k n l a).1 (ev g k n l b).1).2 ∧ behindInMarks op b = false) := rfl
theorem ev_cut {lo hi st : Option Expr} : ev g k (n + 1) l (.Subscript a (.Slice lo hi st q) p) = ((cutV (ev g k n l a).1 (evO g k n l lo).1 (evO g k n l hi).1 (evO g k n l st).1).1, (ev g k n l a).2 ∧ (evO g k n l lo).2 ∧ (evO g k n l hi).2 ∧ (evO g k n l st).2 ∧ (cutV (ev g k n l a).1 (evO g k n l lo).1 (evO g k n l hi).1 (evO g k n l st).1).2) := rfl
theorem ev_item (hb : sliceP b = none) : ev g k (n + 1) l (.Subscript a b p) = ((itemV (ev g k n l a).1 (ev g k n l b).1).1, (ev g k n l a).2 ∧ (ev g k n l b).2 ∧ (itemV (ev g k n l a).1 (ev g k n l b).1).2) := by
  have e : ev g k (n + 1) l (.Subscript a b p) = match sliceP b with
    | some (lo, hi, st) => ((cutV (ev g k n l a).1 (evO g k n l lo).1 (evO g k n l hi).1 (evO g k n l st).1).1, (ev g k n l a).2 ∧ (evO g k n l lo).2 ∧ (evO g k n l hi).2 ∧ (evO g k n l st).2 ∧ (cutV (ev g k n l a).1 (evO g k n l lo).1 (evO g k n l hi).1 (evO g k n l st).1).2)
    | none => ((itemV (ev g k n l a).1 (ev g k n l b).1).1, (ev g k n l a).2 ∧ (ev g k n l b).2 ∧ (itemV (ev g k n l a).1 (ev g k n l b).1).2) := rfl
  rw [e, hb]
theorem ev_dict {ks : List (Option Expr)} : ev g k (n + 1) l (.Dict ks es p) = dictV (constPairs ks es) := rfl
theorem ev_list : ev g k (n + 1) l (.List es p) = (.list (evs g k n l es).1, (evs g k n l es).2 ∧ (evs g k n l es).1.length ≤ lenLid) := rfl
theorem ev_tup {c : Nat} : ev g k (n + 1) l (.Tuple es c p) = (.tup (evs g k n l es).1, (evs g k n l es).2 ∧ (evs g k n l es).1.length ≤ lenLid) := rfl
theorem ev_comp0 {x : Str} {scope : Scope} : ev g k (n + 1) l (.ListComp a [⟨.Name x q, b, [], 0⟩] scope p) =
    (.list ((evI g k n l b).1.map fun v => (ev g (inKind k scope) n ((l.capt (inKind k scope)).put x ⟨v, false⟩) a).1), GnIs [⟨.Name x q, b, [], 0⟩] x b [] ∧ (evI g k n l b).2 ∧ (targetOk scope x = true ∧ nameOk x = true) ∧ ev.scopeOk k l scope x = true ∧ (evI g k n l b).1.length ≤ lenLid ∧
      ∀ v ∈ (evI g k n l b).1, (ev g (inKind k scope) n ((l.capt (inKind k scope)).put x ⟨v, false⟩) a).2) := rfl
theorem ev_comp1 {x : Str} {scope : Scope} : ev g k (n + 1) l (.ListComp a [⟨.Name x q, b, [t], 0⟩] scope p) =
    (.list (((evI g k n l b).1.filter fun v => (evT g (inKind k scope) n ((l.capt (inKind k scope)).put x ⟨v, false⟩) t).1).map fun v => (ev g (inKind k scope) n ((l.capt (inKind k scope)).put x ⟨v, false⟩) a).1), GnIs [⟨.Name x q, b, [t], 0⟩] x b [t] ∧ (evI g k n l b).2 ∧ (targetOk scope x = true ∧ nameOk x = true) ∧ ev.scopeOk k l scope x = true ∧ (evI g k n l b).1.length ≤ lenLid ∧
      ∀ v ∈ (evI g k n l b).1, (evT g (inKind k scope) n ((l.capt (inKind k scope)).put x ⟨v, false⟩) t).2 ∧ ((evT g (inKind k scope) n ((l.capt (inKind k scope)).put x ⟨v, false⟩) t).1 = true → (ev g (inKind k scope) n ((l.capt (inKind k scope)).put x ⟨v, false⟩) a).2)) := rfl
theorem ev_meth {name : Str} : ev g k (n + 1) l (.Call (.Attribute a name q) es [] p) = ((methV g (ev g k n l a).1 name (evs g k n l es).1).1, (ev g k n l a).2 ∧ (evs g k n l es).2 ∧ (methV g (ev g k n l a).1 name (evs g k n l es).1).2 ∧ (q.endLine == p.line) = true ∧ BaseOk a ∧ es.length ≤ 3) := rfl
theorem ev_call {f : Str} : ev g k (n + 1) l (.Call (.Name f q) es [] p) = callW g.fn k l f es (evs g k n l es) (fun e => evI g k n l e) := rfl
theorem evT_not : evT g k (n + 1) l (.UnaryOp .Not a p) = (!(evT g k n l a).1, (evT g k n l a).2) := rfl
theorem evT_and : evT g k (n + 1) l (.BoolOp .And es p) = evAnd g k n l es := rfl
theorem evT_or : evT g k (n + 1) l (.BoolOp .Or es p) = evOr g k n l es := rfl
theorem evT_cmp {op : CmpOp} : evT g k (n + 1) l (.Compare a [op] [b] p) = ((cmpV g op (ev g k n l a).1 (ev g k n l b).1).1, (ev g k n l a).2 ∧ (ev g k n l b).2 ∧ (cmpV g op (ev g k n l a).1 (ev g k n l b).1).2 ∧ behindInMarks op b = false) := rfl
theorem evAnd_cons : evAnd g k (n + 1) l (e :: r) = if (evT g k n l e).1 then ((evAnd g k n l r).1, (evT g k n l e).2 ∧ (evAnd g k n l r).2) else (false, (evT g k n l e).2) := rfl
theorem evOr_cons : evOr g k (n + 1) l (e :: r) = if (evT g k n l e).1 then (true, (evT g k n l e).2) else ((evOr g k n l r).1, (evT g k n l e).2 ∧ (evOr g k n l r).2) := rfl
theorem evs_cons : evs g k (n + 1) l (e :: r) = ((ev g k n l e).1 :: (evs g k n l r).1, (ev g k n l e).2 ∧ (evs g k n l r).2 ∧ ∀ x p, e ≠ .Starred x p) := rfl
theorem evI_range {f : Str} : evI g k (n + 1) l (.Call (.Name f q) es [] p) = if f = ("range" : Str) then ((rangeOf (evs g k n l es).1).1, (evs g k n l es).2 ∧ (rangeOf (evs g k n l es).1).2 ∧ l.at f = none ∧ kindOk k f = true) else ([], False) := rfl
theorem evI_nameX {x : Str} : evI g k (n + 1) l (.Name x p) = ((itemsV (ev g k n l (.Name x p)).1).1, IsSrc (.Name x p) ∧ (ev g k n l (.Name x p)).2 ∧ (itemsV (ev g k n l (.Name x p)).1).2) := rfl
theorem evI_src (h : callV e = none) : evI g k (n + 1) l e = ((itemsV (ev g k n l e).1).1, IsSrc e ∧ (ev g k n l e).2 ∧ (itemsV (ev g k n l e).1).2) := by
  have : evI g k (n + 1) l e = match callV e with
    | some (f, args) =>
      if f = ("range" : Str) then ((rangeOf (evs g k n l args).1).1, (evs g k n l args).2 ∧ (rangeOf (evs g k n l args).1).2 ∧ l.at f = none ∧ kindOk k f = true)
      else ([], False)
    | none => ((itemsV (ev g k n l e).1).1, IsSrc e ∧ (ev g k n l e).2 ∧ (itemsV (ev g k n l e).1).2) := rfl
  rw [this, h]
end
/-! statements -/
section
variable {g : Cfg} {k : Kd} {n : Nat} {l : Ls} {e i t : Expr} {p q u : Pos} {x y : Str} {b c : List Stmt} {s : Stmt}
theorem ex_ret : ex g k (n + 1) l (.Return (some e) p) = (.ret (ev g k n l e).1, l, (ev g k n l e).2) := rfl
theorem ex_asg1 : ex g k (n + 1) l (.Assign [t] e p) = asgW g k l e (tgV t) (ev g k n l.clean e) (evS g k n l e) (ev g k n l e) (fun i => ev g k n l i) (fun as => evs g k n l.clean as) (fun L l' => ev g.low (lamK L) n l' L.body) := rfl
theorem ex_asgT {t2 : Expr} : ex g k (n + 1) l (.Assign [t, t2] e p) = twoW k l (nmE t) (nmE t2) (ev g k n l e) := rfl
theorem ex_augT {op : Operator} : ex g k (n + 1) l (.AugAssign t op e p) = augW k l op (nmE t) (ev g k (n + 1) l t) (ev g k n l e) := rfl
theorem ex_forT : ex g k (n + 1) l (.For t e b [] p) = forW k l (nmE t) (evI g k n l.clean e) (fun l => exs g k n l b) := rfl
theorem ex_asg (hd : dvE e = none) : ex g k (n + 1) l (.Assign [.Name x q] e p) = if isNew e then (.next, l.put x ⟨(ev g k n l.clean e).1, true⟩, (ev g k n l.clean e).2 ∧ NewIs e ∧ k x = some .local ∧ nameOk x = true ∧ onlyOwn l x = true)
      else (.next, l.put x ⟨(evS g k n l e).1, false⟩, (evS g k n l e).2 ∧ storable k x = true) := by
  have e1 : ex g k (n + 1) l (.Assign [.Name x q] e p) = match dvE e with
    | some d => dvW g k l l.clean x e d (fun as => evs g k n l.clean as) (fun L l' => ev g.low (lamK L) n l' L.body)
    | none => if isNew e then (.next, l.put x ⟨(ev g k n l.clean e).1, true⟩, (ev g k n l.clean e).2 ∧ NewIs e ∧ k x = some .local ∧ nameOk x = true ∧ onlyOwn l x = true)
      else (.next, l.put x ⟨(evS g k n l e).1, false⟩, (evS g k n l e).2 ∧ storable k x = true) := rfl
  rw [e1, hd]
theorem ex_asgD {d : Dv} (hd : dvE e = some d) : ex g k (n + 1) l (.Assign [.Name x q] e p) = dvW g k l l.clean x e d (fun as => evs g k n l.clean as) (fun L l' => ev g.low (lamK L) n l' L.body) := by
  have e1 : ex g k (n + 1) l (.Assign [.Name x q] e p) = match dvE e with
    | some d => dvW g k l l.clean x e d (fun as => evs g k n l.clean as) (fun L l' => ev g.low (lamK L) n l' L.body)
    | none => if isNew e then (.next, l.put x ⟨(ev g k n l.clean e).1, true⟩, (ev g k n l.clean e).2 ∧ NewIs e ∧ k x = some .local ∧ nameOk x = true ∧ onlyOwn l x = true)
      else (.next, l.put x ⟨(evS g k n l e).1, false⟩, (evS g k n l e).2 ∧ storable k x = true) := rfl
  rw [e1, hd]
theorem ex_asg2 : ex g k (n + 1) l (.Assign [.Name x q, .Name y u] e p) = (.next, (l.put x ⟨(ev g k n l e).1, false⟩).put y ⟨(ev g k n l e).1, false⟩, (ev g k n l e).2 ∧ isAtom (ev g k n l e).1 = true ∧ storable k x = true ∧ storable k y = true) := rfl
theorem ex_tup0 {tp : Pos} {j : Nat} : ex g k (n + 1) l (.Assign [.Tuple [.Name x q, .Name y u] j tp] e p) = tupW k l x y e (ev g k n l e) := rfl
theorem ex_set0 {tp : Pos} : ex g k (n + 1) l (.Assign [.Subscript (.Name x q) i tp] e p) = setW l x (ev g k n l e) (ev g k n l i) := rfl
theorem ex_aug0 {op : Operator} : ex g k (n + 1) l (.AugAssign (.Name x q) op e p) = (.next, l.put x ⟨(binV op (ev g k (n + 1) l (.Name x q)).1 (ev g k n l e).1).1, false⟩, (l.at x).isSome = true ∧ (ev g k n l e).2 ∧ (binV op (ev g k (n + 1) l (.Name x q)).1 (ev g k n l e).1).2 ∧ AugOk op (ev g k (n + 1) l (.Name x q)).1 (ev g k n l e).1 ∧ storable k x = true) := rfl
theorem ex_if0 : ex g k (n + 1) l (.If t b c p) = if (evT g k n l t).1 then ((exs g k n l b).1, (exs g k n l b).2.1, (evT g k n l t).2 ∧ (exs g k n l b).2.2) else ((exs g k n l c).1, (exs g k n l c).2.1, (evT g k n l t).2 ∧ (exs g k n l c).2.2) := rfl
theorem ex_while0 : ex g k (n + 1) l (.While t b [] p) = whileV (fun l => evT g k n l t) (fun l => exs g k n l b) 100000 l := rfl
theorem ex_for0 : ex g k (n + 1) l (.For (.Name x q) e b [] p) =
      ((loopV (fun l v => ((exs g k n (l.put x ⟨v, false⟩) b).1, (exs g k n (l.put x ⟨v, false⟩) b).2.1, (exs g k n (l.put x ⟨v, false⟩) b).2.2 ∧ isAtom v = true)) l (evI g k n l.clean e).1).1,
       (loopV (fun l v => ((exs g k n (l.put x ⟨v, false⟩) b).1, (exs g k n (l.put x ⟨v, false⟩) b).2.1, (exs g k n (l.put x ⟨v, false⟩) b).2.2 ∧ isAtom v = true)) l (evI g k n l.clean e).1).2.1,
       (evI g k n l.clean e).2 ∧ (loopV (fun l v => ((exs g k n (l.put x ⟨v, false⟩) b).1, (exs g k n (l.put x ⟨v, false⟩) b).2.1, (exs g k n (l.put x ⟨v, false⟩) b).2.2 ∧ isAtom v = true)) l (evI g k n l.clean e).1).2.2 ∧ storable k x = true) := rfl
theorem exs_cons : exs g k (n + 1) l (s :: b) = thenW (ex g k n l s) fun l' => exs g k n l' b := rfl
theorem loopV_cons {f : Ls → V → Fl × Ls × Prop} {v : V} {r : List V} : loopV f l (v :: r) = thenW (f l v) fun l' => loopV f l' r := rfl
theorem whileV_succ {w : Ls → W Bool} {f : Ls → Fl × Ls × Prop} : whileV w f (n + 1) l = if (w l).1 then ((thenW (f l) fun l' => whileV w f n l').1, (thenW (f l) fun l' => whileV w f n l').2.1, (w l).2 ∧ (thenW (f l) fun l' => whileV w f n l').2.2) else (.next, l, (w l).2) := rfl
end
end Mine
namespace Mine
open PySem PySem.W PyProof.Rows PySem.Calls

theorem filterMap_range {α : Type} (xs : List α) : ∀ (k a : Nat), ((List.range k).map fun j => a + j).filterMap (fun i => xs[i]?) = (xs.drop a).take k
  | 0, a => by simp
  | k + 1, a => by
    rw [List.range_succ, List.map_append, List.filterMap_append, filterMap_range xs k a]
    by_cases h : a + k < xs.length
    · rw [List.take_succ]; simp [h]
    · have e : xs[a + k]? = none := List.getElem?_eq_none (by omega)
      rw [List.take_succ]; simp [e]
theorem sliceRange_one (a b : Nat) : sliceRange a b 1 = (List.range (b - a)).map fun j => a + j := by
  unfold sliceRange
  simp only [show (1 : Int) > 0 from by decide, if_true]
  by_cases h : (a : Int) < b
  · rw [if_pos h]
    have : ((b : Int) - a + 1 - 1) / 1 = ((b - a : Nat) : Int) := by rw [Int.ediv_one]; lia
    rw [this]
    simp only [Int.toNat_natCast]
    apply List.map_congr_left
    intro k _
    lia
  · rw [if_neg h]
    have : b - a = 0 := by lia
    rw [this]; rfl
/-- what a part of a slice is -/
noncomputable def partV : V → Option (Option Int)
  | .none => some none
  | .int i => some (some i)
  | _ => none
theorem cast_min (a b : Nat) : ((min a b : Nat) : Int) = min (a : Int) b := by
  rcases Nat.le_total a b with h | h
  · rw [Nat.min_eq_left h, Int.min_eq_left (Int.ofNat_le.mpr h)]
  · rw [Nat.min_eq_right h, Int.min_eq_right (Int.ofNat_le.mpr h)]
theorem clip_is {n : Nat} {i : Int} : max (0 : Int) (min (if i < 0 then i + (n : Int) else i) n) = ((if i < 0 then (i + n).toNat else min i.toNat n : Nat) : Int) := by
  by_cases hi : i < 0
  · have h : i + (n : Int) ≤ n := by
      have := Int.add_le_add_right (Int.le_of_lt hi) (n : Int)
      rwa [Int.zero_add] at this
    rw [if_pos hi, if_pos hi, Int.ofNat_toNat, Int.max_comm, Int.min_eq_left h]
  · rw [if_neg hi, if_neg hi]
    obtain ⟨k, rfl⟩ := Int.eq_ofNat_of_zero_le (Int.not_lt.mp hi)
    rw [Int.toNat_natCast, cast_min, ← cast_min, Int.max_eq_right (Int.natCast_nonneg _)]
theorem clip_lo {n : Nat} {v : V} {o : Option Int} (h : partV v = some o) : (match o with | none => (0 : Int) | some i => max 0 (min (if i < 0 then i + (n : Int) else i) n)) = ((clip n 0 v).1 : Int) ∧ (clip n 0 v).2 := by
  cases v <;> simp only [partV] at h <;> first | cases h | (obtain rfl := Option.some.inj h; clear h)
  · exact ⟨rfl, trivial⟩
  · rename_i i
    exact ⟨clip_is, trivial⟩
theorem clip_hi {n : Nat} {v : V} {o : Option Int} (h : partV v = some o) : (match o with | none => (n : Int) | some i => max 0 (min (if i < 0 then i + (n : Int) else i) n)) = ((clip n n v).1 : Int) ∧ (clip n n v).2 := by
  cases v <;> simp only [partV] at h <;> first | cases h | (obtain rfl := Option.some.inj h; clear h)
  · exact ⟨rfl, trivial⟩
  · rename_i i
    exact ⟨clip_is, trivial⟩
theorem clip_part {n d : Nat} {v : V} (h : (clip n d v).2) : ∃ o, partV v = some o := by
  cases v <;> first | exact ⟨_, rfl⟩ | exact h.elim
theorem indices_one {n : Nat} {lo hi : V} {l h : Option Int} (el : partV lo = some l) (eh : partV hi = some h) :
    Builtin.Str.strSliceIndices l h 1 n = (List.range ((clip n n hi).1 - (clip n 0 lo).1)).map fun j => (clip n 0 lo).1 + j := by
  rw [← sliceRange_one, ← (clip_lo (n := n) el).1, ← (clip_hi (n := n) eh).1]
  unfold Builtin.Str.strSliceIndices
  cases l <;> cases h <;> rfl
theorem bounds_one {n : Nat} {lo hi : V} {l h : Option Int} (el : partV lo = some l) (eh : partV hi = some h) :
    sliceRange (sliceBounds l h none n).1 (sliceBounds l h none n).2.1 (sliceBounds l h none n).2.2 = (List.range ((clip n n hi).1 - (clip n 0 lo).1)).map fun j => (clip n 0 lo).1 + j := by
  rw [← sliceRange_one, ← (clip_lo (n := n) el).1, ← (clip_hi (n := n) eh).1]
  unfold sliceBounds
  cases l <;> cases h <;> rfl
theorem drop_take' {α : Type} (xs : List α) (a b : Nat) : (xs.drop a).take (b - a) = (xs.take b).drop a := by
  rw [List.drop_take]
end Mine
namespace Mine
open PySem PySem.W PyProof.Rows PySem.Calls
/-! dicts of texts and ints -/
noncomputable def kvD (kv : List (List Nat × Int)) : List (PyData × PyData) := kv.map fun p => (.str ⟨p.1.toArray⟩, .int p.2)
theorem lookup_kvD (x : List Nat) : ∀ kv : List (List Nat × Int), Spec.lookup (.str ⟨x.toArray⟩) (kvD kv) = (kv.lookup x).map PyData.int
  | [] => rfl
  | (y, i) :: r => by
    show (if Spec.same (.str ⟨y.toArray⟩) (.str ⟨x.toArray⟩) then some (PyData.int i) else Spec.lookup _ (kvD r)) = _
    rw [PyProof.V.same_str, lookup_kvD x r, List.lookup_cons]
    by_cases h : x = y
    · subst h; simp
    · have h2 : (x == y) = false := by simpa using h
      have h3 : ¬ (⟨y.toArray⟩ : Str) = ⟨x.toArray⟩ := by
        intro e; apply h; have := congrArg (fun z : Str => z.cps.toList) e; simpa using this.symm
      rw [h2, decide_eq_false h3]; rfl
section
variable {prog : Program} {w : World} {h : Heap} {a : Addr}
/-- the kit's form of the entries -/
noncomputable def KvRel : List (Str × Value) → List (List Nat × Int) → Prop
  | [], [] => True
  | p :: r, q :: s => p.1 = ⟨q.1.toArray⟩ ∧ (∃ t, p.2 = .int q.2 t) ∧ KvRel r s
  | _, _ => False
theorem KvRel.keys : ∀ {kvs : List (Str × Value)} {kv : List (List Nat × Int)}, KvRel kvs kv → kvs.map (·.1) = kv.map fun p => (⟨p.1.toArray⟩ : Str)
  | [], [], _ => rfl
  | p :: r, q :: s, h => by rw [List.map_cons, List.map_cons, h.1, KvRel.keys h.2.2]
  | [], _ :: _, h => h.elim
  | _ :: _, [], h => h.elim
theorem KvRel.flat : ∀ {kvs : List (Str × Value)} {kv : List (List Nat × Int)}, KvRel kvs kv → PyProof.V.FlatPairs PyData.str kvs (kvD kv)
  | [], [], _ => .nil
  | (k, v) :: r, q :: s, h => by
    obtain ⟨h1, ⟨t, h2⟩, h3⟩ := h
    simp only at h1 h2
    subst h1 h2
    exact .cons (PyProof.V.Flat.int _ _) (KvRel.flat h3)
  | [], _ :: _, h => h.elim
  | _ :: _, [], h => h.elim
theorem ents_pairs : ∀ {es : List DictEntry} {kv : List (List Nat × Int)}, IntEnts w.params es kv →
    ∃ kvs, Pairs (PySem.strKind prog w) es kvs ∧ (∀ e ∈ es, ∃ k, (PySem.strKind prog w).is k e.key = true ∧ e.hash = (PySem.strKind prog w).hash k) ∧ KvRel kvs kv
  | [], [], _ => ⟨[], .nil, (fun _ h => nomatch h), trivial⟩
  | e :: es, p :: ps, h => by
    obtain ⟨⟨t, t', rfl⟩, h2⟩ := h
    obtain ⟨kvs, q1, q2, q3⟩ := ents_pairs h2
    refine ⟨(⟨p.1.toArray⟩, .int p.2 t') :: kvs, .cons (strKind_is prog w _ t) rfl q1, fun e he => ?_, rfl, ⟨t', rfl⟩, q3⟩
    rcases List.mem_cons.mp he with rfl | he
    · exact ⟨⟨p.1.toArray⟩, strKind_is prog w _ t, rfl⟩
    · exact q2 e he
  | [], _ :: _, h => h.elim
  | _ :: _, [], h => h.elim
theorem arr_inj : ∀ {l : List (List Nat)}, l.Nodup → (l.map fun p => (⟨p.toArray⟩ : Str)).Nodup
  | [], _ => List.nodup_nil
  | x :: r, h => by
    rw [List.nodup_cons] at h
    rw [List.map_cons, List.nodup_cons]
    refine ⟨fun q => h.1 ?_, arr_inj h.2⟩
    obtain ⟨y, hy, e⟩ := List.mem_map.mp q
    have := congrArg (fun z : Str => z.cps.toList) e
    simp only at this
    rw [← this]; exact hy
theorem arr_inj' : ∀ {l : List (List Nat)}, (l.map fun p => (⟨p.toArray⟩ : Str)).Nodup → l.Nodup
  | [], _ => List.nodup_nil
  | x :: r, h => by
    rw [List.map_cons, List.nodup_cons] at h
    rw [List.nodup_cons]
    exact ⟨fun q => h.1 (List.mem_map.mpr ⟨x, q, rfl⟩), arr_inj' h.2⟩
theorem map_keys (kv : List (List Nat × Int)) : (kv.map fun p => (⟨p.1.toArray⟩ : Str)) = (kv.map (·.1)).map fun p => (⟨p.toArray⟩ : Str) := by
  rw [List.map_map]; rfl
theorem IsIntDict.dictOf {kv : List (List Nat × Int)} (x : IsIntDict w.params h a kv) : ∃ kvs, h.DictOf (PySem.strKind prog w) a kvs ∧ KvRel kvs kv := by
  obtain ⟨es, n, g, i, lo, nd⟩ := x
  obtain ⟨kvs, q1, q2, q3⟩ := ents_pairs (prog := prog) i
  refine ⟨kvs, ⟨_, es, n, g, ⟨rfl, rfl, rfl⟩, rfl, fun e he => q2 e (Array.mem_toList_iff.mpr he), q1, ?_⟩, q3⟩
  rw [q3.keys, map_keys]; exact arr_inj nd
theorem IsIntDict.tab {kv : List (List Nat × Int)} (x : IsIntDict w.params h a kv) : StrTab prog w h a (kvD kv) := by
  obtain ⟨kvs, d, r⟩ := x.dictOf (prog := prog)
  exact ⟨x.choose_spec.choose_spec.2.2.1, kvs, d, r.flat⟩
theorem pairs_ents : ∀ {es : List DictEntry} {kvs : List (Str × Value)} {kv : List (List Nat × Int)}, Pairs (PySem.strKind prog w) es kvs → KvRel kvs kv →
    (∀ e ∈ es, ∃ k, (PySem.strKind prog w).is k e.key = true ∧ e.hash = (PySem.strKind prog w).hash k) → IntEnts w.params es kv
  | _, _, [], .nil, _, _ => trivial
  | _, _, _ :: _, .nil, h, _ => h.elim
  | _, _, [], .cons _ _ _, h, _ => h.elim
  | _, _, q :: s, .cons (e := e) (kv := p) h1 h2 h3, h, hk => by
    obtain ⟨r1, ⟨t', r2⟩, r3⟩ := h
    refine ⟨?_, pairs_ents h3 r3 fun e he => hk e (.tail _ he)⟩
    obtain ⟨k, k1, k2⟩ := hk e (.head _)
    have ek := (PySem.strKind prog w).inj _ _ _ k1 h1
    subst ek
    obtain ⟨t, ht⟩ := Value.isStrOf_shape h1
    refine ⟨t, t', ?_⟩
    obtain ⟨hh, key, val⟩ := e
    simp only at ht h2 k2
    rw [ht, h2, k2, r1, r2]; rfl
theorem IsIntDict.of {kvs : List (Str × Value)} {kv : List (List Nat × Int)} (x : h.DictOf (PySem.strKind prog w) a kvs) (lo : (a == sysModules) = false) (r : KvRel kvs kv) : IsIntDict w.params h a kv := by
  obtain ⟨o, es, ep, g, ⟨c1, c2, c3⟩, hd, hk, hp, hn⟩ := x
  obtain ⟨cls, dict, data, slots⟩ := o
  simp only at c1 c2 c3 hd
  subst c1 c2 c3 hd
  refine ⟨es, ep, g, pairs_ents hp r fun e he => hk e (Array.mem_toList_iff.mp he), lo, ?_⟩
  rw [r.keys, map_keys] at hn; exact arr_inj' hn
end
section
variable {prog : Program} {w : World} {A : Around} {s : Shared} {mu : List Addr} {kv : List (List Nat × Int)} {x : List Nat} {wa wb : Value}
theorem in_dict (ra : Rep w.params mu s.heap (.str x) wa) (rb : Rep w.params mu s.heap (.dict kv) wb) : Tr prog w A (compareOp .In wa wb) s (fun v _ => v = .bool (kv.lookup x).isSome) := by
  unfold Rep at ra rb; obtain ⟨t, rfl⟩ := ra; obtain ⟨a, rfl, _, d⟩ := rb
  refine Tr.of fun R k => in_strTab d.tab ?_
  rw [lookup_kvD, Option.isSome_map]
  exact k _ s.heap _ same_heap rfl
theorem item_dict (hx : (kv.lookup x).isSome = true) (ra : Rep w.params mu s.heap (.dict kv) wa) (rb : Rep w.params mu s.heap (.str x) wb) :
    s.TypeIs wa "dict" ∧ Tr prog w A (getItem wa wb) s (fun v h => Rep w.params mu h (.int ((kv.lookup x).getD 0)) v) := by
  unfold Rep at ra rb; obtain ⟨t, rfl⟩ := rb; obtain ⟨a, rfl, _, d⟩ := ra
  obtain ⟨lo, kvs, hd, hf⟩ := d.tab (prog := prog)
  refine ⟨hd.typeIs, Tr.of fun R k => ?_⟩
  obtain ⟨i, hi⟩ := Option.isSome_iff_exists.mp hx
  obtain ⟨v, hv, hfl⟩ := hf.of_lookup (k := ⟨x.toArray⟩) PyProof.V.same_str (by rw [lookup_kvD, hi]; rfl)
  refine wpAny_getItem_of (strKind_is prog w _ t) hd.mapOf hv (k v s.heap _ same_heap ?_)
  rw [hi]
  unfold Rep; exact hfl.int_inv
theorem get_dict {dflt : Int} {wd : Value} (ra : Rep w.params mu s.heap (.dict kv) wa) (rb : Rep w.params mu s.heap (.str x) wb) (rd : Rep w.params mu s.heap (.int dflt) wd) :
    Tr prog w A (call (.builtin "dict.get") [wa, wb, wd]) s (fun v h => Rep w.params mu h (.int ((kv.lookup x).getD dflt)) v) := by
  unfold Rep at ra rb rd; obtain ⟨t, rfl⟩ := rb; obtain ⟨u, rfl⟩ := rd; obtain ⟨a, rfl, _, d⟩ := ra
  refine Tr.of fun R k => call_get2_strTab d.tab (PyProof.V.Flat.int _ _) fun v hv => k v s.heap _ same_heap ?_
  rw [lookup_kvD] at hv
  cases hl : kv.lookup x with
  | none => rw [hl] at hv; unfold Rep; exact PyProof.V.Flat.int_inv hv
  | some i => rw [hl] at hv; unfold Rep; exact PyProof.V.Flat.int_inv hv
end
/-! a dict of our own -/
theorem str_beq {x y : List Nat} : decide ((⟨x.toArray⟩ : Str) = ⟨y.toArray⟩) = (x == y) := by
  rw [beq_dec, decide_eq_decide]
  exact ⟨fun e => by have := congrArg (fun z : Str => z.cps.toList) e; simpa using this, fun e => by rw [e]⟩
theorem KvRel.any {x : List Nat} : ∀ {kvs : List (Str × Value)} {kv : List (List Nat × Int)}, KvRel kvs kv → (kvs.any fun p => decide (p.1 = (⟨x.toArray⟩ : Str))) = kv.any fun p => p.1 == x
  | [], [], _ => rfl
  | p :: r, q :: s, h => by
    rw [List.any_cons, List.any_cons, KvRel.any h.2.2, h.1, str_beq]
  | [], _ :: _, h => h.elim
  | _ :: _, [], h => h.elim
theorem KvRel.app : ∀ {kvs : List (Str × Value)} {kv : List (List Nat × Int)} {p : Str × Value} {q : List Nat × Int}, KvRel kvs kv → p.1 = ⟨q.1.toArray⟩ → (∃ t, p.2 = .int q.2 t) → KvRel (kvs ++ [p]) (kv ++ [q])
  | [], [], _, _, _, h1, h2 => ⟨h1, h2, trivial⟩
  | p :: r, q :: s, _, _, h, h1, h2 => ⟨h.1, h.2.1, KvRel.app h.2.2 h1 h2⟩
  | [], _ :: _, _, _, h, _, _ => h.elim
  | _ :: _, [], _, _, h, _, _ => h.elim
theorem KvRel.mapPut {x : List Nat} {i : Int} {t : Tok} : ∀ {kvs : List (Str × Value)} {kv : List (List Nat × Int)}, KvRel kvs kv → KvRel (kvs.map fun p => if p.1 = (⟨x.toArray⟩ : Str) then (p.1, .int i t) else p) (kv.map fun p => if p.1 == x then (p.1, i) else p)
  | [], [], _ => trivial
  | p :: r, q :: s, h => by
    rw [List.map_cons, List.map_cons]
    have e : (p.1 = (⟨x.toArray⟩ : Str)) ↔ (q.1 == x) = true := by
      rw [h.1, ← str_beq, decide_eq_true_eq]
    by_cases hc : p.1 = (⟨x.toArray⟩ : Str)
    · rw [if_pos hc, if_pos (e.mp hc)]
      exact ⟨h.1, ⟨t, rfl⟩, KvRel.mapPut h.2.2⟩
    · rw [if_neg hc, if_neg (fun q => hc (e.mpr q))]
      exact ⟨h.1, h.2.1, KvRel.mapPut h.2.2⟩
  | [], _ :: _, h => h.elim
  | _ :: _, [], h => h.elim
theorem KvRel.put {x : List Nat} {i : Int} {t : Tok} {kvs : List (Str × Value)} {kv : List (List Nat × Int)} (h : KvRel kvs kv) : KvRel (stored kvs ⟨x.toArray⟩ (.int i t)) (putD kv x i) := by
  unfold stored putD
  rw [h.any]
  split
  · exact h.mapPut
  · exact h.app rfl ⟨t, rfl⟩
theorem KvRel.length : ∀ {kvs : List (Str × Value)} {kv : List (List Nat × Int)}, KvRel kvs kv → kvs.length = kv.length
  | [], [], _ => rfl
  | p :: r, q :: s, h => by rw [List.length_cons, List.length_cons, KvRel.length h.2.2]
  | [], _ :: _, h => h.elim
  | _ :: _, [], h => h.elim
theorem IsIntDict.low {P : Params} {h : Heap} {a : Addr} {kv : List (List Nat × Int)} (x : IsIntDict P h a kv) : (a == sysModules) = false := by
  obtain ⟨_, _, _, _, q, _⟩ := x; exact q
theorem set_own {prog : Program} {w : World} {A : Around} {s : Shared} {E : Value → Shared → Prop} {Q : Unit → Shared → Prop} {a : Addr} {kv : List (List Nat × Int)} {x : List Nat} {i : Int} {t u : Tok} (d : IsIntDict w.params s.heap a kv) (hl : kv.length ≤ lenLid)
    (k : ∀ h' tk, IsIntDict w.params h' a (putD kv x i) → Heap.SameBut a s.heap h' → Q () { s with heap := h', toks := tk }) : wpAny (model prog w) A (setItem (.ref a) (.str ⟨x.toArray⟩ t) (.int i u)) Q E s := by
  obtain ⟨kvs, hd, hr⟩ := d.dictOf (prog := prog)
  refine wpAny_setItem_pairs (strKind_is prog w _ t) hd (fun h' hd' hs => k h' _ (IsIntDict.of hd' d.low hr.put) hs) ?_
  rw [hr.length]; unfold lenLid at hl
  exact Nat.le_trans hl (by decide)
theorem fresh_none' {h : Heap} {a : Addr} (e : h.objs.size ≤ a) : h.get? a = none := by
  cases q : h.get? a with
  | none => rfl
  | some o => exact absurd (Heap.lt_size q) (Nat.not_lt.mpr e)
theorem dict_none {prog : Program} {w : World} {A : Around} {env : Env} {pos : Pos} {s : Shared} (hbig : sysModules < s.heap.objs.size) : Tr prog w A (eval (.Dict [] [] pos) env) s (fun v h => ∃ a, v = .ref a ∧ s.heap.get? a = none ∧ IsIntDict w.params h a []) := by
  refine Tr.of fun R k => wpAny_Dict_empty ?_
  exact k _ _ _ keepAll_push ⟨_, rfl, fresh_none' (Nat.le_refl _), IsIntDict.of (prog := prog) (Heap.DictOf.new s.heap) (beq_eq_false_iff_ne.mpr (Nat.ne_of_gt hbig)) trivial⟩
/-! a display of 17 constants -/
section
variable {prog : Program} {w : World} {A : Around}
noncomputable def GivesKv (prog : Program) (w : World) (A : Around) : List (Sem Value × Sem Value) → List (List Nat × Int) → Prop
  | [], [] => True
  | p :: r, q :: s => (∀ (s : Shared) (Q : Value → Shared → Prop) (E : Value → Shared → Prop), (∀ t tk, Q (.str ⟨q.1.toArray⟩ t) { s with toks := tk }) → wpAny (model prog w) A p.1 Q E s) ∧
      (∀ (s : Shared) (Q : Value → Shared → Prop) (E : Value → Shared → Prop), (∀ t tk, Q (.int q.2 t) { s with toks := tk }) → wpAny (model prog w) A p.2 Q E s) ∧ GivesKv prog w A r s
  | _, _ => False
theorem GivesKv.length : ∀ {ps : List (Sem Value × Sem Value)} {kv : List (List Nat × Int)}, GivesKv prog w A ps kv → ps.length = kv.length
  | [], [], _ => rfl
  | _ :: r, _ :: s, h => by rw [List.length_cons, List.length_cons, GivesKv.length h.2.2]
  | [], _ :: _, h => h.elim
  | _ :: _, [], h => h.elim
theorem pairs_shape {env : Env} {pos : Pos} : ∀ {ks : List (Option Expr)} {vs : List Expr} {kv : List (List Nat × Int)}, constPairs ks vs = some kv →
    ∃ ps : List (Sem Value × Sem Value), (evalEachOpt ks env).zip ((evalEach vs env).map fun v => do let x ← v; standAt pos; pure x) = ps.map (fun p => (some p.1, p.2)) ∧ GivesKv prog w A ps kv
  | [], [], kv, h => by cases h; exact ⟨[], rfl, trivial⟩
  | k :: ks, v :: vs, kv, h => by
    have h : (keyC k).bind (fun x => (valC v).bind fun i => (constPairs ks vs).map fun r => (x, i) :: r) = some kv := h
    obtain ⟨x, hx, h⟩ := Option.bind_eq_some_iff.mp h
    obtain ⟨i, hi, h⟩ := Option.bind_eq_some_iff.mp h
    obtain ⟨kv', h', rfl⟩ := Option.map_eq_some_iff.mp h
    obtain ⟨x, a, pa, rfl, rfl⟩ := keyC_form hx
    obtain ⟨b, pb, rfl⟩ := valC_form hi
    obtain ⟨ps, e, g⟩ := pairs_shape (env := env) (pos := pos) h'
    refine ⟨(eval (.Constant (.str x) a pa) env, (do let x ← eval (.Constant (.int i) b pb) env; standAt pos; pure x)) :: ps, ?_, ?_, ?_, g⟩
    · show (some (eval (.Constant (.str x) a pa) env), _) :: List.zip (evalEachOpt ks env) _ = _
      rw [e]; rfl
    · intro s Q E k
      exact Calls.Constant_str (env := env) (k := a) (pos := pa) (k s.toks (s.toks + 1))
    · intro s Q E k
      refine wpAny_bind ?_
      show wpAny _ A (eval (.Constant (.int i) b pb) env) _ E s
      exact fun Γ p hΓ => (wpAny_bind (wpAny_standAt (wpAny_pure (k s.toks (s.toks + 1)))) : wpAny (model prog w) A (do standAt pos; pure (Value.int i s.toks)) Q E { s with toks := s.toks + 1 })
  | [], _ :: _, kv, h => by cases h
  | _ :: _, [], kv, h => by cases h
theorem forIn_gather17 (f : (Option (Sem Value) × Sem Value) → (Option Addr × List (Sem Value × Sem Value)) → Sem (ForInStep (Option Addr × List (Sem Value × Sem Value)))) (F : List (Sem Value × Sem Value) → Sem (Option Addr))
    (hf : ∀ (p : Sem Value × Sem Value) (run : List (Sem Value × Sem Value)), run.length + 1 < 17 → f (some p.1, p.2) (none, run) = pure (.yield (none, run ++ [p])))
    (hl : ∀ (p : Sem Value × Sem Value) (run : List (Sem Value × Sem Value)), run.length + 1 = 17 → f (some p.1, p.2) (none, run) = (F (run ++ [p]) >>= fun m => pure (.yield (m, [])))) :
    ∀ (items run : List (Sem Value × Sem Value)), items ≠ [] → run.length + items.length = 17 → forIn (items.map fun p => (some p.1, p.2)) ((none : Option Addr), run) f = (F (run ++ items) >>= fun m => pure (m, []))
  | [], run, h, _ => absurd rfl h
  | [p], run, _, h => by
    rw [List.map_cons, List.forIn_cons, hl p run (by simpa using h)]
    simp
  | p :: q :: rest, run, _, h => by
    rw [List.map_cons, List.forIn_cons, hf p run (by simp at h; lia), pure_bind]
    have := forIn_gather17 f F hf hl (q :: rest) (run ++ [p]) (by simp) (by simp at h ⊢; lia)
    simpa using this
theorem dictDisplay17 (pairs : List (Sem Value × Sem Value)) (hlen : pairs.length = 17) :
    dictDisplay (pairs.map fun p => (some p.1, p.2)) = (do let d ← subDict pairs; pure (.ref d)) := by
  have h0 : pairs ≠ [] := by intro e; rw [e] at hlen; cases hlen
  unfold dictDisplay
  dsimp only
  rw [forIn_gather17 _ (fun run => do let d ← subDict run; pure (some d)) (fun p run h => by
    have hne : ((run ++ [(p.1, p.2)]).length == 17) = false := by simp; lia
    simp only [hne, Bool.false_eq_true, if_false]) (fun p run h => by
    have hne : ((run ++ [(p.1, p.2)]).length == 17) = true := by simp; lia
    have hn2 : (run ++ [(p.1, p.2)]).isEmpty = false := by simp
    simp only [hne, hn2, Bool.false_eq_true, if_false, if_true]) pairs [] h0 (by simpa using hlen)]
  simp
theorem stored_new {acc : List (Str × Value)} {k : Str} {v : Value} (h : k ∉ acc.map (·.1)) : stored acc k v = acc ++ [(k, v)] := by
  unfold stored
  rw [if_neg]
  rw [List.any_eq_true]
  rintro ⟨kv, hkv, he⟩
  exact h (List.mem_map.mpr ⟨kv, hkv, of_decide_eq_true he⟩)
theorem long_loop {d : Addr} {E : Value → Shared → Prop} (f : (Sem Value × Sem Value) → PUnit → Sem (ForInStep PUnit)) (hf : ∀ p, f p PUnit.unit = (do let kv ← p.1; let vv ← holding [kv] p.2; holding [kv, vv] (dictSet d kv vv); pure (ForInStep.yield PUnit.unit))) :
    ∀ (ps : List (Sem Value × Sem Value)) (kv : List (List Nat × Int)) (acc : List (Str × Value)) (s : Shared) (Q : PUnit → Shared → Prop), GivesKv prog w A ps kv → s.heap.DictOf (PySem.strKind prog w) d acc → (∀ q ∈ kv, (⟨q.1.toArray⟩ : Str) ∉ acc.map (·.1)) →
      (kv.map (·.1)).Nodup → acc.length + kv.length ≤ 100 → (∀ vals h' tk, KvRel vals kv → h'.DictOf (PySem.strKind prog w) d (acc ++ vals) → Heap.SameBut d s.heap h' → Q PUnit.unit { s with heap := h', toks := tk }) → wpAny (model prog w) A (forIn ps PUnit.unit f) Q E s
  | [], [], acc, s, Q, _, hm, _, _, _, hQ => by
    rw [List.forIn_nil]
    exact wpAny_pure (hQ [] s.heap s.toks trivial (by simpa using hm) (Heap.SameBut.refl _ _))
  | p :: ps, q :: kv, acc, s, Q, hg, hm, hn, hd, hl, hQ => by
    obtain ⟨g1, g2, g3⟩ := hg
    rw [List.map_cons, List.nodup_cons] at hd
    rw [List.length_cons] at hl
    rw [List.forIn_cons, hf]
    refine wpAny_bind (wpAny_bind (g1 _ _ _ fun t tk => ?_))
    refine wpAny_bind (wpAny_holding (g2 _ _ _ fun t2 tk2 => ?_))
    have hz : acc.length ≤ sizeLine := by have : sizeLine = 16777216 := rfl; lia
    refine wpAny_bind (wpAny_holding (wpAny_dictSet_pairs (s := { s with toks := tk2 }) (hsz := hz) (strKind_is prog w _ t) hm fun h1 hm1 hs1 => wpAny_pure ?_))
    rw [stored_new (hn q (.head _))] at hm1
    refine long_loop f hf ps kv _ _ Q g3 hm1 (fun r hr hin => ?_) hd.2 (by simp; lia) fun vals h2 tk3 r hm2 hs2 => ?_
    · rw [List.map_append, List.mem_append] at hin
      rcases hin with hin | hin
      · exact hn r (.tail _ hr) hin
      · have e := List.mem_singleton.mp hin
        apply hd.1
        have e := congrArg (fun z : Str => z.cps.toList) e
        simp only at e
        rw [← e]; exact List.mem_map.mpr ⟨r, hr, rfl⟩
    · exact hQ ((⟨q.1.toArray⟩, .int q.2 t2) :: vals) h2 tk3 ⟨rfl, ⟨t2, rfl⟩, r⟩ (by simpa using hm2) (hs1.trans hs2)
  | [], _ :: _, _, _, _, hg, _, _, _, _, _ => hg.elim
  | _ :: _, [], _, _, _, hg, _, _, _, _, _ => hg.elim
theorem dict_display {env : Env} {ks : List (Option Expr)} {vs : List Expr} {pos : Pos} {kv : List (List Nat × Int)} {s : Shared} {mu : List Addr} (hc : constPairs ks vs = some kv) (hl : kv.length = 17) (hn : (kv.map (·.1)).Nodup) (hbig : sysModules < s.heap.objs.size) (live : Live mu s.heap) :
    Tr prog w A (eval (.Dict ks vs pos) env) s (fun v h => Rep w.params mu h (.dict kv) v) := by
  obtain ⟨ps, e, g⟩ := pairs_shape (prog := prog) (w := w) (A := A) (env := env) (pos := pos) hc
  have hps : ps.length = 17 := by rw [g.length, hl]
  refine Tr.of fun R k => ?_
  rw [arm_eval_Dict, e, dictDisplay17 ps hps]
  refine wpAny_bind (wpAny_standAt (wpAny_bind ?_))
  unfold subDict
  refine wpAny_bind (wpAny_alloc ?_)
  refine wpAny_bind (wpAny_holding ?_)
  rw [if_neg (by rw [hps]; decide)]
  refine wpAny_bind (wpAny_rule ?_)
  refine wpAny_bind (long_loop _ ?hf ps kv [] { s with heap := s.heap.push { cls := .type "dict", data := .dict #[] } } _ g (Heap.DictOf.new s.heap) (fun _ _ h => by cases h) hn (by rw [hl]; decide) fun vals h' tk r hm hs => ?_)
  case hf => intro p; rfl
  refine wpAny_pure (wpAny_pure (wpAny_pure ?_))
  refine k _ h' tk (fun b o e => ?_) ?_
  · exact (hs.2 b (Nat.ne_of_lt (Heap.lt_size e))).trans (Heap.get?_push_of_some _ e)
  · unfold Rep
    exact ⟨_, rfl, live.fresh, IsIntDict.of (by simpa using hm) (beq_eq_false_iff_ne.mpr (Nat.ne_of_gt hbig)) r⟩
end
end Mine
namespace Mine
open PySem PySem.W PyProof.Rows PySem.Calls
section
variable {prog : Program} {w : World} {A : Around} {s : Shared} {mu : List Addr}

noncomputable def BinG (prog : Program) (w : World) (A : Around) (s : Shared) (mu : List Addr) (op : Operator) (a b : V) (r : W V) : Prop :=
  ∀ {wa wb : Value}, r.2 → Rep w.params mu s.heap a wa → Rep w.params mu s.heap b wb → Tr prog w A (binaryOp op wa wb) s (fun v h => Rep w.params mu h r.1 v)
theorem BinG.no {op : Operator} {a b : V} : BinG prog w A s mu op a b no := fun h => h.elim
theorem binG (op : Operator) (a b : V) : BinG prog w A s mu op a b (binV op a b) := by
  cases op
  case Add =>
    cases a
    case int x => cases b; case int y => exact fun _ ra rb => add_i ra rb
                  all_goals exact BinG.no
    case str x => cases b; case str y => exact fun h ra rb => add_s h ra rb
                  all_goals exact BinG.no
    case bytes x => cases b; case bytes y => exact fun h ra rb => add_b h ra rb
                    all_goals exact BinG.no
    all_goals exact BinG.no
  case Mult =>
    cases a
    case int x => cases b; case int y => exact fun h ra rb => mul_i h ra rb
                  all_goals exact BinG.no
    case str x => cases b; case int y => exact fun h ra rb => mul_s h ra rb
                  all_goals exact BinG.no
    all_goals exact BinG.no
  case Sub =>
    cases a
    case int x => cases b; case int y => exact fun h ra rb => sub_i ra rb
                  all_goals exact BinG.no
    all_goals exact BinG.no
  case FloorDiv =>
    cases a
    case int x => cases b; case int y => exact fun h ra rb => div_i h ra rb
                  all_goals exact BinG.no
    all_goals exact BinG.no
  case Mod =>
    cases a
    case int x => cases b; case int y => exact fun h ra rb => mod_i h ra rb
                  all_goals exact BinG.no
    all_goals exact BinG.no
  case Pow =>
    cases a
    case int x => cases b; case int y => exact fun h ra rb => pow_i h ra rb
                  all_goals exact BinG.no
    all_goals exact BinG.no
  all_goals exact BinG.no
theorem binV_ok {op : Operator} {a b : V} {wa wb : Value} (h : (binV op a b).2) (ra : Rep w.params mu s.heap a wa) (rb : Rep w.params mu s.heap b wb) (l : Live mu s.heap) :
    Tr prog w A (binaryOp op wa wb) s (fun v h => Rep w.params mu h (binV op a b).1 v) := binG op a b h ra rb
theorem truV_ok {a : V} {wa : Value} (h : (truV a).2) (ra : Rep w.params mu s.heap a wa) : Tr prog w A (truthy wa) s (fun v _ => v = (truV a).1) := by
  cases a
  case none => exact tr_n ra
  case bool => exact tr_b ra
  case int => exact tr_i ra
  case str => exact tr_s h ra
  all_goals exact h.elim
theorem ints_areV {P : Params} {h : Heap} : ∀ {xs : List V} {ws : List Value}, (intsV xs).2 → Reps P mu h xs ws → IntsAre ws (intsV xs).1
  | [], ws, e, r => by
    unfold Reps at r; subst r; exact .nil
  | x :: xs, ws, e, r => by
    unfold Reps at r
    obtain ⟨w', ws', rfl, r1, rs⟩ := r
    cases x
    case int i =>
      unfold Rep at r1
      obtain ⟨t, rfl⟩ := r1
      exact .cons _ _ (ints_areV (xs := xs) e rs)
    all_goals exact e.elim
/-- the reads of the sets of ints -/
noncomputable def MemOk (prog : Program) (w : World) (hb : Heap) (g : Cfg) : Prop :=
  ∀ (A : Around) (s : Shared) (wv : Value) (i : Int) (t : Tok), KeepAll hb s.heap → (g.mem wv i).2 → Tr prog w A (compareOp .In (.int i t) wv) s (fun v _ => v = .bool (g.mem wv i).1)
noncomputable def CmpG (prog : Program) (w : World) (A : Around) (s : Shared) (mu : List Addr) (op : CmpOp) (a b : V) (r : W Bool) : Prop :=
  ∀ {wa wb : Value}, r.2 → Rep w.params mu s.heap a wa → Rep w.params mu s.heap b wb → Tr prog w A (compareOp op wa wb) s (fun v _ => v = .bool r.1)
theorem CmpG.no {op : CmpOp} {a b : V} : CmpG prog w A s mu op a b (false, False) := fun h => h.elim
theorem cmpG {hb : Heap} {g : Cfg} (G : MemOk prog w hb g) (kb : KeepAll hb s.heap) (op : CmpOp) (a b : V) : CmpG prog w A s mu op a b (cmpV g op a b) := by
  cases op
  case Eq =>
    cases a
    case int x => cases b; case int y => exact fun _ ra rb => eq_i ra rb
                  all_goals exact CmpG.no
    case str x => cases b; case str y => exact fun _ ra rb => eq_s ra rb
                  all_goals exact CmpG.no
    all_goals exact CmpG.no
  case NotEq =>
    cases a
    case int x => cases b; case int y => exact fun _ ra rb => ne_i ra rb
                  all_goals exact CmpG.no
    case str x => cases b; case str y => exact fun _ ra rb => ne_s ra rb
                  all_goals exact CmpG.no
    all_goals exact CmpG.no
  case Lt =>
    cases a
    case int x => cases b; case int y => exact fun _ ra rb => lt_i ra rb
                  all_goals exact CmpG.no
    all_goals exact CmpG.no
  case Gt =>
    cases a
    case int x => cases b; case int y => exact fun _ ra rb => gt_i ra rb
                  all_goals exact CmpG.no
    all_goals exact CmpG.no
  case IsNot =>
    cases a
    case none => cases b; case none => exact fun _ ra rb => isnot_nn ra rb
                 all_goals exact CmpG.no
    case str x => cases b; case none => exact fun _ ra rb => isnot_sn ra rb
                  all_goals exact CmpG.no
    all_goals exact CmpG.no
  case In =>
    cases a
    case int x =>
      cases b
      case val v =>
        intro wa wb h ra rb
        unfold Rep at ra rb
        obtain ⟨t, rfl⟩ := ra
        subst rb
        exact G A s _ _ t kb h
      all_goals exact CmpG.no
    case str x =>
      cases b
      case dict kv => exact fun _ ra rb => in_dict ra rb
      all_goals exact CmpG.no
    all_goals exact CmpG.no
  all_goals exact CmpG.no
theorem cmpV_ok {hb : Heap} {g : Cfg} (G : MemOk prog w hb g) (kb : KeepAll hb s.heap) {op : CmpOp} {a b : V} {wa wb : Value} (h : (cmpV g op a b).2) (ra : Rep w.params mu s.heap a wa) (rb : Rep w.params mu s.heap b wb) :
    Tr prog w A (compareOp op wa wb) s (fun v _ => v = .bool (cmpV g op a b).1) := cmpG G kb op a b h ra rb
end
end Mine
namespace Mine
open PySem PySem.W PyProof.Rows PySem.Calls
section
variable {prog : Program} {w : World} {A : Around} {s : Shared} {mu : List Addr}

theorem subscripted_any (slice : Expr) (o i : Value) : ∃ ops, subscripted slice false o i = operate ops (getItem o i) := by
  cases slice with
  | Slice lo hi st p => cases st <;> exact ⟨_, rfl⟩
  | _ => exact ⟨_, rfl⟩
theorem tr_tail {value slice : Expr} {o i : Value} {T id : String} {Q : Value → Heap → Prop} (hT : s.TypeIs o T) (hl : typeLookup (.type T) "__getitem__" = pure (some (.builtin id)))
    (h : Tr prog w A (getItem o i) s Q) : Tr prog w A (subscriptTail value slice o i) s Q :=
  let ⟨_, e⟩ := subscripted_any slice o i
  Tr.of fun R k => tail_any hT hl (h.use k) e
theorem seqAt_get {α : Type} {d : α} {xs : List α} {i : Int} (h : (seqAt d xs i).2) : xs[(if i < 0 then i + xs.length else i).toNat]? = some (seqAt d xs i).1 := by
  obtain ⟨h1, h2, _⟩ := h
  have hk : (if i < 0 then i + xs.length else i).toNat < xs.length := by split <;> lia
  show _ = some (xs.getD _ d)
  rw [List.getD_eq_getElem?_getD, List.getElem?_eq_getElem hk]; rfl
/-- an item, of what the evaluator tells -/
noncomputable def ItemG (prog : Program) (w : World) (A : Around) (s : Shared) (mu : List Addr) (value slice : Expr) (o i : V) (r : W V) : Prop :=
  ∀ {wo wi : Value}, r.2 → Rep w.params mu s.heap o wo → Rep w.params mu s.heap i wi → Tr prog w A (subscriptTail value slice wo wi) s (fun v h => Rep w.params mu h r.1 v)
theorem ItemG.no {value slice : Expr} {o i : V} : ItemG prog w A s mu value slice o i no := fun h => h.elim
theorem item_list {value slice : Expr} {xs : List V} {k : Int} : ItemG prog w A s mu value slice (.list xs) (.int k) (seqAt V.none xs k) := by
  intro wo wi h ro ri
  unfold Rep at ro ri
  obtain ⟨a, ws, rfl, ha, la, ra⟩ := ro
  obtain ⟨t, rfl⟩ := ri
  obtain ⟨v, e, rv⟩ := ra.get (seqAt_get h)
  have hlen := ra.length
  obtain ⟨h1, h2, h3⟩ := h
  unfold lenLid at h3
  refine tr_tail la.typeIs slot_list_getitem.lookup (Tr.of fun R kk => ?_)
  by_cases hk : k < 0
  · rw [if_pos hk] at e
    refine wpAny_getItem_list_neg la hk (by simp; lia) (by lia) ?_ (kk v s.heap s.toks (fun _ _ e => e) rv)
    simp only [List.size_toArray, hlen, List.getElem?_toArray]; exact e
  · rw [if_neg hk] at e
    refine wpAny_getItem_list la (by lia) (by lia) ?_ (kk v s.heap s.toks (fun _ _ e => e) rv)
    simp only [List.getElem?_toArray]; exact e
theorem item_str {value slice : Expr} {xs : List Nat} {k : Int} : ItemG prog w A s mu value slice (.str xs) (.int k) (.str [(seqAt 0 xs k).1], (seqAt 0 xs k).2) := by
  intro wo wi h ro ri
  have e := seqAt_get (d := 0) (xs := xs) h
  obtain ⟨h1, h2, h3⟩ := h
  unfold lenLid at h3
  unfold Rep at ro ri
  obtain ⟨t, rfl⟩ := ro
  obtain ⟨u, rfl⟩ := ri
  refine tr_tail (typeIs_str _ _ _) F.slot_str_getitem.lookup (Tr.of fun R kk => ?_)
  refine PySem.P.getItem_str (c := (seqAt 0 xs k).1) (by simp; lia) ?_ (kk _ s.heap (s.toks + 1) (fun _ _ e => e) (by unfold Rep; exact ⟨_, rfl⟩))
  unfold seqIndex?
  simp only [Str.length, List.size_toArray]
  rw [if_pos (by simp only [Bool.and_eq_true, decide_eq_true_eq]; split <;> lia)]
  simp only [Option.bind_some, List.getElem?_toArray]; exact e
theorem itemV_ok {value slice : Expr} {o i : V} : ItemG prog w A s mu value slice o i (itemV o i) := by
  cases o with
  | list xs => cases i with
    | int k => exact item_list
    | _ => exact ItemG.no
  | str xs => cases i with
    | int k => exact item_str
    | _ => exact ItemG.no
  | dict kv => cases i with
    | str x => exact fun h ro ri => tr_tail (item_dict (prog := prog) (A := A) h ro ri).1 slot_dict_getitem.lookup (item_dict h ro ri).2
    | _ => exact ItemG.no
  | _ => exact ItemG.no

theorem part_rep {v : V} {wv : Value} {o : Option Int} (h : partV v = some o) (r : Rep w.params mu s.heap v wv) : IsPart wv o ∧ ∃ p : Option (Int × Tok), wv = partValue p ∧ p.map (·.1) = o := by
  cases v <;> simp only [partV] at h <;> first | cases h | (obtain rfl := Option.some.inj h; clear h)
  · unfold Rep at r; subst r; exact ⟨.none, none, rfl, rfl⟩
  · unfold Rep at r; obtain ⟨t, rfl⟩ := r; exact ⟨.int _ _, some (_, t), rfl, rfl⟩
theorem reps_pick {h : Heap} {P : Params} {vs : List V} {ws : List Value} (r : Reps P mu h vs ws) : ∀ (is : List Nat), Reps P mu h (is.filterMap fun i => vs[i]?) (is.filterMap fun i => ws[i]?)
  | [] => by simp [Reps]
  | i :: is => by
    rw [List.filterMap_cons, List.filterMap_cons]
    cases e : vs[i]? with
    | none =>
      have : ws[i]? = none := by
        rw [List.getElem?_eq_none_iff] at e ⊢; rw [r.length]; exact e
      rw [this]; exact reps_pick r is
    | some v =>
      obtain ⟨x, ex, rx⟩ := r.get e
      rw [ex]
      show Reps P mu h (v :: _) (x :: _)
      unfold Reps
      exact ⟨_, _, rfl, rx, reps_pick r is⟩
theorem clip_le (n : Nat) (v : V) : (clip n n v).1 ≤ n := by
  unfold clip
  split <;> simp only
  · exact Nat.le_refl _
  · split <;> omega
  · exact Nat.zero_le _
theorem sizeLine_is : sizeLine = 16777216 := rfl
/-- a slice, of what the evaluator tells -/
noncomputable def CutG (prog : Program) (w : World) (A : Around) (s : Shared) (mu : List Addr) (value slice : Expr) (o lo hi st : V) (r : W V) : Prop :=
  ∀ {wo wl wh wt : Value} {sl : Addr}, r.2 → Rep w.params mu s.heap o wo → Rep w.params mu s.heap lo wl → Rep w.params mu s.heap hi wh → Rep w.params mu s.heap st wt →
    s.heap.get? sl = some { cls := .type "slice", data := .fields #[wl, wh, wt] } → Live mu s.heap → Tr prog w A (subscriptTail value slice wo (.ref sl)) s (fun v h => Rep w.params mu h r.1 v)
theorem CutG.no {value slice : Expr} {o lo hi st : V} : CutG prog w A s mu value slice o lo hi st no := fun h => h.elim
theorem cut_str {value slice : Expr} {xs : List Nat} {lo hi : V} : CutG prog w A s mu value slice (.str xs) lo hi .none (cutV (.str xs) lo hi .none) := by
  intro wo wl wh wt sl h ro rl rh rt hs l
  obtain ⟨h1, h2, h3⟩ := h
  unfold lenLid at h3
  obtain ⟨eo, e1⟩ := clip_part h1
  obtain ⟨ei, e2⟩ := clip_part h2
  obtain ⟨_, p1, rfl, q1⟩ := part_rep e2 rl
  obtain ⟨_, p2, rfl, q2⟩ := part_rep e1 rh
  unfold Rep at ro rt
  obtain ⟨t, rfl⟩ := ro
  subst rt
  refine tr_tail (typeIs_str _ _ _) F.slot_str_getitem.lookup (Tr.of fun R kk => ?_)
  refine wpAny_getItem_str_slice (l := p1) (u := p2) (st := none) ⟨_, hs, rfl, rfl⟩ rfl ?_
  have ep : slicePicked ⟨xs.toArray⟩ p1 p2 none = (List.range ((clip xs.length xs.length hi).1 - (clip xs.length 0 lo).1)).map fun j => (clip xs.length 0 lo).1 + j := by
    unfold slicePicked
    rw [q1, q2]
    simp only [Str.length, List.size_toArray]
    exact indices_one e2 e1
  have ec : List.filterMap (fun i => (Str.cps ⟨xs.toArray⟩)[i]?) (slicePicked ⟨xs.toArray⟩ p1 p2 none) = (xs.take (clip xs.length xs.length hi).1).drop (clip xs.length 0 lo).1 := by
    rw [ep]
    simp only [List.getElem?_toArray]
    rw [filterMap_range, drop_take']
  unfold sliceMade
  rw [ec, ep]
  simp only [List.length_map, List.length_range, Str.length, List.size_toArray]
  split
  · rename_i hw
    have hw : (clip xs.length xs.length hi).1 - (clip xs.length 0 lo).1 = xs.length := by
      simp only [Bool.and_eq_true, beq_iff_eq] at hw; exact hw.2
    refine kk _ s.heap s.toks (fun _ _ e => e) ?_
    unfold Rep
    refine ⟨t, ?_⟩
    have hc := clip_le xs.length hi
    by_cases hz : xs.length = 0
    · have : xs = [] := List.length_eq_zero_iff.mp hz
      subst this; simp
    · have a0 : (clip xs.length 0 lo).1 = 0 := by omega
      have b0 : (clip xs.length xs.length hi).1 = xs.length := by omega
      rw [a0, b0]; simp
  · unfold Made.post
    refine ⟨by simp [Str.length, sizeLine_is]; omega, kk _ s.heap (s.toks + 1) (fun _ _ e => e) ?_⟩
    unfold Rep
    exact ⟨_, rfl⟩
theorem cut_bytes' {value slice : Expr} {xs : List UInt8} {lo hi : V} : CutG prog w A s mu value slice (.bytes xs) lo hi .none (cutV (.bytes xs) lo hi .none) := by
  intro wo wl wh wt sl h ro rl rh rt hs l
  obtain ⟨h1, h2, h3⟩ := h
  unfold lenLid at h3
  obtain ⟨eo, e1⟩ := clip_part h1
  obtain ⟨ei, e2⟩ := clip_part h2
  obtain ⟨i1, p1, rfl, q1⟩ := part_rep e2 rl
  obtain ⟨i2, p2, rfl, q2⟩ := part_rep e1 rh
  unfold Rep at ro rt
  obtain ⟨t, rfl⟩ := ro
  subst rt
  refine tr_tail (typeIs_bytes _ _ _) FB.slot_bytes_getitem.lookup (Tr.of fun R kk => ?_)
  have ec : KBy.picked xs.toArray ei eo = ((xs.take (clip xs.length xs.length hi).1).drop (clip xs.length 0 lo).1).toArray := by
    unfold KBy.picked Builtin.Bytes.sliced
    simp only [List.size_toArray, List.getElem?_toArray]
    rw [bounds_one e2 e1, filterMap_range, drop_take']
  refine getItem_meets (typeIs_bytes _ _ _) (by decide) FB.slot_bytes_getitem FB.entry_bytes_getitem (FB.args_bytes_getitem_2 _ _) (KBc.meets_slice2 xs.toArray t sl i1 i2)
    ⟨⟨_, hs, rfl, rfl⟩, ?_, fun t' k => ?_⟩
  · rw [ec]; simp [sizeLine_is]; omega
  · rw [ec]; exact kk _ s.heap k (fun _ _ e => e) (by unfold Rep; exact ⟨_, rfl⟩)
theorem cut_list {value slice : Expr} {xs : List V} {i k : Int} : CutG prog w A s mu value slice (.list xs) (.int i) .none (.int k) (cutV (.list xs) (.int i) .none (.int k)) := by
  intro wo wl wh wt sl h ro rl rh rt hs l
  obtain ⟨h1, h3⟩ := h
  unfold lenLid at h3
  unfold Rep at ro rt rl rh
  obtain ⟨a, ws, rfl, ha, la, ra⟩ := ro
  obtain ⟨t1, rfl⟩ := rt
  obtain ⟨t2, rfl⟩ := rl
  subst rh
  have hlen := ra.length
  refine tr_tail la.typeIs slot_list_getitem.lookup (Tr.of fun R kk => ?_)
  refine wpAny_getItem_list_slice la ⟨_, hs, rfl, rfl⟩ (.int _ _) .none (.int _ _) (by simpa using h1) ?_ (by simp [sizeLine_is]; omega)
  have ec : slicePick ws.toArray (some i) none (some k) = ((sliceRange (sliceBounds (some i) none (some k) xs.length).1 (sliceBounds (some i) none (some k) xs.length).2.1 (sliceBounds (some i) none (some k) xs.length).2.2).filterMap fun i => ws[i]?).toArray := by
    unfold slicePick
    simp only [List.size_toArray, List.getElem?_toArray, hlen]
  rw [ec]
  refine kk _ _ s.toks keepAll_push ?_
  unfold Rep
  exact ⟨_, _, rfl, l.fresh, ⟨_, get_push (by intro e; cases e), rfl, 0, rfl⟩, reps_pick (ra.all keepAll_push) _⟩
theorem cutV_ok {value slice : Expr} {o lo hi st : V} : CutG prog w A s mu value slice o lo hi st (cutV o lo hi st) := by
  cases o with
  | str xs => cases st with
    | none => exact cut_str
    | _ => exact CutG.no
  | bytes xs => cases st with
    | none => exact cut_bytes'
    | _ => exact CutG.no
  | list xs => cases st with
    | int k => cases lo with
      | int i => cases hi with
        | none => exact cut_list
        | _ => exact CutG.no
      | _ => exact CutG.no
    | _ => exact CutG.no
  | _ => exact CutG.no
end
end Mine
namespace Mine
open PySem PySem.W PyProof.Rows PySem.Calls
section
variable {prog : Program} {w : World} {A : Around} {s : Shared} {mu : List Addr} {P : Params} {h : Heap}

theorem strs_areV : ∀ {xs : List V} {ws : List Value}, (strsV xs).2 → Reps P mu h xs ws → StrsAre ws ((strsV xs).1.map fun x => ⟨x.toArray⟩)
  | [], ws, e, r => by
    unfold Reps at r; subst r; exact .nil
  | x :: xs, ws, e, r => by
    unfold Reps at r
    obtain ⟨w', ws', rfl, r1, rs⟩ := r
    cases x <;> simp only [strsV] at e
    unfold Rep at r1
    obtain ⟨t, rfl⟩ := r1
    exact .cons _ _ (strs_areV e rs)
theorem intsAre_at : ∀ {ws : List Value} {ns : List Int} {i : Nat} {v : Value}, IntsAre ws ns → ws[i]? = some v → ∃ t, v = .int (ns.getD i 0) t
  | _, _, i, v, .nil, e => by simp at e
  | _, _, i, v, .cons n t r, e => by
    cases i with
    | zero => simp at e; subst e; exact ⟨t, rfl⟩
    | succ i => simp at e; obtain ⟨u, e⟩ := intsAre_at r e; exact ⟨u, by simpa using e⟩
theorem intsAre_length : ∀ {ws : List Value} {ns : List Int}, IntsAre ws ns → ws.length = ns.length
  | _, _, .nil => rfl
  | _, _, .cons n t r => by simp [intsAre_length r]
theorem preSum_succ (val : Nat → Int) (n : Nat) : preSum val (n + 1) = preSum val n + val n := rfl
theorem preSum_list (ns : List Int) : ∀ n, preSum (fun i => ns.getD i 0) n = (ns.take n).sum
  | 0 => rfl
  | n + 1 => by
    rw [preSum_succ, preSum_list ns n, List.take_add_one, List.sum_append]
    by_cases h : n < ns.length
    · simp [List.getD_eq_getElem?_getD, h]
    · simp [List.getD_eq_getElem?_getD, h]
theorem sum_ok {a : Addr} {ws : List Value} {ns : List Int} (hh : A.handled = none) (la : s.heap.IsList a ws.toArray) (hi : IntsAre ws ns) : Tr prog w A (call (.builtin "sum") [.ref a]) s (fun v h => Rep w.params mu h (.int ns.sum) v) := by
  refine Tr.of fun R kk => call_sum_walkG ?_
  refine wpAny_pyIter_list la ?_
  have hne : a ≠ s.heap.objs.size := by
    obtain ⟨o, g, _⟩ := la
    exact Nat.ne_of_lt (Heap.lt_size g)
  have hp := get_push (h := s.heap) (c := .type "list_iterator") (d := none) (dt := .fields #[.ref a, .int 0 0]) (sl := #[]) (by intro e; cases e)
  refine ⟨_, _, _, _, _, _, fun i => ns.getD i 0, rfl, Walks.list (by exact hh) _ _ hne ws.toArray, ⟨⟨_, hp, rfl, rfl⟩, isList_keep la (fun o => keepAll_push _ o)⟩, ?_, ?_, ?_⟩
  · intro b hb
    have ha : a < s.heap.objs.size := by
      obtain ⟨o, g, _⟩ := la
      exact Heap.lt_size g
    rcases List.mem_cons.mp hb with rfl | hb
    · exact Heap.lt_size hp
    · rcases List.mem_cons.mp hb with rfl | hb
      · show _ < (s.heap.push _).objs.size
        rw [Heap.size_push]; exact Nat.lt_succ_of_lt ha
      · cases hb
  · intro i v hv
    have hv : ws[i]? = some v := by simpa using hv
    exact intsAre_at hi hv
  · intro h' tk t' k
    refine kk _ h' tk (fun b o e => k b o ?_ (keepAll_push b o e)) ?_
    · intro hb
      rcases List.mem_singleton.mp hb with rfl
      exact absurd (Heap.lt_size e) (Nat.lt_irrefl _)
    · unfold Rep
      refine ⟨t', ?_⟩
      rw [preSum_list, List.size_toArray, intsAre_length hi, List.take_length]

/-- a builtin of the names that we know -/
noncomputable def bltFn (f : Str) : Value := (bootBuiltins f).getD .none
theorem reps_nil {ws : List Value} (r : Reps P mu h [] ws) : ws = [] := by unfold Reps at r; exact r
theorem reps_cons {x : V} {xs : List V} {ws : List Value} (r : Reps P mu h (x :: xs) ws) : ∃ v vs, ws = v :: vs ∧ Rep P mu h x v ∧ Reps P mu h xs vs := by unfold Reps at r; exact r

theorem text_ok {x : List Nat} {wv : Value} (hx : (PySem.intText? ⟨x.toArray⟩).isSome = true ∧ x.length ≤ 100) (r : Rep w.params mu s.heap (.str x) wv) : Tr prog w A (call (.type "int") [wv]) s (fun v h => Rep w.params mu h (.int ((PySem.intText? ⟨x.toArray⟩).getD 0)) v) := by
  unfold Rep at r
  obtain ⟨t, rfl⟩ := r
  obtain ⟨n, hn⟩ := Option.isSome_iff_exists.mp hx.1
  rw [hn]
  refine Tr.of fun R k => KIN.call_text hn ?_ (k _ s.heap _ (fun _ _ e => e) (by unfold Rep; exact ⟨_, rfl⟩))
  show x.toArray.size ≤ 640
  rw [List.size_toArray]; lia
theorem told_ok {i : Int} {wv : Value} (hx : i.natAbs < 1000) (r : Rep w.params mu s.heap (.int i) wv) : Tr prog w A (call (.type "str") [wv]) s (fun v h => Rep w.params mu h (.str (PySem.Str.ofString (toString i)).cps.toList) v) := by
  unfold Rep at r
  obtain ⟨t, rfl⟩ := r
  refine Tr.of fun R k => PySem.P.str_of_int ?_ (k _ s.heap _ (fun _ _ e => e) (by unfold Rep; exact ⟨_, rfl⟩))
  exact Nat.lt_of_le_of_lt (Nat.log2_le_self _) (Nat.lt_trans hx (by decide))
/-- a call, of what the evaluator tells -/
noncomputable def BltG (prog : Program) (w : World) (A : Around) (s : Shared) (mu : List Addr) (fv : Value) (args : List V) (r : W V) : Prop :=
  ∀ ws : List Value, r.2 → Reps w.params mu s.heap args ws → Live mu s.heap → A.handled = none → Tr prog w A (call fv ws) s (fun v h => Rep w.params mu h r.1 v)
noncomputable def BltG1 (prog : Program) (w : World) (A : Around) (s : Shared) (mu : List Addr) (fv : Value) (a : V) (r : W V) : Prop :=
  ∀ wv : Value, r.2 → Rep w.params mu s.heap a wv → Tr prog w A (call fv [wv]) s (fun v h => Rep w.params mu h r.1 v)
theorem BltG.no {fv : Value} {args : List V} : BltG prog w A s mu fv args no := fun _ h => h.elim
theorem BltG1.no {fv : Value} {a : V} : BltG1 prog w A s mu fv a no := fun _ h => h.elim
theorem BltG.one {fv : Value} {args : List V} {f : V → W V} (h : ∀ a, BltG1 prog w A s mu fv a (f a)) : BltG prog w A s mu fv args (arg1 f args) := by
  cases args with
  | nil => exact BltG.no
  | cons a q => cases q with
    | nil =>
      intro ws hx r _ _
      obtain ⟨v, vs, rfl, r1, r2⟩ := reps_cons r
      cases reps_nil r2
      exact h a _ hx r1
    | cons _ _ => exact BltG.no
theorem BltG.ints {fv : Value} {args : List V} {f : Int → Int → W V} (h : ∀ (a b : Int) (t u : Tok), (f a b).2 → Live mu s.heap → A.handled = none → Tr prog w A (call fv [.int a t, .int b u]) s (fun v h => Rep w.params mu h (f a b).1 v)) : BltG prog w A s mu fv args (arg2 (ints2 f) args) := by
  cases args with
  | nil => exact BltG.no
  | cons a q => cases q with
    | nil => exact BltG.no
    | cons b q => cases q with
      | cons _ _ => exact BltG.no
      | nil => cases a with
        | int a => cases b with
          | int b =>
            intro ws hx r l hh
            obtain ⟨v, vs, rfl, r1, r2⟩ := reps_cons r
            obtain ⟨v2, vs2, rfl, r3, r4⟩ := reps_cons r2
            cases reps_nil r4
            unfold Rep at r1 r3
            obtain ⟨t, rfl⟩ := r1
            obtain ⟨u, rfl⟩ := r3
            exact h a b t u hx l hh
          | _ => exact BltG.no
        | _ => exact BltG.no
theorem len_g (a : V) : BltG1 prog w A s mu (.builtin "len") a (lenB a) := by
  cases a with
  | str x =>
    intro wv hx r1
    unfold Rep at r1
    obtain ⟨t, rfl⟩ := r1
    have hx : x.length ≤ 100000 := hx
    exact Tr.of fun R kk => SBL.len (by simp [Str.length]; lia) (kk _ s.heap _ (fun _ _ e => e) (by show Rep _ _ _ (.int x.length) _; unfold Rep; exact ⟨_, by simp [Str.length]; rfl⟩))
  | _ => exact BltG1.no
theorem ord_g (a : V) : BltG1 prog w A s mu (.builtin "ord") a (ordB a) := by
  cases a with
  | str x => cases x with
    | nil => exact BltG1.no
    | cons c x => cases x with
      | nil =>
        intro wv _ r1
        unfold Rep at r1
        obtain ⟨t, rfl⟩ := r1
        exact Tr.of fun R kk => P.ord_of_char (kk _ s.heap _ (fun _ _ e => e) (by show Rep _ _ _ (.int c) _; unfold Rep; exact ⟨_, rfl⟩))
      | cons _ _ => exact BltG1.no
  | _ => exact BltG1.no
theorem chr_g (a : V) : BltG1 prog w A s mu (.builtin "chr") a (chrB a) := by
  cases a with
  | int i =>
    intro wv hx r1
    unfold Rep at r1
    obtain ⟨t, rfl⟩ := r1
    have hx : 0 ≤ i ∧ i ≤ 1114111 := hx
    exact Tr.of fun R kk => chr_of_range hx.1 hx.2 (kk _ s.heap _ (fun _ _ e => e) (by show Rep _ _ _ (.str [i.toNat]) _; unfold Rep; exact ⟨_, rfl⟩))
  | _ => exact BltG1.no
theorem abs_g (a : V) : BltG1 prog w A s mu (.builtin "abs") a (absB a) := by
  cases a with
  | int i =>
    intro wv _ r1
    unfold Rep at r1
    obtain ⟨t, rfl⟩ := r1
    exact Tr.of fun R kk => call_abs_int fun u tk => kk _ s.heap tk (fun _ _ e => e) (by show Rep _ _ _ (.int (if i < 0 then -i else i)) _; unfold Rep; exact ⟨_, rfl⟩)
  | _ => exact BltG1.no
theorem int_g (a : V) : BltG1 prog w A s mu (.type "int") a (intB a) := by
  cases a with
  | int i =>
    intro wv _ r1
    unfold Rep at r1
    obtain ⟨t, rfl⟩ := r1
    exact Tr.of fun R kk => call_int_int (kk _ s.heap s.toks (fun _ _ e => e) (by show Rep _ _ _ (.int i) _; unfold Rep; exact ⟨_, rfl⟩))
  | str x => exact fun _ hx r => text_ok hx r
  | _ => exact BltG1.no
theorem str_g (a : V) : BltG1 prog w A s mu (.type "str") a (strB a) := by
  cases a with
  | int i => exact fun _ hx r => told_ok hx r
  | _ => exact BltG1.no
theorem sum_g (hh : A.handled = none) (a : V) : BltG1 prog w A s mu (.builtin "sum") a (sumB a) := by
  cases a with
  | list xs =>
    intro wv hx r1
    unfold Rep at r1
    obtain ⟨a, ws, rfl, ha, la, ra⟩ := r1
    exact sum_ok hh la (ints_areV hx ra)
  | _ => exact BltG1.no
theorem bltV_ok {f : Str} {args : List V} (hf : isBlt f = true) : BltG prog w A s mu (bltFn f) args (bltV f args) := by
  have hmem : f ∈ [("len" : Str), "ord", "chr", "abs", "int", "str", "divmod", "min", "sum"] := List.contains_iff_mem.mp hf
  simp only [List.mem_cons, List.not_mem_nil, or_false] at hmem
  rcases hmem with rfl | rfl | rfl | rfl | rfl | rfl | rfl | rfl | rfl
  · rw [show bltFn ("len" : Str) = .builtin "len" from by decide +kernel]; exact BltG.one len_g
  · rw [show bltFn ("ord" : Str) = .builtin "ord" from by decide +kernel]; exact BltG.one ord_g
  · rw [show bltFn ("chr" : Str) = .builtin "chr" from by decide +kernel]; exact BltG.one chr_g
  · rw [show bltFn ("abs" : Str) = .builtin "abs" from by decide +kernel]; exact BltG.one abs_g
  · rw [show bltFn ("int" : Str) = .type "int" from by decide +kernel]; exact BltG.one int_g
  · rw [show bltFn ("str" : Str) = .type "str" from by decide +kernel]; exact BltG.one str_g
  · rw [show bltFn ("divmod" : Str) = .builtin "divmod" from by decide +kernel]
    refine BltG.ints (f := divB) fun i j t u hx l hh => ?_
    have hx : j ≠ 0 ∧ j.natAbs < 1073741824 := hx
    refine Tr.of fun R kk => divmod_int hx.1 (kk _ _ _ keepAll_push ?_) (.inl (PyProof.noPylong_small (by lia)))
    show Rep _ _ _ (.tup [.int (i.fdiv j), .int (i.fmod j)]) _
    unfold Rep
    refine ⟨_, [_, _], rfl, l.fresh, ⟨_, get_push (by intro e; cases e), rfl, 0, rfl⟩, ?_⟩
    unfold Reps
    refine ⟨_, _, rfl, by unfold Rep; exact ⟨_, rfl⟩, ?_⟩
    unfold Reps
    refine ⟨_, _, rfl, by unfold Rep; exact ⟨_, rfl⟩, ?_⟩
    unfold Reps
    rfl
  · rw [show bltFn ("min" : Str) = .builtin "min" from by decide +kernel]
    refine BltG.ints (f := minB) fun i j t u hx l hh => ?_
    refine Tr.of fun R kk => min_two_ints hh fun h' tk k => kk _ h' tk k ?_
    show Rep _ _ _ (.int (if j < i then j else i)) _
    unfold Rep
    split <;> exact ⟨_, rfl⟩
  · rw [show bltFn ("sum" : Str) = .builtin "sum" from by decide +kernel]
    intro ws hx r l hh
    exact BltG.one (f := sumB) (fun a => sum_g hh a) _ hx r l hh
end
end Mine
namespace Mine
open PySem PySem.W PyProof.Rows PySem.Calls PySem.Builtin
theorem args_decode_2 (a b : Value) : argsOk "bytes.decode" ⟨[a, b], []⟩ := by
  unfold argsOk; rw [signature?_of (id := "bytes.decode") (n := ['e', 'd', 'o', 'c', 'e', 'd']) (o := ['s', 'e', 't', 'y', 'b']) (by kernel_rfl) FB.owner_bytes]; kernel_rfl
section
variable {c : UInt8} {cs : List UInt8} {b : Array UInt8} {t u : Tok}
theorem road_ascii {id : String} : _codecs.decodeRoad id b (PySem.Str.ofString "ascii") none [] = (_codecs.runDecoder id _codecs.asciiDecoder none true b 0 [] >>= fun r => mkStr ⟨r.1⟩) := by kernel_rfl
theorem entry_ascii : «bytes.decode» ⟨[.bytes (c :: cs).toArray t, .str (PySem.Str.ofString "ascii") u], []⟩ = (mkStr (PySem.Str.ofString "utf-8") >>= fun _ => mkStr (PySem.Str.ofString "ascii") >>= fun e => mkStr (PySem.Str.ofString "bytes.decode") >>= fun d =>
    call (.builtin "_codecs.decode.text") [.bytes (c :: cs).toArray t, e, .none, d] >>= fun v => ret v) := by kernel_rfl
theorem entry_nil : «bytes.decode» ⟨[.bytes #[] t, .str (PySem.Str.ofString "ascii") u], []⟩ = (rule "bytes.decode.empty" >>= fun _ => PySem.retStr PySem.Str.empty) := by kernel_rfl
theorem forIn_run {σ : Type} (f : Nat → σ → Sem (ForInStep σ)) (g : Nat → σ) (n : Nat) : ∀ (l : List Nat) (k : Nat), k + l.length = n → (∀ x j, j < n → f x (g j) = pure (.yield (g (j + 1)))) → forIn l (g k) f = (pure (g n) : Sem σ)
  | [], k, e, _ => by
    simp at e; subst e; rfl
  | x :: l, k, e, h => by
    simp at e
    rw [List.forIn_cons, h x k (by lia)]
    exact forIn_run f g n l (k + 1) (by lia) h
theorem run_ascii {id : String} (bs : List UInt8) (hb : ∀ c ∈ bs, c.toNat < 128) (hl : bs.length ≤ lenLid) : _codecs.runDecoder id _codecs.asciiDecoder none true bs.toArray 0 [] = pure ((bs.map (·.toNat)).toArray, bs.length) := by
  unfold lenLid at hl
  unfold _codecs.runDecoder
  simp only [Std.Legacy.Range.forIn_eq_forIn_range']
  have key := fun f h => forIn_run (σ := Nat × Array Nat × _codecs.Faults) f (fun j => (j, ((bs.take j).map (·.toNat)).toArray, {})) bs.length (List.range' 0 bs.length) 0 (by simp) h
  have sz : Std.Legacy.Range.size [:bs.toArray.size] = bs.length := by simp [Std.Legacy.Range.size]
  rw [sz]
  refine (congrArg (fun (m : Sem (Nat × Array Nat × _codecs.Faults)) => m >>= fun s => (pure (s.2.1, s.1) : Sem (Array Nat × Nat))) (key _ ?_)).trans ?_
  · intro x j hj
    dsimp only
    rw [if_neg (by simp [sizeLine_is]; lia), if_neg (by simp; lia)]
    have hc : bs[j].toNat < 128 := hb _ (List.getElem_mem hj)
    have hf : _codecs.asciiDecoder.find true bs.toArray j = _codecs.Found.text [bs[j].toNat] (j + 1) := by
      unfold _codecs.asciiDecoder
      dsimp only
      have : (bs.toArray.getD j 0) = bs[j] := by simp [hj]
      rw [this, if_pos hc]; rfl
    rw [hf]
    dsimp only
    have : (List.map (fun x => x.toNat) (List.take (j + 1) bs)) = (List.map (fun x => x.toNat) (List.take j bs)) ++ [bs[j].toNat] := by
      rw [List.take_add_one, List.map_append]; congr 1; simp [hj]
    rw [this]
    simp
  · rw [List.take_length]; rfl
theorem meets_text {id : PySem.Str} {t1 t2 : Tok} (bs : List UInt8) (hb : ∀ c ∈ bs, c.toNat < 128) (hl : bs.length ≤ lenLid) :
    Meets («_codecs.decode.text» ⟨[.bytes bs.toArray t, .str (PySem.Str.ofString "ascii") t1, .none, .str id t2], []⟩) (fun _ R s => R (.ok (.ret (.str ⟨(bs.map (·.toNat)).toArray⟩ s.toks))) { s with toks := s.toks + 1 }) := by
  refine .of_wp fun prog w A R s h => ?_
  show wpAny _ _ (Bytes.bytesLike _ (.bytes bs.toArray t) >>= fun r => _) _ _ s
  refine wpAny_bind (wpAny_of_eq KBd.like_eq ?_)
  refine wpAny_bind (wpAny_of_eq KBd.held_eq ?_)
  show wpAny _ _ (_codecs.decodeRoad _ bs.toArray (PySem.Str.ofString "ascii") none [] >>= fun v => _) _ _ s
  rw [road_ascii, run_ascii bs hb hl]
  refine wpAny_bind (wpAny_bind (wpAny_pure ?_))
  refine wpAny_mkStr (wpAny_pure ⟨_, rfl, h⟩) ?_
  simp [PySem.Str.length, sizeLine_is]; unfold lenLid at hl; lia
theorem meets_decode (bs : List UInt8) (hb : ∀ c ∈ bs, c.toNat < 128) (hl : bs.length ≤ lenLid) :
    Meets («bytes.decode» ⟨[.bytes bs.toArray t, .str (PySem.Str.ofString "ascii") u], []⟩) (fun _ R s => ∀ t' k, R (.ok (.ret (.str ⟨(bs.map (·.toNat)).toArray⟩ t'))) { s with toks := k }) := by
  refine .of_wp fun prog w A R s h => ?_
  cases bs with
  | nil =>
    rw [entry_nil]
    refine wpAny_bind (wpAny_rule ?_)
    unfold PySem.retStr
    exact wpAny_bind (wpAny_mkStr (wpAny_pure ⟨_, rfl, h _ _⟩) (by decide))
  | cons c cs =>
    rw [entry_ascii]
    refine wpAny_bind (wpAny_mkStr ?_ (by decide))
    refine wpAny_bind (wpAny_mkStr ?_ (by decide))
    refine wpAny_bind (wpAny_mkStr ?_ (by decide))
    exact wpAny_bind (call_function_meets KBd.kind_text KBd.plain_text KBd.entry_text (KBd.args_text _ _ _ _) (meets_text (c :: cs) hb hl) (wpAny_pure ⟨_, rfl, h _ _⟩))
end
section
variable {prog : Program} {w : World} {A : Around} {s : Shared} {mu : List Addr}
theorem decode_ok {bs : List UInt8} {t u : Tok} (hb : ∀ c ∈ bs, c.toNat < 128) (hl : bs.length ≤ lenLid) :
    Tr prog w A (call (.builtin "bytes.decode") [.bytes bs.toArray t, .str (PySem.Str.ofString "ascii") u]) s (fun v h => Rep w.params mu h (.str (bs.map (·.toNat))) v) :=
  Tr.of fun R kk => call_meets FB.slot_bytes_decode (typeIs_bytes _ _ _) FB.entry_bytes_decode (args_decode_2 _ _) (meets_decode bs hb hl) fun t' k => kk _ s.heap k (fun _ _ e => e) (by unfold Rep; exact ⟨_, rfl⟩)
end
end Mine
namespace Mine
open PySem PySem.W PyProof.Rows PySem.Calls

/-- a name stands for a value -/
noncomputable def Rd (env : Env) (h : Heap) (x : Str) (wv : Value) : Prop :=
  (env.kindOf x = some .local ∧ ∃ m, h.Ns env.locals m ∧ m x = some wv) ∨
  ((env.kindOf x = some .cell ∨ env.kindOf x = some .free) ∧ ∃ c, env.cells.lookup x = some c ∧ h.IsCell c (some wv))
theorem Rd.keep {env : Env} {h h' : Heap} {x : Str} {wv : Value} (r : Rd env h x wv) (k : KeepAll h h') : Rd env h' x wv :=
  r.imp (fun ⟨e, m, n, v⟩ => ⟨e, m, n.keeps k, v⟩) fun ⟨e, c, l, o, g, d⟩ => ⟨e, c, l, o, k _ _ g, d⟩

structure Fm (P : Params) (mu : List Addr) (env : Env) (h : Heap) (l : Ls) : Prop where
  kind : env.scope.kind = .function
  glob : env.globals = mainGlobals
  blt : env.builtins = builtinsNs
  read : ∀ x v, l.at x = some v → nameOk x = true ∧ ∃ wv, Rd env h x wv ∧ Rep P mu h v wv
theorem Fm.keep {P : Params} {mu : List Addr} {env : Env} {h h' : Heap} {l : Ls} (F : Fm P mu env h l) (k : KeepAll h h') : Fm P mu env h' l :=
  ⟨F.kind, F.glob, F.blt, fun x v e => by obtain ⟨n, wv, r, p⟩ := F.read x v e; exact ⟨n, wv, r.keep k, p.all k⟩⟩

structure Rm (A : Around) (d : Nat) : Prop where
  handled : A.handled = none
  depth : A.depth + d < recursionLimit
  units : A.units + 4 * d + 64 < cLine

noncomputable def GetOk (prog : Program) (w : World) (hb : Heap) (g : Cfg) : Prop :=
  ∀ (A : Around) (s : Shared) (wv : Value) (i : Int) (t : Tok), KeepAll hb s.heap → (g.get wv i).2 →
    (∃ a ob, wv = .ref a ∧ s.heap.get? a = some ob ∧ ob.cls = .type "dict" ∧ ob.dict = none) ∧
    Tr prog w A (call (.builtin "dict.get") [wv, .int i t]) s (fun v h => ∀ mu, Rep w.params mu h (g.get wv i).1 v)
noncomputable def FnOk (prog : Program) (w : World) (hb : Heap) (mg : Str → Option Value) (g : Cfg) (d : Nat) : Prop :=
  ∀ (f : Str) (args : List V), (g.fn f args).2 → ∃ a o fd, mg f = some (.ref a) ∧ hb.get? a = some o ∧ o.data = .func fd ∧
    ∀ (A : Around) (s : Shared) (mu : List Addr) (ws : List Value), KeepAll hb s.heap → Rm A d → Live mu s.heap → Reps w.params mu s.heap args ws →
      Tr prog w A (call (.ref a) ws) s (fun v h => Rep w.params mu h (g.fn f args).1 v)
structure Base (prog : Program) (w : World) (hb : Heap) (mg mb : Str → Option Value) (g : Cfg) (d : Nat) : Prop where
  gns : hb.Ns mainGlobals mg
  bns : hb.Ns builtinsNs mb
  boot : ∀ x : Str, x ≠ "__name__" → mb x = bootBuiltins x
  gl : ∀ x v, g.gl x = some v → ∃ wv, mg x = some wv ∧ ((∃ i t, v = .int i ∧ wv = .int i t) ∨ v = .val wv)
  nob : ∀ x, (isBlt x = true ∨ x = ("list" : Str) ∨ x = ("range" : Str) ∨ x = ("sorted" : Str)) → mg x = none
  mem : MemOk prog w hb g
  get : GetOk prog w hb g
  fn : FnOk prog w hb mg g d
  lim : hb.NoLimit

section
variable {prog : Program} {w : World} {A : Around} {s : Shared} {mu : List Addr} {hb : Heap} {mg mb : Str → Option Value} {g : Cfg} {d : Nat} {env : Env} {l : Ls}

theorem nameOk_debug {x : Str} (h : nameOk x = true) : (x == ("__debug__" : Str)) = false := by
  unfold nameOk at h; simp only [Bool.and_eq_true, Bool.not_eq_true'] at h; exact h.1.1
theorem nameOk_dict {x : Str} (h : nameOk x = true) : (x == ("__classdict__" : Str)) = false := by
  unfold nameOk at h; simp only [Bool.and_eq_true, Bool.not_eq_true'] at h; exact h.1.2
theorem tr_load {x : Str} {wv : Value} {Q : Value → Heap → Prop} (hk : env.scope.kind = .function) (hn : nameOk x = true) (r : Rd env s.heap x wv) (q : Q wv s.heap) : Tr prog w A (loadName env x) s Q := by
  refine Tr.of fun R k => ?_
  rcases r with ⟨e, m, n, v⟩ | ⟨e | e, c, cl, ic⟩
  · exact wpAny_loadName_local hk e n v (k _ s.heap s.toks (fun _ _ e => e) q)
  · exact wpAny_loadName_cell hk e cl ic (k _ s.heap s.toks (fun _ _ e => e) q)
  · exact wpAny_loadName_free hk e cl ic (k _ s.heap s.toks (fun _ _ e => e) q) (nameOk_dict hn)
theorem tr_name {x : Str} {p : Pos} {wv : Value} {Q : Value → Heap → Prop} (hk : env.scope.kind = .function) (hn : nameOk x = true) (r : Rd env s.heap x wv) (q : Q wv s.heap) : Tr prog w A (eval (.Name x p) env) s Q :=
  Tr.of fun R k => wpAny_Name ((tr_load hk hn r q).use k) (nameOk_debug hn)
theorem kindOk_is {k : Kd} {x : Str} (h : kindOk k x = true) : k x = some .globalImplicit ∧ (x == ("__debug__" : Str)) = false := by
  unfold kindOk at h; simp only [Bool.and_eq_true, Bool.not_eq_true', beq_iff_eq] at h; exact h
theorem tr_global {x : Str} {p : Pos} {wv : Value} {Q : Value → Heap → Prop} (B : Base prog w hb mg mb g d) (kb : KeepAll hb s.heap) (F : Fm w.params mu env s.heap l) (hk : kindOk env.kindOf x = true) (hv : mg x = some wv) (q : Q wv s.heap) :
    Tr prog w A (eval (.Name x p) env) s Q :=
  Tr.of fun R k => Name_function_global F.kind (kindOk_is hk).1 (loadGlobal_global (by rw [F.glob]; exact B.gns.keeps kb) hv (k _ s.heap s.toks (fun _ _ e => e) q)) (kindOk_is hk).2
theorem tr_builtin {x : Str} {p : Pos} {wv : Value} {Q : Value → Heap → Prop} (B : Base prog w hb mg mb g d) (kb : KeepAll hb s.heap) (F : Fm w.params mu env s.heap l) (hk : kindOk env.kindOf x = true) (hv : mg x = none) (hn : x ≠ "__name__") (hx : bootBuiltins x = some wv) (q : Q wv s.heap) :
    Tr prog w A (eval (.Name x p) env) s Q :=
  Tr.of fun R k => Name_function_global F.kind (kindOk_is hk).1 (loadGlobal_builtin (by rw [F.glob]; exact B.gns.keeps kb) hv (by rw [F.blt]; exact B.bns.keeps kb) ((B.boot x hn).trans hx) (k _ s.heap s.toks (fun _ _ e => e) q)) (kindOk_is hk).2
theorem evalArgs_of {f : Value} {args : List (Bool × Sem Value)} {E : Value → Shared → Prop} {Q : Args → Shared → Prop} (hp : ∀ a ∈ args, a.1 = false) (h : wpAny (model prog w) A (spliced args) (fun vs s' => Q ⟨vs, []⟩ s') E s) :
    wpAny (model prog w) A (evalArgs f true args []) Q E s := by
  cases args with
  | nil =>
    unfold evalArgs
    show wpAny (model prog w) A (pure (⟨[], []⟩ : Args)) Q E s
    exact fun Γ p hΓ => h Γ p hΓ
  | cons a r =>
    obtain ⟨b, x⟩ := a
    obtain rfl : b = false := hp (b, x) (.head _)
    exact evalArgs_plain h
end
end Mine
namespace Mine
open PySem PySem.W PyProof.Rows PySem.Calls
theorem KeepAll.trans {a b c : Heap} (x : KeepAll a b) (y : KeepAll b c) : KeepAll a c := fun p o e => y p o (x p o e)
section
variable (prog : Program) (w : World) (hb : Heap) (mg mb : Str → Option Value) (g : Cfg) (d : Nat)

/-- the state in which an expression is evaluated -/
structure At (mu : List Addr) (A : Around) (s : Shared) (env : Env) (l : Ls) : Prop where
  fm : Fm w.params mu env s.heap l
  live : Live mu s.heap
  base : KeepAll hb s.heap
  room : Rm A d
variable {prog w hb mg mb g d}
theorem At.go {mu : List Addr} {A : Around} {s : Shared} {env : Env} {l : Ls} (X : At w hb d mu A s env l) {h' : Heap} {tk : Nat} (k : KeepAll s.heap h') : At w hb d mu A { s with heap := h', toks := tk } env l :=
  ⟨X.fm.keep k, X.live.keep k, X.base.trans k, X.room⟩
variable (prog w hb mg mb g d)

/-- what a loop may go over -/
noncomputable def ItOf (mu : List Addr) (h : Heap) (vs : List V) (xv : Value) : Prop :=
  ∀ (A : Around) (s : Shared) (Q : Value → Shared → Prop) (E : Value → Shared → Prop), A.handled = none → KeepAll h s.heap →
    (∀ o fp Pd St tk, Walks prog w A s.heap.objs.size fp [s.heap.objs.size] vs.length Pd St → St 0 (s.heap.push o) → (∀ i h, St i h → ∃ o, h.get? s.heap.objs.size = some o ∧ o.cls ≠ .type "list") →
      (∀ b ∈ fp, b = s.heap.objs.size ∨ ((∃ o, h.get? b = some o) ∧ b ∉ mu)) →
      (∀ i v, i < vs.length → Pd i v → ∃ u, vs[i]? = some u ∧ Rep w.params mu h u v) →
      Q (.ref s.heap.objs.size) { s with heap := s.heap.push o, toks := tk }) →
    wpAny (model prog w) A (pyIter xv) Q E s

structure Snd (n : Nat) : Prop where
  ev : ∀ {env l e mu s A}, At w hb d mu A s env l → (ev g env.kindOf n l e).2 → Tr prog w A (eval e env) s (fun v h => Rep w.params mu h (ev g env.kindOf n l e).1 v)
  evT : ∀ {env l e mu s A}, At w hb d mu A s env l → (evT g env.kindOf n l e).2 → Tr prog w A (isTrue e env (eval e env)) s (fun v h => v = (evT g env.kindOf n l e).1)
  evAnd : ∀ {env l es mu s A}, At w hb d mu A s env l → (evAnd g env.kindOf n l es).2 → Tr prog w A (allTrue .And es env) s (fun v h => v = (evAnd g env.kindOf n l es).1)
  evOr : ∀ {env l es mu s A}, At w hb d mu A s env l → (evOr g env.kindOf n l es).2 → Tr prog w A (allTrue .Or es env) s (fun v h => v = (evOr g env.kindOf n l es).1)
  evO : ∀ {env l e mu s A}, At w hb d mu A s env l → (evO g env.kindOf n l e).2 → Tr prog w A (evalPart e env) s (fun v h => Rep w.params mu h (evO g env.kindOf n l e).1 v)
  evs : ∀ {env l es mu s A pos}, At w hb d mu A s env l → (evs g env.kindOf n l es).2 → (∀ a ∈ backTo pos (starEach es env), a.1 = false) ∧ Tr prog w A (spliced (backTo pos (starEach es env))) s (fun v h => Reps w.params mu h (evs g env.kindOf n l es).1 v)
  evI : ∀ {env l e mu s A}, At w hb d mu A s env l → (evI g env.kindOf n l e).2 → (∀ x, foldedSetIterable e env x = pure x) ∧ Tr prog w A (eval e env) s (fun v h => ItOf prog w mu h (evI g env.kindOf n l e).1 v)
variable {prog w hb mg mb g d}
variable {n : Nat} {env : Env} {l : Ls} {mu : List Addr} {s : Shared} {A : Around}

theorem snd_zero : Snd prog w hb g d 0 :=
  ⟨fun _ h => h.elim, fun _ h => h.elim, fun _ h => h.elim, fun _ h => h.elim, fun _ h => h.elim, fun _ h => h.elim, fun _ h => h.elim⟩

theorem snd_And (S : Snd prog w hb g d n) {es : List Expr} (X : At w hb d mu A s env l) (h : (evAnd g env.kindOf (n + 1) l es).2) :
    Tr prog w A (allTrue .And es env) s (fun v _ => v = (evAnd g env.kindOf (n + 1) l es).1) := by
  cases es with
  | nil => exact Tr.of fun R k => wpAny_allTrue_And_nil (k _ s.heap s.toks (fun _ _ e => e) rfl)
  | cons e r =>
    rw [evAnd_cons] at h ⊢
    refine Tr.of fun R k => wpAny_allTrue_And_cons ?_
    split at h
    · rename_i ht
      refine (S.evT X h.1).use fun b h' tk kk q => ?_
      subst q
      rw [if_pos ht] at k ⊢
      exact (S.evAnd (X.go kk) h.2).use fun b h'' tk' kk' q => k _ _ _ (kk.trans kk') q
    · rename_i ht
      refine (S.evT X h).use fun b h' tk kk q => ?_
      subst q
      rw [if_neg ht] at k ⊢
      exact k _ _ _ kk rfl
theorem snd_Or (S : Snd prog w hb g d n) {es : List Expr} (X : At w hb d mu A s env l) (h : (evOr g env.kindOf (n + 1) l es).2) :
    Tr prog w A (allTrue .Or es env) s (fun v _ => v = (evOr g env.kindOf (n + 1) l es).1) := by
  cases es with
  | nil => exact Tr.of fun R k => fun Γ p hΓ => k _ s.heap s.toks (fun _ _ e => e) rfl
  | cons e r =>
    rw [evOr_cons] at h ⊢
    refine Tr.of fun R k => wpAny_allTrue_Or_cons ?_
    split at h
    · rename_i ht
      refine (S.evT X h).use fun b h' tk kk q => ?_
      subst q
      rw [if_pos ht] at k ⊢
      exact k _ _ _ kk rfl
    · rename_i ht
      refine (S.evT X h.1).use fun b h' tk kk q => ?_
      subst q
      rw [if_neg ht] at k ⊢
      exact (S.evOr (X.go kk) h.2).use fun b h'' tk' kk' q => k _ _ _ (kk.trans kk') q
theorem snd_O (S : Snd prog w hb g d n) {e : Option Expr} (X : At w hb d mu A s env l) (h : (evO g env.kindOf (n + 1) l e).2) :
    Tr prog w A (evalPart e env) s (fun v h => Rep w.params mu h (evO g env.kindOf (n + 1) l e).1 v) := by
  cases e with
  | none => exact Tr.pure (by show Rep _ _ _ V.none _; unfold Rep; rfl)
  | some e => exact S.ev X h
theorem snd_Tv (S : Snd prog w hb g d n) {e : Expr} (X : At w hb d mu A s env l) (he : evT g env.kindOf (n + 1) l e = ((truV (ev g env.kindOf n l e).1).1, (ev g env.kindOf n l e).2 ∧ (truV (ev g env.kindOf n l e).1).2)) (hi : isTrue e env (eval e env) = (do let v ← eval e env; standAt e.pos; holding [v] (truthy v))) (h : (evT g env.kindOf (n + 1) l e).2) :
    Tr prog w A (isTrue e env (eval e env)) s (fun v _ => v = (evT g env.kindOf (n + 1) l e).1) := by
  rw [he] at h ⊢
  exact Tr.of fun R k => wpAny_isTrue_value ((S.ev X h.1).use fun v h' tk kk r => (truV_ok (s := { s with heap := h', toks := tk }) h.2 r).use fun c h'' tk' kk' e => k _ _ _ (kk.trans kk') e) hi
theorem snd_T (B : Base prog w hb mg mb g d) (S : Snd prog w hb g d n) {e : Expr} (X : At w hb d mu A s env l) (h : (evT g env.kindOf (n + 1) l e).2) :
    Tr prog w A (isTrue e env (eval e env)) s (fun v _ => v = (evT g env.kindOf (n + 1) l e).1) := by
  cases e with
  | UnaryOp op a p =>
    cases op with
    | Not => exact Tr.of fun R k => wpAny_isTrue_Not ((S.evT X (e := a) h).use fun b h' tk kk q => k _ _ _ kk (by rw [q]; rfl))
    | _ => exact snd_Tv S X rfl rfl h
  | BoolOp op es p =>
    cases op with
    | And => exact Tr.of fun R k => wpAny_isTrue_BoolOp ((S.evAnd X (es := es) h).use k)
    | Or => exact Tr.of fun R k => wpAny_isTrue_BoolOp ((S.evOr X (es := es) h).use k)
  | Compare a ops bs p =>
    rcases ops with _ | ⟨op, _ | ⟨o2, r⟩⟩
    · exact h.elim
    · rcases bs with _ | ⟨b, _ | ⟨b2, r⟩⟩
      · exact h.elim
      · rw [evT_cmp] at h ⊢
        refine Tr.of fun R k => wpAny_isTrue_Compare1 ((S.ev X h.1).use fun a h1 t1 k1 ra => (S.ev (X.go k1) h.2.1).use fun b h2 t2 k2 rb => ?_) h.2.2.2
        refine (cmpV_ok (w := w) (s := { s with heap := h2, toks := t2 }) (g := g) B.mem (X.base.trans (k1.trans k2)) h.2.2.1 (ra.all k2) rb).use fun c h3 t3 k3 e => ?_
        subst e
        exact wpAny_truthy_bool (k _ h3 t3 (k1.trans (k2.trans k3)) rfl)
      · exact h.elim
    · exact h.elim
  | IfExp _ _ _ _ => exact absurd h.1 (by cases n <;> exact id)
  | _ => exact snd_Tv S X rfl rfl h
end
end Mine
namespace Mine
open PySem PySem.W PyProof.Rows PySem.Calls
section
variable {prog : Program} {w : World} {hb : Heap} {mg mb : Str → Option Value} {g : Cfg} {d : Nat}
variable {n : Nat} {env : Env} {l : Ls} {mu : List Addr} {s : Shared} {A : Around}

theorem starEach_plain {e : Expr} {r : List Expr} (h : ∀ x p, e ≠ .Starred x p) : starEach (e :: r) env = (false, eval e env) :: starEach r env := by
  cases e <;> first | rfl | exact absurd rfl (h _ _)
theorem snd_s (S : Snd prog w hb g d n) {es : List Expr} {pos : Pos} (X : At w hb d mu A s env l) (h : (evs g env.kindOf (n + 1) l es).2) :
    (∀ a ∈ backTo pos (starEach es env), a.1 = false) ∧ Tr prog w A (spliced (backTo pos (starEach es env))) s (fun v h => Reps w.params mu h (evs g env.kindOf (n + 1) l es).1 v) := by
  cases es with
  | nil => exact ⟨fun a ha => (by cases ha), Tr.pure (by show Reps _ _ _ [] _; unfold Reps; rfl)⟩
  | cons e r =>
    rw [evs_cons] at h ⊢
    have hne := h.2.2
    have he : starEach (e :: r) env = (false, eval e env) :: starEach r env := starEach_plain hne
    have hb' : backTo pos (starEach (e :: r) env) = (false, eval e env) :: backTo pos (starEach r env) := by rw [he]; rfl
    rw [hb']
    refine ⟨fun a ha => ?_, Tr.of fun R k => spliced_cons ((S.ev X h.1).use fun v h' tk kk rv => (S.evs (pos := pos) (X.go kk) h.2.1).2.use fun vs h'' tk' kk' rvs => k _ _ _ (kk.trans kk') ?_)⟩
    · rcases List.mem_cons.mp ha with rfl | ha
      · rfl
      · exact (S.evs (pos := pos) X h.2.1).1 a ha
    · show Reps _ _ _ (_ :: _) _
      unfold Reps
      exact ⟨_, _, rfl, rv.all kk', rvs⟩

/-- a call of a value that the machine calls, by its place -/
theorem tr_callWith {fv : Value} {args : List (Bool × Sem Value)} {pos : Pos} {Q : Value → Heap → Prop} {P : List Value → Heap → Prop} (hfv : (∃ id, fv = .builtin id) ∨ ∃ T, fv = .type T) (hp : ∀ a ∈ args, a.1 = false) (first : List Value)
    (h : Tr prog w A (spliced args) s P) (hc : ∀ vs h' tk, KeepAll s.heap h' → P vs h' → Tr prog w A (call fv (first ++ vs)) { s with heap := h', toks := tk } Q) : Tr prog w A (callWith pos fv first args []) s Q := by
  have hp' : args.any (·.1) = false := by
    rw [Bool.eq_false_iff]; intro q
    obtain ⟨a, ha, e⟩ := List.any_eq_true.mp q
    rw [hp a ha] at e; cases e
  refine Tr.of fun R k => ?_
  have go : ∀ vs h' tk, KeepAll s.heap h' → P vs h' → wpAny (model prog w) A (call fv (first ++ vs)) R (fun _ _ => False) { s with heap := h', toks := tk } :=
    fun vs h' tk kk p => (hc vs h' tk kk p).use fun v h'' tk' kk' q => k _ _ _ (kk.trans kk') q
  rcases hfv with ⟨id, rfl⟩ | ⟨T, rfl⟩
  · exact callWith_builtin hp' (evalArgs_of hp (h.use go))
  · exact PySem.callWith_type hp' (evalArgs_of hp (h.use go))
theorem tr_call_name {f : Str} {p pos : Pos} {args : List Expr} {Q : Value → Heap → Prop} {t : Value → Sem Value} (h : Tr prog w A (eval (.Name f p) env) s (fun v h' => ∀ tk, Tr prog w A (callWith pos v [] (backTo pos (starEach args env)) []) { s with heap := h', toks := tk } Q)) :
    Tr prog w A (eval (.Call (.Name f p) args [] pos) env) s Q := by
  rw [arm_eval_Call_Name']
  refine Tr.of fun R k => wpAny_bind (h.use fun v h' tk kk q => ?_)
  exact (q tk).use fun v h'' tk' kk' q' => k _ _ _ (kk.trans kk') q'

theorem rangeUp_length (c : Int) : ∀ (n : Nat) (a : Int), (rangeUp a c n).length = n
  | 0, a => rfl
  | n + 1, a => congrArg (· + 1) (rangeUp_length c n (a + c))
theorem rangeUp_get (c : Int) : ∀ (n : Nat) (a : Int) (i : Nat), i < n → (rangeUp a c n)[i]? = some (a + i * c)
  | 0, a, i, h => by lia
  | n + 1, a, 0, h => by show some a = _; simp
  | n + 1, a, i + 1, h => by
    show (rangeUp (a + c) c n)[i]? = _
    rw [rangeUp_get c n (a + c) i (by lia)]
    congr 1
    have : ((i + 1 : Nat) : Int) * c = i * c + c := by rw [Int.natCast_add, Int.add_mul]; simp
    rw [this]; lia
theorem rangeSize_is {a b c : Int} (hc : 0 < c) : Builtin.Range.rangeSize a b c = (((b - a + c - 1).fdiv c).toNat : Int) := by
  unfold Builtin.Range.rangeSize
  rw [if_pos (by lia), Int.fdiv_eq_ediv_of_nonneg _ (by lia)]
  split
  · rename_i h
    have e : (b - a + c - 1) = (b - a - 1) + c * 1 := by lia
    rw [e, Int.add_mul_ediv_left _ _ (by lia)]
    have : 0 ≤ (b - a - 1) / c := Int.ediv_nonneg (by lia) (by lia)
    lia
  · rename_i h
    have : (b - a + c - 1) / c ≤ 0 := by
      have h1 : (b - a + c - 1) / c < 1 := Int.ediv_lt_of_lt_mul hc (by lia)
      lia
    lia
theorem rangeV_small {a b c : Int} (h : (rangeV a b c).2) : Builtin.Range.small a b c = true := by
  obtain ⟨h1, h2, h3, h4, h5, h6⟩ := h
  unfold lenLid at h3 h4 h5 h6
  unfold Builtin.Range.small
  have hs : 0 ≤ Builtin.Range.rangeSize a b c ∧ Builtin.Range.rangeSize a b c ≤ 200001 := by
    rw [rangeSize_is h1]
    refine ⟨by lia, ?_⟩
    rw [Int.fdiv_eq_ediv_of_nonneg _ (by lia)]
    have : (b - a + c - 1) / c ≤ 200001 := by
      have : (b - a + c - 1) / c < 200001 + 1 := by
        apply Int.ediv_lt_of_lt_mul h1
        have e : (200001 + 1) * c = 200002 * c := rfl
        rw [e]; lia
      lia
    lia
  unfold Builtin.Range.rangeFitsLong
  simp only [Bool.and_eq_true, Bool.or_eq_true, beq_iff_eq, decide_eq_true_eq]
  refine ⟨⟨⟨⟨⟨?_, ?_⟩, ?_, ?_⟩, ?_, ?_⟩, ?_, ?_⟩, .inr ?_⟩ <;> first | lia | (rw [if_pos (by lia)]; simp only [Bool.and_eq_true, decide_eq_true_eq]; lia)
/-- a range that stands, as what a loop goes over -/
theorem it_range {a b c : Int} {r : Addr} {t u v : Tok} {h : Heap} (hx : (rangeV a b c).2) (hr : IsRange h r a b c t u v) : ItOf prog w mu h ((rangeV a b c).1.map .int) (.ref r) := by
  intro A s Q E hh kk K
  have hl : ((rangeV a b c).1.map V.int).length = ((b - a + c - 1).fdiv c).toNat := by rw [List.length_map]; exact rangeUp_length c _ a
  refine wpAny_pyIter_range (kk _ _ hr) (rangeV_small hx) ?_
  refine K _ [s.heap.objs.size] (fun i v => ∃ t, v = .int (a + i * c) t) (fun i h => IsRangeIter h s.heap.objs.size (a + i * c) ((((b - a + c - 1).fdiv c).toNat : Int) - i) c) _ ?_ ?_ (fun i h e => ⟨_, e, by simp⟩) ?_ ?_
  · rw [hl]; exact Walks.range hh _ a c _
  · show Heap.get? _ _ = _
    rw [get_push (by intro e; cases e), rangeSize_is hx.1]
    simp
  · intro b hb; exact .inl (List.mem_singleton.mp hb)
  · rintro i v hi ⟨t, rfl⟩
    rw [hl] at hi
    refine ⟨.int (a + i * c), ?_, by unfold Rep; exact ⟨_, rfl⟩⟩
    rw [List.getElem?_map, show (rangeV a b c).1 = rangeUp a c ((b - a + c - 1).fdiv c).toNat from rfl, rangeUp_get c _ a i hi]; rfl
theorem it_items {v : V} {wv : Value} {h : Heap} (hx : (itemsV v).2) (r : Rep w.params mu h v wv) : ItOf prog w mu h (itemsV v).1 wv := by
  cases v
  case list xs =>
    have hx : xs.length ≤ lenLid := hx
    show ItOf prog w mu h xs wv
    unfold Rep at r
    obtain ⟨a, ws, rfl, ha, la, ra⟩ := r
    intro A s Q E hh kk K
    have la' := isList_keep la (fun o => kk a o)
    have hlen := ra.length
    have hne : a ≠ s.heap.objs.size := by
      obtain ⟨o, g, _⟩ := la'
      exact Nat.ne_of_lt (Heap.lt_size g)
    refine wpAny_pyIter_list la' ?_
    refine K _ [s.heap.objs.size, a] (fun i v => ws.toArray[i]? = some v) (fun i h => Heap.IsListIter h s.heap.objs.size a i ∧ Heap.IsList h a ws.toArray) _ ?_ ?_ (fun i h e => let ⟨⟨o, g, c, _⟩, _⟩ := e; ⟨o, g, by rw [c]; simp⟩) ?_ ?_
    · have := Walks.list (prog := prog) (w := w) hh s.heap.objs.size a hne ws.toArray
      have hz : ws.toArray.size = xs.length := by rw [List.size_toArray]; exact hlen
      rw [hz] at this; exact this
    · exact ⟨⟨_, get_push (by intro e; cases e), rfl, rfl⟩, isList_keep la' (fun o => keepAll_push _ o)⟩
    · intro b hb
      rcases List.mem_cons.mp hb with rfl | hb
      · exact .inl rfl
      · rcases List.mem_singleton.mp hb with rfl
        obtain ⟨o, g, _⟩ := la
        exact .inr ⟨⟨o, g⟩, ha⟩
    · intro i v hi hv
      have hv : ws[i]? = some v := by simpa using hv
      have : i < xs.length := hi
      obtain ⟨y, ey, ry⟩ := ra.get (List.getElem?_eq_getElem this)
      rw [hv] at ey; cases ey
      exact ⟨_, List.getElem?_eq_getElem this, ry⟩
  case str xs =>
    have hx : xs.length ≤ lenLid := hx
    show ItOf prog w mu h (xs.map fun c => V.str [c]) wv
    unfold Rep at r
    obtain ⟨t, rfl⟩ := r
    intro A s Q E hh kk K
    have hz : (Str.cps ⟨xs.toArray⟩).size = (xs.map fun c => V.str [c]).length := by simp
    have hp : ∀ b ∈ [s.heap.objs.size], b = s.heap.objs.size ∨ ((∃ o, h.get? b = some o) ∧ b ∉ mu) := fun b hb => .inl (List.mem_singleton.mp hb)
    have hi : ∀ i v, i < (xs.map fun c => V.str [c]).length → SignAt ⟨xs.toArray⟩ i v → ∃ u, (xs.map fun c => V.str [c])[i]? = some u ∧ Rep w.params mu h u v := by
      rintro i v hi ⟨c, u, e, rfl⟩
      have e : xs[i]? = some c := by simpa using e
      exact ⟨.str [c], by rw [List.getElem?_map, e]; rfl, by unfold Rep; exact ⟨_, rfl⟩⟩
    cases ha : (Str.cps ⟨xs.toArray⟩).all (· < 128)
    · refine wpAny_pyIter_wide ha (K _ _ (SignAt ⟨xs.toArray⟩) (fun i h => h.IsStrIter s.heap.objs.size "str_iterator" ⟨xs.toArray⟩ t i) s.toks ?_ ?_ (fun i h e => let ⟨o, g, c, _⟩ := e; ⟨o, g, by rw [c]; simp⟩) hp hi)
      · have := Walks.strWide (prog := prog) (w := w) hh s.heap.objs.size ⟨xs.toArray⟩ t
        rw [hz] at this; exact this
      · exact ⟨_, get_push (by intro e; cases e), rfl, rfl⟩
    · refine wpAny_pyIter_ascii ha (K _ _ (SignAt ⟨xs.toArray⟩) (fun i h => h.IsStrIter s.heap.objs.size "str_ascii_iterator" ⟨xs.toArray⟩ t i) s.toks ?_ ?_ (fun i h e => let ⟨o, g, c, _⟩ := e; ⟨o, g, by rw [c]; simp⟩) hp hi)
      · have := Walks.strAscii (prog := prog) (w := w) hh s.heap.objs.size ⟨xs.toArray⟩ t
        rw [hz] at this; exact this
      · exact ⟨_, get_push (by intro e; cases e), rfl, rfl⟩
  case dict kv =>
    show ItOf prog w mu h (kv.map fun p => V.str p.1) wv
    unfold Rep at r
    obtain ⟨a, rfl, ha, dd⟩ := r
    intro A s Q E hh kk K
    have dd' := dd.keep (fun o => kk a o)
    obtain ⟨kvs, dof, rel⟩ := dd'.dictOf (prog := prog)
    obtain ⟨ep, dat⟩ := dof.dictAt
    have hne : a ≠ s.heap.objs.size := Nat.ne_of_lt dat.lt_size
    have hk := rel.keys
    have hz : kvs.length = (kv.map fun p => V.str p.1).length := by
      have := congrArg List.length hk
      simpa using this
    refine wpAny_pyIter_dict dd.low dat ?_
    refine K _ [s.heap.objs.size, a] (fun i v => ∃ k x, kvs[i]? = some (k, x) ∧ (PySem.strKind prog w).is k v = true) (fun i h => h.IsKeyIter s.heap.objs.size a i kvs.length ep ∧ h.DictAt (PySem.strKind prog w) a kvs ep) _ ?_ ?_ (fun i h e => let ⟨⟨o, g, c, _⟩, _⟩ := e; ⟨o, g, by rw [c]; simp⟩) ?_ ?_
    · have := Walks.dictKeys (prog := prog) (w := w) (knd := PySem.strKind prog w) hh s.heap.objs.size a hne kvs ep
      rw [← hz]; exact this
    · exact ⟨⟨_, get_push (by intro e; cases e), rfl, rfl⟩, dat.push _⟩
    · intro b hb
      rcases List.mem_cons.mp hb with rfl | hb
      · exact .inl rfl
      · rcases List.mem_singleton.mp hb with rfl
        obtain ⟨es, n, g, _⟩ := dd
        exact .inr ⟨⟨_, g⟩, ha⟩
    · rintro i v hi ⟨k, x, e1, e2⟩
      obtain ⟨t, rfl⟩ := Value.isStrOf_shape e2
      have e3 : (kvs.map (·.1))[i]? = some k := by rw [List.getElem?_map, e1]; rfl
      rw [hk, List.getElem?_map] at e3
      cases hp : kv[i]? with
      | none => rw [hp] at e3; cases e3
      | some p =>
        rw [hp] at e3
        have e3 : (⟨p.1.toArray⟩ : Str) = k := by simpa using e3
        subst e3
        exact ⟨.str p.1, by rw [List.getElem?_map, hp]; rfl, by unfold Rep; exact ⟨t, rfl⟩⟩
  all_goals exact hx.elim
end
end Mine
namespace Mine
open PySem PySem.W PyProof.Rows PySem.Calls
section
variable {prog : Program} {w : World} {hb : Heap} {mg mb : Str → Option Value} {g : Cfg} {d : Nat}
variable {n : Nat} {env : Env} {l : Ls} {mu : List Addr} {s : Shared} {A : Around}

theorem boot_range : bootBuiltins ("range" : Str) = some (.type "range") := by decide +kernel
theorem boot_list : bootBuiltins ("list" : Str) = some (.type "list") := by decide +kernel
/-- a range is made -/
theorem none_before {h h' : Heap} (k : KeepAll h h') {a : Addr} (e : h'.get? a = none) : h.get? a = none := by
  cases q : h.get? a with
  | none => rfl
  | some o => have := k _ _ q; rw [e] at this; cases this
/-- a range that stands, and what it goes over -/
inductive RngIs (mu : List Addr) : List V → Value → Heap → Prop where
  | mk {a b c : Int} {r : Addr} {t u v' : Tok} {h' : Heap} (hr : IsRange h' r a b c t u v') (hx : (rangeV a b c).2) (hm : r ∉ mu) : RngIs mu ((rangeV a b c).1.map .int) (.ref r) h'
theorem tr_range (B : Base prog w hb mg mb g d) (S : Snd prog w hb g d n) {f : Str} {p pos : Pos} {args : List Expr} (X : At w hb d mu A s env l) (h : (evI g env.kindOf (n + 1) l (.Call (.Name f p) args [] pos)).2) :
    Tr prog w A (eval (.Call (.Name f p) args [] pos) env) s (fun v h' => RngIs mu (evI g env.kindOf (n + 1) l (.Call (.Name f p) args [] pos)).1 v h') := by
  rw [evI_range] at h ⊢
  by_cases hf : f = ("range" : Str)
  · subst hf
    rw [if_pos rfl] at h ⊢
    obtain ⟨hs, hr, hl, hk⟩ := h
    refine tr_call_name (t := fun v => pure v) (tr_builtin B X.base X.fm hk (B.nob _ (.inr (.inr (.inl rfl)))) (by decide) boot_range fun tk => ?_)
    have X' := X.go (h' := s.heap) (tk := tk) (fun _ _ e => e)
    refine tr_callWith (.inr ⟨_, rfl⟩) (S.evs (pos := pos) X' hs).1 [] (S.evs (pos := pos) X' hs).2 fun vs h' tk' kk r => ?_
    have XF := (X.go (tk := tk') kk).live.fresh
    obtain ⟨hi, hr⟩ := hr
    have hI := ints_areV hi r
    clear r hs
    show Tr prog w A _ _ (fun v h' => RngIs mu (rangeI (intsV (evs g env.kindOf n l args).1).1).1 v h')
    generalize (intsV (evs g env.kindOf n l args).1).1 = is at hr hI ⊢
    cases hI with
    | nil => exact hr.elim
    | cons a t q => cases q with
      | nil => exact Tr.of fun R k => call_range_1 (k _ _ _ keepAll_push (.mk (a := 0) (b := a) (c := 1) (get_push (by intro e; cases e)) hr XF))
      | cons b t2 q => cases q with
        | nil => exact Tr.of fun R k => call_range_2 (k _ _ _ keepAll_push (.mk (a := a) (b := b) (c := 1) (get_push (by intro e; cases e)) hr XF))
        | cons c t3 q => cases q with
          | nil =>
            have hr' : (rangeV a b c).2 := hr
            exact Tr.of fun R k => call_range_3 (Int.ne_of_gt hr'.1) (k _ _ _ keepAll_push (.mk (get_push (by intro e; cases e)) hr XF)) (.inl (PyProof.noPylong_small (by have := hr'.1; have := hr'.2.1; lia)))
          | cons _ _ _ => exact hr.elim
  · rw [if_neg hf] at h; exact h.elim
theorem snd_I (B : Base prog w hb mg mb g d) (S : Snd prog w hb g d n) {e : Expr} (X : At w hb d mu A s env l) (h : (evI g env.kindOf (n + 1) l e).2) :
    (∀ x, foldedSetIterable e env x = pure x) ∧ Tr prog w A (eval e env) s (fun v h => ItOf prog w mu h (evI g env.kindOf (n + 1) l e).1 v) := by
  cases hc : callV e with
  | some p =>
    obtain ⟨f, args⟩ := p
    obtain ⟨fp, pos, rfl⟩ := callV_form hc
    refine ⟨fun _ => rfl, (tr_range B S X h).mono fun v h' kk q => ?_⟩
    revert q
    generalize (evI g env.kindOf (n + 1) l (.Call (.Name f fp) args [] pos)).1 = vs
    rintro ⟨hr, hx, hm⟩
    exact it_range hx hr
  | none =>
    rw [evI_src hc] at h ⊢
    exact ⟨h.1 env, (S.ev X h.2.1).mono fun v h' kk q => it_items h.2.2 q⟩

theorem carried_reps {P : Params} {h : Heap} : ∀ {ys : List Value} {ns : List Int}, CarriedAll ys (ns.map PyData.int) → Reps P mu h (ns.map .int) ys
  | _, [], c => by
    cases c; unfold Reps; rfl
  | _, i :: ns, c => by
    cases c with
    | cons c r =>
      cases c
      rw [List.map_cons]
      unfold Reps
      exact ⟨_, _, rfl, by unfold Rep; exact ⟨_, rfl⟩, carried_reps r⟩
theorem rangeUp_is (a c : Int) (n : Nat) : rangeUp a c n = rangeInts a c n := by
  apply List.ext_getElem?
  intro i
  by_cases h : i < n
  · rw [rangeUp_get c n a i h]
    unfold rangeInts
    simp [h]
  · rw [List.getElem?_eq_none (by rw [rangeUp_length]; lia), List.getElem?_eq_none (by unfold rangeInts; simp; lia)]
/-- a new list of a range: nothing else knows it -/
theorem range_few {a b c : Int} (hx : (rangeV a b c).2) : ((b - a + c - 1).fdiv c).toNat ≤ 2 ^ 24 := by
  obtain ⟨h1, h2, h3, h4, h5, h6⟩ := hx
  unfold lenLid at h3 h4 h5 h6
  rw [Int.fdiv_eq_ediv_of_nonneg _ (Int.le_of_lt h1)]
  have : (b - a + c - 1) / c < 200001 + 1 := by
    apply Int.ediv_lt_of_lt_mul h1
    have e : (200001 + 1) * c = 200002 * c := rfl
    rw [e]; lia
  lia
/-- a list that is new -/
inductive NewL (P : Params) (mu : List Addr) (h : Heap) (vs : List V) : Value → Heap → Prop where
  | mk {a : Addr} {ws : List Value} {h' : Heap} (fa : h.get? a = none) (na : a ∉ mu) (hl : h'.PlainList a (List.toArray ws)) (hr : Reps P mu h' vs ws) : NewL P mu h vs (.ref a) h'
theorem list_rngs (B : Base prog w hb mg mb g d) (X : At w hb d mu A s env l) {vs : List V} {v : Value} (q : RngIs mu vs v s.heap) : Tr prog w A (call (.type "list") [v]) s (fun v h' => NewL w.params mu s.heap vs v h') := by
  obtain ⟨hr, hx, hm⟩ := q
  have F : Fr ⟨#[], {}⟩ mainGlobals s.heap mg := ⟨B.gns.keeps X.base, fun b o e => by have := Heap.lt_size e; exact absurd this (Nat.not_lt_zero _), Nat.zero_le _⟩
  refine Tr.of fun R k => list_rangeD (news := []) X.room.handled F (fun p hp => by cases hp) hr (rangeV_small hx) (rangeSize_is hx.1) (range_few hx) fun h'' tk'' ys F' N' kk' hf hl hp hc => k _ _ _ kk' ?_
  refine .mk (fresh_none' (Nat.le_refl _)) X.live.fresh hp.1 ?_
  show Reps _ _ _ ((rangeUp _ _ _).map _) _
  rw [rangeUp_is]
  exact carried_reps hc
theorem tr_list_range (B : Base prog w hb mg mb g d) (S : Snd prog w hb g d n) {f r : Str} {p rp cp pos : Pos} {as : List Expr} (X : At w hb d mu A s env l) (hf : f = ("list" : Str))
    (h : (evI g env.kindOf (n + 1) l (.Call (.Name r rp) as [] cp)).2) (hk : kindOk env.kindOf f = true) :
    Tr prog w A (eval (.Call (.Name f p) [.Call (.Name r rp) as [] cp] [] pos) env) s (fun v h' => NewL w.params mu s.heap (evI g env.kindOf (n + 1) l (.Call (.Name r rp) as [] cp)).1 v h') := by
  subst hf
  refine tr_call_name (t := fun v => pure v) (tr_builtin B X.base X.fm hk (B.nob _ (.inr (.inl rfl))) (by decide) boot_list fun tk => ?_)
  have X' := X.go (h' := s.heap) (tk := tk) (fun _ _ e => e)
  have hb1 : backTo pos (starEach [.Call (.Name r rp) as [] cp] env) = [(false, eval (.Call (.Name r rp) as [] cp) env)] := rfl
  rw [hb1]
  refine tr_callWith (P := fun vs h' => ∃ q, vs = [q] ∧ RngIs mu (evI g env.kindOf (n + 1) l (.Call (.Name r rp) as [] cp)).1 q h') (.inr ⟨_, rfl⟩) (fun a ha => by rcases List.mem_singleton.mp ha with rfl; rfl) [] ?_ ?_
  · exact Tr.of fun R k => spliced_cons ((tr_range B S X' h).use fun v h' tk kk q => spliced_nil (k _ _ _ kk ⟨_, rfl, q⟩))
  · rintro vs h' tk' kk ⟨q, rfl, hq⟩
    refine (list_rngs B (X'.go (tk := tk') kk) hq).mono fun v h'' kk' r => ?_
    revert r
    generalize (evI g env.kindOf (n + 1) l (.Call (.Name r rp) as [] cp)).1 = vs
    rintro ⟨fa, na, hl, hr⟩
    exact .mk (none_before kk fa) na hl hr
end
end Mine
namespace Mine
open PySem PySem.W PyProof.Rows PySem.Calls

section
variable {env : Env} {scope : Scope}
theorem forIn_cells {names : List (Str × NameKind)} (hf : ∀ p ∈ names, p.2 = NameKind.free → ∃ c, env.cells.lookup p.1 = some c) : ∀ (cs : List (Str × Addr)), (∀ p ∈ cs, env.cells.lookup p.1 = some p.2) →
    ∃ cs', (forIn names cs (fun p (r : List (Str × Addr)) => if (p.2 == NameKind.free) = true then (do let c ← cellOf env p.1; pure (ForInStep.yield ((p.1, c) :: r))) else pure (ForInStep.yield r)) : Sem (List (Str × Addr))) = pure cs' ∧
      (∀ p ∈ cs', env.cells.lookup p.1 = some p.2) ∧ (∀ p ∈ cs, p ∈ cs') ∧ ∀ p ∈ names, p.2 = .free → ∃ c, (p.1, c) ∈ cs' := by
  induction names with
  | nil => exact fun cs h => ⟨cs, rfl, h, fun _ h => h, fun p hp => by cases hp⟩
  | cons p r ih =>
    intro cs h
    by_cases hk : (p.2 == NameKind.free) = true
    · obtain ⟨c, hc⟩ := hf p (.head _) (by simpa using hk)
      obtain ⟨cs', e, h1, h2, h3⟩ := ih (fun q hq => hf q (.tail _ hq)) ((p.1, c) :: cs) (fun q hq => by
        rcases List.mem_cons.mp hq with rfl | hq
        · exact hc
        · exact h q hq)
      refine ⟨cs', ?_, h1, fun q hq => h2 q (.tail _ hq), fun q hq e => ?_⟩
      · rw [List.forIn_cons, if_pos hk]
        unfold cellOf
        rw [hc]
        exact e
      · rcases List.mem_cons.mp hq with rfl | hq
        · exact ⟨c, h2 _ (.head _)⟩
        · exact h3 q hq e
    · obtain ⟨cs', e, h1, h2, h3⟩ := ih (fun q hq => hf q (.tail _ hq)) cs h
      refine ⟨cs', ?_, h1, h2, fun q hq e => ?_⟩
      · rw [List.forIn_cons, if_neg hk]; exact e
      · rcases List.mem_cons.mp hq with rfl | hq
        · exact absurd (by rw [e]; rfl) hk
        · exact h3 q hq e
theorem lookup_mem {x : Str} {c : Addr} : ∀ {cs : List (Str × Addr)}, (x, c) ∈ cs → ∃ c', cs.lookup x = some c'
  | [], h => by cases h
  | (y, e) :: r, h => by
    by_cases hy : (x == y) = true
    · exact ⟨e, by simp [List.lookup_cons, hy]⟩
    · rcases List.mem_cons.mp h with h | h
      · cases h; simp at hy
      · obtain ⟨c', e'⟩ := lookup_mem h
        exact ⟨c', by simp only [List.lookup_cons]; rw [show (x == y) = false from by simpa using hy]; exact e'⟩
theorem mem_lookup {x : Str} {c : Addr} : ∀ {cs : List (Str × Addr)}, cs.lookup x = some c → (x, c) ∈ cs
  | [], h => by cases h
  | (y, e) :: r, h => by
    rw [List.lookup_cons] at h
    by_cases hy : (x == y) = true
    · rw [hy] at h
      cases h
      obtain rfl := eq_of_beq hy
      exact .head _
    · rw [show (x == y) = false from by simpa using hy] at h
      exact .tail _ (mem_lookup h)
theorem closure_ok (hf : ∀ p ∈ scope.names, p.2 = NameKind.free → ∃ c, env.cells.lookup p.1 = some c) :
    ∃ cl, closureFor scope env = pure cl ∧ ∀ p ∈ scope.names, p.2 = .free → cl.lookup p.1 = env.cells.lookup p.1 := by
  obtain ⟨cs', e, h1, h2, h3⟩ := forIn_cells hf [] (fun p hp => by cases hp)
  refine ⟨cs', ?_, fun p hp hk => ?_⟩
  · unfold closureFor
    exact (congrArg (fun m : Sem (List (Str × Addr)) => m >>= fun cs => pure cs) e).trans rfl
  · obtain ⟨c, hc⟩ := h3 p hp hk
    obtain ⟨c', e'⟩ := lookup_mem hc
    rw [e', h1 _ (mem_lookup e')]

theorem at_put {l : Ls} {x : Str} {v : Loc} : ∀ {y : Str}, (l.put x v).at y = if y = x then some v.v else l.at y := by
  induction l with
  | nil =>
    intro y
    show (if x = y then some v.v else none) = if y = x then some v.v else none
    by_cases h : x = y
    · rw [if_pos h, if_pos h.symm]
    · rw [if_neg h, if_neg (Ne.symm h)]
  | cons p r ih =>
    intro y
    obtain ⟨z, u⟩ := p
    show Ls.at (if z = x then (x, v) :: r else (z, u) :: Ls.put r x v) y = if y = x then some v.v else if z = y then some u.v else Ls.at r y
    by_cases hz : z = x
    · subst hz
      rw [if_pos rfl]
      show (if z = y then some v.v else Ls.at r y) = _
      by_cases h : z = y
      · subst h; rw [if_pos rfl, if_pos rfl]
      · rw [if_neg h, if_neg h, if_neg (Ne.symm h)]
    · rw [if_neg hz]
      show (if z = y then some u.v else Ls.at (Ls.put r x v) y) = _
      by_cases h : z = y
      · subst h; rw [if_pos rfl, if_neg hz, if_pos rfl]
      · rw [if_neg h, if_neg h]; exact ih
theorem at_capt {l : Ls} {k : Kd} {y : Str} {v : V} (h : (l.capt k).at y = some v) : l.at y = some v ∧ (k y = some .cell ∨ k y = some .free) := by
  induction l with
  | nil => cases h
  | cons p r ih =>
    obtain ⟨z, u⟩ := p
    unfold Ls.capt at h ih
    rw [List.filter_cons] at h
    split at h
    · rename_i hk
      simp only [Ls.at] at h ⊢
      by_cases hz : z = y
      · subst hz
        rw [if_pos rfl] at h ⊢
        refine ⟨h, ?_⟩
        simpa using hk
      · rw [if_neg hz] at h ⊢; exact ih h
    · rename_i hk
      simp only [Ls.at]
      by_cases hz : z = y
      · subst hz
        obtain ⟨h1, h2⟩ := ih h
        exact absurd (by simpa using h2) hk
      · rw [if_neg hz]; exact ih h
theorem kindOf_comp (hk : env.scope.kind = .function) (cl : List (Str × Addr)) (C : Addr) : (compEnvC scope cl C env).kindOf = inKind env.kindOf scope := by
  funext x
  show List.lookup x (relabel scope env).names = _
  unfold inKind relabel selfKind
  congr 1
  apply List.map_congr_left
  rintro ⟨y, k⟩ _
  simp [hk]
theorem inKind_free {k : Kd} {x y : Str} (h : inKind k scope y = some .cell ∨ inKind k scope y = some .free) (hc : ∀ p ∈ scope.names, p.2 = NameKind.cell → p.1 = x) (hxy : y ≠ x) : (y, NameKind.free) ∈ scope.names := by
  unfold inKind at h
  generalize scope.names = ns at h hc
  induction ns with
  | nil => rcases h with h | h <;> cases h
  | cons p r ih =>
    obtain ⟨z, kz⟩ := p
    rw [List.map_cons, List.lookup_cons] at h
    have hz1 : (selfKind k (z, kz)).1 = z := by unfold selfKind; split <;> rfl
    rw [hz1] at h
    by_cases hy : (y == z) = true
    · rw [hy] at h
      obtain rfl := eq_of_beq hy
      have h' : (selfKind k (y, kz)).2 = .cell ∨ (selfKind k (y, kz)).2 = .free := h.imp Option.some.inj Option.some.inj
      have : kz = .free := by
        by_cases hs : (kz == NameKind.free && k y == some .cell) = true
        · simp only [Bool.and_eq_true, beq_iff_eq] at hs
          exact hs.1
        · have e : selfKind k (y, kz) = (y, kz) := if_neg hs
          rw [e] at h'
          rcases h' with h' | h'
          · exact absurd (hc _ (.head _) h') hxy
          · exact h'
      rw [this]; exact .head _
    · rw [show (y == z) = false from by simpa using hy] at h
      exact .tail _ (ih h fun p hp => hc p (.tail _ hp))
end
end Mine
namespace Mine
open PySem PySem.W PyProof.Rows PySem.Calls
theorem sameBut_keep {a : Addr} {h h' : Heap} (s : Heap.SameBut a h h') : ∀ b o, b ≠ a → h.get? b = some o → h'.get? b = some o := fun b o hb e => (s.2 b hb).trans e
theorem reps_one {P : Params} {mu : List Addr} {h : Heap} {v : V} {wv : Value} (r : Rep P mu h v wv) : Reps P mu h [v] [wv] := by
  unfold Reps; exact ⟨_, _, rfl, r, by unfold Reps; rfl⟩
noncomputable abbrev testsOf (ifs : List Expr) (env : Env) : Sem Bool := forIn ifs true fun c r => if r = true then do let ok ← isTrue c env (eval c env); pure (ForInStep.yield ok) else pure (ForInStep.yield r)
section
variable {prog : Program} {w : World} {hb : Heap} {d : Nat} {env : Env} {l : Ls} {mu : List Addr} {A : Around} {E : Value → Shared → Prop}

theorem fm_comp {scope : Scope} {cl : List (Str × Addr)} {C : Addr} {x : Str} {u : V} {v : Value} {mu' : List Addr} {h₁ h : Heap} (F : Fm w.params mu env h₁ l) (kk : KeepAll h₁ h) (hmu : ∀ a, a ∈ mu' → a ∈ mu ∨ h₁.get? a = none)
    (hkind : scope.kind = .function) (hcell : ∀ y ∈ scope.names, y.2 = .cell → y.1 = x) (hnx : nameOk x = true)
    (hcl : ∀ p ∈ scope.names, p.2 = .free → cl.lookup p.1 = env.cells.lookup p.1) (hcap : ∀ p ∈ scope.names, p.2 = .free → env.kindOf p.1 = some .cell ∨ env.kindOf p.1 = some .free)
    (hrd : Rd (compEnvC scope cl C env) h x v) (ru : Rep w.params mu' h u v) :
    Fm w.params mu' (compEnvC scope cl C env) h ((l.capt (inKind env.kindOf scope)).put x ⟨u, false⟩) := by
  refine ⟨hkind, F.glob, F.blt, fun y t e => ?_⟩
  rw [at_put] at e
  by_cases hy : y = x
  · subst hy
    rw [if_pos rfl] at e
    cases e
    exact ⟨hnx, v, hrd, ru⟩
  · rw [if_neg hy] at e
    obtain ⟨e1, e2⟩ := at_capt e
    obtain ⟨n1, wv, r1, r2⟩ := F.read y t e1
    have hfree := inKind_free e2 hcell hy
    have hk := hcap _ hfree rfl
    refine ⟨n1, wv, .inr ⟨by rw [kindOf_comp F.kind]; exact e2, ?_⟩, (r2.more hmu).all kk⟩
    rcases r1 with ⟨q, _⟩ | ⟨_, c, q1, q2⟩
    · exfalso
      have q : env.kindOf y = some .local := q
      rcases hk with hk | hk <;> (have hk : env.kindOf y = _ := hk; rw [q] at hk; cases hk)
    · refine ⟨c, (hcl _ hfree rfl).trans q1, ?_⟩
      obtain ⟨o, g, dd⟩ := q2
      exact ⟨o, kk _ _ g, dd⟩

/-- the turns of a comprehension; Wd is where the variable is kept -/
theorem comp_loop {elt iter : Expr} {x : Str} {px : Pos} {ifs : List Expr} {scope : Scope} {cl : List (Str × Addr)} {pos : Pos} {vs : List V} {p : V → Bool} {f : V → V} {s₁ : Shared} {o : Obj} {fp : List Addr} {Pd : Nat → Value → Prop} {St : Nat → Heap → Prop} {C D Wd : Addr} {h₁ : Heap} {Hd : Heap → Prop}
    (X : At w hb d mu A s₁ env l) (W : Walks prog w A s₁.heap.objs.size fp [s₁.heap.objs.size] vs.length Pd St) (h0 : St 0 (s₁.heap.push o)) (hI : ∀ i h, St i h → ∃ o, h.get? s₁.heap.objs.size = some o)
    (hfp : ∀ b ∈ fp, b = s₁.heap.objs.size ∨ ((∃ o, s₁.heap.get? b = some o) ∧ b ∉ mu)) (hit : ∀ i v, i < vs.length → Pd i v → ∃ u, vs[i]? = some u ∧ Rep w.params mu s₁.heap u v)
    (hkind : scope.kind = .function) (hcell : ∀ y ∈ scope.names, y.2 = .cell → y.1 = x) (hnx : nameOk x = true)
    (hcl : ∀ p ∈ scope.names, p.2 = .free → cl.lookup p.1 = env.cells.lookup p.1) (hcap : ∀ p ∈ scope.names, p.2 = .free → env.kindOf p.1 = some .cell ∨ env.kindOf p.1 = some .free)
    (hlen : vs.length ≤ lenLid)
    (hT : ∀ v ∈ vs, ∀ C s mu', At w hb d mu' A s (compEnvC scope cl C env) ((l.capt (inKind env.kindOf scope)).put x ⟨v, false⟩) → Tr prog w A (testsOf ifs (compEnvC scope cl C env)) s (fun b _ => b = p v))
    (hE : ∀ v ∈ vs, p v = true → ∀ C s mu', At w hb d mu' A s (compEnvC scope cl C env) ((l.capt (inKind env.kindOf scope)).put x ⟨v, false⟩) → Tr prog w A (eval elt (compEnvC scope cl C env)) s (fun y h => Rep w.params mu' h (f v) y))
    (fD : s₁.heap.get? D = none) (fC : s₁.heap.get? C = none) (fW : s₁.heap.get? Wd = none) (hID : s₁.heap.objs.size ≠ D) (hIC : s₁.heap.objs.size ≠ C) (hIW : s₁.heap.objs.size ≠ Wd) (hWD : Wd ≠ D) (hCD : C ≠ D)
    (k2 : KeepAll (s₁.heap.push o) h₁) (gD : h₁.PlainList D #[]) (H0 : Hd h₁)
    (Hkeep : ∀ h h', Hd h → (∀ o, h.get? C = some o → h'.get? C = some o) → (∀ o, h.get? Wd = some o → h'.get? Wd = some o) → Hd h') (Hns : ∀ h, Hd h → ∃ m, h.Ns C m) (Hlive : ∀ h, Hd h → ∃ o, h.get? Wd = some o)
    (Hstore : ∀ (h : Heap) (tk : Nat) (v : Value) (Q : Unit → Shared → Prop) (E : Value → Shared → Prop), Hd h → (∀ h3 tk3, Hd h3 → Rd (compEnvC scope cl C env) h3 x v → Heap.SameBut Wd h h3 → Q () { s₁ with heap := h3, toks := tk3 }) → wpAny (model prog w) A (storeName (compEnvC scope cl C env) x v) Q E { s₁ with heap := h, toks := tk })
    {RR : Result → Shared → Prop} {tk : Nat}
    (hRR : ∀ h' tk m ws, KeepAll s₁.heap h' → h'.Ns C m → h'.IsList D (List.toArray ws) → Reps w.params (C :: D :: mu) h' ((vs.filter p).map f) ws → RR (.ok .next) { s₁ with heap := h', toks := tk }) :
    codeAny (model prog w) A (.compStart (.ListComp elt [⟨.Name x px, iter, ifs, 0⟩] scope pos) 0 (.ref s₁.heap.objs.size) (.ref D) (compEnvC scope cl C env)) RR { s₁ with heap := h₁, toks := tk } := by
  have fI : s₁.heap.get? s₁.heap.objs.size = none := fresh_none' (Nat.le_refl _)
  have nmu : ∀ a, s₁.heap.get? a = none → a ∉ mu := fun a e q => by
    obtain ⟨o, g⟩ := X.live a q
    rw [e] at g; cases g
  have k1 : KeepAll s₁.heap h₁ := fun b o' e => k2 b o' (keepAll_push b o' e)
  let mu₂ : List Addr := s₁.heap.objs.size :: Wd :: C :: D :: mu
  have mW : Wd ∈ mu₂ := .tail _ (.head _)
  have mD : D ∈ mu₂ := .tail _ (.tail _ (.tail _ (.head _)))
  have hmu : ∀ a, a ∈ mu₂ → a ∈ mu ∨ s₁.heap.get? a = none := fun a ha => by
    rcases List.mem_cons.mp ha with rfl | ha
    · exact .inr fI
    · rcases List.mem_cons.mp ha with rfl | ha
      · exact .inr fW
      · rcases List.mem_cons.mp ha with rfl | ha
        · exact .inr fC
        · rcases List.mem_cons.mp ha with rfl | ha
          · exact .inr fD
          · exact .inl ha
  -- what is known at the head of each turn
  let Inv : Nat → Shared → Prop := fun k s => ∃ i h tk ws, s = { s₁ with heap := h, toks := tk } ∧ i ≤ vs.length ∧ k = vs.length - i ∧ St i h ∧ Hd h ∧ h.PlainList D (List.toArray ws) ∧ Reps w.params mu₂ h (((vs.take i).filter p).map f) ws ∧ KeepAll s₁.heap h
  have frame : ∀ {i : Nat} {h h' : Heap}, St i h → (∀ b o', b ≠ Wd → b ≠ D → h.get? b = some o' → h'.get? b = some o') → St i h' := fun st hk => by
    refine W.frame _ _ _ st fun b hb' o' e => ?_
    rcases hfp b hb' with rfl | ⟨⟨o2, e2⟩, _⟩
    · exact hk _ o' hIW hID e
    · exact hk b o' (by rintro rfl; rw [fW] at e2; cases e2) (by rintro rfl; rw [fD] at e2; cases e2) e
  have loop : ∀ s₃ : Shared, Inv vs.length s₃ → codeAny (model prog w) A (.compLoop (.ListComp elt [⟨.Name x px, iter, ifs, 0⟩] scope pos) 0 (.ref s₁.heap.objs.size) (.ref D) (compEnvC scope cl C env)) RR s₃ := by
    intro s₃ hs₃
    refine codeAny_compLoop_tests Inv ?_ _ hs₃ (fun _ => rfl)
    rintro n s ⟨i, h, tk, ws, rfl, hi, rfl, st, hn, hl, hr, hk⟩
    by_cases hlt : i < vs.length
    · -- a turn
      refine W.item i _ _ _ hlt st fun v h2 tk2 hv st2 k2 => ?_
      obtain ⟨u, eu, ru⟩ := hit i v hlt hv
      have k2' : ∀ b o', b ≠ s₁.heap.objs.size → h.get? b = some o' → h2.get? b = some o' := fun b o' hb' e => k2 b o' (fun q => hb' (List.mem_singleton.mp q)) e
      have hn2 : Hd h2 := Hkeep h h2 hn (fun o' e => k2' C o' (Ne.symm hIC) e) (fun o' e => k2' Wd o' (Ne.symm hIW) e)
      have hl2 : h2.PlainList D ws.toArray := by obtain ⟨z, e⟩ := hl; exact ⟨z, k2' D _ (Ne.symm hID) e⟩
      have hr2 : Reps w.params mu₂ h2 (((vs.take i).filter p).map f) ws := hr.keep fun b o' hb' e => k2' b o' (fun q => hb' (q ▸ .head _)) e
      have hk2 : KeepAll s₁.heap h2 := fun b o' e => k2' b o' (by rintro rfl; rw [fI] at e; cases e) (hk b o' e)
      refine wpAny_assign_Name (Hstore h2 tk2 v _ _ hn2 fun h3 tk3 hn3 rd3 hs3 => ?_)
      have k3' : ∀ b o', b ≠ Wd → h2.get? b = some o' → h3.get? b = some o' := sameBut_keep hs3
      have st3 : St (i + 1) h3 := frame st2 fun b o' hb' _ e => k3' b o' hb' e
      have hl3 : h3.PlainList D ws.toArray := by obtain ⟨z, e⟩ := hl2; exact ⟨z, k3' D _ (Ne.symm hWD) e⟩
      have hr3 : Reps w.params mu₂ h3 (((vs.take i).filter p).map f) ws := hr2.keep fun b o' hb' e => k3' b o' (fun q => hb' (q ▸ mW)) e
      have hk3 : KeepAll s₁.heap h3 := fun b o' e => k3' b o' (by rintro rfl; rw [fW] at e; cases e) (hk2 b o' e)
      have live3 : Live mu₂ h3 := fun a ha => by
        rcases List.mem_cons.mp ha with rfl | ha
        · exact hI _ _ st3
        · rcases List.mem_cons.mp ha with rfl | ha
          · exact Hlive _ hn3
          · rcases List.mem_cons.mp ha with rfl | ha
            · obtain ⟨m, oc, _, _, g, _⟩ := Hns _ hn3; exact ⟨oc, g⟩
            · rcases List.mem_cons.mp ha with rfl | ha
              · obtain ⟨z, e⟩ := hl3; exact ⟨_, e⟩
              · obtain ⟨oo, g⟩ := X.live a ha; exact ⟨oo, hk3 _ _ g⟩
      have hu : u ∈ vs := List.mem_of_getElem? eu
      have X3 : At w hb d mu₂ A { s₁ with heap := h3, toks := tk3 } (compEnvC scope cl C env) ((l.capt (inKind env.kindOf scope)).put x ⟨u, false⟩) :=
        ⟨fm_comp X.fm hk3 hmu hkind hcell hnx hcl hcap rd3 ((ru.more hmu).all hk3), live3, X.base.trans hk3, X.room⟩
      have htake : vs.take (i + 1) = vs.take i ++ [u] := by
        rw [List.take_add_one, eu]; rfl
      refine (hT u hu C _ mu₂ X3).use fun b h4 tk4 kk4 eb => ?_
      subst eb
      by_cases hp : p u = true
      · rw [if_pos hp]
        refine (hE u hu hp C _ mu₂ (X3.go kk4)).use fun y h5 tk5 kk5 ry => ?_
        have kk := kk4.trans kk5
        have hl5 : h5.PlainList D ws.toArray := by obtain ⟨z, e⟩ := hl3; exact ⟨z, kk _ _ e⟩
        have hws : ws.length ≤ lenLid := by
          rw [hr.length, List.length_map]
          exact Nat.le_trans (List.length_filter_le _ _) (Nat.le_trans (List.length_take_le' _ _) hlen)
        refine wpAny_list_append_plain hl5 (fun h6 hl6 hs6 => ?_) (by simp [sizeLine_is]; unfold lenLid at hws; lia)
        have k6' : ∀ b o', b ≠ D → h5.get? b = some o' → h6.get? b = some o' := sameBut_keep hs6
        refine ⟨vs.length - (i + 1), Nat.sub_lt_sub_left hlt (Nat.lt_succ_self _), i + 1, h6, tk5, ws ++ [y], rfl, hlt, rfl, frame (frame st3 fun b o' _ _ e => kk b o' e) fun b o' _ hb' e => k6' b o' hb' e, Hkeep h3 h6 hn3 (fun o' e => k6' C o' hCD (kk C o' e)) (fun o' e => k6' Wd o' hWD (kk Wd o' e)), ?_, ?_, ?_⟩
        · obtain ⟨z, e⟩ := hl6
          exact ⟨z, by rw [e]; simp⟩
        · rw [htake, List.filter_append, List.map_append]
          have e1 : (List.filter p [u]).map f = [f u] := by simp [hp]
          rw [e1]
          have kp : Keep mu₂ h5 h6 := fun b o' hb' e => k6' b o' (fun q => hb' (q ▸ mD)) e
          exact ((hr3.all kk).keep kp).append (reps_one (ry.keep kp))
        · exact fun b o' e => k6' b o' (by rintro rfl; rw [fD] at e; cases e) (kk b o' (hk3 b o' e))
      · rw [if_neg hp]
        refine ⟨vs.length - (i + 1), Nat.sub_lt_sub_left hlt (Nat.lt_succ_self _), i + 1, h4, tk4, ws, rfl, hlt, rfl, frame st3 fun b o' _ _ e => kk4 b o' e, Hkeep h3 h4 hn3 (fun o' e => kk4 C o' e) (fun o' e => kk4 Wd o' e), (by obtain ⟨z, e⟩ := hl3; exact ⟨z, kk4 _ _ e⟩), ?_, hk3.trans kk4⟩
        rw [htake, List.filter_append, List.map_append]
        have e1 : (List.filter p [u]).map f = [] := by simp [hp]
        rw [e1, List.append_nil]
        exact hr3.all kk4
    · -- the end
      have hi' : i = vs.length := Nat.le_antisymm hi (Nat.le_of_not_lt hlt)
      subst hi'
      refine W.done _ _ _ st fun h2 tk2 k2 => ?_
      have k2' : ∀ b o', b ≠ s₁.heap.objs.size → h.get? b = some o' → h2.get? b = some o' := fun b o' hb' e => k2 b o' (fun q => hb' (List.mem_singleton.mp q)) e
      have hkE : KeepAll s₁.heap h2 := fun b o' e => k2' b o' (by rintro rfl; rw [fI] at e; cases e) (hk b o' e)
      obtain ⟨m, hm⟩ := Hns _ (Hkeep h h2 hn (fun o' e => k2' C o' (Ne.symm hIC) e) (fun o' e => k2' Wd o' (Ne.symm hIW) e))
      refine hRR h2 tk2 m ws hkE hm ?_ ?_
      · obtain ⟨z, e⟩ := hl
        exact ⟨_, k2' D _ (Ne.symm hID) e, rfl, z, rfl⟩
      · rw [List.take_length] at hr
        exact (hr.keep fun b o' hb' e => k2' b o' (fun q => hb' (q ▸ .head _)) e).sub fun a ha => .tail _ (.tail _ ha)
  have start : Inv vs.length { s₁ with heap := h₁, toks := tk } := by
    refine ⟨0, h₁, tk, [], rfl, Nat.zero_le _, rfl, W.frame _ _ _ h0 fun b hb' o' e => k2 b o' e, H0, gD, ?_, k1⟩
    simp [Reps]
  exact codeAny_compStart_list (loop _ start) (W.self 0 _ _ _ (W.frame _ _ _ h0 fun b hb' o' e => k2 b o' e) (loop _ start))
theorem comp_block {elt iter : Expr} {x : Str} {px : Pos} {ifs : List Expr} {scope : Scope} {cl : List (Str × Addr)} {pos : Pos} {vs : List V} {p : V → Bool} {f : V → V} {s₁ : Shared} {o : Obj} {fp : List Addr} {Pd : Nat → Value → Prop} {St : Nat → Heap → Prop} {tk : Nat}
    (X : At w hb d mu A s₁ env l) (W : Walks prog w A s₁.heap.objs.size fp [s₁.heap.objs.size] vs.length Pd St) (h0 : St 0 (s₁.heap.push o)) (hI : ∀ i h, St i h → ∃ o, h.get? s₁.heap.objs.size = some o)
    (hfp : ∀ b ∈ fp, b = s₁.heap.objs.size ∨ ((∃ o, s₁.heap.get? b = some o) ∧ b ∉ mu)) (hit : ∀ i v, i < vs.length → Pd i v → ∃ u, vs[i]? = some u ∧ Rep w.params mu s₁.heap u v)
    (hkind : scope.kind = .function) (hnc : ∀ y ∈ scope.names, y.2 ≠ .cell) (hx : targetOk scope x = true) (hnx : nameOk x = true)
    (hcl : ∀ p ∈ scope.names, p.2 = .free → cl.lookup p.1 = env.cells.lookup p.1) (hcap : ∀ p ∈ scope.names, p.2 = .free → env.kindOf p.1 = some .cell ∨ env.kindOf p.1 = some .free)
    (hlen : vs.length ≤ lenLid)
    (hT : ∀ v ∈ vs, ∀ C s mu', At w hb d mu' A s (compEnvC scope cl C env) ((l.capt (inKind env.kindOf scope)).put x ⟨v, false⟩) → Tr prog w A (testsOf ifs (compEnvC scope cl C env)) s (fun b _ => b = p v))
    (hE : ∀ v ∈ vs, p v = true → ∀ C s mu', At w hb d mu' A s (compEnvC scope cl C env) ((l.capt (inKind env.kindOf scope)).put x ⟨v, false⟩) → Tr prog w A (eval elt (compEnvC scope cl C env)) s (fun y h => Rep w.params mu' h (f v) y))
    {RR : Value → Addr → Result → Shared → Prop}
    (hRR : ∀ D C h' tk m ws, s₁.heap.get? D = none → s₁.heap.get? C = none → D ∉ mu → C ∉ mu → C ≠ D → KeepAll s₁.heap h' → h'.Ns C m → h'.IsList D (List.toArray ws) → Reps w.params (C :: D :: mu) h' ((vs.filter p).map f) ws → RR (.ref D) C (.ok .next) { s₁ with heap := h', toks := tk }) :
    wpAny (model prog w) A (newList []) (fun acc s₃ => wpAny (model prog w) A (newFunctionEnv scope env.globals cl [] env.qual none .none (some env)) (fun cenv s₄ =>
      codeAny (model prog w) A (.compStart (.ListComp elt [⟨.Name x px, iter, ifs, 0⟩] scope pos) 0 (.ref s₁.heap.objs.size) acc { cenv with scope := relabel scope env }) (RR acc cenv.locals) s₄) E s₃) E { s₁ with heap := s₁.heap.push o, toks := tk } := by
  refine wpAny_newList ?_
  have nmu : ∀ a, s₁.heap.get? a = none → a ∉ mu := fun a e q => by
    obtain ⟨o, g⟩ := X.live a q
    rw [e] at g; cases g
  have zD : (s₁.heap.push o).objs.size = s₁.heap.objs.size + 1 := Heap.size_push ..
  have zC : ((s₁.heap.push o).push { cls := Value.type "list", data := Data.seq (List.toArray []) }).objs.size = s₁.heap.objs.size + 2 := by rw [Heap.size_push, zD]
  have fD : s₁.heap.get? (s₁.heap.push o).objs.size = none := fresh_none' (by rw [zD]; exact Nat.le_succ _)
  have fC : s₁.heap.get? ((s₁.heap.push o).push { cls := Value.type "list", data := Data.seq (List.toArray []) }).objs.size = none := fresh_none' (by rw [zC]; exact Nat.le_succ_of_le (Nat.le_succ _))
  have hCD : ((s₁.heap.push o).push { cls := Value.type "list", data := Data.seq (List.toArray []) }).objs.size ≠ (s₁.heap.push o).objs.size := by rw [zC, zD]; exact Nat.succ_ne_self _
  have hID : s₁.heap.objs.size ≠ (s₁.heap.push o).objs.size := by rw [zD]; exact Nat.ne_of_lt (Nat.lt_succ_self _)
  have hIC : s₁.heap.objs.size ≠ ((s₁.heap.push o).push { cls := Value.type "list", data := Data.seq (List.toArray []) }).objs.size := by rw [zC]; exact Nat.ne_of_lt (Nat.lt_succ_of_lt (Nat.lt_succ_self _))
  have gD0 : ((s₁.heap.push o).push { cls := Value.type "list", data := Data.seq (List.toArray []) }).get? (s₁.heap.push o).objs.size = some { cls := Value.type "list", data := Data.seq (List.toArray []) } := get_push (by intro e; cases e)
  generalize (s₁.heap.push o).objs.size = D at *
  generalize hH2 : (s₁.heap.push o).push { cls := Value.type "list", data := Data.seq (List.toArray []) } = H2 at *
  have kH2 : KeepAll (s₁.heap.push o) H2 := fun b o' e => by rw [← hH2]; exact keepAll_push b o' e
  have ltH2 : ∀ b o', (s₁.heap.push o).get? b = some o' → b < H2.objs.size := fun b o' e => Heap.lt_size (kH2 b o' e)
  have hlx : scope.names.lookup x = some .local := eq_of_beq hx
  refine wpAny_newFunctionEnv hnc (by intro y hy; simp at hy) (fun h₁ hns₁ hsb₁ => ?_) hkind
  dsimp only at hns₁ hsb₁ ⊢
  generalize hC : H2.objs.size = C at *
  have k2 : KeepAll (s₁.heap.push o) h₁ := fun b o' e => sameBut_keep hsb₁ b o' (Nat.ne_of_lt (ltH2 b o' e)) (keepAll_push b o' (kH2 b o' e))
  refine comp_loop (C := C) (D := D) (Wd := C) (cl := cl) (Hd := fun h => ∃ m, h.Ns C m) (RR := RR (.ref D) C) X W h0 hI hfp hit hkind (fun y hy e => absurd e (hnc y hy)) hnx hcl hcap hlen hT hE fD fC fC hID hIC hIC hCD hCD k2 ⟨0, sameBut_keep hsb₁ D _ (Ne.symm hCD) (keepAll_push _ _ gD0)⟩ ⟨_, hns₁⟩ ?_ (fun h hh => hh) (fun h hh => by obtain ⟨_, o, _, _, gg, _⟩ := hh; exact ⟨o, gg⟩) ?_ (fun h' tk m ws kk hn hl hr => hRR D C h' tk m ws fD fC (nmu _ fD) (nmu _ fC) hCD kk hn hl hr)
  · rintro h h' ⟨m, hm⟩ kC _
    exact ⟨m, hm.at' kC⟩
  · rintro h tk v Q E ⟨m, hm⟩ k
    refine wpAny_storeName_local (s := { s₁ with heap := h, toks := tk }) (lookup_relabel_local hlx) hm (fun h3 hn3 hs3 => k h3 _ ⟨_, hn3⟩ (.inl ⟨lookup_relabel_local hlx, _, hn3, if_pos rfl⟩) hs3) (by show ((relabel scope env).kind == .class || ((relabel scope env).kind == .module && _)) = false; rw [show (relabel scope env).kind = .function from hkind]; rfl)
end
end Mine
namespace Mine
open PySem PySem.W PyProof.Rows PySem.Calls
section
variable {prog : Program} {w : World} {hb : Heap} {mg mb : Str → Option Value} {g : Cfg} {d : Nat}
variable {n : Nat} {env : Env} {l : Ls} {mu : List Addr} {s : Shared} {A : Around}
theorem scope_facts {scope : Scope} {x : Str} (F : Fm w.params mu env s.heap l) (h : Mine.ev.scopeOk env.kindOf l scope x = true) :
    scope.kind = .function ∧ (∀ y ∈ scope.names, y.2 ≠ .cell) ∧ (∀ y ∈ scope.names, y.2 = .local → scope.names.lookup y.1 = some .local) ∧
    (∀ p ∈ scope.names, p.2 = .free → env.kindOf p.1 = some .cell ∨ env.kindOf p.1 = some .free) ∧ (∀ p ∈ scope.names, p.2 = .free → ∃ c, env.cells.lookup p.1 = some c) := by
  unfold Mine.ev.scopeOk at h
  rw [Bool.and_eq_true] at h
  obtain ⟨h1, h2⟩ := h
  have h2 := List.all_eq_true.mp h2
  refine ⟨by simpa using h1, fun y hy e => ?_, fun y hy e => ?_, fun y hy e => ?_, fun y hy e => ?_⟩
  · have := h2 y hy; rw [e] at this; cases this
  · have := h2 y hy; rw [e] at this; exact eq_of_beq this
  · have := h2 y hy; rw [e] at this; simp at this; exact this.1.1
  · have := h2 y hy; rw [e] at this; simp at this
    obtain ⟨⟨hk, hs⟩, _⟩ := this
    obtain ⟨v, hv⟩ := Option.isSome_iff_exists.mp hs
    obtain ⟨_, wv, r, _⟩ := F.read _ _ hv
    rcases r with ⟨q, _⟩ | ⟨_, c, q, _⟩
    · rw [q] at hk; rcases hk with hk | hk <;> cases hk
    · exact ⟨c, q⟩
theorem comp_run (S : Snd prog w hb g d n) {elt it : Expr} {x : Str} {px : Pos} {ifs : List Expr} {scope : Scope} {pos pos' : Pos} {use : Option (Value → Sem Unit)} {Q : Value → Shared → Prop} {E : Value → Shared → Prop} {p : V → Bool} {f : V → V}
    (X : At w hb d mu A s env l) (hq : (evI g env.kindOf n l it).2) (hx : targetOk scope x = true) (hnx : nameOk x = true) (hs : Mine.ev.scopeOk env.kindOf l scope x = true) (hlen : (evI g env.kindOf n l it).1.length ≤ lenLid)
    (hT : ∀ v ∈ (evI g env.kindOf n l it).1, ∀ cenv s mu', cenv.kindOf = inKind env.kindOf scope → At w hb d mu' A s cenv ((l.capt (inKind env.kindOf scope)).put x ⟨v, false⟩) → Tr prog w A (testsOf ifs cenv) s (fun b _ => b = p v))
    (hE : ∀ v ∈ (evI g env.kindOf n l it).1, p v = true → ∀ cenv s mu', cenv.kindOf = inKind env.kindOf scope → At w hb d mu' A s cenv ((l.capt (inKind env.kindOf scope)).put x ⟨v, false⟩) → Tr prog w A (eval elt cenv) s (fun y h => Rep w.params mu' h (f v) y))
    (hQ : ∀ D C h' tk m ws, s.heap.get? D = none → s.heap.get? C = none → D ∉ mu → C ∉ mu → C ≠ D → KeepAll s.heap h' → h'.Ns C m → h'.IsList D (List.toArray ws) → Reps w.params (C :: D :: mu) h' (((evI g env.kindOf n l it).1.filter p).map f) ws →
      compPost (model prog w) A E use Q (.ref D) C (.ok .next) { s with heap := h', toks := tk }) :
    wpAny (model prog w) A (comprehension (.ListComp elt [⟨.Name x px, it, ifs, 0⟩] scope pos) scope env pos' (newList []) false (eval it env) use) Q E s := by
  obtain ⟨hkind, hcell, hnames, hcap, hcells⟩ := scope_facts X.fm hs
  obtain ⟨cl, ecl, hcl⟩ := closure_ok hcells
  refine wpAny_comprehension_free rfl (S.evI X hq).1 ecl hkind hnames ?_
  refine (S.evI X hq).2.use fun xv h1 tk1 k1 hit => ?_
  refine hit A _ _ _ X.room.handled (fun _ _ e => e) fun o fp Pd St tk W h0 hI hfp hv => ?_
  exact comp_block (RR := fun acc C => compPost (model prog w) A E use Q acc C) (X.go (tk := tk1) k1) W h0 (fun i h e => let ⟨o, g, _⟩ := hI i h e; ⟨o, g⟩) hfp hv hkind hcell hx hnx hcl hcap hlen
    (fun v hv' C s' mu' X' => hT v hv' _ s' mu' (kindOf_comp X.fm.kind cl C) X')
    (fun v hv' hp C s' mu' X' => hE v hv' hp _ s' mu' (kindOf_comp X.fm.kind cl C) X')
    (fun D C h' tk' m ws fD fC nD nC hCD kk hn hl hr => hQ D C h' tk' m ws
      (by cases q : s.heap.get? D with
        | none => rfl
        | some o => have := k1 _ _ q; rw [fD] at this; cases this)
      (by cases q : s.heap.get? C with
        | none => rfl
        | some o => have := k1 _ _ q; rw [fC] at this; cases this) nD nC hCD (k1.trans kk) hn hl hr)
/-- the two kinds of comprehension that we evaluate -/
theorem comp_parts (S : Snd prog w hb g d n) {elt it : Expr} {x : Str} {px : Pos} {ifs : List Expr} {scope : Scope} {pos : Pos} (X : At w hb d mu A s env l)
    (h : (ev g env.kindOf (n + 1) l (.ListComp elt [⟨.Name x px, it, ifs, 0⟩] scope pos)).2) : ∃ (p : V → Bool) (f : V → V),
    (ev g env.kindOf (n + 1) l (.ListComp elt [⟨.Name x px, it, ifs, 0⟩] scope pos)).1 = .list (((evI g env.kindOf n l it).1.filter p).map f) ∧
    (evI g env.kindOf n l it).2 ∧ targetOk scope x = true ∧ nameOk x = true ∧ Mine.ev.scopeOk env.kindOf l scope x = true ∧ (evI g env.kindOf n l it).1.length ≤ lenLid ∧
    (∀ v ∈ (evI g env.kindOf n l it).1, ∀ cenv s mu', cenv.kindOf = inKind env.kindOf scope → At w hb d mu' A s cenv ((l.capt (inKind env.kindOf scope)).put x ⟨v, false⟩) → Tr prog w A (testsOf ifs cenv) s (fun b _ => b = p v)) ∧
    (∀ v ∈ (evI g env.kindOf n l it).1, p v = true → ∀ cenv s mu', cenv.kindOf = inKind env.kindOf scope → At w hb d mu' A s cenv ((l.capt (inKind env.kindOf scope)).put x ⟨v, false⟩) → Tr prog w A (eval elt cenv) s (fun y h => Rep w.params mu' h (f v) y)) := by
  cases ifs with
  | nil =>
    rw [ev_comp0] at h ⊢
    replace h := h.2
    refine ⟨fun _ => true, fun v => (ev g (inKind env.kindOf scope) n ((l.capt (inKind env.kindOf scope)).put x ⟨v, false⟩) elt).1, by rw [List.filter_eq_self.mpr (fun _ _ => rfl)], h.1, h.2.1.1, h.2.1.2, h.2.2.1, h.2.2.2.1, ?_, ?_⟩
    · intro v hv cenv s' mu' hk X'
      exact Tr.of fun R k => wpAny_tests_nil (k _ s'.heap s'.toks (fun _ _ e => e) rfl)
    · intro v hv _ cenv s' mu' hk X'
      have := S.ev X' (by rw [hk]; exact h.2.2.2.2 v hv)
      rw [hk] at this; exact this
  | cons t r =>
    cases r with
    | nil =>
      rw [ev_comp1] at h ⊢
      replace h := h.2
      refine ⟨fun v => (evT g (inKind env.kindOf scope) n ((l.capt (inKind env.kindOf scope)).put x ⟨v, false⟩) t).1, fun v => (ev g (inKind env.kindOf scope) n ((l.capt (inKind env.kindOf scope)).put x ⟨v, false⟩) elt).1, rfl, h.1, h.2.1.1, h.2.1.2, h.2.2.1, h.2.2.2.1, ?_, ?_⟩
      · intro v hv cenv s' mu' hk X'
        have := S.evT X' (by rw [hk]; exact (h.2.2.2.2 v hv).1)
        rw [hk] at this
        exact Tr.of fun R k => wpAny_tests_one (this.use k)
      · intro v hv hp cenv s' mu' hk X'
        have := S.ev X' (by rw [hk]; exact (h.2.2.2.2 v hv).2 hp)
        rw [hk] at this; exact this
    | cons t2 r2 => exact h.2.elim
theorem tr_comp (S : Snd prog w hb g d n) {elt it : Expr} {x : Str} {px : Pos} {ifs : List Expr} {scope : Scope} {pos : Pos} (X : At w hb d mu A s env l)
    (h : (ev g env.kindOf (n + 1) l (.ListComp elt [⟨.Name x px, it, ifs, 0⟩] scope pos)).2) :
    Tr prog w A (eval (.ListComp elt [⟨.Name x px, it, ifs, 0⟩] scope pos) env) s (fun v h' => Rep w.params mu h' (ev g env.kindOf (n + 1) l (.ListComp elt [⟨.Name x px, it, ifs, 0⟩] scope pos)).1 v) := by
  obtain ⟨p, f, ee, hq, hx, hnx, hs, hlen, hT, hE⟩ := comp_parts S X h
  rw [ee]
  refine Tr.of fun R k => ?_
  rw [eval_ListComp]
  refine comp_run S X hq hx hnx hs hlen hT hE fun D C h' tk m ws fD fC nD nC hCD kk hn hl hr => ?_
  refine ⟨m, hn, fun h'' hs'' => k _ h'' tk (fun b o e => sameBut_keep hs'' b o (by rintro rfl; rw [fC] at e; cases e) (kk b o e)) ?_⟩
  unfold Rep
  refine ⟨D, ws, rfl, nD, isList_keep hl (fun o => sameBut_keep hs'' D o (Ne.symm hCD)), ?_⟩
  exact (hr.keep fun b o hb' e => sameBut_keep hs'' b o (fun q => hb' (q ▸ .head _)) e).sub fun a ha => .tail _ (.tail _ ha)
end
end Mine
namespace Mine
open PySem PySem.W PyProof.Rows PySem.Calls
section
variable {prog : Program} {w : World} {hb : Heap} {mg mb : Str → Option Value} {g : Cfg} {d : Nat}
variable {n : Nat} {env : Env} {l : Ls} {mu : List Addr} {s : Shared} {A : Around}

theorem const_ok {c : Const} {k : Nat} {p : Pos} (h : (constV c).2) : Tr prog w A (eval (.Constant c k p) env) s (fun v h => Rep w.params mu h (constV c).1 v) := by
  cases c with
  | none => exact Tr.of fun R k => PyProof.Rows.Constant_none (k _ s.heap s.toks (fun _ _ e => e) (by show Rep _ _ _ V.none _; unfold Rep; rfl))
  | bool b => exact Tr.of fun R k => PyProof.Rows.Constant_bool (k _ s.heap s.toks (fun _ _ e => e) (by show Rep _ _ _ (V.bool b) _; unfold Rep; rfl))
  | int i => exact Tr.of fun R k => fun Γ p hΓ => k (.int _ s.toks) s.heap (s.toks + 1) (fun _ _ e => e) (by show Rep _ _ _ (V.int i) _; unfold Rep; exact ⟨_, rfl⟩)
  | str x => exact Tr.of fun R k => Calls.Constant_str (k _ s.heap (s.toks + 1) (fun _ _ e => e) (by show Rep _ _ _ (V.str _) _; unfold Rep; exact ⟨_, rfl⟩))
  | bytes x => exact Tr.of fun R k => PySem.W.Constant_bytes (k _ s.heap (s.toks + 1) (fun _ _ e => e) (by show Rep _ _ _ (V.bytes _) _; unfold Rep; exact ⟨_, rfl⟩))
  | _ => exact h.elim
theorem glued_nil (ys : List (List Nat)) : Txt.join ⟨([] : List Nat).toArray⟩ (ys.map fun x => ⟨x.toArray⟩) = ⟨ys.flatten.toArray⟩ := by
  unfold Txt.join Builtin.Str.glued
  have go : ∀ (ys : List (List Nat)) (acc : Array Nat), List.foldl (fun acc (p : Str) => acc ++ (⟨([] : List Nat).toArray⟩ : Str).cps ++ p.cps) acc (ys.map fun x => ⟨x.toArray⟩) = acc ++ ys.flatten.toArray := by
    intro ys
    induction ys with
    | nil => intro acc; simp
    | cons y r ih => intro acc; rw [List.map_cons, List.foldl_cons, ih]; simp
  cases ys with
  | nil => rfl
  | cons y r =>
    have := go r y.toArray
    simp only [List.map_cons, List.drop_one, List.tail_cons, List.headD_cons]
    rw [this]; simp
theorem lower_ok {x : List Nat} {t : Tok} (h : x.length ≤ lenLid) : Tr prog w A (call (.builtin "str.lower") [.str ⟨x.toArray⟩ t]) s (fun v h => Rep w.params mu h (.str (Txt.lower ⟨x.toArray⟩).cps.toList) v) :=
  Tr.of fun R k => SCL.lower (by simp [Str.length]; unfold lenLid at h; lia) fun _ => k _ s.heap _ (fun _ _ e => e) (by unfold Rep; exact ⟨_, rfl⟩)
theorem join_ok {xs : List V} {t : Tok} {wv : Value} (h1 : (strsV xs).2) (h2 : (strsV xs).1.flatten.length ≤ lenLid) (r : Rep w.params mu s.heap (.list xs) wv) : Tr prog w A (call (.builtin "str.join") [.str ⟨([] : List Nat).toArray⟩ t, wv]) s (fun v h => Rep w.params mu h (.str (strsV xs).1.flatten) v) := by
  unfold Rep at r
  obtain ⟨a, ws, rfl, ha, la, ra⟩ := r
  have hs := strs_areV h1 ra
  refine Tr.of fun R k => join_list la (by simpa using hs) ?_ fun t' m => k _ s.heap m (fun _ _ e => e) ?_
  · unfold lenLid at h2
    simp [Str.length, List.length_flatten] at h2 ⊢
    have e : (List.map ((fun x => x.cps.size) ∘ fun x => ({ cps := x.toArray } : Str)) (strsV xs).1) = List.map List.length (strsV xs).1 := by
      apply List.map_congr_left; intro a _; simp
    rw [e]; lia
  · rw [glued_nil]; unfold Rep; exact ⟨_, rfl⟩

theorem upper_ok {x : List Nat} {t : Tok} (h : x.length ≤ lenLid) : Tr prog w A (call (.builtin "str.upper") [.str ⟨x.toArray⟩ t]) s (fun v h => Rep w.params mu h (.str (Txt.upper ⟨x.toArray⟩).cps.toList) v) :=
  Tr.of fun R k => SCL.upper (by simp [Str.length]; unfold lenLid at h; lia) fun _ => k _ s.heap _ (fun _ _ e => e) (by unfold Rep; exact ⟨_, rfl⟩)
theorem index_ok (hh : A.handled = none) {x y : List Nat} {t u : Tok} (h : 0 ≤ Txt.find ⟨x.toArray⟩ ⟨y.toArray⟩) : Tr prog w A (call (.builtin "str.index") [.str ⟨x.toArray⟩ t, .str ⟨y.toArray⟩ u]) s (fun v h => Rep w.params mu h (.int (Txt.find ⟨x.toArray⟩ ⟨y.toArray⟩)) v) :=
  Tr.of fun R k => index_or hh (fun e => by rw [e] at h; exact absurd h (by decide)) fun _ _ => k _ s.heap _ (fun _ _ e => e) (by unfold Rep; exact ⟨_, rfl⟩)

/-- a method of the value wo, of what the evaluator tells -/
noncomputable def MethIs (prog : Program) (w : World) (A : Around) (s : Shared) (mu : List Addr) (wo : Value) (name : Str) (args : List V) (r : W V) : Prop :=
  ∃ T id, PlainAttrs T ∧ Slot T name id ∧ typeOf (.builtin id) = pure (.type "method_descriptor") ∧ s.TypeIs wo T ∧ (∀ a, wo = .ref a → ∃ ob, s.heap.get? a = some ob ∧ ob.dict = none) ∧
      ∀ ws h' tk, KeepAll s.heap h' → Reps w.params mu h' args ws → Tr prog w A (call (.builtin id) (wo :: ws)) { s with heap := h', toks := tk } (fun v h => Rep w.params mu h r.1 v)
noncomputable def MethG (prog : Program) (w : World) (A : Around) (s : Shared) (mu : List Addr) (wo : Value) (name : Str) (args : List V) (r : W V) : Prop := r.2 → MethIs prog w A s mu wo name args r
theorem MethG.no {wo : Value} {name : Str} {args : List V} : MethG prog w A s mu wo name args no := fun h => h.elim
theorem MethG.ite {wo : Value} {name : Str} {args : List V} {c : Prop} [Decidable c] {x y : W V} (h1 : c → MethG prog w A s mu wo name args x) (h2 : MethG prog w A s mu wo name args y) : MethG prog w A s mu wo name args (if c then x else y) := by
  by_cases h : c
  · rw [if_pos h]; exact h1 h
  · rw [if_neg h]; exact h2
section
variable {wo : Value} {name : Str} {T id : String}
theorem MethG.of0 {r : W V} (p1 : PlainAttrs T) (p2 : Slot T name id) (p3 : typeOf (.builtin id) = pure (.type "method_descriptor")) (p4 : s.TypeIs wo T) (p5 : ∀ a, wo = .ref a → ∃ ob, s.heap.get? a = some ob ∧ ob.dict = none) {args : List V}
    (h : r.2 → ∀ h' tk, KeepAll s.heap h' → Tr prog w A (call (.builtin id) [wo]) { s with heap := h', toks := tk } (fun v h => Rep w.params mu h r.1 v)) : MethG prog w A s mu wo name args (arg0 r args) := by
  cases args with
  | nil =>
    refine fun hr => ⟨T, id, p1, p2, p3, p4, p5, fun ws h' tk kk rr => ?_⟩
    cases reps_nil rr
    exact h hr h' tk kk
  | cons _ _ => exact .no
theorem MethG.of1 {f : V → W V} (p1 : PlainAttrs T) (p2 : Slot T name id) (p3 : typeOf (.builtin id) = pure (.type "method_descriptor")) (p4 : s.TypeIs wo T) (p5 : ∀ a, wo = .ref a → ∃ ob, s.heap.get? a = some ob ∧ ob.dict = none) {args : List V}
    (h : ∀ a wa h' tk, (f a).2 → KeepAll s.heap h' → Rep w.params mu h' a wa → Tr prog w A (call (.builtin id) [wo, wa]) { s with heap := h', toks := tk } (fun v h => Rep w.params mu h (f a).1 v)) : MethG prog w A s mu wo name args (arg1 f args) := by
  cases args with
  | nil => exact .no
  | cons a q => cases q with
    | cons _ _ => exact .no
    | nil =>
      refine fun hr => ⟨T, id, p1, p2, p3, p4, p5, fun ws h' tk kk rr => ?_⟩
      obtain ⟨v, vs, rfl, r1, r2⟩ := reps_cons rr
      cases reps_nil r2
      exact h a v h' tk hr kk r1
theorem MethG.of2 {f : V → V → W V} (p1 : PlainAttrs T) (p2 : Slot T name id) (p3 : typeOf (.builtin id) = pure (.type "method_descriptor")) (p4 : s.TypeIs wo T) (p5 : ∀ a, wo = .ref a → ∃ ob, s.heap.get? a = some ob ∧ ob.dict = none) {args : List V}
    (h : ∀ a b wa wb h' tk, (f a b).2 → KeepAll s.heap h' → Rep w.params mu h' a wa → Rep w.params mu h' b wb → Tr prog w A (call (.builtin id) [wo, wa, wb]) { s with heap := h', toks := tk } (fun v h => Rep w.params mu h (f a b).1 v)) : MethG prog w A s mu wo name args (arg2 f args) := by
  cases args with
  | nil => exact .no
  | cons a q => cases q with
    | nil => exact .no
    | cons b q => cases q with
      | cons _ _ => exact .no
      | nil =>
        refine fun hr => ⟨T, id, p1, p2, p3, p4, p5, fun ws h' tk kk rr => ?_⟩
        obtain ⟨v, vs, rfl, r1, r2⟩ := reps_cons rr
        obtain ⟨v2, vs2, rfl, r3, r4⟩ := reps_cons r2
        cases reps_nil r4
        exact h a b v v2 h' tk hr kk r1 r3
end
theorem join_g {x : List Nat} {t : Tok} (a : V) (wa : Value) (h' : Heap) (tk : Nat) (h : (joinM x a).2) (r : Rep w.params mu h' a wa) : Tr prog w A (call (.builtin "str.join") [.str ⟨x.toArray⟩ t, wa]) { s with heap := h', toks := tk } (fun v h => Rep w.params mu h (joinM x a).1 v) := by
  cases a with
  | list xs =>
    obtain ⟨h1, h2, rfl⟩ := h
    exact join_ok h1 h2 r
  | _ => exact h.elim
theorem index_g (hh : A.handled = none) {x : List Nat} {t : Tok} (a : V) (wa : Value) (h' : Heap) (tk : Nat) (h : (indexM x a).2) (r : Rep w.params mu h' a wa) : Tr prog w A (call (.builtin "str.index") [.str ⟨x.toArray⟩ t, wa]) { s with heap := h', toks := tk } (fun v h => Rep w.params mu h (indexM x a).1 v) := by
  cases a with
  | str y =>
    unfold Rep at r
    obtain ⟨t2, rfl⟩ := r
    exact index_ok hh h
  | _ => exact h.elim
theorem dec_g {x : List UInt8} {t : Tok} (a : V) (wa : Value) (h' : Heap) (tk : Nat) (h : (decM x a).2) (r : Rep w.params mu h' a wa) : Tr prog w A (call (.builtin "bytes.decode") [.bytes x.toArray t, wa]) { s with heap := h', toks := tk } (fun v h => Rep w.params mu h (decM x a).1 v) := by
  cases a with
  | str y =>
    unfold Rep at r
    obtain ⟨t2, rfl⟩ := r
    obtain ⟨h1, h2, rfl⟩ := h
    exact decode_ok h1 h2
  | _ => exact h.elim
theorem get_g {kv : List (List Nat × Int)} {wo : Value} (ro : Rep w.params mu s.heap (.dict kv) wo) (a b : V) (wa wb : Value) (h' : Heap) (tk : Nat) (h : (dictM kv a b).2) (kk : KeepAll s.heap h') (r1 : Rep w.params mu h' a wa) (r2 : Rep w.params mu h' b wb) :
    Tr prog w A (call (.builtin "dict.get") [wo, wa, wb]) { s with heap := h', toks := tk } (fun v h => Rep w.params mu h (dictM kv a b).1 v) := by
  cases a with
  | str x => cases b with
    | int d => exact get_dict (s := { s with heap := h', toks := tk }) (ro.all kk) r1 r2
    | _ => exact h.elim
  | _ => exact h.elim
theorem methV_ok (B : Base prog w hb mg mb g d) (kb : KeepAll hb s.heap) (hh : A.handled = none) {o : V} {name : Str} {args : List V} {wo : Value} (ro : Rep w.params mu s.heap o wo) : MethG prog w A s mu wo name args (methV g o name args) := by
  cases o with
  | str x =>
    unfold Rep at ro
    obtain ⟨t, rfl⟩ := ro
    have nr : ∀ (a : Addr), Value.str ⟨x.toArray⟩ t = .ref a → ∃ ob, s.heap.get? a = some ob ∧ ob.dict = none := fun a e => by cases e
    refine .ite (fun e => ?_) (.ite (fun e => ?_) (.ite (fun e => ?_) (.ite (fun e => ?_) .no))) <;> subst e
    · exact .of0 F.plainAttrs_str F.slot_str_lower F.type_str_lower (typeIs_str _ _ _) nr fun h _ _ _ => lower_ok h
    · exact .of0 F.plainAttrs_str F.slot_str_upper F.type_str_upper (typeIs_str _ _ _) nr fun h _ _ _ => upper_ok h
    · exact .of1 F.plainAttrs_str F.slot_str_join F.type_str_join (typeIs_str _ _ _) nr fun a wa h' tk h _ r => join_g a wa h' tk h r
    · exact .of1 F.plainAttrs_str F.slot_str_index F.type_str_index (typeIs_str _ _ _) nr fun a wa h' tk h _ r => index_g hh a wa h' tk h r
  | bytes b =>
    unfold Rep at ro
    obtain ⟨t, rfl⟩ := ro
    refine .ite (fun e => ?_) .no
    subst e
    exact .of1 FB.plainAttrs_bytes FB.slot_bytes_decode FB.type_bytes_decode (typeIs_bytes _ _ _) (fun a e => by cases e) fun a wa h' tk h _ r => dec_g a wa h' tk h r
  | val wv =>
    unfold Rep at ro
    subst ro
    refine .ite (fun e => ?_) .no
    subst e
    intro h
    cases args with
    | nil => exact h.elim
    | cons a q => cases q with
      | cons _ _ => exact h.elim
      | nil => cases a with
        | int i =>
          obtain ⟨⟨a, ob, rfl, ga, cls, dn⟩, _⟩ := B.get A s wo i 0 kb h
          refine MethG.of1 (f := valM g (.ref a)) F.plainAttrs_dict F.slot_dict_get F.type_dict_get (show s.TypeIs (.ref a) "dict" from ⟨ob, ga, cls⟩) (fun a' e => by cases e; exact ⟨ob, ga, dn⟩) (fun a1 wa h' tk h2 kk r => ?_) h
          cases a1 with
          | int i =>
            unfold Rep at r
            obtain ⟨t, rfl⟩ := r
            exact (B.get A { s with heap := h', toks := tk } _ i t (kb.trans kk) h2).2.mono fun v h'' _ q => q mu
          | _ => exact h2.elim
        | _ => exact h.elim
  | dict kv =>
    refine .ite (fun e => ?_) .no
    subst e
    have ro' := ro
    unfold Rep at ro
    obtain ⟨a, rfl, hna, hd⟩ := ro
    obtain ⟨es, n, g, _⟩ := hd
    exact .of2 F.plainAttrs_dict F.slot_dict_get F.type_dict_get (show s.TypeIs (.ref a) "dict" from ⟨_, g, rfl⟩) (fun a' e => by cases e; exact ⟨_, g, rfl⟩) fun a1 b1 wa wb h' tk h kk r1 r2 => get_g ro' a1 b1 wa wb h' tk h kk r1 r2
  | _ => exact .no
end
end Mine
namespace Mine
open PySem PySem.W PyProof.Rows PySem.Calls
section
variable {prog : Program} {w : World} {hb : Heap} {mg mb : Str → Option Value} {g : Cfg} {d : Nat}
variable {n : Nat} {env : Env} {l : Ls} {mu : List Addr} {s : Shared} {A : Around}

/-- an expression, of what the evaluator tells -/
noncomputable def EvG (prog : Program) (w : World) (A : Around) (s : Shared) (mu : List Addr) (env : Env) (e : Expr) (r : W V) : Prop := r.2 → Tr prog w A (eval e env) s (fun v h' => Rep w.params mu h' r.1 v)
theorem EvG.no {e : Expr} : EvG prog w A s mu env e no := fun h => h.elim
theorem EvG.ite {e : Expr} {c : Prop} [Decidable c] {x y : W V} (h1 : c → EvG prog w A s mu env e x) (h2 : ¬ c → EvG prog w A s mu env e y) : EvG prog w A s mu env e (if c then x else y) := by
  by_cases h : c
  · rw [if_pos h]; exact h1 h
  · rw [if_neg h]; exact h2 h
theorem name_ok (B : Base prog w hb mg mb g d) {x : Str} {p : Pos} (X : At w hb d mu A s env l) (h : (ev g env.kindOf (n + 1) l (.Name x p)).2) :
    Tr prog w A (eval (.Name x p) env) s (fun v h' => Rep w.params mu h' (ev g env.kindOf (n + 1) l (.Name x p)).1 v) := by
  cases e : l.at x with
  | some v =>
    obtain ⟨hn, wv, r, rep⟩ := X.fm.read x v e
    rw [ev_nameL e]
    exact tr_name X.fm.kind hn r rep
  | none =>
    cases e2 : g.gl x with
    | none => rw [ev_nameN e e2] at h; exact h.elim
    | some v =>
      rw [ev_nameG e e2] at h ⊢
      obtain ⟨wv, hv, hr⟩ := B.gl x v e2
      refine tr_global B X.base X.fm h hv ?_
      rcases hr with ⟨i, t, rfl, rfl⟩ | rfl
      · unfold Rep; exact ⟨_, rfl⟩
      · unfold Rep; rfl
theorem tr_slice (S : Snd prog w hb g d n) {lo hi st : Option Expr} {p : Pos} (X : At w hb d mu A s env l) (h1 : (evO g env.kindOf n l lo).2) (h2 : (evO g env.kindOf n l hi).2) (h3 : (evO g env.kindOf n l st).2) :
    Tr prog w A (eval (.Slice lo hi st p) env) s (fun v h' => ∃ sl wl wh wt, v = .ref sl ∧ h'.get? sl = some { cls := .type "slice", data := .fields #[wl, wh, wt] } ∧ Rep w.params mu h' (evO g env.kindOf n l lo).1 wl ∧ Rep w.params mu h' (evO g env.kindOf n l hi).1 wh ∧ Rep w.params mu h' (evO g env.kindOf n l st).1 wt) := by
  refine Tr.of fun R k => wpAny_Slice ((S.evO X h1).use fun v1 h' t1 k1 r1 => (S.evO (X.go k1) h2).use fun v2 h'' t2 k2 r2 => (S.evO ((X.go (tk := t1) k1).go k2) h3).use fun v3 h3 t3 k3 r3 => ?_)
  refine k _ _ t3 (k1.trans (k2.trans (k3.trans keepAll_push))) ⟨_, v1, v2, v3, rfl, get_push (by intro e; cases e), (r1.all k2).all (k3.trans keepAll_push), r2.all (k3.trans keepAll_push), r3.all keepAll_push⟩
theorem call_ok (B : Base prog w hb mg mb g d) (S : Snd prog w hb g d n) {f : Str} {p pos : Pos} {args : List Expr} (X : At w hb d mu A s env l) (hs : (evs g env.kindOf n l args).2) (hf : (g.fn f (evs g env.kindOf n l args).1).2) (hk : kindOk env.kindOf f = true) :
    Tr prog w A (eval (.Call (.Name f p) args [] pos) env) s (fun v h' => Rep w.params mu h' (g.fn f (evs g env.kindOf n l args).1).1 v) := by
  obtain ⟨a, o, fd, e, ho, hd, hc⟩ := B.fn f _ hf
  refine tr_call_name (t := fun v => pure v) (tr_global B X.base X.fm hk e fun tk => ?_)
  have X1 := X.go (h' := s.heap) (tk := tk) (fun _ _ e => e)
  have hs' := S.evs (pos := pos) X1 hs
  refine Tr.of fun R k => callWith_function (evalArgs_of hs'.1 (hs'.2.use fun vs h' tk' kk r => ⟨⟨kk _ _ (X.base _ _ ho), hd⟩, ?_⟩))
  exact (hc A { s with heap := h', toks := tk' } mu vs (X.base.trans kk) X.room (X1.go (tk := tk') kk).live r).use fun v h'' tk'' kk' q => k _ _ _ (kk.trans kk') q
theorem pairs_nil {ks : List (Option Expr)} {vs : List Expr} (h : constPairs ks vs = some []) : ks = [] ∧ vs = [] := by
  cases ks with
  | nil => cases vs with
    | nil => exact ⟨rfl, rfl⟩
    | cons _ _ => cases h
  | cons k ks => cases vs with
    | nil => cases h
    | cons v vs =>
      obtain ⟨x, _, h⟩ := Option.bind_eq_some_iff.mp h
      obtain ⟨i, _, h⟩ := Option.bind_eq_some_iff.mp h
      obtain ⟨r, _, h⟩ := Option.map_eq_some_iff.mp h
      cases h
theorem blt_ok (B : Base prog w hb mg mb g d) (S : Snd prog w hb g d n) {f : Str} {p pos : Pos} {args : List Expr} (X : At w hb d mu A s env l) (hs : (evs g env.kindOf n l args).2) (hb' : isBlt f = true) (hf : (bltV f (evs g env.kindOf n l args).1).2) (hk : kindOk env.kindOf f = true) :
    Tr prog w A (eval (.Call (.Name f p) args [] pos) env) s (fun v h' => Rep w.params mu h' (bltV f (evs g env.kindOf n l args).1).1 v) := by
  have hmem : f ∈ [("len" : Str), "ord", "chr", "abs", "int", "str", "divmod", "min", "sum"] := List.contains_iff_mem.mp hb'
  have hne : f ≠ "__name__" := by rintro rfl; revert hmem; decide
  have hbf : bootBuiltins f = some (bltFn f) ∧ ((∃ id, bltFn f = .builtin id) ∨ ∃ T, bltFn f = .type T) := by
    simp only [List.mem_cons, List.not_mem_nil, or_false] at hmem
    rcases hmem with rfl | rfl | rfl | rfl | rfl | rfl | rfl | rfl | rfl
    · exact ⟨by decide +kernel, .inl ⟨"len", by decide +kernel⟩⟩
    · exact ⟨by decide +kernel, .inl ⟨"ord", by decide +kernel⟩⟩
    · exact ⟨by decide +kernel, .inl ⟨"chr", by decide +kernel⟩⟩
    · exact ⟨by decide +kernel, .inl ⟨"abs", by decide +kernel⟩⟩
    · exact ⟨by decide +kernel, .inr ⟨"int", by decide +kernel⟩⟩
    · exact ⟨by decide +kernel, .inr ⟨"str", by decide +kernel⟩⟩
    · exact ⟨by decide +kernel, .inl ⟨"divmod", by decide +kernel⟩⟩
    · exact ⟨by decide +kernel, .inl ⟨"min", by decide +kernel⟩⟩
    · exact ⟨by decide +kernel, .inl ⟨"sum", by decide +kernel⟩⟩
  refine tr_call_name (t := fun v => pure v) (tr_builtin B X.base X.fm hk (B.nob _ (.inl hb')) hne hbf.1 fun tk => ?_)
  have X1 := X.go (h' := s.heap) (tk := tk) (fun _ _ e => e)
  have hs' := S.evs (pos := pos) X1 hs
  exact tr_callWith hbf.2 hs'.1 [] hs'.2 fun vs h' tk' kk r => bltV_ok (s := { s with heap := h', toks := tk' }) hb' _ hf r (X1.go (tk := tk') kk).live X.room.handled
theorem callN_ok (B : Base prog w hb mg mb g d) (S : Snd prog w hb g d n) (P : ∀ m, n = m + 1 → Snd prog w hb g d m) {f : Str} {p pos : Pos} {args : List Expr} (X : At w hb d mu A s env l) :
    EvG prog w A s mu env (.Call (.Name f p) args [] pos) (callW g.fn env.kindOf l f args (evs g env.kindOf n l args) (fun e => evI g env.kindOf n l e)) := by
  refine .ite (fun hb' h => blt_ok B S X h.1 hb' h.2.1 h.2.2.2) fun _ => .ite (fun hl => ?_) fun _ h => call_ok B S X h.1 h.2.1 h.2.2.2
  cases args with
  | nil => exact .no
  | cons e r => cases r with
    | cons _ _ => exact .no
    | nil =>
      have hc := callV_is e
      dsimp only
      revert hc
      cases callV e with
      | none => exact fun _ => .no
      | some q =>
        rintro ⟨rp, cp, rfl⟩
        refine .ite (fun hr h => ?_) fun _ => .no
        obtain ⟨r, as⟩ := q
        obtain rfl : r = _ := hr
        cases n with
        | zero => exact h.1.elim
        | succ m =>
          refine (tr_list_range B (P m rfl) X hl h.1 h.2.2).mono fun v h' kk q => ?_
          show Rep w.params mu h' (.list _) _
          obtain ⟨_, na, la, ra⟩ := q
          unfold Rep
          exact ⟨_, _, rfl, na, la.isList, ra⟩
theorem item_ok (S : Snd prog w hb g d n) {a b : Expr} {p : Pos} (hb' : sliceP b = none) (X : At w hb d mu A s env l) (h : (ev g env.kindOf (n + 1) l (.Subscript a b p)).2) :
    Tr prog w A (eval (.Subscript a b p) env) s (fun v h' => Rep w.params mu h' (ev g env.kindOf (n + 1) l (.Subscript a b p)).1 v) := by
  rw [ev_item hb'] at h ⊢
  refine Tr.of fun R k => Subscript_ ((S.ev X h.1).use fun a h1 t1 k1 ra => (S.ev (X.go k1) h.2.1).use fun b h2 t2 k2 rb => ?_)
  exact (itemV_ok (s := { s with heap := h2, toks := t2 }) h.2.2 (ra.all k2) rb).use fun c h3 t3 k3 rc => k _ h3 t3 (k1.trans (k2.trans k3)) rc
theorem bin_ok (S : Snd prog w hb g d n) {a b : Expr} {op : Operator} {p : Pos} (X : At w hb d mu A s env l) (h : (ev g env.kindOf n l a).2 ∧ (ev g env.kindOf n l b).2 ∧ (binV op (ev g env.kindOf n l a).1 (ev g env.kindOf n l b).1).2) :
    Tr prog w A (eval (.BinOp a op b p) env) s (fun v h' => Rep w.params mu h' (binV op (ev g env.kindOf n l a).1 (ev g env.kindOf n l b).1).1 v) := by
  refine Tr.of fun R k => wpAny_BinOp ((S.ev X h.1).use fun a h1 t1 k1 ra => (S.ev (X.go k1) h.2.1).use fun b h2 t2 k2 rb => ?_)
  exact (binV_ok (s := { s with heap := h2, toks := t2 }) h.2.2 (ra.all k2) rb (X.live.keep (k1.trans k2))).use fun c h3 t3 k3 rc => k _ h3 t3 (k1.trans (k2.trans k3)) rc
theorem or_ok (S : Snd prog w hb g d n) {a b : Expr} {p : Pos} (X : At w hb d mu A s env l) (h : (ev g env.kindOf (n + 1) l (.BoolOp .Or [a, b] p)).2) :
    Tr prog w A (eval (.BoolOp .Or [a, b] p) env) s (fun v h' => Rep w.params mu h' (ev g env.kindOf (n + 1) l (.BoolOp .Or [a, b] p)).1 v) := by
  rw [ev_or] at h ⊢
  refine Tr.of fun R k => BoolOp_or ?_
  by_cases ht : (truV (ev g env.kindOf n l a).1).1 = true
  · rw [if_pos ht] at h k
    refine (S.ev X h.1).use fun v h1 t1 k1 r => (truV_ok (s := { s with heap := h1, toks := t1 }) h.2 r).use fun c h2 t2 k2 e => ?_
    subst e
    rw [if_pos ht]
    exact k _ h2 t2 (k1.trans k2) (r.all k2)
  · rw [if_neg ht] at h k
    refine (S.ev X h.1).use fun v h1 t1 k1 r => (truV_ok (s := { s with heap := h1, toks := t1 }) h.2.1 r).use fun c h2 t2 k2 e => ?_
    subst e
    rw [if_neg ht]
    exact BoolOp_one ((S.ev (X.go (k1.trans k2)) h.2.2).use fun v h3 t3 k3 r => k _ _ _ ((k1.trans k2).trans k3) r)
theorem cmp_ok (B : Base prog w hb mg mb g d) (S : Snd prog w hb g d n) {a b : Expr} {op : CmpOp} {p : Pos} (X : At w hb d mu A s env l) (h : (ev g env.kindOf n l a).2 ∧ (ev g env.kindOf n l b).2 ∧ (cmpV g op (ev g env.kindOf n l a).1 (ev g env.kindOf n l b).1).2 ∧ behindInMarks op b = false) :
    Tr prog w A (eval (.Compare a [op] [b] p) env) s (fun v h' => Rep w.params mu h' (.bool (cmpV g op (ev g env.kindOf n l a).1 (ev g env.kindOf n l b).1).1) v) := by
  refine Tr.of fun R k => wpAny_Compare1 ((S.ev X h.1).use fun a h1 t1 k1 ra => (S.ev (X.go k1) h.2.1).use fun b h2 t2 k2 rb => ?_) h.2.2.2
  refine (cmpV_ok (w := w) (s := { s with heap := h2, toks := t2 }) (g := g) B.mem (X.base.trans (k1.trans k2)) h.2.2.1 (ra.all k2) rb).use fun c h3 t3 k3 e => ?_
  subst e
  exact k _ h3 t3 (k1.trans (k2.trans k3)) (by unfold Rep; rfl)
theorem cut_ok (S : Snd prog w hb g d n) {a : Expr} {lo hi st : Option Expr} {p q : Pos} (X : At w hb d mu A s env l)
    (h : (ev g env.kindOf n l a).2 ∧ (evO g env.kindOf n l lo).2 ∧ (evO g env.kindOf n l hi).2 ∧ (evO g env.kindOf n l st).2 ∧ (cutV (ev g env.kindOf n l a).1 (evO g env.kindOf n l lo).1 (evO g env.kindOf n l hi).1 (evO g env.kindOf n l st).1).2) :
    Tr prog w A (eval (.Subscript a (.Slice lo hi st q) p) env) s (fun v h' => Rep w.params mu h' (cutV (ev g env.kindOf n l a).1 (evO g env.kindOf n l lo).1 (evO g env.kindOf n l hi).1 (evO g env.kindOf n l st).1).1 v) := by
  refine Tr.of fun R k => Subscript_ ((S.ev X h.1).use fun a h1 t1 k1 ra => (tr_slice S (X.go k1) h.2.1 h.2.2.1 h.2.2.2.1).use fun b h2 t2 k2 rb => ?_)
  obtain ⟨sl, wl, wh, wt, rfl, hg, rl, rh, rt⟩ := rb
  exact (cutV_ok (s := { s with heap := h2, toks := t2 }) h.2.2.2.2 (ra.all k2) rl rh rt hg (X.live.keep (k1.trans k2))).use fun c h3 t3 k3 rc => k _ h3 t3 (k1.trans (k2.trans k3)) rc
theorem disp_ok (B : Base prog w hb mg mb g d) {ks : List (Option Expr)} {vs : List Expr} {p : Pos} (X : At w hb d mu A s env l) (h : (dictV (constPairs ks vs)).2) :
    Tr prog w A (eval (.Dict ks vs p) env) s (fun v h' => Rep w.params mu h' (dictV (constPairs ks vs)).1 v) := by
  cases hc : constPairs ks vs with
  | none => rw [hc] at h; exact False.elim h
  | some kv =>
    rw [hc] at h
    rcases h with h | rfl
    · exact dict_display hc h.1 h.2 (modules_low (B.lim.keeps X.base)) X.live
    · obtain ⟨rfl, rfl⟩ := pairs_nil hc
      refine Tr.of fun R k => (dict_none (modules_low (B.lim.keeps X.base))).use fun v h1 t1 k1 r => ?_
      obtain ⟨a, rfl, hn, hd⟩ := r
      refine k _ h1 t1 k1 ?_
      show Rep w.params mu h1 (.dict []) _
      unfold Rep
      exact ⟨a, rfl, fun q => (by obtain ⟨o, e⟩ := X.live a q; rw [hn] at e; cases e), hd⟩
theorem list_ok (S : Snd prog w hb g d n) {es : List Expr} {p : Pos} (X : At w hb d mu A s env l) (h : (evs g env.kindOf n l es).2 ∧ (evs g env.kindOf n l es).1.length ≤ lenLid) :
    Tr prog w A (eval (.List es p) env) s (fun v h' => Rep w.params mu h' (.list (evs g env.kindOf n l es).1) v) := by
  refine Tr.of fun R k => wpAny_List ((S.evs (pos := p) X h.1).2.use fun vs h1 t1 k1 r => ⟨?_, k _ _ t1 (k1.trans keepAll_push) ?_⟩)
  · have := h.2; unfold lenLid at this; rw [r.length, sizeLine_is]; lia
  · unfold Rep
    exact ⟨_, vs, rfl, (X.go (tk := t1) k1).live.fresh, ⟨_, get_push (by intro e; cases e), rfl, 0, rfl⟩, r.all keepAll_push⟩
theorem tup_ok (S : Snd prog w hb g d n) {es : List Expr} {j : Nat} {p : Pos} (X : At w hb d mu A s env l) (h : (evs g env.kindOf n l es).2 ∧ (evs g env.kindOf n l es).1.length ≤ lenLid) :
    Tr prog w A (eval (.Tuple es j p) env) s (fun v h' => Rep w.params mu h' (.tup (evs g env.kindOf n l es).1) v) := by
  refine Tr.of fun R k => wpAny_Tuple ((S.evs (pos := p) X h.1).2.use fun vs h1 t1 k1 r => ⟨?_, k _ _ t1 (k1.trans keepAll_push) ?_⟩)
  · have := h.2; unfold lenLid at this; rw [r.length, sizeLine_is]; lia
  · unfold Rep
    exact ⟨_, vs, rfl, (X.go (tk := t1) k1).live.fresh, ⟨_, get_push (by intro e; cases e), rfl, 0, rfl⟩, r.all keepAll_push⟩
theorem meth_ok (B : Base prog w hb mg mb g d) (S : Snd prog w hb g d n) {o : Expr} {name : Str} {ap p : Pos} {args : List Expr} (X : At w hb d mu A s env l)
    (h : (ev g env.kindOf n l o).2 ∧ (evs g env.kindOf n l args).2 ∧ (methV g (ev g env.kindOf n l o).1 name (evs g env.kindOf n l args).1).2 ∧ (ap.endLine == p.line) = true ∧ BaseOk o ∧ args.length ≤ 3) :
    Tr prog w A (eval (.Call (.Attribute o name ap) args [] p) env) s (fun v h' => Rep w.params mu h' (methV g (ev g env.kindOf n l o).1 name (evs g env.kindOf n l args).1).1 v) := by
  obtain ⟨h1, h2, h3, h4, h5, hfew⟩ := h
  refine Tr.of fun R k => wpAny_Call_method_lateS (h5 _ _ _) ?_ h4 ((S.ev X h1).use fun ov h1 t1 k1 ro => ?_)
  · have := (S.evs (pos := p) X h2).1
    rw [Bool.and_eq_true, Bool.and_eq_true]
    refine ⟨⟨List.all_eq_true.mpr fun a ha => by rw [this a ha]; rfl, rfl⟩, ?_⟩
    simp; lia
  · have X1 := X.go (tk := t1) k1
    obtain ⟨T, id, pa, sl, ty, tyi, dn, hc⟩ := methV_ok B X1.base X1.room.handled ro h3
    refine ⟨T, id, pa, sl, ty, tyi, dn, ?_⟩
    have hs := S.evs (pos := p) X1 h2
    exact (tr_callWith (.inl ⟨_, rfl⟩) hs.1 [ov] hs.2 fun vs h' tk kk r => hc vs h' tk kk r).use fun v h2 t2 k2 q => k _ _ _ (k1.trans k2) q
theorem sub_ok (S : Snd prog w hb g d n) {a b : Expr} {p : Pos} (X : At w hb d mu A s env l) : EvG prog w A s mu env (.Subscript a b p) (ev g env.kindOf (n + 1) l (.Subscript a b p)) := by
  cases hs : sliceP b with
  | none => exact fun h => item_ok S hs X h
  | some q =>
    have := sliceP_is b
    rw [hs] at this
    obtain ⟨q, rfl⟩ := this
    exact fun h => cut_ok S X h
theorem snd_ev (B : Base prog w hb mg mb g d) (S : Snd prog w hb g d n) (P : ∀ m, n = m + 1 → Snd prog w hb g d m) (e : Expr) (X : At w hb d mu A s env l) : EvG prog w A s mu env e (ev g env.kindOf (n + 1) l e) := by
  cases e with
  | Constant c j p => exact fun h => const_ok h
  | Name x p => exact fun h => name_ok B X h
  | BinOp a op b p => exact fun h => bin_ok S X h
  | BoolOp op es p =>
    cases op with
    | And => exact .no
    | Or =>
      rcases es with _ | ⟨a, _ | ⟨b, _ | ⟨c, r⟩⟩⟩
      · exact .no
      · exact .no
      · exact fun h => or_ok S X h
      · exact .no
  | Compare a ops bs p =>
    rcases ops with _ | ⟨op, _ | ⟨o2, r⟩⟩
    · exact .no
    · rcases bs with _ | ⟨b, _ | ⟨b2, r⟩⟩
      · exact .no
      · exact fun h => cmp_ok B S X h
      · exact .no
    · exact .no
  | Subscript a b p => exact sub_ok S X
  | Dict ks vs p => exact fun h => disp_ok B X h
  | List es p => exact fun h => list_ok S X h
  | Tuple es j p => exact fun h => tup_ok S X h
  | ListComp elt gens scope p =>
    intro h
    obtain ⟨x, px, it, ifs, rfl⟩ := compW_form h
    exact tr_comp S X h
  | Call fe args kw p =>
    cases kw with
    | cons _ _ => cases fe <;> exact .no
    | nil =>
      cases fe with
      | Attribute o name ap => exact fun h => meth_ok B S X h
      | Name f q => exact callN_ok B S P X
      | _ => exact .no
  | _ => exact .no
theorem snd_all (B : Base prog w hb mg mb g d) : ∀ n, Snd prog w hb g d n ∧ ∀ m, n = m + 1 → Snd prog w hb g d m
  | 0 => ⟨snd_zero, fun m e => by cases e⟩
  | n + 1 => by
    obtain ⟨S, P⟩ := snd_all B n
    refine ⟨⟨fun X h => snd_ev B S P _ X h, fun X h => snd_T B S X h, fun X h => snd_And S X h, fun X h => snd_Or S X h, fun X h => snd_O S X h, fun X h => snd_s S X h, fun X h => snd_I B S X h⟩, fun m e => ?_⟩
    cases e; exact S
theorem snd (B : Base prog w hb mg mb g d) (n : Nat) : Snd prog w hb g d n := (snd_all B n).1
end
end Mine
namespace Mine
open PySem PySem.W PyProof.Rows PySem.Calls

theorem plain_keep {h h' : Heap} {a : Addr} {ws : Array Value} (x : h.PlainList a ws) (e : ∀ o, h.get? a = some o → h'.get? a = some o) : h'.PlainList a ws := x.at e
theorem at_loc (l : Ls) (x : Str) : l.at x = (l.loc x).map (·.v) := by
  induction l with
  | nil => rfl
  | cons p r ih =>
    obtain ⟨y, u⟩ := p
    show (if y = x then some u.v else Ls.at r x) = (if y = x then some u else Ls.loc r x).map (·.v)
    by_cases h : y = x
    · rw [if_pos h, if_pos h]; rfl
    · rw [if_neg h, if_neg h]; exact ih
theorem loc_put {l : Ls} {x : Str} {v : Loc} : ∀ {y : Str}, (l.put x v).loc y = if y = x then some v else l.loc y := by
  induction l with
  | nil =>
    intro y
    show (if x = y then some v else none) = if y = x then some v else none
    by_cases h : x = y
    · rw [if_pos h, if_pos h.symm]
    · rw [if_neg h, if_neg (Ne.symm h)]
  | cons p r ih =>
    intro y
    obtain ⟨z, u⟩ := p
    show Ls.loc (if z = x then (x, v) :: r else (z, u) :: Ls.put r x v) y = if y = x then some v else if z = y then some u else Ls.loc r y
    by_cases hz : z = x
    · subst hz
      rw [if_pos rfl]
      show (if z = y then some v else Ls.loc r y) = _
      by_cases h : z = y
      · subst h; rw [if_pos rfl, if_pos rfl]
      · rw [if_neg h, if_neg h, if_neg (Ne.symm h)]
    · rw [if_neg hz]
      show (if z = y then some u else Ls.loc (Ls.put r x v) y) = _
      by_cases h : z = y
      · subst h; rw [if_pos rfl, if_neg hz, if_pos rfl]
      · rw [if_neg h, if_neg h]; exact ih
theorem put_keys {l : Ls} {x : Str} {v : Loc} : ((l.put x v).map (·.1)) = l.map (·.1) ∨ ((l.put x v).map (·.1) = l.map (·.1) ++ [x] ∧ x ∉ l.map (·.1)) := by
  induction l with
  | nil => exact .inr ⟨rfl, by simp⟩
  | cons p r ih =>
    obtain ⟨z, u⟩ := p
    simp only [Ls.put]
    by_cases hz : z = x
    · rw [if_pos hz]; left; simp [hz]
    · rw [if_neg hz]
      rcases ih with e | ⟨e, n⟩
      · left; simp [e]
      · right; refine ⟨by simp [e], ?_⟩
        simp only [List.map_cons, List.mem_cons, not_or]
        exact ⟨Ne.symm hz, n⟩
theorem put_nodup {l : Ls} {x : Str} {v : Loc} (h : (l.map (·.1)).Nodup) : ((l.put x v).map (·.1)).Nodup := by
  rcases put_keys (l := l) (x := x) (v := v) with e | ⟨e, n⟩
  · rw [e]; exact h
  · rw [e, List.nodup_append]
    refine ⟨h, by simp, fun a ha b hb => ?_⟩
    rcases List.mem_singleton.mp hb with rfl
    rintro rfl; exact n ha
theorem loc_mem {l : Ls} {x : Str} {u : Loc} (h : l.loc x = some u) : x ∈ l.map (·.1) := by
  induction l with
  | nil => cases h
  | cons p r ih =>
    obtain ⟨z, w⟩ := p
    simp only [Ls.loc] at h
    by_cases hz : z = x
    · subst hz; simp
    · rw [if_neg hz] at h; exact List.mem_cons_of_mem _ (ih h)
theorem loc_clean {l : Ls} (hn : (l.map (·.1)).Nodup) {x : Str} {u : Loc} (h : l.clean.loc x = some u) : l.loc x = some u ∧ u.own = false := by
  induction l with
  | nil => cases h
  | cons p r ih =>
    obtain ⟨z, w⟩ := p
    rw [List.map_cons, List.nodup_cons] at hn
    have sub : ∀ {y}, y ∈ (Ls.clean r).map (·.1) → y ∈ r.map (·.1) := fun {y} hy => by
      obtain ⟨q, hq, e⟩ := List.mem_map.mp hy
      exact List.mem_map.mpr ⟨q, (List.mem_filter.mp hq).1, e⟩
    unfold Ls.clean at h ih sub
    rw [List.filter_cons] at h
    split at h
    · rename_i hk
      simp only [Ls.loc] at h ⊢
      by_cases hz : z = x
      · rw [if_pos hz] at h ⊢
        cases h
        exact ⟨rfl, by simpa using hk⟩
      · rw [if_neg hz] at h ⊢; exact ih hn.2 h
    · simp only [Ls.loc]
      by_cases hz : z = x
      · subst hz
        exact absurd (sub (loc_mem h)) hn.1
      · rw [if_neg hz]; exact ih hn.2 h

theorem ns_uniq {h : Heap} {a : Addr} {m m' : Str → Option Value} (x : h.Ns a m) (y : h.Ns a m') (z : Str) : m z = m' z := by
  obtain ⟨o, es, ep, g, dd, _, f⟩ := x
  obtain ⟨o', es', ep', g', dd', _, f'⟩ := y
  rw [g] at g'; cases g'
  rw [dd] at dd'; cases dd'
  rw [← f z, ← f' z]
/-- what stands at a place of our own -/
noncomputable def OwnAt (P : Params) (mu : List Addr) (h : Heap) (a : Addr) : V → Prop
  | .list xs => ∃ ws, h.PlainList a (List.toArray ws) ∧ Reps P mu h xs ws
  | .dict kv => IsIntDict P h a kv
  | _ => False
theorem OwnAt.map {P : Params} {mu mu' : List Addr} {h h' : Heap} {a : Addr} {v : V} (x : OwnAt P mu h a v) (ka : ∀ o, h.get? a = some o → h'.get? a = some o) (kr : ∀ us uw, Reps P mu h us uw → Reps P mu' h' us uw) : OwnAt P mu' h' a v := by
  cases v with
  | list xs => obtain ⟨ws, p, r⟩ := x; exact ⟨ws, plain_keep p ka, kr _ _ r⟩
  | dict kv => exact IsIntDict.keep x ka
  | _ => exact x.elim
theorem OwnAt.rep {P : Params} {mu mc : List Addr} {h : Heap} {a : Addr} {v : V} (x : OwnAt P mu h a v) (sub : ∀ b ∈ mc, b ∈ mu) (ha : a ∉ mc) : Rep P mc h v (.ref a) := by
  cases v with
  | list xs => obtain ⟨ws, p, r⟩ := x; unfold Rep; exact ⟨a, ws, rfl, ha, p.isList, r.sub sub⟩
  | dict kv => unfold Rep; exact ⟨a, rfl, ha, x⟩
  | _ => exact x.elim
theorem OwnAt.live {P : Params} {mu : List Addr} {h : Heap} {a : Addr} {v : V} (x : OwnAt P mu h a v) : ∃ o, h.get? a = some o := by
  cases v with
  | list xs => obtain ⟨ws, ⟨z, g⟩, r⟩ := x; exact ⟨_, g⟩
  | dict kv => obtain ⟨es, n, g, _⟩ := x; exact ⟨_, g⟩
  | _ => exact x.elim
/-- a table of codes that grows -/
structure TabI where
  P : Addr
  pos : Pos
  qual : Str
  code : Option Addr
noncomputable def tabA : Option TabI → List Addr
  | none => []
  | some t => [t.P]
noncomputable def TabInv (TI : Option TabI) (mm mc : List Addr) (h : Heap) : Prop := ∀ t, TI = some t → t.P ∈ mc ∧ ∃ ps, h.get? t.P = some (tabObj ps) ∧ TriplesOk ps.toList ∧
  (codeAmong t.pos ps.toList = none ∨ ∃ c', codeAmong t.pos ps.toList = some (.ref c') ∧ h.CodeRec (.ref c') t.qual ∧ c' ∉ mm ++ mc)
theorem TabInv.keep {TI : Option TabI} {mm mc : List Addr} {h h' : Heap} (x : TabInv TI mm mc h) (ap : ∀ a ∈ mm, a ∉ mc) (k : ∀ b o, b ∉ mm → h.get? b = some o → h'.get? b = some o) : TabInv TI mm mc h' := by
  intro t e
  obtain ⟨hm, ps, hp, ht, hc⟩ := x t e
  refine ⟨hm, ps, k _ _ (fun q => ap _ q hm) hp, ht, hc.imp id ?_⟩
  rintro ⟨c', e1, ⟨c, o, vs, tq, e2, ho, hd, hq⟩, hn⟩
  cases e2
  exact ⟨c', e1, ⟨c', o, vs, tq, rfl, k _ _ (fun q => hn (List.mem_append_left _ q)) ho, hd, hq⟩, hn⟩
theorem TabInv.more {TI : Option TabI} {mm mc mm' mc' : List Addr} {h h' : Heap} (x : TabInv TI mm mc h) (hk : ∀ b o, h.get? b = some o → h'.get? b = some o) (hm : ∀ b ∈ mc, b ∈ mc') (hs : ∀ b, b ∈ mm' ++ mc' → b ∈ mm ++ mc ∨ h.get? b = none) : TabInv TI mm' mc' h' := by
  intro t e
  obtain ⟨hm', ps, hp, ht, hc⟩ := x t e
  refine ⟨hm _ hm', ps, hk _ _ hp, ht, hc.imp id ?_⟩
  rintro ⟨c', e1, ⟨c, o, vs, tq, e2, ho, hd, hq⟩, hn⟩
  cases e2
  refine ⟨c', e1, ⟨c', o, vs, tq, rfl, hk _ _ ho, hd, hq⟩, fun q => ?_⟩
  rcases hs _ q with q | q
  · exact hn q
  · rw [ho] at q; cases q
/-- the state between statements -/
structure Stt (P : Params) (TI : Option TabI) (h₀ : Heap) (mc mm : List Addr) (env : Env) (h : Heap) (l : Ls) : Prop where
  tab : TabInv TI mm mc h
  hid : ∀ t, TI = some t → h₀.get? t.P = none
  code : ∀ t c, TI = some t → t.code = some c → env.code = .ref c ∧ env.qual ++ "<lambda>" = t.qual
  kind : env.scope.kind = .function
  glob : env.globals = mainGlobals
  blt : env.builtins = builtinsNs
  keep : KeepAll h₀ h
  new : ∀ a ∈ mm, h₀.get? a = none
  livem : Live mm h
  livec : Live mc h
  apart : ∀ a ∈ mm, a ∉ mc
  hloc : env.locals ∈ mm
  ns : ∃ m, h.Ns env.locals m
  cell : ∀ x, env.kindOf x = some .cell → ∃ c, env.cells.lookup x = some c ∧ c ∈ mm ∧ c ≠ env.locals ∧ ∃ v₀, h.IsCell c v₀
  inj : ∀ x y c, env.kindOf x = some .cell → env.kindOf y = some .cell → env.cells.lookup x = some c → env.cells.lookup y = some c → x = y
  free : ∀ x, env.kindOf x ≠ some .free
  nd : (l.map (·.1)).Nodup
  plain : ∀ x v, l.loc x = some ⟨v, false⟩ → nameOk x = true ∧ ∃ wv, Rd env h x wv ∧ Rep P (mm ++ mc) h v wv
  own : ∀ x v, l.loc x = some ⟨v, true⟩ → nameOk x = true ∧ env.kindOf x = some .local ∧ ∃ a, Rd env h x (.ref a) ∧ a ∈ mm ∧ a ≠ env.locals ∧ (∀ y c, env.kindOf y = some .cell → env.cells.lookup y = some c → a ≠ c) ∧
    OwnAt P (mm ++ mc) h a v
  one : ∀ x y u v, l.loc x = some ⟨u, true⟩ → l.loc y = some ⟨v, true⟩ → x = y

section
variable {prog : Program} {w : World} {hb : Heap} {mg mb : Str → Option Value} {g : Cfg} {d : Nat}
variable {n : Nat} {env : Env} {l : Ls} {mc mm : List Addr} {s : Shared} {A : Around} {h₀ : Heap} {TI : Option TabI}

theorem Stt.nmc (S : Stt w.params TI h₀ mc mm env s.heap l) {a : Addr} (ha : a ∈ mm) : a ∉ mc := S.apart a ha
/-- all names, for a look -/
theorem Stt.full (S : Stt w.params TI h₀ mc mm env s.heap l) (kb : KeepAll hb h₀) (r : Rm A d) : At w hb d mc A s env l := by
  refine ⟨⟨S.kind, S.glob, S.blt, fun x v e => ?_⟩, S.livec, kb.trans S.keep, r⟩
  rw [at_loc] at e
  obtain ⟨⟨u, b⟩, e', rfl⟩ := Option.map_eq_some_iff.mp e
  cases b with
  | false =>
    obtain ⟨hn, wv, rd, rp⟩ := S.plain x u e'
    exact ⟨hn, wv, rd, rp.sub fun a ha => List.mem_append_right _ ha⟩
  | true =>
    obtain ⟨hn, hk, a, rd, ha, _, _, ow⟩ := S.own x u e'
    exact ⟨hn, _, rd, ow.rep (fun a ha => List.mem_append_right _ ha) (S.nmc ha)⟩
/-- the names of what is not written to -/
theorem Stt.cleanAt (S : Stt w.params TI h₀ mc mm env s.heap l) (kb : KeepAll hb h₀) (r : Rm A d) : At w hb d (mm ++ mc) A s env l.clean := by
  refine ⟨⟨S.kind, S.glob, S.blt, fun x v e => ?_⟩, fun a ha => ?_, kb.trans S.keep, r⟩
  · rw [at_loc] at e
    obtain ⟨⟨u, b⟩, e', rfl⟩ := Option.map_eq_some_iff.mp e
    obtain ⟨e2, q⟩ := loc_clean S.nd e'
    simp only at q; subst q
    exact S.plain x u e2
  · rcases List.mem_append.mp ha with ha | ha
    · exact S.livem a ha
    · exact S.livec a ha
theorem Stt.go (S : Stt w.params TI h₀ mc mm env s.heap l) {h' : Heap} (k : KeepAll s.heap h') : Stt w.params TI h₀ mc mm env h' l :=
  { S with
    keep := S.keep.trans k
    livem := S.livem.keep k
    livec := S.livec.keep k
    ns := by obtain ⟨m, e⟩ := S.ns; exact ⟨m, e.keeps k⟩
    cell := fun x hx => by obtain ⟨c, e, hm, hne, v, o, gg, dd⟩ := S.cell x hx; exact ⟨c, e, hm, hne, v, o, k _ _ gg, dd⟩
    plain := fun x v e => by obtain ⟨hn, wv, rd, rp⟩ := S.plain x v e; exact ⟨hn, wv, rd.keep k, rp.all k⟩
    tab := S.tab.keep S.apart fun b o _ e => k b o e
    own := fun x v e => by obtain ⟨hn, hk, a, rd, ha, hne, hc, ow⟩ := S.own x v e; exact ⟨hn, hk, a, rd.keep k, ha, hne, hc, ow.map (fun o => k a o) fun _ _ r => r.all k⟩ }
theorem atom_rep {P : Params} {mu : List Addr} {h : Heap} {v : V} {wv : Value} (ha : isAtom v = true) {mu' : List Addr} (r : Rep P mu h v wv) : Rep P mu' h v wv := by
  cases v <;> first | (unfold Rep at r ⊢; exact r) | cases ha
/-- all but the names' own places -/
noncomputable abbrev KeepE (env : Env) (h h' : Heap) : Prop := ∀ b o, b ≠ env.locals → (∀ y c, env.kindOf y = some .cell → env.cells.lookup y = some c → b ≠ c) → h.get? b = some o → h'.get? b = some o
/-- a name is stored -/
theorem Stt.store (S : Stt w.params TI h₀ mc mm env s.heap l) {x : Str} {v : V} {wv : Value} {Q : Unit → Shared → Prop} {E : Value → Shared → Prop} (hs : storable env.kindOf x = true) (r : Rep w.params (mm ++ mc) s.heap v wv)
    (k : ∀ h' tk, Keep mm s.heap h' → KeepE env s.heap h' → (∀ y wv', y ≠ x → Rd env s.heap y wv' → Rd env h' y wv') → Stt w.params TI h₀ mc mm env h' (l.put x ⟨v, false⟩) → Q () { s with heap := h', toks := tk }) : wpAny (model prog w) A (storeName env x wv) Q E s := by
  unfold storable at hs
  rw [Bool.and_eq_true, Bool.or_eq_true] at hs
  obtain ⟨hk, hn⟩ := hs
  -- what a change at an address of our own leaves as it is
  have rest : ∀ (b : Addr) (h' : Heap), b ∈ mm → Heap.SameBut b s.heap h' → KeepAll h₀ h' ∧ (∀ u uw, Rep w.params (mm ++ mc) s.heap u uw → Rep w.params (mm ++ mc) h' u uw) ∧ (∀ u uw, Reps w.params (mm ++ mc) s.heap u uw → Reps w.params (mm ++ mc) h' u uw) ∧
      (∀ a, a ∈ mm → a ≠ b → ∃ o, h'.get? a = some o) := fun b h' hb' sb =>
    ⟨fun a o e => sameBut_keep sb a o (by rintro rfl; rw [S.new _ hb'] at e; cases e) (S.keep a o e),
     fun u uw r => r.keep fun a o ha e => sameBut_keep sb a o (by rintro rfl; exact ha (List.mem_append_left _ hb')) e,
     fun u uw r => r.keep fun a o ha e => sameBut_keep sb a o (by rintro rfl; exact ha (List.mem_append_left _ hb')) e,
     fun a ha hne => by obtain ⟨o, e⟩ := S.livem a ha; exact ⟨o, sameBut_keep sb a o hne e⟩⟩
  rcases hk with hk | hk
  · have hk : env.kindOf x = some .local := by simpa using hk
    obtain ⟨m, hm⟩ := S.ns
    refine wpAny_storeName_local hk hm (fun h' hm' sb => ?_) (by rw [S.kind]; rfl)
    obtain ⟨k0, kr, krs, kl⟩ := rest env.locals h' S.hloc sb
    have kmm : Keep mm s.heap h' := fun b o hb e => sameBut_keep sb b o (by rintro rfl; exact hb S.hloc) e
    have rdk : ∀ y wv', y ≠ x → Rd env s.heap y wv' → Rd env h' y wv' := fun y wv' hy rd => by
      rcases rd with ⟨e, m', hm2, hv⟩ | ⟨e, c, lc, o, gg, dd⟩
      · refine .inl ⟨e, _, hm', ?_⟩
        rw [if_neg hy]
        rw [ns_uniq hm hm2 y]; exact hv
      · refine .inr ⟨e, c, lc, o, sameBut_keep sb c o ?_ gg, dd⟩
        rcases e with e | e
        · obtain ⟨c', lc', _, hne, _⟩ := S.cell y e
          rw [lc] at lc'; cases lc'; exact hne
        · exact absurd e (S.free y)
    refine k h' _ kmm (fun b o h1 h2 e => sameBut_keep sb b o h1 e) rdk ?_
    exact { S with
      tab := S.tab.keep S.apart kmm
      keep := k0
      livec := fun a ha => by obtain ⟨o, e⟩ := S.livec a ha; exact ⟨o, sameBut_keep sb a o (by rintro rfl; exact S.apart _ S.hloc ha) e⟩
      livem := fun a ha => by
        by_cases e : a = env.locals
        · subst e; obtain ⟨o, _, _, gg, _⟩ := hm'; exact ⟨o, gg⟩
        · exact kl a ha e
      ns := ⟨_, hm'⟩
      cell := fun y hy => by obtain ⟨c, e, hc, hne, v0, o, gg, dd⟩ := S.cell y hy; exact ⟨c, e, hc, hne, v0, o, sameBut_keep sb c o hne gg, dd⟩
      nd := put_nodup S.nd
      plain := fun y u e => by
        rw [loc_put] at e
        by_cases hy : y = x
        · subst hy
          rw [if_pos rfl] at e; cases e
          exact ⟨hn, wv, .inl ⟨hk, _, hm', if_pos rfl⟩, kr _ _ r⟩
        · rw [if_neg hy] at e
          obtain ⟨h1, wv', rd, rp⟩ := S.plain y u e
          exact ⟨h1, wv', rdk y wv' hy rd, kr _ _ rp⟩
      own := fun y u e => by
        rw [loc_put] at e
        by_cases hy : y = x
        · subst hy; rw [if_pos rfl] at e; cases e
        · rw [if_neg hy] at e
          obtain ⟨h1, h2, a, rd, ha, hne, hc, ow⟩ := S.own y u e
          exact ⟨h1, h2, a, rdk y _ hy rd, ha, hne, hc, ow.map (fun o => sameBut_keep sb a o hne) krs⟩
      one := fun y z u v' e1 e2 => by
        rw [loc_put] at e1 e2
        by_cases hy : y = x
        · rw [if_pos hy] at e1; cases e1
        · by_cases hz : z = x
          · rw [if_pos hz] at e2; cases e2
          · rw [if_neg hy] at e1; rw [if_neg hz] at e2; exact S.one y z u v' e1 e2 }
  · have hk : env.kindOf x = some .cell := by simpa using hk
    obtain ⟨c, lc, hc, hne, v0, ic⟩ := S.cell x hk
    refine wpAny_storeName_cell S.kind hk lc ic fun h' ic' sb => ?_
    obtain ⟨k0, kr, krs, kl⟩ := rest c h' hc sb
    have kmm : Keep mm s.heap h' := fun b o hb e => sameBut_keep sb b o (by rintro rfl; exact hb hc) e
    have rdk : ∀ y wv', y ≠ x → Rd env s.heap y wv' → Rd env h' y wv' := fun y wv' hy rd => by
      rcases rd with ⟨e, m', hm2, hv⟩ | ⟨e, c', lc', o, gg, dd⟩
      · exact .inl ⟨e, m', hm2.at' fun o => sameBut_keep sb _ o (Ne.symm hne), hv⟩
      · refine .inr ⟨e, c', lc', o, sameBut_keep sb c' o ?_ gg, dd⟩
        rintro rfl
        rcases e with e | e
        · exact hy (S.inj y x c' e hk lc' lc)
        · exact absurd e (S.free y)
    refine k h' _ kmm (fun b o h1 h2 e => sameBut_keep sb b o (h2 x c hk lc) e) rdk ?_
    exact { S with
      tab := S.tab.keep S.apart kmm
      keep := k0
      livec := fun a ha => by obtain ⟨o, e⟩ := S.livec a ha; exact ⟨o, sameBut_keep sb a o (by rintro rfl; exact S.apart _ hc ha) e⟩
      livem := fun a ha => by
        by_cases e : a = c
        · subst e; obtain ⟨o, gg, _⟩ := ic'; exact ⟨o, gg⟩
        · exact kl a ha e
      ns := by obtain ⟨m, hm⟩ := S.ns; exact ⟨m, hm.at' fun o => sameBut_keep sb _ o (Ne.symm hne)⟩
      cell := fun y hy => by
        obtain ⟨c', e, hc', hne', v0', o, gg, dd⟩ := S.cell y hy
        by_cases ecc : c' = c
        · subst ecc; exact ⟨c', e, hc', hne', _, ic'⟩
        · exact ⟨c', e, hc', hne', v0', o, sameBut_keep sb c' o ecc gg, dd⟩
      nd := put_nodup S.nd
      plain := fun y u e => by
        rw [loc_put] at e
        by_cases hy : y = x
        · subst hy
          rw [if_pos rfl] at e; cases e
          exact ⟨hn, wv, .inr ⟨.inl hk, c, lc, ic'⟩, kr _ _ r⟩
        · rw [if_neg hy] at e
          obtain ⟨h1, wv', rd, rp⟩ := S.plain y u e
          exact ⟨h1, wv', rdk y wv' hy rd, kr _ _ rp⟩
      own := fun y u e => by
        rw [loc_put] at e
        by_cases hy : y = x
        · subst hy; rw [if_pos rfl] at e; cases e
        · rw [if_neg hy] at e
          obtain ⟨h1, h2, a, rd, ha, hne', hc', ow⟩ := S.own y u e
          exact ⟨h1, h2, a, rdk y _ hy rd, ha, hne', hc', ow.map (fun o => sameBut_keep sb a o (hc' x c hk lc)) krs⟩
      one := fun y z u v' e1 e2 => by
        rw [loc_put] at e1 e2
        by_cases hy : y = x
        · rw [if_pos hy] at e1; cases e1
        · by_cases hz : z = x
          · rw [if_pos hz] at e2; cases e2
          · rw [if_neg hy] at e1; rw [if_neg hz] at e2; exact S.one y z u v' e1 e2 }
end
end Mine
namespace Mine
open PySem PySem.W PyProof.Rows PySem.Calls
section
variable {prog : Program} {w : World} {hb : Heap} {mg mb : Str → Option Value} {g : Cfg} {d : Nat}
variable {n : Nat} {env : Env} {l : Ls} {mc mm : List Addr} {s : Shared} {A : Around} {h₀ : Heap} {TI : Option TabI}

theorem atoms_rep {P : Params} {mu mu' : List Addr} {h h' : Heap} : ∀ {xs : List V} {ws : List Value}, (∀ v ∈ xs, isAtom v = true) → Reps P mu h xs ws → Reps P mu' h' xs ws
  | [], ws, _, r => by unfold Reps at r ⊢; exact r
  | x :: xs, ws, ha, r => by
    unfold Reps at r ⊢
    obtain ⟨v, vs, e, r1, r2⟩ := r
    refine ⟨v, vs, e, ?_, atoms_rep (fun v hv => ha v (.tail _ hv)) r2⟩
    have := ha x (.head _)
    cases x <;> first | (unfold Rep at r1 ⊢; exact r1) | cases this
/-- one more address of our own -/
theorem Stt.addr (S : Stt w.params TI h₀ mc mm env s.heap l) {h : Heap} {a : Addr} (kk : KeepAll s.heap h) (ha : s.heap.get? a = none) (hl : ∃ o, h.get? a = some o) : Stt w.params TI h₀ mc (a :: mm) env h l := by
  have hmu : ∀ b, b ∈ (a :: mm) ++ mc → b ∈ mm ++ mc ∨ s.heap.get? b = none := fun b hb => by
    rcases List.mem_cons.mp hb with rfl | hb
    · exact .inr ha
    · exact .inl hb
  have T := S.go kk
  exact { T with
    new := fun b hb => by
      rcases List.mem_cons.mp hb with rfl | hb
      · cases q : h₀.get? b with
        | none => rfl
        | some o => have := S.keep _ _ q; rw [ha] at this; cases this
      · exact S.new b hb
    livem := fun b hb => by
      rcases List.mem_cons.mp hb with rfl | hb
      · exact hl
      · exact T.livem b hb
    hloc := .tail _ S.hloc
    apart := fun b hb q => by
      rcases List.mem_cons.mp hb with rfl | hb
      · obtain ⟨o, e⟩ := S.livec b q; rw [ha] at e; cases e
      · exact S.apart b hb q
    cell := fun x hx => by obtain ⟨c, e, hm, r⟩ := T.cell x hx; exact ⟨c, e, .tail _ hm, r⟩
    plain := fun x v e => by obtain ⟨hn, wv, rd, rp⟩ := S.plain x v e; exact ⟨hn, wv, rd.keep kk, (rp.more hmu).all kk⟩
    tab := S.tab.more kk (fun _ h => h) hmu
    own := fun x v e => by obtain ⟨hn, hk, a', rd, ha', hne, hc, ow⟩ := S.own x v e; exact ⟨hn, hk, a', rd.keep kk, .tail _ ha', hne, hc, ow.map (fun o => kk a' o) fun _ _ r => (r.more hmu).all kk⟩ }
theorem Stt.storeOwn (S : Stt w.params TI h₀ mc mm env s.heap l) {x : Str} {a : Addr} {u0 : V} {Q : Unit → Shared → Prop} {E : Value → Shared → Prop} (hk : env.kindOf x = some .local) (hn : nameOk x = true)
    (ham : a ∈ mm) (hal : a ≠ env.locals) (hac : ∀ y c, env.kindOf y = some .cell → env.cells.lookup y = some c → a ≠ c) (how : OwnAt w.params (mm ++ mc) s.heap a u0)
    (hone : ∀ y u, l.loc y = some ⟨u, true⟩ → y = x)
    (k : ∀ h' tk, Keep mm s.heap h' → Stt w.params TI h₀ mc mm env h' (l.put x ⟨u0, true⟩) → Q () { s with heap := h', toks := tk }) : wpAny (model prog w) A (storeName env x (.ref a)) Q E s := by
  obtain ⟨m, hm⟩ := S.ns
  refine wpAny_storeName_local hk hm (fun h' hm' sb => ?_) (by rw [S.kind]; rfl)
  have kmm : Keep mm s.heap h' := fun b o hb e => sameBut_keep sb b o (by rintro rfl; exact hb S.hloc) e
  refine k h' _ kmm ?_
  have kr : ∀ u uw, Rep w.params (mm ++ mc) s.heap u uw → Rep w.params (mm ++ mc) h' u uw := fun u uw r => r.keep fun a o ha e => sameBut_keep sb a o (by rintro rfl; exact ha (List.mem_append_left _ S.hloc)) e
  have krs : ∀ u uw, Reps w.params (mm ++ mc) s.heap u uw → Reps w.params (mm ++ mc) h' u uw := fun u uw r => r.keep fun a o ha e => sameBut_keep sb a o (by rintro rfl; exact ha (List.mem_append_left _ S.hloc)) e
  have rdk : ∀ y wv', y ≠ x → Rd env s.heap y wv' → Rd env h' y wv' := fun y wv' hy rd => by
    rcases rd with ⟨e, m', hm2, hv⟩ | ⟨e, c, lc, o, gg, dd⟩
    · refine .inl ⟨e, _, hm', ?_⟩
      rw [if_neg hy]
      rw [ns_uniq hm hm2 y]; exact hv
    · refine .inr ⟨e, c, lc, o, sameBut_keep sb c o ?_ gg, dd⟩
      rcases e with e | e
      · obtain ⟨c', lc', _, hne, _⟩ := S.cell y e
        rw [lc] at lc'; cases lc'; exact hne
      · exact absurd e (S.free y)
  exact { S with
    tab := S.tab.keep S.apart kmm
    keep := fun a o e => sameBut_keep sb a o (by rintro rfl; rw [S.new _ S.hloc] at e; cases e) (S.keep a o e)
    livec := fun a ha => by obtain ⟨o, e⟩ := S.livec a ha; exact ⟨o, sameBut_keep sb a o (by rintro rfl; exact S.apart _ S.hloc ha) e⟩
    livem := fun a ha => by
      by_cases e : a = env.locals
      · subst e; obtain ⟨o, _, _, gg, _⟩ := hm'; exact ⟨o, gg⟩
      · obtain ⟨o, e2⟩ := S.livem a ha; exact ⟨o, sameBut_keep sb a o e e2⟩
    ns := ⟨_, hm'⟩
    cell := fun y hy => by obtain ⟨c, e, hc, hne, v0, o, gg, dd⟩ := S.cell y hy; exact ⟨c, e, hc, hne, v0, o, sameBut_keep sb c o hne gg, dd⟩
    nd := put_nodup S.nd
    plain := fun y u e => by
      rw [loc_put] at e
      by_cases hy : y = x
      · rw [if_pos hy] at e; cases e
      · rw [if_neg hy] at e
        obtain ⟨h1, wv', rd, rp⟩ := S.plain y u e
        exact ⟨h1, wv', rdk y wv' hy rd, kr _ _ rp⟩
    own := fun y u e => by
      rw [loc_put] at e
      by_cases hy : y = x
      · subst hy; rw [if_pos rfl] at e; cases e
        exact ⟨hn, hk, a, .inl ⟨hk, _, hm', if_pos rfl⟩, ham, hal, hac, how.map (fun o => sameBut_keep sb a o hal) krs⟩
      · rw [if_neg hy] at e
        exact absurd (hone y u e) hy
    one := fun y z u v' e1 e2 => by
      rw [loc_put] at e1 e2
      by_cases hy : y = x
      · by_cases hz : z = x
        · rw [hy, hz]
        · rw [if_neg hz] at e2; exact absurd (hone z v' e2) hz
      · rw [if_neg hy] at e1; exact absurd (hone y u e1) hy }
/-- a list of our own is written to -/
theorem Stt.write (S : Stt w.params TI h₀ mc mm env s.heap l) {x : Str} {a : Addr} {u0 u1 : V} {h' : Heap} (hx : l.loc x = some ⟨u0, true⟩) (rd : Rd env s.heap x (.ref a)) (sb : Heap.SameBut a s.heap h')
    (how : (∀ us uw, Reps w.params (mm ++ mc) s.heap us uw → Reps w.params (mm ++ mc) h' us uw) → OwnAt w.params (mm ++ mc) h' a u1) : Stt w.params TI h₀ mc mm env h' (l.put x ⟨u1, true⟩) := by
  obtain ⟨hn, hk, a', rd', ham, hal, hac, ow0⟩ := S.own x _ hx
  have : a' = a := by
    have hk : env.kindOf x = some .local := hk
    rcases rd with ⟨_, m, hm, hv⟩ | ⟨e | e, _⟩
    · rcases rd' with ⟨_, m', hm', hv'⟩ | ⟨e | e, _⟩
      · have := ns_uniq hm hm' x
        rw [hv, hv'] at this; cases this; rfl
      · rw [hk] at e; cases e
      · rw [hk] at e; cases e
    · rw [hk] at e; cases e
    · rw [hk] at e; cases e
  subst this
  have kr : ∀ u uw, Rep w.params (mm ++ mc) s.heap u uw → Rep w.params (mm ++ mc) h' u uw := fun u uw r => r.keep fun b o hb e => sameBut_keep sb b o (by rintro rfl; exact hb (List.mem_append_left _ ham)) e
  have krs : ∀ u uw, Reps w.params (mm ++ mc) s.heap u uw → Reps w.params (mm ++ mc) h' u uw := fun u uw r => r.keep fun b o hb e => sameBut_keep sb b o (by rintro rfl; exact hb (List.mem_append_left _ ham)) e
  have rdk : ∀ y wv', Rd env s.heap y wv' → Rd env h' y wv' := fun y wv' rd => by
    rcases rd with ⟨e, m', hm2, hv⟩ | ⟨e, c, lc, o, gg, dd⟩
    · exact .inl ⟨e, m', hm2.at' fun o => sameBut_keep sb _ o (Ne.symm hal), hv⟩
    · refine .inr ⟨e, c, lc, o, sameBut_keep sb c o ?_ gg, dd⟩
      rcases e with e | e
      · exact Ne.symm (hac y c e lc)
      · exact absurd e (S.free y)
  exact { S with
    tab := S.tab.keep S.apart fun b o hb e => sameBut_keep sb b o (by rintro rfl; exact hb ham) e
    keep := fun b o e => sameBut_keep sb b o (by rintro rfl; rw [S.new _ ham] at e; cases e) (S.keep b o e)
    livec := fun b hb => by obtain ⟨o, e⟩ := S.livec b hb; exact ⟨o, sameBut_keep sb b o (by rintro rfl; exact S.apart _ ham hb) e⟩
    livem := fun b hb => by
      by_cases e : b = a'
      · subst e; exact (how krs).live
      · obtain ⟨o, e2⟩ := S.livem b hb; exact ⟨o, sameBut_keep sb b o e e2⟩
    ns := by obtain ⟨m, hm⟩ := S.ns; exact ⟨m, hm.at' fun o => sameBut_keep sb _ o (Ne.symm hal)⟩
    cell := fun y hy => by obtain ⟨c, e, hc, hne, v0, o, gg, dd⟩ := S.cell y hy; exact ⟨c, e, hc, hne, v0, o, sameBut_keep sb c o (Ne.symm (hac y c hy e)) gg, dd⟩
    nd := put_nodup S.nd
    plain := fun y u e => by
      rw [loc_put] at e
      by_cases hy : y = x
      · rw [if_pos hy] at e; cases e
      · rw [if_neg hy] at e
        obtain ⟨h1, wv', rd, rp⟩ := S.plain y u e
        exact ⟨h1, wv', rdk y wv' rd, kr _ _ rp⟩
    own := fun y u e => by
      rw [loc_put] at e
      by_cases hy : y = x
      · subst hy; rw [if_pos rfl] at e; cases e
        exact ⟨hn, hk, a', rdk _ _ rd', ham, hal, hac, how krs⟩
      · rw [if_neg hy] at e
        exact absurd (S.one y x u _ e hx) hy
    one := fun y z u v' e1 e2 => by
      rw [loc_put] at e1 e2
      by_cases hy : y = x
      · by_cases hz : z = x
        · rw [hy, hz]
        · rw [if_neg hz] at e2; exact absurd (S.one z x _ _ e2 hx) hz
      · rw [if_neg hy] at e1; exact absurd (S.one y x _ _ e1 hx) hy }
theorem Stt.same {l' : Ls} {h : Heap} (S : Stt w.params TI h₀ mc mm env h l) (e : ∀ x, l'.loc x = l.loc x) (hn : (l'.map (·.1)).Nodup) : Stt w.params TI h₀ mc mm env h l' :=
  { S with
    nd := hn
    plain := fun x v h => S.plain x v (by rw [← e]; exact h)
    own := fun x v h => S.own x v (by rw [← e]; exact h)
    one := fun x y u v h1 h2 => S.one x y u v (by rw [← e]; exact h1) (by rw [← e]; exact h2) }
theorem reps_set {P : Params} {mu : List Addr} {h : Heap} {v : V} {wv : Value} (r : Rep P mu h v wv) : ∀ {xs : List V} {ws : List Value} (i : Nat), Reps P mu h xs ws → Reps P mu h (xs.set i v) (ws.set i wv)
  | [], ws, i, q => by unfold Reps at q; subst q; simp [Reps]
  | x :: xs, ws, i, q => by
    obtain ⟨y, ys, rfl, q1, q2⟩ := reps_cons q
    cases i with
    | zero => show Reps P mu h (v :: xs) (wv :: ys); unfold Reps; exact ⟨_, _, rfl, r, q2⟩
    | succ i => show Reps P mu h (x :: xs.set i v) (y :: ys.set i wv); unfold Reps; exact ⟨_, _, rfl, q1, reps_set r i q2⟩
theorem swap_cases {x y : Str} {px py tp : Pos} {k : Nat} {e : Expr} (hf : env.scope.kind = .function) (h : constTup e = false) :
    swappedStores [.Tuple [.Name x px, .Name y py] k tp] e env = pure none ∨ swappedStores [.Tuple [.Name x px, .Name y py] k tp] e env = pure (some [x, y]) := by
  cases e with
  | Tuple vs k2 p2 =>
    have h : vs.all (constantsAlone 8) = false := h
    unfold swappedStores
    dsimp only
    split
    · exact .inl rfl
    · split
      · exact .inl rfl
      · split
        · exact .inl rfl
        · split
          · exact .inl rfl
          · rw [h]
            right
            rename_i hnm _
            have e1 : (Expr.Name x px).pos = px := rfl
            by_cases h1 : env.kindOf x = some .local <;> by_cases h2 : env.kindOf y = some .local <;> by_cases h3 : py.line = px.line <;>
              first
                | (simp [h1, h2, h3, e1]; done)
                | (exfalso; apply hnm; simp [h1, h2, h3, e1]; done)
  | _ => exact .inl rfl
end
end Mine
namespace Mine
open PySem PySem.W PyProof.Rows PySem.Calls
section
variable {prog : Program} {w : World} {hb : Heap} {mg mb : Str → Option Value} {g : Cfg} {d : Nat}
variable {n : Nat} {env : Env} {l : Ls} {mc mm : List Addr} {s : Shared} {A : Around} {h₀ : Heap} {TI : Option TabI}

/-- all but the table and the frame's own -/
noncomputable abbrev KeepF (TI : Option TabI) (mm : List Addr) (h h' : Heap) : Prop := ∀ b o, b ∉ tabA TI → b ∉ mm → h.get? b = some o → h'.get? b = some o
noncomputable abbrev Grow (mm : List Addr) (h : Heap) (mm' : List Addr) : Prop := ∀ a ∈ mm', a ∈ mm ∨ h.get? a = none
/-- how a statement ends -/
noncomputable def FinS (w : World) (TI : Option TabI) (h₀ : Heap) (mc mm : List Addr) (env : Env) (r : Fl × Ls × Prop) (s : Shared) (f : Flow) (s' : Shared) : Prop :=
  ∃ h' tk, s' = { s with heap := h', toks := tk } ∧ KeepF TI mm s.heap h' ∧ match r.1 with
    | .next => f = .next ∧ ∃ mm', Grow mm s.heap mm' ∧ Stt w.params TI h₀ mc mm' env h' r.2.1
    | .ret v => KeepAll h₀ h' ∧ TabInv TI [] mc h' ∧ ∃ wv, f = .ret wv ∧ Rep w.params mc h' v wv
variable (prog w hb TI g d)
structure Sx (n : Nat) : Prop where
  ex : ∀ {h₀ mc env l mm s A st}, KeepAll hb h₀ → Stt w.params TI h₀ mc mm env s.heap l → Rm A d → (ex g env.kindOf n l st).2.2 → wpAny (model prog w) A (exec st env) (FinS w TI h₀ mc mm env (ex g env.kindOf n l st) s) (fun _ _ => False) s
  exs : ∀ {h₀ mc env l mm s A ss}, KeepAll hb h₀ → Stt w.params TI h₀ mc mm env s.heap l → Rm A d → (exs g env.kindOf n l ss).2.2 → wpAny (model prog w) A (execs ss env) (FinS w TI h₀ mc mm env (exs g env.kindOf n l ss) s) (fun _ _ => False) s
variable {prog w hb TI g d}
theorem KeepF.trans' {TI : Option TabI} {h h1 h2 : Heap} {mm1 : List Addr} (k : KeepF TI mm h h1) (gr : Grow mm h mm1) (k2 : KeepF TI mm1 h1 h2) : KeepF TI mm h h2 := fun b o ht hb e =>
  k2 b o ht (fun q => by rcases gr b q with q | q; exact hb q; rw [e] at q; cases q) (k b o ht hb e)
/-- what lives goes on living -/
noncomputable abbrev Lives (h h' : Heap) : Prop := ∀ b, h'.get? b = none → h.get? b = none
theorem Grow.refl {h : Heap} : Grow mm h mm := fun _ h => .inl h
theorem evS_ok (B : Base prog w hb mg mb g d) (kb : KeepAll hb h₀) (S : Stt w.params TI h₀ mc mm env s.heap l) (r : Rm A d) {e : Expr} (h : (evS g env.kindOf n l e).2) :
    Tr prog w A (eval e env) s (fun v h' => Rep w.params (mm ++ mc) h' (evS g env.kindOf n l e).1 v) := by
  unfold evS at h ⊢
  dsimp only at h ⊢
  split at h
  · rename_i ha
    rw [if_pos ha]
    exact ((snd B n).ev (S.full kb r) h).mono fun v h' _ q => atom_rep ha q
  · rename_i ha
    rw [if_neg ha]
    exact (snd B n).ev (S.cleanAt kb r) h
/-- from a store to the end of a statement -/
theorem fin_store {x : Str} {v : V} {wv : Value} {s₀ : Shared} {tk : Nat} {h1 : Heap} (S : Stt w.params TI h₀ mc mm env h1 l) (k1 : KeepF TI mm s₀.heap h1) (hs : storable env.kindOf x = true) (r : Rep w.params (mm ++ mc) h1 v wv) {c : Prop} :
    wpAny (model prog w) A (storeName env x wv) (fun _ => FinS w TI h₀ mc mm env (.next, l.put x ⟨v, false⟩, c) s₀ .next) (fun _ _ => False) { s₀ with heap := h1, toks := tk } :=
  Stt.store (s := { s₀ with heap := h1, toks := tk }) S hs r fun h' tk' kk _ _ T => ⟨h', tk', rfl, fun b o ht hb e => kk b o hb (k1 b o ht hb e), rfl, mm, Grow.refl, T⟩
theorem swaps_pure (value : Expr) (x : Str) (p : Pos) (line : Nat) (env : Env) : (∃ elt gens scope pos, value = .ListComp elt gens scope pos) ∨ (∃ elt gens scope pos, value = .SetComp elt gens scope pos) ∨ (∃ a elt gens scope pos, value = .DictComp a elt gens scope pos) ∨ swapsWith value (some (.Name x p)) line env = pure false := by
  cases value <;> first | exact .inl ⟨_, _, _, _, rfl⟩ | exact .inr (.inl ⟨_, _, _, _, rfl⟩) | exact .inr (.inr (.inl ⟨_, _, _, _, _, rfl⟩)) | exact .inr (.inr (.inr rfl))
theorem swaps_comp (elt : Expr) (gens : List Comprehension) (scope : Scope) (pos : Pos) (x : Str) (p : Pos) (line : Nat) (env : Env) :
    swapsWith (.ListComp elt gens scope pos) (some (.Name x p)) line env = pure true ∨ swapsWith (.ListComp elt gens scope pos) (some (.Name x p)) line env = pure false := by
  unfold swapsWith
  dsimp only
  generalize (env.blockKind == .function && env.kindOf x == some .local && p.line == (PySem.Expr.ListComp elt gens scope pos).pos.line && !(scope.names.any fun (n, k) => n == x && (k == .local || k == .cell))) = b
  cases b
  · exact .inr rfl
  · exact .inl rfl
theorem Stt.drop {C : Addr} {m : Str → Option Value} {h h' : Heap} (S : Stt w.params TI h₀ mc (C :: mm) env h l) (hm : h.Ns C m) (sb : Heap.SameBut C h h') (hCm : C ∉ mm) (h1 : C ≠ env.locals) (h2 : ∀ y c, env.kindOf y = some .cell → env.cells.lookup y = some c → C ≠ c) (hO : ∀ y u a, l.loc y = some ⟨u, true⟩ → Rd env h y (.ref a) → a ≠ C) : Stt w.params TI h₀ mc mm env h' l := by
  have sub : ∀ a, a ∈ mm ++ mc → a ∈ (C :: mm) ++ mc := fun a ha => .tail _ ha
  have fC : h₀.get? C = none := S.new C (.head _)
  have rdk : ∀ y wv', Rd env h y wv' → Rd env h' y wv' := fun y wv' rd => by
    rcases rd with ⟨e, m', hm2, hv⟩ | ⟨e, c, lc, o, gg, dd⟩
    · exact .inl ⟨e, m', hm2.at' fun o => sameBut_keep sb _ o (Ne.symm h1), hv⟩
    · refine .inr ⟨e, c, lc, o, sameBut_keep sb c o ?_ gg, dd⟩
      rcases e with e | e
      · exact Ne.symm (h2 y c e lc)
      · exact absurd e (S.free y)
  have kr : ∀ u uw, Rep w.params ((C :: mm) ++ mc) h u uw → Rep w.params (mm ++ mc) h' u uw := fun u uw r => (r.keep fun b o hb e => sameBut_keep sb b o (fun q => hb (q ▸ .head _)) e).sub sub
  have krs : ∀ u uw, Reps w.params ((C :: mm) ++ mc) h u uw → Reps w.params (mm ++ mc) h' u uw := fun u uw r => (r.keep fun b o hb e => sameBut_keep sb b o (fun q => hb (q ▸ .head _)) e).sub sub
  exact { S with
    tab := by
      intro t e
      obtain ⟨hm', ps, hp, ht, hc⟩ := S.tab t e
      refine ⟨hm', ps, sameBut_keep sb _ _ (fun q => S.apart _ (.head _) (q ▸ hm')) hp, ht, hc.imp id ?_⟩
      rintro ⟨c', e1, ⟨c, o, vs, tq, e2, ho, hd, hq⟩, hn⟩
      cases e2
      exact ⟨c', e1, ⟨c', o, vs, tq, rfl, sameBut_keep sb _ _ (fun q => hn (q ▸ .head _)) ho, hd, hq⟩, fun q => hn (sub _ q)⟩
    keep := fun b o e => sameBut_keep sb b o (by rintro rfl; rw [fC] at e; cases e) (S.keep b o e)
    new := fun a ha => S.new a (.tail _ ha)
    livec := fun b hb => by obtain ⟨o, e⟩ := S.livec b hb; exact ⟨o, sameBut_keep sb b o (by rintro rfl; exact S.apart _ (.head _) hb) e⟩
    apart := fun a ha => S.apart a (.tail _ ha)
    livem := fun a ha => by
      by_cases e : a = C
      · exact absurd (e ▸ ha) hCm
      · obtain ⟨o, e2⟩ := S.livem a (.tail _ ha); exact ⟨o, sameBut_keep sb a o e e2⟩
    hloc := by
      rcases List.mem_cons.mp S.hloc with q | q
      · exact absurd q.symm h1
      · exact q
    ns := by obtain ⟨m, hm⟩ := S.ns; exact ⟨m, hm.at' fun o => sameBut_keep sb _ o (Ne.symm h1)⟩
    cell := fun y hy => by
      obtain ⟨c, e, hc, hne, v0, o, gg, dd⟩ := S.cell y hy
      have := h2 y c hy e
      refine ⟨c, e, ?_, hne, v0, o, sameBut_keep sb c o (Ne.symm this) gg, dd⟩
      rcases List.mem_cons.mp hc with q | q
      · exact absurd q.symm this
      · exact q
    plain := fun y u e => by obtain ⟨h1, wv', rd, rp⟩ := S.plain y u e; exact ⟨h1, wv', rdk y wv' rd, kr _ _ rp⟩
    own := fun y u e => by
      obtain ⟨h1, h2, a, rd, ha, hne', hc', ow⟩ := S.own y u e
      have haC : a ≠ C := hO y u a e rd
      refine ⟨h1, h2, a, rdk y _ rd, ?_, hne', hc', ow.map (fun o => sameBut_keep sb a o haC) krs⟩
      rcases List.mem_cons.mp ha with q | q
      · exact absurd q haC
      · exact q }
end
end Mine
namespace Mine
open PySem PySem.W PyProof.Rows PySem.Calls
section
variable {prog : Program} {w : World} {hb : Heap} {mg mb : Str → Option Value} {g : Cfg} {d : Nat}
variable {n : Nat} {env : Env} {l : Ls} {mc mm : List Addr} {s : Shared} {A : Around} {h₀ : Heap} {TI : Option TabI}

theorem ev_comp_form {e : Expr} {l : Ls} {k : Kd} {elt : Expr} {gens : List Comprehension} {scope : Scope} {pos : Pos} (he : e = .ListComp elt gens scope pos) (h : (ev g k n l e).2) :
    ∃ m x px it ifs, n = m + 1 ∧ gens = [⟨.Name x px, it, ifs, 0⟩] := by
  subst he
  cases n with
  | zero => exact h.elim
  | succ m =>
    obtain ⟨x, px, it, ifs, rfl⟩ := compW_form h
    exact ⟨m, x, px, it, ifs, rfl, rfl⟩
theorem rd_one {env : Env} {h : Heap} {x : Str} {a b : Value} (hk : env.kindOf x = some .local) (r1 : Rd env h x a) (r2 : Rd env h x b) : a = b := by
  rcases r1 with ⟨_, m, hm, hv⟩ | ⟨e | e, _⟩
  · rcases r2 with ⟨_, m', hm', hv'⟩ | ⟨e | e, _⟩
    · have := ns_uniq hm hm' x
      rw [hv, hv'] at this; cases this; rfl
    · rw [hk] at e; cases e
    · rw [hk] at e; cases e
  · rw [hk] at e; cases e
  · rw [hk] at e; cases e
/-- a comprehension on the line of its local name: the name is stored first -/
theorem assign_used (B : Base prog w hb mg mb g d) (kb : KeepAll hb h₀) (S : Stt w.params TI h₀ mc mm env s.heap l) (r : Rm A d) {x : Str} {px : Pos} {elt : Expr} {gens : List Comprehension} {scope : Scope} {pos spos : Pos} {l' : Ls} (X : At w hb d (mm ++ mc) A s env l')
    (h : (ev g env.kindOf n l' (.ListComp elt gens scope pos)).2) (hs : storable env.kindOf x = true) (hsw : swapsWith (.ListComp elt gens scope pos) (some (.Name x px)) spos.line env = pure true) {c : Prop} :
    wpAny (model prog w) A (exec (.Assign [.Name x px] (.ListComp elt gens scope pos) spos) env) (FinS w TI h₀ mc mm env (.next, l.put x ⟨(ev g env.kindOf n l' (.ListComp elt gens scope pos)).1, false⟩, c) s) (fun _ _ => False) s := by
  obtain ⟨m, y, py, it, ifs, rfl, rfl⟩ := ev_comp_form (g := g) rfl h
  obtain ⟨p, f, ee, hq, hx, hnx, hso, hlen, hT, hE⟩ := comp_parts (snd B m) X h
  rw [ee, exec_Assign_Name_used _ _ _ _ hsw]
  refine wpAny_bind (wpAny_standAt (wpAny_bind ?_))
  show wpAny _ A (do let _ ← comprehension (.ListComp elt [⟨.Name y py, it, ifs, 0⟩] scope pos) scope env _ (newList []) false (eval it env) (some (assign (.Name x px) env))) _ _ s
  refine wpAny_bind (wpAny_mono (comp_run (use := some (assign (.Name x px) env)) (Q := fun _ s' => FinS w TI h₀ mc mm env (.next, l.put x ⟨.list (((evI g env.kindOf m l' it).1.filter p).map f), false⟩, c) s .next s') (E := fun _ _ => False) (snd B m) X hq hx hnx hso hlen hT hE ?_) (fun _ s' hq => wpAny_pure (wpAny_pure hq)) fun _ _ e => e)
  intro D C h' tk m' ws fD fC nD nC hCD kk hn hl hr
  show wpAny _ A (assign (.Name x px) env (.ref D)) _ _ _
  have gC : ∃ o, h'.get? C = some o := let ⟨o, _, _, gg, _⟩ := hn; ⟨o, gg⟩
  have S1 := S.addr kk fC gC
  have hr' : Reps w.params ((C :: mm) ++ mc) h' (((evI g env.kindOf m l' it).1.filter p).map f) ws := hr.sub fun a ha => by
    rcases List.mem_cons.mp ha with rfl | ha
    · exact .head _
    · exact .tail _ (.tail _ ha)
  have hD : D ∉ (C :: mm) ++ mc := fun q => by
    rcases List.mem_cons.mp q with q | q
    · exact hCD q.symm
    · exact nD q
  have c1 : C ≠ env.locals := fun q => nC (List.mem_append_left _ (q ▸ S.hloc))
  have c2 : ∀ y c, env.kindOf y = some .cell → env.cells.lookup y = some c → C ≠ c := fun y c hk lc q => by
    obtain ⟨c', lc', hc, _⟩ := S.cell y hk
    rw [lc] at lc'; cases lc'
    exact nC (List.mem_append_left _ (q ▸ hc))
  refine wpAny_assign_Name (Stt.store (s := { s with heap := h', toks := tk }) (v := .list (((evI g env.kindOf m l' it).1.filter p).map f)) S1 hs (by unfold Rep; exact ⟨D, ws, rfl, hD, hl, hr'⟩) fun h2 tk2 k2 ke hrd T => ?_)
  have hn2 : h2.Ns C m' := hn.at' fun o e => ke C o c1 c2 e
  have hO : ∀ z u a, (l.put x ⟨.list (((evI g env.kindOf m l' it).1.filter p).map f), false⟩).loc z = some ⟨u, true⟩ → Rd env h2 z (.ref a) → a ≠ C := fun z u a e rd => by
    rw [loc_put] at e
    by_cases hz : z = x
    · rw [if_pos hz] at e; cases e
    · rw [if_neg hz] at e
      obtain ⟨_, hkz, a0, rd0, ha0, _, _, ow⟩ := S.own z u e
      obtain ⟨o0, e0⟩ := S.livem a0 ha0
      have := rd_one hkz rd (hrd z _ hz (rd0.keep kk))
      cases this
      rintro rfl
      rw [fC] at e0; cases e0
  refine ⟨m', hn2, fun h3 sb => ⟨h3, tk2, rfl, fun b o ht hb' e => ?_, rfl, mm, Grow.refl, T.drop hn2 sb (fun q => nC (List.mem_append_left _ q)) c1 c2 hO⟩⟩
  have hbC : b ≠ C := by rintro rfl; rw [fC] at e; cases e
  exact sameBut_keep sb b o hbC (k2 b o (fun q => by rcases List.mem_cons.mp q with q | q; exact hbC q; exact hb' q) (kk b o e))
theorem ev_not_set {e : Expr} {l : Ls} {k : Kd} (h : (ev g k n l e).2) : (∀ elt gens scope pos, e ≠ .SetComp elt gens scope pos) ∧ (∀ a elt gens scope pos, e ≠ .DictComp a elt gens scope pos) := by
  cases n with
  | zero => exact h.elim
  | succ m => constructor <;> (intros; rintro rfl; exact h.elim)
theorem ex_assign (B : Base prog w hb mg mb g d) (kb : KeepAll hb h₀) (S : Stt w.params TI h₀ mc mm env s.heap l) (r : Rm A d) {x : Str} {px : Pos} {e : Expr} {spos : Pos} (h : (evS g env.kindOf n l e).2) (hs : storable env.kindOf x = true) {c : Prop} :
    wpAny (model prog w) A (exec (.Assign [.Name x px] e spos) env) (FinS w TI h₀ mc mm env (.next, l.put x ⟨(evS g env.kindOf n l e).1, false⟩, c) s) (fun _ _ => False) s := by
  have plain : swapsWith e (some (.Name x px)) spos.line env = pure false → wpAny (model prog w) A (exec (.Assign [.Name x px] e spos) env) (FinS w TI h₀ mc mm env (.next, l.put x ⟨(evS g env.kindOf n l e).1, false⟩, c) s) (fun _ _ => False) s := fun hsw =>
    wpAny_Assign_Name ((evS_ok B kb S r h).use fun v h' tk kk q => fin_store (S.go kk) (fun b o _ _ e => kk b o e) hs q) hsw
  rcases swaps_pure e x px spos.line env with ⟨elt, gens, scope, pos, rfl⟩ | ⟨elt, gens, scope, pos, rfl⟩ | ⟨a, elt, gens, scope, pos, rfl⟩ | hsw
  · rcases swaps_comp elt gens scope pos x px spos.line env with hsw | hsw
    · -- the value is a list: no atom, so read from the clean names
      unfold evS at h ⊢
      dsimp only at h ⊢
      split at h
      · rename_i ha
        obtain ⟨m, y, py, it, ifs, rfl, rfl⟩ := ev_comp_form (g := g) rfl h
        obtain ⟨p, f, ee, _⟩ := comp_parts (snd B m) (S.full kb r) h
        rw [ee] at ha; cases ha
      · rename_i ha
        rw [if_neg ha]
        exact assign_used B kb S r (S.cleanAt kb r) h hs hsw
    · exact plain hsw
  · unfold evS at h
    dsimp only at h
    split at h <;> exact absurd rfl ((ev_not_set h).1 _ _ _ _)
  · unfold evS at h
    dsimp only at h
    split at h <;> exact absurd rfl ((ev_not_set h).2 _ _ _ _ _)
  · exact plain hsw
end
end Mine
namespace Mine
open PySem PySem.W PyProof.Rows PySem.Calls
section
variable {prog : Program} {w : World} {hb : Heap} {mg mb : Str → Option Value} {g : Cfg} {d : Nat}
variable {n : Nat} {env : Env} {l : Ls} {mc mm : List Addr} {s : Shared} {A : Around} {h₀ : Heap} {TI : Option TabI}

theorem TabInv.ret {TI : Option TabI} {mm mc : List Addr} {h : Heap} (x : TabInv TI mm mc h) : TabInv TI [] mc h :=
  x.more (fun _ _ e => e) (fun _ h => h) fun b hb => .inl (List.mem_append_right _ hb)
theorem ex_return (B : Base prog w hb mg mb g d) (kb : KeepAll hb h₀) (S : Stt w.params TI h₀ mc mm env s.heap l) (r : Rm A d) {e : Expr} {p : Pos} (h : (ev g env.kindOf n l e).2) {c : Prop} :
    wpAny (model prog w) A (exec (.Return (some e) p) env) (FinS w TI h₀ mc mm env (.ret (ev g env.kindOf n l e).1, l, c) s) (fun _ _ => False) s :=
  wpAny_Return_some (((snd B n).ev (S.full kb r) h).use fun v h' tk kk q => ⟨h', tk, rfl, fun b o _ _ e => kk b o e, S.keep.trans kk, (S.tab.keep S.apart fun b o _ e => kk b o e).ret, v, rfl, q⟩)
theorem onlyOwn_loc {x : Str} (h : onlyOwn l x = true) : ∀ y u, l.loc y = some ⟨u, true⟩ → y = x := by
  intro y u e
  unfold onlyOwn at h
  induction l with
  | nil => cases e
  | cons p r ih =>
    obtain ⟨z, t⟩ := p
    rw [List.all_cons, Bool.and_eq_true] at h
    simp only [Ls.loc] at e
    by_cases hz : z = y
    · rw [if_pos hz] at e; cases e
      subst hz
      have := h.1
      simpa using this
    · rw [if_neg hz] at e; exact ih h.2 e
theorem fin_own {x : Str} {a : Addr} {u0 : V} {s₀ : Shared} {tk : Nat} {h1 : Heap} (S : Stt w.params TI h₀ mc mm env s₀.heap l) (kk : KeepAll s₀.heap h1) (hn : nameOk x = true) (hk : env.kindOf x = some .local) (ho : onlyOwn l x = true)
    (fa : s₀.heap.get? a = none) (how : OwnAt w.params ((a :: mm) ++ mc) h1 a u0) {c : Prop} :
    wpAny (model prog w) A (storeName env x (.ref a)) (fun _ => FinS w TI h₀ mc mm env (.next, l.put x ⟨u0, true⟩, c) s₀ .next) (fun _ _ => False) { s₀ with heap := h1, toks := tk } := by
  have S1 := S.addr kk fa how.live
  have alive : ∀ b, (∃ o, s₀.heap.get? b = some o) → a ≠ b := fun b ⟨o, e⟩ q => by subst q; rw [fa] at e; cases e
  refine Stt.storeOwn (s := { s₀ with heap := h1, toks := tk }) S1 hk hn (.head _) (alive _ (S.livem _ S.hloc)) (fun y c hk lc => ?_) how (onlyOwn_loc ho) fun h' tk' k2 T => ⟨h', tk', rfl, fun b o _ hb' e => ?_, rfl, a :: mm, fun b hb => ?_, T⟩
  · obtain ⟨c', lc', hc, _⟩ := S.cell y hk
    rw [lc] at lc'; cases lc'
    exact alive _ (S.livem _ hc)
  · exact k2 b o (fun q => by rcases List.mem_cons.mp q with q | q; subst q; rw [fa] at e; cases e; exact hb' q) (kk b o e)
  · rcases List.mem_cons.mp hb with rfl | hb
    · exact .inr fa
    · exact .inl hb
/-- the two kinds of new lists -/
theorem ints_atoms {vs : List V} {v : V} (hv : v ∈ (rangeOf vs).1) : isAtom v = true := by
  have key : ∀ is : List Int, v ∈ is.map V.int → isAtom v = true := fun is h => by
    obtain ⟨i, _, rfl⟩ := List.mem_map.mp h; rfl
  have hv : v ∈ (rangeI (intsV vs).1).1 := hv
  revert hv
  generalize (intsV vs).1 = is
  intro hv
  match is, hv with
  | [_], hv => exact key _ hv
  | [_, _], hv => exact key _ hv
  | [_, _, _], hv => exact key _ hv
  | [], hv => cases hv
  | _ :: _ :: _ :: _ :: _, hv => cases hv
theorem ex_new (B : Base prog w hb mg mb g d) (kb : KeepAll hb h₀) (S : Stt w.params TI h₀ mc mm env s.heap l) (r : Rm A d) {x : Str} {px : Pos} {e : Expr} {spos : Pos} (hnew : NewIs e) (h : (ev g env.kindOf n l.clean e).2) (hk : env.kindOf x = some .local) (hn : nameOk x = true) (ho : onlyOwn l x = true) {c : Prop} :
    wpAny (model prog w) A (exec (.Assign [.Name x px] e spos) env) (FinS w TI h₀ mc mm env (.next, l.put x ⟨(ev g env.kindOf n l.clean e).1, true⟩, c) s) (fun _ _ => False) s := by
  have X := S.cleanAt kb r
  rcases hnew with ⟨p, rfl⟩ | ⟨fp, rp, as, cp, pos, rfl⟩
  · cases n with
    | zero => exact h.elim
    | succ m =>
      refine wpAny_Assign_Name ((dict_none (modules_low (B.lim.keeps X.base))).use fun v h1 t1 k1 q => ?_) rfl
      obtain ⟨a, rfl, fa, hd⟩ := q
      exact fin_own (u0 := .dict []) S k1 hn hk ho fa hd
  · cases n with
    | zero => exact h.elim
    | succ m =>
      rw [ev_call] at h ⊢
      have e1 : callW g.fn env.kindOf l.clean "list" [.Call (.Name "range" rp) as [] cp] (evs g env.kindOf m l.clean [.Call (.Name "range" rp) as [] cp]) (fun e => evI g env.kindOf m l.clean e) = (.list (evI g env.kindOf m l.clean (.Call (.Name "range" rp) as [] cp)).1, (evI g env.kindOf m l.clean (.Call (.Name "range" rp) as [] cp)).2 ∧ l.clean.at "list" = none ∧ kindOk env.kindOf "list" = true) := by
        unfold callW
        rw [if_neg (by decide), if_pos rfl]
        exact if_pos rfl
      rw [e1] at h ⊢
      cases m with
      | zero => exact h.1.elim
      | succ m =>
        refine wpAny_Assign_Name ((tr_list_range (n := m) B (snd B m) X rfl h.1 h.2.2).use fun v h' tk kk q => ?_) rfl
        obtain ⟨fa, na, hl, hr⟩ := q
        refine fin_own (u0 := .list _) S kk hn hk ho fa ⟨_, hl, atoms_rep (fun v hv => ?_) hr⟩
        rw [evI_range, if_pos rfl] at hv
        exact ints_atoms hv
theorem ex_two (B : Base prog w hb mg mb g d) (kb : KeepAll hb h₀) (S : Stt w.params TI h₀ mc mm env s.heap l) (r : Rm A d) {x y : Str} {px py : Pos} {e : Expr} {spos : Pos} (h : (ev g env.kindOf n l e).2) (ha : isAtom (ev g env.kindOf n l e).1 = true) (hs : storable env.kindOf x = true) (hs2 : storable env.kindOf y = true) {c : Prop} :
    wpAny (model prog w) A (exec (.Assign [.Name x px, .Name y py] e spos) env) (FinS w TI h₀ mc mm env (.next, (l.put x ⟨(ev g env.kindOf n l e).1, false⟩).put y ⟨(ev g env.kindOf n l e).1, false⟩, c) s) (fun _ _ => False) s := by
  refine wpAny_Assign_two (((snd B n).ev (S.full kb r) h).use fun v h' tk kk q => ?_) rfl rfl
  refine wpAny_assign_Name (Stt.store (s := { s with heap := h', toks := tk }) (S.go kk) hs (atom_rep ha q) fun h2 tk2 k2 _ _ T => ?_)
  have k2' : KeepF TI mm s.heap h2 := fun b o _ hb' e => k2 b o hb' (kk b o e)
  exact wpAny_assign_Name (fin_store T k2' hs2 (atom_rep (mu := mc) ha (by
    revert q
    generalize (ev g env.kindOf n l e).1 = u at ha
    intro q
    cases u <;> first | (unfold Rep at q ⊢; exact q) | cases ha)))
theorem inpl_ok {op : Operator} {a b : V} {wa wb : Value} (h : (binV op a b).2) (ha : AugOk op a b) (ra : Rep w.params mm s.heap a wa) (rb : Rep w.params mm s.heap b wb) :
    isAtom (binV op a b).1 = true ∧ Tr prog w A (inplaceOp op wa wb) s (fun v h => Rep w.params mm h (binV op a b).1 v) := by
  have rp : ∀ (i : Int) (t : Tok) (h : Heap), Rep w.params mm h (.int i) (.int i t) := fun i t h => by unfold Rep; exact ⟨_, rfl⟩
  cases ha <;> (unfold Rep at ra rb; obtain ⟨t, rfl⟩ := ra; obtain ⟨u, rfl⟩ := rb)
  · exact ⟨rfl, Tr.of fun R k => P.iadd_int (k _ s.heap _ (fun _ _ e => e) (rp _ _ _))⟩
  · exact ⟨rfl, Tr.of fun R k => P.isub_int (k _ s.heap _ (fun _ _ e => e) (rp _ _ _))⟩
  · rename_i x y
    have h : x.length + y.length ≤ lenLid := h
    refine ⟨rfl, Tr.of fun R k => SB.iadd (fun t' m => k _ s.heap m (fun _ _ e => e) (by show Rep _ _ _ (.str _) _; unfold Rep; exact ⟨t', by show Value.str ⟨_⟩ _ = _; simp⟩)) ?_⟩
    simp [Str.length, sizeLine_is]; unfold lenLid at h; lia
theorem ex_aug (B : Base prog w hb mg mb g d) (kb : KeepAll hb h₀) (S : Stt w.params TI h₀ mc mm env s.heap l) (r : Rm A d) {x : Str} {px : Pos} {op : Operator} {e : Expr} {spos : Pos} (h : (ev g env.kindOf (n + 1) l (.Name x px)).2) (h2 : (ev g env.kindOf n l e).2) (ha : AugOk op (ev g env.kindOf (n + 1) l (.Name x px)).1 (ev g env.kindOf n l e).1)
    (hb2 : (binV op (ev g env.kindOf (n + 1) l (.Name x px)).1 (ev g env.kindOf n l e).1).2) (hx : (l.at x).isSome = true) (hs : storable env.kindOf x = true) {c : Prop} :
    wpAny (model prog w) A (exec (.AugAssign (.Name x px) op e spos) env) (FinS w TI h₀ mc mm env (.next, l.put x ⟨(binV op (ev g env.kindOf (n + 1) l (.Name x px)).1 (ev g env.kindOf n l e).1).1, false⟩, c) s) (fun _ _ => False) s := by
  have X := S.full kb r
  obtain ⟨v, hv⟩ := Option.isSome_iff_exists.mp hx
  have e1 : (ev g env.kindOf (n + 1) l (.Name x px)).1 = v := by rw [ev_nameL hv]
  rw [e1] at ha hb2 ⊢
  obtain ⟨hn, wv, rd, rep⟩ := X.fm.read x v hv
  refine wpAny_AugAssign_Name ((tr_load (Q := fun u h' => u = wv ∧ h' = s.heap) X.fm.kind hn rd ⟨rfl, rfl⟩).use fun u h1 t1 k1 q => ?_)
  obtain ⟨rfl, rfl⟩ := q
  refine ((snd B n).ev (X.go (tk := t1) k1) h2).use fun b h3 t3 k3 rb => ?_
  have at' := inpl_ok (prog := prog) (A := A) (s := { s with heap := h3, toks := t3 }) hb2 ha (rep.all k3) rb
  refine at'.2.use fun z h4 t4 k4 rz => ?_
  exact fin_store (S.go (k3.trans k4)) (fun b o _ _ e => (k3.trans k4) b o e) hs (atom_rep at'.1 rz)
theorem ex_sub (B : Base prog w hb mg mb g d) (kb : KeepAll hb h₀) (S : Stt w.params TI h₀ mc mm env s.heap l) (r : Rm A d) {x : Str} {xp ip : Pos} {i e : Expr} {spos : Pos} {xs : List V} {k : Int} (h : (ev g env.kindOf n l e).2) (h2 : (ev g env.kindOf n l i).2) (hx : l.loc x = some ⟨.list xs, true⟩)
    (ej : (ev g env.kindOf n l i).1 = .int k) (ha : isAtom (ev g env.kindOf n l e).1 = true) (h0 : 0 ≤ k) (h1 : k < xs.length) (hl : xs.length ≤ lenLid) (hsw : swapsWith e (some (.Subscript (.Name x xp) i ip)) spos.line env = pure false) {c : Prop} :
    wpAny (model prog w) A (exec (.Assign [.Subscript (.Name x xp) i ip] e spos) env) (FinS w TI h₀ mc mm env (.next, l.put x ⟨.list (xs.set k.toNat (ev g env.kindOf n l e).1), true⟩, c) s) (fun _ _ => False) s := by
  have X := S.full kb r
  refine wpAny_Assign_Subscript (((snd B n).ev X h).use fun v h1' t1 k1 rv => ?_) hsw
  have S1 := S.go k1
  obtain ⟨hn, hk, a, rd, ham, hal, hac, ws, hli, hr⟩ := S1.own x _ hx
  refine (tr_name (s := { s with heap := h1', toks := t1 }) (Q := fun u h' => u = .ref a ∧ h' = h1') S.kind hn rd ⟨rfl, rfl⟩).use fun u h2' t2 k2 q => ?_
  obtain ⟨rfl, rfl⟩ := q
  refine ((snd B n).ev ((X.go (tk := t1) k1).go (tk := t2) k2) h2).use fun j h3 t3 k3 rj => ?_
  rw [ej] at rj
  unfold Rep at rj
  obtain ⟨tj, rfl⟩ := rj
  have hlen := hr.length
  have S3 := S1.go k3
  obtain ⟨z, gz⟩ := hli
  refine ki_setAt (s := { s with heap := h3, toks := t3 }) (k3 a _ gz) h0 (by unfold lenLid at hl; lia) (by simp; lia) ?_
  have hl4' : (h3.update a (Obj.mapSeq (·.setIfInBounds k.toNat v))).PlainList a (List.toArray (ws.set k.toNat v)) := by
    have e1 := Heap.get?_update_self (Obj.mapSeq (·.setIfInBounds k.toNat v)) (k3 a _ gz) rfl
    have e2 : ws.toArray.setIfInBounds k.toNat v = (ws.set k.toNat v).toArray := by simp
    have e3 : Obj.mapSeq (·.setIfInBounds k.toNat v) { cls := .type "list", data := .seq ws.toArray z } = { cls := .type "list", data := .seq (ws.set k.toNat v).toArray (if (ws.set k.toNat v).toArray.size == ws.toArray.size then z else z + 1) } := by
      rw [← e2]; rfl
    exact ⟨_, e1.trans (congrArg some e3)⟩
  have sb : Heap.SameBut a h3 (h3.update a (Obj.mapSeq (·.setIfInBounds k.toNat v))) := Heap.SameBut.update ..
  refine ⟨_, t3, rfl, fun b o _ hb' e => sameBut_keep sb b o (by rintro rfl; exact hb' ham) (k3 b o (k1 b o e)), rfl, mm, Grow.refl, ?_⟩
  exact Stt.write (s := { s with heap := h3, toks := t3 }) S3 hx (rd.keep k3) sb fun krs => ⟨_, hl4', krs _ _ (reps_set (atom_rep ha (rv.all k3)) _ (hr.all k3))⟩
/-- an item of a dict of our own -/
theorem ex_put (B : Base prog w hb mg mb g d) (kb : KeepAll hb h₀) (S : Stt w.params TI h₀ mc mm env s.heap l) (r : Rm A d) {x : Str} {xp ip : Pos} {i e : Expr} {spos : Pos} {kv : List (List Nat × Int)} {y : List Nat} {k : Int} (h : (ev g env.kindOf n l e).2) (h2 : (ev g env.kindOf n l i).2) (hx : l.loc x = some ⟨.dict kv, true⟩)
    (ej : (ev g env.kindOf n l i).1 = .str y) (ee : (ev g env.kindOf n l e).1 = .int k) (hl : kv.length ≤ lenLid) (hsw : swapsWith e (some (.Subscript (.Name x xp) i ip)) spos.line env = pure false) {c : Prop} :
    wpAny (model prog w) A (exec (.Assign [.Subscript (.Name x xp) i ip] e spos) env) (FinS w TI h₀ mc mm env (.next, l.put x ⟨.dict (putD kv y k), true⟩, c) s) (fun _ _ => False) s := by
  have X := S.full kb r
  refine wpAny_Assign_Subscript (((snd B n).ev X h).use fun v h1' t1 k1 rv => ?_) hsw
  have S1 := S.go k1
  obtain ⟨hn, hk, a, rd, ham, hal, hac, hd⟩ := S1.own x _ hx
  have hd : IsIntDict w.params h1' a kv := hd
  refine (tr_name (s := { s with heap := h1', toks := t1 }) (Q := fun u h' => u = .ref a ∧ h' = h1') S.kind hn rd ⟨rfl, rfl⟩).use fun u h2' t2 k2 q => ?_
  obtain ⟨rfl, rfl⟩ := q
  refine ((snd B n).ev ((X.go (tk := t1) k1).go (tk := t2) k2) h2).use fun j h3 t3 k3 rj => ?_
  rw [ej] at rj
  rw [ee] at rv
  unfold Rep at rj rv
  obtain ⟨tj, rfl⟩ := rj
  obtain ⟨ti, rfl⟩ := rv
  have S3 := S1.go k3
  refine set_own (s := { s with heap := h3, toks := t3 }) (hd.keep fun o e => k3 a o e) hl fun h4 t4 hd4 sb => ?_
  refine ⟨_, t4, rfl, fun b o _ hb' e => sameBut_keep sb b o (by rintro rfl; exact hb' ham) (k3 b o (k1 b o e)), rfl, mm, Grow.refl, ?_⟩
  exact Stt.write (s := { s with heap := h3, toks := t3 }) (u1 := .dict (putD kv y k)) S3 hx (rd.keep k3) sb fun _ => hd4
end
end Mine
namespace Mine
open PySem PySem.W PyProof.Rows PySem.Calls
section
variable {prog : Program} {w : World} {hb : Heap} {mg mb : Str → Option Value} {g : Cfg} {d : Nat}
variable {n : Nat} {env : Env} {l : Ls} {mc mm : List Addr} {s : Shared} {A : Around} {h₀ : Heap} {TI : Option TabI}

theorem swaps_sub (e o i : Expr) (p : Pos) (line : Nat) (env : Env) : swapsWith e (some (.Subscript o i p)) line env = pure false := by
  cases e <;> rfl
theorem atom_keep {P : Params} {mu mu' : List Addr} {h h' : Heap} {v : V} {wv : Value} (ha : isAtom v = true) (r : Rep P mu h v wv) : Rep P mu' h' v wv := by
  cases v <;> first | (unfold Rep at r ⊢; exact r) | cases ha
theorem put_swap (l : Ls) {x y : Str} (hxy : x ≠ y) (a b : Loc) (z : Str) : ((l.put y b).put x a).loc z = ((l.put x a).put y b).loc z := by
  rw [loc_put, loc_put, loc_put, loc_put]
  by_cases h1 : z = x
  · rw [if_pos h1, if_pos h1]
    by_cases h2 : z = y
    · exact absurd (h1.symm.trans h2) hxy
    · rw [if_neg h2]
  · rw [if_neg h1, if_neg h1]
theorem ex_tup (B : Base prog w hb mg mb g d) (kb : KeepAll hb h₀) (S : Stt w.params TI h₀ mc mm env s.heap l) (r : Rm A d) {x y : Str} {px py tp : Pos} {k : Nat} {e : Expr} {spos : Pos} {a b : V} (h : (ev g env.kindOf n l e).2) (ee : (ev g env.kindOf n l e).1 = .tup [a, b]) (hc : constTup e = false)
    (ha : isAtom a = true) (hb' : isAtom b = true) (hs : storable env.kindOf x = true) (hs2 : storable env.kindOf y = true) (hxy : x ≠ y) {c : Prop} :
    wpAny (model prog w) A (exec (.Assign [.Tuple [.Name x px, .Name y py] k tp] e spos) env) (FinS w TI h₀ mc mm env (.next, (l.put x ⟨a, false⟩).put y ⟨b, false⟩, c) s) (fun _ _ => False) s := by
  have hsole : swapsWithSole [.Tuple [.Name x px, .Name y py] k tp] e spos.line env = pure false := by
    unfold swapsWithSole
    cases e <;> rfl
  have X := S.full kb r
  have ev1 := (snd B n).ev X h
  rw [ee] at ev1
  rcases swap_cases (k := k) (px := px) (py := py) (tp := tp) (x := x) (y := y) S.kind hc with hw | hw
  · refine Assign_Tuple (ev1.use fun v h1 t1 k1 q => ?_) hsole hw
    unfold Rep at q
    obtain ⟨t, ws, rfl, _, ht, hr⟩ := q
    obtain ⟨w1, ws1, rfl, r1, hr1⟩ := reps_cons hr
    obtain ⟨w2, ws2, rfl, r2, hr2⟩ := reps_cons hr1
    cases reps_nil hr2
    refine wpAny_assign_Tuple r.handled ht rfl rfl fun h2 he => ?_
    have k2 : KeepAll h1 h2 := fun b o e => he b o (Nat.ne_of_lt (Heap.lt_size e)) e
    show wpAny _ A (assignInOrder [assign (.Name x px) env, assign (.Name y py) env] [w1, w2]) _ _ _
    refine wpAny_bind (wpAny_holding (wpAny_assign_Name (Stt.store (s := { s with heap := h2, toks := t1 }) (S.go (k1.trans k2)) hs (atom_keep ha r1) fun h3 t3 k3 _ _ T => ?_)))
    refine wpAny_bind (wpAny_holding (wpAny_assign_Name (Stt.store (s := { s with heap := h3, toks := t3 }) T hs2 (atom_keep hb' r2) fun h4 t4 k4 _ _ T2 => ?_)))
    exact wpAny_pure ⟨h4, t4, rfl, fun b o _ hb' e => k4 b o hb' (k3 b o hb' ((k1.trans k2) b o e)), rfl, mm, Grow.refl, T2⟩
  · refine Assign_Tuple_swapped (names := [x, y]) (ev1.use fun v h1 t1 k1 q => ?_) hsole hw
    unfold Rep at q
    obtain ⟨t, ws, rfl, _, ht, hr⟩ := q
    obtain ⟨w1, ws1, rfl, r1, hr1⟩ := reps_cons hr
    obtain ⟨w2, ws2, rfl, r2, hr2⟩ := reps_cons hr1
    cases reps_nil hr2
    refine unpackItems_tuple (items := [w1, w2].toArray) r.handled ht fun h2 he => ?_
    have k2 : KeepAll h1 h2 := fun b o e => he b o (Nat.ne_of_lt (Heap.lt_size e)) e
    show wpAny _ A (assignInOrder [bindName env y, bindName env x] [w2, w1]) _ _ _
    refine wpAny_bind (wpAny_holding (wpAny_bindName (Stt.store (s := { s with heap := h2, toks := t1 }) (S.go (k1.trans k2)) hs2 (atom_keep hb' r2) fun h3 t3 k3 _ _ T => ?_)))
    refine wpAny_bind (wpAny_holding (wpAny_bindName (Stt.store (s := { s with heap := h3, toks := t3 }) T hs (atom_keep ha r1) fun h4 t4 k4 _ _ T2 => ?_)))
    exact wpAny_pure ⟨h4, t4, rfl, fun b o _ hb' e => k4 b o hb' (k3 b o hb' ((k1.trans k2) b o e)), rfl, mm, Grow.refl, T2.same (fun z => (put_swap l hxy ⟨a, false⟩ ⟨b, false⟩ z).symm) (put_nodup (put_nodup S.nd))⟩
end
end Mine
namespace Mine
open PySem PySem.W PyProof.Rows PySem.Calls
section
variable {prog : Program} {w : World} {hb : Heap} {mg mb : Str → Option Value} {g : Cfg} {d : Nat}
variable {n : Nat} {env : Env} {l : Ls} {mc mm : List Addr} {s : Shared} {A : Around} {h₀ : Heap} {TI : Option TabI}

theorem FinS.mk {r : Fl × Ls × Prop} {r' : Fl × Ls × Prop} {f : Flow} {s' : Shared} (h : FinS w TI h₀ mc mm env r s f s') (e1 : r.1 = r'.1) (e2 : r.2.1 = r'.2.1) : FinS w TI h₀ mc mm env r' s f s' := by
  unfold FinS at h ⊢
  rw [← e1, ← e2]; exact h
/-- the table stands -/
noncomputable abbrev TabLive (TI : Option TabI) (h : Heap) : Prop := ∀ t, TI = some t → ∃ o, h.get? t.P = some o
theorem Stt.tabLive {h : Heap} (S : Stt w.params TI h₀ mc mm env h l) : TabLive TI h := fun t e => let ⟨_, ps, hp, _⟩ := S.tab t e; ⟨_, hp⟩
theorem mem_tabA {a : Addr} (h : a ∈ tabA TI) : ∃ t, TI = some t ∧ a = t.P := by
  cases TI with
  | none => cases h
  | some t => exact ⟨t, rfl, List.mem_singleton.mp h⟩
theorem KeepF.lives {h h1 : Heap} (k : KeepF TI mm h h1) (lv : TabLive TI h1) {a : Addr} (hm : a ∉ mm) (q : h1.get? a = none) : h.get? a = none := by
  cases e : h.get? a with
  | none => rfl
  | some o =>
    by_cases ht : a ∈ tabA TI
    · obtain ⟨t, e1, rfl⟩ := mem_tabA ht
      obtain ⟨o', e2⟩ := lv t e1
      rw [e2] at q; cases q
    · rw [k a o ht hm e] at q; cases q
theorem Grow.transF {h h1 : Heap} {mm1 mm2 : List Addr} (k : KeepF TI mm h h1) (lv : TabLive TI h1) (g1 : Grow mm h mm1) (g2 : Grow mm1 h1 mm2) : Grow mm h mm2 := fun a ha => by
  rcases g2 a ha with q | q
  · exact g1 a q
  · by_cases hm : a ∈ mm
    · exact .inl hm
    · exact .inr (k.lives lv hm q)
/-- behind a step that kept the state -/
theorem FinS.after {r : Fl × Ls × Prop} {f : Flow} {s' : Shared} {mm1 : List Addr} {h1 : Heap} {tk : Nat} (k1 : KeepF TI mm s.heap h1) (lv : TabLive TI h1) (g1 : Grow mm s.heap mm1) (h : FinS w TI h₀ mc mm1 env r { s with heap := h1, toks := tk } f s') : FinS w TI h₀ mc mm env r s f s' := by
  obtain ⟨h2, t2, rfl, k2, q⟩ := h
  refine ⟨h2, t2, rfl, k1.trans' g1 k2, ?_⟩
  revert q
  cases r.1 with
  | next => exact fun ⟨e, mm2, g2, T⟩ => ⟨e, mm2, Grow.transF k1 lv g1 g2, T⟩
  | ret v => exact fun q => q
theorem execs_ok (B : Base prog w hb mg mb g d) (X : Sx prog w hb g d TI n) (kb : KeepAll hb h₀) (S : Stt w.params TI h₀ mc mm env s.heap l) (r : Rm A d) {ss : List Stmt} (h : (exs g env.kindOf (n + 1) l ss).2.2) :
    wpAny (model prog w) A (execs ss env) (FinS w TI h₀ mc mm env (exs g env.kindOf (n + 1) l ss) s) (fun _ _ => False) s := by
  cases ss with
  | nil => exact wpAny_execs_nil ⟨s.heap, s.toks, rfl, fun _ _ _ _ e => e, rfl, mm, Grow.refl, S⟩
  | cons st rest =>
    rw [exs_cons] at h ⊢
    refine wpAny_execs_cons (wpAny_mono (X.ex (st := st) kb S r (by
      revert h
      generalize ex g env.kindOf n l st = q
      obtain ⟨f, l', c⟩ := q
      cases f with
      | next => exact fun h : c ∧ _ => h.1
      | ret v => exact fun h : c => h)) (fun f s' hf => ?_) fun _ _ f => f.elim)
    revert h hf
    generalize ex g env.kindOf n l st = q
    obtain ⟨fl, l', c⟩ := q
    intro h hf
    cases fl with
    | next =>
      obtain ⟨h1, t1, rfl, k1, rfl, mm1, g1, T⟩ := hf
      have h : c ∧ (exs g env.kindOf n l' rest).2.2 := h
      exact wpAny_mono (X.exs (s := { s with heap := h1, toks := t1 }) kb T r h.2) (fun f s' q => FinS.after k1 T.tabLive g1 (q.mk rfl rfl)) fun _ _ f => f.elim
    | ret v =>
      obtain ⟨h1, t1, rfl, k1, kk, tb, wv, rfl, rp⟩ := hf
      exact ⟨h1, t1, rfl, k1, kk, tb, wv, rfl, rp⟩
theorem ex_if (B : Base prog w hb mg mb g d) (X : Sx prog w hb g d TI n) (kb : KeepAll hb h₀) (S : Stt w.params TI h₀ mc mm env s.heap l) (r : Rm A d) {t : Expr} {a b : List Stmt} {p : Pos} (h : (ex g env.kindOf (n + 1) l (.If t a b p)).2.2) :
    wpAny (model prog w) A (exec (.If t a b p) env) (FinS w TI h₀ mc mm env (ex g env.kindOf (n + 1) l (.If t a b p)) s) (fun _ _ => False) s := by
  rw [ex_if0] at h ⊢
  refine wpAny_If ?_
  by_cases ht : (evT g env.kindOf n l t).1 = true
  · rw [if_pos ht] at h
    refine ((snd B n).evT (S.full kb r) h.1).use fun c h1 t1 k1 e => ?_
    subst e
    rw [if_pos ht, if_pos ht]
    exact wpAny_mono (X.exs (s := { s with heap := h1, toks := t1 }) kb (S.go k1) r h.2) (fun f s' q => FinS.after (fun b o _ _ e => k1 b o e) (S.go k1).tabLive Grow.refl (q.mk rfl rfl)) fun _ _ f => f.elim
  · rw [if_neg ht] at h
    refine ((snd B n).evT (S.full kb r) h.1).use fun c h1 t1 k1 e => ?_
    subst e
    rw [if_neg ht, if_neg ht]
    exact wpAny_mono (X.exs (s := { s with heap := h1, toks := t1 }) kb (S.go k1) r h.2) (fun f s' q => FinS.after (fun b o _ _ e => k1 b o e) (S.go k1).tabLive Grow.refl (q.mk rfl rfl)) fun _ _ f => f.elim
/-- what it comes to, and that it is all asked for -/
noncomputable def Leads (q fin : Fl × Ls × Prop) : Prop := q.2.2 ∧ q.1 = fin.1 ∧ q.2.1 = fin.2.1
theorem Leads.ok {q fin : Fl × Ls × Prop} {f : Ls → Fl × Ls × Prop} (h : Leads (thenW q f) fin) : q.2.2 := by
  obtain ⟨fl, l', c⟩ := q
  cases fl with
  | next => exact h.1.1
  | ret v => exact h.1
theorem Leads.next {l' : Ls} {c : Prop} {fin : Fl × Ls × Prop} {f : Ls → Fl × Ls × Prop} (h : Leads (thenW (.next, l', c) f) fin) : Leads (f l') fin := ⟨h.1.2, h.2⟩
/-- at the head of a turn -/
inductive WInv (w : World) (TI : Option TabI) (h₀ : Heap) (mc mm : List Addr) (env : Env) (s : Shared) (fin : Fl × Ls × Prop) (V : Nat → Ls → Fl × Ls × Prop) : Nat → Shared → Prop where
  | mk {k : Nat} {l' : Ls} {mm' : List Addr} {h' : Heap} {tk : Nat} (kf : KeepF TI mm s.heap h') (gr : Grow mm s.heap mm') (T : Stt w.params TI h₀ mc mm' env h' l') (ld : Leads (V k l') fin) : WInv w TI h₀ mc mm env s fin V k { s with heap := h', toks := tk }
theorem ex_while (B : Base prog w hb mg mb g d) (X : Sx prog w hb g d TI n) (kb : KeepAll hb h₀) (S : Stt w.params TI h₀ mc mm env s.heap l) (r : Rm A d) {t : Expr} {body : List Stmt} {p : Pos} (h : (ex g env.kindOf (n + 1) l (.While t body [] p)).2.2) :
    wpAny (model prog w) A (exec (.While t body [] p) env) (FinS w TI h₀ mc mm env (ex g env.kindOf (n + 1) l (.While t body [] p)) s) (fun _ _ => False) s := by
  rw [ex_while0] at h ⊢
  refine wpAny_While ?_
  generalize hN : (100000 : Nat) = N at h ⊢
  clear hN
  obtain ⟨fin, hr⟩ : ∃ fin, fin = whileV (fun l => evT g env.kindOf n l t) (fun l => exs g env.kindOf n l body) N l := ⟨_, rfl⟩
  have ld : Leads (whileV (fun l => evT g env.kindOf n l t) (fun l => exs g env.kindOf n l body) N l) fin := ⟨h, by rw [hr], by rw [hr]⟩
  rw [← hr]
  clear hr h
  refine codeAny_whileLoop (WInv w TI h₀ mc mm env s fin (whileV (fun l => evT g env.kindOf n l t) (fun l => exs g env.kindOf n l body))) ?_ N (.mk (tk := s.toks) (fun _ _ _ _ e => e) Grow.refl S ld)
  clear ld
  rintro k _ @⟨l', mm', h', tk, kk, gr, T, ld⟩
  cases k with
  | zero => exact ld.1.elim
  | succ k =>
    rw [whileV_succ] at ld
    by_cases ht : (evT g env.kindOf n l' t).1 = true
    · rw [if_pos ht] at ld
      obtain ⟨⟨htc, hc⟩, e12⟩ := ld
      have ld : Leads (thenW (exs g env.kindOf n l' body) fun l' => whileV (fun l => evT g env.kindOf n l t) (fun l => exs g env.kindOf n l body) k l') fin := ⟨hc, e12⟩
      clear hc e12
      refine ((snd B n).evT (T.full (s := { s with heap := h', toks := tk }) kb r) htc).use fun c h1 t1 k1 e => ?_
      subst e
      rw [if_pos ht]
      have kk1 : KeepF TI mm s.heap h1 := fun b o ht hb e => k1 b o (kk b o ht hb e)
      have T1 := T.go (s := { s with heap := h', toks := tk }) k1
      have lv1 : TabLive TI h1 := T1.tabLive
      refine wpAny_mono (X.exs (s := { s with heap := h1, toks := t1 }) kb T1 r ld.ok) (fun f s' hf => ?_) fun _ _ f => f.elim
      revert hf ld
      generalize exs g env.kindOf n l' body = q
      obtain ⟨fl, l2, c2⟩ := q
      intro ld hf
      cases fl with
      | next =>
        obtain ⟨h2, t2, rfl, k2, rfl, mm2, g2, T2⟩ := hf
        exact ⟨k, Nat.lt_succ_self _, .mk (kk1.trans' gr k2) (Grow.transF kk1 lv1 gr g2) T2 ld.next⟩
      | ret v =>
        obtain ⟨h2, t2, rfl, k2, kh, tb, wv, rfl, rp⟩ := hf
        exact FinS.mk (r := (.ret v, l2, True)) ⟨h2, t2, rfl, kk1.trans' gr k2, kh, tb, wv, rfl, rp⟩ ld.2.1 ld.2.2
    · rw [if_neg ht] at ld
      refine ((snd B n).evT (T.full (s := { s with heap := h', toks := tk }) kb r) ld.1).use fun c h1 t1 k1 e => ?_
      subst e
      rw [if_neg ht]
      exact wpAny_execs_nil (FinS.mk (r := (.next, l', True)) ⟨h1, t1, rfl, fun b o ht hb e => k1 b o (kk b o ht hb e), rfl, mm', gr, T.go (s := { s with heap := h', toks := tk }) k1⟩ ld.2.1 ld.2.2)
end
end Mine
namespace Mine
open PySem PySem.W PyProof.Rows PySem.Calls
section
variable {prog : Program} {w : World} {hb : Heap} {mg mb : Str → Option Value} {g : Cfg} {d : Nat}
variable {n : Nat} {env : Env} {l : Ls} {mc mm : List Addr} {s : Shared} {A : Around} {h₀ : Heap} {TI : Option TabI}

theorem Stt.guard (S : Stt w.params TI h₀ mc mm env s.heap l) {h : Heap} {a : Addr} (kk : KeepAll s.heap h) (ha : s.heap.get? a = none) (hl : ∃ o, h.get? a = some o) : Stt w.params TI h₀ (a :: mc) mm env h l := by
  have hmu : ∀ b, b ∈ mm ++ (a :: mc) → b ∈ mm ++ mc ∨ s.heap.get? b = none := fun b hb => by
    rcases List.mem_append.mp hb with hb | hb
    · exact .inl (List.mem_append_left _ hb)
    · rcases List.mem_cons.mp hb with rfl | hb
      · exact .inr ha
      · exact .inl (List.mem_append_right _ hb)
  have T := S.go kk
  exact { T with
    livec := fun b hb => by
      rcases List.mem_cons.mp hb with rfl | hb
      · exact hl
      · exact T.livec b hb
    apart := fun b hb q => by
      rcases List.mem_cons.mp q with rfl | q
      · obtain ⟨o, e⟩ := S.livem b hb; rw [ha] at e; cases e
      · exact S.apart b hb q
    plain := fun x v e => by obtain ⟨hn, wv, rd, rp⟩ := S.plain x v e; exact ⟨hn, wv, rd.keep kk, (rp.more hmu).all kk⟩
    tab := S.tab.more kk (fun _ h => .tail _ h) hmu
    own := fun x v e => by obtain ⟨hn, hk, a', rd, ha', hne, hc, ow⟩ := S.own x v e; exact ⟨hn, hk, a', rd.keep kk, ha', hne, hc, ow.map (fun o => kk a' o) fun _ _ r => (r.more hmu).all kk⟩ }
/-- a guarded iterator goes on -/
theorem Stt.poke {I : Addr} {h h' : Heap} (S : Stt w.params TI h₀ (I :: mc) mm env h l) (hP : ∀ t, TI = some t → t.P ≠ I) (hI : h₀.get? I = none) (k : ∀ b o, b ≠ I → h.get? b = some o → h'.get? b = some o) (lv : ∃ o, h'.get? I = some o) : Stt w.params TI h₀ (I :: mc) mm env h' l := by
  have ne : ∀ a ∈ mm, a ≠ I := fun a ha q => S.apart a ha (q ▸ .head _)
  have rdk : ∀ y wv', Rd env h y wv' → Rd env h' y wv' := fun y wv' rd => by
    rcases rd with ⟨e, m', hm2, hv⟩ | ⟨e, c, lc, o, gg, dd⟩
    · exact .inl ⟨e, m', hm2.at' fun o => k _ o (ne _ S.hloc), hv⟩
    · refine .inr ⟨e, c, lc, o, k c o ?_ gg, dd⟩
      rcases e with e | e
      · obtain ⟨c', lc', hc, _⟩ := S.cell y e
        rw [lc] at lc'; cases lc'; exact ne _ hc
      · exact absurd e (S.free y)
  have kr : ∀ u uw, Rep w.params (mm ++ (I :: mc)) h u uw → Rep w.params (mm ++ (I :: mc)) h' u uw := fun u uw r => r.keep fun b o hb e => k b o (fun q => hb (q ▸ List.mem_append_right _ (.head _))) e
  have krs : ∀ u uw, Reps w.params (mm ++ (I :: mc)) h u uw → Reps w.params (mm ++ (I :: mc)) h' u uw := fun u uw r => r.keep fun b o hb e => k b o (fun q => hb (q ▸ List.mem_append_right _ (.head _))) e
  exact { S with
    tab := by
      intro t e
      obtain ⟨hm', ps, hp, ht, hc⟩ := S.tab t e
      refine ⟨hm', ps, k _ _ (hP t e) hp, ht, hc.imp id ?_⟩
      rintro ⟨c', e1, ⟨c, o, vs, tq, e2, ho, hd, hq⟩, hn⟩
      cases e2
      exact ⟨c', e1, ⟨c', o, vs, tq, rfl, k _ _ (fun q => hn (q ▸ List.mem_append_right _ (.head _))) ho, hd, hq⟩, hn⟩
    keep := fun b o e => k b o (by rintro rfl; rw [hI] at e; cases e) (S.keep b o e)
    livem := fun a ha => by obtain ⟨o, e⟩ := S.livem a ha; exact ⟨o, k a o (ne a ha) e⟩
    livec := fun a ha => by
      by_cases e : a = I
      · subst e; exact lv
      · obtain ⟨o, e2⟩ := S.livec a ha; exact ⟨o, k a o e e2⟩
    ns := by obtain ⟨m, hm⟩ := S.ns; exact ⟨m, hm.at' fun o => k _ o (ne _ S.hloc)⟩
    cell := fun y hy => by obtain ⟨c, e, hc, hne, v0, o, gg, dd⟩ := S.cell y hy; exact ⟨c, e, hc, hne, v0, o, k c o (ne _ hc) gg, dd⟩
    plain := fun y u e => by obtain ⟨h1, wv', rd, rp⟩ := S.plain y u e; exact ⟨h1, wv', rdk y wv' rd, kr _ _ rp⟩
    own := fun y u e => by obtain ⟨h1, h2, a, rd, ha, hne', hc', ow⟩ := S.own y u e; exact ⟨h1, h2, a, rdk y _ rd, ha, hne', hc', ow.map (fun o => k a o (ne a ha)) krs⟩ }
/-- a guarded iterator is done -/
theorem Stt.release {I : Addr} {h h' : Heap} (S : Stt w.params TI h₀ (I :: mc) mm env h l) (hP : ∀ t, TI = some t → t.P ≠ I) (hI : h₀.get? I = none) (k : ∀ b o, b ≠ I → h.get? b = some o → h'.get? b = some o) (lv : I ∉ mc) : Stt w.params TI h₀ mc mm env h' l := by
  have sub : ∀ b, b ∈ mm ++ mc → b ∈ mm ++ (I :: mc) := fun b hb => by
    rcases List.mem_append.mp hb with hb | hb
    · exact List.mem_append_left _ hb
    · exact List.mem_append_right _ (.tail _ hb)
  have ne : ∀ a ∈ mm, a ≠ I := fun a ha q => S.apart a ha (q ▸ .head _)
  have rdk : ∀ y wv', Rd env h y wv' → Rd env h' y wv' := fun y wv' rd => by
    rcases rd with ⟨e, m', hm2, hv⟩ | ⟨e, c, lc, o, gg, dd⟩
    · exact .inl ⟨e, m', hm2.at' fun o => k _ o (ne _ S.hloc), hv⟩
    · refine .inr ⟨e, c, lc, o, k c o ?_ gg, dd⟩
      rcases e with e | e
      · obtain ⟨c', lc', hc, _⟩ := S.cell y e
        rw [lc] at lc'; cases lc'; exact ne _ hc
      · exact absurd e (S.free y)
  have kr : ∀ u uw, Rep w.params (mm ++ (I :: mc)) h u uw → Rep w.params (mm ++ mc) h' u uw := fun u uw r => (r.keep fun b o hb e => k b o (fun q => hb (q ▸ List.mem_append_right _ (.head _))) e).sub sub
  have krs : ∀ u uw, Reps w.params (mm ++ (I :: mc)) h u uw → Reps w.params (mm ++ mc) h' u uw := fun u uw r => (r.keep fun b o hb e => k b o (fun q => hb (q ▸ List.mem_append_right _ (.head _))) e).sub sub
  exact { S with
    tab := by
      intro t e
      obtain ⟨hm', ps, hp, ht, hc⟩ := S.tab t e
      refine ⟨(List.mem_cons.mp hm').resolve_left (hP t e), ps, k _ _ (hP t e) hp, ht, hc.imp id ?_⟩
      rintro ⟨c', e1, ⟨c, o, vs, tq, e2, ho, hd, hq⟩, hn⟩
      cases e2
      exact ⟨c', e1, ⟨c', o, vs, tq, rfl, k _ _ (fun q => hn (q ▸ List.mem_append_right _ (.head _))) ho, hd, hq⟩, fun q => hn (sub _ q)⟩
    keep := fun b o e => k b o (by rintro rfl; rw [hI] at e; cases e) (S.keep b o e)
    livem := fun a ha => by obtain ⟨o, e⟩ := S.livem a ha; exact ⟨o, k a o (ne a ha) e⟩
    livec := fun a ha => by obtain ⟨o, e2⟩ := S.livec a (.tail _ ha); exact ⟨o, k a o (by rintro rfl; exact lv ha) e2⟩
    apart := fun b hb q => S.apart b hb (.tail _ q)
    ns := by obtain ⟨m, hm⟩ := S.ns; exact ⟨m, hm.at' fun o => k _ o (ne _ S.hloc)⟩
    cell := fun y hy => by obtain ⟨c, e, hc, hne, v0, o, gg, dd⟩ := S.cell y hy; exact ⟨c, e, hc, hne, v0, o, k c o (ne _ hc) gg, dd⟩
    plain := fun y u e => by obtain ⟨h1, wv', rd, rp⟩ := S.plain y u e; exact ⟨h1, wv', rdk y wv' rd, kr _ _ rp⟩
    own := fun y u e => by obtain ⟨h1, h2, a, rd, ha, hne', hc', ow⟩ := S.own y u e; exact ⟨h1, h2, a, rdk y _ rd, ha, hne', hc', ow.map (fun o => k a o (ne a ha)) krs⟩ }
/-- at the head of a turn of a loop over items -/
inductive FInv (w : World) (TI : Option TabI) (h₀ : Heap) (mc mm : List Addr) (env : Env) (s : Shared) (fin : Fl × Ls × Prop) (V : Nat → Ls → Fl × Ls × Prop) (St : Nat → Heap → Prop) (len : Nat) (I : Addr) (hp : Heap) : Nat → Shared → Prop where
  | mk {i : Nat} {l' : Ls} {mm' : List Addr} {h' : Heap} {tk : Nat} (hi : i ≤ len) (st : St i h') (kk : KeepF TI (I :: mm) hp h') (gr : Grow mm hp mm') (T : Stt w.params TI h₀ (I :: mc) mm' env h' l') (ld : Leads (V i l') fin) :
    FInv w TI h₀ mc mm env s fin V St len I hp (len - i) { s with heap := h', toks := tk }
theorem ex_for (B : Base prog w hb mg mb g d) (X : Sx prog w hb g d TI n) (kb : KeepAll hb h₀) (S : Stt w.params TI h₀ mc mm env s.heap l) (r : Rm A d) {x : Str} {px : Pos} {it : Expr} {body : List Stmt} {p : Pos} (h : (ex g env.kindOf (n + 1) l (.For (.Name x px) it body [] p)).2.2) :
    wpAny (model prog w) A (exec (.For (.Name x px) it body [] p) env) (FinS w TI h₀ mc mm env (ex g env.kindOf (n + 1) l (.For (.Name x px) it body [] p)) s) (fun _ _ => False) s := by
  rw [ex_for0] at h ⊢
  obtain ⟨hq, hc, hs⟩ := h
  have XI := (snd B n).evI (S.cleanAt kb r) hq
  clear hq
  generalize hF : (fun (l : Ls) (v : V) => (((exs g env.kindOf n (l.put x ⟨v, false⟩) body).1, (exs g env.kindOf n (l.put x ⟨v, false⟩) body).2.1, (exs g env.kindOf n (l.put x ⟨v, false⟩) body).2.2 ∧ isAtom v = true) : Fl × Ls × Prop)) = F at hc ⊢
  revert XI hc
  generalize evI g env.kindOf n l.clean it = vq
  intro XI hc
  refine wpAny_mono (Q := FinS w TI h₀ mc mm env (loopV F l vq.1) s) ?_ (fun f s' q => q.mk rfl rfl) fun _ _ f => f
  obtain ⟨hx, XI⟩ := XI
  generalize vq.1 = vs at *
  have ld : Leads (loopV F l (vs.drop 0)) (loopV F l vs) := ⟨hc, rfl, rfl⟩
  clear hc
  generalize loopV F l vs = fin at ld ⊢
  refine wpAny_For (XI.use fun xv h1 t1 k1 hit => ?_) hx
  clear XI hx
  refine hit A _ _ _ r.handled (fun _ _ e => e) fun o fp Pd St tk W h0 hI hfp hv => ?_
  clear hit
  dsimp only at W h0 hI hfp ⊢
  generalize hIe : h1.objs.size = I at W h0 hI hfp ⊢
  have fI : h1.get? I = none := fresh_none' (by rw [← hIe]; exact Nat.le_refl _)
  clear hIe
  have sI : s.heap.get? I = none := none_before k1 fI
  have hI0 : h₀.get? I = none := none_before S.keep sI
  have aI : ∃ o', (h1.push o).get? I = some o' := by obtain ⟨o', gg, _⟩ := hI _ _ h0; exact ⟨o', gg⟩
  have kp : KeepAll s.heap (h1.push o) := k1.trans keepAll_push
  have S0 : Stt w.params TI h₀ (I :: mc) mm env (h1.push o) l := S.guard kp sI aI
  have hP : ∀ t, TI = some t → t.P ≠ I := fun t e q => by
    obtain ⟨o', e'⟩ := S.tabLive t e
    rw [q, sI] at e'; cases e'
  have hPm : ∀ b, b ∈ tabA TI → b ∈ mc := fun b hb' => by
    obtain ⟨t, e, rfl⟩ := mem_tabA hb'
    exact (S.tab t e).1
  have keepS : ∀ {h' : Heap}, KeepF TI (I :: mm) (h1.push o) h' → KeepF TI mm s.heap h' := fun kk b o' ht hb e => kk b o' ht (fun q => by rcases List.mem_cons.mp q with q | q; subst q; rw [sI] at e; cases e; exact hb q) (kp b o' e)
  have growS : ∀ {mm' : List Addr}, Grow mm (h1.push o) mm' → Grow mm s.heap mm' := fun gr a ha => (gr a ha).imp id fun q => none_before kp q
  have fpno : ∀ {mm' : List Addr}, Grow mm (h1.push o) mm' → I ∉ mm' → ∀ b ∈ fp, b ∉ mm' := fun gr hIm b hb' q => by
    rcases hfp b hb' with rfl | ⟨⟨o', e⟩, hn⟩
    · exact hIm q
    · rcases gr b q with q | q
      · exact hn (List.mem_append_left _ q)
      · have := keepAll_push (o := o) b o' e; rw [q] at this; cases this
  have fpt : ∀ b ∈ fp, b ∉ tabA TI := fun b hb' q => by
    rcases hfp b hb' with rfl | ⟨_, hn⟩
    · obtain ⟨t, e, q⟩ := mem_tabA q
      exact hP t e q.symm
    · exact hn (List.mem_append_right _ (hPm b q))
  clear hfp k1
  generalize h1.push o = hp at *
  refine codeAny_forLoop (FInv w TI h₀ mc mm env s fin (fun i l' => loopV F l' (vs.drop i)) St vs.length I hp) ?_ vs.length (.mk (i := 0) (Nat.zero_le _) h0 (fun _ _ _ _ e => e) Grow.refl S0 ld) (fun _ => rfl)
  clear ld h0 S0
  rintro k _ @⟨i, l', mm', h', tk', hi, st, kk, gr, T, ld⟩
  have nIm : I ∉ mm' := fun q => T.apart I q (.head _)
  by_cases hlt : i < vs.length
  · refine W.item i _ _ _ hlt st fun v h2 tk2 hvv st2 k2 => ?_
    obtain ⟨u, eu, ru⟩ := hv i v hlt hvv
    have k2' : ∀ b o', b ≠ I → h'.get? b = some o' → h2.get? b = some o' := fun b o' hb' e => k2 b o' (fun q => hb' (List.mem_singleton.mp q)) e
    have ed : vs.drop i = u :: vs.drop (i + 1) := by
      rw [List.drop_eq_getElem_cons hlt]
      rw [List.getElem?_eq_getElem hlt] at eu
      rw [Option.some.inj eu]
    have ld : Leads (thenW (F l' u) fun l2 => loopV F l2 (vs.drop (i + 1))) fin := by rw [← loopV_cons, ← ed]; exact ld
    have T2 := T.poke hP hI0 k2' (by obtain ⟨o', gg, _⟩ := hI _ _ st2; exact ⟨o', gg⟩)
    rw [← hF] at ld
    obtain ⟨hbc, hat⟩ := ld.ok
    refine wpAny_assign_Name (Stt.store (s := { s with heap := h2, toks := tk2 }) T2 hs (atom_keep hat ru) fun h3 t3 k3 _ _ T3 => ?_)
    refine wpAny_mono (X.exs (s := { s with heap := h3, toks := t3 }) kb T3 r hbc) (fun f s' hf => ?_) fun _ _ f => f.elim
    have kb1 : ∀ b o', b ∉ tabA TI → b ∉ I :: mm → hp.get? b = some o' → h3.get? b = some o' ∧ b ∉ mm' := fun b o' ht hb' e => by
      have hbm : b ∉ mm' := fun q => by
        rcases gr b q with q | q
        · exact hb' (.tail _ q)
        · rw [e] at q; cases q
      exact ⟨k3 b o' hbm (k2' b o' (fun q => hb' (q ▸ .head _)) (kk b o' ht hb' e)), hbm⟩
    revert hf ld
    clear hbc
    dsimp only
    generalize exs g env.kindOf n (l'.put x ⟨u, false⟩) body = q
    obtain ⟨fl, l2, c2⟩ := q
    rw [hF]
    intro ld hf
    cases fl with
    | next =>
      obtain ⟨h4, t4, rfl, k4, rfl, mm2, g2, T4⟩ := hf
      refine ⟨vs.length - (i + 1), Nat.sub_lt_sub_left hlt (Nat.lt_succ_self _), .mk (i := i + 1) hlt ?_ ?_ ?_ T4 ld.next⟩
      · exact W.frame _ _ _ st2 fun b hb' o' e => k4 b o' (fpt b hb') (fpno gr nIm b hb') (k3 b o' (fpno gr nIm b hb') e)
      · exact fun b o' ht hb' e => k4 b o' ht (kb1 b o' ht hb' e).2 (kb1 b o' ht hb' e).1
      · intro a ha
        rcases g2 a ha with q | q
        · exact gr a q
        · by_cases hm : a ∈ mm
          · exact .inl hm
          · refine .inr ?_
            cases e : hp.get? a with
            | none => rfl
            | some o' =>
              have hb' : a ∉ I :: mm := fun q2 => by
                rcases List.mem_cons.mp q2 with q2 | q2
                · subst q2; exact T4.apart _ ha (.head _)
                · exact hm q2
              have := (kb1 a o' (fun q2 => T4.apart a ha (.tail _ (hPm a q2))) hb' e).1
              have q : h3.get? a = none := q
              rw [q] at this; cases this
    | ret v =>
      obtain ⟨h4, t4, rfl, k4, kh, tb, wv, rfl, rp⟩ := hf
      refine FinS.mk (r := (.ret v, l2, True)) ⟨h4, t4, rfl, keepS fun b o' ht hb' e => k4 b o' ht (kb1 b o' ht hb' e).2 (kb1 b o' ht hb' e).1, kh, ?_, wv, rfl, rp.sub fun a ha => .tail _ ha⟩ ld.2.1 ld.2.2
      intro t e
      obtain ⟨hm', ps, hp, ht, hc⟩ := tb t e
      exact ⟨(S.tab t e).1, ps, hp, ht, hc.imp id fun ⟨c', e1, e2, e3⟩ => ⟨c', e1, e2, fun q => e3 (.tail _ q)⟩⟩
  · obtain rfl : i = vs.length := Nat.le_antisymm hi (Nat.le_of_not_lt hlt)
    refine W.done _ _ _ st fun h2 tk2 k2 => ?_
    have k2' : ∀ b o', b ≠ I → h'.get? b = some o' → h2.get? b = some o' := fun b o' hb' e => k2 b o' (fun q => hb' (List.mem_singleton.mp q)) e
    rw [List.drop_length] at ld
    exact wpAny_execs_nil (FinS.mk (r := (.next, l', True)) ⟨h2, tk2, rfl, keepS fun b o' ht hb' e => k2' b o' (fun q => hb' (q ▸ .head _)) (kk b o' ht hb' e), rfl, mm', growS gr, T.release hP hI0 k2' (fun q => by obtain ⟨o', e⟩ := S.livec I q; rw [sI] at e; cases e)⟩ ld.2.1 ld.2.2)
end
end Mine
namespace Mine
open PySem PySem.W PyProof.Rows PySem.Calls
/-! the sort keeps the order of what is alike: every element bears a tag, the tags rise at first -/
section
variable {κ : PyProof.Rows.KeyKind} {T : Value → Nat} {n : Nat}
/-- the tag at a place -/
noncomputable def TT (T : Value → Nat) (xs : Array Keyed) (i : Nat) : Nat := match xs[i]? with
  | some p => T p.2
  | none => 0
theorem TT_congr {xs ys : Array Keyed} {i j : Nat} (h : xs[i]? = ys[j]?) : TT T xs i = TT T ys j := by unfold TT; rw [h]
/-- where an element of a slice that is turned round came from -/
noncomputable def turn (i j k : Nat) : Nat := if i ≤ k ∧ k < j then i + j - 1 - k else k
/-- where an element came from, the one at src having been put in at l -/
noncomputable def insAt (src l k : Nat) : Nat := if k = l then src else if l < k ∧ k ≤ src then k - 1 else k
theorem at_turn {xs : Array Keyed} {i j : Nat} (hj : j ≤ xs.size) (k : Nat) : KK κ (mirror xs i j ((j - i) / 2)) k = KK κ xs (turn i j k) ∧ TT T (mirror xs i j ((j - i) / 2)) k = TT T xs (turn i j k) := by
  have e : (mirror xs i j ((j - i) / 2))[k]? = xs[turn i j k]? := by
    rw [getElem?_mirror_all hj]; unfold turn; split <;> rfl
  exact ⟨KK_congr e, TT_congr e⟩
theorem at_ins {xs : Array Keyed} {src l : Nat} (hs : src < xs.size) (hl : l ≤ src) (k : Nat) : KK κ (bubble xs src (src - l)) k = KK κ xs (insAt src l k) ∧ TT T (bubble xs src (src - l)) k = TT T xs (insAt src l k) := by
  have e : (bubble xs src (src - l))[k]? = xs[insAt src l k]? := by
    rw [getElem?_bubble hs _ (Nat.sub_le ..), show src - (src - l) = l by lia]
    unfold insAt; split
    · rfl
    · split <;> rfl
  exact ⟨KK_congr e, TT_congr e⟩
/-- behind m the tags rise -/
noncomputable def Rest (T : Value → Nat) (n : Nat) (xs : Array Keyed) (m : Nat) : Prop := ∀ i j, i < j → j < n → m ≤ j → TT T xs i < TT T xs j
/-- before, and if alike then by the tag -/
noncomputable def Bef (κ : PyProof.Rows.KeyKind) (T : Value → Nat) (xs : Array Keyed) (i j : Nat) : Prop := κ.klt (KK κ xs i) (KK κ xs j) ∨ (KK κ xs i = KK κ xs j ∧ TT T xs i < TT T xs j)
noncomputable def Lex (κ : PyProof.Rows.KeyKind) (T : Value → Nat) (xs : Array Keyed) (m : Nat) : Prop := ∀ i j, i < j → j < m → Bef κ T xs i j
/-- the first m, turned round, would be in order -/
noncomputable def Rev (κ : PyProof.Rows.KeyKind) (T : Value → Nat) (xs : Array Keyed) (m : Nat) : Prop := ∀ i j, i < j → j < m → κ.klt (KK κ xs j) (KK κ xs i) ∨ (KK κ xs i = KK κ xs j ∧ TT T xs j < TT T xs i)
variable {xs : Array Keyed}
theorem Rest.mono {m m' : Nat} (h : Rest T n xs m) (hm : m ≤ m') : Rest T n xs m' := fun i j hij hj hmj => h i j hij hj (Nat.le_trans hm hmj)
theorem klt_or_eq {O : KeyOrd} {a b : O.α} (h : O.kle a b) : O.klt a b ∨ a = b := by
  cases e : O.blt a b with
  | true => exact .inl e
  | false => exact .inr (O.total _ _ e h)
theorem Bef.kle {i j : Nat} (h : Bef κ T xs i j) : κ.kle (KK κ xs i) (KK κ xs j) := by
  rcases h with h | ⟨h, _⟩
  · exact KeyOrd.kle_of_klt h
  · rw [h]; exact KeyOrd.kle_refl _
theorem Lex.sorted {m : Nat} (h : Lex κ T xs m) : SortedToK κ xs m := fun i j hij hj => by
  rcases Nat.lt_or_eq_of_le hij with h1 | rfl
  · exact (h i j h1 hj).kle
  · exact KeyOrd.kle_refl _
/-- in order, from a part that is in order on -/
theorem Lex.grow {x m : Nat} (h : Lex κ T xs x) (hs : SortedToK κ xs m) (hr : Rest T n xs x) (hm : m ≤ n) : Lex κ T xs m := fun i j hij hj => by
  rcases Nat.lt_or_ge j x with h1 | h1
  · exact h i j hij h1
  · rcases klt_or_eq (hs i j (Nat.le_of_lt hij) hj) with q | q
    · exact .inl q
    · exact .inr ⟨q, hr i j hij (Nat.lt_of_lt_of_le hj hm) h1⟩
/-- what holds while a run falls: the last q + 1 are alike, in their first order -/
structure Fall (κ : PyProof.Rows.KeyKind) (T : Value → Nat) (n : Nat) (xs : Array Keyed) (r x : Nat) : Prop where
  le : r < x
  rev : Rev κ T xs r
  over : ∀ i j, i < r → r ≤ j → j < x → κ.klt (KK κ xs j) (KK κ xs i)
  like : ∀ i j, r ≤ i → i < j → j < x → KK κ xs i = KK κ xs j ∧ TT T xs i < TT T xs j
  rest : Rest T n xs x
/-- the last ones turned round -/
theorem Fall.turned {r x : Nat} (h : Fall κ T n xs r x) (hx : x ≤ xs.size) : Rev κ T (mirror xs r x ((x - r) / 2)) x ∧ Rest T n (mirror xs r x ((x - r) / 2)) x ∧ ∀ k, KK κ (mirror xs r x ((x - r) / 2)) k = KK κ xs k := by
  have K := fun k => (at_turn (κ := κ) (T := T) (i := r) hx k).1
  have U := fun k => (at_turn (κ := κ) (T := T) (i := r) hx k).2
  have hl := h.le
  refine ⟨fun i j hij hj => ?_, fun i j hij hj hx' => ?_, fun k => ?_⟩
  · rw [K, K, U, U]
    unfold turn
    rcases Nat.lt_or_ge j r with h1 | h1
    · rw [if_neg (by omega), if_neg (by omega)]; exact h.rev i j hij h1
    · rw [if_pos (⟨h1, hj⟩ : r ≤ j ∧ j < x)]
      rcases Nat.lt_or_ge i r with h2 | h2
      · rw [if_neg (by omega)]; exact .inl (h.over i _ h2 (by omega) (by omega))
      · rw [if_pos (by omega)]
        have := h.like (r + x - 1 - j) (r + x - 1 - i) (by omega) (by omega) (by omega)
        exact .inr ⟨this.1.symm, this.2⟩
  · rw [U, U]
    unfold turn
    rw [if_neg (show ¬ (r ≤ j ∧ j < x) by omega)]
    split
    · exact h.rest _ j (by omega) hj hx'
    · exact h.rest i j hij hj hx'
  · rw [K]; unfold turn
    split
    · rename_i hk
      rcases Nat.lt_trichotomy (r + x - 1 - k) k with q | q | q
      · exact (h.like _ _ (by omega) q hk.2).1
      · rw [q]
      · exact (h.like _ _ hk.1 q (by omega)).1.symm
    · rfl
theorem Fall.one {x : Nat} (h : Fall κ T n xs (x - 1) x) : Rev κ T xs x := fun i j hij hj => by
  rcases Nat.lt_or_ge j (x - 1) with h1 | h1
  · exact h.rev i j hij h1
  · exact .inl (h.over i j (by lia) h1 hj)
theorem Rev.fall {x : Nat} (h : Rev κ T xs x) (hr : Rest T n xs x) (hlt : κ.klt (KK κ xs x) (KK κ xs (x - 1))) (hx : 1 ≤ x) : Fall κ T n xs x (x + 1) := by
  refine ⟨Nat.lt_succ_self _, h, fun i j hi h1 h2 => ?_, fun i j h1 h2 h3 => by lia, hr.mono (Nat.le_succ _)⟩
  obtain rfl : j = x := by lia
  rcases Nat.lt_or_ge i (j - 1) with q | q
  · rcases h i (j - 1) q (by lia) with e | ⟨e, _⟩
    · exact κ.trans _ _ _ hlt e
    · rw [e]; exact hlt
  · obtain rfl : i = j - 1 := by lia
    exact hlt
theorem Fall.more {r x : Nat} (h : Fall κ T n xs r x) (he : KK κ xs x = KK κ xs (x - 1)) (hx : x < n) : Fall κ T n xs r (x + 1) := by
  have hl := h.le
  refine ⟨by lia, h.rev, fun i j hi h1 h2 => ?_, fun i j h1 h2 h3 => ?_, h.rest.mono (Nat.le_succ _)⟩
  · rcases Nat.lt_or_ge j x with q | q
    · exact h.over i j hi h1 q
    · obtain rfl : j = x := by lia
      rw [he]; exact h.over i (j - 1) hi (by lia) (by lia)
  · rcases Nat.lt_or_ge j x with q | q
    · exact h.like i j h1 h2 q
    · obtain rfl : j = x := by lia
      refine ⟨?_, h.rest i j h2 hx (Nat.le_refl _)⟩
      rw [he]
      rcases Nat.lt_or_ge i (j - 1) with q | q
      · exact (h.like i (j - 1) h1 q (by lia)).1
      · rw [show i = j - 1 by lia]
/-- the whole turned round -/
theorem Rev.lex {x : Nat} (h : Rev κ T xs x) (hr : Rest T n xs x) (hx : x ≤ xs.size) : Lex κ T (mirror xs 0 x ((x - 0) / 2)) x ∧ Rest T n (mirror xs 0 x ((x - 0) / 2)) x := by
  have K := fun k => (at_turn (κ := κ) (T := T) (i := 0) hx k).1
  have U := fun k => (at_turn (κ := κ) (T := T) (i := 0) hx k).2
  refine ⟨fun i j hij hj => ?_, fun i j hij hj hx' => ?_⟩
  · unfold Bef
    rw [K, K, U, U]
    unfold turn
    rw [if_pos (by omega), if_pos (by omega)]
    have := h (0 + x - 1 - j) (0 + x - 1 - i) (by omega) (by omega)
    exact this.imp id fun q => ⟨q.1.symm, q.2⟩
  · rw [U, U]
    unfold turn
    rw [if_neg (show ¬ (0 ≤ j ∧ j < x) by omega)]
    split
    · exact hr _ j (by omega) hj hx'
    · exact hr i j hij hj hx'
/-- one more put in -/
theorem Lex.put {k l : Nat} (h : Lex κ T xs k) (hr : Rest T n xs k) (hk : k < n) (hs : k < xs.size) (hl : l ≤ k) (lo : ∀ i, i < l → κ.kle (KK κ xs i) (KK κ xs k)) (hi : ∀ i, l ≤ i → i < k → κ.klt (KK κ xs k) (KK κ xs i)) :
    Lex κ T (bubble xs k (k - l)) (k + 1) ∧ Rest T n (bubble xs k (k - l)) (k + 1) := by
  have K := fun m => (at_ins (κ := κ) (T := T) hs hl m).1
  have U := fun m => (at_ins (κ := κ) (T := T) hs hl m).2
  refine ⟨fun i j hij hj => ?_, fun i j hij hj hx' => ?_⟩
  · unfold Bef
    rw [K, K, U, U]
    show Bef κ T xs _ _
    unfold insAt
    rcases Nat.lt_trichotomy j l with q | q | q
    · rw [if_neg (by omega), if_neg (by omega), if_neg (by omega), if_neg (by omega)]; exact h i j hij (by omega)
    · rw [if_neg (by omega), if_neg (by omega), if_pos q]
      rcases klt_or_eq (lo i (by omega)) with e | e
      · exact .inl e
      · exact .inr ⟨e, hr i k (by omega) hk (Nat.le_refl _)⟩
    · rw [if_neg (show ¬ j = l by omega), if_pos (show l < j ∧ j ≤ k by omega)]
      rcases Nat.lt_trichotomy i l with p | p | p
      · rw [if_neg (by omega), if_neg (by omega)]; exact h i (j - 1) (by omega) (by omega)
      · rw [if_pos p]; exact .inl (hi (j - 1) (by omega) (by omega))
      · rw [if_neg (by omega), if_pos (by omega)]; exact h (i - 1) (j - 1) (by omega) (by omega)
  · rw [U, U]
    unfold insAt
    rw [if_neg (show ¬ j = l by omega), if_neg (show ¬ (l < j ∧ j ≤ k) by omega)]
    repeat' split
    · exact hr k j (by omega) hj (by omega)
    · exact hr (i - 1) j (by omega) hj (by omega)
    · exact hr i j hij hj (by omega)
end
section
variable {prog : Program} {w : World} {A : Around} {E : Value → Shared → Prop} {s : Shared} {a₀ : Array Keyed} {κ : PyProof.Rows.KeyKind} {T : Value → Nat}
noncomputable abbrev St' (κ : PyProof.Rows.KeyKind) (T : Value → Nat) (a₀ : Array Keyed) (st : SortSt) (m : Nat) : Prop := SBase a₀ st ∧ Lex κ T (arrOf st) m ∧ Rest T a₀.size (arrOf st) m
theorem wpS_ins {st : SortSt} {ok : Nat} {Q : Bool → SortSt → Prop} (hO : κ.OneLt) (h0 : PyProof.Rows.KeysOf κ a₀) (hok : ok ≤ a₀.size) (h1 : 1 ≤ ok) (hB : St' κ T a₀ st ok)
    (h : ∀ st', St' κ T a₀ st' a₀.size → Q true st') : wpS (model prog w) A E s (binarySort' 0 a₀.size ok) Q st := by
  rw [binarySort'_eq]
  simp only [Nat.zero_add]
  refine wpS_bind (wpS_mono (wpS_forRange (I := fun k c st' => c = (none, ()) ∧ St' κ T a₀ st' (min k a₀.size)) (Q := fun c st' => c = (none, ()) ∧ St' κ T a₀ st' a₀.size) ?step ?fin ?init) ?post)
  case post =>
    rintro c st' ⟨rfl, q⟩
    exact wpS_pure (h st' q)
  case init =>
    rw [show min (max ok 1) a₀.size = ok by lia]
    exact ⟨rfl, hB⟩
  case fin =>
    rintro c st' ⟨hc, q⟩
    rw [show min (max (max ok 1) a₀.size) a₀.size = a₀.size by lia] at q
    exact ⟨hc, q⟩
  case step =>
    rintro k c st' hak hk ⟨rfl, q⟩
    rw [show min k a₀.size = k by lia] at q
    obtain ⟨hb, hl, hr⟩ := q
    have hs := hl.sorted
    refine wpS_bind (wpS_mono (wpS_forRange (I := fun x c st2 => st2 = st' ∧ ∃ l r, c = (none, l, r) ∧ l ≤ r ∧ r ≤ k ∧ r - l ≤ k - x ∧
        (∀ i, i < l → κ.kle (KK κ (arrOf st') i) (KK κ (arrOf st') k)) ∧ (∀ i, r ≤ i → i < k → κ.klt (KK κ (arrOf st') k) (KK κ (arrOf st') i)))
      (Q := fun c st2 => st2 = st' ∧ ∃ l, c = (none, l, l) ∧ l ≤ k ∧
        (∀ i, i < l → κ.kle (KK κ (arrOf st') i) (KK κ (arrOf st') k)) ∧ (∀ i, l ≤ i → i < k → κ.klt (KK κ (arrOf st') k) (KK κ (arrOf st') i))) ?istep ?ifin ?iinit) ?ipost)
    case iinit => exact ⟨rfl, 0, k, rfl, Nat.zero_le _, Nat.le_refl _, by lia, fun i hi => by lia, fun i a b => by lia⟩
    case ifin =>
      rintro c st2 ⟨rfl, l, r, rfl, a1, a2, a3, lo, hi⟩
      obtain rfl : l = r := by lia
      exact ⟨rfl, l, rfl, a2, lo, hi⟩
    case istep =>
      rintro x c st2 _ hx ⟨rfl, l, r, rfl, a1, a2, a3, lo, hi⟩
      dsimp only
      by_cases hge : l ≥ r
      · rw [if_pos hge]
        obtain rfl : l = r := by lia
        exact wpS_pure ⟨rfl, l, rfl, a2, lo, hi⟩
      · rw [if_neg hge]
        refine wpS_bind (wpS_ltKK hO hb h0 hk (by lia) ?_)
        cases hc : κ.blt (KK κ (arrOf st2) k) (KK κ (arrOf st2) ((l + r) / 2)) with
        | true =>
          simp only [if_true]
          exact wpS_pure ⟨rfl, l, (l + r) / 2, rfl, by lia, by lia, by lia, lo, fun i b1 b2 => KeyOrd.klt_of_klt_of_kle hc (hs _ _ b1 b2)⟩
        | false =>
          simp only [Bool.false_eq_true, if_false]
          exact wpS_pure ⟨rfl, (l + r) / 2 + 1, r, rfl, by lia, by lia, by lia, fun i b1 => KeyOrd.kle_trans (hs i ((l + r) / 2) (by lia) (by lia)) hc, hi⟩
    case ipost =>
      rintro c st2 ⟨rfl, l, rfl, hlk, lo, hi⟩
      show wpS _ _ _ _ (do moveDown' k l; pure (ForInStep.yield (none, ()))) _ _
      rw [moveDown'_eq]
      refine wpS_bind (wpS_modify (wpS_pure ⟨rfl, hb.setArr (bubble_perm _ _ _), ?_⟩))
      rw [show min (k + 1) a₀.size = k + 1 by lia]
      exact hl.put hr hk (by rw [hb.size]; exact hk) hlk lo hi
theorem wpS_endRun {st : SortSt} {x : Nat} {Q : Option Nat → SortSt → Prop} (hO : κ.OneLt) (h0 : PyProof.Rows.KeysOf κ a₀) (h1 : 1 ≤ x) (hx : x ≤ a₀.size) (hB : SBase a₀ st) (hv : Rev κ T (arrOf st) x) (hr : Rest T a₀.size (arrOf st) x)
    (h : ∀ m st', St' κ T a₀ st' m → 1 ≤ m → m ≤ a₀.size → Q (some m) st') : wpS (model prog w) A E s (tail3 x a₀.size) Q st := by
  unfold tail3
  obtain ⟨l, r⟩ := hv.lex hr (by rw [hB.size]; exact hx)
  have hB' : SBase a₀ (setArr st (mirror (arrOf st) 0 x ((x - 0) / 2))) := hB.setArr (mirror_perm _ _ _ _)
  exact wpS_bind (wpS_reverse (wpS_bind (wpS_ascLoopK hO h0 (Nat.le_refl _) h1 hx hB' l.sorted fun m m1 m2 ms _ => wpS_pure (h m _ ⟨hB', l.grow ms r m2, r.mono m1⟩ (by lia) m2))))
theorem wpS_fallRun {st : SortSt} {x : Nat} {Q : Option Nat → SortSt → Prop} (hO : κ.OneLt) (h0 : PyProof.Rows.KeysOf κ a₀) (hx : x + 1 ≤ a₀.size) (hB : SBase a₀ st) (hf : Fall κ T a₀.size (arrOf st) x (x + 1))
    (h : ∀ m st', St' κ T a₀ st' m → 1 ≤ m → m ≤ a₀.size → Q (some m) st') : wpS (model prog w) A E s (descPart x a₀.size) Q st := by
  unfold descPart descLoop
  refine wpS_bind (wpS_lift (wpAny_rule ⟨rfl, ?_⟩))
  refine wpS_bind (wpS_mono (wpS_forRange (I := fun x c st' => ∃ q, c = (none, x, q) ∧ q + 1 ≤ x ∧ SBase a₀ st' ∧ Fall κ T a₀.size (arrOf st') (x - (q + 1)) x)
    (Q := fun c st' => ∃ x q, c = (none, x, q) ∧ q + 1 ≤ x ∧ x ≤ a₀.size ∧ SBase a₀ st' ∧ Fall κ T a₀.size (arrOf st') (x - (q + 1)) x) ?step ?fin ⟨0, rfl, by lia, hB, hf⟩) ?post)
  case fin =>
    rintro c st' ⟨q, rfl, hq, hb, hF⟩
    exact ⟨_, q, rfl, hq, by lia, hb, hF⟩
  case step =>
    rintro x c st' h1 h2 ⟨q, rfl, hq, hb, hF⟩
    dsimp only
    have hsz : x ≤ (arrOf st').size := by rw [hb.size]; lia
    refine wpS_bind (wpS_ltKK hO hb h0 h2 (by lia) ?_)
    cases hc : κ.blt (KK κ (arrOf st') x) (KK κ (arrOf st') (x - 1)) with
    | true =>
      simp only [if_true]
      by_cases hq0 : q > 0
      · rw [if_pos hq0]
        obtain ⟨t1, t2, t3⟩ := hF.turned hsz
        refine wpS_bind (wpS_reverse (wpS_pure ⟨0, rfl, by lia, hb.setArr (mirror_perm _ _ _ _), ?_⟩))
        exact t1.fall t2 (by rw [t3, t3]; exact hc) (by lia)
      · rw [if_neg hq0]
        obtain rfl : q = 0 := by lia
        exact wpS_pure ⟨0, rfl, by lia, hb, hF.one.fall hF.rest hc (by lia)⟩
    | false =>
      simp only [Bool.false_eq_true, if_false]
      refine wpS_bind (wpS_ltKK hO hb h0 (by lia) h2 ?_)
      cases hd : κ.blt (KK κ (arrOf st') (x - 1)) (KK κ (arrOf st') x) with
      | true =>
        simp only [if_true]
        exact wpS_pure ⟨x, q, rfl, hq, by lia, hb, hF⟩
      | false =>
        simp only [Bool.false_eq_true, if_false]
        refine wpS_pure ⟨q + 1, rfl, by lia, hb, ?_⟩
        rw [show x + 1 - (q + 1 + 1) = x - (q + 1) by lia]
        exact hF.more (KeyOrd.kle_antisymm hd hc) h2
  case post =>
    rintro c st' ⟨x, q, rfl, hq, hx2, hb, hF⟩
    dsimp only
    have hsz : x ≤ (arrOf st').size := by rw [hb.size]; lia
    by_cases hq0 : q > 0
    · rw [if_pos hq0]
      obtain ⟨t1, t2, _⟩ := hF.turned hsz
      exact wpS_bind (wpS_reverse (wpS_endRun hO h0 (by lia) hx2 (hb.setArr (mirror_perm _ _ _ _)) t1 t2 h))
    · rw [if_neg hq0]
      obtain rfl : q = 0 := by lia
      exact wpS_endRun hO h0 (by lia) hx2 hb hF.one hF.rest h
theorem wpS_run {st : SortSt} {Q : Option Nat → SortSt → Prop} (hO : κ.OneLt) (h0 : PyProof.Rows.KeysOf κ a₀) (h1 : 1 ≤ a₀.size) (hB : SBase a₀ st) (hr : Rest T a₀.size (arrOf st) 0)
    (h : ∀ m st', St' κ T a₀ st' m → 1 ≤ m → m ≤ a₀.size → Q (some m) st') : wpS (model prog w) A E s (countRun' 0 a₀.size) Q st := by
  rw [countRun0_eq]
  refine wpS_bind (wpS_ascLoopK hO h0 (Nat.le_refl _) (Nat.le_refl 1) h1 hB (fun i j a b => by have e : i = j := (by lia); rw [e]; exact KeyOrd.kle_refl _) fun x x1 x2 xs hor => ?_)
  dsimp only
  have hlex : Lex κ T (arrOf st) x := Lex.grow (x := 0) (fun i j a b => by lia) xs hr x2
  by_cases hn : x = a₀.size
  · rw [if_pos (by simpa using hn)]
    exact wpS_pure (h x st ⟨hB, hlex, hr.mono (Nat.zero_le _)⟩ x1 x2)
  · rw [if_neg (by simpa using hn)]
    have hlt := hor.resolve_left hn
    by_cases hgt : x > 1
    · rw [if_pos hgt]
      refine wpS_bind (wpS_ltKK hO hB h0 (by lia) (by lia) ?_)
      cases hc : κ.blt (KK κ (arrOf st) 0) (KK κ (arrOf st) (x - 1)) with
      | true =>
        simp only [if_true]
        exact wpS_pure (h x st ⟨hB, hlex, hr.mono (Nat.zero_le _)⟩ x1 x2)
      | false =>
        simp only [Bool.false_eq_true, if_false]
        have hsz : x ≤ (arrOf st).size := by rw [hB.size]; lia
        -- all of them are alike
        have all : ∀ i, i < x → KK κ (arrOf st) i = KK κ (arrOf st) (x - 1) := fun i hi =>
          KeyOrd.kle_antisymm (xs i (x - 1) (by lia) (by lia)) (KeyOrd.kle_trans hc (xs 0 i (by lia) hi))
        have hF : Fall κ T a₀.size (arrOf st) 0 x := ⟨by lia, fun i j a b => by lia, fun i j a => by lia, fun i j _ a b => ⟨by rw [all i (by lia), all j b], hr i j a (by lia) (Nat.zero_le _)⟩, hr.mono (Nat.zero_le _)⟩
        obtain ⟨t1, t2, t3⟩ := hF.turned hsz
        refine wpS_bind (wpS_reverse (wpS_fallRun hO h0 (by lia) (hB.setArr (mirror_perm _ _ _ _)) ?_ h))
        exact t1.fall t2 (by rw [t3, t3]; exact hlt) (by lia)
    · rw [if_neg hgt]
      obtain rfl : x = 1 := by lia
      exact wpS_fallRun hO h0 (by lia) hB (Rev.fall (fun i j a b => by lia) (hr.mono (Nat.zero_le _)) hlt (Nat.le_refl _)) h
theorem wpS_sortS {st : SortSt} {Q : Unit → SortSt → Prop} (hO : κ.OneLt) (h0 : PyProof.Rows.KeysOf κ a₀) (hB : SBase a₀ st) (hr : Rest T a₀.size (arrOf st) 0) (h2 : 2 ≤ a₀.size) (h64 : a₀.size < 64)
    (h : ∀ st', (arrOf st').Perm a₀ → failedOf st' = none → Lex κ T (arrOf st') a₀.size → Q () st') : wpS (model prog w) A E s sortRuns' Q st := by
  rw [sortRuns'_eq]
  refine wpS_bind (wpS_get ?_)
  dsimp only
  have hmr : minRun' a₀.size a₀.size 0 = a₀.size := by
    obtain ⟨f, hf⟩ : ∃ f, a₀.size = f + 1 := ⟨a₀.size - 1, by lia⟩
    have e : minRun' (f + 1) a₀.size 0 = a₀.size := by rw [minRun'_succ, if_pos h64]; rfl
    rwa [← hf] at e
  simp only [hB.size, hmr]
  have fin : ∀ {st3 : SortSt} {x : Nat}, St' κ T a₀ st3 a₀.size → (1 ≤ x + 1 ∧ ((none, a₀.size) : Option Unit × Nat) = (none, a₀.size) ∧ (arrOf (PyProof.Rows.setPending st3 ((pendingOf st3).push (0, a₀.size, 0)))).Perm a₀ ∧ failedOf (PyProof.Rows.setPending st3 ((pendingOf st3).push (0, a₀.size, 0))) = none ∧
      pendingOf (PyProof.Rows.setPending st3 ((pendingOf st3).push (0, a₀.size, 0))) = #[(0, a₀.size, 0)] ∧ Lex κ T (arrOf (PyProof.Rows.setPending st3 ((pendingOf st3).push (0, a₀.size, 0)))) a₀.size) := fun {st3 x} q =>
    ⟨by lia, rfl, q.1.perm, q.1.failed, by show (pendingOf st3).push _ = _; rw [q.1.pend]; rfl, q.2.1⟩
  refine wpS_bind (wpS_mono (wpS_forRange
    (I := fun x c st' => (x = 0 ∧ c = (none, 0) ∧ st' = st) ∨ (1 ≤ x ∧ c = (none, a₀.size) ∧ (arrOf st').Perm a₀ ∧ failedOf st' = none ∧ pendingOf st' = #[(0, a₀.size, 0)] ∧ Lex κ T (arrOf st') a₀.size))
    (Q := fun c st' => c = (none, a₀.size) ∧ (arrOf st').Perm a₀ ∧ failedOf st' = none ∧ pendingOf st' = #[(0, a₀.size, 0)] ∧ Lex κ T (arrOf st') a₀.size) ?step ?fin (.inl ⟨rfl, rfl, rfl⟩)) ?post)
  case fin =>
    rintro c st' (⟨q, _, _⟩ | q)
    · lia
    · exact q.2
  case step =>
    rintro x c st' _ hx (⟨rfl, rfl, rfl⟩ | ⟨_, rfl, hD⟩)
    · dsimp only
      rw [if_neg (by lia)]
      simp only [Nat.sub_zero, Nat.min_self, Nat.zero_add]
      refine wpS_bind (wpS_run (T := T) hO h0 (by lia) hB hr fun m st2 q m1 m2 => ?_)
      dsimp only
      by_cases hlt : m < a₀.size
      · rw [if_pos hlt]
        refine wpS_bind (wpS_lift (wpAny_rule ⟨rfl, ?_⟩))
        refine wpS_bind (wpS_ins hO h0 m2 m1 q fun st3 q3 => ?_)
        simp only [Bool.not_true, Bool.false_eq_true, if_false]
        refine wpS_bind (wpS_get ?_)
        rw [show (pendingOf st3).back? = none by rw [q3.1.pend]; rfl]
        dsimp only
        exact wpS_bind (wpS_modify (wpS_pure (.inr (fin (x := 0) q3))))
      · rw [if_neg hlt]
        obtain rfl : m = a₀.size := by lia
        refine wpS_bind (wpS_get ?_)
        rw [show (pendingOf st2).back? = none by rw [q.1.pend]; rfl]
        dsimp only
        exact wpS_bind (wpS_modify (wpS_pure (.inr (fin (x := 0) q))))
    · dsimp only
      rw [if_pos (Nat.le_refl _)]
      exact wpS_pure ⟨rfl, hD⟩
  case post =>
    rintro c st' ⟨rfl, hp, hf, hpd, hl⟩
    dsimp only
    refine wpS_bind (wpS_mono (wpS_forRange (I := fun _ c st'' => st'' = st' ∧ c = (none, ())) (Q := fun c st'' => st'' = st' ∧ c = (none, ())) ?_ (fun _ _ hh => hh) ⟨rfl, rfl⟩) ?_)
    · rintro x c st'' _ _ ⟨rfl, rfl⟩
      refine wpS_bind (wpS_get ?_)
      rw [if_pos (by rw [hpd]; exact Nat.le_refl 1)]
      exact wpS_pure ⟨rfl, rfl⟩
    · rintro c st'' ⟨rfl, rfl⟩
      exact wpS_pure (h _ hp hf hl)
end
end Mine
set_option maxHeartbeats 4000000
namespace Mine
open PySem PySem.W PyProof.Rows PySem.Calls
/-! sorted(text, key=f): the letters in the order of their keys, the first ones of what is alike first -/
noncomputable def chrOf : Value → Nat
  | .str x _ => x.cps.toList.headD 0
  | _ => 0
noncomputable def keyL (v : Value) : List Nat := (strOf v).cps.toList
noncomputable abbrev mkS (l : List Nat) : Str := ⟨l.toArray⟩
noncomputable abbrev mkC (c : Nat) : Str := ⟨#[c]⟩
noncomputable def SortOut (cs : List Nat) (ks : List (List Nat)) (out : List Value) : Prop :=
  ∃ ps : List (Nat × List Nat), ps.Perm (cs.zip ks) ∧ ps.Pairwise (fun p q => p.2 < q.2 ∨ (p.2 = q.2 ∧ cs.idxOf p.1 < cs.idxOf q.1)) ∧ StrsAre out (ps.map fun p => mkC p.1)
theorem zip_swap {α β γ δ : Type} (f : β → γ) (h : α → δ) : ∀ (l1 : List α) (l2 : List β), (l1.zip l2).map (fun p => (f p.2, h p.1)) = (l2.map f).zip (l1.map h)
  | [], _ => by simp
  | _ :: _, [] => by simp
  | a :: l1, b :: l2 => by
    rw [List.zip_cons_cons, List.map_cons, zip_swap f h l1 l2, List.map_cons, List.map_cons, List.zip_cons_cons]
theorem map_chr : ∀ {vs : List Value} {cs : List Nat}, StrsAre vs (cs.map mkC) → vs.map chrOf = cs
  | [], [], _ => rfl
  | [], _ :: _, h => by cases h
  | _ :: _, [], h => by cases h
  | _ :: _, c :: cs, .cons _ t h => by rw [List.map_cons, map_chr h]; rfl
theorem map_key : ∀ {vs : List Value} {ks : List (List Nat)}, StrsAre vs (ks.map mkS) → vs.map keyL = ks
  | [], [], _ => rfl
  | [], _ :: _, h => by cases h
  | _ :: _, [], h => by cases h
  | _ :: _, k :: ks, .cons _ t h => by rw [List.map_cons, map_key h]; rfl
theorem strs_chr : ∀ {vs : List Value} {cs : List Nat}, StrsAre vs (cs.map mkC) → ∀ v ∈ vs, ∃ c t, v = .str (mkC c) t
  | [], _, _, _, hv => by cases hv
  | _ :: _, c :: cs, .cons _ t h, v, hv => by
    rcases List.mem_cons.mp hv with rfl | hv
    · exact ⟨c, t, rfl⟩
    · exact strs_chr h v hv
theorem strs_length : ∀ {vs : List Value} {ss : List Str}, StrsAre vs ss → vs.length = ss.length
  | _, _, .nil => rfl
  | _, _, .cons _ _ h => by rw [List.length_cons, List.length_cons, strs_length h]
theorem strs_snoc {x : Str} {t : Tok} : ∀ {vs : List Value} {ss : List Str}, StrsAre vs ss → StrsAre (vs ++ [.str x t]) (ss ++ [x])
  | _, _, .nil => .cons x t .nil
  | _, _, .cons y u h => .cons y u (strs_snoc h)
theorem strs_of : ∀ {vs : List Value} {cs : List Nat}, vs.length = cs.length → (∀ (j : Nat) v, vs[j]? = some v → ∃ c u, cs[j]? = some c ∧ v = .str ⟨#[c]⟩ u) → StrsAre vs (cs.map mkC)
  | [], [], _, _ => .nil
  | [], _ :: _, h, _ => by cases h
  | _ :: _, [], h, _ => by cases h
  | v :: vs, c :: cs, h, H => by
    obtain ⟨c', u, e1, rfl⟩ := H 0 v rfl
    cases Option.some.inj e1
    exact .cons _ u (strs_of (Nat.succ.inj h) fun j v hj => H (j + 1) v hj)
theorem tt_at {T : Value → Nat} {xs : Array Keyed} {i : Nat} (h : i < xs.size) : TT T xs i = T xs[i].2 := by
  unfold TT; rw [getElem?_pos xs i h]
theorem kk_at {xs : Array Keyed} {i : Nat} (h : i < xs.size) (hs : ∃ x t, xs[i].1 = .str x t) : KK strKind xs i = keyL xs[i].1 := by
  unfold KK; rw [getElem?_pos xs i h]
  obtain ⟨x, t, e⟩ := hs
  dsimp only
  rw [e]; rfl
theorem sort_out {keys : Array Value} {vs : List Value} {cs : List Nat} {ks : List (List Nat)} (hk : StrsAre keys.toList (ks.map mkS)) (hv : StrsAre vs (cs.map mkC)) {xs : Array Keyed} (hp : xs.Perm (keys.zip vs.toArray))
    (hs : Lex strKind (fun v => cs.idxOf (chrOf v)) xs xs.size) : SortOut cs ks (xs.map (·.2)).toList := by
  have hl : xs.toList.Perm (keys.toList.zip vs) := by rw [← ksk_zip]; exact Array.perm_iff_toList_perm.mp hp
  have mem : ∀ p ∈ xs.toList, (∃ x t, p.1 = .str x t) ∧ ∃ c t, p.2 = .str (mkC c) t := fun p hp => by
    have := hl.mem_iff.mp hp
    obtain ⟨x, y⟩ := p
    exact ⟨hk.all _ (List.of_mem_zip this).1, strs_chr hv _ (List.of_mem_zip this).2⟩
  refine ⟨xs.toList.map fun p => (chrOf p.2, keyL p.1), ?_, ?_, ?_⟩
  · have := hl.map fun p => (chrOf p.2, keyL p.1)
    rw [zip_swap chrOf keyL, map_chr hv, map_key hk] at this
    exact this
  · rw [List.pairwise_iff_getElem]
    intro i j hi hj hij
    have hi' : i < xs.size := by simpa using hi
    have hj' : j < xs.size := by simpa using hj
    have q := hs i j hij hj'
    unfold Bef at q
    rw [tt_at hi', tt_at hj', kk_at hi' (mem _ (by simp)).1, kk_at hj' (mem _ (by simp)).1] at q
    simp only [List.getElem_map, Array.getElem_toList]
    rcases q with q | q
    · exact .inl (of_decide_eq_true q)
    · exact .inr q
  · have e : (xs.map (·.2)).toList = xs.toList.map (·.2) := by simp
    rw [e, List.map_map]
    have : ∀ l : List Keyed, (∀ p ∈ l, ∃ c t, p.2 = .str (mkC c) t) → StrsAre (l.map (·.2)) (l.map ((fun p : Nat × List Nat => mkC p.1) ∘ fun p => (chrOf p.2, keyL p.1))) := by
      intro l
      induction l with
      | nil => intro _; exact .nil
      | cons p l ih =>
        intro h
        obtain ⟨c, t, e⟩ := h p (.head _)
        rw [List.map_cons, List.map_cons]
        show StrsAre (p.2 :: _) (mkC (chrOf p.2) :: _)
        rw [e]
        exact .cons _ t (ih fun q hq => h q (.tail _ hq))
    exact this _ fun p hp => (mem p hp).2
section
variable {prog : Program} {w : World} {A : Around} {E : Value → Shared → Prop} {s : Shared} {h₀ : Heap} {a kS : Addr} {vs : List Value} {cs : List Nat} {ks : List (List Nat)} {keys : Array Value} {e e1 : Nat} {P : PySem.Fin → Shared → Prop}
noncomputable abbrev KA (h h' : Heap) : Prop := ∀ b o, h.get? b = some o → h'.get? b = some o
theorem ka_but {h h' : Heap} (k : KA h₀ h) (hn : h₀.get? a = none) (sb : Heap.SameBut a h h') : KA h₀ h' := fun b o q =>
  (sb.2 b (fun r => by rw [r, hn] at q; cases q)).trans (k b o q)
theorem ys_tail {st : SortSt} (K : KA h₀ s.heap) (nk : s.heap.get? kS = some (seqObj "list" keys e)) (na : s.heap.get? a = some (seqObj "list" #[] e1)) (hka : kS ≠ a) (fk : h₀.get? kS = none) (fa : h₀.get? a = none)
    (hk : StrsAre keys.toList (ks.map mkS)) (hv : StrsAre vs (cs.map mkC)) (hlen : ks.length = cs.length) (h64 : cs.length < 64) (hp : (arrOf st).Perm (keys.zip vs.toArray)) (hs : Lex strKind (fun v => cs.idxOf (chrOf v)) (arrOf st) (arrOf st).size) (hfl : failedOf st = none)
    (h : ∀ h' tk out c, KA h₀ h' → h'.get? a = some (seqObj "list" out c) → SortOut cs ks out.toList → P (.done (.ret .none)) { s with heap := h', toks := tk }) :
    wpAny (model prog w) A (ksk_tail a false e1 (.ref kS) st) P E s := by
  have hsz : keys.size = cs.length := by
    have h1 := strs_length hk
    rw [Array.length_toList, List.length_map] at h1
    lia
  have hvl : vs.length = cs.length := by have := strs_length hv; rwa [List.length_map] at this
  have hsz2 : (arrOf st).size = cs.length := by rw [hp.size_eq, Array.size_zip, hsz, List.size_toArray, hvl, Nat.min_self]
  have s1 := Heap.SameBut.update s.heap kS (Obj.mapSeq fun _ => (#[] : Array Value))
  have na1 : (s.heap.update kS (Obj.mapSeq fun _ => (#[] : Array Value))).get? a = some (seqObj "list" #[] e1) := (s1.2 a hka.symm).trans na
  have s2 := Heap.SameBut.update (s.heap.update kS (Obj.mapSeq fun _ => (#[] : Array Value))) a (Obj.mapSeq fun _ => (arrOf st).map (·.2))
  obtain ⟨c2, hc2⟩ : ∃ c2, ((s.heap.update kS (Obj.mapSeq fun _ => (#[] : Array Value))).update a (Obj.mapSeq fun _ => (arrOf st).map (·.2))).get? a = some (seqObj "list" ((arrOf st).map (·.2)) c2) :=
    ⟨_, get?_update_seq na1 fun _ => (arrOf st).map (·.2)⟩
  unfold ksk_tail
  dsimp only
  refine wpAny_bind (listUpdate_at nk rfl ?_ (by rw [hsz, sizeLine_eq]; lia) (Nat.zero_le _))
  refine wpAny_bind (wpAny_letGo ?_)
  refine wpAny_bind (seqEpoch_at na1 rfl ?_)
  simp only [Bool.false_eq_true, if_false]
  refine wpAny_bind (listUpdate_at na1 rfl ?_ (Nat.zero_le _) (by rw [Array.size_map, hsz2, sizeLine_eq]; lia))
  rw [hfl]
  simp only [bne_self_eq_false, Bool.false_eq_true, if_false]
  exact wpAny_pure (h _ _ _ c2 (ka_but (ka_but K fk s1) fa s2) hc2 (sort_out hk hv hp hs))
theorem ys_end (K : KA h₀ s.heap) (nk : s.heap.get? kS = some (seqObj "list" keys e)) (na : s.heap.get? a = some (seqObj "list" #[] e1)) (hka : kS ≠ a) (fk : h₀.get? kS = none) (fa : h₀.get? a = none)
    (hk : StrsAre keys.toList (ks.map mkS)) (hv : StrsAre vs (cs.map mkC)) (hlen : ks.length = cs.length) (h64 : cs.length < 64) (h2 : 2 ≤ cs.length) (hnd : cs.Nodup)
    (h : ∀ h' tk out c, KA h₀ h' → h'.get? a = some (seqObj "list" out c) → SortOut cs ks out.toList → P (.done (.ret .none)) { s with heap := h', toks := tk }) :
    wpAny (model prog w) A (ksk_end a false vs.toArray e1 (.ref kS) keys) P E s := by
  have hsz : keys.size = cs.length := by
    have h1 := strs_length hk
    rw [Array.length_toList, List.length_map] at h1
    lia
  have hvl : vs.length = cs.length := by have := strs_length hv; rwa [List.length_map] at this
  have hzs : (keys.zip vs.toArray).size = cs.length := by rw [Array.size_zip, hsz, List.size_toArray, hvl, Nat.min_self]
  unfold ksk_end
  dsimp only
  simp only [Bool.false_eq_true, if_false]
  have n2 : ¬ vs.toArray.size < 2 := by rw [List.size_toArray, hvl]; lia
  rw [if_neg n2, if_neg n2]
  have hkind : keyKind' keys = pure oneType' := by
    obtain ⟨v₁, v₂, rest, ee⟩ : ∃ v₁ v₂ rest, keys.toList = v₁ :: v₂ :: rest := by
      have hl : 2 ≤ keys.toList.length := by rw [Array.length_toList]; lia
      cases q : keys.toList with
      | nil => rw [q] at hl; simp at hl
      | cons v₁ r =>
        cases r with
        | nil => rw [q] at hl; simp at hl
        | cons v₂ rest => exact ⟨v₁, v₂, rest, rfl⟩
    have ek : keys = (v₁ :: v₂ :: rest).toArray := by rw [← ee, Array.toArray_toList]
    rw [ee] at hk
    rw [ek]
    exact keyKind_strs hk
  rw [hkind]
  refine wpAny_bind (wpAny_pure ?_)
  have h0 : PyProof.Rows.KeysOf strKind (keys.zip vs.toArray) := by
    intro p hp
    rw [ksk_zip] at hp
    obtain ⟨x, y⟩ := p
    obtain ⟨z, t, rfl⟩ := hk.all _ (List.of_mem_zip hp).1
    exact ⟨_, rfl⟩
  have hr : Rest (fun v => cs.idxOf (chrOf v)) (keys.zip vs.toArray).size (keys.zip vs.toArray) 0 := by
    intro i j hij hj _
    have hi : i < (keys.zip vs.toArray).size := Nat.lt_trans hij hj
    have tag : ∀ k (hk : k < (keys.zip vs.toArray).size), cs.idxOf (chrOf (keys.zip vs.toArray)[k].2) = k := fun k hk' => by
      have hkc : k < cs.length := by rwa [hzs] at hk'
      have e1 : (keys.zip vs.toArray)[k].2 = vs[k]'(by rw [hvl]; exact hkc) := by simp
      have e2 : chrOf (vs[k]'(by rw [hvl]; exact hkc)) = cs[k] := by
        have := congrArg (fun l => l[k]?) (map_chr hv)
        simp only [List.getElem?_map] at this
        rw [List.getElem?_eq_getElem (by rw [hvl]; exact hkc), List.getElem?_eq_getElem hkc] at this
        simpa using this
      rw [e1, e2]
      exact hnd.idxOf_getElem k hkc
    rw [tt_at hi, tt_at hj, tag i hi, tag j hj]; exact hij
  refine wpAny_bind (wpAny_mono (wpS_sortS (κ := strKind) (T := fun v => cs.idxOf (chrOf v)) (a₀ := keys.zip vs.toArray) (st := SortSt.mk' oneType' (keys.zip vs.toArray) #[] 7 none)
    (Q := fun _ st' => (arrOf st').Perm (keys.zip vs.toArray) ∧ failedOf st' = none ∧ Lex strKind (fun v => cs.idxOf (chrOf v)) (arrOf st') (keys.zip vs.toArray).size)
    strKind_oneLt h0 ⟨Array.Perm.refl _, rfl, rfl, rfl⟩ hr (by rw [hzs]; exact h2) (by rw [hzs]; exact h64) fun st' a1 a2 a3 => ⟨a1, a2, a3⟩) ?_ fun _ _ e => e)
  rintro ⟨⟨⟩, st'⟩ s' ⟨rfl, hp, hf, hs⟩
  dsimp only
  exact ys_tail K nk na hka fk fa hk hv hlen h64 hp (by rw [hp.size_eq]; exact hs) hf h
/-- a call of the key -/
noncomputable def KeyTurn (prog : Program) (w : World) (A : Around) (s : Shared) (h₀ : Heap) (f : Value) (cs : List Nat) (ks : List (List Nat)) : Prop :=
  ∀ (i : Nat) (c : Nat) (k : List Nat) (t : Tok), cs[i]? = some c → ks[i]? = some k → ∀ (h : Heap) (tk : Nat), KA h₀ h →
    wpAny (model prog w) A (call f [.str (mkC c) t]) (fun v s' => ∃ h' tk' t', s' = { s with heap := h', toks := tk' } ∧ KA h h' ∧ v = .str (mkS k) t') (fun _ _ => False) { s with heap := h, toks := tk }
theorem ys_rest {f : Value} (K : KA h₀ s.heap) (nk : s.heap.get? kS = some (seqObj "list" #[] 0)) (na : s.heap.get? a = some (seqObj "list" #[] e1)) (hka : kS ≠ a) (fk : h₀.get? kS = none) (fa : h₀.get? a = none)
    (hv : StrsAre vs (cs.map mkC)) (hlen : ks.length = cs.length) (h64 : cs.length < 64) (h2 : 2 ≤ cs.length) (hnd : cs.Nodup) (turn : KeyTurn prog w A s h₀ f cs ks)
    (h : ∀ h' tk out c, KA h₀ h' → h'.get? a = some (seqObj "list" out c) → SortOut cs ks out.toList → P (.done (.ret .none)) { s with heap := h', toks := tk }) :
    wpAny (model prog w) A (ksk_rest a f false vs.toArray e1 (.ref kS)) P E s := by
  have hvl : vs.length = cs.length := by have := strs_length hv; rwa [List.length_map] at this
  unfold ksk_rest
  refine wpAny_bind (wpAny_rule ?_)
  first
    | rw [List.forIn_toArray]
    | (rw [← Array.forIn_toList]; simp only [List.toList_toArray])
    | rw [← Array.forIn_toList]
  refine wpAny_bind (ksk_fold (fun i s' => ∃ h' tk kA e, s' = { s with heap := h', toks := tk } ∧ KA h₀ h' ∧ h'.get? kS = some (seqObj "list" kA e) ∧ h'.get? a = some (seqObj "list" #[] e1) ∧ StrsAre kA.toList ((ks.take i).map mkS)) vs 0 s
    ⟨s.heap, s.toks, #[], 0, rfl, K, nk, na, by simpa using StrsAre.nil⟩ ?step ?done)
  case step =>
    rintro j x s' hx ⟨h', tk, kA, e, rfl, K', nk', na', hk⟩
    simp only [Nat.zero_add] at hk ⊢
    have hj : j < vs.length := (List.getElem?_eq_some_iff.mp hx).1
    have hjc : j < cs.length := by lia
    obtain ⟨k, hkj⟩ : ∃ k, ks[j]? = some k := ⟨_, List.getElem?_eq_getElem (by lia)⟩
    obtain ⟨c, t, hxc⟩ := strs_chr hv x (List.mem_of_getElem? hx)
    have hcj : cs[j]? = some c := by
      have := congrArg (fun l => l[j]?) (map_chr hv)
      simp only [List.getElem?_map, hx, Option.map_some] at this
      rw [← this, hxc]; rfl
    subst hxc
    have hz : kA.size ≤ vs.length := by
      have h1 := strs_length hk
      rw [Array.length_toList, List.length_map, List.length_take] at h1
      lia
    refine wpAny_bind (wpAny_attempt (wpAny_mono (turn j c k t hcj hkj h' tk K') (fun v s'' he => ?_) fun _ _ hF => hF.elim))
    obtain ⟨g, tk2, t2, rfl, kg, rfl⟩ := he
    dsimp only
    have nk2 := kg _ _ nk'
    have na2 := kg _ _ na'
    have s1 := Heap.SameBut.update g kS (Obj.mapSeq (·.push (.str (mkS k) t2)))
    obtain ⟨c2, hc2⟩ : ∃ c2, (g.update kS (Obj.mapSeq (·.push (.str (mkS k) t2)))).get? kS = some (seqObj "list" (kA.push (.str (mkS k) t2)) c2) := ⟨_, get?_update_seq nk2 (·.push (.str (mkS k) t2))⟩
    have ek : (ks.take (j + 1)).map mkS = (ks.take j).map mkS ++ [mkS k] := by rw [List.take_add_one, hkj]; simp
    have ea : (kA.push (Value.str (mkS k) t2)).toList = kA.toList ++ [Value.str (mkS k) t2] := by simp
    refine wpAny_bind (listUpdate_at nk2 rfl ?_ (by rw [sizeLine_eq]; lia) (Nat.le_trans (Nat.le_of_eq (Array.size_push ..)) (by rw [sizeLine_eq]; lia)))
    exact wpAny_pure ⟨rfl, _, _, kA.push (.str (mkS k) t2), c2, rfl, ka_but (fun b o q => kg b o (K' b o q)) fk s1, hc2, (s1.2 a hka.symm).trans na2, by rw [ea, ek]; exact strs_snoc hk⟩
  case done =>
    rintro s' ⟨h', tk, kA, e, rfl, K', nk', na', hk⟩
    have hk' : StrsAre kA.toList (ks.map mkS) := by
      have e3 : ks.take (0 + vs.length) = ks := List.take_of_length_le (by lia)
      rw [e3] at hk
      exact hk
    refine wpAny_bind (listItems_at nk' rfl ?_)
    exact ys_end (s := { s with heap := h', toks := tk }) K' nk' na' hka fk fa hk' hv hlen h64 h2 hnd fun h3 tk3 out c q1 q2 q3 => h h3 tk3 out c q1 q2 q3
theorem ys_sort {f : Value} {n : Nat} (K : KA h₀ s.heap) (ho : s.heap.get? a = some (seqObj "list" vs.toArray n)) (fa : h₀.get? a = none)
    (hv : StrsAre vs (cs.map mkC)) (hlen : ks.length = cs.length) (h64 : cs.length < 64) (h2 : 2 ≤ cs.length) (hnd : cs.Nodup) (turn : KeyTurn prog w A s h₀ f cs ks)
    (h : ∀ h' tk out c, KA h₀ h' → h'.get? a = some (seqObj "list" out c) → SortOut cs ks out.toList → P (.done (.ret .none)) { s with heap := h', toks := tk }) :
    wpAny (model prog w) A (ksk_tree a f false) P E s := by
  have hvl : vs.length = cs.length := by have := strs_length hv; rwa [List.length_map] at this
  have ha : a < s.heap.objs.size := Heap.lt_size ho
  have s1 := Heap.SameBut.update s.heap a (Obj.mapSeq fun _ => (#[] : Array Value))
  obtain ⟨e1, ho1⟩ : ∃ e1, (s.heap.update a (Obj.mapSeq fun _ => (#[] : Array Value))).get? a = some (seqObj "list" #[] e1) := ⟨_, get?_update_seq ho fun _ => #[]⟩
  have hkS : ((s.heap.update a (Obj.mapSeq fun _ => (#[] : Array Value))).push (seqObj "tuple" vs.toArray 0)).objs.size = s.heap.objs.size + 1 := by rw [size_push', Heap.size_update]
  have fS : h₀.get? (s.heap.objs.size + 1) = none := by
    cases q : h₀.get? (s.heap.objs.size + 1) with
    | none => rfl
    | some o => exact absurd (Heap.lt_size (K _ _ q)) (Nat.not_lt.mpr (Nat.le_succ _))
  unfold ksk_tree
  refine wpAny_bind (listItems_at ho rfl ?_)
  refine wpAny_bind (listUpdate_at ho rfl ?_ (by rw [List.size_toArray, sizeLine_eq]; lia) (Nat.zero_le _))
  refine wpAny_bind (seqEpoch_at ho1 rfl ?_)
  refine wpAny_bind (wpAny_newTuple ?_ (by show vs.length ≤ _; rw [sizeLine_eq]; lia))
  refine wpAny_bind (wpAny_newList ?_ (Nat.zero_le _))
  refine wpAny_holding ?_
  refine ys_rest (s := { s with heap := ((s.heap.update a (Obj.mapSeq fun _ => (#[] : Array Value))).push (seqObj "tuple" vs.toArray 0)).push (seqObj "list" #[] 0) }) (kS := ((s.heap.update a (Obj.mapSeq fun _ => (#[] : Array Value))).push (seqObj "tuple" vs.toArray 0)).objs.size)
    (fun b o q => Heap.get?_push_of_some _ (Heap.get?_push_of_some _ (ka_but K fa s1 b o q))) (Heap.get?_push_size _ rfl) (Heap.get?_push_of_some _ (Heap.get?_push_of_some _ ho1)) (by rw [hkS]; exact Nat.ne_of_gt (Nat.lt_succ_of_lt ha)) (by rw [hkS]; exact fS) fa hv hlen h64 h2 hnd turn h
theorem ys_sorted {f : Value} {x : Str} {t : Tok} {Q : Value → Shared → Prop} (hh : A.handled = none) (ex : x.cps.toList = cs) (hlen : ks.length = cs.length) (h64 : cs.length < 64) (h2 : 2 ≤ cs.length) (hnd : cs.Nodup)
    (ht : ∀ a, Builtin.«list.sort» ⟨[.ref a], [(Str.ofString "key", f)]⟩ = ksk_tree a f false)
    (turn : KeyTurn prog w A.in1.in1 s s.heap f cs ks)
    (h : ∀ D h' tk out c, KA s.heap h' → s.heap.get? D = none → h'.get? D = some (seqObj "list" out c) → SortOut cs ks out.toList → Q (.ref D) { s with heap := h', toks := tk }) :
    wpAny (model prog w) A (call (.builtin "sorted") [.str x t] [(Str.ofString "key", f)]) Q E s := by
  refine call_function_entry_kw kind_sorted plain_sorted entry_sorted (ksk_s1 _ _) ?_
  unfold Builtin.«sorted»
  refine wpAny_bind (m := checkCount "sorted" 1 1 _) (wpAny_pure ?_)
  have hz : x.cps.size = cs.length := by rw [← ex]; simp
  refine wpAny_bind (wpAny_collect_str (A := A.in1) hh x t (fun s' acc hk hg hd ho hacc => ?_) (by rw [hz, sizeLine_eq]; lia))
  have es : s' = { s with heap := s'.heap, toks := s'.toks } := by
    obtain ⟨_, _, _, _, _⟩ := s'
    obtain ⟨_, _, _, _, _⟩ := s
    simp only at hg hd ho
    subst hg hd ho
    rfl
  rw [es]
  generalize s'.heap = h1 at hk ⊢
  generalize s'.toks = t1
  clear es
  have hv : StrsAre acc.toList (cs.map mkC) := by
    refine strs_of (by rw [Array.length_toList, hacc.1, hz]) fun j v hj => ?_
    obtain ⟨c, u, e1, e2⟩ := hacc.2 j v (by rw [← Array.getElem?_toList]; exact hj)
    exact ⟨c, u, by rw [← ex, Array.getElem?_toList]; exact e1, e2⟩
  refine wpAny_bind (wpAny_newList ?_ (by rw [Array.length_toList, hacc.1, hz, sizeLine_eq]; lia))
  have keep : KA s.heap (h1.push (seqObj "list" acc.toList.toArray 0)) := fun b o q => Heap.get?_push_of_some _ (hk b o q)
  have hoL : (h1.push (seqObj "list" acc.toList.toArray 0)).get? h1.objs.size = some (seqObj "list" acc.toList.toArray 0) := Heap.get?_push_size _ rfl
  have fD : s.heap.get? h1.objs.size = none := by
    cases q : s.heap.get? h1.objs.size with
    | none => rfl
    | some o => exact absurd (Heap.lt_size (hk _ _ q)) (Nat.lt_irrefl _)
  refine wpAny_bind (wpAny_holding (wpAny_call_entry_kw slot_list_sort ⟨_, hoL, rfl⟩ entry_list_sort ?body (ksk_l1 _ _)))
  case body =>
    show wpAny (model prog w) A.in1.in1 (Builtin.«list.sort» ⟨[.ref h1.objs.size], [(Str.ofString "key", f)]⟩) _ _ _
    rw [ht h1.objs.size]
    refine ys_sort (h₀ := s.heap) (s := { s with heap := h1.push (seqObj "list" acc.toList.toArray 0), toks := t1 }) keep hoL fD hv hlen h64 h2 hnd turn fun h' tk out c q1 q2 q3 => ⟨_, rfl, ?_⟩
    exact wpAny_pure ⟨_, rfl, h _ h' tk out c q1 fD q2 q3⟩
end
end Mine
namespace Mine
open PySem PySem.W PyProof.Rows PySem.Calls
theorem bind_one (name qual : Str) (L : Lam) (hx : L.x = ("place" : Str)) (cl : List (Str × Addr)) (pm cdv ct v : Value) : bindArgs (kla_fn name qual L.params L.body L.scope cl pm cdv ct) ⟨[v], []⟩ = pure [(L.x, v)] := by
  obtain ⟨x, ap, b, sc, pos⟩ := L
  obtain rfl : x = _ := hx
  kernel_rfl!
/-- what lamOk tells -/
structure LamIs (k : Kd) (l : Ls) (L : Lam) : Prop where
  kind : L.scope.kind = .function
  gen : L.scope.isGenerator = false
  co : L.scope.isCoroutine = false
  x : L.scope.names.lookup L.x = some .local
  pl : L.x = ("place" : Str)
  free : ∀ p ∈ L.scope.names, p.2 = .free → k p.1 = some .cell ∧ (l.at p.1).isSome = true ∧ p.1 ≠ L.x
  cell : ∀ p ∈ L.scope.names, p.2 ≠ .cell
theorem lamOk_is {k : Kd} {l : Ls} {L : Lam} (h : lamOk k l L = true) : LamIs k l L := by
  unfold lamOk at h
  simp only [Bool.and_eq_true, Bool.not_eq_true', beq_iff_eq] at h
  obtain ⟨⟨⟨⟨⟨h1, h2⟩, h3⟩, h4⟩, h5⟩, h6⟩ := h
  refine ⟨h1, h2, h3, h4, h5, fun p hp e => ?_, fun p hp e => ?_⟩
  · have := List.all_eq_true.mp h6 p hp
    rw [e] at this
    simp only [Bool.and_eq_true, bne_iff_ne, ne_eq, beq_iff_eq] at this
    exact ⟨this.1.1, this.1.2, this.2⟩
  · have := List.all_eq_true.mp h6 p hp
    rw [e] at this; cases this
theorem lookup_mem' {x : Str} {k : NameKind} : ∀ {ns : List (Str × NameKind)}, ns.lookup x = some k → (x, k) ∈ ns
  | [], h => by cases h
  | (y, e) :: r, h => by
    rw [List.lookup_cons] at h
    by_cases hy : (x == y) = true
    · rw [hy] at h
      cases h
      obtain rfl := eq_of_beq hy
      exact .head _
    · rw [show (x == y) = false from by simpa using hy] at h
      exact .tail _ (lookup_mem' h)
section
variable {prog : Program} {w : World} {hb : Heap} {mg mb : Str → Option Value} {g : Cfg} {d : Nat}
variable {n : Nat} {env : Env} {l : Ls} {mu : List Addr} {s : Shared} {A : Around}
/-- the names in a lambda's body -/
theorem fm_lam {L : Lam} {cl : List (Str × Addr)} {f Lc : Addr} {cd : Value} {qual : Str} {u : V} {v : Value} {h₁ h : Heap} (F : Fm w.params mu env h₁ l) (kk : KeepAll h₁ h) (H : LamIs env.kindOf l L)
    (hcl : ∀ p ∈ L.scope.names, p.2 = .free → cl.lookup p.1 = env.cells.lookup p.1) (hns : h.Ns Lc fun x => [(L.x, v)].reverse.lookup x) (ru : Rep w.params mu h u v) :
    Fm w.params mu (envX qual L.scope Lc f cd cl) h ((l.capt (lamK L)).put L.x ⟨u, false⟩) := by
  refine ⟨H.kind, rfl, rfl, fun y t e => ?_⟩
  rw [at_put] at e
  by_cases hy : y = L.x
  · subst hy
    rw [if_pos rfl] at e
    cases e
    exact ⟨by rw [H.pl]; rfl, v, .inl ⟨H.x, _, hns, by simp [List.lookup_cons]⟩, ru⟩
  · rw [if_neg hy] at e
    obtain ⟨e1, e2⟩ := at_capt e
    obtain ⟨n1, wv, r1, r2⟩ := F.read y t e1
    have hfree : (y, NameKind.free) ∈ L.scope.names := by
      rcases e2 with e2 | e2
      · exact absurd rfl (H.cell _ (lookup_mem' e2))
      · exact lookup_mem' e2
    have hk2 : L.scope.names.lookup y = some .free := by
      rcases e2 with e2 | e2
      · exact absurd rfl (H.cell _ (lookup_mem' e2))
      · exact e2
    obtain ⟨hk, _, _⟩ := H.free _ hfree rfl
    refine ⟨n1, wv, .inr ⟨.inr hk2, ?_⟩, r2.all kk⟩
    rcases r1 with ⟨q, _⟩ | ⟨_, c, q1, q2⟩
    · have hk : env.kindOf y = some .cell := hk
      rw [q] at hk; cases hk
    · obtain ⟨o, g, dd⟩ := q2
      exact ⟨c, (hcl _ hfree rfl).trans q1, o, kk _ _ g, dd⟩
/-- the calls of a lambda -/
theorem lam_turn (B : Base prog w hb mg mb g d) (F : Fm w.params mu env s.heap l) (base : KeepAll hb s.heap) (live : Live mu s.heap) {L : Lam} (H : LamIs env.kindOf l L) {cl : List (Str × Addr)} (hcl : ∀ p ∈ L.scope.names, p.2 = .free → cl.lookup p.1 = env.cells.lookup p.1)
    {f : Addr} {name qual : Str} {pm ctv cd : Value} (ho : s.heap.get? f = some { cls := .type "function", data := .func (kla_fn name qual L.params L.body L.scope cl pm cd ctv) }) (hcd : s.heap.CodeRec cd qual) (rm : Rm A 2) {cs : List Nat} {ks : List (List Nat)}
    (hk : ∀ (i : Nat) c k, cs[i]? = some c → ks[i]? = some k → (ev g (lamK L) n ((l.capt (lamK L)).put L.x ⟨.str [c], false⟩) L.body).2 ∧ (ev g (lamK L) n ((l.capt (lamK L)).put L.x ⟨.str [c], false⟩) L.body).1 = .str k) (hd : d = 0) :
    KeyTurn prog w A.in1.in1 s s.heap (.ref f) cs ks := by
  intro i c k t hc hkk h tk K
  obtain ⟨h1, h2⟩ := hk i c k hc hkk
  refine wpAny_call ?_
  refine kla_callFunE (by have := rm.depth; show A.depth < _; lia) (K _ _ ho) rfl H.co H.gen rfl (hcd.keeps K) ?_
  rw [bind_one _ _ _ H.pl]
  refine wpAny_pure ?_
  refine wpAny_newFunctionEnv H.cell (fun x hx => by rw [List.mem_singleton.mp hx]; exact H.x) (fun h₁ hns hsb => ?_) H.kind
  have k1 : KeepAll h h₁ := fun b o e => hsb.extBut b o (Nat.ne_of_lt (Heap.lt_size e)) (Heap.get?_push_of_some _ e)
  refine ⟨(B.lim.keeps (base.trans K)).keeps k1, kla_codeExpr ?_⟩
  have k2 : KeepAll s.heap h₁ := fun b o e => k1 b o (K b o e)
  have X : At w hb d mu (A.in1.in1.deeper (envX qual L.scope h.objs.size f cd cl)) { s with heap := h₁, toks := tk + 1 } (envX qual L.scope h.objs.size f cd cl) ((l.capt (lamK L)).put L.x ⟨.str [c], false⟩) := by
    subst hd
    refine ⟨fm_lam F k2 H hcl hns (by unfold Rep; exact ⟨t, rfl⟩), live.keep k2, base.trans k2, rm.handled, ?_, ?_⟩
    · have := rm.depth; show A.depth + 1 + 0 < _; lia
    · have := rm.units; show A.units + 1 + 1 + 3 + 4 * 0 + 64 < _; lia
  refine ((snd B n).ev X h1).use fun v h3 tk3 k3 r => ?_
  have r : Rep w.params mu h3 (ev g (lamK L) n ((l.capt (lamK L)).put L.x ⟨.str [c], false⟩) L.body).1 v := r
  rw [h2] at r
  unfold Rep at r
  obtain ⟨t', rfl⟩ := r
  exact ⟨h3, tk3, t', rfl, fun b o e => k3 b o (k1 b o e), rfl⟩
end
end Mine
namespace Mine
open PySem PySem.W PyProof.Rows PySem.Calls
/-! the order of a stable sort is the one of putting in one by one -/
section
variable {cs : List Nat}
noncomputable abbrev RO (cs : List Nat) (p q : Nat × List Nat) : Prop := p.2 < q.2 ∨ (p.2 = q.2 ∧ cs.idxOf p.1 < cs.idxOf q.1)
theorem ro_asymm {p q : Nat × List Nat} (h : RO cs p q) (h2 : RO cs q p) : False := by
  rcases h with h | ⟨e, h⟩ <;> rcases h2 with h2 | ⟨e2, h2⟩
  · exact List.lt_asymm h h2
  · rw [e2] at h; exact List.lt_irrefl _ h
  · rw [e] at h2; exact List.lt_irrefl _ h2
  · lia
theorem ro_unique : ∀ {l m : List (Nat × List Nat)}, l.Perm m → l.Pairwise (RO cs) → m.Pairwise (RO cs) → l = m
  | [], m, p, _, _ => by rw [List.nil_perm.mp p]
  | a :: l, [], p, _, _ => by cases List.perm_nil.mp p
  | a :: l, b :: m, p, h1, h2 => by
    rw [List.pairwise_cons] at h1 h2
    have e : a = b := by
      rcases List.mem_cons.mp (p.mem_iff.mp (.head _)) with e | e
      · exact e
      · rcases List.mem_cons.mp (p.mem_iff.mpr (.head _)) with e2 | e2
        · exact e2.symm
        · exact (ro_asymm (h1.1 _ e2) (h2.1 _ e)).elim
    subst e
    rw [ro_unique (List.Perm.cons_inv p) h1.2 h2.2]
theorem ins_perm (p : Nat × List Nat) : ∀ (l : List (Nat × List Nat)), (insS p l).Perm (p :: l)
  | [] => .refl _
  | q :: r => by
    unfold insS
    split
    · exact .refl _
    · exact ((ins_perm p r).cons q).trans (List.Perm.swap _ _ _)
theorem ins_pw {p : Nat × List Nat} : ∀ {l : List (Nat × List Nat)}, l.Pairwise (RO cs) → (∀ q ∈ l, cs.idxOf q.1 < cs.idxOf p.1) → (insS p l).Pairwise (RO cs)
  | [], _, _ => List.pairwise_singleton _ _
  | q :: r, h, hi => by
    have h' := List.pairwise_cons.mp h
    unfold insS
    split
    · rename_i hlt
      refine List.pairwise_cons.mpr ⟨fun z hz => ?_, h⟩
      rcases List.mem_cons.mp hz with rfl | hz
      · exact .inl hlt
      · rcases h'.1 z hz with q1 | ⟨q1, _⟩
        · exact .inl (List.lt_trans hlt q1)
        · exact .inl (q1 ▸ hlt)
    · rename_i hlt
      refine List.pairwise_cons.mpr ⟨fun z hz => ?_, ins_pw h'.2 fun z hz => hi z (.tail _ hz)⟩
      rcases List.mem_cons.mp ((ins_perm p r).mem_iff.mp hz) with rfl | hz
      · by_cases h2 : q.2 < z.2
        · exact .inl h2
        · exact .inr ⟨List.le_antisymm (List.not_lt.mp hlt) (List.not_lt.mp h2), hi q (.head _)⟩
      · exact h'.1 z hz
theorem fold_ins (g : Nat → List Nat) (hnd : cs.Nodup) : ∀ (rest done : List Nat) (acc : List (Nat × List Nat)), cs = done ++ rest → acc.Perm (done.map fun c => (c, g c)) → acc.Pairwise (RO cs) →
    ((rest.map fun c => (c, g c)).foldl (fun acc p => insS p acc) acc).Perm (cs.map fun c => (c, g c)) ∧ ((rest.map fun c => (c, g c)).foldl (fun acc p => insS p acc) acc).Pairwise (RO cs)
  | [], done, acc, e, hp, hw => by
    rw [List.append_nil] at e; subst e
    exact ⟨hp, hw⟩
  | c :: rest, done, acc, e, hp, hw => by
    rw [List.map_cons, List.foldl_cons]
    refine fold_ins g hnd rest (done ++ [c]) _ (by rw [e]; simp) ?_ (ins_pw hw fun q hq => ?_)
    · refine (ins_perm _ _).trans ((List.Perm.cons _ hp).trans ?_)
      rw [List.map_append]
      exact List.perm_append_comm (l₁ := [(c, g c)])
    · obtain ⟨x, hx, rfl⟩ := List.mem_map.mp (hp.mem_iff.mp hq)
      have hc : c ∉ done := fun q => by
        rw [e] at hnd
        exact (List.nodup_append.mp hnd).2.2 c q c (.head _) rfl
      rw [e]
      show List.idxOf x (done ++ c :: rest) < List.idxOf c (done ++ c :: rest)
      rw [List.idxOf_append, List.idxOf_append, if_pos hx, if_neg hc, List.idxOf_cons_self]
      have := List.idxOf_lt_length_of_mem hx
      lia
theorem sort_is (g : Nat → List Nat) (hnd : cs.Nodup) {out : List Value} (h : SortOut cs (cs.map g) out) : StrsAre out ((sortS (cs.map fun c => (c, g c))).map mkC) := by
  obtain ⟨ps, hp, hw, hs⟩ := h
  have ez : cs.zip (cs.map g) = cs.map fun c => (c, g c) := by
    clear hnd hp hw
    induction cs with
    | nil => rfl
    | cons c r ih => rw [List.map_cons, List.zip_cons_cons, ih, List.map_cons]
  rw [ez] at hp
  obtain ⟨f1, f2⟩ := fold_ins g hnd cs [] [] rfl (.refl _) .nil
  have e := ro_unique (hp.trans f1.symm) hw f2
  unfold sortS
  rw [List.map_map, ← e]
  exact hs
end
end Mine
namespace Mine
open PySem PySem.W PyProof.Rows PySem.Calls
/-! what makes a function, or calls one that does -/
/-- what is asked of them -/
structure Dirt (prog : Program) (w : World) (hb : Heap) (mg : Str → Option Value) (g : Cfg) (d : Nat) (TI : Option TabI) : Prop where
  call : ∀ f args, (g.dn f args).2 → ∃ a o fd, mg f = some (.ref a) ∧ hb.get? a = some o ∧ o.data = .func fd ∧
    ∀ (A : Around) (s : Shared) (mm mc : List Addr) (ws : List Value), KeepAll hb s.heap → Rm A d → Live (mm ++ mc) s.heap → TabInv TI mm mc s.heap → (∀ a ∈ mm, a ∉ mc) → Reps w.params (mm ++ mc) s.heap args ws →
      wpAny (model prog w) A (call (.ref a) ws) (fun v s' => ∃ h' tk, s' = { s with heap := h', toks := tk } ∧ KeepF TI [] s.heap h' ∧ TabInv TI mm mc h' ∧ Rep w.params (mm ++ mc) h' (g.dn f args).1 v) (fun _ _ => False) s
  sort : ∀ p, g.dt p → 2 ≤ d ∧ ∃ t c, TI = some t ∧ t.pos = p ∧ t.code = some c ∧ CodeHd hb c t.P ∧ hb.BuiltinsAt mg t.P ∧ mainGlobals ≠ t.P
section
variable {prog : Program} {w : World} {hb : Heap} {mg mb : Str → Option Value} {g : Cfg} {d : Nat}
variable {n : Nat} {env : Env} {l : Ls} {mc mm : List Addr} {s : Shared} {A : Around} {h₀ : Heap} {TI : Option TabI}
/-- behind a change of the table -/
theorem Stt.dirty {h h' : Heap} (S : Stt w.params TI h₀ mc mm env h l) (k : KeepF TI [] h h') (tb : TabInv TI mm mc h') : Stt w.params TI h₀ mc mm env h' l := by
  have hP : ∀ b, b ∈ tabA TI → b ∈ mc ∧ h₀.get? b = none ∧ ∃ o, h'.get? b = some o := fun b hb' => by
    obtain ⟨t, e, rfl⟩ := mem_tabA hb'
    obtain ⟨q, ps, hp, _⟩ := tb t e
    exact ⟨q, S.hid t e, _, hp⟩
  have km : ∀ b o, b ∈ mm → h.get? b = some o → h'.get? b = some o := fun b o hb' e => k b o (fun q => S.apart b hb' (hP b q).1) (by simp) e
  have kc : ∀ b o, b ∉ mm ++ mc → h.get? b = some o → h'.get? b = some o := fun b o hb' e => k b o (fun q => hb' (List.mem_append_right _ (hP b q).1)) (by simp) e
  have rdk : ∀ y wv', Rd env h y wv' → Rd env h' y wv' := fun y wv' rd => by
    rcases rd with ⟨e, m', hm2, hv⟩ | ⟨e, c, lc, o, gg, dd⟩
    · exact .inl ⟨e, m', hm2.at' fun o => km _ o S.hloc, hv⟩
    · refine .inr ⟨e, c, lc, o, km c o ?_ gg, dd⟩
      rcases e with e | e
      · obtain ⟨c', lc', hc, _⟩ := S.cell y e
        rw [lc] at lc'; cases lc'; exact hc
      · exact absurd e (S.free y)
  exact { S with
    tab := tb
    keep := fun b o e => k b o (fun q => by rw [(hP b q).2.1] at e; cases e) (by simp) (S.keep b o e)
    livem := fun a ha => by obtain ⟨o, e⟩ := S.livem a ha; exact ⟨o, km a o ha e⟩
    livec := fun a ha => by
      by_cases q : a ∈ tabA TI
      · exact (hP a q).2.2
      · obtain ⟨o, e⟩ := S.livec a ha; exact ⟨o, k a o q (by simp) e⟩
    ns := by obtain ⟨m, hm⟩ := S.ns; exact ⟨m, hm.at' fun o => km _ o S.hloc⟩
    cell := fun y hy => by obtain ⟨c, e, hc, hne, v0, o, gg, dd⟩ := S.cell y hy; exact ⟨c, e, hc, hne, v0, o, km c o hc gg, dd⟩
    plain := fun y u e => by obtain ⟨h1, wv', rd, rp⟩ := S.plain y u e; exact ⟨h1, wv', rdk y wv' rd, rp.keep kc⟩
    own := fun y u e => by obtain ⟨h1, h2, a, rd, ha, hne', hc', ow⟩ := S.own y u e; exact ⟨h1, h2, a, rdk y _ rd, ha, hne', hc', ow.map (fun o => km a o ha) fun _ _ r => r.keep kc⟩ }
theorem ex_dcall (B : Base prog w hb mg mb g d) (D : Dirt prog w hb mg g d TI) (kb : KeepAll hb h₀) (S : Stt w.params TI h₀ mc mm env s.heap l) (r : Rm A d) {x f : Str} {px fp cp spos : Pos} {args : List Expr}
    (ha : (evs g env.kindOf n l.clean args).2) (hd : (g.dn f (evs g env.kindOf n l.clean args).1).2) (hs : storable env.kindOf x = true) (hk : kindOk env.kindOf f = true) {c : Prop} :
    wpAny (model prog w) A (exec (.Assign [.Name x px] (.Call (.Name f fp) args [] cp) spos) env) (FinS w TI h₀ mc mm env (.next, l.put x ⟨(g.dn f (evs g env.kindOf n l.clean args).1).1, false⟩, c) s) (fun _ _ => False) s := by
  obtain ⟨a, o, fd, e, ho, hfd, hc⟩ := D.call f _ hd
  have X := S.cleanAt kb r
  refine wpAny_Assign_Name ?_ rfl
  rw [arm_eval_Call_Name']
  refine wpAny_bind ((tr_global (Q := fun v h' => v = .ref a ∧ h' = s.heap) B X.base X.fm hk e ⟨rfl, rfl⟩).use fun u h1 t1 k1 q => ?_)
  obtain ⟨rfl, rfl⟩ := q
  have X1 := X.go (tk := t1) k1
  have hs' := (snd B n).evs (pos := cp) X1 ha
  refine callWith_function (evalArgs_of hs'.1 (hs'.2.use fun vs h2 t2 k2 rs => ⟨⟨k2 _ _ (X.base _ _ ho), hfd⟩, ?_⟩))
  have S2 := S.go (k1.trans k2)
  refine wpAny_mono (hc A { s with heap := h2, toks := t2 } mm mc vs (X.base.trans k2) r (fun b hb' => (List.mem_append.mp hb').elim (S2.livem b) (S2.livec b)) S2.tab S2.apart rs) (fun v s' q => ?_) fun _ _ f => f.elim
  obtain ⟨h3, t3, rfl, k3, tb, rv⟩ := q
  refine fin_store (S2.dirty k3 tb) (fun b o ht hb' e => k3 b o ht (by simp) (k2 b o (k1 b o e))) hs rv
/-- what a lambda leaves -/
inductive LamMade (TI : Option TabI) (mm mc : List Addr) (s : Shared) (env : Env) (L : Lam) : Value → Shared → Prop where
  | mk {f : Addr} {h' : Heap} {tk : Nat} {cl : List (Str × Addr)} {pm ctv cd : Value} {qual : Str} (kf : KeepF TI [] s.heap h') (tb : TabInv TI mm mc h')
      (hf : h'.get? f = some { cls := .type "function", data := .func (kla_fn "<lambda>" qual L.params L.body L.scope cl pm cd ctv) }) (hcr : h'.CodeRec cd qual) (hcl : ∀ p ∈ L.scope.names, p.2 = .free → cl.lookup p.1 = env.cells.lookup p.1) :
      LamMade TI mm mc s env L (.ref f) { s with heap := h', toks := tk }
/-- a lambda is made -/
theorem mk_lam (B : Base prog w hb mg mb g d) (D : Dirt prog w hb mg g d TI) (kb : KeepAll hb h₀) (S : Stt w.params TI h₀ mc mm env s.heap l) {L : Lam} {lc : Ls} (hdt : g.dt L.pos) (H : LamIs env.kindOf lc L) :
    wpAny (model prog w) A (eval (.Lambda L.params L.body L.scope L.pos) env) (LamMade TI mm mc s env L) (fun _ _ => False) s := by
  obtain ⟨_, t, c, e1, e2, e3, hC, hB, hgP⟩ := D.sort _ hdt
  obtain ⟨c1, c2⟩ := S.code t c e1 e3
  obtain ⟨tm, ps, hp, ht, hcase⟩ := S.tab t e1
  have base : KeepAll hb s.heap := kb.trans S.keep
  obtain ⟨cl, hcl, hcl2⟩ := closure_ok (scope := L.scope) (env := env) fun p hp e => by
    obtain ⟨c, lc, _⟩ := S.cell p.1 (H.free p hp e).1
    exact ⟨c, lc⟩
  have hBs : s.heap.BuiltinsAt mg t.P := by
    obtain ⟨bm, ob, b1, b2, b3, b4, b5, b6⟩ := hB
    exact ⟨bm, ob, b1, b2, b3, b4, base _ _ b5, b6⟩
  have gns := B.gns.keeps base
  have hCs := hC.keeps base
  have kf : ∀ {h' : Heap}, (∀ b o, b ≠ t.P → s.heap.get? b = some o → h'.get? b = some o) → KeepF TI [] s.heap h' := fun k b o hb' _ e => k b o (fun q => hb' (by rw [e1, q]; exact .head _)) e
  refine kla_eval rfl ?_
  rcases hcase with hn | ⟨c', hf, hcr, hcm⟩
  · refine kla_makeFunction (mg := mg) (c := c) (P := t.P) (ps := ps) hcl S.glob gns c1 hCs hp ht (by rw [← e2]; exact hn) hgP hBs fun c' ctv h' tk hx hge hlt hrec htb => ?_
    refine .mk (kf fun b o hne e => Heap.get?_push_of_some _ (hx b o hne e)) ?_ (Heap.get?_push_size _ rfl) ?_ hcl2
    · intro t' e'
      rw [e1] at e'; cases e'
      refine ⟨tm, _, Heap.get?_push_of_some _ htb, ?_, .inr ⟨c', ?_, ?_, fun q => ?_⟩⟩
      · rw [Array.toList_append]; exact TriplesOk_snoc _ _ _ _ ht
      · rw [Array.toList_append, ← e2]; exact codeAmong_snoc _ ht hn
      · rw [c2] at hrec
        obtain ⟨c0, o0, vs0, t0, q1, q2, q3, q4⟩ := hrec
        exact ⟨c0, o0, vs0, t0, q1, Heap.get?_push_of_some _ q2, q3, q4⟩
      · have lv : ∃ o, s.heap.get? c' = some o := (List.mem_append.mp q).elim (S.livem c') (S.livec c')
        obtain ⟨o, eo⟩ := lv
        exact absurd (Heap.lt_size eo) (Nat.not_lt.mpr hge)
    · obtain ⟨c0, o0, vs0, t0, q1, q2, q3, q4⟩ := hrec
      exact ⟨c0, o0, vs0, t0, q1, Heap.get?_push_of_some _ q2, q3, q4⟩
  · refine kla_makeFunctionHit (mg := mg) (c := c) (P := t.P) (ps := ps) hcl S.glob gns c1 hCs hp ht (by rw [← e2]; exact hf) hBs fun ctv h' tk hk hsz => ?_
    have kk : ∀ ob, KeepAll s.heap (h'.push ob) := fun _ b o e => Heap.get?_push_of_some _ (hk b o e)
    refine .mk (kf fun b o _ e => kk _ b o e) (S.tab.keep S.apart fun b o _ e => kk _ b o e) (Heap.get?_push_size _ rfl) ?_ hcl2
    rw [c2]
    obtain ⟨c0, o0, vs0, t0, q1, q2, q3, q4⟩ := hcr
    exact ⟨c0, o0, vs0, t0, q1, kk _ _ _ q2, q3, q4⟩
theorem boot_sorted : bootBuiltins ("sorted" : Str) = some (.builtin "sorted") := by decide +kernel
theorem strs_rep {P : Params} {mu : List Addr} {h : Heap} : ∀ {ws : List Value} {cs : List Nat}, StrsAre ws (cs.map mkC) → Reps P mu h (cs.map fun c => V.str [c]) ws
  | [], [], _ => by unfold Reps; rfl
  | [], _ :: _, h => by cases h
  | _ :: _, [], h => by cases h
  | _ :: ws, c :: cs, .cons _ t h => by
    show Reps _ _ _ (V.str [c] :: cs.map fun c => V.str [c]) _
    unfold Reps
    exact ⟨_, ws, rfl, by unfold Rep; exact ⟨t, rfl⟩, strs_rep h⟩
theorem strsV_chars : ∀ (cs : List Nat), strsV (cs.map fun c => V.str [c]) = (cs.map fun c => [c], True)
  | [] => rfl
  | c :: cs => by
    show ([c] :: (strsV (cs.map fun c => V.str [c])).1, (strsV (cs.map fun c => V.str [c])).2) = _
    rw [strsV_chars cs]; rfl
theorem flat_chars : ∀ (cs : List Nat), (cs.map fun c => [c]).flatten = cs
  | [] => rfl
  | c :: cs => by rw [List.map_cons, List.flatten_cons, flat_chars cs]; rfl
theorem sortS_length (l : List (Nat × List Nat)) : (sortS l).length = l.length := by
  have : ∀ (l acc : List (Nat × List Nat)), (l.foldl (fun acc p => insS p acc) acc).length = acc.length + l.length := by
    intro l
    induction l with
    | nil => intro acc; rfl
    | cons p l ih => intro acc; rw [List.foldl_cons, ih, (ins_perm p acc).length_eq, List.length_cons, List.length_cons]; lia
  unfold sortS
  rw [List.length_map, this]; simp
theorem strV_form {v : V} (h : (strV v).2) : v = .str (strV v).1 := by
  cases v <;> first | exact h.elim | rfl
/-- ''.join(sorted(text, key=lambda)) -/
theorem ex_dsort (B : Base prog w hb mg mb g d) (B0 : Base prog w hb mg mb g.low 0) (D : Dirt prog w hb mg g d TI) (kb : KeepAll hb h₀) (S : Stt w.params TI h₀ mc mm env s.heap l) (r : Rm A d) {x : Str} {px spos : Pos} {tx : Str} {L : Lam}
    {i1 i2 : Nat} {c1 ap p fp c2 kp q : Pos} (hline : (ap.endLine == p.line) = true) (hdt : g.dt L.pos) (hv : (sortW env.kindOf l.clean tx L fun l' => ev g.low (lamK L) n l' L.body).2) (hs : storable env.kindOf x = true) {c : Prop} :
    wpAny (model prog w) A (exec (.Assign [.Name x px] (.Call (.Attribute (.Constant (.str ("" : Str)) i1 c1) ("join" : Str) ap) [.Call (.Name ("sorted" : Str) fp) [.Constant (.str tx) i2 c2] [⟨some ("key" : Str), .Lambda L.params L.body L.scope L.pos, kp⟩] q] [] p) spos) env)
      (FinS w TI h₀ mc mm env (.next, l.put x ⟨(sortW env.kindOf l.clean tx L fun l' => ev g.low (lamK L) n l' L.body).1, false⟩, c) s) (fun _ _ => False) s := by
  obtain ⟨hkey, hnd, h2, h64, hlam, hat, hki⟩ := hv
  have H := lamOk_is hlam
  obtain ⟨hd2, _⟩ := D.sort _ hdt
  have X := S.cleanAt kb r
  let key : Nat → List Nat := fun c => (strV (ev g.low (lamK L) n ((l.clean.capt (lamK L)).put L.x ⟨.str [c], false⟩) L.body).1).1
  show wpAny _ A _ (FinS w TI h₀ mc mm env (.next, l.put x ⟨.str (sortS (tx.cps.toList.map fun c => (c, key c))), false⟩, c) s) _ s
  have ec : constV (.str ("" : Str)) = (.str [], True) := rfl
  refine wpAny_Assign_Name (wpAny_Call_method_lateS rfl (by rfl) hline (((snd B 1).ev (e := .Constant (.str ("" : Str)) i1 c1) X (by rw [ev_const, ec]; trivial)).use fun ov h1 t1 k1 ro => ?_)) rfl
  rw [ev_const, ec] at ro
  unfold Rep at ro
  obtain ⟨to, rfl⟩ := ro
  refine ⟨"str", "str.join", F.plainAttrs_str, F.slot_str_join, F.type_str_join, typeIs_str _ _ _, (fun a e => by cases e), ?_⟩
  refine Calls.callWith_builtin rfl (evalArgs_of (fun a ha => by rcases List.mem_singleton.mp ha with rfl; rfl) ?_)
  refine spliced_cons ?_
  have X1 := X.go (tk := t1) k1
  refine wpAny_Call_Name_kw ((tr_builtin (Q := fun v h' => v = .builtin "sorted" ∧ h' = h1) B X1.base X1.fm hki (B.nob _ (.inr (.inr (.inr rfl)))) (by decide) boot_sorted ⟨rfl, rfl⟩).use fun u h2' t2 k2 q2 => ?_)
  obtain ⟨rfl, rfl⟩ := q2
  have X2 := X1.go (tk := t2) k2
  refine callWith_kw ?_
  refine spliced_cons (((snd B 1).ev (e := .Constant (.str tx) i2 c2) X2 (by rw [ev_const]; trivial)).use fun wt h3 t3 k3 rt => ?_)
  have ec2 : constV (.str tx) = (.str tx.cps.toList, True) := rfl
  rw [ev_const, ec2] at rt
  unfold Rep at rt
  obtain ⟨tt, rfl⟩ := rt
  refine spliced_nil ?_
  refine kws_cons ?_
  have S3 := (S.go k1).go (s := { s with heap := h2', toks := t2 }) k3
  refine wpAny_mono (mk_lam (s := { s with heap := h3, toks := t3 }) B D kb S3 hdt H) (fun v s' qq => ?_) fun _ _ f => f.elim
  obtain @⟨f, h4, t4, cl, pm, ctv, cd, qual, k4, tb, hf, hcr, hcl⟩ := qq
  have S4 := S3.dirty k4 tb
  have X4 := S4.cleanAt (s := { s with heap := h4, toks := t4 }) kb r
  refine kws_nil ?_
  show wpAny _ A (call (.builtin "sorted") [.str ⟨tx.cps.toList.toArray⟩ tt] [(Str.ofString "key", .ref f)]) _ _ _
  have rm2 : Rm A 2 := ⟨r.handled, by have := r.depth; lia, by have := r.units; lia⟩
  have turn := lam_turn (n := n) (s := { s with heap := h4, toks := t4 }) B0 X4.fm X4.base X4.live H hcl hf hcr rm2 (cs := tx.cps.toList) (ks := tx.cps.toList.map key) (fun i c k hc hk => by
    obtain ⟨q1, q2⟩ := hkey c (List.mem_of_getElem? hc)
    rw [List.getElem?_map, hc] at hk
    have hk := Option.some.inj hk
    subst hk
    exact ⟨q1, strV_form q2⟩) rfl
  refine ys_sorted r.handled (by simp) (List.length_map _) h64 h2 hnd (fun a => ksk_t1 f a) turn fun D h5 t5 out c k5 fD gD so => ?_
  refine spliced_nil ?_
  have so := sort_is key hnd so
  show wpAny _ A (call (.builtin "str.join") [.str ⟨([] : List Nat).toArray⟩ to, .ref D]) _ _ _
  have ev := strsV_chars (sortS (tx.cps.toList.map fun c => (c, key c)))
  have lenS : (sortS (tx.cps.toList.map fun c => (c, key c))).length = tx.cps.toList.length := by rw [sortS_length, List.length_map]
  have rD : Rep w.params (mm ++ mc) h5 (.list ((sortS (tx.cps.toList.map fun c => (c, key c))).map fun c => V.str [c])) (.ref D) := by
    unfold Rep
    refine ⟨D, out.toList, rfl, fun q => ?_, ⟨_, gD, rfl, c, by simp⟩, strs_rep so⟩
    obtain ⟨o, e⟩ := X4.live D q
    rw [fD] at e; cases e
  have jo := join_ok (prog := prog) (A := A) (s := { s with heap := h5, toks := t5 }) (t := to) (xs := (sortS (tx.cps.toList.map fun c => (c, key c))).map fun c => V.str [c]) (by rw [ev]; trivial) (by rw [ev, flat_chars, lenS]; unfold lenLid; lia) rD
  rw [ev, flat_chars] at jo
  refine jo.use fun v h6 t6 k6 rv => ?_
  have S6 := (S4.go k5).go (s := { s with heap := h5, toks := t5 }) k6
  exact fin_store S6 (fun b o ht hb' e => k6 b o (k5 b o (k4 b o ht (by simp) (k3 b o (k2 b o (k1 b o e)))))) hs rv
theorem ex_dirty (B : Base prog w hb mg mb g d) (B0 : Base prog w hb mg mb g.low 0) (D : Dirt prog w hb mg g d TI) (kb : KeepAll hb h₀) (S : Stt w.params TI h₀ mc mm env s.heap l) (r : Rm A d) {x : Str} {px spos : Pos} {e : Expr} {dv : Dv} (hd : dvE e = some dv)
    (h : (ex g env.kindOf (n + 1) l (.Assign [.Name x px] e spos)).2.2) :
    wpAny (model prog w) A (exec (.Assign [.Name x px] e spos) env) (FinS w TI h₀ mc mm env (ex g env.kindOf (n + 1) l (.Assign [.Name x px] e spos)) s) (fun _ _ => False) s := by
  rw [ex_asgD hd] at h ⊢
  cases dv with
  | call f args =>
    obtain ⟨fp, cp, rfl⟩ := callV_form (dvE_call hd)
    obtain ⟨h1, h2, _, h4, _, h6⟩ := h
    exact ex_dcall B D kb S r h1 h2 h4 h6
  | sort tx L =>
    obtain ⟨⟨i1, c1, ap, p, fp, i2, c2, kp, q, rfl, hl⟩, h1, h2, h3⟩ := h
    exact ex_dsort B B0 D kb S r hl h1 h2 h3
end
end Mine
namespace Mine
open PySem PySem.W PyProof.Rows PySem.Calls
section
variable {prog : Program} {w : World} {hb : Heap} {mg mb : Str → Option Value} {g : Cfg} {d : Nat}
variable {n : Nat} {env : Env} {l : Ls} {mc mm : List Addr} {s : Shared} {A : Around} {h₀ : Heap} {TI : Option TabI}
/-- a statement, of what the evaluator tells -/
noncomputable def StG (prog : Program) (w : World) (A : Around) (TI : Option TabI) (h₀ : Heap) (mc mm : List Addr) (s : Shared) (env : Env) (st : Stmt) (q : Fl × Ls × Prop) : Prop :=
  q.2.2 → wpAny (model prog w) A (exec st env) (FinS w TI h₀ mc mm env q s) (fun _ _ => False) s
theorem StG.no {st : Stmt} {f : Fl} {l' : Ls} : StG prog w A TI h₀ mc mm s env st (f, l', False) := fun h => h.elim
theorem ex_ok (B : Base prog w hb mg mb g d) (B0 : Base prog w hb mg mb g.low 0) (D : Dirt prog w hb mg g d TI) (X : Sx prog w hb g d TI n) (kb : KeepAll hb h₀) (S : Stt w.params TI h₀ mc mm env s.heap l) (r : Rm A d) (st : Stmt) :
    StG prog w A TI h₀ mc mm s env st (ex g env.kindOf (n + 1) l st) := by
  cases st with
  | If t a b p => exact fun h => ex_if B X kb S r h
  | While t a o p => cases o with
    | nil => exact fun h => ex_while B X kb S r h
    | cons _ _ => exact .no
  | For t it a o p => cases o with
    | nil =>
      rw [ex_forT]
      have ht := nmE_is t
      revert ht
      cases nmE t with
      | none => exact fun _ => .no
      | some x =>
        rintro ⟨px, rfl⟩
        exact fun h => ex_for B X kb S r h
    | cons _ _ => exact .no
  | Return e p => cases e with
    | none => exact .no
    | some e => exact fun h => ex_return B kb S r h
  | AugAssign t op e p =>
    rw [ex_augT]
    have ht := nmE_is t
    revert ht
    cases nmE t with
    | none => exact fun _ => .no
    | some x =>
      rintro ⟨xp, rfl⟩ ⟨h1, h2, h3, h4, h5⟩
      obtain ⟨v, hv⟩ := Option.isSome_iff_exists.mp h1
      exact ex_aug B kb S r (by rw [ev_nameL hv]; trivial) h2 h4 h3 h1 h5
  | Assign ts e p => cases ts with
    | nil => exact .no
    | cons t rs => cases rs with
      | nil =>
        rw [ex_asg1]
        have ht := tgV_form t
        revert ht
        cases tgV t with
        | bad => exact fun _ => .no
        | name x =>
          rintro ⟨px, rfl⟩
          show StG prog w A TI h₀ mc mm s env _ (ex g env.kindOf (n + 1) l (.Assign [.Name x px] e p))
          cases hd : dvE e with
          | some dv => exact fun h => ex_dirty B B0 D kb S r hd h
          | none =>
            rw [ex_asg hd]
            by_cases hn : isNew e = true
            · rw [if_pos hn]
              exact fun h => ex_new B kb S r h.2.1 h.1 h.2.2.1 h.2.2.2.1 h.2.2.2.2
            · rw [if_neg hn]
              exact fun h => ex_assign B kb S r h.1 h.2
        | pair x y =>
          rintro ⟨px, py, j, tp, rfl⟩ ⟨h1, e1, h2, h3, h4, h5, h6, h7⟩
          exact ex_tup B kb S r h1 e1 h2 h3 h4 h5 h6 h7
        | sub x i =>
          rintro ⟨xp, ip, rfl⟩ ⟨h1, h2, h⟩
          rcases h with ⟨xs, j, hl, hj, h3, h4, h5, h6⟩ | ⟨kv, y, j, hl, hj, hv, h3⟩
          · have e1 : setV (ownV (l.loc x)) (ev g env.kindOf n l e).1 (ev g env.kindOf n l i).1 = .list (xs.set j.toNat (ev g env.kindOf n l e).1) := by rw [hl, hj]; rfl
            show wpAny _ _ _ (FinS _ _ _ _ _ _ (.next, l.put x ⟨setV (ownV (l.loc x)) (ev g env.kindOf n l e).1 (ev g env.kindOf n l i).1, true⟩, _) _) _ _
            rw [e1]
            exact ex_sub B kb S r h1 h2 hl hj h3 h4 h5 h6 (swaps_sub _ _ _ _ _ _)
          · have e1 : setV (ownV (l.loc x)) (ev g env.kindOf n l e).1 (ev g env.kindOf n l i).1 = .dict (putD kv y j) := by rw [hl, hj, hv]; rfl
            show wpAny _ _ _ (FinS _ _ _ _ _ _ (.next, l.put x ⟨setV (ownV (l.loc x)) (ev g env.kindOf n l e).1 (ev g env.kindOf n l i).1, true⟩, _) _) _ _
            rw [e1]
            exact ex_put B kb S r h1 h2 hl hj hv h3 (swaps_sub _ _ _ _ _ _)
      | cons t2 rs => cases rs with
        | cons _ _ => exact .no
        | nil =>
          rw [ex_asgT]
          have ht := nmE_is t
          have ht2 := nmE_is t2
          revert ht ht2
          cases nmE t with
          | none => exact fun _ _ => .no
          | some x => cases nmE t2 with
            | none => exact fun _ _ => .no
            | some y =>
              rintro ⟨xp, rfl⟩ ⟨yp, rfl⟩
              exact fun h => ex_two B kb S r h.1 h.2.1 h.2.2.1 h.2.2.2
  | _ => exact .no
theorem sx_zero : Sx prog w hb g d TI 0 := ⟨fun _ _ _ h => h.elim, fun _ _ _ h => h.elim⟩
theorem sx (B : Base prog w hb mg mb g d) (B0 : Base prog w hb mg mb g.low 0) (D : Dirt prog w hb mg g d TI) : ∀ n, Sx prog w hb g d TI n
  | 0 => sx_zero
  | n + 1 => ⟨fun kb S r h => ex_ok B B0 D (sx B B0 D n) kb S r _ h, fun kb S r h => execs_ok B (sx B B0 D n) kb S r h⟩
end
end Mine
namespace Mine
open PySem PySem.W PyProof.Rows PySem.Calls
section
variable {prog : Program} {w : World} {hb : Heap} {mg mb : Str → Option Value} {g : Cfg} {d : Nat}

/-- the locals at the start of a body -/
noncomputable def startLs : List Str → List V → Ls
  | x :: xs, v :: vs => (x, ⟨v, false⟩) :: startLs xs vs
  | _, _ => []
theorem start_plain : ∀ {xs : List Str} {vs : List V} {x : Str} {u : Loc}, (startLs xs vs).loc x = some u → u.own = false
  | [], _, _, _, h => by cases h
  | _ :: _, [], _, _, h => by cases h
  | y :: xs, v :: vs, x, u, h => by
    replace h : (if y = x then some (⟨v, false⟩ : Loc) else (startLs xs vs).loc x) = some u := h
    by_cases e : y = x
    · rw [if_pos e] at h; cases h; rfl
    · rw [if_neg e] at h; exact start_plain h
/-- what a name of the arguments stands for -/
theorem start_rep {P : Params} {mu : List Addr} {h : Heap} : ∀ {xs : List Str} {vs : List V} {ws : List Value} {x : Str} {v : V}, Reps P mu h vs ws → (startLs xs vs).loc x = some ⟨v, false⟩ → x ∈ xs ∧ ∃ wv, (xs.zip ws).lookup x = some wv ∧ Rep P mu h v wv
  | [], _, _, _, _, _, h => by cases h
  | _ :: _, [], _, _, _, _, h => by cases h
  | y :: xs, v :: vs, ws, x, u, r, h => by
    obtain ⟨a, as, rfl, r1, r2⟩ := reps_cons r
    replace h : (if y = x then some (⟨v, false⟩ : Loc) else (startLs xs vs).loc x) = some ⟨u, false⟩ := h
    by_cases e : y = x
    · rw [if_pos e] at h; cases h
      subst e
      exact ⟨.head _, a, by simp [List.zip_cons_cons, List.lookup_cons], r1⟩
    · rw [if_neg e] at h
      obtain ⟨hm, wv, h1, h2⟩ := start_rep r2 h
      refine ⟨.tail _ hm, wv, ?_, h2⟩
      rw [List.zip_cons_cons, List.lookup_cons, show (x == y) = false from by simpa using fun q => e q.symm]
      exact h1
theorem bindL_not {ko : Str → Option NameKind} : ∀ (b : List (Str × Value)) (m : Str → Option Value) {x : Str}, x ∉ b.map (·.1) → bindL ko b m x = m x
  | [], m, x, h => rfl
  | (y, v) :: r, m, x, h => by
    simp only [List.map_cons, List.mem_cons, not_or] at h
    show bindL ko r _ x = _
    rw [bindL_not r _ h.2]
    by_cases hk : ko y = some .local
    · rw [if_pos hk]; exact if_neg h.1
    · rw [if_neg hk]
theorem bindC_not {ko : Str → Option NameKind} : ∀ (b : List (Str × Value)) (m : Str → Option Value) {x : Str}, x ∉ b.map (·.1) → bindC ko b m x = m x
  | [], m, x, h => rfl
  | (y, v) :: r, m, x, h => by
    simp only [List.map_cons, List.mem_cons, not_or] at h
    show bindC ko r _ x = _
    rw [bindC_not r _ h.2]
    by_cases hk : ko y = some .local
    · rw [if_pos hk]
    · rw [if_neg hk]; exact if_neg h.1
theorem bindL_at {ko : Str → Option NameKind} : ∀ (b : List (Str × Value)) (m : Str → Option Value) {x : Str} {v : Value}, (b.map (·.1)).Nodup → b.lookup x = some v → ko x = some .local → bindL ko b m x = some v
  | [], m, x, v, _, h, _ => by cases h
  | (y, u) :: r, m, x, v, hn, h, hk => by
    rw [List.map_cons, List.nodup_cons] at hn
    rw [List.lookup_cons] at h
    show bindL ko r _ x = _
    by_cases e : (x == y) = true
    · rw [e] at h; cases h
      obtain rfl := eq_of_beq e
      rw [bindL_not r _ hn.1, if_pos hk]; exact if_pos rfl
    · rw [show (x == y) = false from by simpa using e] at h
      exact bindL_at r _ hn.2 h hk
theorem bindC_at {ko : Str → Option NameKind} : ∀ (b : List (Str × Value)) (m : Str → Option Value) {x : Str} {v : Value}, (b.map (·.1)).Nodup → b.lookup x = some v → ko x = some .cell → bindC ko b m x = some v
  | [], m, x, v, _, h, _ => by cases h
  | (y, u) :: r, m, x, v, hn, h, hk => by
    rw [List.map_cons, List.nodup_cons] at hn
    rw [List.lookup_cons] at h
    show bindC ko r _ x = _
    by_cases e : (x == y) = true
    · rw [e] at h; cases h
      obtain rfl := eq_of_beq e
      rw [bindC_not r _ hn.1, if_neg (by rw [hk]; intro q; cases q)]; exact if_pos rfl
    · rw [show (x == y) = false from by simpa using e] at h
      exact bindC_at r _ hn.2 h hk
theorem pair_one {x y : Str} {c : Addr} : ∀ {cs : List (Str × Addr)}, cs.Pairwise (fun a b => a.2 ≠ b.2) → (x, c) ∈ cs → (y, c) ∈ cs → x = y
  | [], _, h, _ => by cases h
  | p :: r, hp, h1, h2 => by
    rw [List.pairwise_cons] at hp
    rcases List.mem_cons.mp h1 with h1 | h1 <;> rcases List.mem_cons.mp h2 with h2 | h2
    · rw [← h1] at h2; cases h2; rfl
    · exact absurd (by rw [← h1]) (hp.1 _ h2)
    · exact absurd (by rw [← h2]) (hp.1 _ h1)
    · exact pair_one hp.2 h1 h2
end
end Mine
namespace Mine
open PySem PySem.W PyProof.Rows PySem.Calls
section
variable {prog : Program} {w : World} {hb : Heap} {mg mb : Str → Option Value} {g : Cfg} {d : Nat}
theorem startLs_keys : ∀ {xs : List Str} {vs : List V} {y : Str}, y ∈ (startLs xs vs).map (·.1) → y ∈ xs
  | [], _, _, h => by cases h
  | _ :: _, [], _, h => by cases h
  | x :: xs, v :: vs, y, h => by
    rcases List.mem_cons.mp h with rfl | h
    · exact .head _
    · exact .tail _ (startLs_keys h)
theorem startLs_nodup : ∀ {xs : List Str} {vs : List V}, xs.Nodup → ((startLs xs vs).map (·.1)).Nodup
  | [], _, _ => List.nodup_nil
  | _ :: _, [], _ => List.nodup_nil
  | x :: xs, v :: vs, h => by
    rw [List.nodup_cons] at h
    show (x :: (startLs xs vs).map (·.1)).Nodup
    rw [List.nodup_cons]
    exact ⟨fun q => h.1 (startLs_keys q), startLs_nodup h.2⟩
/-- the state at the start of a body -/
theorem stt_start {TI : Option TabI} {h₀ : Heap} {s s' : Shared} {env : Env} {mc : List Addr} {params : List Str} {args : List V} {ws : List Value} (k0 : KeepAll h₀ s.heap) (hid : ∀ t, TI = some t → h₀.get? t.P = none) (tab : TabInv TI [] mc s.heap)
    (hcode : ∀ t c, TI = some t → t.code = some c → env.code = .ref c ∧ env.qual ++ "<lambda>" = t.qual) (hk : env.scope.kind = .function) (hg : env.globals = mainGlobals) (hbl : env.builtins = builtinsNs)
    (hnd : params.Nodup) (hlen : ws.length = params.length) (hp : ∀ x ∈ params, (env.kindOf x = some .local ∨ env.kindOf x = some .cell) ∧ nameOk x = true) (hfree : ∀ x, env.kindOf x ≠ some .free)
    (hcn : (env.cells.map (·.1)).Nodup) (hcell : ∀ x, env.kindOf x = some .cell → ∃ c, env.cells.lookup x = some c) (hL : env.locals = s.heap.objs.size)
    (x : InCallC s env.locals (bindL env.kindOf (params.zip ws) fun _ => none) env.cells (bindC env.kindOf (params.zip ws) fun _ => none) s')
    (live : Live mc s.heap) (r : Reps w.params mc s.heap args ws) :
    Stt w.params TI h₀ mc (env.locals :: env.cells.map (·.2)) env s'.heap (startLs params args) := by
  have look : ∀ n c, (n, c) ∈ env.cells → env.cells.lookup n = some c := fun n c h => lookup_of_mem_nodup hcn h
  have keep : KeepAll s.heap s'.heap := x.toInCall.keep
  have old : ∀ a ∈ env.locals :: env.cells.map (·.2), s.heap.get? a = none := fun a ha => by
    rcases List.mem_cons.mp ha with rfl | ha
    · exact fresh_none' (Nat.le_of_eq hL.symm)
    · obtain ⟨p, hp', rfl⟩ := List.mem_map.mp ha
      exact fresh_none' (Nat.le_of_lt (hL ▸ x.above p.1 p.2 hp'))
  have hz : (params.zip ws).map (·.1) = params := by
    rw [List.map_fst_zip]; lia
  have hmc : ∀ a ∈ env.locals :: env.cells.map (·.2), a ∉ mc := fun a ha q => by
    obtain ⟨o, e⟩ := live a q
    rw [old a ha] at e; cases e
  have nes : ∀ a, a ∈ (env.locals :: env.cells.map (·.2)) ++ mc → a ∈ mc ∨ s.heap.get? a = none := fun a ha => by
    rcases List.mem_append.mp ha with h | h
    · exact .inr (old a h)
    · exact .inl h
  have old0 : ∀ a ∈ env.locals :: env.cells.map (·.2), h₀.get? a = none := fun a ha => by
    cases q : h₀.get? a with
    | none => rfl
    | some o => have := k0 _ _ q; rw [old a ha] at this; cases this
  refine ⟨tab.more keep (fun _ h => h) nes, hid, hcode, hk, hg, hbl, fun b o e => keep b o (k0 b o e), old0, ?_, live.keep keep, hmc, .head _, ⟨_, x.toInCall.ns⟩, ?_, ?_, hfree, startLs_nodup hnd, ?_, ?_, ?_⟩
  · intro a ha
    rcases List.mem_cons.mp ha with rfl | ha
    · obtain ⟨o, _, _, e, _⟩ := x.toInCall.ns; exact ⟨o, e⟩
    · obtain ⟨p, hp', rfl⟩ := List.mem_map.mp ha
      obtain ⟨o, e, _⟩ := x.cell p.1 p.2 (look p.1 p.2 hp'); exact ⟨o, e⟩
  · intro y hy
    obtain ⟨c, hc⟩ := hcell y hy
    have hm := mem_lookup hc
    exact ⟨c, hc, .tail _ (List.mem_map.mpr ⟨(y, c), hm, rfl⟩), Ne.symm (Nat.ne_of_lt (x.above y c hm)), _, x.cell y c hc⟩
  · intro y z c _ _ h1 h2
    exact pair_one x.apart (mem_lookup h1) (mem_lookup h2)
  · intro y v e
    obtain ⟨hm, wv, h1, h2⟩ := start_rep r e
    obtain ⟨hkk, hn⟩ := hp y hm
    refine ⟨hn, wv, ?_, (h2.more nes).all keep⟩
    rcases hkk with hkk | hkk
    · exact .inl ⟨hkk, _, x.toInCall.ns, bindL_at _ _ (by rw [hz]; exact hnd) h1 hkk⟩
    · obtain ⟨c, hc⟩ := hcell y hkk
      refine .inr ⟨.inl hkk, c, hc, ?_⟩
      have := x.cell y c hc
      rwa [bindC_at _ _ (by rw [hz]; exact hnd) h1 hkk] at this
  · intro y v e
    have := start_plain e; cases this
  · intro y z u v e1 _
    have := start_plain e1; cases this
end
end Mine
namespace Mine
open PySem PySem.W PyProof.Rows PySem.Calls
section
variable {prog : Program} {w : World} {hb : Heap} {mg mb : Str → Option Value} {g : Cfg} {d : Nat}
/-- what is asked of a function's data, all of it to be computed -/
structure FdOk (fd : FuncData) (params : List Str) (body : List Stmt) : Prop where
  co : fd.scope.isCoroutine = false
  gen : fd.scope.isGenerator = false
  kind : fd.scope.kind = .function
  body : fd.body = .stmts body
  glob : fd.globals = mainGlobals
  blt : fd.builtins = builtinsNs
  clo : fd.closure = []
  nd : params.Nodup
  names : ∀ x ∈ params, (fd.scope.names.lookup x = some .local ∨ fd.scope.names.lookup x = some .cell) ∧ nameOk x = true
  free : ∀ x, fd.scope.names.lookup x ≠ some .free
  cells : ((cellsFrom 0 fd.scope.names []).map (·.1)).Nodup
  bind : ∀ ws : List Value, ws.length = params.length → bindArgs fd ⟨ws, []⟩ = pure (params.zip ws)
theorem call_fn {n : Nat} (X : Sx prog w hb g d none n) {fd : FuncData} {params : List Str} {body : List Stmt} (O : FdOk fd params body) {a : Addr} {o : Obj} (ho : hb.get? a = some o) (hd : o.data = .func fd) (hlim : hb.NoLimit) (hcd : hb.CodeRec fd.code fd.qualname)
    {A : Around} {s : Shared} {mu : List Addr} {args : List V} {ws : List Value} {v : V} (kb : KeepAll hb s.heap) (rm : Rm A (d + 1)) (live : Live mu s.heap) (r : Reps w.params mu s.heap args ws) (hlen : args.length = params.length)
    (hv : (exs g (fun x => fd.scope.names.lookup x) n (startLs params args) body).1 = .ret v) (hc : (exs g (fun x => fd.scope.names.lookup x) n (startLs params args) body).2.2) :
    Tr prog w A (call (.ref a) ws) s (fun u h => Rep w.params mu h v u) := by
  refine Tr.of fun R k => wpAny_call ?_
  refine codeAny_call_function (by have := rm.depth; lia) (kb _ _ ho) hd O.co O.gen O.body (hcd.keeps kb) ?_
  rw [O.bind ws (by rw [r.length, hlen]), O.clo, O.glob, O.blt]
  refine wpAny_pure ?_
  refine wpAny_newFunctionEnv_cells O.kind (fun y hy => ?_) fun env he s' x => ?_
  · have hm : y.1 ∈ params := (List.of_mem_zip hy).1
    rcases (O.names y.1 hm).1 with q | q
    · exact .inl q
    · exact .inr ⟨q, cellsFrom_some _ _ _ (.inl q)⟩
  · subst he
    obtain ⟨h₁, tk, rfl, kk⟩ := x.done
    refine ⟨(hlim.keeps kb).keeps kk, codeAny_func ?_⟩
    have hcn : ((cellsFrom (s.heap.objs.size + 1) fd.scope.names []).map (·.1)).Nodup := cellsFrom_names fd.scope.names 0 (s.heap.objs.size + 1) [] [] rfl ▸ O.cells
    let env : Env := newEnv fd.scope s.heap.objs.size mainGlobals (cellsFrom (s.heap.objs.size + 1) fd.scope.names []) (fd.qualname ++ ".<locals>.") (some a) fd.code none builtinsNs
    have T := stt_start (TI := none) (h₀ := s.heap) (env := env) (w := w) (mc := mu) (params := params) (args := args) (ws := ws) (fun _ _ e => e) (fun t e => by cases e) (fun t e => by cases e) (fun t c e => by cases e) O.kind rfl rfl O.nd (by rw [r.length, hlen]) O.names O.free hcn
      (fun y hy => by
        have := cellsFrom_some (x := y) fd.scope.names (s.heap.objs.size + 1) [] (.inl hy)
        exact Option.isSome_iff_exists.mp this) rfl x live r
    have rm' : Rm (A.deeper env) d :=
      ⟨rm.handled, by have := rm.depth; show A.depth + 1 + d < _; lia, by have := rm.units; show A.units + 3 + 4 * d + 64 < _; lia⟩
    refine wpAny_mono (X.exs (h₀ := s.heap) (ss := body) (s := { s with heap := h₁, toks := tk }) kb T rm' hc) (fun f s' hf => ?_) fun _ _ f => f.elim
    obtain ⟨h2, t2, rfl, _, hq⟩ := hf
    have hv' : (exs g env.kindOf n (startLs params args) body).1 = .ret v := hv
    rw [hv'] at hq
    obtain ⟨kh, _, wv, rfl, rp⟩ := hq
    exact k wv h2 t2 kh rp
theorem call_fnD {t : TabI} {n : Nat} (X : Sx prog w hb g d (some t) n) {fd : FuncData} {params : List Str} {body : List Stmt} (O : FdOk fd params body) {a : Addr} {o : Obj} (ho : hb.get? a = some o) (hd : o.data = .func fd) (hlim : hb.NoLimit) (hcd : hb.CodeRec fd.code fd.qualname) (hbP : hb.get? t.P = none) (hcode : ∀ c, t.code = some c → fd.code = .ref c ∧ (fd.qualname ++ ".<locals>.") ++ "<lambda>" = t.qual)
    {A : Around} {s : Shared} {mu : List Addr} {args : List V} {ws : List Value} {v : V} (kb : KeepAll hb s.heap) (rm : Rm A (d + 1)) (live : Live mu s.heap) (tab : TabInv (some t) [] mu s.heap) (r : Reps w.params mu s.heap args ws) (hlen : args.length = params.length)
    (hv : (exs g (fun x => fd.scope.names.lookup x) n (startLs params args) body).1 = .ret v) (hc : (exs g (fun x => fd.scope.names.lookup x) n (startLs params args) body).2.2) :
    wpAny (model prog w) A (call (.ref a) ws) (fun u s' => ∃ h' tk, s' = { s with heap := h', toks := tk } ∧ KeepF (some t) [] s.heap h' ∧ TabInv (some t) [] mu h' ∧ Rep w.params mu h' v u) (fun _ _ => False) s := by
  have kb0 : KeepAll hb (hideAll s.heap [t.P]) := fun b o e => hideAll_get _ (kb b o e) (fun q => by rw [List.mem_singleton.mp q, hbP] at e; cases e)
  refine wpAny_call ?_
  refine codeAny_call_function (by have := rm.depth; lia) (kb _ _ ho) hd O.co O.gen O.body (hcd.keeps kb) ?_
  rw [O.bind ws (by rw [r.length, hlen]), O.clo, O.glob, O.blt]
  refine wpAny_pure ?_
  refine wpAny_newFunctionEnv_cells O.kind (fun y hy => ?_) fun env he s' x => ?_
  · have hm : y.1 ∈ params := (List.of_mem_zip hy).1
    rcases (O.names y.1 hm).1 with q | q
    · exact .inl q
    · exact .inr ⟨q, cellsFrom_some _ _ _ (.inl q)⟩
  · subst he
    obtain ⟨h₁, tk, rfl, kk⟩ := x.done
    refine ⟨(hlim.keeps kb).keeps kk, codeAny_func ?_⟩
    have hcn : ((cellsFrom (s.heap.objs.size + 1) fd.scope.names []).map (·.1)).Nodup := cellsFrom_names fd.scope.names 0 (s.heap.objs.size + 1) [] [] rfl ▸ O.cells
    let env : Env := newEnv fd.scope s.heap.objs.size mainGlobals (cellsFrom (s.heap.objs.size + 1) fd.scope.names []) (fd.qualname ++ ".<locals>.") (some a) fd.code none builtinsNs
    have T := stt_start (TI := some t) (h₀ := hideAll s.heap [t.P]) (env := env) (w := w) (mc := mu) (params := params) (args := args) (ws := ws) (fun _ _ e => of_hideAll _ e) (fun t' e => by cases e; exact hideAll_none _ (.head _)) tab (fun t' c e e2 => by cases e; exact hcode c e2) O.kind rfl rfl O.nd (by rw [r.length, hlen]) O.names O.free hcn
      (fun y hy => by
        have := cellsFrom_some (x := y) fd.scope.names (s.heap.objs.size + 1) [] (.inl hy)
        exact Option.isSome_iff_exists.mp this) rfl x live r
    have rm' : Rm (A.deeper env) d :=
      ⟨rm.handled, by have := rm.depth; show A.depth + 1 + d < _; lia, by have := rm.units; show A.units + 3 + 4 * d + 64 < _; lia⟩
    refine wpAny_mono (X.exs (h₀ := hideAll s.heap [t.P]) (ss := body) (s := { s with heap := h₁, toks := tk }) kb0 T rm' hc) (fun f s' hf => ?_) fun _ _ f => f.elim
    obtain ⟨h2, t2, rfl, _, hq⟩ := hf
    have hv' : (exs g env.kindOf n (startLs params args) body).1 = .ret v := hv
    rw [hv'] at hq
    obtain ⟨kh, tb, wv, rfl, rp⟩ := hq
    exact ⟨h2, t2, rfl, fun b o hb' _ e => kh b o (hideAll_get _ e hb'), tb, rp⟩
end
end Mine
namespace Mine
open PySem PySem.W PyProof.Rows PySem.Calls

/-- a function of the text, as far as the evaluator asks -/
structure FnT where
  name : Str
  params : List Str
  scope : Scope
  body : List Stmt

noncomputable def runFn (g : Cfg) (fs : List FnT) (f : Str) (args : List V) : W V :=
  match fs.find? (fun t => t.name == f) with
  | none => no
  | some t => if args.length = t.params.length then
      (match exs g (fun x => t.scope.names.lookup x) 200 (startLs t.params args) t.body with
        | (.ret v, _, c) => (v, c)
        | (.next, _, _) => no)
    else no
/-- what is known of the text beside its functions -/
structure Dat0 where
  gl : Str → Option V
  mem : Value → Int → W Bool
  get : Value → Int → W V
noncomputable def CC (D : Dat0) (fs : List FnT) : Nat → Cfg
  | 0 => ⟨fun _ _ => no, D.gl, D.mem, D.get, fun _ _ => no, fun _ => False⟩
  | k + 1 => ⟨runFn (CC D fs k) fs, D.gl, D.mem, D.get, fun _ _ => no, fun _ => False⟩
theorem CC_gl (D : Dat0) (fs : List FnT) : ∀ k, (CC D fs k).gl = D.gl
  | 0 => rfl
  | _ + 1 => rfl
theorem CC_mem (D : Dat0) (fs : List FnT) : ∀ k, (CC D fs k).mem = D.mem
  | 0 => rfl
  | _ + 1 => rfl
theorem CC_get (D : Dat0) (fs : List FnT) : ∀ k, (CC D fs k).get = D.get
  | 0 => rfl
  | _ + 1 => rfl
/-- a function of the text stands in the heap -/
noncomputable def FnAt (hb : Heap) (mg : Str → Option Value) (t : FnT) : Prop :=
  ∃ a o fd, mg t.name = some (.ref a) ∧ hb.get? a = some o ∧ o.data = .func fd ∧ FdOk fd t.params t.body ∧ fd.scope = t.scope ∧ hb.CodeRec fd.code fd.qualname
section
variable {prog : Program} {w : World} {hb : Heap} {mg mb : Str → Option Value}
structure Base0 (prog : Program) (w : World) (hb : Heap) (mg mb : Str → Option Value) (D : Dat0) (fs : List FnT) : Prop where
  gns : hb.Ns mainGlobals mg
  bns : hb.Ns builtinsNs mb
  boot : ∀ x : Str, x ≠ "__name__" → mb x = bootBuiltins x
  gl : ∀ x v, D.gl x = some v → ∃ wv, mg x = some wv ∧ ((∃ i t, v = .int i ∧ wv = .int i t) ∨ v = .val wv)
  nob : ∀ x, (isBlt x = true ∨ x = ("list" : Str) ∨ x = ("range" : Str) ∨ x = ("sorted" : Str)) → mg x = none
  mem : ∀ k, MemOk prog w hb (CC D fs k)
  get : ∀ k, GetOk prog w hb (CC D fs k)
  fn : ∀ t ∈ fs, FnAt hb mg t
  lim : hb.NoLimit
theorem low_base {g : Cfg} {k : Nat} (B : Base prog w hb mg mb g k) : Base prog w hb mg mb g.low 0 :=
  ⟨B.gns, B.bns, B.boot, B.gl, B.nob, B.mem, B.get, fun f args h => h.elim, B.lim⟩
theorem CC_dn {D : Dat0} {fs : List FnT} : ∀ {k : Nat} {f : Str} {args : List V}, ¬ ((CC D fs k).dn f args).2
  | 0, _, _ => id
  | _ + 1, _, _ => id
theorem CC_dt {D : Dat0} {fs : List FnT} : ∀ {k : Nat} {p : Pos}, ¬ (CC D fs k).dt p
  | 0, _ => id
  | _ + 1, _ => id
theorem dirt_cc {D : Dat0} {fs : List FnT} {k : Nat} {TI : Option TabI} : Dirt prog w hb mg (CC D fs k) k TI :=
  ⟨fun f args h => (CC_dn h).elim, fun p h => (CC_dt h).elim⟩
theorem base_cc {D : Dat0} {fs : List FnT} (B : Base0 prog w hb mg mb D fs) : ∀ k, Base prog w hb mg mb (CC D fs k) k
  | 0 => ⟨B.gns, B.bns, B.boot, B.gl, B.nob, B.mem 0, B.get 0, fun f args h => h.elim, B.lim⟩
  | k + 1 => by
    refine ⟨B.gns, B.bns, B.boot, B.gl, B.nob, B.mem _, B.get _, fun f args h => ?_, B.lim⟩
    have X : Sx prog w hb (CC D fs k) k none 200 := sx (base_cc B k) (low_base (base_cc B k)) dirt_cc 200
    have h : (runFn (CC D fs k) fs f args).2 := h
    show ∃ a o fd, _ ∧ _ ∧ _ ∧ ∀ (A : Around) (s : Shared) (mu : List Addr) (ws : List Value), KeepAll hb s.heap → Rm A (k + 1) → Live mu s.heap → Reps w.params mu s.heap args ws →
      Tr prog w A (call (.ref a) ws) s (fun v h => Rep w.params mu h (runFn (CC D fs k) fs f args).1 v)
    unfold runFn at h ⊢
    cases e : fs.find? (fun t => t.name == f) with
    | none => rw [e] at h; exact h.elim
    | some t =>
      rw [e] at h
      dsimp only at h ⊢
      have ht := List.mem_of_find?_eq_some e
      have hn : t.name = f := by have := List.find?_some e; simpa using this
      obtain ⟨a, o, fd, h1, h2, h3, h4, h5, h6⟩ := B.fn t ht
      refine ⟨a, o, fd, hn ▸ h1, h2, h3, fun A s mu ws kb rm live r => ?_⟩
      by_cases hl : args.length = t.params.length
      · rw [if_pos hl] at h ⊢
        rw [← h5] at h ⊢
        generalize hq : exs (CC D fs k) (fun x => fd.scope.names.lookup x) 200 (startLs t.params args) t.body = q at h ⊢
        obtain ⟨fl, l', c⟩ := q
        cases fl with
        | next => exact h.elim
        | ret v =>
          exact call_fn X h4 h2 h3 B.lim h6 kb rm live r hl (by rw [hq]) (by rw [hq]; exact h)
      · rw [if_neg hl] at h; exact h.elim
/-- a function whose body sorts by a lambda -/
noncomputable def CO (D : Dat0) (fs : List FnT) (p : Pos) (k : Nat) : Cfg := { CC D fs k with dt := fun q => q = p }
/-- where such a one is called -/
noncomputable def CL (D : Dat0) (fs : List FnT) (fo : FnT) (p : Pos) (k : Nat) : Cfg := { CC D fs (k + 1) with dn := runFn (CO D fs p k) [fo] }
/-- the table of a code, and the lambda's place -/
structure LamAt (hb : Heap) (mg : Str → Option Value) (fo : FnT) (t : TabI) (c : Addr) : Prop where
  hid : hb.get? t.P = none
  head : CodeHd hb c t.P
  bt : hb.BuiltinsAt mg t.P
  ne : mainGlobals ≠ t.P
  code : t.code = some c
  fn : ∃ a o fd, mg fo.name = some (.ref a) ∧ hb.get? a = some o ∧ o.data = .func fd ∧ FdOk fd fo.params fo.body ∧ fd.scope = fo.scope ∧ hb.CodeRec fd.code fd.qualname ∧ fd.code = .ref c ∧ (fd.qualname ++ ".<locals>.") ++ "<lambda>" = t.qual
theorem base_co {D : Dat0} {fs : List FnT} {p : Pos} {k : Nat} (B : Base0 prog w hb mg mb D fs) : Base prog w hb mg mb (CO D fs p k) k :=
  ⟨B.gns, B.bns, B.boot, (base_cc B k).gl, B.nob, B.mem k, B.get k, (base_cc B k).fn, B.lim⟩
theorem base_cl {D : Dat0} {fs : List FnT} {fo : FnT} {p : Pos} {k : Nat} (B : Base0 prog w hb mg mb D fs) : Base prog w hb mg mb (CL D fs fo p k) (k + 1) :=
  ⟨B.gns, B.bns, B.boot, (base_cc B (k + 1)).gl, B.nob, B.mem (k + 1), B.get (k + 1), (base_cc B (k + 1)).fn, B.lim⟩
theorem dirt_co {D : Dat0} {fs : List FnT} {fo : FnT} {p : Pos} {k : Nat} {t : TabI} {c : Addr} (H : LamAt hb mg fo t c) (hp : t.pos = p) (h2 : 2 ≤ k) : Dirt prog w hb mg (CO D fs p k) k (some t) :=
  ⟨fun f args h => (CC_dn (D := D) (fs := fs) (k := k) h).elim, fun q h => ⟨h2, t, c, rfl, hp.trans (Eq.symm h), H.code, H.head, H.bt, H.ne⟩⟩
theorem dirt_cl {D : Dat0} {fs : List FnT} {fo : FnT} {p : Pos} {k : Nat} {t : TabI} {c : Addr} (B : Base0 prog w hb mg mb D fs) (H : LamAt hb mg fo t c) (hp : t.pos = p) (h2 : 2 ≤ k) : Dirt prog w hb mg (CL D fs fo p k) (k + 1) (some { t with code := none }) := by
  refine ⟨fun f args h => ?_, fun q h => (CC_dt (D := D) (fs := fs) (k := k + 1) (p := q) h).elim⟩
  obtain rfl : f = fo.name := by
    by_cases q : f = fo.name
    · exact q
    · have h : (runFn (CO D fs p k) [fo] f args).2 := h
      unfold runFn at h
      rw [show [fo].find? (fun t => t.name == f) = none by simp [Ne.symm q]] at h
      exact h.elim
  have X : Sx prog w hb (CO D fs p k) k (some t) 200 := sx (base_co B) (low_base (base_co B)) (dirt_co H hp h2) 200
  obtain ⟨a, o, fd, h1, h2, h3, h4, h5, h6, h7, h8⟩ := H.fn
  have h : (runFn (CO D fs p k) [fo] fo.name args).2 := h
  refine ⟨a, o, fd, h1, h2, h3, fun A s mm mc ws kb rm live tab ap r => ?_⟩
  show wpAny (model prog w) A (call (.ref a) ws) (fun v s' => ∃ h' tk, s' = { s with heap := h', toks := tk } ∧ KeepF (some { t with code := none }) [] s.heap h' ∧ TabInv (some { t with code := none }) mm mc h' ∧ Rep w.params (mm ++ mc) h' (runFn (CO D fs p k) [fo] fo.name args).1 v) (fun _ _ => False) s
  have ef : [fo].find? (fun t => t.name == fo.name) = some fo := by simp
  unfold runFn at h ⊢
  rw [ef] at h ⊢
  dsimp only at h ⊢
  by_cases hl : args.length = fo.params.length
  · rw [if_pos hl] at h ⊢
    rw [← h5] at h ⊢
    generalize hq : exs (CO D fs p k) (fun x => fd.scope.names.lookup x) 200 (startLs fo.params args) fo.body = q at h ⊢
    obtain ⟨fl, l', cc⟩ := q
    cases fl with
    | next => exact h.elim
    | ret v =>
      have tab0 : TabInv (some t) [] (mm ++ mc) s.heap := fun t' e => by
        cases e
        obtain ⟨q1, ps, q2, q3, q4⟩ := tab _ rfl
        exact ⟨List.mem_append_right _ q1, ps, q2, q3, q4⟩
      refine wpAny_mono (call_fnD (t := t) X h4 h2 h3 B.lim h6 H.hid (fun c' e => by rw [H.code] at e; cases e; exact ⟨h7, h8⟩) kb rm live tab0 r hl (by rw [hq]) (by rw [hq]; exact h)) (fun u s' q => ?_) fun _ _ f => f
      obtain ⟨h', tk, rfl, kf, tb, rp⟩ := q
      refine ⟨h', tk, rfl, kf, fun t' e => ?_, rp⟩
      cases e
      obtain ⟨q1, _⟩ := tab _ rfl
      obtain ⟨_, ps, q2, q3, q4⟩ := tb t rfl
      exact ⟨q1, ps, q2, q3, q4⟩
  · rw [if_neg hl] at h; exact h.elim
end
end Mine
namespace Mine
open PySem PySem.W PyProof.Rows PySem.Calls
noncomputable def fnT (st : Stmt) : FnT := match st with
  | .FunctionDef name args body _ _ _ scope _ _ _ => ⟨name, args.args.map (·.arg), scope, body⟩
  | _ => ⟨"", [], default, []⟩

theorem fnAt_of {K : Frag} {h : Heap} {mg : Str → Option Value} (X : K.In h) (G : h.Ns mainGlobals mg) {t : FnT} {a : Addr} {o : Obj} {fd : FuncData} (e1 : nsIn K mainGlobals t.name = some (some (.ref a))) (e2 : K.lookup a = some o) (e3 : o.data = .func fd)
    (ok : FdOk fd t.params t.body) (hs : fd.scope = t.scope) (hc : codeIn K fd.code fd.qualname = true) : FnAt h mg t :=
  ⟨a, o, fd, mg_of X G e1, X _ _ e2, e3, ok, hs, codeRec_of X hc⟩

theorem lookup_memL {L : List (Str × V)} {x : Str} {v : V} (h : L.lookup x = some v) : (x, v) ∈ L := by
  induction L with
  | nil => cases h
  | cons p r ih =>
    obtain ⟨y, u⟩ := p
    rw [List.lookup_cons] at h
    by_cases e : (x == y) = true
    · rw [e] at h
      cases h
      rw [eq_of_beq e]; exact .head _
    · rw [show (x == y) = false from by simpa using e] at h
      exact .tail _ (ih h)
/-- a global value that we know -/
noncomputable def isV (v : V) (wv : Value) : Bool := match v with
  | .int i => Value.isInt i wv
  | .val u => wv == u
  | _ => false
noncomputable def glAt (K : Frag) (p : Str × V) : Bool := match nsIn K mainGlobals p.1 with
  | some o => o.any (isV p.2)
  | none => false
theorem gl_ok {K : Frag} {h : Heap} {mg : Str → Option Value} (X : K.In h) (G : h.Ns mainGlobals mg) {L : List (Str × V)} (hL : (L.all fun p => glAt K p) = true) : ∀ x v, L.lookup x = some v → ∃ wv, mg x = some wv ∧ ((∃ i t, v = .int i ∧ wv = .int i t) ∨ v = .val wv) := fun x v e => by
  have h := List.all_eq_true.mp hL _ (lookup_memL e)
  have h : (match nsIn K mainGlobals x with
    | some o => o.any (isV v)
    | none => false) = true := h
  cases e1 : nsIn K mainGlobals x with
  | none => rw [e1] at h; cases h
  | some o =>
    rw [e1] at h
    cases o with
    | none => cases h
    | some wv =>
      refine ⟨wv, mg_of X G e1, ?_⟩
      have h : isV v wv = true := h
      cases v with
      | int i =>
        obtain ⟨t, rfl⟩ := Value.isInt_shape h
        exact .inl ⟨i, t, rfl, rfl⟩
      | val u =>
        obtain rfl := eq_of_beq (show (wv == u) = true from h)
        exact .inr rfl
      | _ => cases h
noncomputable def bltNames : List Str := ["len", "ord", "chr", "abs", "int", "str", "divmod", "min", "sum", "list", "range", "sorted"]
theorem nob_ok {K : Frag} {h : Heap} {mg : Str → Option Value} (X : K.In h) (G : h.Ns mainGlobals mg) (hL : (bltNames.all fun x => nsIn K mainGlobals x == some none) = true) : ∀ x, (isBlt x = true ∨ x = ("list" : Str) ∨ x = ("range" : Str) ∨ x = ("sorted" : Str)) → mg x = none := fun x hx => by
  have hm : x ∈ bltNames := by
    rcases hx with hx | rfl | rfl | rfl
    · have := List.contains_iff_mem.mp hx
      simp only [List.mem_cons, List.not_mem_nil, or_false] at this
      simp only [bltNames, List.mem_cons, List.not_mem_nil, or_false]
      rcases this with h | h | h | h | h | h | h | h | h <;> simp [h]
    · simp [bltNames]
    · simp [bltNames]
    · simp [bltNames]
  exact ns_none_of X G (by simpa using List.all_eq_true.mp hL x hm)

section
variable {prog : Program} {w : World} {hb : Heap}
noncomputable def setEs (es : List (Int × Value)) : Bool := es.all fun e => match e.2 with
  | .int k _ => e.1 == hashInt k
  | _ => false
theorem mem_ok {K : Frag} {a : Addr} {es : List (Int × Value)} {ep : Nat} {t : SetTable} {g : Cfg} (X : K.In hb) (e : K.lookup a = some ⟨.type "set", none, .set es.toArray ep t, #[]⟩) (chk : setEs es = true) (hn : es.length < 4096) (fits : t.fits es.length = true)
    (hm : g.mem = fun wv i => (es.any fun e => Value.isInt i e.2, wv = .ref a)) : MemOk prog w hb g := by
  intro A s wv i tk kb h
  rw [hm] at h ⊢
  obtain rfl : wv = .ref a := h
  have so : Obj.SetObjOf (intKind prog w) ⟨.type "set", none, .set es.toArray ep t, #[]⟩ (fun i => es.any fun e => Value.isInt i e.2) es.length := by
    refine ⟨⟨rfl, rfl, rfl⟩, es.toArray, ep, t, rfl, ?_, ?_, by simp, by simpa using fits⟩
    · intro e he
      have he' : e ∈ es := by simpa using he
      clear he
      have := List.all_eq_true.mp chk e he'
      obtain ⟨hh, v⟩ := e
      clear he'
      cases v <;> simp only at this <;> first | cases this | skip
      rename_i k t
      exact ⟨⟨k, isInt_self k t, eq_of_beq this⟩, rfl⟩
    · intro k
      simp only [List.any_eq_true]
      rfl
  refine Tr.of fun R k => ?_
  refine wpAny_inSet_of (knd := intKind prog w) (isInt_self i tk) rfl (so.setOf (kb _ _ (X _ _ e)) (by unfold scanBound; omega)) (k _ s.heap _ (fun _ _ e => e) rfl)
noncomputable def dictEs (es : List DictEntry) : Bool := es.all fun e => (match e.key with
  | .int k _ => e.hash == hashInt k
  | _ => false) && match e.val with
  | .str _ _ => true
  | _ => false
/-- a table's text at an int -/
noncomputable def tabGet (es : List DictEntry) (i : Int) : V := match es.find? (fun e => Value.isInt i e.key) with
  | some ⟨_, _, .str x _⟩ => .str x.cps.toList
  | _ => .none
theorem get_ok {K : Frag} {a : Addr} {es : List DictEntry} {ep : Nat} {g : Cfg} (X : K.In hb) (lo : (a == sysModules) = false) (e : K.lookup a = some ⟨.type "dict", none, .dict es.toArray ep, #[]⟩) (chk : dictEs es = true)
    (hm : g.get = fun wv i => (tabGet es i, wv = .ref a)) : GetOk prog w hb g := by
  intro A s wv i tk kb h
  rw [hm] at h ⊢
  obtain rfl : wv = .ref a := h
  have ho := kb _ _ (X _ _ e)
  refine ⟨⟨a, _, rfl, ho, rfl, rfl⟩, Tr.of fun R k => ?_⟩
  have mo : s.heap.MapOf (intKind prog w) a (fun k => findBy Value.isInt es.toArray k) := by
    refine ⟨_, es.toArray, ep, ho, ⟨rfl, rfl, rfl⟩, rfl, ?_, fun _ => rfl⟩
    intro e he
    have he' : e ∈ es := by simpa using he
    clear he
    have := List.all_eq_true.mp chk e he'
    clear he'
    obtain ⟨hh, key, v⟩ := e
    simp only [Bool.and_eq_true] at this
    obtain ⟨this, _⟩ := this
    cases key <;> simp only at this <;> first | cases this | skip
    rename_i k t
    exact ⟨k, isInt_self k t, eq_of_beq this⟩
  refine call_meetsIn PySem.F.slot_dict_get ⟨_, ho, rfl⟩ PySem.F.entry_dict_get (PySem.F.args_dict_get_2 _ _) (meets_dict_get (intKind prog w) a (k := i) (isInt_self i tk) lo) ⟨_, mo, ?_⟩
  refine k _ s.heap _ (fun _ _ e => e) fun mu => ?_
  unfold tabGet findBy
  rw [← Array.find?_toList]
  cases hf : es.find? (fun e => Value.isInt i e.key) with
  | none => simp only [hf, Option.map_none, Option.getD_none]; unfold Rep; rfl
  | some e =>
    have he := List.mem_of_find?_eq_some hf
    have := List.all_eq_true.mp chk e he
    obtain ⟨hh, key, v⟩ := e
    simp only [Bool.and_eq_true] at this
    obtain ⟨_, this⟩ := this
    cases v <;> simp only at this <;> first | cases this | skip
    rename_i x t
    simp only [hf, Option.map_some, Option.getD_some]
    unfold Rep
    exact ⟨t, rfl⟩
end
end Mine
namespace Mine
open PySem PySem.W PyProof.Rows PySem.Calls
/-- what can be computed of FdOk -/
noncomputable def fdChk (fd : FuncData) (params : List Str) : Bool :=
  !fd.scope.isCoroutine && !fd.scope.isGenerator && fd.scope.kind == .function && fd.globals == mainGlobals && fd.builtins == builtinsNs && fd.closure.isEmpty && decide params.Nodup &&
  (params.all fun x => (fd.scope.names.lookup x == some .local || fd.scope.names.lookup x == some .cell) && nameOk x) && (fd.scope.names.all fun p => !(p.2 == .free)) && decide ((cellsFrom 0 fd.scope.names []).map (·.1)).Nodup
theorem lookup_in {L : List (Str × NameKind)} {x : Str} {v : NameKind} (h : L.lookup x = some v) : (x, v) ∈ L := by
  induction L with
  | nil => cases h
  | cons p r ih =>
    obtain ⟨y, u⟩ := p
    rw [List.lookup_cons] at h
    by_cases e : (x == y) = true
    · rw [e] at h
      cases h
      rw [eq_of_beq e]; exact .head _
    · rw [show (x == y) = false from by simpa using e] at h
      exact .tail _ (ih h)
theorem fdOk_of {fd : FuncData} {params : List Str} {body : List Stmt} (h : fdChk fd params = true) (hb : fd.body = .stmts body) (bind : ∀ ws : List Value, ws.length = params.length → bindArgs fd ⟨ws, []⟩ = pure (params.zip ws)) : FdOk fd params body := by
  unfold fdChk at h
  simp only [Bool.and_eq_true, Bool.not_eq_true', beq_iff_eq, decide_eq_true_eq, List.isEmpty_iff] at h
  obtain ⟨⟨⟨⟨⟨⟨⟨⟨⟨h1, h2⟩, h3⟩, h4⟩, h5⟩, h6⟩, h7⟩, h8⟩, h9⟩, h10⟩ := h
  refine ⟨h1, h2, h3, hb, h4, h5, h6, h7, fun x hx => ?_, fun x hx => ?_, h10, bind⟩
  · have := List.all_eq_true.mp h8 x hx
    simpa using this
  · have := List.all_eq_true.mp h9 _ (lookup_in hx)
    simp at this
theorem len_succ {α : Type} {n : Nat} {l : List α} (h : l.length = n + 1) : ∃ x r, l = x :: r ∧ r.length = n := by
  cases l with
  | nil => cases h
  | cons x r => exact ⟨x, r, rfl, Nat.succ.inj h⟩
theorem bind1 {fd : FuncData} {a : Str} (h : ∀ v, bindArgs fd ⟨[v], []⟩ = pure [(a, v)]) (ws : List Value) (hw : ws.length = [a].length) : bindArgs fd ⟨ws, []⟩ = pure ([a].zip ws) := by
  obtain ⟨v, r, rfl, h1⟩ := len_succ hw
  obtain rfl := List.length_eq_zero_iff.mp h1
  exact h v
theorem bind2 {fd : FuncData} {a b : Str} (h : ∀ v u, bindArgs fd ⟨[v, u], []⟩ = pure [(a, v), (b, u)]) (ws : List Value) (hw : ws.length = [a, b].length) : bindArgs fd ⟨ws, []⟩ = pure ([a, b].zip ws) := by
  obtain ⟨v, r, rfl, h1⟩ := len_succ hw
  obtain ⟨u, r, rfl, h2⟩ := len_succ h1
  obtain rfl := List.length_eq_zero_iff.mp h2
  exact h v u
theorem bind3 {fd : FuncData} {a b c : Str} (h : ∀ v u x, bindArgs fd ⟨[v, u, x], []⟩ = pure [(a, v), (b, u), (c, x)]) (ws : List Value) (hw : ws.length = [a, b, c].length) : bindArgs fd ⟨ws, []⟩ = pure ([a, b, c].zip ws) := by
  obtain ⟨v, r, rfl, h1⟩ := len_succ hw
  obtain ⟨u, r, rfl, h2⟩ := len_succ h1
  obtain ⟨x, r, rfl, h3⟩ := len_succ h2
  obtain rfl := List.length_eq_zero_iff.mp h3
  exact h v u x
end Mine
namespace Mine
open PySem PySem.W PyProof.Rows PySem.Calls
noncomputable section

-- from Goes.lean


structure Cx where
  p : Program
  w : World
  n₀ : Nat
  ann : Option Value
  b : List Stmt
  env : Env
  q : Pos

noncomputable def Goes (C : Cx) (N : Nat) {α : Type} (m : Sem α) (s : Shared) (a : α) (s' : Shared) : Prop :=
  ∀ (K : α → Sem Fin) (H : Value → Sem Fin) (gd : Bool → Bool) (lv : List Value → List Value) (pos : Pos), ∃ n pos', n ≤ N ∧
    segGo treeTable C.p C.w C.n₀ C.ann 1 n s ⟨m.wrap K H gd lv, .body C.b C.env, pos, [topFrame C.q]⟩ = some (s', ⟨K a, .body C.b C.env, pos', [topFrame C.q]⟩)

section
variable {C : Cx} {α β : Type} {s s' s₁ : Shared}

theorem segGo_app {tb : String → Option Builtin} {p : Program} {w : World} {n₀ : Nat} {ann : Option Value} {b : Nat} : ∀ {n m : Nat} {s s₁ s₂ : Shared} {t t₁ t₂ : Thread},
    segGo tb p w n₀ ann b n s t = some (s₁, t₁) → segGo tb p w n₀ ann b m s₁ t₁ = some (s₂, t₂) → segGo tb p w n₀ ann b (n + m) s t = some (s₂, t₂)
  | 0, m, s, s₁, s₂, t, t₁, t₂, h, k => by
    obtain ⟨rfl, rfl⟩ : s = s₁ ∧ t = t₁ := by simpa [segGo] using h
    rw [Nat.zero_add]; exact k
  | n + 1, m, s, s₁, s₂, t, t₁, t₂, h, k => by
    rw [show n + 1 + m = n + m + 1 by lia]
    unfold segGo at h ⊢
    cases he : endAt b t with
    | some f => rw [he] at h; cases h
    | none =>
      rw [he] at h
      cases hk : stepOk n₀ ann t with
      | false => rw [hk] at h; cases h
      | true =>
        rw [hk] at h
        cases hs : step (denote tb) p w s t with
        | halt o s₂ => rw [hs] at h; cases h
        | go s₂ t₂ => rw [hs] at h; exact segGo_app h k

theorem Goes.le {n N : Nat} {m : Sem α} {a : α} (h : Goes C n m s a s') (e : n ≤ N) : Goes C N m s a s' := fun K H gd lv pos =>
  let ⟨k, p, l, r⟩ := h K H gd lv pos; ⟨k, p, Nat.le_trans l e, r⟩
theorem goes_pure {a : α} : Goes C 0 (.pure a) s a s := fun K H gd lv pos => ⟨0, pos, Nat.le_refl _, rfl⟩
theorem goes_pure' {a : α} : Goes C 0 (Pure.pure a : Sem α) s a s := goes_pure
theorem goes_pureN {N : Nat} {a : α} : Goes C N (Pure.pure a : Sem α) s a s := goes_pure.le (Nat.zero_le _)
theorem goes_bind {n₁ n₂ : Nat} {m : Sem α} {f : α → Sem β} {a : α} {b : β} (h : Goes C n₁ m s a s₁) (k : Goes C n₂ (f a) s₁ b s') : Goes C (n₁ + n₂) (m.bind f) s b s' := fun K H gd lv pos => by
  obtain ⟨n, p₁, l, e⟩ := h (fun a => (f a).wrap K H gd lv) H gd lv pos
  obtain ⟨m', p₂, l', e'⟩ := k K H gd lv p₁
  refine ⟨n + m', p₂, Nat.add_le_add l l', ?_⟩
  rw [Sem.bind_eq_wrap, Sem.wrap_wrap]
  exact segGo_app e e'
theorem goes_bind' {n₁ n₂ : Nat} {m : Sem α} {f : α → Sem β} {a : α} {b : β} (h : Goes C n₁ m s a s₁) (k : Goes C n₂ (f a) s₁ b s') : Goes C (n₁ + n₂) (m >>= f) s b s' := goes_bind h k
theorem goes_bindN {n₁ N : Nat} {m : Sem α} {f : α → Sem β} {a : α} {b : β} (h : Goes C n₁ m s a s₁) (k : Goes C (N - n₁) (f a) s₁ b s') (e : n₁ ≤ N := by first | omega | (simp; omega) | simp) : Goes C N (m >>= f) s b s' := (goes_bind h k).le (by omega)
theorem goes_keep {N : Nat} {vs : List Value} {m : Sem α} {a : α} (h : Goes C N m s a s') : Goes C N (m.keep vs) s a s' := fun K H gd lv pos => by
  rw [Sem.keep_eq_wrap, Sem.wrap_wrap]
  exact h K H _ _ pos
theorem goes_holding {N : Nat} {vs : List Value} {m : Sem α} {a : α} (h : Goes C N m s a s') : Goes C N (holding vs m) s a s' := by
  unfold holding; split
  · exact h
  · exact goes_keep h
theorem goes_onRaise {N : Nat} {m : Sem α} {h : Value → Sem Unit} {a : α} (x : Goes C N m s a s') : Goes C N (m.onRaise h) s a s' := fun K H gd lv pos => by
  rw [Sem.onRaise_eq_wrap, Sem.wrap_wrap]
  exact x K _ _ _ pos

/-- one step -/
theorem goes_one {N : Nat} {m : Sem α} {a : α} {s₁ : Shared} (m' : Sem α) (pos' : Pos → Pos)
    (e : ∀ (K : α → Sem Fin) H gd lv pos, segGo treeTable C.p C.w C.n₀ C.ann 1 1 s ⟨m.wrap K H gd lv, .body C.b C.env, pos, [topFrame C.q]⟩ = some (s₁, ⟨m'.wrap K H gd lv, .body C.b C.env, pos' pos, [topFrame C.q]⟩))
    (k : Goes C N m' s₁ a s') : Goes C (1 + N) m s a s' := fun K H gd lv pos => by
  obtain ⟨n, p', l, e'⟩ := k K H gd lv (pos' pos)
  exact ⟨1 + n, p', Nat.add_le_add_left l 1, segGo_app (e K H gd lv pos) e'⟩

theorem goes_fresh : Goes C 1 fresh s s.toks { s with toks := s.toks + 1 } := goes_one (.pure s.toks) id (fun K H gd lv pos => rfl) goes_pure
theorem goes_at {p' : Pos} : Goes C 1 (standAt p') s () s := goes_one (.pure ()) (fun _ => p') (fun K H gd lv pos => rfl) goes_pure
theorem goes_rule {t : String} : Goes C 1 (rule t) s () s := goes_one (.pure ()) id (fun K H gd lv pos => rfl) goes_pure
theorem goes_alloc {o : Obj} : Goes C 1 (alloc o) s s.heap.objs.size { s with heap := s.heap.push o } := goes_one (.pure s.heap.objs.size) id (fun K H gd lv pos => rfl) goes_pure
theorem goes_step {N : Nat} {m : Sem α} {a : α} {s₁ : Shared} (m' : Sem α)
    (hc : ∀ (K : α → Sem Fin) H gd lv pos, endAt 1 ⟨m.wrap K H gd lv, .body C.b C.env, pos, [topFrame C.q]⟩ = none)
    (hk : ∀ (K : α → Sem Fin) H gd lv pos, stepOk C.n₀ C.ann ⟨m.wrap K H gd lv, .body C.b C.env, pos, [topFrame C.q]⟩ = true)
    (e : ∀ (K : α → Sem Fin) H gd lv pos, step (denote treeTable) C.p C.w s ⟨m.wrap K H gd lv, .body C.b C.env, pos, [topFrame C.q]⟩ = .go s₁ ⟨m'.wrap K H gd lv, .body C.b C.env, pos, [topFrame C.q]⟩)
    (k : Goes C N m' s₁ a s') : Goes C (1 + N) m s a s' := goes_one m' id (fun K H gd lv pos => by
  unfold segGo
  rw [hc, hk]
  dsimp only
  rw [e]
  rfl) k
theorem goes_load {a : Addr} {part : Option Value} {o : Obj} (h : s.heap.get? a = some o) : Goes C 1 (loadPart a part) s o s :=
  goes_step (.pure o) (fun _ _ _ _ _ => rfl) (fun _ _ _ _ _ => rfl) (fun K H gd lv pos => by
    obtain ⟨heap, gens, drawn, toks, os⟩ := s
    show (match heap.get? a with | some o => _ | none => _) = _
    rw [show heap.get? a = some o from h]) goes_pure
theorem goes_update {a : Addr} {part : Option Value} {f : Obj → Obj} {o : Obj} (h : s.heap.get? a = some o) (hn : Nat.ble C.n₀ a = true) : Goes C 1 (updatePart a part f) s () { s with heap := s.heap.update a f } :=
  goes_step (.pure ()) (fun _ _ _ _ _ => rfl) (fun _ _ _ _ _ => by
    show (_ && (Nat.ble C.n₀ a || _ || _ || _)) = true
    rw [hn]; rfl) (fun K H gd lv pos => by
    obtain ⟨heap, gens, drawn, toks, os⟩ := s
    show (if (heap.get? a).isSome then _ else _) = _
    rw [show heap.get? a = some o from h]
    rfl) goes_pure

end
variable {C : Cx} {α β : Type} 
noncomputable def hX (x : Int) : Int :=
  let h : Int := x.natAbs % (2 ^ 61 - 1 : Nat)
  let h := if x < 0 then -h else h
  if h == -1 then -2 else h
theorem hX_eq (m : Nat) (h2 : m < 1152921504606846976) : hX (m : Int) = m := by
  unfold hX
  have e : (m % 2305843009213693951) = m := Nat.mod_eq_of_lt (by lia)
  have e2 : (((m : Int).natAbs : Int) % ((2 ^ 61 - 1 : Nat) : Int)) = (m : Int) := by
    show ((m : Int) % (2305843009213693951 : Int)) = m
    lia
  dsimp only
  rw [if_neg (show ¬ ((m : Int) < 0) by lia), e2, if_neg (show ¬ (((m : Int) == -1) = true) by simp <;> lia)]
theorem hash_run (r : Bool) (p : Program) (w : World) (n₀ : Nat) (ann : Option Value) (b : List Stmt) (env : Env) (q : Pos) (heap : Heap) (gens : Array GenState) (drawn : Drawn) (toks : Nat) (os : OsState) (k : Int) (t : Tok) (K : Int → Sem Fin) (H : Value → Sem Fin) (gd : Bool → Bool) (lv : List Value → List Value) (pos : Pos) :
  segGo treeTable p (w.withFollow "special-get-raises" r) n₀ ann 1 5 ⟨heap, gens, drawn, toks, os⟩ ⟨(pyHash (.int k t)).wrap K H gd lv, .body b env, pos, [topFrame q]⟩ =
   some (⟨heap, gens, drawn, toks + 1, os⟩, ⟨(pyHashByItsType.reduced (hX k)).wrap K H gd lv, .body b env, pos, [topFrame q]⟩) := by
  rw [PySem.W.Fast.te3277212676724774461, PySem.W.Fast.te14364793385576792824, PySem.W.Fast.te10540108854288196387, PySem.W.Fast.te199310478702765468]
  cases r <;> kernel_rfl!
theorem goes_hash {s : Shared} {m : Nat} {t : Tok} (h2 : m < 1152921504606846976) : Goes C 5 (pyHash (.int (m : Int) t)) s m { s with toks := s.toks + 1 } := fun K H gd lv pos => by
  obtain ⟨heap, gens, drawn, toks, os⟩ := s
  have e := hash_run (C.w.params.followText "special-get-raises") C.p C.w C.n₀ C.ann C.b C.env C.q heap gens drawn toks os m t K H gd lv pos
  rw [World.withFollow_self, hX_eq m h2] at e
  refine ⟨5, pos, Nat.le_refl _, e.trans ?_⟩
  have er : pyHashByItsType.reduced (m : Int) = .pure (m : Int) := by
    unfold pyHashByItsType.reduced
    have : (decide (-(2 ^ 63 : Int) ≤ (m : Int)) && decide ((m : Int) < 2 ^ 63)) = true := by
      rw [show (2 ^ 63 : Int) = 9223372036854775808 by decide]
      simp; lia
    rw [if_pos this, if_neg (show ¬ (((m : Int) == -1) = true) by simp <;> lia)]
    rfl
  rw [er]; rfl

-- from Goes2.lean


noncomputable def dobj (es : List DictEntry) (n : Nat) : Obj := ⟨.type "dict", none, .dict es.toArray n, #[]⟩
noncomputable def H (pre : List Obj) (o : Obj) (subs : List Obj) (l : Life) : Heap := ⟨(pre ++ o :: subs).toArray, l⟩

theorem H_raw (pre : List Obj) (o : Obj) (subs : List Obj) (l : Life) : (H pre o subs l).objs[pre.length]? = some o := by simp [H]
theorem H_get {pre : List Obj} {es : List DictEntry} {n : Nat} {subs : List Obj} {l : Life} : (H pre (dobj es n) subs l).get? pre.length = some (dobj es n) := by
  unfold Heap.get?
  rw [H_raw]
  rfl
theorem mti (o : Obj) (subs : List Obj) (f : Obj → Obj) : ∀ pre : List Obj, (pre ++ o :: subs).modifyTailIdx pre.length (List.modifyHead f) = pre ++ f o :: subs
  | [] => rfl
  | x :: pre => by
    show x :: (pre ++ o :: subs).modifyTailIdx pre.length (List.modifyHead f) = _
    rw [mti o subs f pre]; rfl
theorem H_upd {pre : List Obj} {o : Obj} {subs : List Obj} {l : Life} {f : Obj → Obj} : (H pre o subs l).update pre.length f = H pre (f o) subs l := by
  simp only [H, Heap.update, Heap.mk.injEq, and_true]
  apply Array.ext'
  simp only [Array.toList_modify, List.modify]
  exact mti o subs f pre
theorem H_last {pre : List Obj} {o x : Obj} {subs : List Obj} {l : Life} : H pre o (subs ++ [x]) l = H (pre ++ o :: subs) x [] l := by
  simp [H]

section
variable {C : Cx} {pre : List Obj} {es : List DictEntry} {n : Nat} {subs : List Obj} {l : Life} {gens : Array GenState} {drawn : Drawn} {toks : Nat} {os : OsState}

noncomputable abbrev Sh (h : Heap) (gens : Array GenState) (drawn : Drawn) (toks : Nat) (os : OsState) : Shared := ⟨h, gens, drawn, toks, os⟩

theorem goes_dictEntries {d : Addr} {s : Shared} {part : Option Value} (h : s.heap.get? d = some (dobj es n)) : Goes C 1 (dictEntries d part) s es.toArray s :=
  Goes.le (goes_bind' (goes_load h) goes_pure') (Nat.le_refl _)
theorem goes_dictEpoch {d : Addr} {s : Shared} {part : Option Value} (h : s.heap.get? d = some (dobj es n)) : Goes C 1 (dictEpoch d part) s n s :=
  Goes.le (goes_bind' (goes_load h) goes_pure') (Nat.le_refl _)

theorem places_nil {h : Int} (ha : ∀ e ∈ es, e.hash ≠ h) : placesWithHash es.toArray.size (fun i => es.toArray[i]?.map (·.hash)) h = [] := by
  unfold placesWithHash
  rw [List.filter_eq_nil_iff]
  intro i hi
  have hi' : i < es.length := by simpa using hi
  simp only [List.getElem?_toArray, List.getElem?_eq_getElem hi', Option.map_some, beq_iff_eq, Option.some.injEq]
  exact ha _ (List.getElem_mem hi')
theorem goes_dictFind {d : Addr} {s : Shared} {k : Int} {t : Tok} (h : s.heap.get? d = some (dobj es n)) (ha : ∀ e ∈ es, e.hash ≠ k) : Goes C 1 (dictFind d (.int k t) k) s none s := by
  unfold dictFind
  refine goes_holding (goes_bindN (goes_dictEntries h) ?_)
  dsimp only
  rw [places_nil ha]
  exact goes_pureN
theorem goes_updKeys {d : Addr} {s : Shared} {part : Option Value} {e : DictEntry} (h : s.heap.get? d = some (dobj es n)) (h' : (s.heap.update d (Obj.mapDictKeys (·.push e))).get? d = some (dobj (es ++ [e]) (n + 1)))
    (hn : Nat.ble C.n₀ d = true) (hz : es.length ≤ 100000) :
    Goes C 3 (updateDictKeys d (·.push e) part) s () { s with heap := s.heap.update d (Obj.mapDictKeys (·.push e)) } := by
  unfold updateDictKeys
  refine goes_bindN (goes_load h) ?_
  refine goes_bindN (goes_update h hn) ?_
  unfold lookBehind
  refine goes_bindN (goes_load h') ?_
  have : (dobj (es ++ [e]) (n + 1)).data.pastItsLine = none := pastItsLine_dict (by
    simp only [List.size_toArray, List.length_append, List.length_singleton]
    have : (2 : Nat) ^ 24 = 16777216 := by decide
    unfold sizeLine; lia)
  rw [this]
  exact goes_pureN
theorem H_map {e : DictEntry} : (H pre (dobj es n) subs l).update pre.length (Obj.mapDictKeys (·.push e)) = H pre (dobj (es ++ [e]) (n + 1)) subs l := by
  rw [H_upd]
  simp [dobj, Obj.mapDictKeys]

theorem goes_put {k : Nat} {t : Tok} {v : Value} {hd : Nat.ble C.n₀ pre.length = true} (ha : ∀ e ∈ es, e.hash ≠ (k : Int)) (hz : es.length ≤ 100000) :
    Goes C 4 (dictPut pre.length (k : Int) (.int k t) v) (Sh (H pre (dobj es n) subs l) gens drawn toks os) () (Sh (H pre (dobj (es ++ [⟨k, .int k t, v⟩]) (n + 1)) subs l) gens drawn toks os) := by
  unfold dictPut
  refine goes_bindN (goes_dictFind H_get ha) ?_
  have := goes_updKeys (C := C) (s := Sh (H pre (dobj es n) subs l) gens drawn toks os) (part := none) (e := ⟨k, .int k t, v⟩) H_get (by show (Heap.update _ _ _).get? _ = _; rw [H_map]; exact H_get) hd hz
  have e : ({ Sh (H pre (dobj es n) subs l) gens drawn toks os with heap := (Sh (H pre (dobj es n) subs l) gens drawn toks os).heap.update pre.length (Obj.mapDictKeys (·.push ⟨k, .int k t, v⟩)) } : Shared) = Sh (H pre (dobj (es ++ [⟨k, .int k t, v⟩]) (n + 1)) subs l) gens drawn toks os := by
    show Sh (Heap.update _ _ _) _ _ _ _ = _
    rw [H_map]
  rw [e] at this
  exact this.le (by first | lia | (simp; lia) | simp)

theorem goes_set {k : Nat} {t : Tok} {v : Value} (hd : Nat.ble C.n₀ pre.length = true) (hk : k < 1152921504606846976) (ha : ∀ e ∈ es, e.hash ≠ (k : Int)) (hz : es.length ≤ 100000) :
    Goes C 10 (dictSet pre.length (.int k t) v) (Sh (H pre (dobj es n) subs l) gens drawn toks os) () (Sh (H pre (dobj (es ++ [⟨k, .int k t, v⟩]) (n + 1)) subs l) gens drawn (toks + 1) os) := by
  unfold dictSet
  refine goes_holding (goes_bindN (goes_hash hk) ?_)
  unfold dictSetHashed
  refine goes_holding (goes_bindN (goes_dictFind H_get ha) ?_)
  refine goes_bindN goes_rule ?_
  have := goes_updKeys (C := C) (s := Sh (H pre (dobj es n) subs l) gens drawn (toks + 1) os) (part := keyPart (.int k t)) (e := ⟨k, .int k t, v⟩) H_get (by show (Heap.update _ _ _).get? _ = _; rw [H_map]; exact H_get) hd hz
  have e : ({ Sh (H pre (dobj es n) subs l) gens drawn (toks + 1) os with heap := (Sh (H pre (dobj es n) subs l) gens drawn (toks + 1) os).heap.update pre.length (Obj.mapDictKeys (·.push ⟨k, .int k t, v⟩)) } : Shared) = Sh (H pre (dobj (es ++ [⟨k, .int k t, v⟩]) (n + 1)) subs l) gens drawn (toks + 1) os := by
    show Sh (Heap.update _ _ _) _ _ _ _ = _
    rw [H_map]
  rw [e] at this
  exact this.le (by first | lia | (simp; lia) | simp)
end

-- from Goes3.lean

section
variable {C : Cx} {pre : List Obj} {es : List DictEntry} {n : Nat} {subs : List Obj} {l : Life} {gens : Array GenState} {drawn : Drawn} {toks : Nat} {os : OsState}

theorem goes_forIn_nil {α β : Type} {f : α → β → Sem (ForInStep β)} {b : β} {s : Shared} : Goes C 0 (forIn ([] : List α) b f) s b s := by
  rw [List.forIn_nil]; exact goes_pureN
theorem goes_forIn_cons {α β : Type} {f : α → β → Sem (ForInStep β)} {x : α} {xs : List α} {b b' r : β} {s s₁ s' : Shared}
    {n₁ N : Nat} (h : Goes C n₁ (f x b) s (.yield b') s₁) (k : Goes C (N - n₁) (forIn xs b' f) s₁ r s') (e : n₁ ≤ N := by first | omega | (simp; omega) | simp) : Goes C N (forIn (x :: xs) b f) s r s' := by
  rw [List.forIn_cons]; exact goes_bindN h k e

noncomputable abbrev Pr := Nat × Str
noncomputable def entL (t : Nat) : List Pr → List DictEntry
  | [] => []
  | p :: r => ⟨(p.1 : Int), .int (p.1 : Int) t, .str p.2 (t + 1)⟩ :: entL (t + 3) r
noncomputable def entS (t : Nat) : List Pr → List DictEntry
  | [] => []
  | p :: r => ⟨(p.1 : Int), .int (p.1 : Int) t, .str p.2 (t + 1)⟩ :: entS (t + 2) r
theorem entL_length : ∀ (t : Nat) (ps : List Pr), (entL t ps).length = ps.length
  | _, [] => rfl
  | t, p :: r => congrArg (· + 1) (entL_length (t + 3) r)
theorem entS_length : ∀ (t : Nat) (ps : List Pr), (entS t ps).length = ps.length
  | _, [] => rfl
  | t, p :: r => congrArg (· + 1) (entS_length (t + 2) r)
theorem entL_hash : ∀ {t : Nat} {ps : List Pr} {e : DictEntry}, e ∈ entL t ps → ∃ p ∈ ps, e.hash = (p.1 : Int)
  | _, [], _, h => by cases h
  | t, p :: r, e, h => by
    rcases List.mem_cons.mp h with rfl | h
    · exact ⟨p, .head _, rfl⟩
    · obtain ⟨q, hq, e⟩ := entL_hash h; exact ⟨q, .tail _ hq, e⟩
theorem entS_hash : ∀ {t : Nat} {ps : List Pr} {e : DictEntry}, e ∈ entS t ps → ∃ p ∈ ps, e.hash = (p.1 : Int)
  | _, [], _, h => by cases h
  | t, p :: r, e, h => by
    rcases List.mem_cons.mp h with rfl | h
    · exact ⟨p, .head _, rfl⟩
    · obtain ⟨q, hq, e⟩ := entS_hash h; exact ⟨q, .tail _ hq, e⟩

structure ItemOk (C : Cx) (x : Sem Value × Sem Value) (p : Pr) : Prop where
  key : ∀ s : Shared, Goes C 1 x.1 s (.int (p.1 : Int) s.toks) { s with toks := s.toks + 1 }
  val : ∀ s : Shared, Goes C 2 x.2 s (.str p.2 s.toks) { s with toks := s.toks + 1 }
  fits : p.1 < 1152921504606846976
inductive Items (C : Cx) : List (Sem Value × Sem Value) → List Pr → Prop
  | nil : Items C [] []
  | cons {x p xs ps} : ItemOk C x p → Items C xs ps → Items C (x :: xs) (p :: ps)
theorem Items.length {xs ps} (h : Items C xs ps) : xs.length = ps.length := by
  induction h with
  | nil => rfl
  | cons _ _ ih => simp [ih]

theorem goes_loopL {xs : List (Sem Value × Sem Value)} {ps : List Pr} (I : Items C xs ps) (hd : Nat.ble C.n₀ pre.length = true) :
    ∀ (es : List DictEntry) (n toks : Nat), (∀ e ∈ es, ∀ p ∈ ps, e.hash < (p.1 : Int)) → ps.Pairwise (fun a b => a.1 < b.1) → es.length + ps.length ≤ 100000 →
    Goes C (13 * ps.length) (forIn xs PUnit.unit fun x r => do
        let kv ← x.1
        let vv ← holding [kv] x.2
        holding [kv, vv] (dictSet pre.length kv vv)
        pure (ForInStep.yield PUnit.unit)) (Sh (H pre (dobj es n) subs l) gens drawn toks os) PUnit.unit
      (Sh (H pre (dobj (es ++ entL toks ps) (n + ps.length)) subs l) gens drawn (toks + 3 * ps.length) os) := by
  induction I with
  | nil => intro es n toks _ _ _; simp only [entL, List.append_nil, List.length_nil, Nat.mul_zero, Nat.add_zero]; exact goes_forIn_nil.le (Nat.zero_le _)
  | @cons x p xs ps hx I ih =>
    intro es n toks hlt hpw hz
    refine goes_forIn_cons (goes_bind' (hx.key _) (goes_bind' (goes_holding (hx.val _)) (goes_bind' (goes_holding (goes_set hd hx.fits (fun e he => Int.ne_of_lt (hlt e he p (.head _))) (by simp at hz; lia))) goes_pure'))) ?_
    have hpw' := List.pairwise_cons.mp hpw
    have := ih (es ++ [⟨(p.1 : Int), .int (p.1 : Int) toks, .str p.2 (toks + 1)⟩]) (n + 1) (toks + 1 + 1 + 1) (fun e he q hq => by
      rcases List.mem_append.mp he with he | he
      · exact hlt e he q (.tail _ hq)
      · rw [List.mem_singleton.mp he]; have := hpw'.1 q hq; show (p.1 : Int) < q.1; lia) hpw'.2 (by simp at hz ⊢; lia)
    have e1 : es ++ [(⟨(p.1 : Int), .int (p.1 : Int) toks, .str p.2 (toks + 1)⟩ : DictEntry)] ++ entL (toks + 1 + 1 + 1) ps = es ++ entL toks (p :: ps) := by simp [entL]
    have e2 : n + 1 + ps.length = n + (p :: ps).length := by simp; lia
    have e3 : toks + 1 + 1 + 1 + 3 * ps.length = toks + 3 * (p :: ps).length := by simp; lia
    rw [e1, e2, e3] at this
    exact this.le (by first | lia | (simp; lia) | simp)

theorem goes_subL {xs : List (Sem Value × Sem Value)} {ps : List Pr} (I : Items C xs ps) (hd : Nat.ble C.n₀ pre.length = true) (hlong : ¬ xs.length ≤ 15) (hpw : ps.Pairwise (fun a b => a.1 < b.1)) (hz : ps.length ≤ 100000) :
    Goes C (2 + 13 * ps.length) (subDict xs) (Sh ⟨pre.toArray, l⟩ gens drawn toks os) pre.length (Sh (H pre (dobj (entL toks ps) ps.length) [] l) gens drawn (toks + 3 * ps.length) os) := by
  unfold subDict
  refine goes_bindN goes_alloc ?_
  have e : (Sh ⟨pre.toArray, l⟩ gens drawn toks os).heap.push { cls := .type "dict", data := .dict #[] } = H pre (dobj [] 0) [] l := by simp [H, Heap.push, dobj]
  have e0 : (Sh ⟨pre.toArray, l⟩ gens drawn toks os).heap.objs.size = pre.length := by simp
  rw [e, e0]
  rw [if_neg hlong]
  have := goes_loopL (subs := []) (l := l) (gens := gens) (drawn := drawn) (os := os) I hd [] 0 toks (fun e he => by cases he) hpw (by simpa using hz)
  rw [List.nil_append, Nat.zero_add] at this
  exact Goes.le (goes_bind' (goes_holding (goes_bind' goes_rule (goes_bind' this goes_pure'))) goes_pure') (by lia)

theorem goes_evalPairs {xs : List (Sem Value × Sem Value)} {ps : List Pr} (I : Items C xs ps) : ∀ (h : Heap) (toks : Nat),
    Goes C (3 * ps.length) (evalPairs xs) (Sh h gens drawn toks os) ((entS toks ps).map fun e => (e.key, e.val)) (Sh h gens drawn (toks + 2 * ps.length) os) := by
  induction I with
  | nil => intro h toks; exact goes_pureN
  | @cons x p xs ps hx I ih =>
    intro h toks
    unfold evalPairs
    refine goes_bindN (hx.key _) (goes_bindN (goes_holding (hx.val _)) ?_)
    have := ih h (toks + 1 + 1)
    rw [show toks + 1 + 1 + 2 * ps.length = toks + 2 * (p :: ps).length by simp; lia] at this
    exact Goes.le (goes_bind' (goes_holding this) goes_pure') (by first | lia | (simp; lia))
theorem goes_loopS (hd : Nat.ble C.n₀ pre.length = true) : ∀ (ps : List Pr) (es : List DictEntry) (n t0 toks : Nat), (∀ p ∈ ps, p.1 < 1152921504606846976) → (∀ e ∈ es, ∀ p ∈ ps, e.hash < (p.1 : Int)) → ps.Pairwise (fun a b => a.1 < b.1) → es.length + ps.length ≤ 100000 →
    Goes C (10 * ps.length) (forIn ((entS t0 ps).map fun e => (e.key, e.val)) PUnit.unit fun x r => do
        dictSet pre.length x.1 x.2
        pure (ForInStep.yield PUnit.unit)) (Sh (H pre (dobj es n) subs l) gens drawn toks os) PUnit.unit
      (Sh (H pre (dobj (es ++ entS t0 ps) (n + ps.length)) subs l) gens drawn (toks + ps.length) os)
  | [], es, n, t0, toks, _, _, _, _ => by simp only [show entS t0 [] = [] from rfl, List.append_nil, List.length_nil, Nat.add_zero, List.map_nil]; exact goes_forIn_nil.le (Nat.zero_le _)
  | p :: ps, es, n, t0, toks, hf, hlt, hpw, hz => by
    have hpw' := List.pairwise_cons.mp hpw
    refine goes_forIn_cons (goes_bind' (goes_set hd (hf p (.head _)) (fun e he => Int.ne_of_lt (hlt e he p (.head _))) (by simp at hz; lia)) goes_pure') ?_
    have := goes_loopS hd ps (es ++ [⟨(p.1 : Int), .int (p.1 : Int) t0, .str p.2 (t0 + 1)⟩]) (n + 1) (t0 + 2) (toks + 1) (fun q hq => hf q (.tail _ hq)) (fun e he q hq => by
      rcases List.mem_append.mp he with he | he
      · exact hlt e he q (.tail _ hq)
      · rw [List.mem_singleton.mp he]; have := hpw'.1 q hq; show (p.1 : Int) < q.1; lia) hpw'.2 (by simp at hz ⊢; lia)
    have e1 : es ++ [(⟨(p.1 : Int), .int (p.1 : Int) t0, .str p.2 (t0 + 1)⟩ : DictEntry)] ++ entS (t0 + 2) ps = es ++ entS t0 (p :: ps) := by rw [List.append_assoc]; rfl
    have e2 : n + 1 + ps.length = n + (p :: ps).length := by simp; lia
    have e3 : toks + 1 + ps.length = toks + (p :: ps).length := by simp; lia
    rw [e1, e2, e3] at this
    exact this.le (by first | lia | (simp; lia) | simp)
theorem goes_subS {xs : List (Sem Value × Sem Value)} {ps : List Pr} (I : Items C xs ps) (hf : ∀ p ∈ ps, p.1 < 1152921504606846976) (hd : Nat.ble C.n₀ pre.length = true) (hshort : xs.length ≤ 15) (hpw : ps.Pairwise (fun a b => a.1 < b.1)) (hz : ps.length ≤ 100000) :
    Goes C (2 + 13 * ps.length) (subDict xs) (Sh ⟨pre.toArray, l⟩ gens drawn toks os) pre.length (Sh (H pre (dobj (entS toks ps) ps.length) [] l) gens drawn (toks + 3 * ps.length) os) := by
  unfold subDict
  refine goes_bindN goes_alloc ?_
  have e : (Sh ⟨pre.toArray, l⟩ gens drawn toks os).heap.push { cls := .type "dict", data := .dict #[] } = H pre (dobj [] 0) [] l := by simp [H, Heap.push, dobj]
  have e0 : (Sh ⟨pre.toArray, l⟩ gens drawn toks os).heap.objs.size = pre.length := by simp
  rw [e, e0]
  rw [if_pos hshort]
  have := goes_loopS (C := C) (subs := []) (l := l) (gens := gens) (drawn := drawn) (os := os) hd ps [] 0 toks (toks + 2 * ps.length) hf (fun e he => by cases he) hpw (by simpa using hz)
  rw [List.nil_append, Nat.zero_add, show toks + 2 * ps.length + ps.length = toks + 3 * ps.length by lia] at this
  exact Goes.le (goes_bind' (goes_holding (goes_bind' (goes_evalPairs I _ _) (goes_holding (goes_bind' this goes_pure')))) goes_pure') (by lia)

/-- merging a dict made just now (the last object) into the first one -/
theorem goes_isDict {a : Addr} {s : Shared} (h : s.heap.get? a = some (dobj es n)) : Goes C 1 (isInstance (.ref a) (.type "dict")) s true s := by
  unfold isInstance
  have e1 : isSubtype (.type "dict") (.type "dict") = pure true := by rw [isSubtype_type]; kernel_rfl!
  refine goes_bindN (goes_bind' (goes_load h) goes_pure') ?_
  show Goes C _ (isSubtype (.type "dict") (.type "dict")) s true s
  rw [e1]; exact goes_pureN
theorem goes_iterOf {a : Addr} {s : Shared} (h : s.heap.get? a = some (dobj es n)) : Goes C 1 (specialOf (.ref a) "__iter__") s (some (.builtin "dict.__iter__")) s := by
  unfold specialOf
  have e2 : typeLookup (.type "dict") "__iter__" = pure (some (.builtin "dict.__iter__")) := by rw [typeLookup_type, builtinLookup_eq_fast]; kernel_rfl!
  refine goes_bindN (goes_bind' (goes_load h) goes_pure') ?_
  show Goes C _ (typeLookup (.type "dict") "__iter__") s _ s
  rw [e2]; exact goes_pureN
end

-- from Goes4.lean

section
variable {C : Cx} {pre : List Obj} {es ss : List DictEntry} {n m : Nat} {subs : List Obj} {l : Life} {gens : Array GenState} {drawn : Drawn} {toks : Nat} {os : OsState}

theorem goes_range' {f : Nat → PUnit → Sem (ForInStep PUnit)} {N c : Nat} (S : Nat → Shared) (h : ∀ i, i < N → Goes C c (f i ⟨⟩) (S i) (.yield ⟨⟩) (S (i + 1))) :
    ∀ (k i : Nat), i + k = N → Goes C (c * k) (forIn (List.range' i k) PUnit.unit f) (S i) PUnit.unit (S N)
  | 0, i, e => by
    obtain rfl : i = N := by lia
    exact goes_forIn_nil.le (Nat.zero_le _)
  | k + 1, i, e => by
    rw [List.range'_succ]
    exact goes_forIn_cons (h i (by lia)) ((goes_range' S h k (i + 1) (by lia)).le (by rw [Nat.mul_succ]; lia)) (by rw [Nat.mul_succ]; lia)
theorem goes_range {f : Nat → PUnit → Sem (ForInStep PUnit)} {N c : Nat} (S : Nat → Shared) (h : ∀ i, i < N → Goes C c (f i ⟨⟩) (S i) (.yield ⟨⟩) (S (i + 1))) :
    Goes C (c * N) (forIn (List.range N) PUnit.unit f) (S 0) PUnit.unit (S N) := by
  rw [List.range_eq_range']
  exact goes_range' S h N 0 (by lia)

noncomputable def Keyed (e : DictEntry) : Prop := ∃ (k : Nat) (t : Tok), e.hash = (k : Int) ∧ e.key = .int (k : Int) t
theorem keyedL : ∀ {t : Nat} {ps : List Pr} {e : DictEntry}, e ∈ entL t ps → Keyed e
  | _, [], _, h => by cases h
  | t, p :: r, e, h => by
    rcases List.mem_cons.mp h with rfl | h
    · exact ⟨p.1, t, rfl, rfl⟩
    · exact keyedL h
theorem keyedS : ∀ {t : Nat} {ps : List Pr} {e : DictEntry}, e ∈ entS t ps → Keyed e
  | _, [], _, h => by cases h
  | t, p :: r, e, h => by
    rcases List.mem_cons.mp h with rfl | h
    · exact ⟨p.1, t, rfl, rfl⟩
    · exact keyedS h

theorem H_sub {o : Obj} : (H pre o (subs ++ [dobj ss m]) l).get? (pre.length + 1 + subs.length) = some (dobj ss m) := by
  rw [H_last]
  have : pre.length + 1 + subs.length = (pre ++ o :: subs).length := by simp; lia
  rw [this]
  exact H_get

theorem goes_merge (hd : Nat.ble C.n₀ pre.length = true) (hsys : (pre.length + 1 + subs.length == sysModules) = false) (hk : ∀ e ∈ ss, Keyed e) (hes : es ≠ [])
    (hlt : ∀ e ∈ es, ∀ e' ∈ ss, e.hash < e'.hash) (hpw : ss.Pairwise (fun a b => a.hash < b.hash)) (hz : es.length + ss.length ≤ 100000) :
    Goes C (5 + 6 * ss.length) (mergeMapping pre.length (.ref (pre.length + 1 + subs.length)) false) (Sh (H pre (dobj es n) (subs ++ [dobj ss m]) l) gens drawn toks os) ()
      (Sh (H pre (dobj (es ++ ss) (n + ss.length)) (subs ++ [dobj ss m]) l) gens drawn toks os) := by
  unfold mergeMapping
  refine goes_bindN (m := isInstance _ _) (goes_isDict (es := ss) (n := m) H_sub) ?_
  dsimp only
  rw [if_pos rfl]
  refine goes_bindN (m := specialOf _ _) (goes_iterOf (es := ss) (n := m) H_sub) ?_
  refine goes_bindN (a := true) goes_pure' ?_
  dsimp only
  rw [if_neg (by rw [hsys]; exact Bool.false_ne_true)]
  refine goes_bindN (goes_dictEntries H_get) ?_
  rw [if_neg (by cases es with | nil => exact absurd rfl hes | cons => simp)]
  refine goes_bindN (goes_dictEntries H_sub) ?_
  refine goes_bindN (goes_dictEpoch H_sub) ?_
  have fin : ∀ {f : Nat → PUnit → Sem (ForInStep PUnit)}, (∀ i, i < ss.length → Goes C 6 (f i ⟨⟩) (Sh (H pre (dobj (es ++ ss.take i) (n + i)) (subs ++ [dobj ss m]) l) gens drawn toks os) (.yield ⟨⟩)
      (Sh (H pre (dobj (es ++ ss.take (i + 1)) (n + (i + 1))) (subs ++ [dobj ss m]) l) gens drawn toks os)) →
      Goes C (6 * ss.length) (forIn (List.range ss.length) PUnit.unit f) (Sh (H pre (dobj es n) (subs ++ [dobj ss m]) l) gens drawn toks os) PUnit.unit
        (Sh (H pre (dobj (es ++ ss) (n + ss.length)) (subs ++ [dobj ss m]) l) gens drawn toks os) := fun h => by
    have key := goes_range (C := C) (N := ss.length) (fun i => Sh (H pre (dobj (es ++ ss.take i) (n + i)) (subs ++ [dobj ss m]) l) gens drawn toks os) h
    simpa only [List.take_zero, List.append_nil, Nat.add_zero, List.take_length] using key
  rw [List.size_toArray]
  refine goes_bindN (fin ?_) goes_pureN
  · intro i hi
    refine goes_bindN (m := dictEntries _) (goes_dictEntries (es := ss) (n := m) H_sub) ?_
    have ei : ss.toArray[i]? = some ss[i] := by simp [hi]
    rw [ei]
    dsimp only
    obtain ⟨k, t, eh, ek⟩ := hk ss[i] (List.getElem_mem hi)
    have eE : ss[i] = ⟨(k : Int), .int (k : Int) t, ss[i].val⟩ := by
      cases h : ss[i] with
      | mk a b c => rw [h] at eh ek; simp only at eh ek; rw [eh, ek]
    have put := goes_put (C := C) (pre := pre) (es := es ++ ss.take i) (n := n + i) (subs := subs ++ [dobj ss m]) (l := l) (gens := gens) (drawn := drawn) (toks := toks) (os := os) (k := k) (t := t) (v := ss[i].val) (hd := hd)
      (fun e he => by
        rcases List.mem_append.mp he with he | he
        · have := hlt e he ss[i] (List.getElem_mem hi); rw [eh] at this; exact Int.ne_of_lt this
        · obtain ⟨j, hj, rfl⟩ := List.getElem_of_mem he
          rw [List.getElem_take]
          have hj' : j < i := by simp at hj; lia
          have := (List.pairwise_iff_getElem.mp hpw) j i (by lia) hi hj'
          rw [eh] at this; exact Int.ne_of_lt this) (by simp; lia)
    have e2 : es ++ ss.take i ++ [(⟨(k : Int), .int (k : Int) t, ss[i].val⟩ : DictEntry)] = es ++ ss.take (i + 1) := by
      rw [← eE, List.append_assoc, List.take_succ_eq_append_getElem hi]
    rw [e2, ← ek, ← eh] at put
    rw [if_neg Bool.false_ne_true]
    refine goes_bindN (goes_holding put) ?_
    refine goes_bindN (goes_dictEpoch H_sub) ?_
    rw [if_neg (by simp)]
    exact goes_pureN
end

-- from Goes5.lean


structure Disp where
  body : (Option (Sem Value) × Sem Value) → (Option Addr × List (Sem Value × Sem Value)) → Sem (ForInStep (Option Addr × List (Sem Value × Sem Value)))
  fin : (Option Addr × List (Sem Value × Sem Value)) → Sem Value
  eq : ∀ items, dictDisplay items = Sem.bind (forIn items (none, []) body) fin
noncomputable def disp : Disp := ⟨_, _, fun items => rfl⟩

section
variable {C : Cx} {pre : List Obj} {es ss : List DictEntry} {n m : Nat} {subs : List Obj} {l : Life} {gens : Array GenState} {drawn : Drawn} {toks : Nat} {os : OsState}
noncomputable abbrev mk (x : Sem Value × Sem Value) : Option (Sem Value) × Sem Value := (some x.1, x.2)

theorem Items.take {xs ps} (h : Items C xs ps) : ∀ k, Items C (xs.take k) (ps.take k) := by
  induction h with
  | nil => intro k; cases k <;> exact .nil
  | cons hx _ ih => intro k; cases k with
    | zero => exact .nil
    | succ k => exact .cons hx (ih k)
theorem Items.drop {xs ps} (h : Items C xs ps) : ∀ k, Items C (xs.drop k) (ps.drop k) := by
  induction h with
  | nil => intro k; cases k <;> exact .nil
  | cons hx hxs ih => intro k; cases k with
    | zero => exact .cons hx hxs
    | succ k => exact ih k
theorem Items.fits {xs ps} (h : Items C xs ps) : ∀ p ∈ ps, p.1 < 1152921504606846976 := by
  induction h with
  | nil => intro p hp; cases hp
  | cons hx _ ih => intro p hp; rcases List.mem_cons.mp hp with rfl | hp; exact hx.fits; exact ih p hp

theorem body_more {x : Sem Value × Sem Value} {main : Option Addr} {run : List (Sem Value × Sem Value)} (h : run.length ≠ 16) : disp.body (mk x) (main, run) = pure (.yield (main, run ++ [x])) := by
  show (if ((run ++ [x]).length == 17) = true then _ else _) = _
  rw [if_neg (by simp; omega)]
theorem goes_run {N : Nat} {main : Option Addr} {s s' : Shared} {r : Option Addr × List (Sem Value × Sem Value)} {rest : List (Option (Sem Value) × Sem Value)} : ∀ (xs run : List (Sem Value × Sem Value)), run.length + xs.length ≤ 16 →
    Goes C N (forIn rest (main, run ++ xs) disp.body) s r s' → Goes C N (forIn (xs.map mk ++ rest) (main, run) disp.body) s r s'
  | [], run, _, h => by simpa using h
  | x :: xs, run, hl, h => by
    rw [List.map_cons, List.cons_append]
    refine goes_forIn_cons (n₁ := 0) (by rw [body_more (by simp at hl; lia)]; exact goes_pure') (goes_run xs (run ++ [x]) (by simp at hl ⊢; lia) ?_)
    simpa using h

/-- the flush, as the display writes it -/
theorem body_full0 {N : Nat} {x : Sem Value × Sem Value} {run : List (Sem Value × Sem Value)} {s s' : Shared} {a : Addr} (h : run.length = 16) (k : Goes C N (subDict (run ++ [x])) s a s') :
    Goes C N (disp.body (mk x) (none, run)) s (.yield (some a, [])) s' := by
  show Goes C _ (if ((run ++ [x]).length == 17) = true then _ else _) s _ s'
  rw [if_pos (by simp; omega)]
  refine (goes_bind' (n₂ := 0) ?_ goes_pure')
  dsimp only
  rw [if_neg (by simp)]
  exact goes_bind' (n₂ := 0) k goes_pure'
theorem goes_flush1 {n₁ n₂ : Nat} {run : List (Sem Value × Sem Value)} {s s₁ s' : Shared} {d a : Addr} (k : Goes C n₁ (subDict run) s a s₁) (k' : Goes C n₂ (mergeMapping d (.ref a) false) s₁ () s') (f : Value → Sem Unit) :
    Goes C (n₁ + n₂) (do
      let sub ← holding [.ref d] (subDict run)
      (holding [.ref d, .ref sub] (mergeMapping d (.ref sub) false)).onRaise f
      pure (some d)) s (some d) s' :=
  goes_bind' (goes_holding k) (goes_bind' (n₂ := 0) (goes_onRaise (goes_holding k')) goes_pure')
theorem body_full1 {n₁ n₂ : Nat} {x : Sem Value × Sem Value} {run : List (Sem Value × Sem Value)} {s s₁ s' : Shared} {d a : Addr} (h : run.length = 16) (k : Goes C n₁ (subDict (run ++ [x])) s a s₁) (k' : Goes C n₂ (mergeMapping d (.ref a) false) s₁ () s') :
    Goes C (n₁ + n₂) (disp.body (mk x) (some d, run)) s (.yield (some d, [])) s' := by
  show Goes C _ (if ((run ++ [x]).length == 17) = true then _ else _) s _ s'
  rw [if_pos (by simp; omega)]
  refine (goes_bind' (n₂ := 0) ?_ goes_pure')
  dsimp only
  rw [if_neg (by simp)]
  exact goes_flush1 k k' _
theorem fin_some {n₁ n₂ : Nat} {run : List (Sem Value × Sem Value)} {s s₁ s' : Shared} {d a : Addr} (h : run ≠ []) (k : Goes C n₁ (subDict run) s a s₁) (k' : Goes C n₂ (mergeMapping d (.ref a) false) s₁ () s') :
    Goes C (n₁ + n₂) (disp.fin (some d, run)) s (.ref d) s' := by
  refine (goes_bind' (n₂ := 0) (a := some d) (s₁ := s') ?_ goes_pure')
  dsimp only
  rw [if_neg (by cases run with | nil => exact absurd rfl h | cons => simp)]
  exact goes_flush1 k k' _

theorem chunk17 {n₁ n₂ : Nat} {main : Option Addr} {s s₁ s' : Shared} {r : Option Addr × List (Sem Value × Sem Value)} {rest : List (Option (Sem Value) × Sem Value)} {d : Addr} (xs : List (Sem Value × Sem Value)) (hx : xs.length = 17)
    (h : ∀ x run, run.length = 16 → run ++ [x] = xs → Goes C n₁ (disp.body (mk x) (main, run)) s (.yield (some d, [])) s₁) (k : Goes C n₂ (forIn rest (some d, []) disp.body) s₁ r s') :
    Goes C (n₁ + n₂) (forIn (xs.map mk ++ rest) (main, []) disp.body) s r s' := by
  obtain ⟨run, x, rfl⟩ : ∃ run x, xs = run ++ [x] := by
    have hne : xs ≠ [] := by intro e; rw [e] at hx; cases hx
    exact ⟨xs.dropLast, xs.getLast hne, (List.dropLast_concat_getLast hne).symm⟩
  have hr : run.length = 16 := by simp at hx; lia
  rw [List.map_append, List.append_assoc]
  refine goes_run run [] (by simp; lia) ?_
  rw [List.nil_append]
  exact goes_forIn_cons (h x run hr rfl) (k.le (by lia))

noncomputable def subObjs (t : Nat) : Nat → List Pr → List Obj
  | 0, _ => []
  | j + 1, ps => dobj (entL t (ps.take 17)) 17 :: subObjs (t + 51) j (ps.drop 17)
theorem entL_app : ∀ (t : Nat) (a b : List Pr), entL t (a ++ b) = entL t a ++ entL (t + 3 * a.length) b
  | t, [], b => by rw [List.nil_append]; rfl
  | t, p :: a, b => by
    have := entL_app (t + 3) a b
    show _ :: entL (t + 3) (a ++ b) = _ :: (entL (t + 3) a ++ entL (t + 3 * (a.length + 1)) b)
    rw [this, show t + 3 + 3 * a.length = t + 3 * (a.length + 1) by lia]

theorem hashPwL : ∀ {t : Nat} {a : List Pr}, a.Pairwise (fun a b => a.1 < b.1) → (entL t a).Pairwise (fun a b => a.hash < b.hash)
  | _, [], _ => .nil
  | t, p :: a, h => by
    have h' := List.pairwise_cons.mp h
    refine List.pairwise_cons.mpr ⟨fun e he => ?_, hashPwL h'.2⟩
    obtain ⟨q, hq, e1⟩ := entL_hash he
    have := h'.1 q hq
    rw [e1]; show (p.1 : Int) < q.1; lia
theorem hashPwS : ∀ {t : Nat} {a : List Pr}, a.Pairwise (fun a b => a.1 < b.1) → (entS t a).Pairwise (fun a b => a.hash < b.hash)
  | _, [], _ => .nil
  | t, p :: a, h => by
    have h' := List.pairwise_cons.mp h
    refine List.pairwise_cons.mpr ⟨fun e he => ?_, hashPwS h'.2⟩
    obtain ⟨q, hq, e1⟩ := entS_hash he
    have := h'.1 q hq
    rw [e1]; show (p.1 : Int) < q.1; lia

theorem goes_rest (hd : ∀ k, Nat.ble C.n₀ (pre.length + k) = true) (hsys : ∀ k, (pre.length + 1 + k == sysModules) = false) :
    ∀ (j : Nat) (xs : List (Sem Value × Sem Value)) (ps : List Pr) (es : List DictEntry) (n : Nat) (subs : List Obj) (toks : Nat), Items C xs ps → 17 * j ≤ ps.length → ps.length - 17 * j ≤ 16 → es ≠ [] → (∀ e ∈ es, ∀ p ∈ ps, e.hash < (p.1 : Int)) → ps.Pairwise (fun a b => a.1 < b.1) → es.length + ps.length ≤ 100000 →
    Goes C (330 * j) (forIn (xs.map mk) (some pre.length, []) disp.body) (Sh (H pre (dobj es n) subs l) gens drawn toks os) (some pre.length, xs.drop (17 * j))
      (Sh (H pre (dobj (es ++ entL toks (ps.take (17 * j))) (n + 17 * j)) (subs ++ subObjs toks j ps) l) gens drawn (toks + 51 * j) os)
  | 0, xs, ps, es, n, subs, toks, I, hl, hr, _, _, _, _ => by
    have := goes_run (C := C) (main := some pre.length) (s := Sh (H pre (dobj es n) subs l) gens drawn toks os) (s' := Sh (H pre (dobj es n) subs l) gens drawn toks os) (rest := []) (r := (some pre.length, xs)) xs [] (by have := I.length; simp; lia) (by rw [List.nil_append]; exact goes_forIn_nil)
    have e1 : subObjs toks 0 ps = [] := rfl
    have e2 : entL toks (ps.take (17 * 0)) = [] := by rw [Nat.mul_zero, List.take_zero]; rfl
    rw [e1, e2]; simpa using this
  | j + 1, xs, ps, es, n, subs, toks, I, hl, hr, hne, hlt, hpw, hz => by
    have hxl := I.length
    have I1 := I.take 17
    have I2 := I.drop 17
    have l1 : (ps.take 17).length = 17 := by simp; lia
    have l2 : (xs.take 17).length = 17 := by simp; lia
    have hsp : ps.take 17 ++ ps.drop 17 = ps := List.take_append_drop ..
    have hpw1 : (ps.take 17).Pairwise (fun a b => a.1 < b.1) := hpw.take
    have hpw2 : (ps.drop 17).Pairwise (fun a b => a.1 < b.1) := hpw.drop
    have hcross : ∀ p ∈ ps.take 17, ∀ q ∈ ps.drop 17, p.1 < q.1 := by
      rw [← hsp] at hpw
      exact (List.pairwise_append.mp hpw).2.2
    have e0 : xs.map mk = (xs.take 17).map mk ++ (xs.drop 17).map mk := by rw [← List.map_append, List.take_append_drop]
    rw [e0]
    have hlen : (pre ++ dobj es n :: subs).length = pre.length + 1 + subs.length := by simp; lia
    refine Goes.le (chunk17 (n₁ := 330) (n₂ := 330 * j) (d := pre.length) (s₁ := Sh (H pre (dobj (es ++ entL toks (ps.take 17)) (n + 17)) (subs ++ [dobj (entL toks (ps.take 17)) 17]) l) gens drawn (toks + 51) os) (xs.take 17) l2 (fun x run hrun hx => ?_) ?_) (by lia)
    · have sub := goes_subL (C := C) (pre := pre ++ dobj es n :: subs) (l := l) (gens := gens) (drawn := drawn) (toks := toks) (os := os) I1 (by rw [hlen, show pre.length + 1 + subs.length = pre.length + (1 + subs.length) by lia]; exact hd _) (by lia) hpw1 (by lia)
      rw [l1, ← H_last, hlen] at sub
      have merge := goes_merge (C := C) (pre := pre) (es := es) (n := n) (subs := subs) (l := l) (gens := gens) (drawn := drawn) (toks := toks + 51) (os := os) (ss := entL toks (ps.take 17)) (m := 17) (hd 0) (hsys _) (fun e he => keyedL he) hne
        (fun e he e' he' => by
          obtain ⟨q, hq, e2⟩ := entL_hash he'
          rw [e2]; exact hlt e he q (List.mem_of_mem_take hq)) (hashPwL hpw1) (by rw [entL_length]; simp; lia)
      rw [entL_length, l1] at merge
      refine Goes.le (body_full1 (n₁ := 223) (n₂ := 107) hrun (a := pre.length + 1 + subs.length) (s₁ := Sh (H pre (dobj es n) (subs ++ [dobj (entL toks (ps.take 17)) 17]) l) gens drawn (toks + 51) os) ?_ merge) (by lia)
      rw [hx]
      exact sub
    · have ih := goes_rest hd hsys j (xs.drop 17) (ps.drop 17) (es ++ entL toks (ps.take 17)) (n + 17) (subs ++ [dobj (entL toks (ps.take 17)) 17]) (toks + 51) I2 (by simp; lia) (by simp; lia) (by simp [hne])
        (fun e he p hp => by
          rcases List.mem_append.mp he with he | he
          · exact hlt e he p (List.mem_of_mem_drop hp)
          · obtain ⟨q, hq, e2⟩ := entL_hash he
            rw [e2]; have := hcross q hq p hp; lia) hpw2 (by simp [entL_length]; lia)
      have x1 : (xs.drop 17).drop (17 * j) = xs.drop (17 * (j + 1)) := by rw [List.drop_drop]; congr 1; lia
      have x2 : es ++ entL toks (ps.take 17) ++ entL (toks + 51) ((ps.drop 17).take (17 * j)) = es ++ entL toks (ps.take (17 * (j + 1))) := by
        have : ps.take (17 * (j + 1)) = ps.take 17 ++ (ps.drop 17).take (17 * j) := by rw [← List.take_add]; congr 1; lia
        rw [this, entL_app, l1, List.append_assoc]
      have x3 : n + 17 + 17 * j = n + 17 * (j + 1) := by lia
      have x4 : toks + 51 + 51 * j = toks + 51 * (j + 1) := by lia
      have x5 : subs ++ [dobj (entL toks (ps.take 17)) 17] ++ subObjs (toks + 51) j (ps.drop 17) = subs ++ subObjs toks (j + 1) ps := by rw [List.append_assoc]; rfl
      rw [x1, x2, x3, x4, x5] at ih
      exact ih

/-- the whole display: one chunk of 17, j more, and 1 to 15 left -/
theorem goes_display {xs : List (Sem Value × Sem Value)} {ps : List Pr} (j : Nat) (I : Items C xs ps) (hl : 17 * (j + 1) < ps.length) (hr : ps.length - 17 * (j + 1) ≤ 15) (hpw : ps.Pairwise (fun a b => a.1 < b.1)) (hz : ps.length ≤ 100000)
    (hd : ∀ k, Nat.ble C.n₀ (pre.length + k) = true) (hsys : ∀ k, (pre.length + 1 + k == sysModules) = false) :
    Goes C (20 * ps.length) (dictDisplay (xs.map mk)) (Sh ⟨pre.toArray, l⟩ gens drawn toks os) (.ref pre.length)
      (Sh (H pre (dobj (entL toks (ps.take (17 * (j + 1))) ++ entS (toks + 51 * (j + 1)) (ps.drop (17 * (j + 1)))) ps.length)
        (subObjs (toks + 51) j (ps.drop 17) ++ [dobj (entS (toks + 51 * (j + 1)) (ps.drop (17 * (j + 1)))) (ps.length - 17 * (j + 1))]) l) gens drawn (toks + 3 * ps.length) os) := by
  rw [disp.eq]
  have hxl := I.length
  have I1 := I.take 17
  have I2 := I.drop 17
  have l1 : (ps.take 17).length = 17 := by simp; lia
  have l2 : (xs.take 17).length = 17 := by simp; lia
  have hsp : ps.take 17 ++ ps.drop 17 = ps := List.take_append_drop ..
  have hpw1 : (ps.take 17).Pairwise (fun a b => a.1 < b.1) := hpw.take
  have hpw2 : (ps.drop 17).Pairwise (fun a b => a.1 < b.1) := hpw.drop
  have hcross : ∀ p ∈ ps.take 17, ∀ q ∈ ps.drop 17, p.1 < q.1 := by
    have h := hpw
    rw [← hsp] at h
    exact (List.pairwise_append.mp h).2.2
  have e0 : xs.map mk = (xs.take 17).map mk ++ (xs.drop 17).map mk := by rw [← List.map_append, List.take_append_drop]
  rw [e0]
  have first := goes_subL (C := C) (pre := pre) (l := l) (gens := gens) (drawn := drawn) (toks := toks) (os := os) I1 (hd 0) (by lia) hpw1 (by lia)
  rw [l1] at first
  have rest := goes_rest (C := C) (pre := pre) (l := l) (gens := gens) (drawn := drawn) (os := os) hd hsys j (xs.drop 17) (ps.drop 17) (entL toks (ps.take 17)) 17 [] (toks + 51) I2 (by simp; lia) (by simp; lia)
    (by intro e; have := congrArg List.length e; rw [entL_length, l1] at this; cases this)
    (fun e he p hp => by
      obtain ⟨q, hq, e2⟩ := entL_hash he
      rw [e2]; have := hcross q hq p hp; lia) hpw2 (by rw [entL_length]; simp; lia)
  have x1 : (xs.drop 17).drop (17 * j) = xs.drop (17 * (j + 1)) := by rw [List.drop_drop]; congr 1; lia
  have x2 : entL toks (ps.take 17) ++ entL (toks + 51) ((ps.drop 17).take (17 * j)) = entL toks (ps.take (17 * (j + 1))) := by
    have : ps.take (17 * (j + 1)) = ps.take 17 ++ (ps.drop 17).take (17 * j) := by rw [← List.take_add]; congr 1; lia
    rw [this, entL_app, l1]
  rw [x1, x2, List.nil_append, show 17 + 17 * j = 17 * (j + 1) by lia, show toks + 51 + 51 * j = toks + 51 * (j + 1) by lia] at rest
  refine Goes.le (goes_bind (n₂ := 2 + 13 * (ps.length - 17 * (j + 1)) + (5 + 6 * (ps.length - 17 * (j + 1)))) (chunk17 (d := pre.length) (xs.take 17) l2 (fun x run hrun hx => body_full0 hrun (by rw [hx]; exact first)) rest) ?_) (by lia)
  have hsubs : (subObjs (toks + 51) j (ps.drop 17)).length = j := by
    have : ∀ (j t : Nat) (ps : List Pr), (subObjs t j ps).length = j := by
      intro j; induction j with
      | zero => intro t ps; rfl
      | succ j ih => intro t ps; exact congrArg (· + 1) (ih _ _)
    exact this _ _ _
  generalize hS : subObjs (toks + 51) j (ps.drop 17) = S at hsubs ⊢
  generalize hE : entL toks (ps.take (17 * (j + 1))) = E
  have hEl : E.length = 17 * (j + 1) := by rw [← hE, entL_length]; simp; lia
  have hlen : (pre ++ dobj E (17 * (j + 1)) :: S).length = pre.length + 1 + S.length := by simp; lia
  have I3 := I.drop (17 * (j + 1))
  have hpw3 : (ps.drop (17 * (j + 1))).Pairwise (fun a b => a.1 < b.1) := hpw.drop
  have l3 : (ps.drop (17 * (j + 1))).length = ps.length - 17 * (j + 1) := by simp
  have sub := goes_subS (C := C) (pre := pre ++ dobj E (17 * (j + 1)) :: S) (l := l) (gens := gens) (drawn := drawn) (toks := toks + 51 * (j + 1)) (os := os) I3 (I3.fits) (by rw [hlen, show pre.length + 1 + S.length = pre.length + (1 + S.length) by lia]; exact hd _) (by simp; lia) hpw3 (by lia)
  rw [l3, ← H_last, hlen] at sub
  have hcross3 : ∀ p ∈ ps.take (17 * (j + 1)), ∀ q ∈ ps.drop (17 * (j + 1)), p.1 < q.1 := by
    have h := hpw
    rw [← List.take_append_drop (17 * (j + 1)) ps] at h
    exact (List.pairwise_append.mp h).2.2
  have merge := goes_merge (C := C) (pre := pre) (es := E) (n := 17 * (j + 1)) (subs := S) (l := l) (gens := gens) (drawn := drawn) (toks := toks + 51 * (j + 1) + 3 * (ps.length - 17 * (j + 1))) (os := os)
    (ss := entS (toks + 51 * (j + 1)) (ps.drop (17 * (j + 1)))) (m := ps.length - 17 * (j + 1)) (hd 0) (hsys _) (fun e he => keyedS he) (by intro e; rw [e] at hEl; cases hEl)
    (fun e he e' he' => by
      rw [← hE] at he
      obtain ⟨p, hp, e1⟩ := entL_hash he
      obtain ⟨q, hq, e2⟩ := entS_hash he'
      rw [e1, e2]; have := hcross3 p hp q hq; lia) (hashPwS hpw3) (by rw [entS_length, hEl, l3]; lia)
  rw [entS_length, l3, show 17 * (j + 1) + (ps.length - 17 * (j + 1)) = ps.length by lia, show toks + 51 * (j + 1) + 3 * (ps.length - 17 * (j + 1)) = toks + 3 * ps.length by lia] at merge
  rw [show toks + 51 * (j + 1) + 3 * (ps.length - 17 * (j + 1)) = toks + 3 * ps.length by lia] at sub
  exact fin_some (by intro e; have := congrArg List.length e; simp at this; lia) sub merge
end

end
end Mine
namespace Mine
open PySem PySem.W PyProof.Rows PySem.Calls
noncomputable section
section
variable {C : Cx}
theorem segRun_mono {tb : String → Option Builtin} {p : Program} {w : World} {n₀ : Nat} {ann : Option Value} {b : Nat} (k : Nat) : ∀ (n : Nat) (s : Shared) (t : Thread) (r : Flow × Shared × Code × Pos),
    segRun tb p w n₀ ann b n s t = some r → segRun tb p w n₀ ann b (n + k) s t = some r
  | 0, _, _, _, h => by simp [segRun] at h
  | n + 1, s, t, r, h => by
    rw [show n + 1 + k = n + k + 1 by lia]
    unfold segRun at h ⊢
    cases he : endAt b t with
    | some f => rw [he] at h; exact h
    | none =>
      rw [he] at h
      cases hk : stepOk n₀ ann t with
      | false => rw [hk] at h; cases h
      | true =>
        rw [hk] at h
        cases hs : step (denote tb) p w s t with
        | halt o s' => rw [hs] at h; cases h
        | go s' t' => rw [hs] at h; exact segRun_mono k n s' t' r h
theorem seg_goes {α β : Type} {N M : Nat} {m : Sem α} {f : α → Sem β} {a : α} {s s' : Shared} {K : β → Sem Fin} {H : Value → Sem Fin} {gd : Bool → Bool} {lv : List Value → List Value} {pos : Pos} {r : Flow × Shared × Code × Pos}
    (h : Goes C N m s a s') (k : ∀ pos', segRun treeTable C.p C.w C.n₀ C.ann 1 M s' ⟨(f a).wrap K H gd lv, .body C.b C.env, pos', [topFrame C.q]⟩ = some r) :
    segRun treeTable C.p C.w C.n₀ C.ann 1 (N + M) s ⟨(m.bind f).wrap K H gd lv, .body C.b C.env, pos, [topFrame C.q]⟩ = some r := by
  obtain ⟨n, p', l, e⟩ := h (fun a => (f a).wrap K H gd lv) H gd lv pos
  rw [Sem.bind_eq_wrap, Sem.wrap_wrap]
  have := segRun_mono (N - n) _ _ _ _ (seg_go e (k p'))
  rw [show n + M + (N - n) = N + M by lia] at this
  exact this

noncomputable def litVal (k : Nat) (v : Expr) : Option Pr := match v with
  | .Constant c _ _ => (match c with
    | .str v => if k < 1152921504606846976 then some (k, v) else none
    | _ => none)
  | _ => none
noncomputable def litOne (k : Option Expr) (v : Expr) : Option Pr := match k with
  | some e => (match e with
    | .Constant c _ _ => (match c with
      | .int i => (match i with
        | .ofNat k => litVal k v
        | .negSucc _ => none)
      | _ => none)
    | _ => none)
  | none => none
noncomputable def litPairs : List (Option Expr) → List Expr → Option (List Pr)
  | [], vs => (match vs with
    | [] => some []
    | _ :: _ => none)
  | k :: ks, vs => (match vs with
    | [] => none
    | v :: vs => (litOne k v).bind fun p => (litPairs ks vs).map (p :: ·))
theorem litVal_form {k : Nat} {v : Expr} {p : Pr} (h : litVal k v = some p) : ∃ u b1 b2, v = .Constant (.str u) b1 b2 ∧ k < 1152921504606846976 ∧ p = (k, u) := by
  cases v with
  | Constant c b1 b2 => cases c with
    | str u =>
      have h : (if k < 1152921504606846976 then some (k, u) else none) = some p := h
      by_cases hk : k < 1152921504606846976
      · rw [if_pos hk] at h
        exact ⟨u, b1, b2, rfl, hk, (Option.some.inj h).symm⟩
      · rw [if_neg hk] at h; cases h
    | _ => exact absurd (show (none : Option Pr) = some p from h) nofun
  | _ => exact absurd (show (none : Option Pr) = some p from h) nofun
theorem litOne_form {k : Option Expr} {v : Expr} {p : Pr} (h : litOne k v = some p) : ∃ i a1 a2, k = some (.Constant (.int (.ofNat i)) a1 a2) ∧ litVal i v = some p := by
  cases k with
  | none => exact absurd (show (none : Option Pr) = some p from h) nofun
  | some e => cases e with
    | Constant c a1 a2 => cases c with
      | int i => cases i with
        | ofNat i => exact ⟨i, a1, a2, rfl, h⟩
        | negSucc _ => exact absurd (show (none : Option Pr) = some p from h) nofun
      | _ => exact absurd (show (none : Option Pr) = some p from h) nofun
    | _ => exact absurd (show (none : Option Pr) = some p from h) nofun
noncomputable def inc : List Pr → Bool
  | [] => true
  | [_] => true
  | a :: b :: r => Nat.blt a.1 b.1 && inc (b :: r)
theorem inc_le : ∀ {a : Pr} {r : List Pr}, inc (a :: r) = true → ∀ b ∈ r, a.1 < b.1
  | a, [], _, b, hb => by cases hb
  | a, c :: r, h, b, hb => by
    obtain ⟨h1, h2⟩ := Bool.and_eq_true_iff.mp h
    have h1' : a.1 < c.1 := Nat.le_of_ble_eq_true h1
    rcases List.mem_cons.mp hb with rfl | hb
    · exact h1'
    · exact Nat.lt_trans h1' (inc_le h2 b hb)
theorem inc_tail : ∀ {a : Pr} {r : List Pr}, inc (a :: r) = true → inc r = true
  | _, [], _ => rfl
  | _, _ :: _, h => (Bool.and_eq_true_iff.mp h).2
theorem inc_pw : ∀ {r : List Pr}, inc r = true → r.Pairwise (fun a b => a.1 < b.1)
  | [], _ => .nil
  | a :: r, h => List.pairwise_cons.mpr ⟨inc_le h, inc_pw (inc_tail h)⟩

noncomputable def itemsOf (ks : List (Option Expr)) (vs : List Expr) (dp : Pos) (env : Env) : List (Option (Sem Value) × Sem Value) :=
  (evalEachOpt ks env).zip ((evalEach vs env).map fun v => do let x ← v; standAt dp; pure x)
theorem lit_cons {k0 : Option Expr} {ks : List (Option Expr)} {v0 : Expr} {vs : List Expr} {ps : List Pr} (h : litPairs (k0 :: ks) (v0 :: vs) = some ps) :
    ∃ k v a1 a2 b1 b2 ps', k0 = some (.Constant (.int (.ofNat k)) a1 a2) ∧ v0 = .Constant (.str v) b1 b2 ∧ k < 1152921504606846976 ∧ litPairs ks vs = some ps' ∧ ps = (k, v) :: ps' := by
  have h : ((litOne k0 v0).bind fun p => (litPairs ks vs).map (p :: ·)) = some ps := h
  obtain ⟨p, h1, h2⟩ := Option.bind_eq_some_iff.mp h
  obtain ⟨ps', h', rfl⟩ := Option.map_eq_some_iff.mp h2
  obtain ⟨i, a1, a2, e1, h3⟩ := litOne_form h1
  obtain ⟨u, b1, b2, e2, hk, rfl⟩ := litVal_form h3
  exact ⟨_, _, _, _, _, _, ps', e1, e2, hk, h', rfl⟩
theorem items_of {dp : Pos} : ∀ {ks : List (Option Expr)} {vs : List Expr} {ps : List Pr}, litPairs ks vs = some ps → ∃ xs, itemsOf ks vs dp C.env = xs.map mk ∧ Items C xs ps
  | [], [], ps, h => by
    obtain rfl : [] = ps := Option.some.inj (show some [] = some ps from h)
    exact ⟨[], rfl, .nil⟩
  | k0 :: ks, v0 :: vs, ps, h => by
    obtain ⟨k, v', a1, a2, b1, b2, ps', rfl, rfl, hk, h', rfl⟩ := lit_cons h
    obtain ⟨xs, hx, I⟩ := items_of (dp := dp) h'
    refine ⟨(eval (.Constant (.int (.ofNat k)) a1 a2) C.env, do let x ← eval (.Constant (.str v') b1 b2) C.env; standAt dp; pure x) :: xs, ?_, .cons ⟨fun s => ?_, fun s => ?_, hk⟩ I⟩
    · rw [List.map_cons, ← hx]; rfl
    · show Goes C 1 (mkInt (k : Int)) s _ _
      exact (goes_bind' (m := fresh) (f := fun t => (pure (Value.int (k : Int) t) : Sem Value)) goes_fresh goes_pure').le (Nat.le_refl _)
    · show Goes C 2 ((mkText v') >>= fun x => standAt dp >>= fun _ => pure x) s _ _
      have h1 : Goes C 1 (mkText v') s (.str v' s.toks) { s with toks := s.toks + 1 } := (goes_bind' (m := fresh) (f := fun t => (pure (Value.str v' t) : Sem Value)) goes_fresh goes_pure').le (Nat.le_refl _)
      exact (goes_bind' h1 (goes_bind' (n₂ := 0) (m := standAt dp) (f := fun _ => (pure (Value.str v' s.toks) : Sem Value)) goes_at goes_pure')).le (Nat.le_refl _)
  | k0 :: ks, [], ps, h => absurd (show (none : Option (List Pr)) = some ps from h) nofun
  | [], _ :: _, ps, h => absurd (show (none : Option (List Pr)) = some ps from h) nofun

noncomputable def storeTail (x : Str) (np : Pos) (ks : List (Option Expr)) (vs : List Expr) (dp : Pos) (env : Env) (v : Value) : Sem Flow :=
  (swappedStores [.Name x np] (.Dict ks vs dp) env).bind fun sw => assignStores env v sw ((assignEach [.Name x np] env).map (·.2))
theorem exec_dict (x : Str) (np : Pos) (ks : List (Option Expr)) (vs : List Expr) (dp pos : Pos) (env : Env) :
    exec (.Assign [.Name x np] (.Dict ks vs dp) pos) env = (standAt pos).bind fun _ => (standAt dp).bind fun _ => (dictDisplay (itemsOf ks vs dp env)).bind (storeTail x np ks vs dp env) := rfl

theorem seg_dict {x : Str} {np : Pos} {ks : List (Option Expr)} {vs : List Expr} {dp pos : Pos} {N M : Nat} {s s' : Shared} {v : Value} {K : Flow → Sem Fin} {H : Value → Sem Fin} {gd : Bool → Bool} {lv : List Value → List Value} {p : Pos} {r : Flow × Shared × Code × Pos}
    (h : Goes C N (dictDisplay (itemsOf ks vs dp C.env)) s v s') (k : ∀ pos', segRun treeTable C.p C.w C.n₀ C.ann 1 M s' ⟨(storeTail x np ks vs dp C.env v).wrap K H gd lv, .body C.b C.env, pos', [topFrame C.q]⟩ = some r) :
    segRun treeTable C.p C.w C.n₀ C.ann 1 (1 + (1 + (N + M))) s ⟨(exec (.Assign [.Name x np] (.Dict ks vs dp) pos) C.env).wrap K H gd lv, .body C.b C.env, p, [topFrame C.q]⟩ = some r := by
  rw [exec_dict]
  exact seg_goes goes_at fun _ => seg_goes goes_at fun _ => seg_goes h k
end
end
end Mine
namespace Mine
open PySem PySem.W PyProof.Rows PySem.Calls
noncomputable section
namespace L2
noncomputable abbrev pp : Program := PySem.Challenge.pw_ta0051_02
noncomputable abbrev bd : List Stmt := behindTheImports pp
noncomputable def fd (st : Stmt) (g : Addr) (pm code : Value) (b : Addr) : FuncData := match st with | .FunctionDef name args body _ _ _ scope _ _ _ => { name := name, qualname := name, params := args, body := .stmts body, scope := scope, globals := g, closure := [], defaults := .none, kwdefaults := .none, pyModule := pm, code := code, builtins := b } | _ => default
noncomputable def st0 : Stmt := (bd[0]?).getD default
noncomputable def st1 : Stmt := (bd[1]?).getD default
noncomputable def st2 : Stmt := (bd[2]?).getD default
noncomputable def st3 : Stmt := (bd[3]?).getD default
noncomputable def st4 : Stmt := (bd[4]?).getD default
noncomputable def st5 : Stmt := (bd[5]?).getD default
noncomputable def st6 : Stmt := (bd[6]?).getD default
noncomputable def st7 : Stmt := (bd[7]?).getD default
noncomputable def st8 : Stmt := (bd[8]?).getD default
noncomputable def st9 : Stmt := (bd[9]?).getD default
noncomputable def st10 : Stmt := (bd[10]?).getD default
noncomputable def st11 : Stmt := (bd[11]?).getD default
noncomputable def st12 : Stmt := (bd[12]?).getD default
noncomputable def st13 : Stmt := (bd[13]?).getD default
noncomputable def st14 : Stmt := (bd[14]?).getD default
noncomputable def st15 : Stmt := (bd[15]?).getD default
noncomputable def st16 : Stmt := (bd[16]?).getD default
noncomputable def st17 : Stmt := (bd[17]?).getD default
noncomputable def st18 : Stmt := (bd[18]?).getD default
noncomputable def st19 : Stmt := (bd[19]?).getD default
theorem bd_eq : bd = [st0, st1, st2, st3, st4, st5, st6, st7, st8, st9, st10, st11, st12, st13, st14, st15, st16, st17, st18, st19] := by kernel_rfl!
noncomputable abbrev env : Env := { scope := pp.main.scope, locals := mainNs, globals := mainNs, cells := [], code := (.ref 13), frame := some 14 }
noncomputable def ks3 : List (Option Expr) := match st5 with | .Assign _ (.Dict ks _ _) _ => ks | _ => []
noncomputable def vs3 : List Expr := match st5 with | .Assign _ (.Dict _ vs _) _ => vs | _ => []
theorem st_eq : st5 = .Assign [.Name (PySem.Str.ofString "b3_exceptions") ⟨14, 0, 14, 13⟩] (.Dict ks3 vs3 ⟨14, 16, 14, 8704⟩) ⟨14, 0, 14, 8704⟩ := by kernel_rfl!
noncomputable def ps3 : List Pr := (litPairs ks3 vs3).getD []
theorem getD_some {α : Type} {o : Option α} {d : α} (h : o.isSome = true) : o = some (o.getD d) := by cases o with | none => cases h | some => rfl
theorem lit_eq : litPairs ks3 vs3 = some ps3 := getD_some (by decide +kernel)
theorem ps_inc : inc ps3 = true := by decide +kernel
theorem ps_len : ps3.length = 650 := by decide +kernel
noncomputable def b3E : List DictEntry := entL 268 (ps3.take 646) ++ entS 2206 (ps3.drop 646)
noncomputable def b3S : List Obj := subObjs 319 37 (ps3.drop 17) ++ [dobj (entS 2206 (ps3.drop 646)) 4]
noncomputable def o11v0 (P : Params) : Obj := ⟨(.type "tuple"), none, (.seq #[] 0), #[]⟩
noncomputable def o12v0 (P : Params) : Obj := ⟨(.none), none, (.fields #[]), #[]⟩
noncomputable def o13v0 (P : Params) : Obj := ⟨(.type "code"), none, (.fields #[(.str ⟨#[60, 109, 111, 100, 117, 108, 101, 62]⟩ 182), (.str ⟨#[60, 109, 111, 100, 117, 108, 101, 62]⟩ 183), (.str ⟨#[47, 99, 108, 97, 105, 109, 47, 99, 117, 116, 46, 112, 121]⟩ 184), (.int 1 0), (.int 0 0), (.int 0 0), (.int 0 0), (.int 0 0), (.ref 11), (.bool false), (.int 181 0), (.ref 12), (.none), (.none), (.none), (.none), (.int 185 0), (.int 1 0), (.str ⟨#[47, 99, 108, 97, 105, 109, 47, 99, 117, 116, 46, 112, 121]⟩ 186)]), #[]⟩
noncomputable def o14v0 (P : Params) : Obj := ⟨(.type "frame"), none, .plain, #[(some (.ref 13)), (some (.ref 3)), (some (.ref 3)), none, (some (.str ⟨#[95, 95, 109, 97, 105, 110, 95, 95]⟩ 164)), none, (some (.ref 0))]⟩
noncomputable def T0 (P : Params) : BT := (.node (boot_o_0 P) (.node (boot_o_1 P) (.node (boot_o_3 P) (.node (boot_o_7 P) .nil .nil) (.node (o11v0 P) .nil .nil)) (.node (boot_o_5 P) (.node (boot_o_9 P) .nil .nil) (.node (o13v0 P) .nil .nil))) (.node (boot_o_2 P) (.node (boot_o_4 P) (.node (boot_o_8 P) .nil .nil) (.node (o12v0 P) .nil .nil)) (.node (boot_o_6 P) (.node (boot_o_10 P) .nil .nil) (.node (o14v0 P) .nil .nil))))
noncomputable def H0 (P : Params) : Heap := Heap.mk (Array.mk [boot_o_0 P, boot_o_1 P, boot_o_2 P, boot_o_3 P, boot_o_4 P, boot_o_5 P, boot_o_6 P, boot_o_7 P, boot_o_8 P, boot_o_9 P, boot_o_10 P, o11v0 P, o12v0 P, o13v0 P, o14v0 P]) {}
theorem pre_run (w : World) (os : OsState) : topGo treeTable pp w 11 (some (.ref 6)) 12 ⟨boot_heap w.params, Array.mk [], boot_drawn, boot_toks, os⟩ (topStub pp) = some (⟨H0 w.params, #[], {}, 187, os⟩, ⟨denote treeTable (.body bd env), .body bd env, ⟨0, 0, 0, 0⟩, [topFrame ⟨0, 0, 0, 0⟩]⟩) := by
  rw [PySem.W.Fast.te15667345088766844465, PySem.W.Fast.te14364793385576792824, PySem.W.Fast.te11892475500146522536]
  kernel_rfl!
theorem block_run (w : World) (os : OsState) : segRun treeTable pp w 11 (some (.ref 6)) 1 1 ⟨H0 w.params, #[], {}, 187, os⟩ (blockOf bd env (.body bd env) ⟨0, 0, 0, 0⟩ [topFrame ⟨0, 0, 0, 0⟩]) = some (.next, SharedT.abs ⟨T0 w.params, 15, {}, #[], {}, 187, os⟩, .body bd env, ⟨0, 0, 0, 0⟩) := by
  rw [PySem.W.Fast.te14374325043358763698, PySem.W.Fast.te14364793385576792824]
  kernel_rfl!
noncomputable def o3v1 (P : Params) : Obj := ⟨(.type "dict"), none, (.dict #[⟨PyData.keyHash P ⟨#[95, 95, 110, 97, 109, 101, 95, 95]⟩, (.str ⟨#[95, 95, 110, 97, 109, 101, 95, 95]⟩ 165), (.str ⟨#[99, 112, 121, 51, 49, 51, 46, 105, 109, 97, 112, 108, 105, 98]⟩ 187)⟩, ⟨PyData.keyHash P ⟨#[95, 95, 100, 111, 99, 95, 95]⟩, (.str ⟨#[95, 95, 100, 111, 99, 95, 95]⟩ 166), (.none)⟩, ⟨PyData.keyHash P ⟨#[95, 95, 112, 97, 99, 107, 97, 103, 101, 95, 95]⟩, (.str ⟨#[95, 95, 112, 97, 99, 107, 97, 103, 101, 95, 95]⟩ 167), (.none)⟩, ⟨PyData.keyHash P ⟨#[95, 95, 108, 111, 97, 100, 101, 114, 95, 95]⟩, (.str ⟨#[95, 95, 108, 111, 97, 100, 101, 114, 95, 95]⟩ 168), (.builtin "__main__.__loader__#opaque")⟩, ⟨PyData.keyHash P ⟨#[95, 95, 115, 112, 101, 99, 95, 95]⟩, (.str ⟨#[95, 95, 115, 112, 101, 99, 95, 95]⟩ 169), (.none)⟩, ⟨PyData.keyHash P ⟨#[95, 95, 97, 110, 110, 111, 116, 97, 116, 105, 111, 110, 115, 95, 95]⟩, (.str ⟨#[95, 95, 97, 110, 110, 111, 116, 97, 116, 105, 111, 110, 115, 95, 95]⟩ 170), (.ref 6)⟩, ⟨PyData.keyHash P ⟨#[95, 95, 98, 117, 105, 108, 116, 105, 110, 115, 95, 95]⟩, (.str ⟨#[95, 95, 98, 117, 105, 108, 116, 105, 110, 115, 95, 95]⟩ 171), (.ref 4)⟩, ⟨PyData.keyHash P ⟨#[95, 95, 102, 105, 108, 101, 95, 95]⟩, (.str ⟨#[95, 95, 102, 105, 108, 101, 95, 95]⟩ 173), (.str ⟨#[47, 99, 108, 97, 105, 109, 47, 99, 117, 116, 46, 112, 121]⟩ 172)⟩, ⟨PyData.keyHash P ⟨#[95, 95, 99, 97, 99, 104, 101, 100, 95, 95]⟩, (.str ⟨#[95, 95, 99, 97, 99, 104, 101, 100, 95, 95]⟩ 174), (.none)⟩] 9), #[]⟩
noncomputable def T1 (P : Params) : BT := (.node (boot_o_0 P) (.node (boot_o_1 P) (.node (o3v1 P) (.node (boot_o_7 P) .nil .nil) (.node (o11v0 P) .nil .nil)) (.node (boot_o_5 P) (.node (boot_o_9 P) .nil .nil) (.node (o13v0 P) .nil .nil))) (.node (boot_o_2 P) (.node (boot_o_4 P) (.node (boot_o_8 P) .nil .nil) (.node (o12v0 P) .nil .nil)) (.node (boot_o_6 P) (.node (boot_o_10 P) .nil .nil) (.node (o14v0 P) .nil .nil))))
theorem pt0 (w : World) (os : OsState) : segRunT treeTable pp w 11 (some (.ref 6)) 1 10 ⟨T0 w.params, 15, {}, #[], {}, 187, os⟩ (piecesOf [st0] env (.body bd env) ⟨0, 0, 0, 0⟩ [topFrame ⟨0, 0, 0, 0⟩]) = some (.next, ⟨T1 w.params, 15, {}, #[], {}, 189, os⟩, .body bd env, ⟨1, 0, 1, 8⟩) := by
  show segRunT treeTable pp _ 11 (some (.ref 6)) 1 10 _ ⟨(execs [st0] env).wrap doneF deadEnd id id, .body bd env, ⟨0, 0, 0, 0⟩, [topFrame ⟨0, 0, 0, 0⟩]⟩ = _
  rw [PySem.W.Fast.te10110043849684766642, PySem.W.Fast.te14364793385576792824, PySem.W.Fast.te12563942051412417395]
  kernel_rfl!
theorem pc0 (w : World) (os : OsState) : segRun treeTable pp w 11 (some (.ref 6)) 1 10 (SharedT.abs ⟨T0 w.params, 15, {}, #[], {}, 187, os⟩) (piecesOf [st0] env (.body bd env) ⟨0, 0, 0, 0⟩ [topFrame ⟨0, 0, 0, 0⟩]) = some (.next, SharedT.abs ⟨T1 w.params, 15, {}, #[], {}, 189, os⟩, .body bd env, ⟨1, 0, 1, 8⟩) := segRun_of (pt0 w os)
noncomputable def o3v2 (P : Params) : Obj := ⟨(.type "dict"), none, (.dict #[⟨PyData.keyHash P ⟨#[95, 95, 110, 97, 109, 101, 95, 95]⟩, (.str ⟨#[95, 95, 110, 97, 109, 101, 95, 95]⟩ 165), (.str ⟨#[99, 112, 121, 51, 49, 51, 46, 105, 109, 97, 112, 108, 105, 98]⟩ 187)⟩, ⟨PyData.keyHash P ⟨#[95, 95, 100, 111, 99, 95, 95]⟩, (.str ⟨#[95, 95, 100, 111, 99, 95, 95]⟩ 166), (.none)⟩, ⟨PyData.keyHash P ⟨#[95, 95, 112, 97, 99, 107, 97, 103, 101, 95, 95]⟩, (.str ⟨#[95, 95, 112, 97, 99, 107, 97, 103, 101, 95, 95]⟩ 167), (.none)⟩, ⟨PyData.keyHash P ⟨#[95, 95, 108, 111, 97, 100, 101, 114, 95, 95]⟩, (.str ⟨#[95, 95, 108, 111, 97, 100, 101, 114, 95, 95]⟩ 168), (.builtin "__main__.__loader__#opaque")⟩, ⟨PyData.keyHash P ⟨#[95, 95, 115, 112, 101, 99, 95, 95]⟩, (.str ⟨#[95, 95, 115, 112, 101, 99, 95, 95]⟩ 169), (.none)⟩, ⟨PyData.keyHash P ⟨#[95, 95, 97, 110, 110, 111, 116, 97, 116, 105, 111, 110, 115, 95, 95]⟩, (.str ⟨#[95, 95, 97, 110, 110, 111, 116, 97, 116, 105, 111, 110, 115, 95, 95]⟩ 170), (.ref 6)⟩, ⟨PyData.keyHash P ⟨#[95, 95, 98, 117, 105, 108, 116, 105, 110, 115, 95, 95]⟩, (.str ⟨#[95, 95, 98, 117, 105, 108, 116, 105, 110, 115, 95, 95]⟩ 171), (.ref 4)⟩, ⟨PyData.keyHash P ⟨#[95, 95, 102, 105, 108, 101, 95, 95]⟩, (.str ⟨#[95, 95, 102, 105, 108, 101, 95, 95]⟩ 173), (.str ⟨#[47, 99, 108, 97, 105, 109, 47, 99, 117, 116, 46, 112, 121]⟩ 172)⟩, ⟨PyData.keyHash P ⟨#[95, 95, 99, 97, 99, 104, 101, 100, 95, 95]⟩, (.str ⟨#[95, 95, 99, 97, 99, 104, 101, 100, 95, 95]⟩ 174), (.none)⟩, ⟨PyData.keyHash P ⟨#[73, 110, 116, 50, 65, 80]⟩, (.str ⟨#[73, 110, 116, 50, 65, 80]⟩ 198), (.ref 21)⟩] 10), #[]⟩
noncomputable def o12v1 (P : Params) : Obj := ⟨(.none), none, (.fields #[(.int 2 0), (.int 0 0), (.ref 20)]), #[]⟩
noncomputable def o15v0 (P : Params) : Obj := ⟨(.type "tuple"), none, (.seq #[] 0), #[]⟩
noncomputable def o16v0 (P : Params) : Obj := ⟨(.none), none, (.fields #[]), #[]⟩
noncomputable def o17v0 (P : Params) : Obj := ⟨(.type "tuple"), none, (.seq #[(.str ⟨#[110, 117, 109]⟩ 192), (.str ⟨#[118, 97, 108]⟩ 193), (.str ⟨#[65, 80]⟩ 194), (.str ⟨#[109, 111, 100]⟩ 195)] 0), #[]⟩
noncomputable def o18v0 (P : Params) : Obj := ⟨(.type "tuple"), none, (.seq #[] 0), #[]⟩
noncomputable def o19v0 (P : Params) : Obj := ⟨(.none), none, .func (fd st1 0 (.none) (.none) 0), #[]⟩
noncomputable def o20v0 (P : Params) : Obj := ⟨(.type "code"), none, (.fields #[(.str ⟨#[73, 110, 116, 50, 65, 80]⟩ 189), (.str ⟨#[73, 110, 116, 50, 65, 80]⟩ 190), (.str ⟨#[47, 99, 108, 97, 105, 109, 47, 99, 117, 116, 46, 112, 121]⟩ 191), (.int 2 0), (.int 1 0), (.int 0 0), (.int 0 0), (.int 3 0), (.ref 15), (.bool true), (.int 181 0), (.ref 16), (.none), (.ref 17), (.ref 18), (.ref 19), (.int 196 0), (.int 2 0), (.str ⟨#[47, 99, 108, 97, 105, 109, 47, 99, 117, 116, 46, 112, 121]⟩ 197)]), #[]⟩
noncomputable def o21v0 (P : Params) : Obj := ⟨(.type "function"), none, .func (fd st1 3 (.str ⟨#[99, 112, 121, 51, 49, 51, 46, 105, 109, 97, 112, 108, 105, 98]⟩ 187) (.ref 20) 0), #[]⟩
noncomputable def T2 (P : Params) : BT := (.node (boot_o_0 P) (.node (boot_o_1 P) (.node (o3v2 P) (.node (boot_o_7 P) (.node (o15v0 P) .nil .nil) .nil) (.node (o11v0 P) (.node (o19v0 P) .nil .nil) .nil)) (.node (boot_o_5 P) (.node (boot_o_9 P) (.node (o17v0 P) .nil .nil) .nil) (.node (o13v0 P) (.node (o21v0 P) .nil .nil) .nil))) (.node (boot_o_2 P) (.node (boot_o_4 P) (.node (boot_o_8 P) (.node (o16v0 P) .nil .nil) .nil) (.node (o12v1 P) (.node (o20v0 P) .nil .nil) .nil)) (.node (boot_o_6 P) (.node (boot_o_10 P) (.node (o18v0 P) .nil .nil) .nil) (.node (o14v0 P) .nil .nil))))
theorem pt1 (w : World) (os : OsState) : segRunT treeTable pp w 11 (some (.ref 6)) 1 33 ⟨T1 w.params, 15, {}, #[], {}, 189, os⟩ (piecesOf [st1] env (.body bd env) ⟨1, 0, 1, 8⟩ [topFrame ⟨0, 0, 0, 0⟩]) = some (.next, ⟨T2 w.params, 22, {}, #[], {}, 199, os⟩, .body bd env, ⟨2, 0, 9, 14⟩) := by
  show segRunT treeTable pp _ 11 (some (.ref 6)) 1 33 _ ⟨(execs [st1] env).wrap doneF deadEnd id id, .body bd env, ⟨1, 0, 1, 8⟩, [topFrame ⟨0, 0, 0, 0⟩]⟩ = _
  rw [PySem.W.Fast.te10110043849684766642, PySem.W.Fast.te14364793385576792824, PySem.W.Fast.te12563942051412417395]
  kernel_rfl!
theorem pc1 (w : World) (os : OsState) : segRun treeTable pp w 11 (some (.ref 6)) 1 33 (SharedT.abs ⟨T1 w.params, 15, {}, #[], {}, 189, os⟩) (piecesOf [st1] env (.body bd env) ⟨1, 0, 1, 8⟩ [topFrame ⟨0, 0, 0, 0⟩]) = some (.next, SharedT.abs ⟨T2 w.params, 22, {}, #[], {}, 199, os⟩, .body bd env, ⟨2, 0, 9, 14⟩) := segRun_of (pt1 w os)
noncomputable def o3v3 (P : Params) : Obj := ⟨(.type "dict"), none, (.dict #[⟨PyData.keyHash P ⟨#[95, 95, 110, 97, 109, 101, 95, 95]⟩, (.str ⟨#[95, 95, 110, 97, 109, 101, 95, 95]⟩ 165), (.str ⟨#[99, 112, 121, 51, 49, 51, 46, 115, 116, 114, 105, 110, 103, 112, 114, 101, 112]⟩ 199)⟩, ⟨PyData.keyHash P ⟨#[95, 95, 100, 111, 99, 95, 95]⟩, (.str ⟨#[95, 95, 100, 111, 99, 95, 95]⟩ 166), (.none)⟩, ⟨PyData.keyHash P ⟨#[95, 95, 112, 97, 99, 107, 97, 103, 101, 95, 95]⟩, (.str ⟨#[95, 95, 112, 97, 99, 107, 97, 103, 101, 95, 95]⟩ 167), (.none)⟩, ⟨PyData.keyHash P ⟨#[95, 95, 108, 111, 97, 100, 101, 114, 95, 95]⟩, (.str ⟨#[95, 95, 108, 111, 97, 100, 101, 114, 95, 95]⟩ 168), (.builtin "__main__.__loader__#opaque")⟩, ⟨PyData.keyHash P ⟨#[95, 95, 115, 112, 101, 99, 95, 95]⟩, (.str ⟨#[95, 95, 115, 112, 101, 99, 95, 95]⟩ 169), (.none)⟩, ⟨PyData.keyHash P ⟨#[95, 95, 97, 110, 110, 111, 116, 97, 116, 105, 111, 110, 115, 95, 95]⟩, (.str ⟨#[95, 95, 97, 110, 110, 111, 116, 97, 116, 105, 111, 110, 115, 95, 95]⟩ 170), (.ref 6)⟩, ⟨PyData.keyHash P ⟨#[95, 95, 98, 117, 105, 108, 116, 105, 110, 115, 95, 95]⟩, (.str ⟨#[95, 95, 98, 117, 105, 108, 116, 105, 110, 115, 95, 95]⟩ 171), (.ref 4)⟩, ⟨PyData.keyHash P ⟨#[95, 95, 102, 105, 108, 101, 95, 95]⟩, (.str ⟨#[95, 95, 102, 105, 108, 101, 95, 95]⟩ 173), (.str ⟨#[47, 99, 108, 97, 105, 109, 47, 99, 117, 116, 46, 112, 121]⟩ 172)⟩, ⟨PyData.keyHash P ⟨#[95, 95, 99, 97, 99, 104, 101, 100, 95, 95]⟩, (.str ⟨#[95, 95, 99, 97, 99, 104, 101, 100, 95, 95]⟩ 174), (.none)⟩, ⟨PyData.keyHash P ⟨#[73, 110, 116, 50, 65, 80]⟩, (.str ⟨#[73, 110, 116, 50, 65, 80]⟩ 198), (.ref 21)⟩] 10), #[]⟩
noncomputable def T3 (P : Params) : BT := (.node (boot_o_0 P) (.node (boot_o_1 P) (.node (o3v3 P) (.node (boot_o_7 P) (.node (o15v0 P) .nil .nil) .nil) (.node (o11v0 P) (.node (o19v0 P) .nil .nil) .nil)) (.node (boot_o_5 P) (.node (boot_o_9 P) (.node (o17v0 P) .nil .nil) .nil) (.node (o13v0 P) (.node (o21v0 P) .nil .nil) .nil))) (.node (boot_o_2 P) (.node (boot_o_4 P) (.node (boot_o_8 P) (.node (o16v0 P) .nil .nil) .nil) (.node (o12v1 P) (.node (o20v0 P) .nil .nil) .nil)) (.node (boot_o_6 P) (.node (boot_o_10 P) (.node (o18v0 P) .nil .nil) .nil) (.node (o14v0 P) .nil .nil))))
theorem pt2 (w : World) (os : OsState) : segRunT treeTable pp w 11 (some (.ref 6)) 1 10 ⟨T2 w.params, 22, {}, #[], {}, 199, os⟩ (piecesOf [st2] env (.body bd env) ⟨2, 0, 9, 14⟩ [topFrame ⟨0, 0, 0, 0⟩]) = some (.next, ⟨T3 w.params, 22, {}, #[], {}, 201, os⟩, .body bd env, ⟨10, 0, 10, 8⟩) := by
  show segRunT treeTable pp _ 11 (some (.ref 6)) 1 10 _ ⟨(execs [st2] env).wrap doneF deadEnd id id, .body bd env, ⟨2, 0, 9, 14⟩, [topFrame ⟨0, 0, 0, 0⟩]⟩ = _
  rw [PySem.W.Fast.te10110043849684766642, PySem.W.Fast.te14364793385576792824, PySem.W.Fast.te12563942051412417395]
  kernel_rfl!
theorem pc2 (w : World) (os : OsState) : segRun treeTable pp w 11 (some (.ref 6)) 1 10 (SharedT.abs ⟨T2 w.params, 22, {}, #[], {}, 199, os⟩) (piecesOf [st2] env (.body bd env) ⟨2, 0, 9, 14⟩ [topFrame ⟨0, 0, 0, 0⟩]) = some (.next, SharedT.abs ⟨T3 w.params, 22, {}, #[], {}, 201, os⟩, .body bd env, ⟨10, 0, 10, 8⟩) := segRun_of (pt2 w os)
noncomputable def o3v4 (P : Params) : Obj := ⟨(.type "dict"), none, (.dict #[⟨PyData.keyHash P ⟨#[95, 95, 110, 97, 109, 101, 95, 95]⟩, (.str ⟨#[95, 95, 110, 97, 109, 101, 95, 95]⟩ 165), (.str ⟨#[99, 112, 121, 51, 49, 51, 46, 115, 116, 114, 105, 110, 103, 112, 114, 101, 112]⟩ 199)⟩, ⟨PyData.keyHash P ⟨#[95, 95, 100, 111, 99, 95, 95]⟩, (.str ⟨#[95, 95, 100, 111, 99, 95, 95]⟩ 166), (.none)⟩, ⟨PyData.keyHash P ⟨#[95, 95, 112, 97, 99, 107, 97, 103, 101, 95, 95]⟩, (.str ⟨#[95, 95, 112, 97, 99, 107, 97, 103, 101, 95, 95]⟩ 167), (.none)⟩, ⟨PyData.keyHash P ⟨#[95, 95, 108, 111, 97, 100, 101, 114, 95, 95]⟩, (.str ⟨#[95, 95, 108, 111, 97, 100, 101, 114, 95, 95]⟩ 168), (.builtin "__main__.__loader__#opaque")⟩, ⟨PyData.keyHash P ⟨#[95, 95, 115, 112, 101, 99, 95, 95]⟩, (.str ⟨#[95, 95, 115, 112, 101, 99, 95, 95]⟩ 169), (.none)⟩, ⟨PyData.keyHash P ⟨#[95, 95, 97, 110, 110, 111, 116, 97, 116, 105, 111, 110, 115, 95, 95]⟩, (.str ⟨#[95, 95, 97, 110, 110, 111, 116, 97, 116, 105, 111, 110, 115, 95, 95]⟩ 170), (.ref 6)⟩, ⟨PyData.keyHash P ⟨#[95, 95, 98, 117, 105, 108, 116, 105, 110, 115, 95, 95]⟩, (.str ⟨#[95, 95, 98, 117, 105, 108, 116, 105, 110, 115, 95, 95]⟩ 171), (.ref 4)⟩, ⟨PyData.keyHash P ⟨#[95, 95, 102, 105, 108, 101, 95, 95]⟩, (.str ⟨#[95, 95, 102, 105, 108, 101, 95, 95]⟩ 173), (.str ⟨#[47, 99, 108, 97, 105, 109, 47, 99, 117, 116, 46, 112, 121]⟩ 172)⟩, ⟨PyData.keyHash P ⟨#[95, 95, 99, 97, 99, 104, 101, 100, 95, 95]⟩, (.str ⟨#[95, 95, 99, 97, 99, 104, 101, 100, 95, 95]⟩ 174), (.none)⟩, ⟨PyData.keyHash P ⟨#[73, 110, 116, 50, 65, 80]⟩, (.str ⟨#[73, 110, 116, 50, 65, 80]⟩ 198), (.ref 21)⟩, ⟨PyData.keyHash P ⟨#[98, 49, 95, 115, 101, 116]⟩, (.str ⟨#[98, 49, 95, 115, 101, 116]⟩ 260), (.ref 29)⟩] 11), #[]⟩
noncomputable def o22v0 (P : Params) : Obj := ⟨(.type "list"), none, (.seq #[(.int 173 201), (.int 847 202), (.int 6150 203), (.int 6155 204), (.int 6156 205), (.int 6157 206), (.int 8203 207), (.int 8204 208), (.int 8205 209), (.int 8288 210), (.int 65279 211)] 0), #[]⟩
noncomputable def o23v0 (P : Params) : Obj := ⟨(.type "range"), none, (.fields #[(.int 65024 212), (.int 65040 213), (.int 1 214)]), #[]⟩
noncomputable def o24v0 (P : Params) : Obj := ⟨(.type "list"), none, (.seq #[(.int 65024 217), (.int 65025 218), (.int 65026 219), (.int 65027 220), (.int 65028 221), (.int 65029 222), (.int 65030 223), (.int 65031 224), (.int 65032 225), (.int 65033 226), (.int 65034 227), (.int 65035 228), (.int 65036 229), (.int 65037 230), (.int 65038 231), (.int 65039 232)] 18), #[]⟩
noncomputable def o25v0 (P : Params) : Obj := ⟨(.type "range_iterator"), none, (.fields #[(.int 65040 0), (.int 0 0), (.int 1 0)]), #[]⟩
noncomputable def o26v0 (P : Params) : Obj := ⟨(.type "tuple"), none, (.seq #[] 0), #[]⟩
noncomputable def o27v0 (P : Params) : Obj := ⟨(.type "StopIteration"), none, (.fields #[(.ref 26), (.none), (.none), (.none), (.bool false), (.none)]), #[]⟩
noncomputable def o28v0 (P : Params) : Obj := ⟨(.type "list"), none, (.seq #[(.int 173 201), (.int 847 202), (.int 6150 203), (.int 6155 204), (.int 6156 205), (.int 6157 206), (.int 8203 207), (.int 8204 208), (.int 8205 209), (.int 8288 210), (.int 65279 211), (.int 65024 217), (.int 65025 218), (.int 65026 219), (.int 65027 220), (.int 65028 221), (.int 65029 222), (.int 65030 223), (.int 65031 224), (.int 65032 225), (.int 65033 226), (.int 65034 227), (.int 65035 228), (.int 65036 229), (.int 65037 230), (.int 65038 231), (.int 65039 232)] 0), #[]⟩
noncomputable def o29v0 (P : Params) : Obj := ⟨(.type "set"), none, (.set #[(65024, (.int 65024 217)), (65025, (.int 65025 218)), (65026, (.int 65026 219)), (65027, (.int 65027 220)), (65028, (.int 65028 221)), (65029, (.int 65029 222)), (6150, (.int 6150 203)), (65030, (.int 65030 223)), (65031, (.int 65031 224)), (65032, (.int 65032 225)), (65033, (.int 65033 226)), (6155, (.int 6155 204)), (6156, (.int 6156 205)), (6157, (.int 6157 206)), (8203, (.int 8203 207)), (8204, (.int 8204 208)), (8205, (.int 8205 209)), (65034, (.int 65034 227)), (65035, (.int 65035 228)), (65036, (.int 65036 229)), (65037, (.int 65037 230)), (65038, (.int 65038 231)), (65039, (.int 65039 232)), (173, (.int 173 201)), (847, (.int 847 202)), (8288, (.int 8288 210)), (65279, (.int 65279 211))] 29 ⟨127, #[0, 1, 2, 3, 4, 5, 6, 7, 8, 9, 10, 11, 12, 13, 14, 15, 16, 17, 18, 19, 20, 21, 22, 45, 79, 96, 127], #[], 0, !P.followText "set-order", 2, true⟩), #[]⟩
noncomputable def o30v0 (P : Params) : Obj := ⟨(.type "list_iterator"), none, (.fields #[(.none), (.int 27 0)]), #[]⟩
noncomputable def o31v0 (P : Params) : Obj := ⟨(.type "tuple"), none, (.seq #[] 0), #[]⟩
noncomputable def o32v0 (P : Params) : Obj := ⟨(.type "StopIteration"), none, (.fields #[(.ref 31), (.none), (.none), (.none), (.bool false), (.none)]), #[]⟩
noncomputable def T4 (P : Params) : BT := (.node (boot_o_0 P) (.node (boot_o_1 P) (.node (o3v4 P) (.node (boot_o_7 P) (.node (o15v0 P) (.node (o31v0 P) .nil .nil) .nil) (.node (o23v0 P) .nil .nil)) (.node (o11v0 P) (.node (o19v0 P) .nil .nil) (.node (o27v0 P) .nil .nil))) (.node (boot_o_5 P) (.node (boot_o_9 P) (.node (o17v0 P) .nil .nil) (.node (o25v0 P) .nil .nil)) (.node (o13v0 P) (.node (o21v0 P) .nil .nil) (.node (o29v0 P) .nil .nil)))) (.node (boot_o_2 P) (.node (boot_o_4 P) (.node (boot_o_8 P) (.node (o16v0 P) (.node (o32v0 P) .nil .nil) .nil) (.node (o24v0 P) .nil .nil)) (.node (o12v1 P) (.node (o20v0 P) .nil .nil) (.node (o28v0 P) .nil .nil))) (.node (boot_o_6 P) (.node (boot_o_10 P) (.node (o18v0 P) .nil .nil) (.node (o26v0 P) .nil .nil)) (.node (o14v0 P) (.node (o22v0 P) .nil .nil) (.node (o30v0 P) .nil .nil)))))
theorem pt3_false_false (w : World) (os : OsState) : segRunT treeTable pp ((w.withFollow "special-get-raises" false).withFollow "set-order" false) 11 (some (.ref 6)) 1 999 ⟨T3 ((w.withFollow "special-get-raises" false).withFollow "set-order" false).params, 22, {}, #[], {}, 201, os⟩ (piecesOf [st3] env (.body bd env) ⟨10, 0, 10, 8⟩ [topFrame ⟨0, 0, 0, 0⟩]) = some (.next, ⟨T4 ((w.withFollow "special-get-raises" false).withFollow "set-order" false).params, 33, {}, #[], {}, 261, os⟩, .body bd env, ⟨11, 0, 11, 6⟩) := by
  show segRunT treeTable pp _ 11 (some (.ref 6)) 1 999 _ ⟨(execs [st3] env).wrap doneF deadEnd id id, .body bd env, ⟨10, 0, 10, 8⟩, [topFrame ⟨0, 0, 0, 0⟩]⟩ = _
  rw [PySem.W.Fast.te10110043849684766642, PySem.W.Fast.te14364793385576792824, PySem.W.Fast.te12563942051412417395]
  kernel_rfl!
theorem pt3_false_true (w : World) (os : OsState) : segRunT treeTable pp ((w.withFollow "special-get-raises" true).withFollow "set-order" false) 11 (some (.ref 6)) 1 999 ⟨T3 ((w.withFollow "special-get-raises" true).withFollow "set-order" false).params, 22, {}, #[], {}, 201, os⟩ (piecesOf [st3] env (.body bd env) ⟨10, 0, 10, 8⟩ [topFrame ⟨0, 0, 0, 0⟩]) = some (.next, ⟨T4 ((w.withFollow "special-get-raises" true).withFollow "set-order" false).params, 33, {}, #[], {}, 261, os⟩, .body bd env, ⟨11, 0, 11, 6⟩) := by
  show segRunT treeTable pp _ 11 (some (.ref 6)) 1 999 _ ⟨(execs [st3] env).wrap doneF deadEnd id id, .body bd env, ⟨10, 0, 10, 8⟩, [topFrame ⟨0, 0, 0, 0⟩]⟩ = _
  rw [PySem.W.Fast.te10110043849684766642, PySem.W.Fast.te14364793385576792824, PySem.W.Fast.te12563942051412417395]
  kernel_rfl!
theorem pt3_true_false (w : World) (os : OsState) : segRunT treeTable pp ((w.withFollow "special-get-raises" false).withFollow "set-order" true) 11 (some (.ref 6)) 1 999 ⟨T3 ((w.withFollow "special-get-raises" false).withFollow "set-order" true).params, 22, {}, #[], {}, 201, os⟩ (piecesOf [st3] env (.body bd env) ⟨10, 0, 10, 8⟩ [topFrame ⟨0, 0, 0, 0⟩]) = some (.next, ⟨T4 ((w.withFollow "special-get-raises" false).withFollow "set-order" true).params, 33, {}, #[], {}, 261, os⟩, .body bd env, ⟨11, 0, 11, 6⟩) := by
  show segRunT treeTable pp _ 11 (some (.ref 6)) 1 999 _ ⟨(execs [st3] env).wrap doneF deadEnd id id, .body bd env, ⟨10, 0, 10, 8⟩, [topFrame ⟨0, 0, 0, 0⟩]⟩ = _
  rw [PySem.W.Fast.te10110043849684766642, PySem.W.Fast.te14364793385576792824, PySem.W.Fast.te12563942051412417395]
  kernel_rfl!
theorem pt3_true_true (w : World) (os : OsState) : segRunT treeTable pp ((w.withFollow "special-get-raises" true).withFollow "set-order" true) 11 (some (.ref 6)) 1 999 ⟨T3 ((w.withFollow "special-get-raises" true).withFollow "set-order" true).params, 22, {}, #[], {}, 201, os⟩ (piecesOf [st3] env (.body bd env) ⟨10, 0, 10, 8⟩ [topFrame ⟨0, 0, 0, 0⟩]) = some (.next, ⟨T4 ((w.withFollow "special-get-raises" true).withFollow "set-order" true).params, 33, {}, #[], {}, 261, os⟩, .body bd env, ⟨11, 0, 11, 6⟩) := by
  show segRunT treeTable pp _ 11 (some (.ref 6)) 1 999 _ ⟨(execs [st3] env).wrap doneF deadEnd id id, .body bd env, ⟨10, 0, 10, 8⟩, [topFrame ⟨0, 0, 0, 0⟩]⟩ = _
  rw [PySem.W.Fast.te10110043849684766642, PySem.W.Fast.te14364793385576792824, PySem.W.Fast.te12563942051412417395]
  kernel_rfl!
theorem pt3 (w : World) (os : OsState) : segRunT treeTable pp w 11 (some (.ref 6)) 1 999 ⟨T3 w.params, 22, {}, #[], {}, 201, os⟩ (piecesOf [st3] env (.body bd env) ⟨10, 0, 10, 8⟩ [topFrame ⟨0, 0, 0, 0⟩]) = some (.next, ⟨T4 w.params, 33, {}, #[], {}, 261, os⟩, .body bd env, ⟨11, 0, 11, 6⟩) := byRow2 "set-order" (P := fun w => segRunT treeTable pp w 11 (some (.ref 6)) 1 999 ⟨T3 w.params, 22, {}, #[], {}, 201, os⟩ (piecesOf [st3] env (.body bd env) ⟨10, 0, 10, 8⟩ [topFrame ⟨0, 0, 0, 0⟩]) = some (.next, ⟨T4 w.params, 33, {}, #[], {}, 261, os⟩, .body bd env, ⟨11, 0, 11, 6⟩)) (fun w => byRow2 "special-get-raises" (P := fun w => segRunT treeTable pp (w.withFollow "set-order" false) 11 (some (.ref 6)) 1 999 ⟨T3 (w.withFollow "set-order" false).params, 22, {}, #[], {}, 201, os⟩ (piecesOf [st3] env (.body bd env) ⟨10, 0, 10, 8⟩ [topFrame ⟨0, 0, 0, 0⟩]) = some (.next, ⟨T4 (w.withFollow "set-order" false).params, 33, {}, #[], {}, 261, os⟩, .body bd env, ⟨11, 0, 11, 6⟩)) (fun w => pt3_false_false w os) (fun w => pt3_false_true w os) w) (fun w => byRow2 "special-get-raises" (P := fun w => segRunT treeTable pp (w.withFollow "set-order" true) 11 (some (.ref 6)) 1 999 ⟨T3 (w.withFollow "set-order" true).params, 22, {}, #[], {}, 201, os⟩ (piecesOf [st3] env (.body bd env) ⟨10, 0, 10, 8⟩ [topFrame ⟨0, 0, 0, 0⟩]) = some (.next, ⟨T4 (w.withFollow "set-order" true).params, 33, {}, #[], {}, 261, os⟩, .body bd env, ⟨11, 0, 11, 6⟩)) (fun w => pt3_true_false w os) (fun w => pt3_true_true w os) w) w
theorem pc3 (w : World) (os : OsState) : segRun treeTable pp w 11 (some (.ref 6)) 1 999 (SharedT.abs ⟨T3 w.params, 22, {}, #[], {}, 201, os⟩) (piecesOf [st3] env (.body bd env) ⟨10, 0, 10, 8⟩ [topFrame ⟨0, 0, 0, 0⟩]) = some (.next, SharedT.abs ⟨T4 w.params, 33, {}, #[], {}, 261, os⟩, .body bd env, ⟨11, 0, 11, 6⟩) := segRun_of (pt3 w os)
noncomputable def o3v5 (P : Params) : Obj := ⟨(.type "dict"), none, (.dict #[⟨PyData.keyHash P ⟨#[95, 95, 110, 97, 109, 101, 95, 95]⟩, (.str ⟨#[95, 95, 110, 97, 109, 101, 95, 95]⟩ 165), (.str ⟨#[99, 112, 121, 51, 49, 51, 46, 115, 116, 114, 105, 110, 103, 112, 114, 101, 112]⟩ 199)⟩, ⟨PyData.keyHash P ⟨#[95, 95, 100, 111, 99, 95, 95]⟩, (.str ⟨#[95, 95, 100, 111, 99, 95, 95]⟩ 166), (.none)⟩, ⟨PyData.keyHash P ⟨#[95, 95, 112, 97, 99, 107, 97, 103, 101, 95, 95]⟩, (.str ⟨#[95, 95, 112, 97, 99, 107, 97, 103, 101, 95, 95]⟩ 167), (.none)⟩, ⟨PyData.keyHash P ⟨#[95, 95, 108, 111, 97, 100, 101, 114, 95, 95]⟩, (.str ⟨#[95, 95, 108, 111, 97, 100, 101, 114, 95, 95]⟩ 168), (.builtin "__main__.__loader__#opaque")⟩, ⟨PyData.keyHash P ⟨#[95, 95, 115, 112, 101, 99, 95, 95]⟩, (.str ⟨#[95, 95, 115, 112, 101, 99, 95, 95]⟩ 169), (.none)⟩, ⟨PyData.keyHash P ⟨#[95, 95, 97, 110, 110, 111, 116, 97, 116, 105, 111, 110, 115, 95, 95]⟩, (.str ⟨#[95, 95, 97, 110, 110, 111, 116, 97, 116, 105, 111, 110, 115, 95, 95]⟩ 170), (.ref 6)⟩, ⟨PyData.keyHash P ⟨#[95, 95, 98, 117, 105, 108, 116, 105, 110, 115, 95, 95]⟩, (.str ⟨#[95, 95, 98, 117, 105, 108, 116, 105, 110, 115, 95, 95]⟩ 171), (.ref 4)⟩, ⟨PyData.keyHash P ⟨#[95, 95, 102, 105, 108, 101, 95, 95]⟩, (.str ⟨#[95, 95, 102, 105, 108, 101, 95, 95]⟩ 173), (.str ⟨#[47, 99, 108, 97, 105, 109, 47, 99, 117, 116, 46, 112, 121]⟩ 172)⟩, ⟨PyData.keyHash P ⟨#[95, 95, 99, 97, 99, 104, 101, 100, 95, 95]⟩, (.str ⟨#[95, 95, 99, 97, 99, 104, 101, 100, 95, 95]⟩ 174), (.none)⟩, ⟨PyData.keyHash P ⟨#[73, 110, 116, 50, 65, 80]⟩, (.str ⟨#[73, 110, 116, 50, 65, 80]⟩ 198), (.ref 21)⟩, ⟨PyData.keyHash P ⟨#[98, 49, 95, 115, 101, 116]⟩, (.str ⟨#[98, 49, 95, 115, 101, 116]⟩ 260), (.ref 29)⟩, ⟨PyData.keyHash P ⟨#[105, 110, 95, 116, 97, 98, 108, 101, 95, 98, 49]⟩, (.str ⟨#[105, 110, 95, 116, 97, 98, 108, 101, 95, 98, 49]⟩ 267), (.ref 39)⟩] 12), #[]⟩
noncomputable def o12v2 (P : Params) : Obj := ⟨(.none), none, (.fields #[(.int 2 0), (.int 0 0), (.ref 20), (.int 12 0), (.int 0 0), (.ref 38)]), #[]⟩
noncomputable def o33v0 (P : Params) : Obj := ⟨(.type "tuple"), none, (.seq #[] 0), #[]⟩
noncomputable def o34v0 (P : Params) : Obj := ⟨(.none), none, (.fields #[]), #[]⟩
noncomputable def o35v0 (P : Params) : Obj := ⟨(.type "tuple"), none, (.seq #[(.str ⟨#[99, 111, 100, 101]⟩ 264)] 0), #[]⟩
noncomputable def o36v0 (P : Params) : Obj := ⟨(.type "tuple"), none, (.seq #[] 0), #[]⟩
noncomputable def o37v0 (P : Params) : Obj := ⟨(.none), none, .func (fd st4 0 (.none) (.none) 0), #[]⟩
noncomputable def o38v0 (P : Params) : Obj := ⟨(.type "code"), none, (.fields #[(.str ⟨#[105, 110, 95, 116, 97, 98, 108, 101, 95, 98, 49]⟩ 261), (.str ⟨#[105, 110, 95, 116, 97, 98, 108, 101, 95, 98, 49]⟩ 262), (.str ⟨#[47, 99, 108, 97, 105, 109, 47, 99, 117, 116, 46, 112, 121]⟩ 263), (.int 12 0), (.int 1 0), (.int 0 0), (.int 0 0), (.int 3 0), (.ref 33), (.bool true), (.int 181 0), (.ref 34), (.none), (.ref 35), (.ref 36), (.ref 37), (.int 265 0), (.int 12 0), (.str ⟨#[47, 99, 108, 97, 105, 109, 47, 99, 117, 116, 46, 112, 121]⟩ 266)]), #[]⟩
noncomputable def o39v0 (P : Params) : Obj := ⟨(.type "function"), none, .func (fd st4 3 (.str ⟨#[99, 112, 121, 51, 49, 51, 46, 115, 116, 114, 105, 110, 103, 112, 114, 101, 112]⟩ 199) (.ref 38) 0), #[]⟩
noncomputable def T5 (P : Params) : BT := (.node (boot_o_0 P) (.node (boot_o_1 P) (.node (o3v5 P) (.node (boot_o_7 P) (.node (o15v0 P) (.node (o31v0 P) .nil .nil) .nil) (.node (o23v0 P) (.node (o39v0 P) .nil .nil) .nil)) (.node (o11v0 P) (.node (o19v0 P) (.node (o35v0 P) .nil .nil) .nil) (.node (o27v0 P) .nil .nil))) (.node (boot_o_5 P) (.node (boot_o_9 P) (.node (o17v0 P) (.node (o33v0 P) .nil .nil) .nil) (.node (o25v0 P) .nil .nil)) (.node (o13v0 P) (.node (o21v0 P) (.node (o37v0 P) .nil .nil) .nil) (.node (o29v0 P) .nil .nil)))) (.node (boot_o_2 P) (.node (boot_o_4 P) (.node (boot_o_8 P) (.node (o16v0 P) (.node (o32v0 P) .nil .nil) .nil) (.node (o24v0 P) .nil .nil)) (.node (o12v2 P) (.node (o20v0 P) (.node (o36v0 P) .nil .nil) .nil) (.node (o28v0 P) .nil .nil))) (.node (boot_o_6 P) (.node (boot_o_10 P) (.node (o18v0 P) (.node (o34v0 P) .nil .nil) .nil) (.node (o26v0 P) .nil .nil)) (.node (o14v0 P) (.node (o22v0 P) (.node (o38v0 P) .nil .nil) .nil) (.node (o30v0 P) .nil .nil)))))
theorem pt4 (w : World) (os : OsState) : segRunT treeTable pp w 11 (some (.ref 6)) 1 30 ⟨T4 w.params, 33, {}, #[], {}, 261, os⟩ (piecesOf [st4] env (.body bd env) ⟨11, 0, 11, 6⟩ [topFrame ⟨0, 0, 0, 0⟩]) = some (.next, ⟨T5 w.params, 40, {}, #[], {}, 268, os⟩, .body bd env, ⟨12, 0, 13, 30⟩) := by
  show segRunT treeTable pp _ 11 (some (.ref 6)) 1 30 _ ⟨(execs [st4] env).wrap doneF deadEnd id id, .body bd env, ⟨11, 0, 11, 6⟩, [topFrame ⟨0, 0, 0, 0⟩]⟩ = _
  rw [PySem.W.Fast.te10110043849684766642, PySem.W.Fast.te14364793385576792824, PySem.W.Fast.te12563942051412417395]
  kernel_rfl!
theorem pc4 (w : World) (os : OsState) : segRun treeTable pp w 11 (some (.ref 6)) 1 30 (SharedT.abs ⟨T4 w.params, 33, {}, #[], {}, 261, os⟩) (piecesOf [st4] env (.body bd env) ⟨11, 0, 11, 6⟩ [topFrame ⟨0, 0, 0, 0⟩]) = some (.next, SharedT.abs ⟨T5 w.params, 40, {}, #[], {}, 268, os⟩, .body bd env, ⟨12, 0, 13, 30⟩) := segRun_of (pt4 w os)
noncomputable def o3v6 (P : Params) : Obj := ⟨(.type "dict"), none, (.dict #[⟨PyData.keyHash P ⟨#[95, 95, 110, 97, 109, 101, 95, 95]⟩, (.str ⟨#[95, 95, 110, 97, 109, 101, 95, 95]⟩ 165), (.str ⟨#[99, 112, 121, 51, 49, 51, 46, 115, 116, 114, 105, 110, 103, 112, 114, 101, 112]⟩ 199)⟩, ⟨PyData.keyHash P ⟨#[95, 95, 100, 111, 99, 95, 95]⟩, (.str ⟨#[95, 95, 100, 111, 99, 95, 95]⟩ 166), (.none)⟩, ⟨PyData.keyHash P ⟨#[95, 95, 112, 97, 99, 107, 97, 103, 101, 95, 95]⟩, (.str ⟨#[95, 95, 112, 97, 99, 107, 97, 103, 101, 95, 95]⟩ 167), (.none)⟩, ⟨PyData.keyHash P ⟨#[95, 95, 108, 111, 97, 100, 101, 114, 95, 95]⟩, (.str ⟨#[95, 95, 108, 111, 97, 100, 101, 114, 95, 95]⟩ 168), (.builtin "__main__.__loader__#opaque")⟩, ⟨PyData.keyHash P ⟨#[95, 95, 115, 112, 101, 99, 95, 95]⟩, (.str ⟨#[95, 95, 115, 112, 101, 99, 95, 95]⟩ 169), (.none)⟩, ⟨PyData.keyHash P ⟨#[95, 95, 97, 110, 110, 111, 116, 97, 116, 105, 111, 110, 115, 95, 95]⟩, (.str ⟨#[95, 95, 97, 110, 110, 111, 116, 97, 116, 105, 111, 110, 115, 95, 95]⟩ 170), (.ref 6)⟩, ⟨PyData.keyHash P ⟨#[95, 95, 98, 117, 105, 108, 116, 105, 110, 115, 95, 95]⟩, (.str ⟨#[95, 95, 98, 117, 105, 108, 116, 105, 110, 115, 95, 95]⟩ 171), (.ref 4)⟩, ⟨PyData.keyHash P ⟨#[95, 95, 102, 105, 108, 101, 95, 95]⟩, (.str ⟨#[95, 95, 102, 105, 108, 101, 95, 95]⟩ 173), (.str ⟨#[47, 99, 108, 97, 105, 109, 47, 99, 117, 116, 46, 112, 121]⟩ 172)⟩, ⟨PyData.keyHash P ⟨#[95, 95, 99, 97, 99, 104, 101, 100, 95, 95]⟩, (.str ⟨#[95, 95, 99, 97, 99, 104, 101, 100, 95, 95]⟩ 174), (.none)⟩, ⟨PyData.keyHash P ⟨#[73, 110, 116, 50, 65, 80]⟩, (.str ⟨#[73, 110, 116, 50, 65, 80]⟩ 198), (.ref 21)⟩, ⟨PyData.keyHash P ⟨#[98, 49, 95, 115, 101, 116]⟩, (.str ⟨#[98, 49, 95, 115, 101, 116]⟩ 260), (.ref 29)⟩, ⟨PyData.keyHash P ⟨#[105, 110, 95, 116, 97, 98, 108, 101, 95, 98, 49]⟩, (.str ⟨#[105, 110, 95, 116, 97, 98, 108, 101, 95, 98, 49]⟩ 267), (.ref 39)⟩, ⟨PyData.keyHash P ⟨#[98, 51, 95, 101, 120, 99, 101, 112, 116, 105, 111, 110, 115]⟩, (.str ⟨#[98, 51, 95, 101, 120, 99, 101, 112, 116, 105, 111, 110, 115]⟩ 2218), (.ref 40)⟩] 13), #[]⟩
noncomputable def o40v0 (P : Params) : Obj := dobj b3E 650
noncomputable def o41v0 (P : Params) : Obj := (b3S[0]?).getD default
noncomputable def o42v0 (P : Params) : Obj := (b3S[1]?).getD default
noncomputable def o43v0 (P : Params) : Obj := (b3S[2]?).getD default
noncomputable def o44v0 (P : Params) : Obj := (b3S[3]?).getD default
noncomputable def o45v0 (P : Params) : Obj := (b3S[4]?).getD default
noncomputable def o46v0 (P : Params) : Obj := (b3S[5]?).getD default
noncomputable def o47v0 (P : Params) : Obj := (b3S[6]?).getD default
noncomputable def o48v0 (P : Params) : Obj := (b3S[7]?).getD default
noncomputable def o49v0 (P : Params) : Obj := (b3S[8]?).getD default
noncomputable def o50v0 (P : Params) : Obj := (b3S[9]?).getD default
noncomputable def o51v0 (P : Params) : Obj := (b3S[10]?).getD default
noncomputable def o52v0 (P : Params) : Obj := (b3S[11]?).getD default
noncomputable def o53v0 (P : Params) : Obj := (b3S[12]?).getD default
noncomputable def o54v0 (P : Params) : Obj := (b3S[13]?).getD default
noncomputable def o55v0 (P : Params) : Obj := (b3S[14]?).getD default
noncomputable def o56v0 (P : Params) : Obj := (b3S[15]?).getD default
noncomputable def o57v0 (P : Params) : Obj := (b3S[16]?).getD default
noncomputable def o58v0 (P : Params) : Obj := (b3S[17]?).getD default
noncomputable def o59v0 (P : Params) : Obj := (b3S[18]?).getD default
noncomputable def o60v0 (P : Params) : Obj := (b3S[19]?).getD default
noncomputable def o61v0 (P : Params) : Obj := (b3S[20]?).getD default
noncomputable def o62v0 (P : Params) : Obj := (b3S[21]?).getD default
noncomputable def o63v0 (P : Params) : Obj := (b3S[22]?).getD default
noncomputable def o64v0 (P : Params) : Obj := (b3S[23]?).getD default
noncomputable def o65v0 (P : Params) : Obj := (b3S[24]?).getD default
noncomputable def o66v0 (P : Params) : Obj := (b3S[25]?).getD default
noncomputable def o67v0 (P : Params) : Obj := (b3S[26]?).getD default
noncomputable def o68v0 (P : Params) : Obj := (b3S[27]?).getD default
noncomputable def o69v0 (P : Params) : Obj := (b3S[28]?).getD default
noncomputable def o70v0 (P : Params) : Obj := (b3S[29]?).getD default
noncomputable def o71v0 (P : Params) : Obj := (b3S[30]?).getD default
noncomputable def o72v0 (P : Params) : Obj := (b3S[31]?).getD default
noncomputable def o73v0 (P : Params) : Obj := (b3S[32]?).getD default
noncomputable def o74v0 (P : Params) : Obj := (b3S[33]?).getD default
noncomputable def o75v0 (P : Params) : Obj := (b3S[34]?).getD default
noncomputable def o76v0 (P : Params) : Obj := (b3S[35]?).getD default
noncomputable def o77v0 (P : Params) : Obj := (b3S[36]?).getD default
noncomputable def o78v0 (P : Params) : Obj := (b3S[37]?).getD default
noncomputable def Tm (P : Params) : BT := (.node (boot_o_0 P) (.node (boot_o_1 P) (.node (o3v5 P) (.node (boot_o_7 P) (.node (o15v0 P) (.node (o31v0 P) (.node (o63v0 P) .nil .nil) .nil) (.node (o47v0 P) .nil .nil)) (.node (o23v0 P) (.node (o39v0 P) (.node (o71v0 P) .nil .nil) .nil) (.node (o55v0 P) .nil .nil))) (.node (o11v0 P) (.node (o19v0 P) (.node (o35v0 P) (.node (o67v0 P) .nil .nil) .nil) (.node (o51v0 P) .nil .nil)) (.node (o27v0 P) (.node (o43v0 P) (.node (o75v0 P) .nil .nil) .nil) (.node (o59v0 P) .nil .nil)))) (.node (boot_o_5 P) (.node (boot_o_9 P) (.node (o17v0 P) (.node (o33v0 P) (.node (o65v0 P) .nil .nil) .nil) (.node (o49v0 P) .nil .nil)) (.node (o25v0 P) (.node (o41v0 P) (.node (o73v0 P) .nil .nil) .nil) (.node (o57v0 P) .nil .nil))) (.node (o13v0 P) (.node (o21v0 P) (.node (o37v0 P) (.node (o69v0 P) .nil .nil) .nil) (.node (o53v0 P) .nil .nil)) (.node (o29v0 P) (.node (o45v0 P) (.node (o77v0 P) .nil .nil) .nil) (.node (o61v0 P) .nil .nil))))) (.node (boot_o_2 P) (.node (boot_o_4 P) (.node (boot_o_8 P) (.node (o16v0 P) (.node (o32v0 P) (.node (o64v0 P) .nil .nil) .nil) (.node (o48v0 P) .nil .nil)) (.node (o24v0 P) (.node (o40v0 P) (.node (o72v0 P) .nil .nil) .nil) (.node (o56v0 P) .nil .nil))) (.node (o12v2 P) (.node (o20v0 P) (.node (o36v0 P) (.node (o68v0 P) .nil .nil) .nil) (.node (o52v0 P) .nil .nil)) (.node (o28v0 P) (.node (o44v0 P) (.node (o76v0 P) .nil .nil) .nil) (.node (o60v0 P) .nil .nil)))) (.node (boot_o_6 P) (.node (boot_o_10 P) (.node (o18v0 P) (.node (o34v0 P) (.node (o66v0 P) .nil .nil) .nil) (.node (o50v0 P) .nil .nil)) (.node (o26v0 P) (.node (o42v0 P) (.node (o74v0 P) .nil .nil) .nil) (.node (o58v0 P) .nil .nil))) (.node (o14v0 P) (.node (o22v0 P) (.node (o38v0 P) (.node (o70v0 P) .nil .nil) .nil) (.node (o54v0 P) .nil .nil)) (.node (o30v0 P) (.node (o46v0 P) (.node (o78v0 P) .nil .nil) .nil) (.node (o62v0 P) .nil .nil))))))
noncomputable def T6 (P : Params) : BT := (.node (boot_o_0 P) (.node (boot_o_1 P) (.node (o3v6 P) (.node (boot_o_7 P) (.node (o15v0 P) (.node (o31v0 P) (.node (o63v0 P) .nil .nil) .nil) (.node (o47v0 P) .nil .nil)) (.node (o23v0 P) (.node (o39v0 P) (.node (o71v0 P) .nil .nil) .nil) (.node (o55v0 P) .nil .nil))) (.node (o11v0 P) (.node (o19v0 P) (.node (o35v0 P) (.node (o67v0 P) .nil .nil) .nil) (.node (o51v0 P) .nil .nil)) (.node (o27v0 P) (.node (o43v0 P) (.node (o75v0 P) .nil .nil) .nil) (.node (o59v0 P) .nil .nil)))) (.node (boot_o_5 P) (.node (boot_o_9 P) (.node (o17v0 P) (.node (o33v0 P) (.node (o65v0 P) .nil .nil) .nil) (.node (o49v0 P) .nil .nil)) (.node (o25v0 P) (.node (o41v0 P) (.node (o73v0 P) .nil .nil) .nil) (.node (o57v0 P) .nil .nil))) (.node (o13v0 P) (.node (o21v0 P) (.node (o37v0 P) (.node (o69v0 P) .nil .nil) .nil) (.node (o53v0 P) .nil .nil)) (.node (o29v0 P) (.node (o45v0 P) (.node (o77v0 P) .nil .nil) .nil) (.node (o61v0 P) .nil .nil))))) (.node (boot_o_2 P) (.node (boot_o_4 P) (.node (boot_o_8 P) (.node (o16v0 P) (.node (o32v0 P) (.node (o64v0 P) .nil .nil) .nil) (.node (o48v0 P) .nil .nil)) (.node (o24v0 P) (.node (o40v0 P) (.node (o72v0 P) .nil .nil) .nil) (.node (o56v0 P) .nil .nil))) (.node (o12v2 P) (.node (o20v0 P) (.node (o36v0 P) (.node (o68v0 P) .nil .nil) .nil) (.node (o52v0 P) .nil .nil)) (.node (o28v0 P) (.node (o44v0 P) (.node (o76v0 P) .nil .nil) .nil) (.node (o60v0 P) .nil .nil)))) (.node (boot_o_6 P) (.node (boot_o_10 P) (.node (o18v0 P) (.node (o34v0 P) (.node (o66v0 P) .nil .nil) .nil) (.node (o50v0 P) .nil .nil)) (.node (o26v0 P) (.node (o42v0 P) (.node (o74v0 P) .nil .nil) .nil) (.node (o58v0 P) .nil .nil))) (.node (o14v0 P) (.node (o22v0 P) (.node (o38v0 P) (.node (o70v0 P) .nil .nil) .nil) (.node (o54v0 P) .nil .nil)) (.node (o30v0 P) (.node (o46v0 P) (.node (o78v0 P) .nil .nil) .nil) (.node (o62v0 P) .nil .nil))))))
theorem tail_run (w : World) (os : OsState) (p' : Pos) : segRun treeTable pp w 11 (some (.ref 6)) 1 60 (SharedT.abs ⟨Tm w.params, 79, {}, #[], {}, 2218, os⟩) ⟨Sem.wrap (fun f => Sem.wrap doneF deadEnd id id (match f with | .next => execs [] env | f => pure f)) deadEnd id id (storeTail (PySem.Str.ofString "b3_exceptions") ⟨14, 0, 14, 13⟩ ks3 vs3 ⟨14, 16, 14, 8704⟩ env (.ref 40)), .body bd env, p', [topFrame ⟨0, 0, 0, 0⟩]⟩ = some (.next, SharedT.abs ⟨T6 w.params, 79, {}, #[], {}, 2219, os⟩, .body bd env, ⟨14, 0, 14, 13⟩) := segRun_of (by
  unfold storeTail
  rw [PySem.W.Fast.te10110043849684766642, PySem.W.Fast.te14364793385576792824, PySem.W.Fast.te4016559146275205325, PySem.W.Fast.te2470068587113613483, PySem.W.Fast.te15628205474173192105]
  kernel_rfl!)
theorem mid_eq (P : Params) : (T5 P).list 40 ++ dobj b3E 650 :: b3S = (Tm P).list 79 := by kernel_rfl!
theorem pc5 (w : World) (os : OsState) : segRun treeTable pp w 11 (some (.ref 6)) 1 13062 (SharedT.abs ⟨T5 w.params, 40, {}, #[], {}, 268, os⟩) (piecesOf [st5] env (.body bd env) ⟨12, 0, 13, 30⟩ [topFrame ⟨0, 0, 0, 0⟩]) = some (.next, SharedT.abs ⟨T6 w.params, 79, {}, #[], {}, 2219, os⟩, .body bd env, ⟨14, 0, 14, 13⟩) := by
  show segRun treeTable pp w 11 (some (.ref 6)) 1 13062 (SharedT.abs ⟨T5 w.params, 40, {}, #[], {}, 268, os⟩) ⟨((exec st5 env).bind (fun f => match f with | .next => execs [] env | f => pure f)).wrap doneF deadEnd id id, .body bd env, ⟨12, 0, 13, 30⟩, [topFrame ⟨0, 0, 0, 0⟩]⟩ = _
  rw [Sem.bind_eq_wrap, Sem.wrap_wrap, st_eq]
  obtain ⟨xs, hx, I⟩ := items_of (C := ⟨pp, w, 11, (some (.ref 6)), bd, env, ⟨0, 0, 0, 0⟩⟩) (dp := ⟨14, 16, 14, 8704⟩) lit_eq
  have hpl : ((T5 w.params).list 40).length = 40 := by simp [BT.list]
  have D := goes_display (C := ⟨pp, w, 11, (some (.ref 6)), bd, env, ⟨0, 0, 0, 0⟩⟩) (pre := (T5 w.params).list 40) (l := {}) (gens := #[]) (drawn := {}) (toks := 268) (os := os) 37 I (by rw [ps_len]; decide) (by rw [ps_len]; decide) (inc_pw ps_inc) (by rw [ps_len]; decide)
    (fun k => by rw [hpl]; show Nat.ble 11 (40 + k) = true; exact Nat.ble_eq_true_of_le (by omega)) (fun k => by rw [hpl]; show (40 + 1 + k == sysModules) = false; simp [sysModules]; omega)
  rw [hpl, ps_len] at D
  have e1 : (Sh (H ((T5 w.params).list 40) (dobj b3E 650) b3S {}) #[] {} 2218 os) = SharedT.abs ⟨Tm w.params, 79, {}, #[], {}, 2218, os⟩ := by
    show Sh ⟨((T5 w.params).list 40 ++ dobj b3E 650 :: b3S).toArray, {}⟩ #[] {} 2218 os = _
    rw [mid_eq]; rfl
  have D' : Goes ⟨pp, w, 11, (some (.ref 6)), bd, env, ⟨0, 0, 0, 0⟩⟩ 13000 (dictDisplay (itemsOf ks3 vs3 ⟨14, 16, 14, 8704⟩ env)) (SharedT.abs ⟨T5 w.params, 40, {}, #[], {}, 268, os⟩) (.ref 40) (SharedT.abs ⟨Tm w.params, 79, {}, #[], {}, 2218, os⟩) := by
    rw [← e1, show itemsOf ks3 vs3 ⟨14, 16, 14, 8704⟩ env = xs.map mk from hx]
    exact D
  exact seg_dict (C := ⟨pp, w, 11, (some (.ref 6)), bd, env, ⟨0, 0, 0, 0⟩⟩) (N := 13000) (M := 60) D' (fun p' => tail_run w os p')
noncomputable def o3v7 (P : Params) : Obj := ⟨(.type "dict"), none, (.dict #[⟨PyData.keyHash P ⟨#[95, 95, 110, 97, 109, 101, 95, 95]⟩, (.str ⟨#[95, 95, 110, 97, 109, 101, 95, 95]⟩ 165), (.str ⟨#[99, 112, 121, 51, 49, 51, 46, 115, 116, 114, 105, 110, 103, 112, 114, 101, 112]⟩ 199)⟩, ⟨PyData.keyHash P ⟨#[95, 95, 100, 111, 99, 95, 95]⟩, (.str ⟨#[95, 95, 100, 111, 99, 95, 95]⟩ 166), (.none)⟩, ⟨PyData.keyHash P ⟨#[95, 95, 112, 97, 99, 107, 97, 103, 101, 95, 95]⟩, (.str ⟨#[95, 95, 112, 97, 99, 107, 97, 103, 101, 95, 95]⟩ 167), (.none)⟩, ⟨PyData.keyHash P ⟨#[95, 95, 108, 111, 97, 100, 101, 114, 95, 95]⟩, (.str ⟨#[95, 95, 108, 111, 97, 100, 101, 114, 95, 95]⟩ 168), (.builtin "__main__.__loader__#opaque")⟩, ⟨PyData.keyHash P ⟨#[95, 95, 115, 112, 101, 99, 95, 95]⟩, (.str ⟨#[95, 95, 115, 112, 101, 99, 95, 95]⟩ 169), (.none)⟩, ⟨PyData.keyHash P ⟨#[95, 95, 97, 110, 110, 111, 116, 97, 116, 105, 111, 110, 115, 95, 95]⟩, (.str ⟨#[95, 95, 97, 110, 110, 111, 116, 97, 116, 105, 111, 110, 115, 95, 95]⟩ 170), (.ref 6)⟩, ⟨PyData.keyHash P ⟨#[95, 95, 98, 117, 105, 108, 116, 105, 110, 115, 95, 95]⟩, (.str ⟨#[95, 95, 98, 117, 105, 108, 116, 105, 110, 115, 95, 95]⟩ 171), (.ref 4)⟩, ⟨PyData.keyHash P ⟨#[95, 95, 102, 105, 108, 101, 95, 95]⟩, (.str ⟨#[95, 95, 102, 105, 108, 101, 95, 95]⟩ 173), (.str ⟨#[47, 99, 108, 97, 105, 109, 47, 99, 117, 116, 46, 112, 121]⟩ 172)⟩, ⟨PyData.keyHash P ⟨#[95, 95, 99, 97, 99, 104, 101, 100, 95, 95]⟩, (.str ⟨#[95, 95, 99, 97, 99, 104, 101, 100, 95, 95]⟩ 174), (.none)⟩, ⟨PyData.keyHash P ⟨#[73, 110, 116, 50, 65, 80]⟩, (.str ⟨#[73, 110, 116, 50, 65, 80]⟩ 198), (.ref 21)⟩, ⟨PyData.keyHash P ⟨#[98, 49, 95, 115, 101, 116]⟩, (.str ⟨#[98, 49, 95, 115, 101, 116]⟩ 260), (.ref 29)⟩, ⟨PyData.keyHash P ⟨#[105, 110, 95, 116, 97, 98, 108, 101, 95, 98, 49]⟩, (.str ⟨#[105, 110, 95, 116, 97, 98, 108, 101, 95, 98, 49]⟩ 267), (.ref 39)⟩, ⟨PyData.keyHash P ⟨#[98, 51, 95, 101, 120, 99, 101, 112, 116, 105, 111, 110, 115]⟩, (.str ⟨#[98, 51, 95, 101, 120, 99, 101, 112, 116, 105, 111, 110, 115]⟩ 2218), (.ref 40)⟩, ⟨PyData.keyHash P ⟨#[109, 97, 112, 95, 116, 97, 98, 108, 101, 95, 98, 51]⟩, (.str ⟨#[109, 97, 112, 95, 116, 97, 98, 108, 101, 95, 98, 51]⟩ 2226), (.ref 85)⟩] 14), #[]⟩
noncomputable def o12v3 (P : Params) : Obj := ⟨(.none), none, (.fields #[(.int 2 0), (.int 0 0), (.ref 20), (.int 12 0), (.int 0 0), (.ref 38), (.int 15 0), (.int 0 0), (.ref 84)]), #[]⟩
noncomputable def o79v0 (P : Params) : Obj := ⟨(.type "tuple"), none, (.seq #[] 0), #[]⟩
noncomputable def o80v0 (P : Params) : Obj := ⟨(.none), none, (.fields #[]), #[]⟩
noncomputable def o81v0 (P : Params) : Obj := ⟨(.type "tuple"), none, (.seq #[(.str ⟨#[99, 111, 100, 101]⟩ 2222), (.str ⟨#[114]⟩ 2223)] 0), #[]⟩
noncomputable def o82v0 (P : Params) : Obj := ⟨(.type "tuple"), none, (.seq #[] 0), #[]⟩
noncomputable def o83v0 (P : Params) : Obj := ⟨(.none), none, .func (fd st6 0 (.none) (.none) 0), #[]⟩
noncomputable def o84v0 (P : Params) : Obj := ⟨(.type "code"), none, (.fields #[(.str ⟨#[109, 97, 112, 95, 116, 97, 98, 108, 101, 95, 98, 51]⟩ 2219), (.str ⟨#[109, 97, 112, 95, 116, 97, 98, 108, 101, 95, 98, 51]⟩ 2220), (.str ⟨#[47, 99, 108, 97, 105, 109, 47, 99, 117, 116, 46, 112, 121]⟩ 2221), (.int 15 0), (.int 1 0), (.int 0 0), (.int 0 0), (.int 3 0), (.ref 79), (.bool true), (.int 181 0), (.ref 80), (.none), (.ref 81), (.ref 82), (.ref 83), (.int 2224 0), (.int 15 0), (.str ⟨#[47, 99, 108, 97, 105, 109, 47, 99, 117, 116, 46, 112, 121]⟩ 2225)]), #[]⟩
noncomputable def o85v0 (P : Params) : Obj := ⟨(.type "function"), none, .func (fd st6 3 (.str ⟨#[99, 112, 121, 51, 49, 51, 46, 115, 116, 114, 105, 110, 103, 112, 114, 101, 112]⟩ 199) (.ref 84) 0), #[]⟩
noncomputable def T7 (P : Params) : BT := (.node (boot_o_0 P) (.node (boot_o_1 P) (.node (o3v7 P) (.node (boot_o_7 P) (.node (o15v0 P) (.node (o31v0 P) (.node (o63v0 P) .nil .nil) .nil) (.node (o47v0 P) (.node (o79v0 P) .nil .nil) .nil)) (.node (o23v0 P) (.node (o39v0 P) (.node (o71v0 P) .nil .nil) .nil) (.node (o55v0 P) .nil .nil))) (.node (o11v0 P) (.node (o19v0 P) (.node (o35v0 P) (.node (o67v0 P) .nil .nil) .nil) (.node (o51v0 P) (.node (o83v0 P) .nil .nil) .nil)) (.node (o27v0 P) (.node (o43v0 P) (.node (o75v0 P) .nil .nil) .nil) (.node (o59v0 P) .nil .nil)))) (.node (boot_o_5 P) (.node (boot_o_9 P) (.node (o17v0 P) (.node (o33v0 P) (.node (o65v0 P) .nil .nil) .nil) (.node (o49v0 P) (.node (o81v0 P) .nil .nil) .nil)) (.node (o25v0 P) (.node (o41v0 P) (.node (o73v0 P) .nil .nil) .nil) (.node (o57v0 P) .nil .nil))) (.node (o13v0 P) (.node (o21v0 P) (.node (o37v0 P) (.node (o69v0 P) .nil .nil) .nil) (.node (o53v0 P) (.node (o85v0 P) .nil .nil) .nil)) (.node (o29v0 P) (.node (o45v0 P) (.node (o77v0 P) .nil .nil) .nil) (.node (o61v0 P) .nil .nil))))) (.node (boot_o_2 P) (.node (boot_o_4 P) (.node (boot_o_8 P) (.node (o16v0 P) (.node (o32v0 P) (.node (o64v0 P) .nil .nil) .nil) (.node (o48v0 P) (.node (o80v0 P) .nil .nil) .nil)) (.node (o24v0 P) (.node (o40v0 P) (.node (o72v0 P) .nil .nil) .nil) (.node (o56v0 P) .nil .nil))) (.node (o12v3 P) (.node (o20v0 P) (.node (o36v0 P) (.node (o68v0 P) .nil .nil) .nil) (.node (o52v0 P) (.node (o84v0 P) .nil .nil) .nil)) (.node (o28v0 P) (.node (o44v0 P) (.node (o76v0 P) .nil .nil) .nil) (.node (o60v0 P) .nil .nil)))) (.node (boot_o_6 P) (.node (boot_o_10 P) (.node (o18v0 P) (.node (o34v0 P) (.node (o66v0 P) .nil .nil) .nil) (.node (o50v0 P) (.node (o82v0 P) .nil .nil) .nil)) (.node (o26v0 P) (.node (o42v0 P) (.node (o74v0 P) .nil .nil) .nil) (.node (o58v0 P) .nil .nil))) (.node (o14v0 P) (.node (o22v0 P) (.node (o38v0 P) (.node (o70v0 P) .nil .nil) .nil) (.node (o54v0 P) .nil .nil)) (.node (o30v0 P) (.node (o46v0 P) (.node (o78v0 P) .nil .nil) .nil) (.node (o62v0 P) .nil .nil))))))
theorem pt6 (w : World) (os : OsState) : segRunT treeTable pp w 11 (some (.ref 6)) 1 31 ⟨T6 w.params, 79, {}, #[], {}, 2219, os⟩ (piecesOf [st6] env (.body bd env) ⟨14, 0, 14, 13⟩ [topFrame ⟨0, 0, 0, 0⟩]) = some (.next, ⟨T7 w.params, 86, {}, #[], {}, 2227, os⟩, .body bd env, ⟨15, 0, 19, 23⟩) := by
  show segRunT treeTable pp _ 11 (some (.ref 6)) 1 31 _ ⟨(execs [st6] env).wrap doneF deadEnd id id, .body bd env, ⟨14, 0, 14, 13⟩, [topFrame ⟨0, 0, 0, 0⟩]⟩ = _
  rw [PySem.W.Fast.te10110043849684766642, PySem.W.Fast.te14364793385576792824, PySem.W.Fast.te12563942051412417395]
  kernel_rfl!
theorem pc6 (w : World) (os : OsState) : segRun treeTable pp w 11 (some (.ref 6)) 1 31 (SharedT.abs ⟨T6 w.params, 79, {}, #[], {}, 2219, os⟩) (piecesOf [st6] env (.body bd env) ⟨14, 0, 14, 13⟩ [topFrame ⟨0, 0, 0, 0⟩]) = some (.next, SharedT.abs ⟨T7 w.params, 86, {}, #[], {}, 2227, os⟩, .body bd env, ⟨15, 0, 19, 23⟩) := segRun_of (pt6 w os)
noncomputable def o3v8 (P : Params) : Obj := ⟨(.type "dict"), none, (.dict #[⟨PyData.keyHash P ⟨#[95, 95, 110, 97, 109, 101, 95, 95]⟩, (.str ⟨#[95, 95, 110, 97, 109, 101, 95, 95]⟩ 165), (.str ⟨#[99, 112, 121, 51, 49, 51, 46, 116, 114, 97, 99, 101, 98, 97, 99, 107]⟩ 2227)⟩, ⟨PyData.keyHash P ⟨#[95, 95, 100, 111, 99, 95, 95]⟩, (.str ⟨#[95, 95, 100, 111, 99, 95, 95]⟩ 166), (.none)⟩, ⟨PyData.keyHash P ⟨#[95, 95, 112, 97, 99, 107, 97, 103, 101, 95, 95]⟩, (.str ⟨#[95, 95, 112, 97, 99, 107, 97, 103, 101, 95, 95]⟩ 167), (.none)⟩, ⟨PyData.keyHash P ⟨#[95, 95, 108, 111, 97, 100, 101, 114, 95, 95]⟩, (.str ⟨#[95, 95, 108, 111, 97, 100, 101, 114, 95, 95]⟩ 168), (.builtin "__main__.__loader__#opaque")⟩, ⟨PyData.keyHash P ⟨#[95, 95, 115, 112, 101, 99, 95, 95]⟩, (.str ⟨#[95, 95, 115, 112, 101, 99, 95, 95]⟩ 169), (.none)⟩, ⟨PyData.keyHash P ⟨#[95, 95, 97, 110, 110, 111, 116, 97, 116, 105, 111, 110, 115, 95, 95]⟩, (.str ⟨#[95, 95, 97, 110, 110, 111, 116, 97, 116, 105, 111, 110, 115, 95, 95]⟩ 170), (.ref 6)⟩, ⟨PyData.keyHash P ⟨#[95, 95, 98, 117, 105, 108, 116, 105, 110, 115, 95, 95]⟩, (.str ⟨#[95, 95, 98, 117, 105, 108, 116, 105, 110, 115, 95, 95]⟩ 171), (.ref 4)⟩, ⟨PyData.keyHash P ⟨#[95, 95, 102, 105, 108, 101, 95, 95]⟩, (.str ⟨#[95, 95, 102, 105, 108, 101, 95, 95]⟩ 173), (.str ⟨#[47, 99, 108, 97, 105, 109, 47, 99, 117, 116, 46, 112, 121]⟩ 172)⟩, ⟨PyData.keyHash P ⟨#[95, 95, 99, 97, 99, 104, 101, 100, 95, 95]⟩, (.str ⟨#[95, 95, 99, 97, 99, 104, 101, 100, 95, 95]⟩ 174), (.none)⟩, ⟨PyData.keyHash P ⟨#[73, 110, 116, 50, 65, 80]⟩, (.str ⟨#[73, 110, 116, 50, 65, 80]⟩ 198), (.ref 21)⟩, ⟨PyData.keyHash P ⟨#[98, 49, 95, 115, 101, 116]⟩, (.str ⟨#[98, 49, 95, 115, 101, 116]⟩ 260), (.ref 29)⟩, ⟨PyData.keyHash P ⟨#[105, 110, 95, 116, 97, 98, 108, 101, 95, 98, 49]⟩, (.str ⟨#[105, 110, 95, 116, 97, 98, 108, 101, 95, 98, 49]⟩ 267), (.ref 39)⟩, ⟨PyData.keyHash P ⟨#[98, 51, 95, 101, 120, 99, 101, 112, 116, 105, 111, 110, 115]⟩, (.str ⟨#[98, 51, 95, 101, 120, 99, 101, 112, 116, 105, 111, 110, 115]⟩ 2218), (.ref 40)⟩, ⟨PyData.keyHash P ⟨#[109, 97, 112, 95, 116, 97, 98, 108, 101, 95, 98, 51]⟩, (.str ⟨#[109, 97, 112, 95, 116, 97, 98, 108, 101, 95, 98, 51]⟩ 2226), (.ref 85)⟩] 14), #[]⟩
noncomputable def T8 (P : Params) : BT := (.node (boot_o_0 P) (.node (boot_o_1 P) (.node (o3v8 P) (.node (boot_o_7 P) (.node (o15v0 P) (.node (o31v0 P) (.node (o63v0 P) .nil .nil) .nil) (.node (o47v0 P) (.node (o79v0 P) .nil .nil) .nil)) (.node (o23v0 P) (.node (o39v0 P) (.node (o71v0 P) .nil .nil) .nil) (.node (o55v0 P) .nil .nil))) (.node (o11v0 P) (.node (o19v0 P) (.node (o35v0 P) (.node (o67v0 P) .nil .nil) .nil) (.node (o51v0 P) (.node (o83v0 P) .nil .nil) .nil)) (.node (o27v0 P) (.node (o43v0 P) (.node (o75v0 P) .nil .nil) .nil) (.node (o59v0 P) .nil .nil)))) (.node (boot_o_5 P) (.node (boot_o_9 P) (.node (o17v0 P) (.node (o33v0 P) (.node (o65v0 P) .nil .nil) .nil) (.node (o49v0 P) (.node (o81v0 P) .nil .nil) .nil)) (.node (o25v0 P) (.node (o41v0 P) (.node (o73v0 P) .nil .nil) .nil) (.node (o57v0 P) .nil .nil))) (.node (o13v0 P) (.node (o21v0 P) (.node (o37v0 P) (.node (o69v0 P) .nil .nil) .nil) (.node (o53v0 P) (.node (o85v0 P) .nil .nil) .nil)) (.node (o29v0 P) (.node (o45v0 P) (.node (o77v0 P) .nil .nil) .nil) (.node (o61v0 P) .nil .nil))))) (.node (boot_o_2 P) (.node (boot_o_4 P) (.node (boot_o_8 P) (.node (o16v0 P) (.node (o32v0 P) (.node (o64v0 P) .nil .nil) .nil) (.node (o48v0 P) (.node (o80v0 P) .nil .nil) .nil)) (.node (o24v0 P) (.node (o40v0 P) (.node (o72v0 P) .nil .nil) .nil) (.node (o56v0 P) .nil .nil))) (.node (o12v3 P) (.node (o20v0 P) (.node (o36v0 P) (.node (o68v0 P) .nil .nil) .nil) (.node (o52v0 P) (.node (o84v0 P) .nil .nil) .nil)) (.node (o28v0 P) (.node (o44v0 P) (.node (o76v0 P) .nil .nil) .nil) (.node (o60v0 P) .nil .nil)))) (.node (boot_o_6 P) (.node (boot_o_10 P) (.node (o18v0 P) (.node (o34v0 P) (.node (o66v0 P) .nil .nil) .nil) (.node (o50v0 P) (.node (o82v0 P) .nil .nil) .nil)) (.node (o26v0 P) (.node (o42v0 P) (.node (o74v0 P) .nil .nil) .nil) (.node (o58v0 P) .nil .nil))) (.node (o14v0 P) (.node (o22v0 P) (.node (o38v0 P) (.node (o70v0 P) .nil .nil) .nil) (.node (o54v0 P) .nil .nil)) (.node (o30v0 P) (.node (o46v0 P) (.node (o78v0 P) .nil .nil) .nil) (.node (o62v0 P) .nil .nil))))))
theorem pt7 (w : World) (os : OsState) : segRunT treeTable pp w 11 (some (.ref 6)) 1 10 ⟨T7 w.params, 86, {}, #[], {}, 2227, os⟩ (piecesOf [st7] env (.body bd env) ⟨15, 0, 19, 23⟩ [topFrame ⟨0, 0, 0, 0⟩]) = some (.next, ⟨T8 w.params, 86, {}, #[], {}, 2229, os⟩, .body bd env, ⟨20, 0, 20, 8⟩) := by
  show segRunT treeTable pp _ 11 (some (.ref 6)) 1 10 _ ⟨(execs [st7] env).wrap doneF deadEnd id id, .body bd env, ⟨15, 0, 19, 23⟩, [topFrame ⟨0, 0, 0, 0⟩]⟩ = _
  rw [PySem.W.Fast.te10110043849684766642, PySem.W.Fast.te14364793385576792824, PySem.W.Fast.te12563942051412417395]
  kernel_rfl!
theorem pc7 (w : World) (os : OsState) : segRun treeTable pp w 11 (some (.ref 6)) 1 10 (SharedT.abs ⟨T7 w.params, 86, {}, #[], {}, 2227, os⟩) (piecesOf [st7] env (.body bd env) ⟨15, 0, 19, 23⟩ [topFrame ⟨0, 0, 0, 0⟩]) = some (.next, SharedT.abs ⟨T8 w.params, 86, {}, #[], {}, 2229, os⟩, .body bd env, ⟨20, 0, 20, 8⟩) := segRun_of (pt7 w os)
noncomputable def o3v9 (P : Params) : Obj := ⟨(.type "dict"), none, (.dict #[⟨PyData.keyHash P ⟨#[95, 95, 110, 97, 109, 101, 95, 95]⟩, (.str ⟨#[95, 95, 110, 97, 109, 101, 95, 95]⟩ 165), (.str ⟨#[99, 112, 121, 51, 49, 51, 46, 116, 114, 97, 99, 101, 98, 97, 99, 107]⟩ 2227)⟩, ⟨PyData.keyHash P ⟨#[95, 95, 100, 111, 99, 95, 95]⟩, (.str ⟨#[95, 95, 100, 111, 99, 95, 95]⟩ 166), (.none)⟩, ⟨PyData.keyHash P ⟨#[95, 95, 112, 97, 99, 107, 97, 103, 101, 95, 95]⟩, (.str ⟨#[95, 95, 112, 97, 99, 107, 97, 103, 101, 95, 95]⟩ 167), (.none)⟩, ⟨PyData.keyHash P ⟨#[95, 95, 108, 111, 97, 100, 101, 114, 95, 95]⟩, (.str ⟨#[95, 95, 108, 111, 97, 100, 101, 114, 95, 95]⟩ 168), (.builtin "__main__.__loader__#opaque")⟩, ⟨PyData.keyHash P ⟨#[95, 95, 115, 112, 101, 99, 95, 95]⟩, (.str ⟨#[95, 95, 115, 112, 101, 99, 95, 95]⟩ 169), (.none)⟩, ⟨PyData.keyHash P ⟨#[95, 95, 97, 110, 110, 111, 116, 97, 116, 105, 111, 110, 115, 95, 95]⟩, (.str ⟨#[95, 95, 97, 110, 110, 111, 116, 97, 116, 105, 111, 110, 115, 95, 95]⟩ 170), (.ref 6)⟩, ⟨PyData.keyHash P ⟨#[95, 95, 98, 117, 105, 108, 116, 105, 110, 115, 95, 95]⟩, (.str ⟨#[95, 95, 98, 117, 105, 108, 116, 105, 110, 115, 95, 95]⟩ 171), (.ref 4)⟩, ⟨PyData.keyHash P ⟨#[95, 95, 102, 105, 108, 101, 95, 95]⟩, (.str ⟨#[95, 95, 102, 105, 108, 101, 95, 95]⟩ 173), (.str ⟨#[47, 99, 108, 97, 105, 109, 47, 99, 117, 116, 46, 112, 121]⟩ 172)⟩, ⟨PyData.keyHash P ⟨#[95, 95, 99, 97, 99, 104, 101, 100, 95, 95]⟩, (.str ⟨#[95, 95, 99, 97, 99, 104, 101, 100, 95, 95]⟩ 174), (.none)⟩, ⟨PyData.keyHash P ⟨#[73, 110, 116, 50, 65, 80]⟩, (.str ⟨#[73, 110, 116, 50, 65, 80]⟩ 198), (.ref 21)⟩, ⟨PyData.keyHash P ⟨#[98, 49, 95, 115, 101, 116]⟩, (.str ⟨#[98, 49, 95, 115, 101, 116]⟩ 260), (.ref 29)⟩, ⟨PyData.keyHash P ⟨#[105, 110, 95, 116, 97, 98, 108, 101, 95, 98, 49]⟩, (.str ⟨#[105, 110, 95, 116, 97, 98, 108, 101, 95, 98, 49]⟩ 267), (.ref 39)⟩, ⟨PyData.keyHash P ⟨#[98, 51, 95, 101, 120, 99, 101, 112, 116, 105, 111, 110, 115]⟩, (.str ⟨#[98, 51, 95, 101, 120, 99, 101, 112, 116, 105, 111, 110, 115]⟩ 2218), (.ref 40)⟩, ⟨PyData.keyHash P ⟨#[109, 97, 112, 95, 116, 97, 98, 108, 101, 95, 98, 51]⟩, (.str ⟨#[109, 97, 112, 95, 116, 97, 98, 108, 101, 95, 98, 51]⟩ 2226), (.ref 85)⟩, ⟨PyData.keyHash P ⟨#[95, 77, 65, 88, 95, 83, 84, 82, 73, 78, 71, 95, 83, 73, 90, 69]⟩, (.str ⟨#[95, 77, 65, 88, 95, 83, 84, 82, 73, 78, 71, 95, 83, 73, 90, 69]⟩ 2230), (.int 40 2229)⟩] 15), #[]⟩
noncomputable def T9 (P : Params) : BT := (.node (boot_o_0 P) (.node (boot_o_1 P) (.node (o3v9 P) (.node (boot_o_7 P) (.node (o15v0 P) (.node (o31v0 P) (.node (o63v0 P) .nil .nil) .nil) (.node (o47v0 P) (.node (o79v0 P) .nil .nil) .nil)) (.node (o23v0 P) (.node (o39v0 P) (.node (o71v0 P) .nil .nil) .nil) (.node (o55v0 P) .nil .nil))) (.node (o11v0 P) (.node (o19v0 P) (.node (o35v0 P) (.node (o67v0 P) .nil .nil) .nil) (.node (o51v0 P) (.node (o83v0 P) .nil .nil) .nil)) (.node (o27v0 P) (.node (o43v0 P) (.node (o75v0 P) .nil .nil) .nil) (.node (o59v0 P) .nil .nil)))) (.node (boot_o_5 P) (.node (boot_o_9 P) (.node (o17v0 P) (.node (o33v0 P) (.node (o65v0 P) .nil .nil) .nil) (.node (o49v0 P) (.node (o81v0 P) .nil .nil) .nil)) (.node (o25v0 P) (.node (o41v0 P) (.node (o73v0 P) .nil .nil) .nil) (.node (o57v0 P) .nil .nil))) (.node (o13v0 P) (.node (o21v0 P) (.node (o37v0 P) (.node (o69v0 P) .nil .nil) .nil) (.node (o53v0 P) (.node (o85v0 P) .nil .nil) .nil)) (.node (o29v0 P) (.node (o45v0 P) (.node (o77v0 P) .nil .nil) .nil) (.node (o61v0 P) .nil .nil))))) (.node (boot_o_2 P) (.node (boot_o_4 P) (.node (boot_o_8 P) (.node (o16v0 P) (.node (o32v0 P) (.node (o64v0 P) .nil .nil) .nil) (.node (o48v0 P) (.node (o80v0 P) .nil .nil) .nil)) (.node (o24v0 P) (.node (o40v0 P) (.node (o72v0 P) .nil .nil) .nil) (.node (o56v0 P) .nil .nil))) (.node (o12v3 P) (.node (o20v0 P) (.node (o36v0 P) (.node (o68v0 P) .nil .nil) .nil) (.node (o52v0 P) (.node (o84v0 P) .nil .nil) .nil)) (.node (o28v0 P) (.node (o44v0 P) (.node (o76v0 P) .nil .nil) .nil) (.node (o60v0 P) .nil .nil)))) (.node (boot_o_6 P) (.node (boot_o_10 P) (.node (o18v0 P) (.node (o34v0 P) (.node (o66v0 P) .nil .nil) .nil) (.node (o50v0 P) (.node (o82v0 P) .nil .nil) .nil)) (.node (o26v0 P) (.node (o42v0 P) (.node (o74v0 P) .nil .nil) .nil) (.node (o58v0 P) .nil .nil))) (.node (o14v0 P) (.node (o22v0 P) (.node (o38v0 P) (.node (o70v0 P) .nil .nil) .nil) (.node (o54v0 P) .nil .nil)) (.node (o30v0 P) (.node (o46v0 P) (.node (o78v0 P) .nil .nil) .nil) (.node (o62v0 P) .nil .nil))))))
theorem pt8 (w : World) (os : OsState) : segRunT treeTable pp w 11 (some (.ref 6)) 1 10 ⟨T8 w.params, 86, {}, #[], {}, 2229, os⟩ (piecesOf [st8] env (.body bd env) ⟨20, 0, 20, 8⟩ [topFrame ⟨0, 0, 0, 0⟩]) = some (.next, ⟨T9 w.params, 86, {}, #[], {}, 2231, os⟩, .body bd env, ⟨21, 0, 21, 16⟩) := by
  show segRunT treeTable pp _ 11 (some (.ref 6)) 1 10 _ ⟨(execs [st8] env).wrap doneF deadEnd id id, .body bd env, ⟨20, 0, 20, 8⟩, [topFrame ⟨0, 0, 0, 0⟩]⟩ = _
  rw [PySem.W.Fast.te10110043849684766642, PySem.W.Fast.te14364793385576792824, PySem.W.Fast.te12563942051412417395]
  kernel_rfl!
theorem pc8 (w : World) (os : OsState) : segRun treeTable pp w 11 (some (.ref 6)) 1 10 (SharedT.abs ⟨T8 w.params, 86, {}, #[], {}, 2229, os⟩) (piecesOf [st8] env (.body bd env) ⟨20, 0, 20, 8⟩ [topFrame ⟨0, 0, 0, 0⟩]) = some (.next, SharedT.abs ⟨T9 w.params, 86, {}, #[], {}, 2231, os⟩, .body bd env, ⟨21, 0, 21, 16⟩) := segRun_of (pt8 w os)
noncomputable def o3v10 (P : Params) : Obj := ⟨(.type "dict"), none, (.dict #[⟨PyData.keyHash P ⟨#[95, 95, 110, 97, 109, 101, 95, 95]⟩, (.str ⟨#[95, 95, 110, 97, 109, 101, 95, 95]⟩ 165), (.str ⟨#[99, 112, 121, 51, 49, 51, 46, 116, 114, 97, 99, 101, 98, 97, 99, 107]⟩ 2227)⟩, ⟨PyData.keyHash P ⟨#[95, 95, 100, 111, 99, 95, 95]⟩, (.str ⟨#[95, 95, 100, 111, 99, 95, 95]⟩ 166), (.none)⟩, ⟨PyData.keyHash P ⟨#[95, 95, 112, 97, 99, 107, 97, 103, 101, 95, 95]⟩, (.str ⟨#[95, 95, 112, 97, 99, 107, 97, 103, 101, 95, 95]⟩ 167), (.none)⟩, ⟨PyData.keyHash P ⟨#[95, 95, 108, 111, 97, 100, 101, 114, 95, 95]⟩, (.str ⟨#[95, 95, 108, 111, 97, 100, 101, 114, 95, 95]⟩ 168), (.builtin "__main__.__loader__#opaque")⟩, ⟨PyData.keyHash P ⟨#[95, 95, 115, 112, 101, 99, 95, 95]⟩, (.str ⟨#[95, 95, 115, 112, 101, 99, 95, 95]⟩ 169), (.none)⟩, ⟨PyData.keyHash P ⟨#[95, 95, 97, 110, 110, 111, 116, 97, 116, 105, 111, 110, 115, 95, 95]⟩, (.str ⟨#[95, 95, 97, 110, 110, 111, 116, 97, 116, 105, 111, 110, 115, 95, 95]⟩ 170), (.ref 6)⟩, ⟨PyData.keyHash P ⟨#[95, 95, 98, 117, 105, 108, 116, 105, 110, 115, 95, 95]⟩, (.str ⟨#[95, 95, 98, 117, 105, 108, 116, 105, 110, 115, 95, 95]⟩ 171), (.ref 4)⟩, ⟨PyData.keyHash P ⟨#[95, 95, 102, 105, 108, 101, 95, 95]⟩, (.str ⟨#[95, 95, 102, 105, 108, 101, 95, 95]⟩ 173), (.str ⟨#[47, 99, 108, 97, 105, 109, 47, 99, 117, 116, 46, 112, 121]⟩ 172)⟩, ⟨PyData.keyHash P ⟨#[95, 95, 99, 97, 99, 104, 101, 100, 95, 95]⟩, (.str ⟨#[95, 95, 99, 97, 99, 104, 101, 100, 95, 95]⟩ 174), (.none)⟩, ⟨PyData.keyHash P ⟨#[73, 110, 116, 50, 65, 80]⟩, (.str ⟨#[73, 110, 116, 50, 65, 80]⟩ 198), (.ref 21)⟩, ⟨PyData.keyHash P ⟨#[98, 49, 95, 115, 101, 116]⟩, (.str ⟨#[98, 49, 95, 115, 101, 116]⟩ 260), (.ref 29)⟩, ⟨PyData.keyHash P ⟨#[105, 110, 95, 116, 97, 98, 108, 101, 95, 98, 49]⟩, (.str ⟨#[105, 110, 95, 116, 97, 98, 108, 101, 95, 98, 49]⟩ 267), (.ref 39)⟩, ⟨PyData.keyHash P ⟨#[98, 51, 95, 101, 120, 99, 101, 112, 116, 105, 111, 110, 115]⟩, (.str ⟨#[98, 51, 95, 101, 120, 99, 101, 112, 116, 105, 111, 110, 115]⟩ 2218), (.ref 40)⟩, ⟨PyData.keyHash P ⟨#[109, 97, 112, 95, 116, 97, 98, 108, 101, 95, 98, 51]⟩, (.str ⟨#[109, 97, 112, 95, 116, 97, 98, 108, 101, 95, 98, 51]⟩ 2226), (.ref 85)⟩, ⟨PyData.keyHash P ⟨#[95, 77, 65, 88, 95, 83, 84, 82, 73, 78, 71, 95, 83, 73, 90, 69]⟩, (.str ⟨#[95, 77, 65, 88, 95, 83, 84, 82, 73, 78, 71, 95, 83, 73, 90, 69]⟩ 2230), (.int 40 2229)⟩, ⟨PyData.keyHash P ⟨#[95, 77, 79, 86, 69, 95, 67, 79, 83, 84]⟩, (.str ⟨#[95, 77, 79, 86, 69, 95, 67, 79, 83, 84]⟩ 2232), (.int 2 2231)⟩] 16), #[]⟩
noncomputable def T10 (P : Params) : BT := (.node (boot_o_0 P) (.node (boot_o_1 P) (.node (o3v10 P) (.node (boot_o_7 P) (.node (o15v0 P) (.node (o31v0 P) (.node (o63v0 P) .nil .nil) .nil) (.node (o47v0 P) (.node (o79v0 P) .nil .nil) .nil)) (.node (o23v0 P) (.node (o39v0 P) (.node (o71v0 P) .nil .nil) .nil) (.node (o55v0 P) .nil .nil))) (.node (o11v0 P) (.node (o19v0 P) (.node (o35v0 P) (.node (o67v0 P) .nil .nil) .nil) (.node (o51v0 P) (.node (o83v0 P) .nil .nil) .nil)) (.node (o27v0 P) (.node (o43v0 P) (.node (o75v0 P) .nil .nil) .nil) (.node (o59v0 P) .nil .nil)))) (.node (boot_o_5 P) (.node (boot_o_9 P) (.node (o17v0 P) (.node (o33v0 P) (.node (o65v0 P) .nil .nil) .nil) (.node (o49v0 P) (.node (o81v0 P) .nil .nil) .nil)) (.node (o25v0 P) (.node (o41v0 P) (.node (o73v0 P) .nil .nil) .nil) (.node (o57v0 P) .nil .nil))) (.node (o13v0 P) (.node (o21v0 P) (.node (o37v0 P) (.node (o69v0 P) .nil .nil) .nil) (.node (o53v0 P) (.node (o85v0 P) .nil .nil) .nil)) (.node (o29v0 P) (.node (o45v0 P) (.node (o77v0 P) .nil .nil) .nil) (.node (o61v0 P) .nil .nil))))) (.node (boot_o_2 P) (.node (boot_o_4 P) (.node (boot_o_8 P) (.node (o16v0 P) (.node (o32v0 P) (.node (o64v0 P) .nil .nil) .nil) (.node (o48v0 P) (.node (o80v0 P) .nil .nil) .nil)) (.node (o24v0 P) (.node (o40v0 P) (.node (o72v0 P) .nil .nil) .nil) (.node (o56v0 P) .nil .nil))) (.node (o12v3 P) (.node (o20v0 P) (.node (o36v0 P) (.node (o68v0 P) .nil .nil) .nil) (.node (o52v0 P) (.node (o84v0 P) .nil .nil) .nil)) (.node (o28v0 P) (.node (o44v0 P) (.node (o76v0 P) .nil .nil) .nil) (.node (o60v0 P) .nil .nil)))) (.node (boot_o_6 P) (.node (boot_o_10 P) (.node (o18v0 P) (.node (o34v0 P) (.node (o66v0 P) .nil .nil) .nil) (.node (o50v0 P) (.node (o82v0 P) .nil .nil) .nil)) (.node (o26v0 P) (.node (o42v0 P) (.node (o74v0 P) .nil .nil) .nil) (.node (o58v0 P) .nil .nil))) (.node (o14v0 P) (.node (o22v0 P) (.node (o38v0 P) (.node (o70v0 P) .nil .nil) .nil) (.node (o54v0 P) .nil .nil)) (.node (o30v0 P) (.node (o46v0 P) (.node (o78v0 P) .nil .nil) .nil) (.node (o62v0 P) .nil .nil))))))
theorem pt9 (w : World) (os : OsState) : segRunT treeTable pp w 11 (some (.ref 6)) 1 10 ⟨T9 w.params, 86, {}, #[], {}, 2231, os⟩ (piecesOf [st9] env (.body bd env) ⟨21, 0, 21, 16⟩ [topFrame ⟨0, 0, 0, 0⟩]) = some (.next, ⟨T10 w.params, 86, {}, #[], {}, 2233, os⟩, .body bd env, ⟨22, 0, 22, 10⟩) := by
  show segRunT treeTable pp _ 11 (some (.ref 6)) 1 10 _ ⟨(execs [st9] env).wrap doneF deadEnd id id, .body bd env, ⟨21, 0, 21, 16⟩, [topFrame ⟨0, 0, 0, 0⟩]⟩ = _
  rw [PySem.W.Fast.te10110043849684766642, PySem.W.Fast.te14364793385576792824, PySem.W.Fast.te12563942051412417395]
  kernel_rfl!
theorem pc9 (w : World) (os : OsState) : segRun treeTable pp w 11 (some (.ref 6)) 1 10 (SharedT.abs ⟨T9 w.params, 86, {}, #[], {}, 2231, os⟩) (piecesOf [st9] env (.body bd env) ⟨21, 0, 21, 16⟩ [topFrame ⟨0, 0, 0, 0⟩]) = some (.next, SharedT.abs ⟨T10 w.params, 86, {}, #[], {}, 2233, os⟩, .body bd env, ⟨22, 0, 22, 10⟩) := segRun_of (pt9 w os)
noncomputable def o3v11 (P : Params) : Obj := ⟨(.type "dict"), none, (.dict #[⟨PyData.keyHash P ⟨#[95, 95, 110, 97, 109, 101, 95, 95]⟩, (.str ⟨#[95, 95, 110, 97, 109, 101, 95, 95]⟩ 165), (.str ⟨#[99, 112, 121, 51, 49, 51, 46, 116, 114, 97, 99, 101, 98, 97, 99, 107]⟩ 2227)⟩, ⟨PyData.keyHash P ⟨#[95, 95, 100, 111, 99, 95, 95]⟩, (.str ⟨#[95, 95, 100, 111, 99, 95, 95]⟩ 166), (.none)⟩, ⟨PyData.keyHash P ⟨#[95, 95, 112, 97, 99, 107, 97, 103, 101, 95, 95]⟩, (.str ⟨#[95, 95, 112, 97, 99, 107, 97, 103, 101, 95, 95]⟩ 167), (.none)⟩, ⟨PyData.keyHash P ⟨#[95, 95, 108, 111, 97, 100, 101, 114, 95, 95]⟩, (.str ⟨#[95, 95, 108, 111, 97, 100, 101, 114, 95, 95]⟩ 168), (.builtin "__main__.__loader__#opaque")⟩, ⟨PyData.keyHash P ⟨#[95, 95, 115, 112, 101, 99, 95, 95]⟩, (.str ⟨#[95, 95, 115, 112, 101, 99, 95, 95]⟩ 169), (.none)⟩, ⟨PyData.keyHash P ⟨#[95, 95, 97, 110, 110, 111, 116, 97, 116, 105, 111, 110, 115, 95, 95]⟩, (.str ⟨#[95, 95, 97, 110, 110, 111, 116, 97, 116, 105, 111, 110, 115, 95, 95]⟩ 170), (.ref 6)⟩, ⟨PyData.keyHash P ⟨#[95, 95, 98, 117, 105, 108, 116, 105, 110, 115, 95, 95]⟩, (.str ⟨#[95, 95, 98, 117, 105, 108, 116, 105, 110, 115, 95, 95]⟩ 171), (.ref 4)⟩, ⟨PyData.keyHash P ⟨#[95, 95, 102, 105, 108, 101, 95, 95]⟩, (.str ⟨#[95, 95, 102, 105, 108, 101, 95, 95]⟩ 173), (.str ⟨#[47, 99, 108, 97, 105, 109, 47, 99, 117, 116, 46, 112, 121]⟩ 172)⟩, ⟨PyData.keyHash P ⟨#[95, 95, 99, 97, 99, 104, 101, 100, 95, 95]⟩, (.str ⟨#[95, 95, 99, 97, 99, 104, 101, 100, 95, 95]⟩ 174), (.none)⟩, ⟨PyData.keyHash P ⟨#[73, 110, 116, 50, 65, 80]⟩, (.str ⟨#[73, 110, 116, 50, 65, 80]⟩ 198), (.ref 21)⟩, ⟨PyData.keyHash P ⟨#[98, 49, 95, 115, 101, 116]⟩, (.str ⟨#[98, 49, 95, 115, 101, 116]⟩ 260), (.ref 29)⟩, ⟨PyData.keyHash P ⟨#[105, 110, 95, 116, 97, 98, 108, 101, 95, 98, 49]⟩, (.str ⟨#[105, 110, 95, 116, 97, 98, 108, 101, 95, 98, 49]⟩ 267), (.ref 39)⟩, ⟨PyData.keyHash P ⟨#[98, 51, 95, 101, 120, 99, 101, 112, 116, 105, 111, 110, 115]⟩, (.str ⟨#[98, 51, 95, 101, 120, 99, 101, 112, 116, 105, 111, 110, 115]⟩ 2218), (.ref 40)⟩, ⟨PyData.keyHash P ⟨#[109, 97, 112, 95, 116, 97, 98, 108, 101, 95, 98, 51]⟩, (.str ⟨#[109, 97, 112, 95, 116, 97, 98, 108, 101, 95, 98, 51]⟩ 2226), (.ref 85)⟩, ⟨PyData.keyHash P ⟨#[95, 77, 65, 88, 95, 83, 84, 82, 73, 78, 71, 95, 83, 73, 90, 69]⟩, (.str ⟨#[95, 77, 65, 88, 95, 83, 84, 82, 73, 78, 71, 95, 83, 73, 90, 69]⟩ 2230), (.int 40 2229)⟩, ⟨PyData.keyHash P ⟨#[95, 77, 79, 86, 69, 95, 67, 79, 83, 84]⟩, (.str ⟨#[95, 77, 79, 86, 69, 95, 67, 79, 83, 84]⟩ 2232), (.int 2 2231)⟩, ⟨PyData.keyHash P ⟨#[95, 67, 65, 83, 69, 95, 67, 79, 83, 84]⟩, (.str ⟨#[95, 67, 65, 83, 69, 95, 67, 79, 83, 84]⟩ 2234), (.int 1 2233)⟩] 17), #[]⟩
noncomputable def T11 (P : Params) : BT := (.node (boot_o_0 P) (.node (boot_o_1 P) (.node (o3v11 P) (.node (boot_o_7 P) (.node (o15v0 P) (.node (o31v0 P) (.node (o63v0 P) .nil .nil) .nil) (.node (o47v0 P) (.node (o79v0 P) .nil .nil) .nil)) (.node (o23v0 P) (.node (o39v0 P) (.node (o71v0 P) .nil .nil) .nil) (.node (o55v0 P) .nil .nil))) (.node (o11v0 P) (.node (o19v0 P) (.node (o35v0 P) (.node (o67v0 P) .nil .nil) .nil) (.node (o51v0 P) (.node (o83v0 P) .nil .nil) .nil)) (.node (o27v0 P) (.node (o43v0 P) (.node (o75v0 P) .nil .nil) .nil) (.node (o59v0 P) .nil .nil)))) (.node (boot_o_5 P) (.node (boot_o_9 P) (.node (o17v0 P) (.node (o33v0 P) (.node (o65v0 P) .nil .nil) .nil) (.node (o49v0 P) (.node (o81v0 P) .nil .nil) .nil)) (.node (o25v0 P) (.node (o41v0 P) (.node (o73v0 P) .nil .nil) .nil) (.node (o57v0 P) .nil .nil))) (.node (o13v0 P) (.node (o21v0 P) (.node (o37v0 P) (.node (o69v0 P) .nil .nil) .nil) (.node (o53v0 P) (.node (o85v0 P) .nil .nil) .nil)) (.node (o29v0 P) (.node (o45v0 P) (.node (o77v0 P) .nil .nil) .nil) (.node (o61v0 P) .nil .nil))))) (.node (boot_o_2 P) (.node (boot_o_4 P) (.node (boot_o_8 P) (.node (o16v0 P) (.node (o32v0 P) (.node (o64v0 P) .nil .nil) .nil) (.node (o48v0 P) (.node (o80v0 P) .nil .nil) .nil)) (.node (o24v0 P) (.node (o40v0 P) (.node (o72v0 P) .nil .nil) .nil) (.node (o56v0 P) .nil .nil))) (.node (o12v3 P) (.node (o20v0 P) (.node (o36v0 P) (.node (o68v0 P) .nil .nil) .nil) (.node (o52v0 P) (.node (o84v0 P) .nil .nil) .nil)) (.node (o28v0 P) (.node (o44v0 P) (.node (o76v0 P) .nil .nil) .nil) (.node (o60v0 P) .nil .nil)))) (.node (boot_o_6 P) (.node (boot_o_10 P) (.node (o18v0 P) (.node (o34v0 P) (.node (o66v0 P) .nil .nil) .nil) (.node (o50v0 P) (.node (o82v0 P) .nil .nil) .nil)) (.node (o26v0 P) (.node (o42v0 P) (.node (o74v0 P) .nil .nil) .nil) (.node (o58v0 P) .nil .nil))) (.node (o14v0 P) (.node (o22v0 P) (.node (o38v0 P) (.node (o70v0 P) .nil .nil) .nil) (.node (o54v0 P) .nil .nil)) (.node (o30v0 P) (.node (o46v0 P) (.node (o78v0 P) .nil .nil) .nil) (.node (o62v0 P) .nil .nil))))))
theorem pt10 (w : World) (os : OsState) : segRunT treeTable pp w 11 (some (.ref 6)) 1 10 ⟨T10 w.params, 86, {}, #[], {}, 2233, os⟩ (piecesOf [st10] env (.body bd env) ⟨22, 0, 22, 10⟩ [topFrame ⟨0, 0, 0, 0⟩]) = some (.next, ⟨T11 w.params, 86, {}, #[], {}, 2235, os⟩, .body bd env, ⟨23, 0, 23, 10⟩) := by
  show segRunT treeTable pp _ 11 (some (.ref 6)) 1 10 _ ⟨(execs [st10] env).wrap doneF deadEnd id id, .body bd env, ⟨22, 0, 22, 10⟩, [topFrame ⟨0, 0, 0, 0⟩]⟩ = _
  rw [PySem.W.Fast.te10110043849684766642, PySem.W.Fast.te14364793385576792824, PySem.W.Fast.te12563942051412417395]
  kernel_rfl!
theorem pc10 (w : World) (os : OsState) : segRun treeTable pp w 11 (some (.ref 6)) 1 10 (SharedT.abs ⟨T10 w.params, 86, {}, #[], {}, 2233, os⟩) (piecesOf [st10] env (.body bd env) ⟨22, 0, 22, 10⟩ [topFrame ⟨0, 0, 0, 0⟩]) = some (.next, SharedT.abs ⟨T11 w.params, 86, {}, #[], {}, 2235, os⟩, .body bd env, ⟨23, 0, 23, 10⟩) := segRun_of (pt10 w os)
noncomputable def o3v12 (P : Params) : Obj := ⟨(.type "dict"), none, (.dict #[⟨PyData.keyHash P ⟨#[95, 95, 110, 97, 109, 101, 95, 95]⟩, (.str ⟨#[95, 95, 110, 97, 109, 101, 95, 95]⟩ 165), (.str ⟨#[99, 112, 121, 51, 49, 51, 46, 116, 114, 97, 99, 101, 98, 97, 99, 107]⟩ 2227)⟩, ⟨PyData.keyHash P ⟨#[95, 95, 100, 111, 99, 95, 95]⟩, (.str ⟨#[95, 95, 100, 111, 99, 95, 95]⟩ 166), (.none)⟩, ⟨PyData.keyHash P ⟨#[95, 95, 112, 97, 99, 107, 97, 103, 101, 95, 95]⟩, (.str ⟨#[95, 95, 112, 97, 99, 107, 97, 103, 101, 95, 95]⟩ 167), (.none)⟩, ⟨PyData.keyHash P ⟨#[95, 95, 108, 111, 97, 100, 101, 114, 95, 95]⟩, (.str ⟨#[95, 95, 108, 111, 97, 100, 101, 114, 95, 95]⟩ 168), (.builtin "__main__.__loader__#opaque")⟩, ⟨PyData.keyHash P ⟨#[95, 95, 115, 112, 101, 99, 95, 95]⟩, (.str ⟨#[95, 95, 115, 112, 101, 99, 95, 95]⟩ 169), (.none)⟩, ⟨PyData.keyHash P ⟨#[95, 95, 97, 110, 110, 111, 116, 97, 116, 105, 111, 110, 115, 95, 95]⟩, (.str ⟨#[95, 95, 97, 110, 110, 111, 116, 97, 116, 105, 111, 110, 115, 95, 95]⟩ 170), (.ref 6)⟩, ⟨PyData.keyHash P ⟨#[95, 95, 98, 117, 105, 108, 116, 105, 110, 115, 95, 95]⟩, (.str ⟨#[95, 95, 98, 117, 105, 108, 116, 105, 110, 115, 95, 95]⟩ 171), (.ref 4)⟩, ⟨PyData.keyHash P ⟨#[95, 95, 102, 105, 108, 101, 95, 95]⟩, (.str ⟨#[95, 95, 102, 105, 108, 101, 95, 95]⟩ 173), (.str ⟨#[47, 99, 108, 97, 105, 109, 47, 99, 117, 116, 46, 112, 121]⟩ 172)⟩, ⟨PyData.keyHash P ⟨#[95, 95, 99, 97, 99, 104, 101, 100, 95, 95]⟩, (.str ⟨#[95, 95, 99, 97, 99, 104, 101, 100, 95, 95]⟩ 174), (.none)⟩, ⟨PyData.keyHash P ⟨#[73, 110, 116, 50, 65, 80]⟩, (.str ⟨#[73, 110, 116, 50, 65, 80]⟩ 198), (.ref 21)⟩, ⟨PyData.keyHash P ⟨#[98, 49, 95, 115, 101, 116]⟩, (.str ⟨#[98, 49, 95, 115, 101, 116]⟩ 260), (.ref 29)⟩, ⟨PyData.keyHash P ⟨#[105, 110, 95, 116, 97, 98, 108, 101, 95, 98, 49]⟩, (.str ⟨#[105, 110, 95, 116, 97, 98, 108, 101, 95, 98, 49]⟩ 267), (.ref 39)⟩, ⟨PyData.keyHash P ⟨#[98, 51, 95, 101, 120, 99, 101, 112, 116, 105, 111, 110, 115]⟩, (.str ⟨#[98, 51, 95, 101, 120, 99, 101, 112, 116, 105, 111, 110, 115]⟩ 2218), (.ref 40)⟩, ⟨PyData.keyHash P ⟨#[109, 97, 112, 95, 116, 97, 98, 108, 101, 95, 98, 51]⟩, (.str ⟨#[109, 97, 112, 95, 116, 97, 98, 108, 101, 95, 98, 51]⟩ 2226), (.ref 85)⟩, ⟨PyData.keyHash P ⟨#[95, 77, 65, 88, 95, 83, 84, 82, 73, 78, 71, 95, 83, 73, 90, 69]⟩, (.str ⟨#[95, 77, 65, 88, 95, 83, 84, 82, 73, 78, 71, 95, 83, 73, 90, 69]⟩ 2230), (.int 40 2229)⟩, ⟨PyData.keyHash P ⟨#[95, 77, 79, 86, 69, 95, 67, 79, 83, 84]⟩, (.str ⟨#[95, 77, 79, 86, 69, 95, 67, 79, 83, 84]⟩ 2232), (.int 2 2231)⟩, ⟨PyData.keyHash P ⟨#[95, 67, 65, 83, 69, 95, 67, 79, 83, 84]⟩, (.str ⟨#[95, 67, 65, 83, 69, 95, 67, 79, 83, 84]⟩ 2234), (.int 1 2233)⟩, ⟨PyData.keyHash P ⟨#[95, 115, 117, 98, 115, 116, 105, 116, 117, 116, 105, 111, 110, 95, 99, 111, 115, 116]⟩, (.str ⟨#[95, 115, 117, 98, 115, 116, 105, 116, 117, 116, 105, 111, 110, 95, 99, 111, 115, 116]⟩ 2242), (.ref 92)⟩] 18), #[]⟩
noncomputable def o12v4 (P : Params) : Obj := ⟨(.none), none, (.fields #[(.int 2 0), (.int 0 0), (.ref 20), (.int 12 0), (.int 0 0), (.ref 38), (.int 15 0), (.int 0 0), (.ref 84), (.int 24 0), (.int 0 0), (.ref 91)]), #[]⟩
noncomputable def o86v0 (P : Params) : Obj := ⟨(.type "tuple"), none, (.seq #[] 0), #[]⟩
noncomputable def o87v0 (P : Params) : Obj := ⟨(.none), none, (.fields #[]), #[]⟩
noncomputable def o88v0 (P : Params) : Obj := ⟨(.type "tuple"), none, (.seq #[(.str ⟨#[99, 104, 95, 97]⟩ 2238), (.str ⟨#[99, 104, 95, 98]⟩ 2239)] 0), #[]⟩
noncomputable def o89v0 (P : Params) : Obj := ⟨(.type "tuple"), none, (.seq #[] 0), #[]⟩
noncomputable def o90v0 (P : Params) : Obj := ⟨(.none), none, .func (fd st11 0 (.none) (.none) 0), #[]⟩
noncomputable def o91v0 (P : Params) : Obj := ⟨(.type "code"), none, (.fields #[(.str ⟨#[95, 115, 117, 98, 115, 116, 105, 116, 117, 116, 105, 111, 110, 95, 99, 111, 115, 116]⟩ 2235), (.str ⟨#[95, 115, 117, 98, 115, 116, 105, 116, 117, 116, 105, 111, 110, 95, 99, 111, 115, 116]⟩ 2236), (.str ⟨#[47, 99, 108, 97, 105, 109, 47, 99, 117, 116, 46, 112, 121]⟩ 2237), (.int 24 0), (.int 2 0), (.int 0 0), (.int 0 0), (.int 3 0), (.ref 86), (.bool true), (.int 181 0), (.ref 87), (.none), (.ref 88), (.ref 89), (.ref 90), (.int 2240 0), (.int 24 0), (.str ⟨#[47, 99, 108, 97, 105, 109, 47, 99, 117, 116, 46, 112, 121]⟩ 2241)]), #[]⟩
noncomputable def o92v0 (P : Params) : Obj := ⟨(.type "function"), none, .func (fd st11 3 (.str ⟨#[99, 112, 121, 51, 49, 51, 46, 116, 114, 97, 99, 101, 98, 97, 99, 107]⟩ 2227) (.ref 91) 0), #[]⟩
noncomputable def T12 (P : Params) : BT := (.node (boot_o_0 P) (.node (boot_o_1 P) (.node (o3v12 P) (.node (boot_o_7 P) (.node (o15v0 P) (.node (o31v0 P) (.node (o63v0 P) .nil .nil) .nil) (.node (o47v0 P) (.node (o79v0 P) .nil .nil) .nil)) (.node (o23v0 P) (.node (o39v0 P) (.node (o71v0 P) .nil .nil) .nil) (.node (o55v0 P) (.node (o87v0 P) .nil .nil) .nil))) (.node (o11v0 P) (.node (o19v0 P) (.node (o35v0 P) (.node (o67v0 P) .nil .nil) .nil) (.node (o51v0 P) (.node (o83v0 P) .nil .nil) .nil)) (.node (o27v0 P) (.node (o43v0 P) (.node (o75v0 P) .nil .nil) .nil) (.node (o59v0 P) (.node (o91v0 P) .nil .nil) .nil)))) (.node (boot_o_5 P) (.node (boot_o_9 P) (.node (o17v0 P) (.node (o33v0 P) (.node (o65v0 P) .nil .nil) .nil) (.node (o49v0 P) (.node (o81v0 P) .nil .nil) .nil)) (.node (o25v0 P) (.node (o41v0 P) (.node (o73v0 P) .nil .nil) .nil) (.node (o57v0 P) (.node (o89v0 P) .nil .nil) .nil))) (.node (o13v0 P) (.node (o21v0 P) (.node (o37v0 P) (.node (o69v0 P) .nil .nil) .nil) (.node (o53v0 P) (.node (o85v0 P) .nil .nil) .nil)) (.node (o29v0 P) (.node (o45v0 P) (.node (o77v0 P) .nil .nil) .nil) (.node (o61v0 P) .nil .nil))))) (.node (boot_o_2 P) (.node (boot_o_4 P) (.node (boot_o_8 P) (.node (o16v0 P) (.node (o32v0 P) (.node (o64v0 P) .nil .nil) .nil) (.node (o48v0 P) (.node (o80v0 P) .nil .nil) .nil)) (.node (o24v0 P) (.node (o40v0 P) (.node (o72v0 P) .nil .nil) .nil) (.node (o56v0 P) (.node (o88v0 P) .nil .nil) .nil))) (.node (o12v4 P) (.node (o20v0 P) (.node (o36v0 P) (.node (o68v0 P) .nil .nil) .nil) (.node (o52v0 P) (.node (o84v0 P) .nil .nil) .nil)) (.node (o28v0 P) (.node (o44v0 P) (.node (o76v0 P) .nil .nil) .nil) (.node (o60v0 P) (.node (o92v0 P) .nil .nil) .nil)))) (.node (boot_o_6 P) (.node (boot_o_10 P) (.node (o18v0 P) (.node (o34v0 P) (.node (o66v0 P) .nil .nil) .nil) (.node (o50v0 P) (.node (o82v0 P) .nil .nil) .nil)) (.node (o26v0 P) (.node (o42v0 P) (.node (o74v0 P) .nil .nil) .nil) (.node (o58v0 P) (.node (o90v0 P) .nil .nil) .nil))) (.node (o14v0 P) (.node (o22v0 P) (.node (o38v0 P) (.node (o70v0 P) .nil .nil) .nil) (.node (o54v0 P) (.node (o86v0 P) .nil .nil) .nil)) (.node (o30v0 P) (.node (o46v0 P) (.node (o78v0 P) .nil .nil) .nil) (.node (o62v0 P) .nil .nil))))))
theorem pt11 (w : World) (os : OsState) : segRunT treeTable pp w 11 (some (.ref 6)) 1 31 ⟨T11 w.params, 86, {}, #[], {}, 2235, os⟩ (piecesOf [st11] env (.body bd env) ⟨23, 0, 23, 10⟩ [topFrame ⟨0, 0, 0, 0⟩]) = some (.next, ⟨T12 w.params, 93, {}, #[], {}, 2243, os⟩, .body bd env, ⟨24, 0, 29, 21⟩) := by
  show segRunT treeTable pp _ 11 (some (.ref 6)) 1 31 _ ⟨(execs [st11] env).wrap doneF deadEnd id id, .body bd env, ⟨23, 0, 23, 10⟩, [topFrame ⟨0, 0, 0, 0⟩]⟩ = _
  rw [PySem.W.Fast.te10110043849684766642, PySem.W.Fast.te14364793385576792824, PySem.W.Fast.te12563942051412417395]
  kernel_rfl!
theorem pc11 (w : World) (os : OsState) : segRun treeTable pp w 11 (some (.ref 6)) 1 31 (SharedT.abs ⟨T11 w.params, 86, {}, #[], {}, 2235, os⟩) (piecesOf [st11] env (.body bd env) ⟨23, 0, 23, 10⟩ [topFrame ⟨0, 0, 0, 0⟩]) = some (.next, SharedT.abs ⟨T12 w.params, 93, {}, #[], {}, 2243, os⟩, .body bd env, ⟨24, 0, 29, 21⟩) := segRun_of (pt11 w os)
noncomputable def o3v13 (P : Params) : Obj := ⟨(.type "dict"), none, (.dict #[⟨PyData.keyHash P ⟨#[95, 95, 110, 97, 109, 101, 95, 95]⟩, (.str ⟨#[95, 95, 110, 97, 109, 101, 95, 95]⟩ 165), (.str ⟨#[99, 112, 121, 51, 49, 51, 46, 116, 114, 97, 99, 101, 98, 97, 99, 107]⟩ 2227)⟩, ⟨PyData.keyHash P ⟨#[95, 95, 100, 111, 99, 95, 95]⟩, (.str ⟨#[95, 95, 100, 111, 99, 95, 95]⟩ 166), (.none)⟩, ⟨PyData.keyHash P ⟨#[95, 95, 112, 97, 99, 107, 97, 103, 101, 95, 95]⟩, (.str ⟨#[95, 95, 112, 97, 99, 107, 97, 103, 101, 95, 95]⟩ 167), (.none)⟩, ⟨PyData.keyHash P ⟨#[95, 95, 108, 111, 97, 100, 101, 114, 95, 95]⟩, (.str ⟨#[95, 95, 108, 111, 97, 100, 101, 114, 95, 95]⟩ 168), (.builtin "__main__.__loader__#opaque")⟩, ⟨PyData.keyHash P ⟨#[95, 95, 115, 112, 101, 99, 95, 95]⟩, (.str ⟨#[95, 95, 115, 112, 101, 99, 95, 95]⟩ 169), (.none)⟩, ⟨PyData.keyHash P ⟨#[95, 95, 97, 110, 110, 111, 116, 97, 116, 105, 111, 110, 115, 95, 95]⟩, (.str ⟨#[95, 95, 97, 110, 110, 111, 116, 97, 116, 105, 111, 110, 115, 95, 95]⟩ 170), (.ref 6)⟩, ⟨PyData.keyHash P ⟨#[95, 95, 98, 117, 105, 108, 116, 105, 110, 115, 95, 95]⟩, (.str ⟨#[95, 95, 98, 117, 105, 108, 116, 105, 110, 115, 95, 95]⟩ 171), (.ref 4)⟩, ⟨PyData.keyHash P ⟨#[95, 95, 102, 105, 108, 101, 95, 95]⟩, (.str ⟨#[95, 95, 102, 105, 108, 101, 95, 95]⟩ 173), (.str ⟨#[47, 99, 108, 97, 105, 109, 47, 99, 117, 116, 46, 112, 121]⟩ 172)⟩, ⟨PyData.keyHash P ⟨#[95, 95, 99, 97, 99, 104, 101, 100, 95, 95]⟩, (.str ⟨#[95, 95, 99, 97, 99, 104, 101, 100, 95, 95]⟩ 174), (.none)⟩, ⟨PyData.keyHash P ⟨#[73, 110, 116, 50, 65, 80]⟩, (.str ⟨#[73, 110, 116, 50, 65, 80]⟩ 198), (.ref 21)⟩, ⟨PyData.keyHash P ⟨#[98, 49, 95, 115, 101, 116]⟩, (.str ⟨#[98, 49, 95, 115, 101, 116]⟩ 260), (.ref 29)⟩, ⟨PyData.keyHash P ⟨#[105, 110, 95, 116, 97, 98, 108, 101, 95, 98, 49]⟩, (.str ⟨#[105, 110, 95, 116, 97, 98, 108, 101, 95, 98, 49]⟩ 267), (.ref 39)⟩, ⟨PyData.keyHash P ⟨#[98, 51, 95, 101, 120, 99, 101, 112, 116, 105, 111, 110, 115]⟩, (.str ⟨#[98, 51, 95, 101, 120, 99, 101, 112, 116, 105, 111, 110, 115]⟩ 2218), (.ref 40)⟩, ⟨PyData.keyHash P ⟨#[109, 97, 112, 95, 116, 97, 98, 108, 101, 95, 98, 51]⟩, (.str ⟨#[109, 97, 112, 95, 116, 97, 98, 108, 101, 95, 98, 51]⟩ 2226), (.ref 85)⟩, ⟨PyData.keyHash P ⟨#[95, 77, 65, 88, 95, 83, 84, 82, 73, 78, 71, 95, 83, 73, 90, 69]⟩, (.str ⟨#[95, 77, 65, 88, 95, 83, 84, 82, 73, 78, 71, 95, 83, 73, 90, 69]⟩ 2230), (.int 40 2229)⟩, ⟨PyData.keyHash P ⟨#[95, 77, 79, 86, 69, 95, 67, 79, 83, 84]⟩, (.str ⟨#[95, 77, 79, 86, 69, 95, 67, 79, 83, 84]⟩ 2232), (.int 2 2231)⟩, ⟨PyData.keyHash P ⟨#[95, 67, 65, 83, 69, 95, 67, 79, 83, 84]⟩, (.str ⟨#[95, 67, 65, 83, 69, 95, 67, 79, 83, 84]⟩ 2234), (.int 1 2233)⟩, ⟨PyData.keyHash P ⟨#[95, 115, 117, 98, 115, 116, 105, 116, 117, 116, 105, 111, 110, 95, 99, 111, 115, 116]⟩, (.str ⟨#[95, 115, 117, 98, 115, 116, 105, 116, 117, 116, 105, 111, 110, 95, 99, 111, 115, 116]⟩ 2242), (.ref 92)⟩, ⟨PyData.keyHash P ⟨#[95, 108, 101, 118, 101, 110, 115, 104, 116, 101, 105, 110, 95, 100, 105, 115, 116, 97, 110, 99, 101]⟩, (.str ⟨#[95, 108, 101, 118, 101, 110, 115, 104, 116, 101, 105, 110, 95, 100, 105, 115, 116, 97, 110, 99, 101]⟩ 2262), (.ref 99)⟩] 19), #[]⟩
noncomputable def o12v5 (P : Params) : Obj := ⟨(.none), none, (.fields #[(.int 2 0), (.int 0 0), (.ref 20), (.int 12 0), (.int 0 0), (.ref 38), (.int 15 0), (.int 0 0), (.ref 84), (.int 24 0), (.int 0 0), (.ref 91), (.int 30 0), (.int 0 0), (.ref 98)]), #[]⟩
noncomputable def o93v0 (P : Params) : Obj := ⟨(.type "tuple"), none, (.seq #[] 0), #[]⟩
noncomputable def o94v0 (P : Params) : Obj := ⟨(.none), none, (.fields #[]), #[]⟩
noncomputable def o95v0 (P : Params) : Obj := ⟨(.type "tuple"), none, (.seq #[(.str ⟨#[97]⟩ 2246), (.str ⟨#[98]⟩ 2247), (.str ⟨#[109, 97, 120, 95, 99, 111, 115, 116]⟩ 2248), (.str ⟨#[112, 114, 101]⟩ 2249), (.str ⟨#[112, 111, 115, 116]⟩ 2250), (.str ⟨#[114, 111, 119]⟩ 2251), (.str ⟨#[114, 101, 115, 117, 108, 116]⟩ 2252), (.str ⟨#[98, 105, 110, 100, 101, 120]⟩ 2253), (.str ⟨#[98, 99, 104, 97, 114]⟩ 2254), (.str ⟨#[100, 105, 115, 116, 97, 110, 99, 101]⟩ 2255), (.str ⟨#[109, 105, 110, 105, 109, 117, 109]⟩ 2256), (.str ⟨#[105, 110, 100, 101, 120]⟩ 2257), (.str ⟨#[115, 117, 98, 115, 116, 105, 116, 117, 116, 101]⟩ 2258), (.str ⟨#[105, 110, 115, 101, 114, 116, 95, 100, 101, 108, 101, 116, 101]⟩ 2259)] 0), #[]⟩
noncomputable def o96v0 (P : Params) : Obj := ⟨(.type "tuple"), none, (.seq #[] 0), #[]⟩
noncomputable def o97v0 (P : Params) : Obj := ⟨(.none), none, .func (fd st12 0 (.none) (.none) 0), #[]⟩
noncomputable def o98v0 (P : Params) : Obj := ⟨(.type "code"), none, (.fields #[(.str ⟨#[95, 108, 101, 118, 101, 110, 115, 104, 116, 101, 105, 110, 95, 100, 105, 115, 116, 97, 110, 99, 101]⟩ 2243), (.str ⟨#[95, 108, 101, 118, 101, 110, 115, 104, 116, 101, 105, 110, 95, 100, 105, 115, 116, 97, 110, 99, 101]⟩ 2244), (.str ⟨#[47, 99, 108, 97, 105, 109, 47, 99, 117, 116, 46, 112, 121]⟩ 2245), (.int 30 0), (.int 3 0), (.int 0 0), (.int 0 0), (.int 3 0), (.ref 93), (.bool true), (.int 181 0), (.ref 94), (.none), (.ref 95), (.ref 96), (.ref 97), (.int 2260 0), (.int 30 0), (.str ⟨#[47, 99, 108, 97, 105, 109, 47, 99, 117, 116, 46, 112, 121]⟩ 2261)]), #[]⟩
noncomputable def o99v0 (P : Params) : Obj := ⟨(.type "function"), none, .func (fd st12 3 (.str ⟨#[99, 112, 121, 51, 49, 51, 46, 116, 114, 97, 99, 101, 98, 97, 99, 107]⟩ 2227) (.ref 98) 0), #[]⟩
noncomputable def T13 (P : Params) : BT := (.node (boot_o_0 P) (.node (boot_o_1 P) (.node (o3v13 P) (.node (boot_o_7 P) (.node (o15v0 P) (.node (o31v0 P) (.node (o63v0 P) .nil .nil) (.node (o95v0 P) .nil .nil)) (.node (o47v0 P) (.node (o79v0 P) .nil .nil) .nil)) (.node (o23v0 P) (.node (o39v0 P) (.node (o71v0 P) .nil .nil) .nil) (.node (o55v0 P) (.node (o87v0 P) .nil .nil) .nil))) (.node (o11v0 P) (.node (o19v0 P) (.node (o35v0 P) (.node (o67v0 P) .nil .nil) (.node (o99v0 P) .nil .nil)) (.node (o51v0 P) (.node (o83v0 P) .nil .nil) .nil)) (.node (o27v0 P) (.node (o43v0 P) (.node (o75v0 P) .nil .nil) .nil) (.node (o59v0 P) (.node (o91v0 P) .nil .nil) .nil)))) (.node (boot_o_5 P) (.node (boot_o_9 P) (.node (o17v0 P) (.node (o33v0 P) (.node (o65v0 P) .nil .nil) (.node (o97v0 P) .nil .nil)) (.node (o49v0 P) (.node (o81v0 P) .nil .nil) .nil)) (.node (o25v0 P) (.node (o41v0 P) (.node (o73v0 P) .nil .nil) .nil) (.node (o57v0 P) (.node (o89v0 P) .nil .nil) .nil))) (.node (o13v0 P) (.node (o21v0 P) (.node (o37v0 P) (.node (o69v0 P) .nil .nil) .nil) (.node (o53v0 P) (.node (o85v0 P) .nil .nil) .nil)) (.node (o29v0 P) (.node (o45v0 P) (.node (o77v0 P) .nil .nil) .nil) (.node (o61v0 P) (.node (o93v0 P) .nil .nil) .nil))))) (.node (boot_o_2 P) (.node (boot_o_4 P) (.node (boot_o_8 P) (.node (o16v0 P) (.node (o32v0 P) (.node (o64v0 P) .nil .nil) (.node (o96v0 P) .nil .nil)) (.node (o48v0 P) (.node (o80v0 P) .nil .nil) .nil)) (.node (o24v0 P) (.node (o40v0 P) (.node (o72v0 P) .nil .nil) .nil) (.node (o56v0 P) (.node (o88v0 P) .nil .nil) .nil))) (.node (o12v5 P) (.node (o20v0 P) (.node (o36v0 P) (.node (o68v0 P) .nil .nil) .nil) (.node (o52v0 P) (.node (o84v0 P) .nil .nil) .nil)) (.node (o28v0 P) (.node (o44v0 P) (.node (o76v0 P) .nil .nil) .nil) (.node (o60v0 P) (.node (o92v0 P) .nil .nil) .nil)))) (.node (boot_o_6 P) (.node (boot_o_10 P) (.node (o18v0 P) (.node (o34v0 P) (.node (o66v0 P) .nil .nil) (.node (o98v0 P) .nil .nil)) (.node (o50v0 P) (.node (o82v0 P) .nil .nil) .nil)) (.node (o26v0 P) (.node (o42v0 P) (.node (o74v0 P) .nil .nil) .nil) (.node (o58v0 P) (.node (o90v0 P) .nil .nil) .nil))) (.node (o14v0 P) (.node (o22v0 P) (.node (o38v0 P) (.node (o70v0 P) .nil .nil) .nil) (.node (o54v0 P) (.node (o86v0 P) .nil .nil) .nil)) (.node (o30v0 P) (.node (o46v0 P) (.node (o78v0 P) .nil .nil) .nil) (.node (o62v0 P) (.node (o94v0 P) .nil .nil) .nil))))))
theorem pt12 (w : World) (os : OsState) : segRunT treeTable pp w 11 (some (.ref 6)) 1 43 ⟨T12 w.params, 93, {}, #[], {}, 2243, os⟩ (piecesOf [st12] env (.body bd env) ⟨24, 0, 29, 21⟩ [topFrame ⟨0, 0, 0, 0⟩]) = some (.next, ⟨T13 w.params, 100, {}, #[], {}, 2263, os⟩, .body bd env, ⟨30, 0, 67, 17⟩) := by
  show segRunT treeTable pp _ 11 (some (.ref 6)) 1 43 _ ⟨(execs [st12] env).wrap doneF deadEnd id id, .body bd env, ⟨24, 0, 29, 21⟩, [topFrame ⟨0, 0, 0, 0⟩]⟩ = _
  rw [PySem.W.Fast.te10110043849684766642, PySem.W.Fast.te14364793385576792824, PySem.W.Fast.te12563942051412417395]
  kernel_rfl!
theorem pc12 (w : World) (os : OsState) : segRun treeTable pp w 11 (some (.ref 6)) 1 43 (SharedT.abs ⟨T12 w.params, 93, {}, #[], {}, 2243, os⟩) (piecesOf [st12] env (.body bd env) ⟨24, 0, 29, 21⟩ [topFrame ⟨0, 0, 0, 0⟩]) = some (.next, SharedT.abs ⟨T13 w.params, 100, {}, #[], {}, 2263, os⟩, .body bd env, ⟨30, 0, 67, 17⟩) := segRun_of (pt12 w os)
noncomputable def o3v14 (P : Params) : Obj := ⟨(.type "dict"), none, (.dict #[⟨PyData.keyHash P ⟨#[95, 95, 110, 97, 109, 101, 95, 95]⟩, (.str ⟨#[95, 95, 110, 97, 109, 101, 95, 95]⟩ 165), (.str ⟨#[108, 97, 119, 95, 116, 97, 48, 48, 53, 49, 95, 48, 50]⟩ 2263)⟩, ⟨PyData.keyHash P ⟨#[95, 95, 100, 111, 99, 95, 95]⟩, (.str ⟨#[95, 95, 100, 111, 99, 95, 95]⟩ 166), (.none)⟩, ⟨PyData.keyHash P ⟨#[95, 95, 112, 97, 99, 107, 97, 103, 101, 95, 95]⟩, (.str ⟨#[95, 95, 112, 97, 99, 107, 97, 103, 101, 95, 95]⟩ 167), (.none)⟩, ⟨PyData.keyHash P ⟨#[95, 95, 108, 111, 97, 100, 101, 114, 95, 95]⟩, (.str ⟨#[95, 95, 108, 111, 97, 100, 101, 114, 95, 95]⟩ 168), (.builtin "__main__.__loader__#opaque")⟩, ⟨PyData.keyHash P ⟨#[95, 95, 115, 112, 101, 99, 95, 95]⟩, (.str ⟨#[95, 95, 115, 112, 101, 99, 95, 95]⟩ 169), (.none)⟩, ⟨PyData.keyHash P ⟨#[95, 95, 97, 110, 110, 111, 116, 97, 116, 105, 111, 110, 115, 95, 95]⟩, (.str ⟨#[95, 95, 97, 110, 110, 111, 116, 97, 116, 105, 111, 110, 115, 95, 95]⟩ 170), (.ref 6)⟩, ⟨PyData.keyHash P ⟨#[95, 95, 98, 117, 105, 108, 116, 105, 110, 115, 95, 95]⟩, (.str ⟨#[95, 95, 98, 117, 105, 108, 116, 105, 110, 115, 95, 95]⟩ 171), (.ref 4)⟩, ⟨PyData.keyHash P ⟨#[95, 95, 102, 105, 108, 101, 95, 95]⟩, (.str ⟨#[95, 95, 102, 105, 108, 101, 95, 95]⟩ 173), (.str ⟨#[47, 99, 108, 97, 105, 109, 47, 99, 117, 116, 46, 112, 121]⟩ 172)⟩, ⟨PyData.keyHash P ⟨#[95, 95, 99, 97, 99, 104, 101, 100, 95, 95]⟩, (.str ⟨#[95, 95, 99, 97, 99, 104, 101, 100, 95, 95]⟩ 174), (.none)⟩, ⟨PyData.keyHash P ⟨#[73, 110, 116, 50, 65, 80]⟩, (.str ⟨#[73, 110, 116, 50, 65, 80]⟩ 198), (.ref 21)⟩, ⟨PyData.keyHash P ⟨#[98, 49, 95, 115, 101, 116]⟩, (.str ⟨#[98, 49, 95, 115, 101, 116]⟩ 260), (.ref 29)⟩, ⟨PyData.keyHash P ⟨#[105, 110, 95, 116, 97, 98, 108, 101, 95, 98, 49]⟩, (.str ⟨#[105, 110, 95, 116, 97, 98, 108, 101, 95, 98, 49]⟩ 267), (.ref 39)⟩, ⟨PyData.keyHash P ⟨#[98, 51, 95, 101, 120, 99, 101, 112, 116, 105, 111, 110, 115]⟩, (.str ⟨#[98, 51, 95, 101, 120, 99, 101, 112, 116, 105, 111, 110, 115]⟩ 2218), (.ref 40)⟩, ⟨PyData.keyHash P ⟨#[109, 97, 112, 95, 116, 97, 98, 108, 101, 95, 98, 51]⟩, (.str ⟨#[109, 97, 112, 95, 116, 97, 98, 108, 101, 95, 98, 51]⟩ 2226), (.ref 85)⟩, ⟨PyData.keyHash P ⟨#[95, 77, 65, 88, 95, 83, 84, 82, 73, 78, 71, 95, 83, 73, 90, 69]⟩, (.str ⟨#[95, 77, 65, 88, 95, 83, 84, 82, 73, 78, 71, 95, 83, 73, 90, 69]⟩ 2230), (.int 40 2229)⟩, ⟨PyData.keyHash P ⟨#[95, 77, 79, 86, 69, 95, 67, 79, 83, 84]⟩, (.str ⟨#[95, 77, 79, 86, 69, 95, 67, 79, 83, 84]⟩ 2232), (.int 2 2231)⟩, ⟨PyData.keyHash P ⟨#[95, 67, 65, 83, 69, 95, 67, 79, 83, 84]⟩, (.str ⟨#[95, 67, 65, 83, 69, 95, 67, 79, 83, 84]⟩ 2234), (.int 1 2233)⟩, ⟨PyData.keyHash P ⟨#[95, 115, 117, 98, 115, 116, 105, 116, 117, 116, 105, 111, 110, 95, 99, 111, 115, 116]⟩, (.str ⟨#[95, 115, 117, 98, 115, 116, 105, 116, 117, 116, 105, 111, 110, 95, 99, 111, 115, 116]⟩ 2242), (.ref 92)⟩, ⟨PyData.keyHash P ⟨#[95, 108, 101, 118, 101, 110, 115, 104, 116, 101, 105, 110, 95, 100, 105, 115, 116, 97, 110, 99, 101]⟩, (.str ⟨#[95, 108, 101, 118, 101, 110, 115, 104, 116, 101, 105, 110, 95, 100, 105, 115, 116, 97, 110, 99, 101]⟩ 2262), (.ref 99)⟩] 19), #[]⟩
noncomputable def T14 (P : Params) : BT := (.node (boot_o_0 P) (.node (boot_o_1 P) (.node (o3v14 P) (.node (boot_o_7 P) (.node (o15v0 P) (.node (o31v0 P) (.node (o63v0 P) .nil .nil) (.node (o95v0 P) .nil .nil)) (.node (o47v0 P) (.node (o79v0 P) .nil .nil) .nil)) (.node (o23v0 P) (.node (o39v0 P) (.node (o71v0 P) .nil .nil) .nil) (.node (o55v0 P) (.node (o87v0 P) .nil .nil) .nil))) (.node (o11v0 P) (.node (o19v0 P) (.node (o35v0 P) (.node (o67v0 P) .nil .nil) (.node (o99v0 P) .nil .nil)) (.node (o51v0 P) (.node (o83v0 P) .nil .nil) .nil)) (.node (o27v0 P) (.node (o43v0 P) (.node (o75v0 P) .nil .nil) .nil) (.node (o59v0 P) (.node (o91v0 P) .nil .nil) .nil)))) (.node (boot_o_5 P) (.node (boot_o_9 P) (.node (o17v0 P) (.node (o33v0 P) (.node (o65v0 P) .nil .nil) (.node (o97v0 P) .nil .nil)) (.node (o49v0 P) (.node (o81v0 P) .nil .nil) .nil)) (.node (o25v0 P) (.node (o41v0 P) (.node (o73v0 P) .nil .nil) .nil) (.node (o57v0 P) (.node (o89v0 P) .nil .nil) .nil))) (.node (o13v0 P) (.node (o21v0 P) (.node (o37v0 P) (.node (o69v0 P) .nil .nil) .nil) (.node (o53v0 P) (.node (o85v0 P) .nil .nil) .nil)) (.node (o29v0 P) (.node (o45v0 P) (.node (o77v0 P) .nil .nil) .nil) (.node (o61v0 P) (.node (o93v0 P) .nil .nil) .nil))))) (.node (boot_o_2 P) (.node (boot_o_4 P) (.node (boot_o_8 P) (.node (o16v0 P) (.node (o32v0 P) (.node (o64v0 P) .nil .nil) (.node (o96v0 P) .nil .nil)) (.node (o48v0 P) (.node (o80v0 P) .nil .nil) .nil)) (.node (o24v0 P) (.node (o40v0 P) (.node (o72v0 P) .nil .nil) .nil) (.node (o56v0 P) (.node (o88v0 P) .nil .nil) .nil))) (.node (o12v5 P) (.node (o20v0 P) (.node (o36v0 P) (.node (o68v0 P) .nil .nil) .nil) (.node (o52v0 P) (.node (o84v0 P) .nil .nil) .nil)) (.node (o28v0 P) (.node (o44v0 P) (.node (o76v0 P) .nil .nil) .nil) (.node (o60v0 P) (.node (o92v0 P) .nil .nil) .nil)))) (.node (boot_o_6 P) (.node (boot_o_10 P) (.node (o18v0 P) (.node (o34v0 P) (.node (o66v0 P) .nil .nil) (.node (o98v0 P) .nil .nil)) (.node (o50v0 P) (.node (o82v0 P) .nil .nil) .nil)) (.node (o26v0 P) (.node (o42v0 P) (.node (o74v0 P) .nil .nil) .nil) (.node (o58v0 P) (.node (o90v0 P) .nil .nil) .nil))) (.node (o14v0 P) (.node (o22v0 P) (.node (o38v0 P) (.node (o70v0 P) .nil .nil) .nil) (.node (o54v0 P) (.node (o86v0 P) .nil .nil) .nil)) (.node (o30v0 P) (.node (o46v0 P) (.node (o78v0 P) .nil .nil) .nil) (.node (o62v0 P) (.node (o94v0 P) .nil .nil) .nil))))))
theorem pt13 (w : World) (os : OsState) : segRunT treeTable pp w 11 (some (.ref 6)) 1 10 ⟨T13 w.params, 100, {}, #[], {}, 2263, os⟩ (piecesOf [st13] env (.body bd env) ⟨30, 0, 67, 17⟩ [topFrame ⟨0, 0, 0, 0⟩]) = some (.next, ⟨T14 w.params, 100, {}, #[], {}, 2265, os⟩, .body bd env, ⟨68, 0, 68, 8⟩) := by
  show segRunT treeTable pp _ 11 (some (.ref 6)) 1 10 _ ⟨(execs [st13] env).wrap doneF deadEnd id id, .body bd env, ⟨30, 0, 67, 17⟩, [topFrame ⟨0, 0, 0, 0⟩]⟩ = _
  rw [PySem.W.Fast.te10110043849684766642, PySem.W.Fast.te14364793385576792824, PySem.W.Fast.te12563942051412417395]
  kernel_rfl!
theorem pc13 (w : World) (os : OsState) : segRun treeTable pp w 11 (some (.ref 6)) 1 10 (SharedT.abs ⟨T13 w.params, 100, {}, #[], {}, 2263, os⟩) (piecesOf [st13] env (.body bd env) ⟨30, 0, 67, 17⟩ [topFrame ⟨0, 0, 0, 0⟩]) = some (.next, SharedT.abs ⟨T14 w.params, 100, {}, #[], {}, 2265, os⟩, .body bd env, ⟨68, 0, 68, 8⟩) := segRun_of (pt13 w os)
noncomputable def o3v15 (P : Params) : Obj := ⟨(.type "dict"), none, (.dict #[⟨PyData.keyHash P ⟨#[95, 95, 110, 97, 109, 101, 95, 95]⟩, (.str ⟨#[95, 95, 110, 97, 109, 101, 95, 95]⟩ 165), (.str ⟨#[108, 97, 119, 95, 116, 97, 48, 48, 53, 49, 95, 48, 50]⟩ 2263)⟩, ⟨PyData.keyHash P ⟨#[95, 95, 100, 111, 99, 95, 95]⟩, (.str ⟨#[95, 95, 100, 111, 99, 95, 95]⟩ 166), (.none)⟩, ⟨PyData.keyHash P ⟨#[95, 95, 112, 97, 99, 107, 97, 103, 101, 95, 95]⟩, (.str ⟨#[95, 95, 112, 97, 99, 107, 97, 103, 101, 95, 95]⟩ 167), (.none)⟩, ⟨PyData.keyHash P ⟨#[95, 95, 108, 111, 97, 100, 101, 114, 95, 95]⟩, (.str ⟨#[95, 95, 108, 111, 97, 100, 101, 114, 95, 95]⟩ 168), (.builtin "__main__.__loader__#opaque")⟩, ⟨PyData.keyHash P ⟨#[95, 95, 115, 112, 101, 99, 95, 95]⟩, (.str ⟨#[95, 95, 115, 112, 101, 99, 95, 95]⟩ 169), (.none)⟩, ⟨PyData.keyHash P ⟨#[95, 95, 97, 110, 110, 111, 116, 97, 116, 105, 111, 110, 115, 95, 95]⟩, (.str ⟨#[95, 95, 97, 110, 110, 111, 116, 97, 116, 105, 111, 110, 115, 95, 95]⟩ 170), (.ref 6)⟩, ⟨PyData.keyHash P ⟨#[95, 95, 98, 117, 105, 108, 116, 105, 110, 115, 95, 95]⟩, (.str ⟨#[95, 95, 98, 117, 105, 108, 116, 105, 110, 115, 95, 95]⟩ 171), (.ref 4)⟩, ⟨PyData.keyHash P ⟨#[95, 95, 102, 105, 108, 101, 95, 95]⟩, (.str ⟨#[95, 95, 102, 105, 108, 101, 95, 95]⟩ 173), (.str ⟨#[47, 99, 108, 97, 105, 109, 47, 99, 117, 116, 46, 112, 121]⟩ 172)⟩, ⟨PyData.keyHash P ⟨#[95, 95, 99, 97, 99, 104, 101, 100, 95, 95]⟩, (.str ⟨#[95, 95, 99, 97, 99, 104, 101, 100, 95, 95]⟩ 174), (.none)⟩, ⟨PyData.keyHash P ⟨#[73, 110, 116, 50, 65, 80]⟩, (.str ⟨#[73, 110, 116, 50, 65, 80]⟩ 198), (.ref 21)⟩, ⟨PyData.keyHash P ⟨#[98, 49, 95, 115, 101, 116]⟩, (.str ⟨#[98, 49, 95, 115, 101, 116]⟩ 260), (.ref 29)⟩, ⟨PyData.keyHash P ⟨#[105, 110, 95, 116, 97, 98, 108, 101, 95, 98, 49]⟩, (.str ⟨#[105, 110, 95, 116, 97, 98, 108, 101, 95, 98, 49]⟩ 267), (.ref 39)⟩, ⟨PyData.keyHash P ⟨#[98, 51, 95, 101, 120, 99, 101, 112, 116, 105, 111, 110, 115]⟩, (.str ⟨#[98, 51, 95, 101, 120, 99, 101, 112, 116, 105, 111, 110, 115]⟩ 2218), (.ref 40)⟩, ⟨PyData.keyHash P ⟨#[109, 97, 112, 95, 116, 97, 98, 108, 101, 95, 98, 51]⟩, (.str ⟨#[109, 97, 112, 95, 116, 97, 98, 108, 101, 95, 98, 51]⟩ 2226), (.ref 85)⟩, ⟨PyData.keyHash P ⟨#[95, 77, 65, 88, 95, 83, 84, 82, 73, 78, 71, 95, 83, 73, 90, 69]⟩, (.str ⟨#[95, 77, 65, 88, 95, 83, 84, 82, 73, 78, 71, 95, 83, 73, 90, 69]⟩ 2230), (.int 40 2229)⟩, ⟨PyData.keyHash P ⟨#[95, 77, 79, 86, 69, 95, 67, 79, 83, 84]⟩, (.str ⟨#[95, 77, 79, 86, 69, 95, 67, 79, 83, 84]⟩ 2232), (.int 2 2231)⟩, ⟨PyData.keyHash P ⟨#[95, 67, 65, 83, 69, 95, 67, 79, 83, 84]⟩, (.str ⟨#[95, 67, 65, 83, 69, 95, 67, 79, 83, 84]⟩ 2234), (.int 1 2233)⟩, ⟨PyData.keyHash P ⟨#[95, 115, 117, 98, 115, 116, 105, 116, 117, 116, 105, 111, 110, 95, 99, 111, 115, 116]⟩, (.str ⟨#[95, 115, 117, 98, 115, 116, 105, 116, 117, 116, 105, 111, 110, 95, 99, 111, 115, 116]⟩ 2242), (.ref 92)⟩, ⟨PyData.keyHash P ⟨#[95, 108, 101, 118, 101, 110, 115, 104, 116, 101, 105, 110, 95, 100, 105, 115, 116, 97, 110, 99, 101]⟩, (.str ⟨#[95, 108, 101, 118, 101, 110, 115, 104, 116, 101, 105, 110, 95, 100, 105, 115, 116, 97, 110, 99, 101]⟩ 2262), (.ref 99)⟩, ⟨PyData.keyHash P ⟨#[95, 108, 97, 119, 95, 116, 121, 112, 101, 100]⟩, (.str ⟨#[95, 108, 97, 119, 95, 116, 121, 112, 101, 100]⟩ 2279), (.ref 106)⟩] 20), #[]⟩
noncomputable def o12v6 (P : Params) : Obj := ⟨(.none), none, (.fields #[(.int 2 0), (.int 0 0), (.ref 20), (.int 12 0), (.int 0 0), (.ref 38), (.int 15 0), (.int 0 0), (.ref 84), (.int 24 0), (.int 0 0), (.ref 91), (.int 30 0), (.int 0 0), (.ref 98), (.int 69 0), (.int 0 0), (.ref 105)]), #[]⟩
noncomputable def o100v0 (P : Params) : Obj := ⟨(.type "tuple"), none, (.seq #[] 0), #[]⟩
noncomputable def o101v0 (P : Params) : Obj := ⟨(.none), none, (.fields #[]), #[]⟩
noncomputable def o102v0 (P : Params) : Obj := ⟨(.type "tuple"), none, (.seq #[(.str ⟨#[108, 101, 116, 116, 101, 114, 115]⟩ 2268), (.str ⟨#[100, 114, 97, 119]⟩ 2269), (.str ⟨#[112, 97, 105, 114, 115]⟩ 2270), (.str ⟨#[97, 108, 112, 104, 97, 98, 101, 116, 115]⟩ 2271), (.str ⟨#[114, 105, 100, 101, 114, 115]⟩ 2272), (.str ⟨#[116, 121, 112, 101, 100]⟩ 2273), (.str ⟨#[112, 108, 97, 99, 101]⟩ 2274), (.str ⟨#[110]⟩ 2275), (.str ⟨#[112, 97, 105, 114]⟩ 2276)] 0), #[]⟩
noncomputable def o103v0 (P : Params) : Obj := ⟨(.type "tuple"), none, (.seq #[] 0), #[]⟩
noncomputable def o104v0 (P : Params) : Obj := ⟨(.none), none, .func (fd st14 0 (.none) (.none) 0), #[]⟩
noncomputable def o105v0 (P : Params) : Obj := ⟨(.type "code"), none, (.fields #[(.str ⟨#[95, 108, 97, 119, 95, 116, 121, 112, 101, 100]⟩ 2265), (.str ⟨#[95, 108, 97, 119, 95, 116, 121, 112, 101, 100]⟩ 2266), (.str ⟨#[47, 99, 108, 97, 105, 109, 47, 99, 117, 116, 46, 112, 121]⟩ 2267), (.int 69 0), (.int 2 0), (.int 0 0), (.int 0 0), (.int 3 0), (.ref 100), (.bool true), (.int 181 0), (.ref 101), (.none), (.ref 102), (.ref 103), (.ref 104), (.int 2277 0), (.int 69 0), (.str ⟨#[47, 99, 108, 97, 105, 109, 47, 99, 117, 116, 46, 112, 121]⟩ 2278)]), #[]⟩
noncomputable def o106v0 (P : Params) : Obj := ⟨(.type "function"), none, .func (fd st14 3 (.str ⟨#[108, 97, 119, 95, 116, 97, 48, 48, 53, 49, 95, 48, 50]⟩ 2263) (.ref 105) 0), #[]⟩
noncomputable def T15 (P : Params) : BT := (.node (boot_o_0 P) (.node (boot_o_1 P) (.node (o3v15 P) (.node (boot_o_7 P) (.node (o15v0 P) (.node (o31v0 P) (.node (o63v0 P) .nil .nil) (.node (o95v0 P) .nil .nil)) (.node (o47v0 P) (.node (o79v0 P) .nil .nil) .nil)) (.node (o23v0 P) (.node (o39v0 P) (.node (o71v0 P) .nil .nil) (.node (o103v0 P) .nil .nil)) (.node (o55v0 P) (.node (o87v0 P) .nil .nil) .nil))) (.node (o11v0 P) (.node (o19v0 P) (.node (o35v0 P) (.node (o67v0 P) .nil .nil) (.node (o99v0 P) .nil .nil)) (.node (o51v0 P) (.node (o83v0 P) .nil .nil) .nil)) (.node (o27v0 P) (.node (o43v0 P) (.node (o75v0 P) .nil .nil) .nil) (.node (o59v0 P) (.node (o91v0 P) .nil .nil) .nil)))) (.node (boot_o_5 P) (.node (boot_o_9 P) (.node (o17v0 P) (.node (o33v0 P) (.node (o65v0 P) .nil .nil) (.node (o97v0 P) .nil .nil)) (.node (o49v0 P) (.node (o81v0 P) .nil .nil) .nil)) (.node (o25v0 P) (.node (o41v0 P) (.node (o73v0 P) .nil .nil) (.node (o105v0 P) .nil .nil)) (.node (o57v0 P) (.node (o89v0 P) .nil .nil) .nil))) (.node (o13v0 P) (.node (o21v0 P) (.node (o37v0 P) (.node (o69v0 P) .nil .nil) (.node (o101v0 P) .nil .nil)) (.node (o53v0 P) (.node (o85v0 P) .nil .nil) .nil)) (.node (o29v0 P) (.node (o45v0 P) (.node (o77v0 P) .nil .nil) .nil) (.node (o61v0 P) (.node (o93v0 P) .nil .nil) .nil))))) (.node (boot_o_2 P) (.node (boot_o_4 P) (.node (boot_o_8 P) (.node (o16v0 P) (.node (o32v0 P) (.node (o64v0 P) .nil .nil) (.node (o96v0 P) .nil .nil)) (.node (o48v0 P) (.node (o80v0 P) .nil .nil) .nil)) (.node (o24v0 P) (.node (o40v0 P) (.node (o72v0 P) .nil .nil) (.node (o104v0 P) .nil .nil)) (.node (o56v0 P) (.node (o88v0 P) .nil .nil) .nil))) (.node (o12v6 P) (.node (o20v0 P) (.node (o36v0 P) (.node (o68v0 P) .nil .nil) (.node (o100v0 P) .nil .nil)) (.node (o52v0 P) (.node (o84v0 P) .nil .nil) .nil)) (.node (o28v0 P) (.node (o44v0 P) (.node (o76v0 P) .nil .nil) .nil) (.node (o60v0 P) (.node (o92v0 P) .nil .nil) .nil)))) (.node (boot_o_6 P) (.node (boot_o_10 P) (.node (o18v0 P) (.node (o34v0 P) (.node (o66v0 P) .nil .nil) (.node (o98v0 P) .nil .nil)) (.node (o50v0 P) (.node (o82v0 P) .nil .nil) .nil)) (.node (o26v0 P) (.node (o42v0 P) (.node (o74v0 P) .nil .nil) (.node (o106v0 P) .nil .nil)) (.node (o58v0 P) (.node (o90v0 P) .nil .nil) .nil))) (.node (o14v0 P) (.node (o22v0 P) (.node (o38v0 P) (.node (o70v0 P) .nil .nil) (.node (o102v0 P) .nil .nil)) (.node (o54v0 P) (.node (o86v0 P) .nil .nil) .nil)) (.node (o30v0 P) (.node (o46v0 P) (.node (o78v0 P) .nil .nil) .nil) (.node (o62v0 P) (.node (o94v0 P) .nil .nil) .nil))))))
theorem pt14 (w : World) (os : OsState) : segRunT treeTable pp w 11 (some (.ref 6)) 1 38 ⟨T14 w.params, 100, {}, #[], {}, 2265, os⟩ (piecesOf [st14] env (.body bd env) ⟨68, 0, 68, 8⟩ [topFrame ⟨0, 0, 0, 0⟩]) = some (.next, ⟨T15 w.params, 107, {}, #[], {}, 2280, os⟩, .body bd env, ⟨69, 0, 85, 16⟩) := by
  show segRunT treeTable pp _ 11 (some (.ref 6)) 1 38 _ ⟨(execs [st14] env).wrap doneF deadEnd id id, .body bd env, ⟨68, 0, 68, 8⟩, [topFrame ⟨0, 0, 0, 0⟩]⟩ = _
  rw [PySem.W.Fast.te10110043849684766642, PySem.W.Fast.te14364793385576792824, PySem.W.Fast.te12563942051412417395]
  kernel_rfl!
theorem pc14 (w : World) (os : OsState) : segRun treeTable pp w 11 (some (.ref 6)) 1 38 (SharedT.abs ⟨T14 w.params, 100, {}, #[], {}, 2265, os⟩) (piecesOf [st14] env (.body bd env) ⟨68, 0, 68, 8⟩ [topFrame ⟨0, 0, 0, 0⟩]) = some (.next, SharedT.abs ⟨T15 w.params, 107, {}, #[], {}, 2280, os⟩, .body bd env, ⟨69, 0, 85, 16⟩) := segRun_of (pt14 w os)
noncomputable def o3v16 (P : Params) : Obj := ⟨(.type "dict"), none, (.dict #[⟨PyData.keyHash P ⟨#[95, 95, 110, 97, 109, 101, 95, 95]⟩, (.str ⟨#[95, 95, 110, 97, 109, 101, 95, 95]⟩ 165), (.str ⟨#[108, 97, 119, 95, 116, 97, 48, 48, 53, 49, 95, 48, 50]⟩ 2263)⟩, ⟨PyData.keyHash P ⟨#[95, 95, 100, 111, 99, 95, 95]⟩, (.str ⟨#[95, 95, 100, 111, 99, 95, 95]⟩ 166), (.none)⟩, ⟨PyData.keyHash P ⟨#[95, 95, 112, 97, 99, 107, 97, 103, 101, 95, 95]⟩, (.str ⟨#[95, 95, 112, 97, 99, 107, 97, 103, 101, 95, 95]⟩ 167), (.none)⟩, ⟨PyData.keyHash P ⟨#[95, 95, 108, 111, 97, 100, 101, 114, 95, 95]⟩, (.str ⟨#[95, 95, 108, 111, 97, 100, 101, 114, 95, 95]⟩ 168), (.builtin "__main__.__loader__#opaque")⟩, ⟨PyData.keyHash P ⟨#[95, 95, 115, 112, 101, 99, 95, 95]⟩, (.str ⟨#[95, 95, 115, 112, 101, 99, 95, 95]⟩ 169), (.none)⟩, ⟨PyData.keyHash P ⟨#[95, 95, 97, 110, 110, 111, 116, 97, 116, 105, 111, 110, 115, 95, 95]⟩, (.str ⟨#[95, 95, 97, 110, 110, 111, 116, 97, 116, 105, 111, 110, 115, 95, 95]⟩ 170), (.ref 6)⟩, ⟨PyData.keyHash P ⟨#[95, 95, 98, 117, 105, 108, 116, 105, 110, 115, 95, 95]⟩, (.str ⟨#[95, 95, 98, 117, 105, 108, 116, 105, 110, 115, 95, 95]⟩ 171), (.ref 4)⟩, ⟨PyData.keyHash P ⟨#[95, 95, 102, 105, 108, 101, 95, 95]⟩, (.str ⟨#[95, 95, 102, 105, 108, 101, 95, 95]⟩ 173), (.str ⟨#[47, 99, 108, 97, 105, 109, 47, 99, 117, 116, 46, 112, 121]⟩ 172)⟩, ⟨PyData.keyHash P ⟨#[95, 95, 99, 97, 99, 104, 101, 100, 95, 95]⟩, (.str ⟨#[95, 95, 99, 97, 99, 104, 101, 100, 95, 95]⟩ 174), (.none)⟩, ⟨PyData.keyHash P ⟨#[73, 110, 116, 50, 65, 80]⟩, (.str ⟨#[73, 110, 116, 50, 65, 80]⟩ 198), (.ref 21)⟩, ⟨PyData.keyHash P ⟨#[98, 49, 95, 115, 101, 116]⟩, (.str ⟨#[98, 49, 95, 115, 101, 116]⟩ 260), (.ref 29)⟩, ⟨PyData.keyHash P ⟨#[105, 110, 95, 116, 97, 98, 108, 101, 95, 98, 49]⟩, (.str ⟨#[105, 110, 95, 116, 97, 98, 108, 101, 95, 98, 49]⟩ 267), (.ref 39)⟩, ⟨PyData.keyHash P ⟨#[98, 51, 95, 101, 120, 99, 101, 112, 116, 105, 111, 110, 115]⟩, (.str ⟨#[98, 51, 95, 101, 120, 99, 101, 112, 116, 105, 111, 110, 115]⟩ 2218), (.ref 40)⟩, ⟨PyData.keyHash P ⟨#[109, 97, 112, 95, 116, 97, 98, 108, 101, 95, 98, 51]⟩, (.str ⟨#[109, 97, 112, 95, 116, 97, 98, 108, 101, 95, 98, 51]⟩ 2226), (.ref 85)⟩, ⟨PyData.keyHash P ⟨#[95, 77, 65, 88, 95, 83, 84, 82, 73, 78, 71, 95, 83, 73, 90, 69]⟩, (.str ⟨#[95, 77, 65, 88, 95, 83, 84, 82, 73, 78, 71, 95, 83, 73, 90, 69]⟩ 2230), (.int 40 2229)⟩, ⟨PyData.keyHash P ⟨#[95, 77, 79, 86, 69, 95, 67, 79, 83, 84]⟩, (.str ⟨#[95, 77, 79, 86, 69, 95, 67, 79, 83, 84]⟩ 2232), (.int 2 2231)⟩, ⟨PyData.keyHash P ⟨#[95, 67, 65, 83, 69, 95, 67, 79, 83, 84]⟩, (.str ⟨#[95, 67, 65, 83, 69, 95, 67, 79, 83, 84]⟩ 2234), (.int 1 2233)⟩, ⟨PyData.keyHash P ⟨#[95, 115, 117, 98, 115, 116, 105, 116, 117, 116, 105, 111, 110, 95, 99, 111, 115, 116]⟩, (.str ⟨#[95, 115, 117, 98, 115, 116, 105, 116, 117, 116, 105, 111, 110, 95, 99, 111, 115, 116]⟩ 2242), (.ref 92)⟩, ⟨PyData.keyHash P ⟨#[95, 108, 101, 118, 101, 110, 115, 104, 116, 101, 105, 110, 95, 100, 105, 115, 116, 97, 110, 99, 101]⟩, (.str ⟨#[95, 108, 101, 118, 101, 110, 115, 104, 116, 101, 105, 110, 95, 100, 105, 115, 116, 97, 110, 99, 101]⟩ 2262), (.ref 99)⟩, ⟨PyData.keyHash P ⟨#[95, 108, 97, 119, 95, 116, 121, 112, 101, 100]⟩, (.str ⟨#[95, 108, 97, 119, 95, 116, 121, 112, 101, 100]⟩ 2279), (.ref 106)⟩, ⟨PyData.keyHash P ⟨#[95, 108, 97, 119, 95, 112, 114, 101, 112, 97, 114, 101, 100]⟩, (.str ⟨#[95, 108, 97, 119, 95, 112, 114, 101, 112, 97, 114, 101, 100]⟩ 2285), (.ref 111)⟩] 21), #[]⟩
noncomputable def o12v7 (P : Params) : Obj := ⟨(.none), none, (.fields #[(.int 2 0), (.int 0 0), (.ref 20), (.int 12 0), (.int 0 0), (.ref 38), (.int 15 0), (.int 0 0), (.ref 84), (.int 24 0), (.int 0 0), (.ref 91), (.int 30 0), (.int 0 0), (.ref 98), (.int 69 0), (.int 0 0), (.ref 105), (.int 86 0), (.int 0 0), (.ref 110)]), #[]⟩
noncomputable def o107v0 (P : Params) : Obj := ⟨(.type "tuple"), none, (.seq #[] 0), #[]⟩
noncomputable def o108v0 (P : Params) : Obj := ⟨(.none), none, (.fields #[]), #[]⟩
noncomputable def o109v0 (P : Params) : Obj := ⟨(.none), none, .func (fd st15 0 (.none) (.none) 0), #[]⟩
noncomputable def o110v0 (P : Params) : Obj := ⟨(.type "code"), none, (.fields #[(.str ⟨#[95, 108, 97, 119, 95, 112, 114, 101, 112, 97, 114, 101, 100]⟩ 2280), (.str ⟨#[95, 108, 97, 119, 95, 112, 114, 101, 112, 97, 114, 101, 100]⟩ 2281), (.str ⟨#[47, 99, 108, 97, 105, 109, 47, 99, 117, 116, 46, 112, 121]⟩ 2282), (.int 86 0), (.int 1 0), (.int 0 0), (.int 0 0), (.int 3 0), (.ref 107), (.bool true), (.int 181 0), (.ref 108), (.none), (.none), (.none), (.ref 109), (.int 2283 0), (.int 86 0), (.str ⟨#[47, 99, 108, 97, 105, 109, 47, 99, 117, 116, 46, 112, 121]⟩ 2284)]), #[]⟩
noncomputable def o111v0 (P : Params) : Obj := ⟨(.type "function"), none, .func (fd st15 3 (.str ⟨#[108, 97, 119, 95, 116, 97, 48, 48, 53, 49, 95, 48, 50]⟩ 2263) (.ref 110) 0), #[]⟩
noncomputable def T16 (P : Params) : BT := (.node (boot_o_0 P) (.node (boot_o_1 P) (.node (o3v16 P) (.node (boot_o_7 P) (.node (o15v0 P) (.node (o31v0 P) (.node (o63v0 P) .nil .nil) (.node (o95v0 P) .nil .nil)) (.node (o47v0 P) (.node (o79v0 P) .nil .nil) (.node (o111v0 P) .nil .nil))) (.node (o23v0 P) (.node (o39v0 P) (.node (o71v0 P) .nil .nil) (.node (o103v0 P) .nil .nil)) (.node (o55v0 P) (.node (o87v0 P) .nil .nil) .nil))) (.node (o11v0 P) (.node (o19v0 P) (.node (o35v0 P) (.node (o67v0 P) .nil .nil) (.node (o99v0 P) .nil .nil)) (.node (o51v0 P) (.node (o83v0 P) .nil .nil) .nil)) (.node (o27v0 P) (.node (o43v0 P) (.node (o75v0 P) .nil .nil) (.node (o107v0 P) .nil .nil)) (.node (o59v0 P) (.node (o91v0 P) .nil .nil) .nil)))) (.node (boot_o_5 P) (.node (boot_o_9 P) (.node (o17v0 P) (.node (o33v0 P) (.node (o65v0 P) .nil .nil) (.node (o97v0 P) .nil .nil)) (.node (o49v0 P) (.node (o81v0 P) .nil .nil) .nil)) (.node (o25v0 P) (.node (o41v0 P) (.node (o73v0 P) .nil .nil) (.node (o105v0 P) .nil .nil)) (.node (o57v0 P) (.node (o89v0 P) .nil .nil) .nil))) (.node (o13v0 P) (.node (o21v0 P) (.node (o37v0 P) (.node (o69v0 P) .nil .nil) (.node (o101v0 P) .nil .nil)) (.node (o53v0 P) (.node (o85v0 P) .nil .nil) .nil)) (.node (o29v0 P) (.node (o45v0 P) (.node (o77v0 P) .nil .nil) (.node (o109v0 P) .nil .nil)) (.node (o61v0 P) (.node (o93v0 P) .nil .nil) .nil))))) (.node (boot_o_2 P) (.node (boot_o_4 P) (.node (boot_o_8 P) (.node (o16v0 P) (.node (o32v0 P) (.node (o64v0 P) .nil .nil) (.node (o96v0 P) .nil .nil)) (.node (o48v0 P) (.node (o80v0 P) .nil .nil) .nil)) (.node (o24v0 P) (.node (o40v0 P) (.node (o72v0 P) .nil .nil) (.node (o104v0 P) .nil .nil)) (.node (o56v0 P) (.node (o88v0 P) .nil .nil) .nil))) (.node (o12v7 P) (.node (o20v0 P) (.node (o36v0 P) (.node (o68v0 P) .nil .nil) (.node (o100v0 P) .nil .nil)) (.node (o52v0 P) (.node (o84v0 P) .nil .nil) .nil)) (.node (o28v0 P) (.node (o44v0 P) (.node (o76v0 P) .nil .nil) (.node (o108v0 P) .nil .nil)) (.node (o60v0 P) (.node (o92v0 P) .nil .nil) .nil)))) (.node (boot_o_6 P) (.node (boot_o_10 P) (.node (o18v0 P) (.node (o34v0 P) (.node (o66v0 P) .nil .nil) (.node (o98v0 P) .nil .nil)) (.node (o50v0 P) (.node (o82v0 P) .nil .nil) .nil)) (.node (o26v0 P) (.node (o42v0 P) (.node (o74v0 P) .nil .nil) (.node (o106v0 P) .nil .nil)) (.node (o58v0 P) (.node (o90v0 P) .nil .nil) .nil))) (.node (o14v0 P) (.node (o22v0 P) (.node (o38v0 P) (.node (o70v0 P) .nil .nil) (.node (o102v0 P) .nil .nil)) (.node (o54v0 P) (.node (o86v0 P) .nil .nil) .nil)) (.node (o30v0 P) (.node (o46v0 P) (.node (o78v0 P) .nil .nil) (.node (o110v0 P) .nil .nil)) (.node (o62v0 P) (.node (o94v0 P) .nil .nil) .nil))))))
theorem pt15 (w : World) (os : OsState) : segRunT treeTable pp w 11 (some (.ref 6)) 1 27 ⟨T15 w.params, 107, {}, #[], {}, 2280, os⟩ (piecesOf [st15] env (.body bd env) ⟨69, 0, 85, 16⟩ [topFrame ⟨0, 0, 0, 0⟩]) = some (.next, ⟨T16 w.params, 112, {}, #[], {}, 2286, os⟩, .body bd env, ⟨86, 0, 87, 83⟩) := by
  show segRunT treeTable pp _ 11 (some (.ref 6)) 1 27 _ ⟨(execs [st15] env).wrap doneF deadEnd id id, .body bd env, ⟨69, 0, 85, 16⟩, [topFrame ⟨0, 0, 0, 0⟩]⟩ = _
  rw [PySem.W.Fast.te10110043849684766642, PySem.W.Fast.te14364793385576792824, PySem.W.Fast.te12563942051412417395]
  kernel_rfl!
theorem pc15 (w : World) (os : OsState) : segRun treeTable pp w 11 (some (.ref 6)) 1 27 (SharedT.abs ⟨T15 w.params, 107, {}, #[], {}, 2280, os⟩) (piecesOf [st15] env (.body bd env) ⟨69, 0, 85, 16⟩ [topFrame ⟨0, 0, 0, 0⟩]) = some (.next, SharedT.abs ⟨T16 w.params, 112, {}, #[], {}, 2286, os⟩, .body bd env, ⟨86, 0, 87, 83⟩) := segRun_of (pt15 w os)
noncomputable def o3v17 (P : Params) : Obj := ⟨(.type "dict"), none, (.dict #[⟨PyData.keyHash P ⟨#[95, 95, 110, 97, 109, 101, 95, 95]⟩, (.str ⟨#[95, 95, 110, 97, 109, 101, 95, 95]⟩ 165), (.str ⟨#[108, 97, 119, 95, 116, 97, 48, 48, 53, 49, 95, 48, 50]⟩ 2263)⟩, ⟨PyData.keyHash P ⟨#[95, 95, 100, 111, 99, 95, 95]⟩, (.str ⟨#[95, 95, 100, 111, 99, 95, 95]⟩ 166), (.none)⟩, ⟨PyData.keyHash P ⟨#[95, 95, 112, 97, 99, 107, 97, 103, 101, 95, 95]⟩, (.str ⟨#[95, 95, 112, 97, 99, 107, 97, 103, 101, 95, 95]⟩ 167), (.none)⟩, ⟨PyData.keyHash P ⟨#[95, 95, 108, 111, 97, 100, 101, 114, 95, 95]⟩, (.str ⟨#[95, 95, 108, 111, 97, 100, 101, 114, 95, 95]⟩ 168), (.builtin "__main__.__loader__#opaque")⟩, ⟨PyData.keyHash P ⟨#[95, 95, 115, 112, 101, 99, 95, 95]⟩, (.str ⟨#[95, 95, 115, 112, 101, 99, 95, 95]⟩ 169), (.none)⟩, ⟨PyData.keyHash P ⟨#[95, 95, 97, 110, 110, 111, 116, 97, 116, 105, 111, 110, 115, 95, 95]⟩, (.str ⟨#[95, 95, 97, 110, 110, 111, 116, 97, 116, 105, 111, 110, 115, 95, 95]⟩ 170), (.ref 6)⟩, ⟨PyData.keyHash P ⟨#[95, 95, 98, 117, 105, 108, 116, 105, 110, 115, 95, 95]⟩, (.str ⟨#[95, 95, 98, 117, 105, 108, 116, 105, 110, 115, 95, 95]⟩ 171), (.ref 4)⟩, ⟨PyData.keyHash P ⟨#[95, 95, 102, 105, 108, 101, 95, 95]⟩, (.str ⟨#[95, 95, 102, 105, 108, 101, 95, 95]⟩ 173), (.str ⟨#[47, 99, 108, 97, 105, 109, 47, 99, 117, 116, 46, 112, 121]⟩ 172)⟩, ⟨PyData.keyHash P ⟨#[95, 95, 99, 97, 99, 104, 101, 100, 95, 95]⟩, (.str ⟨#[95, 95, 99, 97, 99, 104, 101, 100, 95, 95]⟩ 174), (.none)⟩, ⟨PyData.keyHash P ⟨#[73, 110, 116, 50, 65, 80]⟩, (.str ⟨#[73, 110, 116, 50, 65, 80]⟩ 198), (.ref 21)⟩, ⟨PyData.keyHash P ⟨#[98, 49, 95, 115, 101, 116]⟩, (.str ⟨#[98, 49, 95, 115, 101, 116]⟩ 260), (.ref 29)⟩, ⟨PyData.keyHash P ⟨#[105, 110, 95, 116, 97, 98, 108, 101, 95, 98, 49]⟩, (.str ⟨#[105, 110, 95, 116, 97, 98, 108, 101, 95, 98, 49]⟩ 267), (.ref 39)⟩, ⟨PyData.keyHash P ⟨#[98, 51, 95, 101, 120, 99, 101, 112, 116, 105, 111, 110, 115]⟩, (.str ⟨#[98, 51, 95, 101, 120, 99, 101, 112, 116, 105, 111, 110, 115]⟩ 2218), (.ref 40)⟩, ⟨PyData.keyHash P ⟨#[109, 97, 112, 95, 116, 97, 98, 108, 101, 95, 98, 51]⟩, (.str ⟨#[109, 97, 112, 95, 116, 97, 98, 108, 101, 95, 98, 51]⟩ 2226), (.ref 85)⟩, ⟨PyData.keyHash P ⟨#[95, 77, 65, 88, 95, 83, 84, 82, 73, 78, 71, 95, 83, 73, 90, 69]⟩, (.str ⟨#[95, 77, 65, 88, 95, 83, 84, 82, 73, 78, 71, 95, 83, 73, 90, 69]⟩ 2230), (.int 40 2229)⟩, ⟨PyData.keyHash P ⟨#[95, 77, 79, 86, 69, 95, 67, 79, 83, 84]⟩, (.str ⟨#[95, 77, 79, 86, 69, 95, 67, 79, 83, 84]⟩ 2232), (.int 2 2231)⟩, ⟨PyData.keyHash P ⟨#[95, 67, 65, 83, 69, 95, 67, 79, 83, 84]⟩, (.str ⟨#[95, 67, 65, 83, 69, 95, 67, 79, 83, 84]⟩ 2234), (.int 1 2233)⟩, ⟨PyData.keyHash P ⟨#[95, 115, 117, 98, 115, 116, 105, 116, 117, 116, 105, 111, 110, 95, 99, 111, 115, 116]⟩, (.str ⟨#[95, 115, 117, 98, 115, 116, 105, 116, 117, 116, 105, 111, 110, 95, 99, 111, 115, 116]⟩ 2242), (.ref 92)⟩, ⟨PyData.keyHash P ⟨#[95, 108, 101, 118, 101, 110, 115, 104, 116, 101, 105, 110, 95, 100, 105, 115, 116, 97, 110, 99, 101]⟩, (.str ⟨#[95, 108, 101, 118, 101, 110, 115, 104, 116, 101, 105, 110, 95, 100, 105, 115, 116, 97, 110, 99, 101]⟩ 2262), (.ref 99)⟩, ⟨PyData.keyHash P ⟨#[95, 108, 97, 119, 95, 116, 121, 112, 101, 100]⟩, (.str ⟨#[95, 108, 97, 119, 95, 116, 121, 112, 101, 100]⟩ 2279), (.ref 106)⟩, ⟨PyData.keyHash P ⟨#[95, 108, 97, 119, 95, 112, 114, 101, 112, 97, 114, 101, 100]⟩, (.str ⟨#[95, 108, 97, 119, 95, 112, 114, 101, 112, 97, 114, 101, 100]⟩ 2285), (.ref 111)⟩, ⟨PyData.keyHash P ⟨#[95, 108, 97, 119, 95, 111, 114, 100, 101, 114, 115]⟩, (.str ⟨#[95, 108, 97, 119, 95, 111, 114, 100, 101, 114, 115]⟩ 2291), (.ref 116)⟩] 22), #[]⟩
noncomputable def o12v8 (P : Params) : Obj := ⟨(.none), none, (.fields #[(.int 2 0), (.int 0 0), (.ref 20), (.int 12 0), (.int 0 0), (.ref 38), (.int 15 0), (.int 0 0), (.ref 84), (.int 24 0), (.int 0 0), (.ref 91), (.int 30 0), (.int 0 0), (.ref 98), (.int 69 0), (.int 0 0), (.ref 105), (.int 86 0), (.int 0 0), (.ref 110), (.int 88 0), (.int 0 0), (.ref 115)]), #[]⟩
noncomputable def o112v0 (P : Params) : Obj := ⟨(.type "tuple"), none, (.seq #[] 0), #[]⟩
noncomputable def o113v0 (P : Params) : Obj := ⟨(.none), none, (.fields #[]), #[]⟩
noncomputable def o114v0 (P : Params) : Obj := ⟨(.none), none, .func (fd st16 0 (.none) (.none) 0), #[]⟩
noncomputable def o115v0 (P : Params) : Obj := ⟨(.type "code"), none, (.fields #[(.str ⟨#[95, 108, 97, 119, 95, 111, 114, 100, 101, 114, 115]⟩ 2286), (.str ⟨#[95, 108, 97, 119, 95, 111, 114, 100, 101, 114, 115]⟩ 2287), (.str ⟨#[47, 99, 108, 97, 105, 109, 47, 99, 117, 116, 46, 112, 121]⟩ 2288), (.int 88 0), (.int 3 0), (.int 0 0), (.int 0 0), (.int 3 0), (.ref 112), (.bool true), (.int 181 0), (.ref 113), (.none), (.none), (.none), (.ref 114), (.int 2289 0), (.int 88 0), (.str ⟨#[47, 99, 108, 97, 105, 109, 47, 99, 117, 116, 46, 112, 121]⟩ 2290)]), #[]⟩
noncomputable def o116v0 (P : Params) : Obj := ⟨(.type "function"), none, .func (fd st16 3 (.str ⟨#[108, 97, 119, 95, 116, 97, 48, 48, 53, 49, 95, 48, 50]⟩ 2263) (.ref 115) 0), #[]⟩
noncomputable def T17 (P : Params) : BT := (.node (boot_o_0 P) (.node (boot_o_1 P) (.node (o3v17 P) (.node (boot_o_7 P) (.node (o15v0 P) (.node (o31v0 P) (.node (o63v0 P) .nil .nil) (.node (o95v0 P) .nil .nil)) (.node (o47v0 P) (.node (o79v0 P) .nil .nil) (.node (o111v0 P) .nil .nil))) (.node (o23v0 P) (.node (o39v0 P) (.node (o71v0 P) .nil .nil) (.node (o103v0 P) .nil .nil)) (.node (o55v0 P) (.node (o87v0 P) .nil .nil) .nil))) (.node (o11v0 P) (.node (o19v0 P) (.node (o35v0 P) (.node (o67v0 P) .nil .nil) (.node (o99v0 P) .nil .nil)) (.node (o51v0 P) (.node (o83v0 P) .nil .nil) (.node (o115v0 P) .nil .nil))) (.node (o27v0 P) (.node (o43v0 P) (.node (o75v0 P) .nil .nil) (.node (o107v0 P) .nil .nil)) (.node (o59v0 P) (.node (o91v0 P) .nil .nil) .nil)))) (.node (boot_o_5 P) (.node (boot_o_9 P) (.node (o17v0 P) (.node (o33v0 P) (.node (o65v0 P) .nil .nil) (.node (o97v0 P) .nil .nil)) (.node (o49v0 P) (.node (o81v0 P) .nil .nil) (.node (o113v0 P) .nil .nil))) (.node (o25v0 P) (.node (o41v0 P) (.node (o73v0 P) .nil .nil) (.node (o105v0 P) .nil .nil)) (.node (o57v0 P) (.node (o89v0 P) .nil .nil) .nil))) (.node (o13v0 P) (.node (o21v0 P) (.node (o37v0 P) (.node (o69v0 P) .nil .nil) (.node (o101v0 P) .nil .nil)) (.node (o53v0 P) (.node (o85v0 P) .nil .nil) .nil)) (.node (o29v0 P) (.node (o45v0 P) (.node (o77v0 P) .nil .nil) (.node (o109v0 P) .nil .nil)) (.node (o61v0 P) (.node (o93v0 P) .nil .nil) .nil))))) (.node (boot_o_2 P) (.node (boot_o_4 P) (.node (boot_o_8 P) (.node (o16v0 P) (.node (o32v0 P) (.node (o64v0 P) .nil .nil) (.node (o96v0 P) .nil .nil)) (.node (o48v0 P) (.node (o80v0 P) .nil .nil) (.node (o112v0 P) .nil .nil))) (.node (o24v0 P) (.node (o40v0 P) (.node (o72v0 P) .nil .nil) (.node (o104v0 P) .nil .nil)) (.node (o56v0 P) (.node (o88v0 P) .nil .nil) .nil))) (.node (o12v8 P) (.node (o20v0 P) (.node (o36v0 P) (.node (o68v0 P) .nil .nil) (.node (o100v0 P) .nil .nil)) (.node (o52v0 P) (.node (o84v0 P) .nil .nil) (.node (o116v0 P) .nil .nil))) (.node (o28v0 P) (.node (o44v0 P) (.node (o76v0 P) .nil .nil) (.node (o108v0 P) .nil .nil)) (.node (o60v0 P) (.node (o92v0 P) .nil .nil) .nil)))) (.node (boot_o_6 P) (.node (boot_o_10 P) (.node (o18v0 P) (.node (o34v0 P) (.node (o66v0 P) .nil .nil) (.node (o98v0 P) .nil .nil)) (.node (o50v0 P) (.node (o82v0 P) .nil .nil) (.node (o114v0 P) .nil .nil))) (.node (o26v0 P) (.node (o42v0 P) (.node (o74v0 P) .nil .nil) (.node (o106v0 P) .nil .nil)) (.node (o58v0 P) (.node (o90v0 P) .nil .nil) .nil))) (.node (o14v0 P) (.node (o22v0 P) (.node (o38v0 P) (.node (o70v0 P) .nil .nil) (.node (o102v0 P) .nil .nil)) (.node (o54v0 P) (.node (o86v0 P) .nil .nil) .nil)) (.node (o30v0 P) (.node (o46v0 P) (.node (o78v0 P) .nil .nil) (.node (o110v0 P) .nil .nil)) (.node (o62v0 P) (.node (o94v0 P) .nil .nil) .nil))))))
theorem pt16 (w : World) (os : OsState) : segRunT treeTable pp w 11 (some (.ref 6)) 1 27 ⟨T16 w.params, 112, {}, #[], {}, 2286, os⟩ (piecesOf [st16] env (.body bd env) ⟨86, 0, 87, 83⟩ [topFrame ⟨0, 0, 0, 0⟩]) = some (.next, ⟨T17 w.params, 117, {}, #[], {}, 2292, os⟩, .body bd env, ⟨88, 0, 100, 16⟩) := by
  show segRunT treeTable pp _ 11 (some (.ref 6)) 1 27 _ ⟨(execs [st16] env).wrap doneF deadEnd id id, .body bd env, ⟨86, 0, 87, 83⟩, [topFrame ⟨0, 0, 0, 0⟩]⟩ = _
  rw [PySem.W.Fast.te10110043849684766642, PySem.W.Fast.te14364793385576792824, PySem.W.Fast.te12563942051412417395]
  kernel_rfl!
theorem pc16 (w : World) (os : OsState) : segRun treeTable pp w 11 (some (.ref 6)) 1 27 (SharedT.abs ⟨T16 w.params, 112, {}, #[], {}, 2286, os⟩) (piecesOf [st16] env (.body bd env) ⟨86, 0, 87, 83⟩ [topFrame ⟨0, 0, 0, 0⟩]) = some (.next, SharedT.abs ⟨T17 w.params, 117, {}, #[], {}, 2292, os⟩, .body bd env, ⟨88, 0, 100, 16⟩) := segRun_of (pt16 w os)
noncomputable def o3v18 (P : Params) : Obj := ⟨(.type "dict"), none, (.dict #[⟨PyData.keyHash P ⟨#[95, 95, 110, 97, 109, 101, 95, 95]⟩, (.str ⟨#[95, 95, 110, 97, 109, 101, 95, 95]⟩ 165), (.str ⟨#[108, 97, 119, 95, 116, 97, 48, 48, 53, 49, 95, 48, 50]⟩ 2263)⟩, ⟨PyData.keyHash P ⟨#[95, 95, 100, 111, 99, 95, 95]⟩, (.str ⟨#[95, 95, 100, 111, 99, 95, 95]⟩ 166), (.none)⟩, ⟨PyData.keyHash P ⟨#[95, 95, 112, 97, 99, 107, 97, 103, 101, 95, 95]⟩, (.str ⟨#[95, 95, 112, 97, 99, 107, 97, 103, 101, 95, 95]⟩ 167), (.none)⟩, ⟨PyData.keyHash P ⟨#[95, 95, 108, 111, 97, 100, 101, 114, 95, 95]⟩, (.str ⟨#[95, 95, 108, 111, 97, 100, 101, 114, 95, 95]⟩ 168), (.builtin "__main__.__loader__#opaque")⟩, ⟨PyData.keyHash P ⟨#[95, 95, 115, 112, 101, 99, 95, 95]⟩, (.str ⟨#[95, 95, 115, 112, 101, 99, 95, 95]⟩ 169), (.none)⟩, ⟨PyData.keyHash P ⟨#[95, 95, 97, 110, 110, 111, 116, 97, 116, 105, 111, 110, 115, 95, 95]⟩, (.str ⟨#[95, 95, 97, 110, 110, 111, 116, 97, 116, 105, 111, 110, 115, 95, 95]⟩ 170), (.ref 6)⟩, ⟨PyData.keyHash P ⟨#[95, 95, 98, 117, 105, 108, 116, 105, 110, 115, 95, 95]⟩, (.str ⟨#[95, 95, 98, 117, 105, 108, 116, 105, 110, 115, 95, 95]⟩ 171), (.ref 4)⟩, ⟨PyData.keyHash P ⟨#[95, 95, 102, 105, 108, 101, 95, 95]⟩, (.str ⟨#[95, 95, 102, 105, 108, 101, 95, 95]⟩ 173), (.str ⟨#[47, 99, 108, 97, 105, 109, 47, 99, 117, 116, 46, 112, 121]⟩ 172)⟩, ⟨PyData.keyHash P ⟨#[95, 95, 99, 97, 99, 104, 101, 100, 95, 95]⟩, (.str ⟨#[95, 95, 99, 97, 99, 104, 101, 100, 95, 95]⟩ 174), (.none)⟩, ⟨PyData.keyHash P ⟨#[73, 110, 116, 50, 65, 80]⟩, (.str ⟨#[73, 110, 116, 50, 65, 80]⟩ 198), (.ref 21)⟩, ⟨PyData.keyHash P ⟨#[98, 49, 95, 115, 101, 116]⟩, (.str ⟨#[98, 49, 95, 115, 101, 116]⟩ 260), (.ref 29)⟩, ⟨PyData.keyHash P ⟨#[105, 110, 95, 116, 97, 98, 108, 101, 95, 98, 49]⟩, (.str ⟨#[105, 110, 95, 116, 97, 98, 108, 101, 95, 98, 49]⟩ 267), (.ref 39)⟩, ⟨PyData.keyHash P ⟨#[98, 51, 95, 101, 120, 99, 101, 112, 116, 105, 111, 110, 115]⟩, (.str ⟨#[98, 51, 95, 101, 120, 99, 101, 112, 116, 105, 111, 110, 115]⟩ 2218), (.ref 40)⟩, ⟨PyData.keyHash P ⟨#[109, 97, 112, 95, 116, 97, 98, 108, 101, 95, 98, 51]⟩, (.str ⟨#[109, 97, 112, 95, 116, 97, 98, 108, 101, 95, 98, 51]⟩ 2226), (.ref 85)⟩, ⟨PyData.keyHash P ⟨#[95, 77, 65, 88, 95, 83, 84, 82, 73, 78, 71, 95, 83, 73, 90, 69]⟩, (.str ⟨#[95, 77, 65, 88, 95, 83, 84, 82, 73, 78, 71, 95, 83, 73, 90, 69]⟩ 2230), (.int 40 2229)⟩, ⟨PyData.keyHash P ⟨#[95, 77, 79, 86, 69, 95, 67, 79, 83, 84]⟩, (.str ⟨#[95, 77, 79, 86, 69, 95, 67, 79, 83, 84]⟩ 2232), (.int 2 2231)⟩, ⟨PyData.keyHash P ⟨#[95, 67, 65, 83, 69, 95, 67, 79, 83, 84]⟩, (.str ⟨#[95, 67, 65, 83, 69, 95, 67, 79, 83, 84]⟩ 2234), (.int 1 2233)⟩, ⟨PyData.keyHash P ⟨#[95, 115, 117, 98, 115, 116, 105, 116, 117, 116, 105, 111, 110, 95, 99, 111, 115, 116]⟩, (.str ⟨#[95, 115, 117, 98, 115, 116, 105, 116, 117, 116, 105, 111, 110, 95, 99, 111, 115, 116]⟩ 2242), (.ref 92)⟩, ⟨PyData.keyHash P ⟨#[95, 108, 101, 118, 101, 110, 115, 104, 116, 101, 105, 110, 95, 100, 105, 115, 116, 97, 110, 99, 101]⟩, (.str ⟨#[95, 108, 101, 118, 101, 110, 115, 104, 116, 101, 105, 110, 95, 100, 105, 115, 116, 97, 110, 99, 101]⟩ 2262), (.ref 99)⟩, ⟨PyData.keyHash P ⟨#[95, 108, 97, 119, 95, 116, 121, 112, 101, 100]⟩, (.str ⟨#[95, 108, 97, 119, 95, 116, 121, 112, 101, 100]⟩ 2279), (.ref 106)⟩, ⟨PyData.keyHash P ⟨#[95, 108, 97, 119, 95, 112, 114, 101, 112, 97, 114, 101, 100]⟩, (.str ⟨#[95, 108, 97, 119, 95, 112, 114, 101, 112, 97, 114, 101, 100]⟩ 2285), (.ref 111)⟩, ⟨PyData.keyHash P ⟨#[95, 108, 97, 119, 95, 111, 114, 100, 101, 114, 115]⟩, (.str ⟨#[95, 108, 97, 119, 95, 111, 114, 100, 101, 114, 115]⟩ 2291), (.ref 116)⟩, ⟨PyData.keyHash P ⟨#[95, 108, 97, 119, 95, 99, 104, 111, 105, 99, 101, 115]⟩, (.str ⟨#[95, 108, 97, 119, 95, 99, 104, 111, 105, 99, 101, 115]⟩ 2298), (.ref 123)⟩] 23), #[]⟩
noncomputable def o12v9 (P : Params) : Obj := ⟨(.none), none, (.fields #[(.int 2 0), (.int 0 0), (.ref 20), (.int 12 0), (.int 0 0), (.ref 38), (.int 15 0), (.int 0 0), (.ref 84), (.int 24 0), (.int 0 0), (.ref 91), (.int 30 0), (.int 0 0), (.ref 98), (.int 69 0), (.int 0 0), (.ref 105), (.int 86 0), (.int 0 0), (.ref 110), (.int 88 0), (.int 0 0), (.ref 115), (.int 101 0), (.int 0 0), (.ref 122)]), #[]⟩
noncomputable def o117v0 (P : Params) : Obj := ⟨(.type "tuple"), none, (.seq #[] 0), #[]⟩
noncomputable def o118v0 (P : Params) : Obj := ⟨(.none), none, (.fields #[]), #[]⟩
noncomputable def o119v0 (P : Params) : Obj := ⟨(.type "tuple"), none, (.seq #[(.str ⟨#[115, 105, 122, 101]⟩ 2295)] 0), #[]⟩
noncomputable def o120v0 (P : Params) : Obj := ⟨(.type "tuple"), none, (.seq #[] 0), #[]⟩
noncomputable def o121v0 (P : Params) : Obj := ⟨(.none), none, .func (fd st17 0 (.none) (.none) 0), #[]⟩
noncomputable def o122v0 (P : Params) : Obj := ⟨(.type "code"), none, (.fields #[(.str ⟨#[95, 108, 97, 119, 95, 99, 104, 111, 105, 99, 101, 115]⟩ 2292), (.str ⟨#[95, 108, 97, 119, 95, 99, 104, 111, 105, 99, 101, 115]⟩ 2293), (.str ⟨#[47, 99, 108, 97, 105, 109, 47, 99, 117, 116, 46, 112, 121]⟩ 2294), (.int 101 0), (.int 1 0), (.int 0 0), (.int 0 0), (.int 3 0), (.ref 117), (.bool true), (.int 181 0), (.ref 118), (.none), (.ref 119), (.ref 120), (.ref 121), (.int 2296 0), (.int 101 0), (.str ⟨#[47, 99, 108, 97, 105, 109, 47, 99, 117, 116, 46, 112, 121]⟩ 2297)]), #[]⟩
noncomputable def o123v0 (P : Params) : Obj := ⟨(.type "function"), none, .func (fd st17 3 (.str ⟨#[108, 97, 119, 95, 116, 97, 48, 48, 53, 49, 95, 48, 50]⟩ 2263) (.ref 122) 0), #[]⟩
noncomputable def T18 (P : Params) : BT := (.node (boot_o_0 P) (.node (boot_o_1 P) (.node (o3v18 P) (.node (boot_o_7 P) (.node (o15v0 P) (.node (o31v0 P) (.node (o63v0 P) .nil .nil) (.node (o95v0 P) .nil .nil)) (.node (o47v0 P) (.node (o79v0 P) .nil .nil) (.node (o111v0 P) .nil .nil))) (.node (o23v0 P) (.node (o39v0 P) (.node (o71v0 P) .nil .nil) (.node (o103v0 P) .nil .nil)) (.node (o55v0 P) (.node (o87v0 P) .nil .nil) (.node (o119v0 P) .nil .nil)))) (.node (o11v0 P) (.node (o19v0 P) (.node (o35v0 P) (.node (o67v0 P) .nil .nil) (.node (o99v0 P) .nil .nil)) (.node (o51v0 P) (.node (o83v0 P) .nil .nil) (.node (o115v0 P) .nil .nil))) (.node (o27v0 P) (.node (o43v0 P) (.node (o75v0 P) .nil .nil) (.node (o107v0 P) .nil .nil)) (.node (o59v0 P) (.node (o91v0 P) .nil .nil) (.node (o123v0 P) .nil .nil))))) (.node (boot_o_5 P) (.node (boot_o_9 P) (.node (o17v0 P) (.node (o33v0 P) (.node (o65v0 P) .nil .nil) (.node (o97v0 P) .nil .nil)) (.node (o49v0 P) (.node (o81v0 P) .nil .nil) (.node (o113v0 P) .nil .nil))) (.node (o25v0 P) (.node (o41v0 P) (.node (o73v0 P) .nil .nil) (.node (o105v0 P) .nil .nil)) (.node (o57v0 P) (.node (o89v0 P) .nil .nil) (.node (o121v0 P) .nil .nil)))) (.node (o13v0 P) (.node (o21v0 P) (.node (o37v0 P) (.node (o69v0 P) .nil .nil) (.node (o101v0 P) .nil .nil)) (.node (o53v0 P) (.node (o85v0 P) .nil .nil) (.node (o117v0 P) .nil .nil))) (.node (o29v0 P) (.node (o45v0 P) (.node (o77v0 P) .nil .nil) (.node (o109v0 P) .nil .nil)) (.node (o61v0 P) (.node (o93v0 P) .nil .nil) .nil))))) (.node (boot_o_2 P) (.node (boot_o_4 P) (.node (boot_o_8 P) (.node (o16v0 P) (.node (o32v0 P) (.node (o64v0 P) .nil .nil) (.node (o96v0 P) .nil .nil)) (.node (o48v0 P) (.node (o80v0 P) .nil .nil) (.node (o112v0 P) .nil .nil))) (.node (o24v0 P) (.node (o40v0 P) (.node (o72v0 P) .nil .nil) (.node (o104v0 P) .nil .nil)) (.node (o56v0 P) (.node (o88v0 P) .nil .nil) (.node (o120v0 P) .nil .nil)))) (.node (o12v9 P) (.node (o20v0 P) (.node (o36v0 P) (.node (o68v0 P) .nil .nil) (.node (o100v0 P) .nil .nil)) (.node (o52v0 P) (.node (o84v0 P) .nil .nil) (.node (o116v0 P) .nil .nil))) (.node (o28v0 P) (.node (o44v0 P) (.node (o76v0 P) .nil .nil) (.node (o108v0 P) .nil .nil)) (.node (o60v0 P) (.node (o92v0 P) .nil .nil) .nil)))) (.node (boot_o_6 P) (.node (boot_o_10 P) (.node (o18v0 P) (.node (o34v0 P) (.node (o66v0 P) .nil .nil) (.node (o98v0 P) .nil .nil)) (.node (o50v0 P) (.node (o82v0 P) .nil .nil) (.node (o114v0 P) .nil .nil))) (.node (o26v0 P) (.node (o42v0 P) (.node (o74v0 P) .nil .nil) (.node (o106v0 P) .nil .nil)) (.node (o58v0 P) (.node (o90v0 P) .nil .nil) (.node (o122v0 P) .nil .nil)))) (.node (o14v0 P) (.node (o22v0 P) (.node (o38v0 P) (.node (o70v0 P) .nil .nil) (.node (o102v0 P) .nil .nil)) (.node (o54v0 P) (.node (o86v0 P) .nil .nil) (.node (o118v0 P) .nil .nil))) (.node (o30v0 P) (.node (o46v0 P) (.node (o78v0 P) .nil .nil) (.node (o110v0 P) .nil .nil)) (.node (o62v0 P) (.node (o94v0 P) .nil .nil) .nil))))))
theorem pt17 (w : World) (os : OsState) : segRunT treeTable pp w 11 (some (.ref 6)) 1 30 ⟨T17 w.params, 117, {}, #[], {}, 2292, os⟩ (piecesOf [st17] env (.body bd env) ⟨88, 0, 100, 16⟩ [topFrame ⟨0, 0, 0, 0⟩]) = some (.next, ⟨T18 w.params, 124, {}, #[], {}, 2299, os⟩, .body bd env, ⟨101, 0, 102, 60⟩) := by
  show segRunT treeTable pp _ 11 (some (.ref 6)) 1 30 _ ⟨(execs [st17] env).wrap doneF deadEnd id id, .body bd env, ⟨88, 0, 100, 16⟩, [topFrame ⟨0, 0, 0, 0⟩]⟩ = _
  rw [PySem.W.Fast.te10110043849684766642, PySem.W.Fast.te14364793385576792824, PySem.W.Fast.te12563942051412417395]
  kernel_rfl!
theorem pc17 (w : World) (os : OsState) : segRun treeTable pp w 11 (some (.ref 6)) 1 30 (SharedT.abs ⟨T17 w.params, 117, {}, #[], {}, 2292, os⟩) (piecesOf [st17] env (.body bd env) ⟨88, 0, 100, 16⟩ [topFrame ⟨0, 0, 0, 0⟩]) = some (.next, SharedT.abs ⟨T18 w.params, 124, {}, #[], {}, 2299, os⟩, .body bd env, ⟨101, 0, 102, 60⟩) := segRun_of (pt17 w os)
noncomputable def o3v19 (P : Params) : Obj := ⟨(.type "dict"), none, (.dict #[⟨PyData.keyHash P ⟨#[95, 95, 110, 97, 109, 101, 95, 95]⟩, (.str ⟨#[95, 95, 110, 97, 109, 101, 95, 95]⟩ 165), (.str ⟨#[108, 97, 119, 95, 116, 97, 48, 48, 53, 49, 95, 48, 50]⟩ 2263)⟩, ⟨PyData.keyHash P ⟨#[95, 95, 100, 111, 99, 95, 95]⟩, (.str ⟨#[95, 95, 100, 111, 99, 95, 95]⟩ 166), (.none)⟩, ⟨PyData.keyHash P ⟨#[95, 95, 112, 97, 99, 107, 97, 103, 101, 95, 95]⟩, (.str ⟨#[95, 95, 112, 97, 99, 107, 97, 103, 101, 95, 95]⟩ 167), (.none)⟩, ⟨PyData.keyHash P ⟨#[95, 95, 108, 111, 97, 100, 101, 114, 95, 95]⟩, (.str ⟨#[95, 95, 108, 111, 97, 100, 101, 114, 95, 95]⟩ 168), (.builtin "__main__.__loader__#opaque")⟩, ⟨PyData.keyHash P ⟨#[95, 95, 115, 112, 101, 99, 95, 95]⟩, (.str ⟨#[95, 95, 115, 112, 101, 99, 95, 95]⟩ 169), (.none)⟩, ⟨PyData.keyHash P ⟨#[95, 95, 97, 110, 110, 111, 116, 97, 116, 105, 111, 110, 115, 95, 95]⟩, (.str ⟨#[95, 95, 97, 110, 110, 111, 116, 97, 116, 105, 111, 110, 115, 95, 95]⟩ 170), (.ref 6)⟩, ⟨PyData.keyHash P ⟨#[95, 95, 98, 117, 105, 108, 116, 105, 110, 115, 95, 95]⟩, (.str ⟨#[95, 95, 98, 117, 105, 108, 116, 105, 110, 115, 95, 95]⟩ 171), (.ref 4)⟩, ⟨PyData.keyHash P ⟨#[95, 95, 102, 105, 108, 101, 95, 95]⟩, (.str ⟨#[95, 95, 102, 105, 108, 101, 95, 95]⟩ 173), (.str ⟨#[47, 99, 108, 97, 105, 109, 47, 99, 117, 116, 46, 112, 121]⟩ 172)⟩, ⟨PyData.keyHash P ⟨#[95, 95, 99, 97, 99, 104, 101, 100, 95, 95]⟩, (.str ⟨#[95, 95, 99, 97, 99, 104, 101, 100, 95, 95]⟩ 174), (.none)⟩, ⟨PyData.keyHash P ⟨#[73, 110, 116, 50, 65, 80]⟩, (.str ⟨#[73, 110, 116, 50, 65, 80]⟩ 198), (.ref 21)⟩, ⟨PyData.keyHash P ⟨#[98, 49, 95, 115, 101, 116]⟩, (.str ⟨#[98, 49, 95, 115, 101, 116]⟩ 260), (.ref 29)⟩, ⟨PyData.keyHash P ⟨#[105, 110, 95, 116, 97, 98, 108, 101, 95, 98, 49]⟩, (.str ⟨#[105, 110, 95, 116, 97, 98, 108, 101, 95, 98, 49]⟩ 267), (.ref 39)⟩, ⟨PyData.keyHash P ⟨#[98, 51, 95, 101, 120, 99, 101, 112, 116, 105, 111, 110, 115]⟩, (.str ⟨#[98, 51, 95, 101, 120, 99, 101, 112, 116, 105, 111, 110, 115]⟩ 2218), (.ref 40)⟩, ⟨PyData.keyHash P ⟨#[109, 97, 112, 95, 116, 97, 98, 108, 101, 95, 98, 51]⟩, (.str ⟨#[109, 97, 112, 95, 116, 97, 98, 108, 101, 95, 98, 51]⟩ 2226), (.ref 85)⟩, ⟨PyData.keyHash P ⟨#[95, 77, 65, 88, 95, 83, 84, 82, 73, 78, 71, 95, 83, 73, 90, 69]⟩, (.str ⟨#[95, 77, 65, 88, 95, 83, 84, 82, 73, 78, 71, 95, 83, 73, 90, 69]⟩ 2230), (.int 40 2229)⟩, ⟨PyData.keyHash P ⟨#[95, 77, 79, 86, 69, 95, 67, 79, 83, 84]⟩, (.str ⟨#[95, 77, 79, 86, 69, 95, 67, 79, 83, 84]⟩ 2232), (.int 2 2231)⟩, ⟨PyData.keyHash P ⟨#[95, 67, 65, 83, 69, 95, 67, 79, 83, 84]⟩, (.str ⟨#[95, 67, 65, 83, 69, 95, 67, 79, 83, 84]⟩ 2234), (.int 1 2233)⟩, ⟨PyData.keyHash P ⟨#[95, 115, 117, 98, 115, 116, 105, 116, 117, 116, 105, 111, 110, 95, 99, 111, 115, 116]⟩, (.str ⟨#[95, 115, 117, 98, 115, 116, 105, 116, 117, 116, 105, 111, 110, 95, 99, 111, 115, 116]⟩ 2242), (.ref 92)⟩, ⟨PyData.keyHash P ⟨#[95, 108, 101, 118, 101, 110, 115, 104, 116, 101, 105, 110, 95, 100, 105, 115, 116, 97, 110, 99, 101]⟩, (.str ⟨#[95, 108, 101, 118, 101, 110, 115, 104, 116, 101, 105, 110, 95, 100, 105, 115, 116, 97, 110, 99, 101]⟩ 2262), (.ref 99)⟩, ⟨PyData.keyHash P ⟨#[95, 108, 97, 119, 95, 116, 121, 112, 101, 100]⟩, (.str ⟨#[95, 108, 97, 119, 95, 116, 121, 112, 101, 100]⟩ 2279), (.ref 106)⟩, ⟨PyData.keyHash P ⟨#[95, 108, 97, 119, 95, 112, 114, 101, 112, 97, 114, 101, 100]⟩, (.str ⟨#[95, 108, 97, 119, 95, 112, 114, 101, 112, 97, 114, 101, 100]⟩ 2285), (.ref 111)⟩, ⟨PyData.keyHash P ⟨#[95, 108, 97, 119, 95, 111, 114, 100, 101, 114, 115]⟩, (.str ⟨#[95, 108, 97, 119, 95, 111, 114, 100, 101, 114, 115]⟩ 2291), (.ref 116)⟩, ⟨PyData.keyHash P ⟨#[95, 108, 97, 119, 95, 99, 104, 111, 105, 99, 101, 115]⟩, (.str ⟨#[95, 108, 97, 119, 95, 99, 104, 111, 105, 99, 101, 115]⟩ 2298), (.ref 123)⟩, ⟨PyData.keyHash P ⟨#[95, 108, 97, 119, 95, 112, 97, 99, 107]⟩, (.str ⟨#[95, 108, 97, 119, 95, 112, 97, 99, 107]⟩ 2308), (.ref 130)⟩] 24), #[]⟩
noncomputable def o12v10 (P : Params) : Obj := ⟨(.none), none, (.fields #[(.int 2 0), (.int 0 0), (.ref 20), (.int 12 0), (.int 0 0), (.ref 38), (.int 15 0), (.int 0 0), (.ref 84), (.int 24 0), (.int 0 0), (.ref 91), (.int 30 0), (.int 0 0), (.ref 98), (.int 69 0), (.int 0 0), (.ref 105), (.int 86 0), (.int 0 0), (.ref 110), (.int 88 0), (.int 0 0), (.ref 115), (.int 101 0), (.int 0 0), (.ref 122), (.int 103 0), (.int 0 0), (.ref 129)]), #[]⟩
noncomputable def o124v0 (P : Params) : Obj := ⟨(.type "tuple"), none, (.seq #[] 0), #[]⟩
noncomputable def o125v0 (P : Params) : Obj := ⟨(.none), none, (.fields #[]), #[]⟩
noncomputable def o126v0 (P : Params) : Obj := ⟨(.type "tuple"), none, (.seq #[(.str ⟨#[100, 114, 97, 119]⟩ 2302), (.str ⟨#[108, 101, 102, 116]⟩ 2303), (.str ⟨#[112, 97, 99, 107]⟩ 2304), (.str ⟨#[107]⟩ 2305)] 0), #[]⟩
noncomputable def o127v0 (P : Params) : Obj := ⟨(.type "tuple"), none, (.seq #[] 0), #[]⟩
noncomputable def o128v0 (P : Params) : Obj := ⟨(.none), none, .func (fd st18 0 (.none) (.none) 0), #[]⟩
noncomputable def o129v0 (P : Params) : Obj := ⟨(.type "code"), none, (.fields #[(.str ⟨#[95, 108, 97, 119, 95, 112, 97, 99, 107]⟩ 2299), (.str ⟨#[95, 108, 97, 119, 95, 112, 97, 99, 107]⟩ 2300), (.str ⟨#[47, 99, 108, 97, 105, 109, 47, 99, 117, 116, 46, 112, 121]⟩ 2301), (.int 103 0), (.int 1 0), (.int 0 0), (.int 0 0), (.int 3 0), (.ref 124), (.bool true), (.int 181 0), (.ref 125), (.none), (.ref 126), (.ref 127), (.ref 128), (.int 2306 0), (.int 103 0), (.str ⟨#[47, 99, 108, 97, 105, 109, 47, 99, 117, 116, 46, 112, 121]⟩ 2307)]), #[]⟩
noncomputable def o130v0 (P : Params) : Obj := ⟨(.type "function"), none, .func (fd st18 3 (.str ⟨#[108, 97, 119, 95, 116, 97, 48, 48, 53, 49, 95, 48, 50]⟩ 2263) (.ref 129) 0), #[]⟩
noncomputable def T19 (P : Params) : BT := (.node (boot_o_0 P) (.node (boot_o_1 P) (.node (o3v19 P) (.node (boot_o_7 P) (.node (o15v0 P) (.node (o31v0 P) (.node (o63v0 P) (.node (o127v0 P) .nil .nil) .nil) (.node (o95v0 P) .nil .nil)) (.node (o47v0 P) (.node (o79v0 P) .nil .nil) (.node (o111v0 P) .nil .nil))) (.node (o23v0 P) (.node (o39v0 P) (.node (o71v0 P) .nil .nil) (.node (o103v0 P) .nil .nil)) (.node (o55v0 P) (.node (o87v0 P) .nil .nil) (.node (o119v0 P) .nil .nil)))) (.node (o11v0 P) (.node (o19v0 P) (.node (o35v0 P) (.node (o67v0 P) .nil .nil) (.node (o99v0 P) .nil .nil)) (.node (o51v0 P) (.node (o83v0 P) .nil .nil) (.node (o115v0 P) .nil .nil))) (.node (o27v0 P) (.node (o43v0 P) (.node (o75v0 P) .nil .nil) (.node (o107v0 P) .nil .nil)) (.node (o59v0 P) (.node (o91v0 P) .nil .nil) (.node (o123v0 P) .nil .nil))))) (.node (boot_o_5 P) (.node (boot_o_9 P) (.node (o17v0 P) (.node (o33v0 P) (.node (o65v0 P) (.node (o129v0 P) .nil .nil) .nil) (.node (o97v0 P) .nil .nil)) (.node (o49v0 P) (.node (o81v0 P) .nil .nil) (.node (o113v0 P) .nil .nil))) (.node (o25v0 P) (.node (o41v0 P) (.node (o73v0 P) .nil .nil) (.node (o105v0 P) .nil .nil)) (.node (o57v0 P) (.node (o89v0 P) .nil .nil) (.node (o121v0 P) .nil .nil)))) (.node (o13v0 P) (.node (o21v0 P) (.node (o37v0 P) (.node (o69v0 P) .nil .nil) (.node (o101v0 P) .nil .nil)) (.node (o53v0 P) (.node (o85v0 P) .nil .nil) (.node (o117v0 P) .nil .nil))) (.node (o29v0 P) (.node (o45v0 P) (.node (o77v0 P) .nil .nil) (.node (o109v0 P) .nil .nil)) (.node (o61v0 P) (.node (o93v0 P) .nil .nil) (.node (o125v0 P) .nil .nil)))))) (.node (boot_o_2 P) (.node (boot_o_4 P) (.node (boot_o_8 P) (.node (o16v0 P) (.node (o32v0 P) (.node (o64v0 P) (.node (o128v0 P) .nil .nil) .nil) (.node (o96v0 P) .nil .nil)) (.node (o48v0 P) (.node (o80v0 P) .nil .nil) (.node (o112v0 P) .nil .nil))) (.node (o24v0 P) (.node (o40v0 P) (.node (o72v0 P) .nil .nil) (.node (o104v0 P) .nil .nil)) (.node (o56v0 P) (.node (o88v0 P) .nil .nil) (.node (o120v0 P) .nil .nil)))) (.node (o12v10 P) (.node (o20v0 P) (.node (o36v0 P) (.node (o68v0 P) .nil .nil) (.node (o100v0 P) .nil .nil)) (.node (o52v0 P) (.node (o84v0 P) .nil .nil) (.node (o116v0 P) .nil .nil))) (.node (o28v0 P) (.node (o44v0 P) (.node (o76v0 P) .nil .nil) (.node (o108v0 P) .nil .nil)) (.node (o60v0 P) (.node (o92v0 P) .nil .nil) (.node (o124v0 P) .nil .nil))))) (.node (boot_o_6 P) (.node (boot_o_10 P) (.node (o18v0 P) (.node (o34v0 P) (.node (o66v0 P) (.node (o130v0 P) .nil .nil) .nil) (.node (o98v0 P) .nil .nil)) (.node (o50v0 P) (.node (o82v0 P) .nil .nil) (.node (o114v0 P) .nil .nil))) (.node (o26v0 P) (.node (o42v0 P) (.node (o74v0 P) .nil .nil) (.node (o106v0 P) .nil .nil)) (.node (o58v0 P) (.node (o90v0 P) .nil .nil) (.node (o122v0 P) .nil .nil)))) (.node (o14v0 P) (.node (o22v0 P) (.node (o38v0 P) (.node (o70v0 P) .nil .nil) (.node (o102v0 P) .nil .nil)) (.node (o54v0 P) (.node (o86v0 P) .nil .nil) (.node (o118v0 P) .nil .nil))) (.node (o30v0 P) (.node (o46v0 P) (.node (o78v0 P) .nil .nil) (.node (o110v0 P) .nil .nil)) (.node (o62v0 P) (.node (o94v0 P) .nil .nil) (.node (o126v0 P) .nil .nil)))))))
theorem pt18 (w : World) (os : OsState) : segRunT treeTable pp w 11 (some (.ref 6)) 1 33 ⟨T18 w.params, 124, {}, #[], {}, 2299, os⟩ (piecesOf [st18] env (.body bd env) ⟨101, 0, 102, 60⟩ [topFrame ⟨0, 0, 0, 0⟩]) = some (.next, ⟨T19 w.params, 131, {}, #[], {}, 2309, os⟩, .body bd env, ⟨103, 0, 110, 15⟩) := by
  show segRunT treeTable pp _ 11 (some (.ref 6)) 1 33 _ ⟨(execs [st18] env).wrap doneF deadEnd id id, .body bd env, ⟨101, 0, 102, 60⟩, [topFrame ⟨0, 0, 0, 0⟩]⟩ = _
  rw [PySem.W.Fast.te10110043849684766642, PySem.W.Fast.te14364793385576792824, PySem.W.Fast.te12563942051412417395]
  kernel_rfl!
theorem pc18 (w : World) (os : OsState) : segRun treeTable pp w 11 (some (.ref 6)) 1 33 (SharedT.abs ⟨T18 w.params, 124, {}, #[], {}, 2299, os⟩) (piecesOf [st18] env (.body bd env) ⟨101, 0, 102, 60⟩ [topFrame ⟨0, 0, 0, 0⟩]) = some (.next, SharedT.abs ⟨T19 w.params, 131, {}, #[], {}, 2309, os⟩, .body bd env, ⟨103, 0, 110, 15⟩) := segRun_of (pt18 w os)
noncomputable def o3v20 (P : Params) : Obj := ⟨(.type "dict"), none, (.dict #[⟨PyData.keyHash P ⟨#[95, 95, 110, 97, 109, 101, 95, 95]⟩, (.str ⟨#[95, 95, 110, 97, 109, 101, 95, 95]⟩ 165), (.str ⟨#[108, 97, 119, 95, 116, 97, 48, 48, 53, 49, 95, 48, 50]⟩ 2263)⟩, ⟨PyData.keyHash P ⟨#[95, 95, 100, 111, 99, 95, 95]⟩, (.str ⟨#[95, 95, 100, 111, 99, 95, 95]⟩ 166), (.none)⟩, ⟨PyData.keyHash P ⟨#[95, 95, 112, 97, 99, 107, 97, 103, 101, 95, 95]⟩, (.str ⟨#[95, 95, 112, 97, 99, 107, 97, 103, 101, 95, 95]⟩ 167), (.none)⟩, ⟨PyData.keyHash P ⟨#[95, 95, 108, 111, 97, 100, 101, 114, 95, 95]⟩, (.str ⟨#[95, 95, 108, 111, 97, 100, 101, 114, 95, 95]⟩ 168), (.builtin "__main__.__loader__#opaque")⟩, ⟨PyData.keyHash P ⟨#[95, 95, 115, 112, 101, 99, 95, 95]⟩, (.str ⟨#[95, 95, 115, 112, 101, 99, 95, 95]⟩ 169), (.none)⟩, ⟨PyData.keyHash P ⟨#[95, 95, 97, 110, 110, 111, 116, 97, 116, 105, 111, 110, 115, 95, 95]⟩, (.str ⟨#[95, 95, 97, 110, 110, 111, 116, 97, 116, 105, 111, 110, 115, 95, 95]⟩ 170), (.ref 6)⟩, ⟨PyData.keyHash P ⟨#[95, 95, 98, 117, 105, 108, 116, 105, 110, 115, 95, 95]⟩, (.str ⟨#[95, 95, 98, 117, 105, 108, 116, 105, 110, 115, 95, 95]⟩ 171), (.ref 4)⟩, ⟨PyData.keyHash P ⟨#[95, 95, 102, 105, 108, 101, 95, 95]⟩, (.str ⟨#[95, 95, 102, 105, 108, 101, 95, 95]⟩ 173), (.str ⟨#[47, 99, 108, 97, 105, 109, 47, 99, 117, 116, 46, 112, 121]⟩ 172)⟩, ⟨PyData.keyHash P ⟨#[95, 95, 99, 97, 99, 104, 101, 100, 95, 95]⟩, (.str ⟨#[95, 95, 99, 97, 99, 104, 101, 100, 95, 95]⟩ 174), (.none)⟩, ⟨PyData.keyHash P ⟨#[73, 110, 116, 50, 65, 80]⟩, (.str ⟨#[73, 110, 116, 50, 65, 80]⟩ 198), (.ref 21)⟩, ⟨PyData.keyHash P ⟨#[98, 49, 95, 115, 101, 116]⟩, (.str ⟨#[98, 49, 95, 115, 101, 116]⟩ 260), (.ref 29)⟩, ⟨PyData.keyHash P ⟨#[105, 110, 95, 116, 97, 98, 108, 101, 95, 98, 49]⟩, (.str ⟨#[105, 110, 95, 116, 97, 98, 108, 101, 95, 98, 49]⟩ 267), (.ref 39)⟩, ⟨PyData.keyHash P ⟨#[98, 51, 95, 101, 120, 99, 101, 112, 116, 105, 111, 110, 115]⟩, (.str ⟨#[98, 51, 95, 101, 120, 99, 101, 112, 116, 105, 111, 110, 115]⟩ 2218), (.ref 40)⟩, ⟨PyData.keyHash P ⟨#[109, 97, 112, 95, 116, 97, 98, 108, 101, 95, 98, 51]⟩, (.str ⟨#[109, 97, 112, 95, 116, 97, 98, 108, 101, 95, 98, 51]⟩ 2226), (.ref 85)⟩, ⟨PyData.keyHash P ⟨#[95, 77, 65, 88, 95, 83, 84, 82, 73, 78, 71, 95, 83, 73, 90, 69]⟩, (.str ⟨#[95, 77, 65, 88, 95, 83, 84, 82, 73, 78, 71, 95, 83, 73, 90, 69]⟩ 2230), (.int 40 2229)⟩, ⟨PyData.keyHash P ⟨#[95, 77, 79, 86, 69, 95, 67, 79, 83, 84]⟩, (.str ⟨#[95, 77, 79, 86, 69, 95, 67, 79, 83, 84]⟩ 2232), (.int 2 2231)⟩, ⟨PyData.keyHash P ⟨#[95, 67, 65, 83, 69, 95, 67, 79, 83, 84]⟩, (.str ⟨#[95, 67, 65, 83, 69, 95, 67, 79, 83, 84]⟩ 2234), (.int 1 2233)⟩, ⟨PyData.keyHash P ⟨#[95, 115, 117, 98, 115, 116, 105, 116, 117, 116, 105, 111, 110, 95, 99, 111, 115, 116]⟩, (.str ⟨#[95, 115, 117, 98, 115, 116, 105, 116, 117, 116, 105, 111, 110, 95, 99, 111, 115, 116]⟩ 2242), (.ref 92)⟩, ⟨PyData.keyHash P ⟨#[95, 108, 101, 118, 101, 110, 115, 104, 116, 101, 105, 110, 95, 100, 105, 115, 116, 97, 110, 99, 101]⟩, (.str ⟨#[95, 108, 101, 118, 101, 110, 115, 104, 116, 101, 105, 110, 95, 100, 105, 115, 116, 97, 110, 99, 101]⟩ 2262), (.ref 99)⟩, ⟨PyData.keyHash P ⟨#[95, 108, 97, 119, 95, 116, 121, 112, 101, 100]⟩, (.str ⟨#[95, 108, 97, 119, 95, 116, 121, 112, 101, 100]⟩ 2279), (.ref 106)⟩, ⟨PyData.keyHash P ⟨#[95, 108, 97, 119, 95, 112, 114, 101, 112, 97, 114, 101, 100]⟩, (.str ⟨#[95, 108, 97, 119, 95, 112, 114, 101, 112, 97, 114, 101, 100]⟩ 2285), (.ref 111)⟩, ⟨PyData.keyHash P ⟨#[95, 108, 97, 119, 95, 111, 114, 100, 101, 114, 115]⟩, (.str ⟨#[95, 108, 97, 119, 95, 111, 114, 100, 101, 114, 115]⟩ 2291), (.ref 116)⟩, ⟨PyData.keyHash P ⟨#[95, 108, 97, 119, 95, 99, 104, 111, 105, 99, 101, 115]⟩, (.str ⟨#[95, 108, 97, 119, 95, 99, 104, 111, 105, 99, 101, 115]⟩ 2298), (.ref 123)⟩, ⟨PyData.keyHash P ⟨#[95, 108, 97, 119, 95, 112, 97, 99, 107]⟩, (.str ⟨#[95, 108, 97, 119, 95, 112, 97, 99, 107]⟩ 2308), (.ref 130)⟩, ⟨PyData.keyHash P ⟨#[108, 97, 119]⟩, (.str ⟨#[108, 97, 119]⟩ 2314), (.ref 135)⟩] 25), #[]⟩
noncomputable def o12v11 (P : Params) : Obj := ⟨(.none), none, (.fields #[(.int 2 0), (.int 0 0), (.ref 20), (.int 12 0), (.int 0 0), (.ref 38), (.int 15 0), (.int 0 0), (.ref 84), (.int 24 0), (.int 0 0), (.ref 91), (.int 30 0), (.int 0 0), (.ref 98), (.int 69 0), (.int 0 0), (.ref 105), (.int 86 0), (.int 0 0), (.ref 110), (.int 88 0), (.int 0 0), (.ref 115), (.int 101 0), (.int 0 0), (.ref 122), (.int 103 0), (.int 0 0), (.ref 129), (.int 111 0), (.int 0 0), (.ref 134)]), #[]⟩
noncomputable def o131v0 (P : Params) : Obj := ⟨(.type "tuple"), none, (.seq #[] 0), #[]⟩
noncomputable def o132v0 (P : Params) : Obj := ⟨(.none), none, (.fields #[]), #[]⟩
noncomputable def o133v0 (P : Params) : Obj := ⟨(.none), none, .func (fd st19 0 (.none) (.none) 0), #[]⟩
noncomputable def o134v0 (P : Params) : Obj := ⟨(.type "code"), none, (.fields #[(.str ⟨#[108, 97, 119]⟩ 2309), (.str ⟨#[108, 97, 119]⟩ 2310), (.str ⟨#[47, 99, 108, 97, 105, 109, 47, 99, 117, 116, 46, 112, 121]⟩ 2311), (.int 111 0), (.int 1 0), (.int 0 0), (.int 0 0), (.int 3 0), (.ref 131), (.bool true), (.int 181 0), (.ref 132), (.none), (.none), (.none), (.ref 133), (.int 2312 0), (.int 111 0), (.str ⟨#[47, 99, 108, 97, 105, 109, 47, 99, 117, 116, 46, 112, 121]⟩ 2313)]), #[]⟩
noncomputable def o135v0 (P : Params) : Obj := ⟨(.type "function"), none, .func (fd st19 3 (.str ⟨#[108, 97, 119, 95, 116, 97, 48, 48, 53, 49, 95, 48, 50]⟩ 2263) (.ref 134) 0), #[]⟩
noncomputable def T20 (P : Params) : BT := (.node (boot_o_0 P) (.node (boot_o_1 P) (.node (o3v20 P) (.node (boot_o_7 P) (.node (o15v0 P) (.node (o31v0 P) (.node (o63v0 P) (.node (o127v0 P) .nil .nil) .nil) (.node (o95v0 P) .nil .nil)) (.node (o47v0 P) (.node (o79v0 P) .nil .nil) (.node (o111v0 P) .nil .nil))) (.node (o23v0 P) (.node (o39v0 P) (.node (o71v0 P) (.node (o135v0 P) .nil .nil) .nil) (.node (o103v0 P) .nil .nil)) (.node (o55v0 P) (.node (o87v0 P) .nil .nil) (.node (o119v0 P) .nil .nil)))) (.node (o11v0 P) (.node (o19v0 P) (.node (o35v0 P) (.node (o67v0 P) (.node (o131v0 P) .nil .nil) .nil) (.node (o99v0 P) .nil .nil)) (.node (o51v0 P) (.node (o83v0 P) .nil .nil) (.node (o115v0 P) .nil .nil))) (.node (o27v0 P) (.node (o43v0 P) (.node (o75v0 P) .nil .nil) (.node (o107v0 P) .nil .nil)) (.node (o59v0 P) (.node (o91v0 P) .nil .nil) (.node (o123v0 P) .nil .nil))))) (.node (boot_o_5 P) (.node (boot_o_9 P) (.node (o17v0 P) (.node (o33v0 P) (.node (o65v0 P) (.node (o129v0 P) .nil .nil) .nil) (.node (o97v0 P) .nil .nil)) (.node (o49v0 P) (.node (o81v0 P) .nil .nil) (.node (o113v0 P) .nil .nil))) (.node (o25v0 P) (.node (o41v0 P) (.node (o73v0 P) .nil .nil) (.node (o105v0 P) .nil .nil)) (.node (o57v0 P) (.node (o89v0 P) .nil .nil) (.node (o121v0 P) .nil .nil)))) (.node (o13v0 P) (.node (o21v0 P) (.node (o37v0 P) (.node (o69v0 P) (.node (o133v0 P) .nil .nil) .nil) (.node (o101v0 P) .nil .nil)) (.node (o53v0 P) (.node (o85v0 P) .nil .nil) (.node (o117v0 P) .nil .nil))) (.node (o29v0 P) (.node (o45v0 P) (.node (o77v0 P) .nil .nil) (.node (o109v0 P) .nil .nil)) (.node (o61v0 P) (.node (o93v0 P) .nil .nil) (.node (o125v0 P) .nil .nil)))))) (.node (boot_o_2 P) (.node (boot_o_4 P) (.node (boot_o_8 P) (.node (o16v0 P) (.node (o32v0 P) (.node (o64v0 P) (.node (o128v0 P) .nil .nil) .nil) (.node (o96v0 P) .nil .nil)) (.node (o48v0 P) (.node (o80v0 P) .nil .nil) (.node (o112v0 P) .nil .nil))) (.node (o24v0 P) (.node (o40v0 P) (.node (o72v0 P) .nil .nil) (.node (o104v0 P) .nil .nil)) (.node (o56v0 P) (.node (o88v0 P) .nil .nil) (.node (o120v0 P) .nil .nil)))) (.node (o12v11 P) (.node (o20v0 P) (.node (o36v0 P) (.node (o68v0 P) (.node (o132v0 P) .nil .nil) .nil) (.node (o100v0 P) .nil .nil)) (.node (o52v0 P) (.node (o84v0 P) .nil .nil) (.node (o116v0 P) .nil .nil))) (.node (o28v0 P) (.node (o44v0 P) (.node (o76v0 P) .nil .nil) (.node (o108v0 P) .nil .nil)) (.node (o60v0 P) (.node (o92v0 P) .nil .nil) (.node (o124v0 P) .nil .nil))))) (.node (boot_o_6 P) (.node (boot_o_10 P) (.node (o18v0 P) (.node (o34v0 P) (.node (o66v0 P) (.node (o130v0 P) .nil .nil) .nil) (.node (o98v0 P) .nil .nil)) (.node (o50v0 P) (.node (o82v0 P) .nil .nil) (.node (o114v0 P) .nil .nil))) (.node (o26v0 P) (.node (o42v0 P) (.node (o74v0 P) .nil .nil) (.node (o106v0 P) .nil .nil)) (.node (o58v0 P) (.node (o90v0 P) .nil .nil) (.node (o122v0 P) .nil .nil)))) (.node (o14v0 P) (.node (o22v0 P) (.node (o38v0 P) (.node (o70v0 P) (.node (o134v0 P) .nil .nil) .nil) (.node (o102v0 P) .nil .nil)) (.node (o54v0 P) (.node (o86v0 P) .nil .nil) (.node (o118v0 P) .nil .nil))) (.node (o30v0 P) (.node (o46v0 P) (.node (o78v0 P) .nil .nil) (.node (o110v0 P) .nil .nil)) (.node (o62v0 P) (.node (o94v0 P) .nil .nil) (.node (o126v0 P) .nil .nil)))))))
theorem pt19 (w : World) (os : OsState) : segRunT treeTable pp w 11 (some (.ref 6)) 1 27 ⟨T19 w.params, 131, {}, #[], {}, 2309, os⟩ (piecesOf [st19] env (.body bd env) ⟨103, 0, 110, 15⟩ [topFrame ⟨0, 0, 0, 0⟩]) = some (.next, ⟨T20 w.params, 136, {}, #[], {}, 2315, os⟩, .body bd env, ⟨111, 0, 146, 15⟩) := by
  show segRunT treeTable pp _ 11 (some (.ref 6)) 1 27 _ ⟨(execs [st19] env).wrap doneF deadEnd id id, .body bd env, ⟨103, 0, 110, 15⟩, [topFrame ⟨0, 0, 0, 0⟩]⟩ = _
  rw [PySem.W.Fast.te10110043849684766642, PySem.W.Fast.te14364793385576792824, PySem.W.Fast.te12563942051412417395]
  kernel_rfl!
theorem pc19 (w : World) (os : OsState) : segRun treeTable pp w 11 (some (.ref 6)) 1 27 (SharedT.abs ⟨T19 w.params, 131, {}, #[], {}, 2309, os⟩) (piecesOf [st19] env (.body bd env) ⟨103, 0, 110, 15⟩ [topFrame ⟨0, 0, 0, 0⟩]) = some (.next, SharedT.abs ⟨T20 w.params, 136, {}, #[], {}, 2315, os⟩, .body bd env, ⟨111, 0, 146, 15⟩) := segRun_of (pt19 w os)
noncomputable def H1 (P : Params) : Heap := Heap.mk (Array.mk [boot_o_0 P, boot_o_1 P, boot_o_2 P, o3v20 P, boot_o_4 P, boot_o_5 P, boot_o_6 P, boot_o_7 P, boot_o_8 P, boot_o_9 P, boot_o_10 P, o11v0 P, o12v11 P, o13v0 P, o14v0 P, o15v0 P, o16v0 P, o17v0 P, o18v0 P, o19v0 P, o20v0 P, o21v0 P, o22v0 P, o23v0 P, o24v0 P, o25v0 P, o26v0 P, o27v0 P, o28v0 P, o29v0 P, o30v0 P, o31v0 P, o32v0 P, o33v0 P, o34v0 P, o35v0 P, o36v0 P, o37v0 P, o38v0 P, o39v0 P, o40v0 P, o41v0 P, o42v0 P, o43v0 P, o44v0 P, o45v0 P, o46v0 P, o47v0 P, o48v0 P, o49v0 P, o50v0 P, o51v0 P, o52v0 P, o53v0 P, o54v0 P, o55v0 P, o56v0 P, o57v0 P, o58v0 P, o59v0 P, o60v0 P, o61v0 P, o62v0 P, o63v0 P, o64v0 P, o65v0 P, o66v0 P, o67v0 P, o68v0 P, o69v0 P, o70v0 P, o71v0 P, o72v0 P, o73v0 P, o74v0 P, o75v0 P, o76v0 P, o77v0 P, o78v0 P, o79v0 P, o80v0 P, o81v0 P, o82v0 P, o83v0 P, o84v0 P, o85v0 P, o86v0 P, o87v0 P, o88v0 P, o89v0 P, o90v0 P, o91v0 P, o92v0 P, o93v0 P, o94v0 P, o95v0 P, o96v0 P, o97v0 P, o98v0 P, o99v0 P, o100v0 P, o101v0 P, o102v0 P, o103v0 P, o104v0 P, o105v0 P, o106v0 P, o107v0 P, o108v0 P, o109v0 P, o110v0 P, o111v0 P, o112v0 P, o113v0 P, o114v0 P, o115v0 P, o116v0 P, o117v0 P, o118v0 P, o119v0 P, o120v0 P, o121v0 P, o122v0 P, o123v0 P, o124v0 P, o125v0 P, o126v0 P, o127v0 P, o128v0 P, o129v0 P, o130v0 P, o131v0 P, o132v0 P, o133v0 P, o134v0 P, o135v0 P]) {}
theorem fin_run (w : World) (os : OsState) : topRun treeTable pp w 11 (some (.ref 6)) 2 (SharedT.abs ⟨T20 w.params, 136, {}, #[], {}, 2315, os⟩) ⟨doneF .next, .body bd env, ⟨111, 0, 146, 15⟩, [topFrame ⟨0, 0, 0, 0⟩]⟩ = some ⟨H1 w.params, #[], {}, 2315, os⟩ := by
  rw [PySem.W.Fast.te14082659384304107361, PySem.W.Fast.te14364793385576792824]
  kernel_rfl!
theorem rr20 (w : World) (os : OsState) : topRun treeTable pp w 11 (some (.ref 6)) 2 (SharedT.abs ⟨T20 w.params, 136, {}, #[], {}, 2315, os⟩) (restOf [] env (.body bd env) ⟨111, 0, 146, 15⟩ [topFrame ⟨0, 0, 0, 0⟩]) = some ⟨H1 w.params, #[], {}, 2315, os⟩ := piece_nil (fin_run w os)
theorem rr19 (w : World) (os : OsState) : topRun treeTable pp w 11 (some (.ref 6)) 29 (SharedT.abs ⟨T19 w.params, 131, {}, #[], {}, 2309, os⟩) (restOf (st19 :: []) env (.body bd env) ⟨103, 0, 110, 15⟩ [topFrame ⟨0, 0, 0, 0⟩]) = some ⟨H1 w.params, #[], {}, 2315, os⟩ := by
  have h := pc19 w os
  have k := rr20 w os
  have r := piece_app h k
  exact r
theorem rr18 (w : World) (os : OsState) : topRun treeTable pp w 11 (some (.ref 6)) 62 (SharedT.abs ⟨T18 w.params, 124, {}, #[], {}, 2299, os⟩) (restOf (st18 :: [st19]) env (.body bd env) ⟨101, 0, 102, 60⟩ [topFrame ⟨0, 0, 0, 0⟩]) = some ⟨H1 w.params, #[], {}, 2315, os⟩ := by
  have h := pc18 w os
  have k := rr19 w os
  have r := piece_app h k
  exact r
theorem rr17 (w : World) (os : OsState) : topRun treeTable pp w 11 (some (.ref 6)) 92 (SharedT.abs ⟨T17 w.params, 117, {}, #[], {}, 2292, os⟩) (restOf (st17 :: [st18, st19]) env (.body bd env) ⟨88, 0, 100, 16⟩ [topFrame ⟨0, 0, 0, 0⟩]) = some ⟨H1 w.params, #[], {}, 2315, os⟩ := by
  have h := pc17 w os
  have k := rr18 w os
  have r := piece_app h k
  exact r
theorem rr16 (w : World) (os : OsState) : topRun treeTable pp w 11 (some (.ref 6)) 119 (SharedT.abs ⟨T16 w.params, 112, {}, #[], {}, 2286, os⟩) (restOf (st16 :: [st17, st18, st19]) env (.body bd env) ⟨86, 0, 87, 83⟩ [topFrame ⟨0, 0, 0, 0⟩]) = some ⟨H1 w.params, #[], {}, 2315, os⟩ := by
  have h := pc16 w os
  have k := rr17 w os
  have r := piece_app h k
  exact r
theorem rr15 (w : World) (os : OsState) : topRun treeTable pp w 11 (some (.ref 6)) 146 (SharedT.abs ⟨T15 w.params, 107, {}, #[], {}, 2280, os⟩) (restOf (st15 :: [st16, st17, st18, st19]) env (.body bd env) ⟨69, 0, 85, 16⟩ [topFrame ⟨0, 0, 0, 0⟩]) = some ⟨H1 w.params, #[], {}, 2315, os⟩ := by
  have h := pc15 w os
  have k := rr16 w os
  have r := piece_app h k
  exact r
theorem rr14 (w : World) (os : OsState) : topRun treeTable pp w 11 (some (.ref 6)) 184 (SharedT.abs ⟨T14 w.params, 100, {}, #[], {}, 2265, os⟩) (restOf (st14 :: [st15, st16, st17, st18, st19]) env (.body bd env) ⟨68, 0, 68, 8⟩ [topFrame ⟨0, 0, 0, 0⟩]) = some ⟨H1 w.params, #[], {}, 2315, os⟩ := by
  have h := pc14 w os
  have k := rr15 w os
  have r := piece_app h k
  exact r
theorem rr13 (w : World) (os : OsState) : topRun treeTable pp w 11 (some (.ref 6)) 194 (SharedT.abs ⟨T13 w.params, 100, {}, #[], {}, 2263, os⟩) (restOf (st13 :: [st14, st15, st16, st17, st18, st19]) env (.body bd env) ⟨30, 0, 67, 17⟩ [topFrame ⟨0, 0, 0, 0⟩]) = some ⟨H1 w.params, #[], {}, 2315, os⟩ := by
  have h := pc13 w os
  have k := rr14 w os
  have r := piece_app h k
  exact r
theorem rr12 (w : World) (os : OsState) : topRun treeTable pp w 11 (some (.ref 6)) 237 (SharedT.abs ⟨T12 w.params, 93, {}, #[], {}, 2243, os⟩) (restOf (st12 :: [st13, st14, st15, st16, st17, st18, st19]) env (.body bd env) ⟨24, 0, 29, 21⟩ [topFrame ⟨0, 0, 0, 0⟩]) = some ⟨H1 w.params, #[], {}, 2315, os⟩ := by
  have h := pc12 w os
  have k := rr13 w os
  have r := piece_app h k
  exact r
theorem rr11 (w : World) (os : OsState) : topRun treeTable pp w 11 (some (.ref 6)) 268 (SharedT.abs ⟨T11 w.params, 86, {}, #[], {}, 2235, os⟩) (restOf (st11 :: [st12, st13, st14, st15, st16, st17, st18, st19]) env (.body bd env) ⟨23, 0, 23, 10⟩ [topFrame ⟨0, 0, 0, 0⟩]) = some ⟨H1 w.params, #[], {}, 2315, os⟩ := by
  have h := pc11 w os
  have k := rr12 w os
  have r := piece_app h k
  exact r
theorem rr10 (w : World) (os : OsState) : topRun treeTable pp w 11 (some (.ref 6)) 278 (SharedT.abs ⟨T10 w.params, 86, {}, #[], {}, 2233, os⟩) (restOf (st10 :: [st11, st12, st13, st14, st15, st16, st17, st18, st19]) env (.body bd env) ⟨22, 0, 22, 10⟩ [topFrame ⟨0, 0, 0, 0⟩]) = some ⟨H1 w.params, #[], {}, 2315, os⟩ := by
  have h := pc10 w os
  have k := rr11 w os
  have r := piece_app h k
  exact r
theorem rr9 (w : World) (os : OsState) : topRun treeTable pp w 11 (some (.ref 6)) 288 (SharedT.abs ⟨T9 w.params, 86, {}, #[], {}, 2231, os⟩) (restOf (st9 :: [st10, st11, st12, st13, st14, st15, st16, st17, st18, st19]) env (.body bd env) ⟨21, 0, 21, 16⟩ [topFrame ⟨0, 0, 0, 0⟩]) = some ⟨H1 w.params, #[], {}, 2315, os⟩ := by
  have h := pc9 w os
  have k := rr10 w os
  have r := piece_app h k
  exact r
theorem rr8 (w : World) (os : OsState) : topRun treeTable pp w 11 (some (.ref 6)) 298 (SharedT.abs ⟨T8 w.params, 86, {}, #[], {}, 2229, os⟩) (restOf (st8 :: [st9, st10, st11, st12, st13, st14, st15, st16, st17, st18, st19]) env (.body bd env) ⟨20, 0, 20, 8⟩ [topFrame ⟨0, 0, 0, 0⟩]) = some ⟨H1 w.params, #[], {}, 2315, os⟩ := by
  have h := pc8 w os
  have k := rr9 w os
  have r := piece_app h k
  exact r
theorem rr7 (w : World) (os : OsState) : topRun treeTable pp w 11 (some (.ref 6)) 308 (SharedT.abs ⟨T7 w.params, 86, {}, #[], {}, 2227, os⟩) (restOf (st7 :: [st8, st9, st10, st11, st12, st13, st14, st15, st16, st17, st18, st19]) env (.body bd env) ⟨15, 0, 19, 23⟩ [topFrame ⟨0, 0, 0, 0⟩]) = some ⟨H1 w.params, #[], {}, 2315, os⟩ := by
  have h := pc7 w os
  have k := rr8 w os
  have r := piece_app h k
  exact r
theorem rr6 (w : World) (os : OsState) : topRun treeTable pp w 11 (some (.ref 6)) 339 (SharedT.abs ⟨T6 w.params, 79, {}, #[], {}, 2219, os⟩) (restOf (st6 :: [st7, st8, st9, st10, st11, st12, st13, st14, st15, st16, st17, st18, st19]) env (.body bd env) ⟨14, 0, 14, 13⟩ [topFrame ⟨0, 0, 0, 0⟩]) = some ⟨H1 w.params, #[], {}, 2315, os⟩ := by
  have h := pc6 w os
  have k := rr7 w os
  have r := piece_app h k
  exact r
theorem rr5 (w : World) (os : OsState) : topRun treeTable pp w 11 (some (.ref 6)) 13401 (SharedT.abs ⟨T5 w.params, 40, {}, #[], {}, 268, os⟩) (restOf (st5 :: [st6, st7, st8, st9, st10, st11, st12, st13, st14, st15, st16, st17, st18, st19]) env (.body bd env) ⟨12, 0, 13, 30⟩ [topFrame ⟨0, 0, 0, 0⟩]) = some ⟨H1 w.params, #[], {}, 2315, os⟩ := by
  have h := pc5 w os
  have k := rr6 w os
  have r := piece_app h k
  exact r
theorem rr4 (w : World) (os : OsState) : topRun treeTable pp w 11 (some (.ref 6)) 13431 (SharedT.abs ⟨T4 w.params, 33, {}, #[], {}, 261, os⟩) (restOf (st4 :: [st5, st6, st7, st8, st9, st10, st11, st12, st13, st14, st15, st16, st17, st18, st19]) env (.body bd env) ⟨11, 0, 11, 6⟩ [topFrame ⟨0, 0, 0, 0⟩]) = some ⟨H1 w.params, #[], {}, 2315, os⟩ := by
  have h := pc4 w os
  have k := rr5 w os
  have r := piece_app h k
  exact r
theorem rr3 (w : World) (os : OsState) : topRun treeTable pp w 11 (some (.ref 6)) 14430 (SharedT.abs ⟨T3 w.params, 22, {}, #[], {}, 201, os⟩) (restOf (st3 :: [st4, st5, st6, st7, st8, st9, st10, st11, st12, st13, st14, st15, st16, st17, st18, st19]) env (.body bd env) ⟨10, 0, 10, 8⟩ [topFrame ⟨0, 0, 0, 0⟩]) = some ⟨H1 w.params, #[], {}, 2315, os⟩ := by
  have h := pc3 w os
  have k := rr4 w os
  have r := piece_app h k
  exact r
theorem rr2 (w : World) (os : OsState) : topRun treeTable pp w 11 (some (.ref 6)) 14440 (SharedT.abs ⟨T2 w.params, 22, {}, #[], {}, 199, os⟩) (restOf (st2 :: [st3, st4, st5, st6, st7, st8, st9, st10, st11, st12, st13, st14, st15, st16, st17, st18, st19]) env (.body bd env) ⟨2, 0, 9, 14⟩ [topFrame ⟨0, 0, 0, 0⟩]) = some ⟨H1 w.params, #[], {}, 2315, os⟩ := by
  have h := pc2 w os
  have k := rr3 w os
  have r := piece_app h k
  exact r
theorem rr1 (w : World) (os : OsState) : topRun treeTable pp w 11 (some (.ref 6)) 14473 (SharedT.abs ⟨T1 w.params, 15, {}, #[], {}, 189, os⟩) (restOf (st1 :: [st2, st3, st4, st5, st6, st7, st8, st9, st10, st11, st12, st13, st14, st15, st16, st17, st18, st19]) env (.body bd env) ⟨1, 0, 1, 8⟩ [topFrame ⟨0, 0, 0, 0⟩]) = some ⟨H1 w.params, #[], {}, 2315, os⟩ := by
  have h := pc1 w os
  have k := rr2 w os
  have r := piece_app h k
  exact r
theorem rr0 (w : World) (os : OsState) : topRun treeTable pp w 11 (some (.ref 6)) 14483 (SharedT.abs ⟨T0 w.params, 15, {}, #[], {}, 187, os⟩) (restOf (st0 :: [st1, st2, st3, st4, st5, st6, st7, st8, st9, st10, st11, st12, st13, st14, st15, st16, st17, st18, st19]) env (.body bd env) ⟨0, 0, 0, 0⟩ [topFrame ⟨0, 0, 0, 0⟩]) = some ⟨H1 w.params, #[], {}, 2315, os⟩ := by
  have h := pc0 w os
  have k := rr1 w os
  have r := piece_app h k
  exact r
theorem whole_run (w : World) (os : OsState) : topRun treeTable pp w 11 (some (.ref 6)) 14496 ⟨boot_heap w.params, Array.mk [], boot_drawn, boot_toks, os⟩ (topStub pp) = some ⟨H1 w.params, #[], {}, 2315, os⟩ := by
  have k := rr0 w os
  rw [← bd_eq] at k
  have r1 := piece_block (block_run w os) k
  have r2 := go_top (pre_run w os) r1
  exact r2
noncomputable def vq : Program := { pp with main := { pp.main with body := [st19] } }
noncomputable def loose : List PySem.Str := [(PySem.Str.ofString "Int2AP"), (PySem.Str.ofString "b1_set"), (PySem.Str.ofString "in_table_b1"), (PySem.Str.ofString "b3_exceptions"), (PySem.Str.ofString "map_table_b3"), (PySem.Str.ofString "_MAX_STRING_SIZE"), (PySem.Str.ofString "_MOVE_COST"), (PySem.Str.ofString "_CASE_COST"), (PySem.Str.ofString "_substitution_cost"), (PySem.Str.ofString "_levenshtein_distance"), (PySem.Str.ofString "_law_typed"), (PySem.Str.ofString "_law_prepared"), (PySem.Str.ofString "_law_orders"), (PySem.Str.ofString "_law_choices"), (PySem.Str.ofString "_law_pack")]
noncomputable def KK (P : Params) : Frag := [(3, o3v20 P), (4, boot_o_4 P), (5, boot_o_5 P), (6, boot_o_6 P), (7, boot_o_7 P), (8, boot_o_8 P), (9, boot_o_9 P), (10, boot_o_10 P), (11, o11v0 P), (12, o12v11 P), (13, o13v0 P), (14, o14v0 P), (15, o15v0 P), (16, o16v0 P), (17, o17v0 P), (18, o18v0 P), (19, o19v0 P), (20, o20v0 P), (21, o21v0 P), (22, o22v0 P), (23, o23v0 P), (24, o24v0 P), (25, o25v0 P), (26, o26v0 P), (27, o27v0 P), (28, o28v0 P), (29, o29v0 P), (30, o30v0 P), (31, o31v0 P), (32, o32v0 P), (33, o33v0 P), (34, o34v0 P), (35, o35v0 P), (36, o36v0 P), (37, o37v0 P), (38, o38v0 P), (39, o39v0 P), (40, o40v0 P), (41, o41v0 P), (42, o42v0 P), (43, o43v0 P), (44, o44v0 P), (45, o45v0 P), (46, o46v0 P), (47, o47v0 P), (48, o48v0 P), (49, o49v0 P), (50, o50v0 P), (51, o51v0 P), (52, o52v0 P), (53, o53v0 P), (54, o54v0 P), (55, o55v0 P), (56, o56v0 P), (57, o57v0 P), (58, o58v0 P), (59, o59v0 P), (60, o60v0 P), (61, o61v0 P), (62, o62v0 P), (63, o63v0 P), (64, o64v0 P), (65, o65v0 P), (66, o66v0 P), (67, o67v0 P), (68, o68v0 P), (69, o69v0 P), (70, o70v0 P), (71, o71v0 P), (72, o72v0 P), (73, o73v0 P), (74, o74v0 P), (75, o75v0 P), (76, o76v0 P), (77, o77v0 P), (78, o78v0 P), (79, o79v0 P), (80, o80v0 P), (81, o81v0 P), (82, o82v0 P), (83, o83v0 P), (84, o84v0 P), (85, o85v0 P), (86, o86v0 P), (87, o87v0 P), (88, o88v0 P), (89, o89v0 P), (90, o90v0 P), (91, o91v0 P), (92, o92v0 P), (93, o93v0 P), (94, o94v0 P), (95, o95v0 P), (96, o96v0 P), (97, o97v0 P), (98, o98v0 P), (99, o99v0 P), (100, o100v0 P), (101, o101v0 P), (102, o102v0 P), (103, o103v0 P), (104, o104v0 P), (105, o105v0 P), (106, o106v0 P), (107, o107v0 P), (108, o108v0 P), (109, o109v0 P), (110, o110v0 P), (111, o111v0 P), (112, o112v0 P), (113, o113v0 P), (114, o114v0 P), (115, o115v0 P), (116, o116v0 P), (117, o117v0 P), (118, o118v0 P), (119, o119v0 P), (120, o120v0 P), (121, o121v0 P), (122, o122v0 P), (123, o123v0 P), (124, o124v0 P), (125, o125v0 P), (126, o126v0 P), (127, o127v0 P), (128, o128v0 P), (129, o129v0 P), (130, o130v0 P), (131, o131v0 P), (132, o132v0 P), (133, o133v0 P), (134, o134v0 P), (135, o135v0 P)]
noncomputable def KA : List Addr := [3, 4, 5, 6, 7, 8, 9, 10, 11, 12, 13, 14, 15, 16, 17, 18, 19, 20, 21, 22, 23, 24, 25, 26, 27, 28, 29, 30, 31, 32, 33, 34, 35, 36, 37, 38, 39, 40, 41, 42, 43, 44, 45, 46, 47, 48, 49, 50, 51, 52, 53, 54, 55, 56, 57, 58, 59, 60, 61, 62, 63, 64, 65, 66, 67, 68, 69, 70, 71, 72, 73, 74, 75, 76, 77, 78, 79, 80, 81, 82, 83, 84, 85, 86, 87, 88, 89, 90, 91, 92, 93, 94, 95, 96, 97, 98, 99, 100, 101, 102, 103, 104, 105, 106, 107, 108, 109, 110, 111, 112, 113, 114, 115, 116, 117, 118, 119, 120, 121, 122, 123, 124, 125, 126, 127, 128, 129, 130, 131, 132, 133, 134, 135]
theorem KA_eq : ∀ P, KA = (KK P).map (·.1) := fun P => by kernel_rfl!
-- keep [19] NN 15496
noncomputable def NN : Nat := 15496
theorem open_run : ∀ w : World, (fencedOpening treeTable pp w NN).map (fun s => (s.heap, s.gens, s.drawn, s.toks)) = some (boot_heap w.params, Array.mk [], boot_drawn, boot_toks) := boot_open (by kernel_rfl!) (by decide +kernel) (fun s => by kernel_rfl!)
theorem size_run (w : World) : ((boot_heap w.params).isNs mainGlobals && (Array.mk [] : Array GenState).size == 0, (boot_heap w.params).objs.size, (boot_heap w.params).nsMap mainGlobals "__annotations__") = (true, 11, (some (.ref 6))) := by
  rw [PySem.W.Fast.te8920871248978507458]
  kernel_rfl!
-- M 14496 toks 2315
end L2
end
end Mine
namespace Mine
open PySem PySem.W PyProof.Rows PySem.Calls
noncomputable section
namespace L2
noncomputable abbrev RR : OpenRow := PySem.Challenge.rw_ta0051_02.row
noncomputable abbrev XX : Shared → Bool := fun s => xlAt vq [] s && recOk (RowW.records RR.toRowW) s
noncomputable abbrev hook : Hook := kHook KK KA KA_eq
noncomputable abbrev SS (w : World) (os : OsState) : Shared := ⟨H1 w.params, #[], {}, 2315, os⟩
noncomputable abbrev mods : List PySem.Str := importedModules pp.main.body
theorem lk1 (w : World) (os : OsState) : (staticsOk mods (boot_heap w.params) (H1 w.params) && namesBound pp (H1 w.params) && gensDone (SS w os) && laidKept (boot_heap w.params) (H1 w.params)) = true := by
  kernel_rfl!
theorem lk3 (w : World) (os : OsState) : hook.obs (SS w os) = hook.val w := by kernel_rfl!
theorem s1 (w : World) (os : OsState) : seen ((recsOf vq).map (·.name)) (ownsOf vq) [] { SS w os with gens := #[] } = expectedOf vq := by kernel_rfl!
theorem s2 (w : World) (os : OsState) : (SS w os).heap.bltView = bltViewBooted := by kernel_rfl!
theorem s3 (w : World) (os : OsState) : ((SS w os).heap.keysOk (looseW vq loose) ((recsOf vq).map (·.name)) ((litsOf vq).map (·.1)) ((clssOf vq (looseW vq loose)).map (·.name)) && (SS w os).heap.accountedOkI mods && (SS w os).heap.isNs mainGlobals && (SS w os).heap.isNs builtinsNs && tablesOk vq (SS w os).heap && XX (SS w os) && (if true then (SS w os).gens.size == 0 else !leftWithCleanup (SS w os).gens)) = true := by kernel_rfl!
theorem s4 (w : World) (os : OsState) : tabsOk vq (SS w os) = true := by kernel_rfl!
theorem s5 (w : World) (os : OsState) : pinSeenD vq (drecsOf vq) (SS w os) = pinGoodD (drecsOf vq) := by kernel_rfl!
theorem s6 (w : World) (os : OsState) : plainSeenE vq (looseW vq loose) (SS w os) = plainGoodE vq (looseW vq loose) := by kernel_rfl!
theorem s7 (w : World) (os : OsState) : plainSeenD vq loose (SS w os) = plainGoodD vq loose := by kernel_rfl!
theorem s8 (w : World) (os : OsState) : wideSeen vq (SS w os) = wideGood vq := by kernel_rfl!
theorem s9 (w : World) (os : OsState) : clsSeenW vq loose (SS w os) = clsGoodW vq loose := by kernel_rfl!
theorem looks (w : World) : (fun os => ((staticsOk mods (boot_heap w.params) (H1 w.params) && namesBound pp (H1 w.params) && gensDone (SS w os) && laidKept (boot_heap w.params) (H1 w.params)),
        openSeen vq loose mods XX true (SS w os), hook.obs (SS w os))) = fun _ => (true, openGood vq loose, hook.val w) :=
  funext fun os => looks_pair (lk1 w os) (looks_pair (looks_pair (s1 w os) (looks_pair (s2 w os) (looks_pair (s3 w os) (looks_pair (s4 w os) (looks_pair (s5 w os) (looks_pair (s6 w os) (looks_pair (s7 w os) (looks_pair (s8 w os) (s9 w os))))))))) (lk3 w os))
theorem left : LeftO pp vq loose XX hook.obs hook.val NN :=
  LeftO.of_pieces open_run size_run whole_run (by decide +kernel) looks
end L2
end
end Mine
set_option linter.constructorNameAsVariable false
namespace Mine
open PySem PySem.W PyProof.Rows PySem.Calls
theorem reps_ints {P : Params} {mu : List Addr} {h : Heap} : ∀ {ws : List Value} {ns : List Int}, IntsAre ws ns → Reps P mu h (ns.map .int) ws
  | _, _, .nil => by simp [Reps]
  | _, _, .cons n t r => by
    rw [List.map_cons]
    unfold Reps
    exact ⟨_, _, rfl, by unfold Rep; exact ⟨t, rfl⟩, reps_ints r⟩
namespace L2
noncomputable def fs2 : List FnT := [fnT st1, fnT st4, fnT st6, fnT st11, fnT st12, fnT st14, fnT st15, fnT st17, fnT st18]
noncomputable def P0 : Params := (aWorld 0).params
noncomputable def b1E : List (Int × Value) := match (o29v0 P0).data with
  | .set es _ _ => es.toList
  | _ => []
noncomputable def gl2 : List (Str × V) := [("_MAX_STRING_SIZE", .int 40), ("_MOVE_COST", .int 2), ("_CASE_COST", .int 1), ("b1_set", .val (.ref 29)), ("b3_exceptions", .val (.ref 40))]
noncomputable def D2 : Dat0 := ⟨fun x => gl2.lookup x, fun wv i => (b1E.any fun e => Value.isInt i e.2, wv = .ref 29), fun wv i => (tabGet b3E i, wv = .ref 40)⟩
noncomputable def fdOf (o : Obj) : FuncData := match o.data with
  | .func fd => fd
  | _ => default
/-- all but the table of the code of _law_orders -/
noncomputable def KG (P : Params) : Frag := (KK P).filter fun q => q.1 != 113
theorem kg_in {P : Params} {h : Heap} (X : (KK P).In h) : (KG P).In (hideAll h [113]) := by
  have key : ∀ (L : Frag) (a : Addr) (o : Obj), (L.filter fun q => q.1 != 113).lookup a = some o → L.lookup a = some o ∧ a ≠ 113 := by
    intro L
    induction L with
    | nil => intro a o e; cases e
    | cons p r ih =>
      intro a o e
      obtain ⟨b, x⟩ := p
      rw [List.filter_cons] at e
      rw [List.lookup_cons]
      by_cases hb : b = 113
      · subst hb
        have e : (r.filter fun q => q.1 != 113).lookup a = some o := e
        obtain ⟨e1, e2⟩ := ih a o e
        rw [show (a == 113) = false from by simpa using e2]
        exact ⟨e1, e2⟩
      · rw [if_pos (by simpa using hb), List.lookup_cons] at e
        by_cases hab : (a == b) = true
        · rw [hab] at e ⊢
          exact ⟨e, by rw [eq_of_beq hab]; exact hb⟩
        · rw [show (a == b) = false from by simpa using hab] at e ⊢
          exact ih a o e
  intro a o e
  obtain ⟨e1, e2⟩ := key _ a o e
  exact hideAll_get _ (X a o e1) (by simpa using e2)
theorem gl_all (P : Params) : (gl2.all fun p => glAt (KG P) p) = true := by kernel_rfl!
theorem nob_all (P : Params) : (bltNames.all fun x => nsIn (KG P) mainGlobals x == some none) = true := by kernel_rfl!
theorem set_all : setEs b1E = true := by kernel_rfl!
theorem set_at (P : Params) : (KG P).lookup 29 = some ⟨.type "set", none, .set b1E.toArray 29 ⟨127, #[0, 1, 2, 3, 4, 5, 6, 7, 8, 9, 10, 11, 12, 13, 14, 15, 16, 17, 18, 19, 20, 21, 22, 45, 79, 96, 127], #[], 0, !P.followText "set-order", 2, true⟩, #[]⟩ := by kernel_rfl!
theorem set_fits (P : Params) : (⟨127, #[0, 1, 2, 3, 4, 5, 6, 7, 8, 9, 10, 11, 12, 13, 14, 15, 16, 17, 18, 19, 20, 21, 22, 45, 79, 96, 127], #[], 0, !P.followText "set-order", 2, true⟩ : SetTable).fits b1E.length = true := by kernel_rfl!
theorem dict_at (P : Params) : (KG P).lookup 40 = some ⟨.type "dict", none, .dict b3E.toArray 650, #[]⟩ := by kernel_rfl!
theorem dict_all : dictEs b3E = true := by decide +kernel
theorem fn1 {P : Params} {h : Heap} {mg : Str → Option Value} (X : (KG P).In h) (G : h.Ns mainGlobals mg) : FnAt h mg (fnT st1) :=
  fnAt_of X G (a := 21) (by kernel_rfl!) (o := o21v0 P) (by kernel_rfl!) rfl (fdOk_of (by kernel_rfl!) rfl (bind1 (a := "num") fun v => by kernel_rfl!)) rfl (by kernel_rfl!)
theorem fn4 {P : Params} {h : Heap} {mg : Str → Option Value} (X : (KG P).In h) (G : h.Ns mainGlobals mg) : FnAt h mg (fnT st4) :=
  fnAt_of X G (a := 39) (by kernel_rfl!) (o := o39v0 P) (by kernel_rfl!) rfl (fdOk_of (by kernel_rfl!) rfl (bind1 (a := "code") fun v => by kernel_rfl!)) rfl (by kernel_rfl!)
theorem fn6 {P : Params} {h : Heap} {mg : Str → Option Value} (X : (KG P).In h) (G : h.Ns mainGlobals mg) : FnAt h mg (fnT st6) :=
  fnAt_of X G (a := 85) (by kernel_rfl!) (o := o85v0 P) (by kernel_rfl!) rfl (fdOk_of (by kernel_rfl!) rfl (bind1 (a := "code") fun v => by kernel_rfl!)) rfl (by kernel_rfl!)
theorem fn11 {P : Params} {h : Heap} {mg : Str → Option Value} (X : (KG P).In h) (G : h.Ns mainGlobals mg) : FnAt h mg (fnT st11) :=
  fnAt_of X G (a := 92) (by kernel_rfl!) (o := o92v0 P) (by kernel_rfl!) rfl (fdOk_of (by kernel_rfl!) rfl (bind2 (a := "ch_a") (b := "ch_b") fun v u => by kernel_rfl!)) rfl (by kernel_rfl!)
theorem fn12 {P : Params} {h : Heap} {mg : Str → Option Value} (X : (KG P).In h) (G : h.Ns mainGlobals mg) : FnAt h mg (fnT st12) :=
  fnAt_of X G (a := 99) (by kernel_rfl!) (o := o99v0 P) (by kernel_rfl!) rfl (fdOk_of (by kernel_rfl!) rfl (bind3 (a := "a") (b := "b") (c := "max_cost") fun v u x => by kernel_rfl!)) rfl (by kernel_rfl!)
theorem fn14 {P : Params} {h : Heap} {mg : Str → Option Value} (X : (KG P).In h) (G : h.Ns mainGlobals mg) : FnAt h mg (fnT st14) :=
  fnAt_of X G (a := 106) (by kernel_rfl!) (o := o106v0 P) (by kernel_rfl!) rfl (fdOk_of (by kernel_rfl!) rfl (bind2 (a := "letters") (b := "draw") fun v u => by kernel_rfl!)) rfl (by kernel_rfl!)
theorem fn15 {P : Params} {h : Heap} {mg : Str → Option Value} (X : (KG P).In h) (G : h.Ns mainGlobals mg) : FnAt h mg (fnT st15) :=
  fnAt_of X G (a := 111) (by kernel_rfl!) (o := o111v0 P) (by kernel_rfl!) rfl (fdOk_of (by kernel_rfl!) rfl (bind1 (a := "typed") fun v => by kernel_rfl!)) rfl (by kernel_rfl!)
theorem head16 {P : Params} {h : Heap} (X : (KG P).In h) : CodeHd h 115 113 := by
  have e : (KG P).lookup 115 = some (o115v0 P) := by kernel_rfl!
  exact ⟨o115v0 P, _, _, _, _, _, _, _, _, X _ _ e, rfl, rfl, rfl, rfl, rfl, rfl, rfl, rfl, by decide⟩
noncomputable def t16 : TabI := ⟨113, ⟨98, 44, 98, 74⟩, "_law_orders.<locals>.<lambda>", some 115⟩
theorem lam16 {P : Params} {h : Heap} {mg : Str → Option Value} (X : (KG P).In h) (G : h.Ns mainGlobals mg) (h0 : h.get? 113 = none) (hb : h.BuiltinsAt mg 113) : LamAt h mg (fnT st16) t16 115 := by
  refine ⟨h0, head16 X, hb, by decide, rfl, ?_⟩
  obtain ⟨fd, hfd⟩ : ∃ fd, fd = fdOf (o116v0 P) := ⟨_, rfl⟩
  refine ⟨116, o116v0 P, fdOf (o116v0 P), mg_of X G (by kernel_rfl!), X _ _ (by kernel_rfl!), rfl, fdOk_of (by kernel_rfl!) rfl (bind3 (a := "packets") (b := "sign") (c := "marks") fun v u x => by kernel_rfl!), rfl, codeRec_of X (by kernel_rfl!), rfl, by kernel_rfl!⟩
theorem fn17 {P : Params} {h : Heap} {mg : Str → Option Value} (X : (KG P).In h) (G : h.Ns mainGlobals mg) : FnAt h mg (fnT st17) :=
  fnAt_of X G (a := 123) (by kernel_rfl!) (o := o123v0 P) (by kernel_rfl!) rfl (fdOk_of (by kernel_rfl!) rfl (bind1 (a := "size") fun v => by kernel_rfl!)) rfl (by kernel_rfl!)
theorem fn18 {P : Params} {h : Heap} {mg : Str → Option Value} (X : (KG P).In h) (G : h.Ns mainGlobals mg) : FnAt h mg (fnT st18) :=
  fnAt_of X G (a := 130) (by kernel_rfl!) (o := o130v0 P) (by kernel_rfl!) rfl (fdOk_of (by kernel_rfl!) rfl (bind1 (a := "draw") fun v => by kernel_rfl!)) rfl (by kernel_rfl!)
theorem fn19 {P : Params} {h : Heap} {mg : Str → Option Value} (X : (KG P).In h) (G : h.Ns mainGlobals mg) : FnAt h mg (fnT st19) :=
  fnAt_of X G (a := 135) (by kernel_rfl!) (o := o135v0 P) (by kernel_rfl!) rfl (fdOk_of (by kernel_rfl!) rfl (bind1 (a := "script") fun v => by kernel_rfl!)) rfl (by kernel_rfl!)
theorem fn_all {P : Params} {h : Heap} {mg : Str → Option Value} (X : (KG P).In h) (G : h.Ns mainGlobals mg) : ∀ t ∈ fs2, FnAt h mg t := by
  intro t ht
  simp only [fs2, List.mem_cons, List.not_mem_nil, or_false] at ht
  rcases ht with rfl | rfl | rfl | rfl | rfl | rfl | rfl | rfl | rfl
  · exact fn1 X G
  · exact fn4 X G
  · exact fn6 X G
  · exact fn11 X G
  · exact fn12 X G
  · exact fn14 X G
  · exact fn15 X G
  · exact fn17 X G
  · exact fn18 X G
theorem base2 {w : World} {h : Heap} {mg mb : Str → Option Value} (X : (KG w.params).In h) (G : h.Ns mainGlobals mg) (Gb : h.Ns builtinsNs mb) (boot : ∀ x : Str, x ≠ "__name__" → mb x = bootBuiltins x) (lim : h.NoLimit) : Base0 pp w h mg mb D2 fs2 :=
  ⟨G, Gb, boot, gl_ok X G (gl_all _), nob_ok X G (nob_all _), fun k => mem_ok X (set_at _) set_all (by decide +kernel) (set_fits _) (CC_mem _ _ _), fun k => get_ok X (by decide) (dict_at _) dict_all (CC_get _ _ _), fn_all X G, lim⟩
/-- the law's own evaluator -/
noncomputable def GL : Cfg := CL D2 fs2 (fnT st16) ⟨98, 44, 98, 74⟩ 4
/-- a post that lets one table grow -/
theorem goodWG_tab {c : ClaimW} {cl : Str → Option Addr} {mean : ExcName → Option Value} {args : List WData} {s₁ : Shared} {h' : Heap} {tk : Nat} {v : Value} {d : WData} {C P : Addr} {ps : Array Value} (hC : CodeHd s₁.heap C P) (hP0 : s₁.heap.get? P = some (tabObj #[]))
    (kk : ∀ b o, b ≠ P → s₁.heap.get? b = some o → h'.get? b = some o) (hP : h'.get? P = some (tabObj ps)) (hg : s₁.gens = #[]) (hr : ReadsW c.records cl h' v d [])
    (hn : ∀ cls, c.raises args cls = false) (hp : c.post args d args = true) : GoodWG c cl mean args s₁ (.ok (.ret v)) { s₁ with heap := h', toks := tk } := by
  refine ⟨.inl ⟨v, d, [], rfl, hn, hr, hp, fun _ => ⟨List.nodup_nil, fun a ha => by cases ha⟩⟩, ⟨fun b o e => ?_, fun b o e => ?_⟩, rfl, .of_eq hg⟩
  · by_cases hb : b = P
    · subst hb
      rw [hP0] at e; cases e
      exact .inr (.inl ⟨(hC.tab hP0).isCodeTable, rfl, #[], ps, rfl, by rw [Array.empty_append]; exact hP⟩)
    · exact .inl (kk b o hb e)
  · by_cases hb : b = P
    · subst hb; exact ⟨_, hP⟩
    · exact ⟨o, kk b o hb e⟩
set_option maxHeartbeats 4000000 in
theorem law_fn {w : World} {h : Heap} {mg mb : Str → Option Value} (B : Base0 pp w h mg mb D2 fs2) (H : LamAt h mg (fnT st16) t16 115) (F19 : FnAt h mg (fnT st19)) {fa : Addr} (hf : mg "law" = some (.ref fa)) {A : Around} (rm : Rm A 6) {s : Shared} (kb : KeepAll h s.heap) (h113 : s.heap.get? 113 = some (tabObj #[]))
    {ns : List Int} {a : Addr} {ws : List Value} (hl : s.heap.IsList a ws.toArray) (hi : IntsAre ws ns)
    (law_true : (runFn GL [fnT st19] "law" [.list (ns.map .int)]).2 ∧ (runFn GL [fnT st19] "law" [.list (ns.map .int)]).1 = .bool true) :
    wpAny (model pp w) A (call (.ref fa) [.ref a]) (fun v s' => ∃ h' tk ps, s' = { s with heap := h', toks := tk } ∧ v = .bool true ∧ (∀ b o, b ≠ 113 → s.heap.get? b = some o → h'.get? b = some o) ∧ h'.get? 113 = some (tabObj ps)) (fun _ _ => False) s := by
  obtain ⟨a', o, fd, h1, h2, h3, h4, h5, h6⟩ := F19
  have h1 : mg "law" = some (.ref a') := h1
  rw [hf] at h1
  cases h1
  have X : Sx pp w h GL 5 (some { t16 with code := none }) 200 := sx (base_cl B) (low_base (base_cl B)) (dirt_cl B H rfl (by decide)) 200
  have ef : [fnT st19].find? (fun t => t.name == ("law" : Str)) = some (fnT st19) := by rfl
  obtain ⟨c1, c2⟩ := law_true
  unfold runFn at c1 c2
  rw [ef] at c1 c2
  dsimp only at c1 c2
  have hl' : [V.list (ns.map V.int)].length = (fnT st19).params.length := rfl
  rw [if_pos hl'] at c1 c2
  rw [← h5] at c1 c2
  have hne : a ≠ 113 := fun q => by
    obtain ⟨o', e, hc, _⟩ := hl
    rw [q, h113] at e; cases e; cases hc
  generalize hq : exs GL (fun x => fd.scope.names.lookup x) 200 (startLs (fnT st19).params [.list (ns.map .int)]) (fnT st19).body = q at c1 c2
  obtain ⟨fl, l', cc⟩ := q
  cases fl with
  | next => exact c1.elim
  | ret v =>
    have c2 : v = .bool true := c2
    subst c2
    have live : Live [113] s.heap := fun b hb => by rw [List.mem_singleton.mp hb]; exact ⟨_, h113⟩
    have tab : TabInv (some { t16 with code := none }) [] [113] s.heap := fun t e => by
      cases e
      exact ⟨.head _, #[], h113, trivial, .inl rfl⟩
    have rr : Reps w.params [113] s.heap [.list (ns.map .int)] [.ref a] := reps_one (by
      unfold Rep
      exact ⟨a, ws, rfl, fun q => hne (List.mem_singleton.mp q), hl, reps_ints hi⟩)
    refine wpAny_mono (call_fnD (t := { t16 with code := none }) X h4 h2 h3 B.lim h6 H.hid (fun c e => by cases e) kb rm live tab rr rfl (by rw [hq]) (by rw [hq]; exact c1)) (fun u s' q => ?_) fun _ _ f => f
    obtain ⟨h', tk, rfl, kf, tb, rp⟩ := q
    unfold Rep at rp
    obtain ⟨_, ps, hp, _⟩ := tb _ rfl
    exact ⟨h', tk, ps, rfl, rp, fun b o hb e => kf b o (fun q => hb (List.mem_singleton.mp q)) (by simp) e, hp⟩
theorem said2 : OpenLaw.wellSaid PySem.Challenge.rw_ta0051_02 = true := by kernel_rfl!
theorem fin_holds (law_true : ∀ ns : List Int, ns.length ≤ 63 → (runFn GL [fnT st19] "law" [.list (ns.map .int)]).2 ∧ (runFn GL [fnT st19] "law" [.list (ns.map .int)]).1 = .bool true) : PySem.Challenge.rw_ta0051_02.Holds := by
  w_on
  refine holds_law said2 fun said => ?_
  refine holds_open (q := vq) (loose := loose) (Xt := XX) (XP := XL vq []) (Yf := hook.obs) (Ya := hook.val) (YP := hook.says) (N := NN) left hook.of hook.keeps (fun s e => xl_of s (Bool.and_eq_true_iff.mp e).1) XL.keeps (by rfl) (by rfl) (by rfl) (fun s e => recFacts_of (Bool.and_eq_true_iff.mp e).2) (by rfl) (by first | assumption | decide +kernel) (by decide +kernel) ⟨rfl, rfl, rfl, rfl, rfl, by decide +kernel⟩ ?hw ?hc
  case hw => w_witness2
  case hc =>
    intro w s₀ s₁ mg mb G Y fa o pm cd doc dV kV ho hd hcd hD hmg hg args vals as hpre hlay hrd hwl hlo
    have KX := kIn_of Y
    clear hd hcd hD ho
    refine Ground.open G ?_
    intro T B D TE TW
    wrow_args hpre hlay hrd hwl hlo
    rename IntsAre _ _ => hI
    rename Heap.IsList _ _ _ => hL
    have hlen := by rename ¬ (_ < _) => hc; exact hc
    have h113 : s₁.heap.get? 113 = some (tabObj #[]) := KX _ _ (show (KK w.params).lookup 113 = some (o113v0 w.params) by kernel_rfl!)
    have X := kg_in KX
    have hC : CodeHd s₁.heap 115 113 := (head16 X).keeps fun b o e => of_hideAll _ e
    have hT : TabsAt [(115, 113)] s₁.heap := fun q hq => by rw [List.mem_singleton.mp hq]; exact ⟨hC, h113⟩
    have GT := ghost_top hT T
    have hB : (hideAll s₁.heap [113]).BuiltinsAt mg 113 := by
      obtain ⟨bm, ob, b1, b2, b3, b4, b5, b6⟩ := GT.bmain
      refine ⟨bm, ob, b1, b2, fun q => ?_, fun q => ?_, b3, b4, b5, b6⟩
      · obtain ⟨o, es, ep, e, hd, _⟩ := GT.g
        rw [← q, show (ghostOf s₁.heap [(115, 113)]).get? bm = some ob from b3] at e; cases e; rw [hd] at b6; cases b6
      · rw [q, show (ghostOf s₁.heap [(115, 113)]).get? 113 = none from hideAll_none _ (.head _)] at b3; cases b3
    refine wpAny_mono (law_fn (base2 X GT.g GT.b GT.builtins GT.nolimit) (lam16 X GT.g (hideAll_none _ (.head _)) hB) (fn19 X GT.g) hmg ⟨rfl, by decide, by decide⟩ (fun _ _ e => of_hideAll _ e) h113 hL hI (law_true _ (by omega))) (fun v s' q => ?_) fun _ _ f => f.elim
    obtain ⟨h', tk, ps, rfl, rfl, kk, hp⟩ := q
    refine goodWG_tab hC h113 kk hp hg (.bool true) (raisesW_false (by wrow_none_raised)) ?_
    wrow_post
end L2
end Mine
namespace Mine
open PySem PySem.W PyProof.Rows PySem.Calls
/-! what holds of the evaluator's results, step by step -/
/-- what is asked holds, and Q of the value -/
noncomputable def Pw {α : Type} (x : W α) (Q : α → Prop) : Prop := x.2 ∧ Q x.1
section
variable (g : Cfg) (k : Kd) (n : Nat) (l : Ls)
noncomputable def WE (e : Expr) (Q : V → Prop) : Prop := (ev g k n l e).2 ∧ Q (ev g k n l e).1
noncomputable def WT (e : Expr) (Q : Bool → Prop) : Prop := (evT g k n l e).2 ∧ Q (evT g k n l e).1
noncomputable def WA (es : List Expr) (Q : Bool → Prop) : Prop := (evAnd g k n l es).2 ∧ Q (evAnd g k n l es).1
noncomputable def WR (es : List Expr) (Q : Bool → Prop) : Prop := (evOr g k n l es).2 ∧ Q (evOr g k n l es).1
noncomputable def WO (e : Option Expr) (Q : V → Prop) : Prop := (evO g k n l e).2 ∧ Q (evO g k n l e).1
noncomputable def WEs (es : List Expr) (Q : List V → Prop) : Prop := (evs g k n l es).2 ∧ Q (evs g k n l es).1
noncomputable def WI (e : Expr) (Q : List V → Prop) : Prop := (evI g k n l e).2 ∧ Q (evI g k n l e).1
noncomputable def WX (s : Stmt) (Q : Fl → Ls → Prop) : Prop := (ex g k n l s).2.2 ∧ Q (ex g k n l s).1 (ex g k n l s).2.1
noncomputable def WXs (s : List Stmt) (Q : Fl → Ls → Prop) : Prop := (exs g k n l s).2.2 ∧ Q (exs g k n l s).1 (exs g k n l s).2.1
noncomputable def WF (f : Str) (args : List V) (Q : V → Prop) : Prop := (g.fn f args).2 ∧ Q (g.fn f args).1
end
variable {g : Cfg} {k : Kd} {n : Nat} {l : Ls}
theorem WE.mono {e : Expr} {Q R : V → Prop} (h : WE g k n l e Q) (m : ∀ v, Q v → R v) : WE g k n l e R := ⟨h.1, m _ h.2⟩
theorem WT.mono {e : Expr} {Q R : Bool → Prop} (h : WT g k n l e Q) (m : ∀ v, Q v → R v) : WT g k n l e R := ⟨h.1, m _ h.2⟩
theorem WXs.mono {s : List Stmt} {Q R : Fl → Ls → Prop} (h : WXs g k n l s Q) (m : ∀ f l', Q f l' → R f l') : WXs g k n l s R := ⟨h.1, m _ _ h.2⟩

/-! expressions -/
theorem WE_int {i : Int} {a : Nat} {p : Pos} {Q : V → Prop} (h : Q (.int i)) : WE g k (n + 1) l (.Constant (.int i) a p) Q := ⟨trivial, h⟩
theorem WE_none {a : Nat} {p : Pos} {Q : V → Prop} (h : Q .none) : WE g k (n + 1) l (.Constant .none a p) Q := ⟨trivial, h⟩
theorem WE_bool {b : Bool} {a : Nat} {p : Pos} {Q : V → Prop} (h : Q (.bool b)) : WE g k (n + 1) l (.Constant (.bool b) a p) Q := ⟨trivial, h⟩
theorem WE_bytes {b : List UInt8} {a : Nat} {p : Pos} {Q : V → Prop} (h : Q (.bytes b)) : WE g k (n + 1) l (.Constant (.bytes b) a p) Q := ⟨trivial, h⟩
theorem WE_str {s : Str} {a : Nat} {p : Pos} {Q : V → Prop} (h : Q (.str s.cps.toList)) : WE g k (n + 1) l (.Constant (.str s) a p) Q := ⟨trivial, h⟩
theorem WE_name {x : Str} {p : Pos} {v : V} {Q : V → Prop} (e : l.at x = some v) (h : Q v) : WE g k (n + 1) l (.Name x p) Q := by
  unfold WE; rw [ev_nameL e]; exact ⟨trivial, h⟩
theorem WE_glob {x : Str} {p : Pos} {v : V} {Q : V → Prop} (e : l.at x = none) (e2 : g.gl x = some v) (hk : kindOk k x = true) (h : Q v) : WE g k (n + 1) l (.Name x p) Q := by
  unfold WE; rw [ev_nameG e e2]; exact ⟨hk, h⟩
theorem WE_bin {a b : Expr} {op : Operator} {p : Pos} {Q : V → Prop} (h : WE g k n l a fun va => WE g k n l b fun vb => Pw (binV op va vb) Q) : WE g k (n + 1) l (.BinOp a op b p) Q := by
  unfold WE at h ⊢; rw [ev_bin]; exact ⟨⟨h.1, h.2.1, h.2.2.1⟩, h.2.2.2⟩
theorem WE_or {a b : Expr} {p : Pos} {Q : V → Prop} (h : WE g k n l a fun va => Pw (truV va) fun c => (c = true → Q va) ∧ (c = false → WE g k n l b Q)) : WE g k (n + 1) l (.BoolOp .Or [a, b] p) Q := by
  unfold WE at h ⊢
  rw [ev_or]
  split
  · rename_i ht; exact ⟨⟨h.1, h.2.1⟩, h.2.2.1 ht⟩
  · rename_i ht
    have := h.2.2.2 (by simpa using ht)
    exact ⟨⟨h.1, h.2.1, this.1⟩, this.2⟩
theorem WE_cmp {a b : Expr} {op : CmpOp} {p : Pos} {Q : V → Prop} (h : WE g k n l a fun va => WE g k n l b fun vb => Pw (cmpV g op va vb) fun c => Q (.bool c)) (hb : behindInMarks op b = false) : WE g k (n + 1) l (.Compare a [op] [b] p) Q := by
  unfold WE at h ⊢; rw [ev_cmp]; exact ⟨⟨h.1, h.2.1, h.2.2.1, hb⟩, h.2.2.2⟩
theorem WE_item {a i : Expr} {p : Pos} {Q : V → Prop} (hi : sliceP i = none) (h : WE g k n l a fun va => WE g k n l i fun vi => Pw (itemV va vi) Q) : WE g k (n + 1) l (.Subscript a i p) Q := by
  unfold WE at h ⊢
  rw [ev_item hi]
  exact ⟨⟨h.1, h.2.1, h.2.2.1⟩, h.2.2.2⟩
theorem WE_cut {a : Expr} {lo hi st : Option Expr} {p q : Pos} {Q : V → Prop} (h : WE g k n l a fun va => WO g k n l lo fun v1 => WO g k n l hi fun v2 => WO g k n l st fun v3 => Pw (cutV va v1 v2 v3) Q) : WE g k (n + 1) l (.Subscript a (.Slice lo hi st q) p) Q := by
  unfold WE at h ⊢; unfold WO at h; rw [ev_cut]; exact ⟨⟨h.1, h.2.1, h.2.2.1, h.2.2.2.1, h.2.2.2.2.1⟩, h.2.2.2.2.2⟩
theorem WE_list {es : List Expr} {p : Pos} {Q : V → Prop} (h : WEs g k n l es fun vs => vs.length ≤ lenLid ∧ Q (.list vs)) : WE g k (n + 1) l (.List es p) Q := by
  unfold WE; unfold WEs at h; rw [ev_list]; exact ⟨⟨h.1, h.2.1⟩, h.2.2⟩
theorem WE_tup {es : List Expr} {c : Nat} {p : Pos} {Q : V → Prop} (h : WEs g k n l es fun vs => vs.length ≤ lenLid ∧ Q (.tup vs)) : WE g k (n + 1) l (.Tuple es c p) Q := by
  unfold WE; unfold WEs at h; rw [ev_tup]; exact ⟨⟨h.1, h.2.1⟩, h.2.2⟩
theorem WE_meth {o : Expr} {name : Str} {ap p : Pos} {args : List Expr} {Q : V → Prop} (h : WE g k n l o fun vo => WEs g k n l args fun vs => Pw (methV g vo name vs) Q) (h1 : (ap.endLine == p.line) = true := by rfl) (h2 : BaseOk o := by exact fun _ _ _ => rfl) (h3 : args.length ≤ 3 := by decide) :
    WE g k (n + 1) l (.Call (.Attribute o name ap) args [] p) Q := by
  unfold WE at h ⊢; unfold WEs at h; rw [ev_meth]; exact ⟨⟨h.1, h.2.1, h.2.2.1, h1, h2, h3⟩, h.2.2.2⟩
theorem WE_blt {f : Str} {fp p : Pos} {args : List Expr} {Q : V → Prop} (h : WEs g k n l args fun vs => Pw (bltV f vs) Q) (hf : isBlt f = true) (h1 : l.at f = none) (h2 : kindOk k f = true) : WE g k (n + 1) l (.Call (.Name f fp) args [] p) Q := by
  unfold WE; unfold WEs at h; rw [ev_call]; unfold callW; rw [if_pos hf]; exact ⟨⟨h.1, h.2.1, h1, h2⟩, h.2.2⟩
theorem WE_fn {f : Str} {fp p : Pos} {args : List Expr} {Q : V → Prop} (h : WEs g k n l args fun vs => WF g f vs Q) (hf : isBlt f = false) (hl : (f == ("list" : Str)) = false) (h1 : l.at f = none) (h2 : kindOk k f = true) : WE g k (n + 1) l (.Call (.Name f fp) args [] p) Q := by
  unfold WE; unfold WEs WF at h
  have hl : f ≠ ("list" : Str) := by simpa using hl
  rw [ev_call]; unfold callW; rw [if_neg (by rw [hf]; decide), if_neg hl]
  exact ⟨⟨h.1, h.2.1, h1, h2⟩, h.2.2⟩
theorem WE_listRange {f r : Str} {fp rp p cp : Pos} {args : List Expr} {Q : V → Prop} (h : WI g k n l (.Call (.Name r rp) args [] cp) fun vs => Q (.list vs)) (hf : f = ("list" : Str)) (hr : r = ("range" : Str)) (h1 : l.at f = none) (h2 : kindOk k f = true) : WE g k (n + 1) l (.Call (.Name f fp) [.Call (.Name r rp) args [] cp] [] p) Q := by
  unfold WE; unfold WI at h
  subst hf hr
  exact ⟨⟨h.1, h1, h2⟩, h.2⟩
theorem split_d {P A B : Prop} [Decidable P] (h1 : P → A) (h2 : ¬ P → B) : (decide P = true → A) ∧ (decide P = false → B) := ⟨fun h => h1 (of_decide_eq_true h), fun h => h2 (of_decide_eq_false h)⟩
theorem split_e {P A B : Prop} [Decidable P] (h1 : ¬ P → A) (h2 : P → B) : (decide P = false → A) ∧ (decide P = true → B) := ⟨fun h => h1 (of_decide_eq_false h), fun h => h2 (of_decide_eq_true h)⟩
theorem split_ne {P A B : Prop} [Decidable P] (h1 : P → A) (h2 : ¬ P → B) : ((!decide P) = false → A) ∧ ((!decide P) = true → B) := ⟨fun h => h1 (by simpa using h), fun h => h2 (by simpa using h)⟩
theorem split_t {A B : Prop} (h : A) : (true = true → A) ∧ (true = false → B) := ⟨fun _ => h, fun h => nomatch h⟩
theorem split_f {A B : Prop} (h : B) : (false = true → A) ∧ (false = false → B) := ⟨fun h => (nomatch h), fun _ => h⟩
/-! tests -/
theorem WT_not {a : Expr} {p : Pos} {Q : Bool → Prop} (h : WT g k n l a fun b => Q (!b)) : WT g k (n + 1) l (.UnaryOp .Not a p) Q := by
  unfold WT at h ⊢; rw [evT_not]; exact h
theorem WT_and {es : List Expr} {p : Pos} {Q : Bool → Prop} (h : WA g k n l es Q) : WT g k (n + 1) l (.BoolOp .And es p) Q := by
  unfold WT; unfold WA at h; rw [evT_and]; exact h
theorem WT_or {es : List Expr} {p : Pos} {Q : Bool → Prop} (h : WR g k n l es Q) : WT g k (n + 1) l (.BoolOp .Or es p) Q := by
  unfold WT; unfold WR at h; rw [evT_or]; exact h
theorem WT_cmp {a b : Expr} {op : CmpOp} {p : Pos} {Q : Bool → Prop} (h : WE g k n l a fun va => WE g k n l b fun vb => Pw (cmpV g op va vb) Q) (hb : behindInMarks op b = false) : WT g k (n + 1) l (.Compare a [op] [b] p) Q := by
  unfold WT; unfold WE at h; rw [evT_cmp]; exact ⟨⟨h.1, h.2.1, h.2.2.1, hb⟩, h.2.2.2⟩
theorem WT_val {e : Expr} {Q : Bool → Prop} (h : WE g k n l e fun v => Pw (truV v) Q) (he : evT g k (n + 1) l e = ((truV (ev g k n l e).1).1, (ev g k n l e).2 ∧ (truV (ev g k n l e).1).2)) : WT g k (n + 1) l e Q := by
  unfold WT; unfold WE at h; rw [he]; exact ⟨⟨h.1, h.2.1⟩, h.2.2⟩
theorem WA_nil {Q : Bool → Prop} (h : Q true) : WA g k (n + 1) l [] Q := ⟨trivial, h⟩
theorem WA_cons {e : Expr} {r : List Expr} {Q : Bool → Prop} (h : WT g k n l e fun b => (b = true → WA g k n l r Q) ∧ (b = false → Q false)) : WA g k (n + 1) l (e :: r) Q := by
  unfold WA at h ⊢; unfold WT at h; rw [evAnd_cons]
  split
  · rename_i ht; exact ⟨⟨h.1, (h.2.1 ht).1⟩, (h.2.1 ht).2⟩
  · rename_i ht; exact ⟨h.1, h.2.2 (by simpa using ht)⟩
theorem WR_nil {Q : Bool → Prop} (h : Q false) : WR g k (n + 1) l [] Q := ⟨trivial, h⟩
theorem WR_cons {e : Expr} {r : List Expr} {Q : Bool → Prop} (h : WT g k n l e fun b => (b = false → WR g k n l r Q) ∧ (b = true → Q true)) : WR g k (n + 1) l (e :: r) Q := by
  unfold WR at h ⊢; unfold WT at h; rw [evOr_cons]
  split
  · rename_i ht; exact ⟨h.1, h.2.2 ht⟩
  · rename_i ht
    have := h.2.1 (by simpa using ht)
    exact ⟨⟨h.1, this.1⟩, this.2⟩
theorem WO_none {Q : V → Prop} (h : Q .none) : WO g k (n + 1) l none Q := ⟨trivial, h⟩
theorem WO_some {e : Expr} {Q : V → Prop} (h : WE g k n l e Q) : WO g k (n + 1) l (some e) Q := by
  unfold WO; unfold WE at h; exact h
theorem WEs_nil {Q : List V → Prop} (h : Q []) : WEs g k (n + 1) l [] Q := ⟨trivial, h⟩
theorem WEs_cons {e : Expr} {r : List Expr} {Q : List V → Prop} (h : WE g k n l e fun v => WEs g k n l r fun vs => Q (v :: vs)) (hs : ∀ x p, e ≠ .Starred x p) : WEs g k (n + 1) l (e :: r) Q := by
  unfold WEs at h ⊢; unfold WE at h
  rw [evs_cons]; exact ⟨⟨h.1, h.2.1, hs⟩, h.2.2⟩
/-! what a loop goes over -/
noncomputable def upTo (a b : Int) : List Int := rangeUp a 1 (b - a).toNat
theorem rangeUp_map (c : Int) : ∀ (m : Nat) (a : Int), rangeUp a c m = (List.range m).map fun (i : Nat) => a + i * c
  | 0, _ => rfl
  | m + 1, a => by
    rw [List.range_succ_eq_map, show rangeUp a c (m + 1) = a :: rangeUp (a + c) c m from rfl, rangeUp_map c m]
    simp only [List.map_cons, List.map_map, Int.natCast_zero, Int.zero_mul, Int.add_zero]
    congr 1
    apply List.map_congr_left
    intro i _
    simp only [Function.comp, Nat.succ_eq_add_one, Int.natCast_add, Int.natCast_one, Int.add_mul, Int.one_mul]
    lia
theorem WI_range {f : Str} {es : List Expr} {fp p : Pos} {Q : List V → Prop} (h : WEs g k n l es fun vs => Pw (rangeOf vs) Q) (hf : f = ("range" : Str)) (h1 : l.at f = none) (h2 : kindOk k f = true) : WI g k (n + 1) l (.Call (.Name f fp) es [] p) Q := by
  unfold WI; unfold WEs at h
  rw [evI_range, if_pos hf]
  exact ⟨⟨h.1, h.2.1, h1, h2⟩, h.2.2⟩
theorem WI_name {x : Str} {p : Pos} {Q : List V → Prop} (h : WE g k n l (.Name x p) fun v => Pw (itemsV v) Q) : WI g k (n + 1) l (.Name x p) Q := by
  unfold WI; unfold WE at h; rw [evI_nameX]; exact ⟨⟨fun _ _ => rfl, h.1, h.2.1⟩, h.2.2⟩
theorem WI_src {e : Expr} {Q : List V → Prop} (h : WE g k n l e fun v => Pw (itemsV v) Q) (hc : callV e = none) (hs : IsSrc e) : WI g k (n + 1) l e Q := by
  unfold WI; unfold WE at h; rw [evI_src hc]; exact ⟨⟨hs, h.1, h.2.1⟩, h.2.2⟩
theorem rng1 {Q : List V → Prop} {m : Nat} {b : Int} (hb : b = m) (hm : m ≤ lenLid) (h : Q ((List.range m).map fun (i : Nat) => V.int i)) : Pw (rangeOf [.int b]) Q := by
  subst hb
  show (True ∧ (rangeV 0 m 1).2) ∧ Q ((rangeV 0 m 1).1.map .int)
  unfold rangeV
  rw [rangeUp_map]
  unfold lenLid at *
  refine ⟨⟨trivial, by lia⟩, ?_⟩
  have e : (((m : Int) - 0 + 1 - 1).fdiv 1).toNat = m := by
    rw [Int.fdiv_one]; lia
  rw [e, List.map_map]
  have : (V.int ∘ fun (i : Nat) => (0 : Int) + i * 1) = fun (i : Nat) => V.int i := by
    funext i; simp
  rw [this]; exact h
/-! statements -/
theorem WX_ret {e : Expr} {p : Pos} {Q : Fl → Ls → Prop} (h : WE g k n l e fun v => Q (.ret v) l) : WX g k (n + 1) l (.Return (some e) p) Q := by
  unfold WX; unfold WE at h; rw [ex_ret]; exact h
theorem WX_new {x : Str} {px p : Pos} {e : Expr} {Q : Fl → Ls → Prop} (hn : isNew e = true) (hw : NewIs e) (h : WE g k n l.clean e fun v => Q .next (l.put x ⟨v, true⟩)) (h1 : k x = some .local) (h2 : nameOk x = true) (h3 : onlyOwn l x = true) (hd : dvE e = none := by rfl) : WX g k (n + 1) l (.Assign [.Name x px] e p) Q := by
  unfold WX; unfold WE at h; rw [ex_asg hd, if_pos hn]; exact ⟨⟨h.1, hw, h1, h2, h3⟩, h.2⟩
/-- one more item -/
theorem WE_dict {ks : List (Option Expr)} {vs : List Expr} {p : Pos} {Q : V → Prop} {kv : List (List Nat × Int)} (h : constPairs ks vs = some kv) (hl : (decide (kv.length = 17) && decide (kv.map (·.1)).Nodup) = true) (hq : Q (.dict kv)) : WE g k (n + 1) l (.Dict ks vs p) Q := by
  unfold WE; rw [ev_dict, h]
  rw [Bool.and_eq_true, decide_eq_true_eq, decide_eq_true_eq] at hl
  exact ⟨.inl hl, hq⟩
/-- a value without parts -/
theorem WX_atom {x : Str} {px p : Pos} {e : Expr} {Q : Fl → Ls → Prop} (hn : isNew e = false) (h : WE g k n l e fun v => isAtom v = true ∧ Q .next (l.put x ⟨v, false⟩)) (h1 : storable k x = true) (hd : dvE e = none := by rfl) : WX g k (n + 1) l (.Assign [.Name x px] e p) Q := by
  unfold WX; unfold WE at h
  have e1 : evS g k n l e = ev g k n l e := if_pos h.2.1
  rw [ex_asg hd, if_neg (by rw [hn]; decide), e1]; exact ⟨⟨h.1, h1⟩, h.2.2⟩
/-- where nothing is written to -/
theorem WX_clean {x : Str} {px p : Pos} {e : Expr} {Q : Fl → Ls → Prop} (hn : isNew e = false) (hc : l.clean = l) (h : WE g k n l e fun v => Q .next (l.put x ⟨v, false⟩)) (h1 : storable k x = true) (hd : dvE e = none := by rfl) : WX g k (n + 1) l (.Assign [.Name x px] e p) Q := by
  unfold WX; unfold WE at h
  have e1 : evS g k n l e = ev g k n l e := by
    unfold evS
    rw [hc]
    exact ite_self _
  rw [ex_asg hd, if_neg (by rw [hn]; decide), e1]; exact ⟨⟨h.1, h1⟩, h.2⟩
theorem WX_two {x y : Str} {px py p : Pos} {e : Expr} {Q : Fl → Ls → Prop} (h : WE g k n l e fun v => isAtom v = true ∧ Q .next ((l.put x ⟨v, false⟩).put y ⟨v, false⟩)) (h1 : storable k x = true) (h2 : storable k y = true) : WX g k (n + 1) l (.Assign [.Name x px, .Name y py] e p) Q := by
  unfold WX; unfold WE at h; rw [ex_asg2]; exact ⟨⟨h.1, h.2.1, h1, h2⟩, h.2.2⟩
theorem WX_tup {x y : Str} {px py tp p : Pos} {c : Nat} {e : Expr} {Q : Fl → Ls → Prop} (h : WE g k n l e fun v => ∃ a b, v = .tup [a, b] ∧ isAtom a = true ∧ isAtom b = true ∧ Q .next ((l.put x ⟨a, false⟩).put y ⟨b, false⟩)) (hc : constTup e = false) (h1 : storable k x = true) (h2 : storable k y = true) (hxy : x ≠ y) :
    WX g k (n + 1) l (.Assign [.Tuple [.Name x px, .Name y py] c tp] e p) Q := by
  unfold WX; unfold WE at h; rw [ex_tup0]
  obtain ⟨h0, a, b, e1, ha, hb, hq⟩ := h
  unfold tupW
  rw [e1]
  exact ⟨⟨h0, rfl, hc, ha, hb, h1, h2, hxy⟩, hq⟩
theorem WX_set {x : Str} {xp ip p : Pos} {i e : Expr} {Q : Fl → Ls → Prop} {xs : List V} (hx : l.at x = some (.list xs)) (ho : l.loc x = some ⟨.list xs, true⟩) (h : WE g k n l e fun v => WE g k n l i fun j => ∃ m : Int, j = .int m ∧ isAtom v = true ∧ 0 ≤ m ∧ m < xs.length ∧ xs.length ≤ lenLid ∧ Q .next (l.put x ⟨.list (xs.set m.toNat v), true⟩)) :
    WX g k (n + 1) l (.Assign [.Subscript (.Name x xp) i ip] e p) Q := by
  unfold WX; unfold WE at h; rw [ex_set0]
  unfold setW
  obtain ⟨h0, h1, m, e1, ha, hb, hq, hr, hs⟩ := h
  rw [ho, e1]
  exact ⟨⟨h0, h1, .inl ⟨xs, m, rfl, rfl, ha, hb, hq, hr⟩⟩, hs⟩
theorem WX_aug {x : Str} {xp p : Pos} {op : Operator} {e : Expr} {a : V} {Q : Fl → Ls → Prop} (hx : l.at x = some a) (h : WE g k n l e fun v => AugOk op a v ∧ Pw (binV op a v) fun r => Q .next (l.put x ⟨r, false⟩)) (h1 : storable k x = true) : WX g k (n + 1) l (.AugAssign (.Name x xp) op e p) Q := by
  unfold WX; unfold WE at h; rw [ex_aug0, ev_nameL hx]; exact ⟨⟨by rw [hx]; rfl, h.1, h.2.2.1, h.2.1, h1⟩, h.2.2.2⟩
theorem WX_if {t : Expr} {a b : List Stmt} {p : Pos} {Q : Fl → Ls → Prop} (h : WT g k n l t fun c => (c = true → WXs g k n l a Q) ∧ (c = false → WXs g k n l b Q)) : WX g k (n + 1) l (.If t a b p) Q := by
  unfold WX; unfold WT WXs at h; rw [ex_if0]
  split
  · rename_i ht; exact ⟨⟨h.1, (h.2.1 ht).1⟩, (h.2.1 ht).2⟩
  · rename_i ht
    have := h.2.2 (by simpa using ht)
    exact ⟨⟨h.1, this.1⟩, this.2⟩
theorem WXs_nil {Q : Fl → Ls → Prop} (h : Q .next l) : WXs g k (n + 1) l [] Q := ⟨trivial, h⟩
/-- behind a statement -/
noncomputable def Then (g : Cfg) (k : Kd) (n : Nat) (r : List Stmt) (Q : Fl → Ls → Prop) : Fl → Ls → Prop := fun f l' => match f with
  | .next => WXs g k n l' r Q
  | .ret v => Q (.ret v) l'
theorem at_hit {x : Str} {u : Loc} {r : Ls} : Ls.at ((x, u) :: r) x = some u.v := if_pos rfl
theorem at_miss {x y : Str} {u : Loc} {r : Ls} {o : Option V} (h : (y == x) = false) (e : Ls.at r x = o) : Ls.at ((y, u) :: r) x = o := by
  rw [← e]; exact if_neg (by simpa using h)
theorem at_put_hit {x : Str} {u : Loc} {r : Ls} : Ls.at (r.put x u) x = some u.v := by rw [at_put, if_pos rfl]
theorem at_put_miss {x y : Str} {u : Loc} {r : Ls} {o : Option V} (h : (x == y) = false) (e : Ls.at r x = o) : Ls.at (r.put y u) x = o := by
  rw [at_put, if_neg (by simpa using h)]; exact e
/-- names of these alone -/
noncomputable def Only (ns : List Str) (j : Ls) : Prop := ∀ x, ns.contains x = false → j.at x = none
theorem only_nil {ns : List Str} : Only ns [] := fun _ _ => rfl
theorem only_put {ns : List Str} {j : Ls} {x : Str} {u : Loc} (h : Only ns j) (hx : ns.contains x = true) : Only ns (j.put x u) := fun y hy => by
  rw [at_put]
  by_cases e : y = x
  · subst e; rw [hx] at hy; cases hy
  · rw [if_neg e]; exact h y hy
theorem at_only {ns : List Str} {j : Ls} {x : Str} (h : Only ns j) (hx : ns.contains x = false) : j.at x = none := h x hx
theorem put_nil {x : Str} {v : Loc} : Ls.put [] x v = [(x, v)] := rfl
theorem put_hit {x : Str} {v u : Loc} {r : Ls} : Ls.put ((x, u) :: r) x v = (x, v) :: r := if_pos rfl
theorem put_miss {x y : Str} {v u : Loc} {r r' : Ls} (h : (y == x) = false) (e : Ls.put r x v = r') : Ls.put ((y, u) :: r) x v = (y, u) :: r' := by
  rw [← e]; exact if_neg (by simpa using h)
theorem then_put {l l' : Ls} {x : Str} {u : Loc} {r : List Stmt} {Q : Fl → Ls → Prop} (hp : l.put x u = l') (h : WXs g k n l' r Q) : Then g k n r Q .next (l.put x u) := by subst hp; exact h
theorem wxs_put {l l' : Ls} {x : Str} {u : Loc} {r : List Stmt} {Q : Fl → Ls → Prop} (hp : l.put x u = l') (h : WXs g k n l' r Q) : WXs g k n (l.put x u) r Q := by subst hp; exact h
theorem range_item {m i : Nat} {v : V} (h : ((List.range m).map fun (i : Nat) => V.int i)[i]? = some v) : i < m ∧ v = .int i := by
  by_cases hi : i < m
  · simp [hi] at h
    exact ⟨hi, h.symm⟩
  · simp [hi] at h
theorem then_put2 {l l' l'' : Ls} {x y : Str} {u v : Loc} {r : List Stmt} {Q : Fl → Ls → Prop} (hp : l.put x u = l') (hp2 : l'.put y v = l'') (h : WXs g k n l'' r Q) : Then g k n r Q .next ((l.put x u).put y v) := by subst hp hp2; exact h
theorem then_next {r : List Stmt} {Q : Fl → Ls → Prop} (h : WXs g k n l r Q) : Then g k n r Q .next l := h
theorem then_ret {r : List Stmt} {Q : Fl → Ls → Prop} {v : V} (h : Q (.ret v) l) : Then g k n r Q (.ret v) l := h
theorem WXs_cons {s : Stmt} {r : List Stmt} {Q : Fl → Ls → Prop} (h : WX g k n l s (Then g k n r Q)) : WXs g k (n + 1) l (s :: r) Q := by
  unfold WXs; unfold WX Then at h; rw [exs_cons]
  revert h
  generalize ex g k n l s = q
  obtain ⟨f, l', c⟩ := q
  cases f with
  | next => exact fun h => And.intro (And.intro h.1 h.2.1) h.2.2
  | ret v => exact fun h => h
/-- a loop by what holds at its turns -/
theorem loop_inv {F : Ls → V → Fl × Ls × Prop} {Q : Fl → Ls → Prop} (I : Nat → Ls → Prop) {vs : List V} (turn : ∀ i v l, vs[i]? = some v → I i l → (F l v).2.2 ∧ match (F l v).1 with | .next => I (i + 1) (F l v).2.1 | .ret u => Q (.ret u) (F l v).2.1) (done : ∀ l, I vs.length l → Q .next l) :
    ∀ (m : Nat) (l : Ls), m ≤ vs.length → I m l → (loopV F l (vs.drop m)).2.2 ∧ Q (loopV F l (vs.drop m)).1 (loopV F l (vs.drop m)).2.1 := by
  have key : ∀ (j m : Nat) (l : Ls), vs.length - m = j → m ≤ vs.length → I m l → (loopV F l (vs.drop m)).2.2 ∧ Q (loopV F l (vs.drop m)).1 (loopV F l (vs.drop m)).2.1 := by
    intro j
    induction j with
    | zero =>
      intro m l hj hm hI
      obtain rfl : m = vs.length := by omega
      rw [List.drop_length]
      exact ⟨trivial, done l hI⟩
    | succ j ih =>
      intro m l hj hm hI
      have hlt : m < vs.length := by omega
      rw [List.drop_eq_getElem_cons hlt]
      have t := turn m vs[m] l (List.getElem?_eq_getElem hlt) hI
      have nx := ih (m + 1) (F l vs[m]).2.1 (by omega) (by omega)
      rw [loopV_cons]
      revert t nx
      generalize F l vs[m] = q
      obtain ⟨f, l', c⟩ := q
      cases f with
      | next =>
        intro t nx
        have := nx t.2
        exact And.intro (And.intro t.1 this.1) this.2
      | ret u => exact fun t _ => t
  exact fun m l hm hI => key _ m l rfl hm hI
/-- behind a turn -/
noncomputable def Turn (J : Ls → Prop) (Q : Fl → Ls → Prop) : Fl → Ls → Prop := fun f l => match f with
  | .next => J l
  | .ret u => Q (.ret u) l
theorem turn_next {J : Ls → Prop} {Q : Fl → Ls → Prop} (h : J l) : Turn J Q .next l := h
theorem turn_ret {J : Ls → Prop} {Q : Fl → Ls → Prop} {u : V} (h : Q (.ret u) l) : Turn J Q (.ret u) l := h
theorem WX_for {x : Str} {px p : Pos} {it : Expr} {body : List Stmt} {Q : Fl → Ls → Prop} (I : Nat → Ls → Prop)
    (h : WI g k n l.clean it fun vs => I 0 l ∧ (∀ i v l', vs[i]? = some v → I i l' → isAtom v = true ∧ WXs g k n (l'.put x ⟨v, false⟩) body (Turn (I (i + 1)) Q)) ∧ ∀ l', I vs.length l' → Q .next l') (h1 : storable k x = true) :
    WX g k (n + 1) l (.For (.Name x px) it body [] p) Q := by
  unfold WX; unfold WI at h; rw [ex_for0]
  obtain ⟨hq, h0, turn, done⟩ := h
  have := loop_inv (F := fun l v => ((exs g k n (l.put x ⟨v, false⟩) body).1, (exs g k n (l.put x ⟨v, false⟩) body).2.1, (exs g k n (l.put x ⟨v, false⟩) body).2.2 ∧ isAtom v = true)) (Q := Q) I (vs := (evI g k n l.clean it).1) (fun i v l' e hI => by
    obtain ⟨ha, hb⟩ := turn i v l' e hI
    exact ⟨⟨hb.1, ha⟩, hb.2⟩) done 0 l (Nat.zero_le _) h0
  rw [List.drop_zero] at this
  exact ⟨⟨hq, this.1, h1⟩, this.2⟩
theorem WX_while {t : Expr} {body : List Stmt} {p : Pos} {Q : Fl → Ls → Prop} (I : Nat → Ls → Prop) (m : Nat) (hm : m < 100000) (h0 : I m l)
    (turn : ∀ i l', I i l' → WT g k n l' t fun b => (b = true → ∃ j, i = j + 1 ∧ WXs g k n l' body (Turn (fun l2 => ∃ i', i' ≤ j ∧ I i' l2) Q)) ∧ (b = false → Q .next l')) : WX g k (n + 1) l (.While t body [] p) Q := by
  unfold WX; rw [ex_while0]
  have key : ∀ (c i : Nat) (l' : Ls), i < c → I i l' → (whileV (fun l => evT g k n l t) (fun l => exs g k n l body) c l').2.2 ∧ Q (whileV (fun l => evT g k n l t) (fun l => exs g k n l body) c l').1 (whileV (fun l => evT g k n l t) (fun l => exs g k n l body) c l').2.1 := by
    intro c
    induction c with
    | zero => intro i l' h; lia
    | succ c ih =>
      intro i l' hi hI
      have T := turn i l' hI
      unfold WT at T
      rw [whileV_succ]
      split
      · rename_i ht
        obtain ⟨j, hj, hb⟩ := T.2.1 ht
        unfold WXs Turn at hb
        revert hb
        generalize exs g k n l' body = q
        obtain ⟨f, l2, cc⟩ := q
        cases f with
        | next =>
          rintro ⟨hb, i', hi', hI'⟩
          have := ih i' l2 (by lia) hI'
          exact And.intro (And.intro T.1 (And.intro hb this.1)) this.2
        | ret u => exact fun hb => And.intro (And.intro T.1 hb.1) hb.2
      · rename_i ht
        exact ⟨T.1, T.2.2 (by simpa using ht)⟩
  exact key 100000 m l hm h0
theorem WX_whileR {t : Expr} {body : List Stmt} {p : Pos} {Q : Fl → Ls → Prop} (I : Nat → Ls → Prop) (R : Ls → Prop) (m : Nat) (hm : m < 100000) (h0 : I m l)
    (turn : ∀ i l', I i l' → WT g k n l' t fun b => (b = true → ∃ j, i = j + 1 ∧ WXs g k n l' body (Turn (fun l2 => ∃ i', i' ≤ j ∧ I i' l2) Q)) ∧ (b = false → R l')) (rest : ∀ l', R l' → Q .next l') : WX g k (n + 1) l (.While t body [] p) Q :=
  WX_while I m hm h0 fun i l' hI => (turn i l' hI).mono fun b h => ⟨h.1, fun e => rest _ (h.2 e)⟩
theorem WX_ifR {t : Expr} {a b : List Stmt} {p : Pos} {Q : Fl → Ls → Prop} (R : Ls → Prop) (h : WT g k n l t fun c => (c = true → WXs g k n l a (Turn R Q)) ∧ (c = false → WXs g k n l b (Turn R Q))) (rest : ∀ l', R l' → Q .next l') : WX g k (n + 1) l (.If t a b p) Q := by
  have up : ∀ f l', Turn R Q f l' → Q f l' := fun f l' q => by
    cases f with
    | next => exact rest _ q
    | ret v => exact q
  exact WX_if (h.mono fun c q => ⟨fun e => (q.1 e).mono up, fun e => (q.2 e).mono up⟩)
theorem WX_forC {x : Str} {px p : Pos} {it : Expr} {body : List Stmt} {Q : Fl → Ls → Prop} {lc : Ls} (I : Nat → Ls → Prop) (hc : l.clean = lc)
    (h : WI g k n lc it fun vs => I 0 l ∧ (∀ i v l', vs[i]? = some v → I i l' → isAtom v = true ∧ WXs g k n (l'.put x ⟨v, false⟩) body (Turn (I (i + 1)) Q)) ∧ ∀ l', I vs.length l' → Q .next l') (h1 : storable k x = true) :
    WX g k (n + 1) l (.For (.Name x px) it body [] p) Q := by subst hc; exact WX_for I h h1
theorem WX_newC {x : Str} {px p : Pos} {e : Expr} {Q : Fl → Ls → Prop} {lc : Ls} (hn : isNew e = true) (hw : NewIs e) (hc : l.clean = lc) (h : WE g k n lc e fun v => Q .next (l.put x ⟨v, true⟩)) (h1 : k x = some .local) (h2 : nameOk x = true) (h3 : onlyOwn l x = true) (hd : dvE e = none := by rfl) : WX g k (n + 1) l (.Assign [.Name x px] e p) Q := by
  subst hc; exact WX_new hn hw h h1 h2 h3 hd
theorem clean_plain {x : Str} {v : V} {r r' : Ls} (e : Ls.clean r = r') : Ls.clean ((x, ⟨v, false⟩) :: r) = (x, ⟨v, false⟩) :: r' := by rw [← e]; rfl
theorem clean_own {x : Str} {v : V} {r r' : Ls} (e : Ls.clean r = r') : Ls.clean ((x, ⟨v, true⟩) :: r) = r' := by rw [← e]; rfl
theorem at_clean_none {j : Ls} {x : Str} (hj : j.at x = none) : j.clean.at x = none := by
  induction j with
  | nil => rfl
  | cons p r ih =>
    obtain ⟨y, u⟩ := p
    simp only [Ls.at] at hj
    by_cases e : y = x
    · rw [if_pos e] at hj; cases hj
    · rw [if_neg e] at hj
      unfold Ls.clean at ih ⊢
      rw [List.filter_cons]
      split
      · simp only [Ls.at]
        rw [if_neg e]; exact ih hj
      · exact ih hj
/-! calls -/
noncomputable def Post (Q : V → Prop) : Fl → Ls → Prop := fun f _ => ∃ v, f = .ret v ∧ Q v
theorem WF_of {D : Dat0} {fs : List FnT} {m : Nat} {f : Str} {args : List V} {Q : V → Prop} (t : FnT) (ls : Ls) (hf : fs.find? (fun t => t.name == f) = some t) (hl : args.length = t.params.length) (hs : startLs t.params args = ls)
    (h : WXs (CC D fs m) (fun x => t.scope.names.lookup x) 200 ls t.body (Post Q)) : WF (CC D fs (m + 1)) f args Q := by
  subst hs
  unfold WXs Post at h
  show (runFn (CC D fs m) fs f args).2 ∧ Q (runFn (CC D fs m) fs f args).1
  unfold runFn
  rw [hf]
  dsimp only
  rw [if_pos hl]
  revert h
  generalize exs (CC D fs m) (fun x => t.scope.names.lookup x) 200 (startLs t.params args) t.body = q
  obtain ⟨fl, l', c⟩ := q
  rintro ⟨h1, v, rfl, h2⟩
  exact ⟨h1, h2⟩
theorem post_ret {Q : V → Prop} {v : V} {l : Ls} (h : Q v) : Post Q (.ret v) l := ⟨v, rfl, h⟩
theorem WE_globC {D : Dat0} {fs : List FnT} {m : Nat} {x : Str} {p : Pos} {v : V} {Q : V → Prop} (e : l.at x = none) (e2 : D.gl x = some v) (hk : kindOk k x = true) (h : Q v) : WE (CC D fs m) k (n + 1) l (.Name x p) Q :=
  WE_glob e (by rw [CC_gl]; exact e2) hk h
/-! comprehensions -/
theorem capt_keep {k : Kd} {x : Str} {u : Loc} {r r' : Ls} (h : (k x == some .cell || k x == some .free) = true) (e : Ls.capt r k = r') : Ls.capt ((x, u) :: r) k = (x, u) :: r' := by
  subst e
  unfold Ls.capt
  rw [List.filter_cons, if_pos h]
theorem we_put {l l' : Ls} {x : Str} {u : Loc} {e : Expr} {Q : V → Prop} (hp : l.put x u = l') (h : WE g k n l' e Q) : WE g k n (l.put x u) e Q := by subst hp; exact h
theorem WE_comp {α : Type} {elt it : Expr} {x : Str} {px p : Pos} {scope : Scope} {lc : Ls} {Q : V → Prop} (φ : α → V) (L : List α) (F : α → V) (hc : l.capt (inKind k scope) = lc)
    (h : WI g k n l it fun vs => vs = L.map φ ∧ L.length ≤ lenLid ∧ (∀ a ∈ L, WE g (inKind k scope) n (lc.put x ⟨φ a, false⟩) elt fun r => r = F a) ∧ Q (.list (L.map F)))
    (hx : targetOk scope x = true) (hn : nameOk x = true) (hs : Mine.ev.scopeOk k l scope x = true) : WE g k (n + 1) l (.ListComp elt [⟨.Name x px, it, [], 0⟩] scope p) Q := by
  subst hc
  unfold WE WI at *; rw [ev_comp0]
  obtain ⟨hq, e, hl, he, hQ⟩ := h
  rw [e]
  refine ⟨⟨⟨_, rfl⟩, hq, ⟨hx, hn⟩, hs, by simpa using hl, ?_⟩, ?_⟩
  · intro v hv
    obtain ⟨a, ha, rfl⟩ := List.mem_map.mp hv
    exact (he a ha).1
  · rw [List.map_map]
    have : List.map ((fun v => (ev g (inKind k scope) n ((l.capt (inKind k scope)).put x ⟨v, false⟩) elt).1) ∘ φ) L = L.map F := List.map_congr_left fun a ha => (he a ha).2
    rw [this]; exact hQ
theorem WE_compIf {α : Type} {elt it t : Expr} {x : Str} {px p : Pos} {scope : Scope} {lc : Ls} {Q : V → Prop} (φ : α → V) (L : List α) (F : α → V) (T : α → Bool) (hc : l.capt (inKind k scope) = lc)
    (h : WI g k n l it fun vs => vs = L.map φ ∧ L.length ≤ lenLid ∧ (∀ a ∈ L, WT g (inKind k scope) n (lc.put x ⟨φ a, false⟩) t fun b => b = T a) ∧ (∀ a ∈ L, T a = true → WE g (inKind k scope) n (lc.put x ⟨φ a, false⟩) elt fun r => r = F a) ∧ Q (.list ((L.filter T).map F)))
    (hx : targetOk scope x = true) (hn : nameOk x = true) (hs : Mine.ev.scopeOk k l scope x = true) : WE g k (n + 1) l (.ListComp elt [⟨.Name x px, it, [t], 0⟩] scope p) Q := by
  subst hc
  unfold WE WI WT at *; rw [ev_comp1]
  obtain ⟨hq, e, hl, ht, he, hQ⟩ := h
  rw [e]
  refine ⟨⟨⟨_, rfl⟩, hq, ⟨hx, hn⟩, hs, by simpa using hl, ?_⟩, ?_⟩
  · intro v hv
    obtain ⟨a, ha, rfl⟩ := List.mem_map.mp hv
    exact ⟨(ht a ha).1, fun q => (he a ha (by rw [← (ht a ha).2]; exact q)).1⟩
  · have e1 : List.filter (fun v => (evT g (inKind k scope) n ((l.capt (inKind k scope)).put x ⟨v, false⟩) t).1) (L.map φ) = (L.filter T).map φ := by
      rw [List.filter_map]
      congr 1
      apply List.filter_congr
      intro a ha
      exact (ht a ha).2
    rw [e1, List.map_map]
    have : List.map ((fun v => (ev g (inKind k scope) n ((l.capt (inKind k scope)).put x ⟨v, false⟩) elt).1) ∘ φ) (L.filter T) = (L.filter T).map F := List.map_congr_left fun a ha => by
      obtain ⟨h1, h2⟩ := List.mem_filter.mp ha
      exact (he a h1 h2).2
    rw [this]; exact hQ
/-- over range(m), m a number -/
theorem WE_compR {elt e : Expr} {x f : Str} {px p fp rp : Pos} {scope : Scope} {lc : Ls} {Q : V → Prop} (m : Nat) (F : Nat → V) (hc : l.capt (inKind k scope) = lc) (hm : m ≤ lenLid) (hf : f = ("range" : Str)) (h1 : l.at f = none) (h2 : kindOk k f = true)
    (hx : targetOk scope x = true) (hn : nameOk x = true) (hs : Mine.ev.scopeOk k l scope x = true) (hes : ∀ x p, e ≠ .Starred x p)
    (he : WE g k (n + 1) l e fun v => v = .int m)
    (hE : ∀ i < m, WE g (inKind k scope) (n + 1 + 1 + 1) (lc.put x ⟨.int i, false⟩) elt fun r => r = F i) (hQ : Q (.list ((List.range m).map F))) : WE g k (n + 1 + 1 + 1 + 1) l (.ListComp elt [⟨.Name x px, .Call (.Name f fp) [e] [] rp, [], 0⟩] scope p) Q := by
  refine WE_comp (fun (i : Nat) => V.int i) (List.range m) F hc ?_ hx hn hs
  refine WI_range ?_ hf h1 h2
  refine WEs_cons (he.mono fun v hv => ?_) hes
  subst hv
  refine WEs_nil (rng1 rfl hm ⟨rfl, by simpa using hm, fun a ha => hE a (List.mem_range.mp ha), hQ⟩)
end Mine
namespace Mine
open PySem PySem.W PyProof.Rows PySem.Calls
/-! the steps on values -/
section
variable {Q : V → Prop} {g : Cfg}
theorem b_add {a b : Int} (h : Q (.int (a + b))) : Pw (binV .Add (.int a) (.int b)) Q := ⟨trivial, h⟩
theorem b_sub {a b : Int} (h : Q (.int (a - b))) : Pw (binV .Sub (.int a) (.int b)) Q := ⟨trivial, h⟩
theorem b_mul {a b : Int} (hm : a.natAbs < 2 ^ 64 ∨ b.natAbs < 2 ^ 64) (h : Q (.int (a * b))) : Pw (binV .Mult (.int a) (.int b)) Q := ⟨hm, h⟩
theorem b_div {a b : Int} (hm : b ≠ 0 ∧ b.natAbs < 1073741824) (h : Q (.int (a.fdiv b))) : Pw (binV .FloorDiv (.int a) (.int b)) Q := ⟨hm, h⟩
theorem b_mod {a b : Int} (hm : b ≠ 0) (h : Q (.int (a.fmod b))) : Pw (binV .Mod (.int a) (.int b)) Q := ⟨hm, h⟩
/-- by a positive number -/
theorem b_divp {a b : Int} (hm : 0 < b ∧ b < 1073741824) (h : Q (.int (a / b))) : Pw (binV .FloorDiv (.int a) (.int b)) Q :=
  b_div ⟨by omega, by omega⟩ (by rw [Int.fdiv_eq_ediv_of_nonneg _ (by omega)]; exact h)
theorem b_modp {a b : Int} (hm : 0 < b) (h : Q (.int (a % b))) : Pw (binV .Mod (.int a) (.int b)) Q :=
  b_mod (by omega) (by rw [Int.fmod_eq_emod_of_nonneg _ (by omega)]; exact h)
theorem b_pow {a b : Int} (hm : 0 ≤ b ∧ b ≤ 1000 ∧ a.natAbs < 2 ^ 64) (h : Q (.int (a ^ b.toNat))) : Pw (binV .Pow (.int a) (.int b)) Q := ⟨hm, h⟩
theorem b_cat {a b : List Nat} (hm : a.length + b.length ≤ lenLid) (h : Q (.str (a ++ b))) : Pw (binV .Add (.str a) (.str b)) Q := ⟨hm, h⟩
theorem b_rep {a : List Nat} {b : Int} (hm : a.length ≤ 100 ∧ b ≤ 100 ∧ -100 ≤ b) (h : Q (.str (repStr a b.toNat))) : Pw (binV .Mult (.str a) (.int b)) Q := ⟨hm, h⟩
theorem b_catB {a b : List UInt8} (hm : a.length + b.length ≤ lenLid) (h : Q (.bytes (a ++ b))) : Pw (binV .Add (.bytes a) (.bytes b)) Q := ⟨hm, h⟩
end
section
variable {Q : Bool → Prop} {g : Cfg}
theorem c_eqI {a b : Int} (h : Q (decide (a = b))) : Pw (cmpV g .Eq (.int a) (.int b)) Q := ⟨trivial, h⟩
theorem c_neI {a b : Int} (h : Q (decide (a ≠ b))) : Pw (cmpV g .NotEq (.int a) (.int b)) Q := ⟨trivial, h⟩
theorem c_ltI {a b : Int} (h : Q (decide (a < b))) : Pw (cmpV g .Lt (.int a) (.int b)) Q := ⟨trivial, h⟩
theorem c_gtI {a b : Int} (h : Q (decide (b < a))) : Pw (cmpV g .Gt (.int a) (.int b)) Q := ⟨trivial, h⟩
theorem c_eqS {a b : List Nat} (h : Q (decide (a = b))) : Pw (cmpV g .Eq (.str a) (.str b)) Q := ⟨trivial, h⟩
theorem c_neS {a b : List Nat} (h : Q (decide (a ≠ b))) : Pw (cmpV g .NotEq (.str a) (.str b)) Q := ⟨trivial, h⟩
theorem c_inn {v : V} (hv : (v = .none ∧ Q false) ∨ ((∃ x, v = .str x) ∧ Q true)) : Pw (cmpV g .IsNot v .none) Q := by
  rcases hv with ⟨rfl, h⟩ | ⟨⟨x, rfl⟩, h⟩
  · exact ⟨trivial, h⟩
  · exact ⟨trivial, h⟩
theorem c_in {a : Int} {w : Value} (hm : (g.mem w a).2) (h : Q (g.mem w a).1) : Pw (cmpV g .In (.int a) (.val w)) Q := ⟨hm, h⟩
theorem c_inD {a : List Nat} {kv : List (List Nat × Int)} (h : Q (kv.lookup a).isSome) : Pw (cmpV g .In (.str a) (.dict kv)) Q := ⟨trivial, h⟩
theorem c_inC {D : Dat0} {fs : List FnT} {m : Nat} {a : Int} {w : Value} (hm : (D.mem w a).2) (h : Q (D.mem w a).1) : Pw (cmpV (CC D fs m) .In (.int a) (.val w)) Q :=
  c_in (by rw [CC_mem]; exact hm) (by rw [CC_mem]; exact h)
theorem intsV_map : ∀ (xs : List Int), intsV (xs.map .int) = (xs, True)
  | [] => rfl
  | x :: r => by
    show (x :: (intsV (r.map .int)).1, (intsV (r.map .int)).2) = _
    rw [intsV_map r]
theorem strsV_map : ∀ (xs : List (List Nat)), strsV (xs.map .str) = (xs, True)
  | [] => rfl
  | x :: r => by
    show (x :: (strsV (r.map .str)).1, (strsV (r.map .str)).2) = _
    rw [strsV_map r]
theorem it_str {Q : List V → Prop} {xs : List Nat} (hl : xs.length ≤ lenLid) (h : Q (xs.map fun c => V.str [c])) : Pw (itemsV (.str xs)) Q := ⟨hl, h⟩
theorem it_list {Q : List V → Prop} {xs : List V} (hl : xs.length ≤ lenLid) (h : Q xs) : Pw (itemsV (.list xs)) Q := ⟨hl, h⟩
theorem rng3 {Q : List V → Prop} {m : Nat} {a b c : Int} (hc : 0 < c ∧ c ≤ 1000) (ha : -lenLid ≤ a ∧ a ≤ lenLid ∧ b ≤ lenLid ∧ -lenLid ≤ b) (hm : (b - a + c - 1) / c = m) (h : Q ((List.range m).map fun (i : Nat) => V.int (a + i * c))) : Pw (rangeOf [.int a, .int b, .int c]) Q := by
  show (True ∧ (rangeV a b c).2) ∧ Q ((rangeV a b c).1.map .int)
  unfold rangeV
  rw [rangeUp_map]
  refine ⟨⟨trivial, hc.1, hc.2, ha⟩, ?_⟩
  have e : ((b - a + c - 1).fdiv c).toNat = m := by
    rw [Int.fdiv_eq_ediv_of_nonneg _ (by lia), hm]; rfl
  rw [e, List.map_map]
  exact h
theorem t_bool {b : Bool} (h : Q b) : Pw (truV (.bool b)) Q := ⟨trivial, h⟩
theorem t_int {b : Int} (h : Q (decide (b ≠ 0))) : Pw (truV (.int b)) Q := ⟨trivial, h⟩
theorem t_str {b : List Nat} (hl : b.length ≤ lenLid) (h : Q (decide (0 < b.length))) : Pw (truV (.str b)) Q := ⟨hl, h⟩
end
section
variable {Q : V → Prop} {g : Cfg}
theorem i_list {xs : List V} {i : Int} (h0 : 0 ≤ i) (h1 : i < xs.length) (hl : xs.length ≤ lenLid) (h : Q (xs.getD i.toNat .none)) : Pw (itemV (.list xs) (.int i)) Q := by
  unfold itemV seqAt
  dsimp only
  rw [if_neg (by lia)]
  exact ⟨⟨by lia, h1, hl⟩, h⟩
theorem i_str {xs : List Nat} {i : Int} (h0 : 0 ≤ i) (h1 : i < xs.length) (hl : xs.length ≤ lenLid) (h : Q (.str [xs.getD i.toNat 0])) : Pw (itemV (.str xs) (.int i)) Q := by
  unfold itemV seqAt
  dsimp only
  rw [if_neg (by lia)]
  exact ⟨⟨by lia, h1, hl⟩, h⟩
theorem i_strn {xs : List Nat} {i : Int} (h0 : i < 0) (h1 : -(xs.length : Int) ≤ i) (hl : xs.length ≤ lenLid) (h : Q (.str [xs.getD (i + xs.length).toNat 0])) : Pw (itemV (.str xs) (.int i)) Q := by
  unfold itemV seqAt
  dsimp only
  rw [if_pos h0]
  exact ⟨⟨h1, by lia, hl⟩, h⟩
theorem i_ints {xs : List Int} {i : Int} (h0 : 0 ≤ i) (h1 : i < xs.length) (hl : xs.length ≤ lenLid) (h : Q (.int (xs.getD i.toNat 0))) : Pw (itemV (.list (xs.map .int)) (.int i)) Q := by
  refine i_list h0 (by simpa using h1) (by simpa using hl) ?_
  have : i.toNat < xs.length := by lia
  rw [List.getD_eq_getElem?_getD, List.getElem?_map, List.getElem?_eq_getElem this]
  rw [List.getD_eq_getElem?_getD, List.getElem?_eq_getElem this] at h
  exact h
theorem i_strs {xs : List (List Nat)} {i : Int} (h0 : 0 ≤ i) (h1 : i < xs.length) (hl : xs.length ≤ lenLid) (h : Q (.str (xs.getD i.toNat []))) : Pw (itemV (.list (xs.map .str)) (.int i)) Q := by
  refine i_list h0 (by simpa using h1) (by simpa using hl) ?_
  have : i.toNat < xs.length := by lia
  rw [List.getD_eq_getElem?_getD, List.getElem?_map, List.getElem?_eq_getElem this]
  rw [List.getD_eq_getElem?_getD, List.getElem?_eq_getElem this] at h
  exact h
theorem i_nats {xs : List Nat} {i : Int} (h0 : 0 ≤ i) (h1 : i < xs.length) (hl : xs.length ≤ lenLid) (h : Q (.int (xs.getD i.toNat 0 : Nat))) : Pw (itemV (.list (xs.map fun (x : Nat) => V.int x)) (.int i)) Q := by
  refine i_list h0 (by simpa using h1) (by simpa using hl) ?_
  have : i.toNat < xs.length := by omega
  rw [List.getD_eq_getElem?_getD, List.getElem?_map, List.getElem?_eq_getElem this]
  rw [List.getD_eq_getElem?_getD, List.getElem?_eq_getElem this] at h
  exact h
theorem i_dict {kv : List (List Nat × Int)} {x : List Nat} {i : Int} (hi : kv.lookup x = some i) (h : Q (.int i)) : Pw (itemV (.dict kv) (.str x)) Q := by
  have e : itemV (.dict kv) (.str x) = (.int ((kv.lookup x).getD 0), (kv.lookup x).isSome = true) := rfl
  rw [e, hi]; exact ⟨rfl, h⟩
theorem clip_pos {n d : Nat} {i : Int} (h : 0 ≤ i) : clip n d (.int i) = (min i.toNat n, True) := by
  unfold clip; dsimp only; rw [if_neg (by lia)]
theorem clip_neg {n d : Nat} {i : Int} (h : i < 0) : clip n d (.int i) = ((i + n).toNat, True) := by
  unfold clip; dsimp only; rw [if_pos h]
theorem cut_from {xs : List Nat} {i : Int} (h0 : 0 ≤ i) (hl : xs.length ≤ lenLid) (h : Q (.str (xs.drop i.toNat))) : Pw (cutV (.str xs) (.int i) .none .none) Q := by
  unfold cutV
  dsimp only
  rw [clip_pos h0]
  refine ⟨⟨trivial, trivial, hl⟩, ?_⟩
  show Q (.str ((xs.take xs.length).drop (min i.toNat xs.length)))
  rw [List.take_length]
  by_cases e : i.toNat ≤ xs.length
  · rw [Nat.min_eq_left e]; exact h
  · rw [Nat.min_eq_right (by lia), List.drop_length]
    rw [List.drop_eq_nil_of_le (by lia)] at h; exact h
theorem cut_to {xs : List Nat} {i : Int} (h0 : 0 ≤ i) (hl : xs.length ≤ lenLid) (h : Q (.str (xs.take i.toNat))) : Pw (cutV (.str xs) .none (.int i) .none) Q := by
  unfold cutV
  dsimp only
  rw [clip_pos h0]
  refine ⟨⟨trivial, trivial, hl⟩, ?_⟩
  show Q (.str ((xs.take (min i.toNat xs.length)).drop 0))
  rw [List.drop_zero]
  by_cases e : i.toNat ≤ xs.length
  · rw [Nat.min_eq_left e]; exact h
  · rw [Nat.min_eq_right (by lia), List.take_length]
    rw [List.take_of_length_le (by lia)] at h; exact h
theorem cut_ton {xs : List Nat} {i : Int} (h0 : i < 0) (hl : xs.length ≤ lenLid) (h : Q (.str (xs.take (i + xs.length).toNat))) : Pw (cutV (.str xs) .none (.int i) .none) Q := by
  unfold cutV
  dsimp only
  rw [clip_neg h0]
  refine ⟨⟨trivial, trivial, hl⟩, ?_⟩
  exact h
theorem cut_all {xs : List Nat} (hl : xs.length ≤ lenLid) (h : Q (.str xs)) : Pw (cutV (.str xs) .none .none .none) Q := by
  unfold cutV
  refine ⟨⟨trivial, trivial, hl⟩, ?_⟩
  show Q (.str ((xs.take xs.length).drop 0))
  rw [List.take_length]; exact h
theorem pickL_map {α β : Type} (f : α → β) (xs : List α) (lo hi st : Option Int) : pickL (xs.map f) lo hi st = (pickL xs lo hi st).map f := by
  unfold pickL
  rw [List.length_map, List.map_filterMap]
  congr 1
  funext i
  rw [List.getElem?_map]
theorem cut_step {xs : List Int} {i k : Int} (hk : k ≠ 0) (hl : xs.length ≤ lenLid) (h : Q (.list ((pickL xs (some i) none (some k)).map .int))) : Pw (cutV (.list (xs.map .int)) (.int i) .none (.int k)) Q := by
  unfold cutV
  dsimp only
  rw [pickL_map]
  exact ⟨⟨hk, by rw [List.length_map]; exact hl⟩, h⟩
theorem cut_bytes {xs : List UInt8} {i j : Int} (h0 : 0 ≤ i) (h1 : 0 ≤ j) (h2 : i ≤ xs.length) (h3 : j ≤ xs.length) (hl : xs.length ≤ lenLid) (h : Q (.bytes ((xs.take j.toNat).drop i.toNat))) : Pw (cutV (.bytes xs) (.int i) (.int j) .none) Q := by
  unfold cutV
  dsimp only
  rw [clip_pos h0, clip_pos h1]
  refine ⟨⟨trivial, trivial, hl⟩, ?_⟩
  show Q (.bytes ((xs.take (min j.toNat xs.length)).drop (min i.toNat xs.length)))
  rw [Nat.min_eq_left (by lia), Nat.min_eq_left (by lia)]; exact h
theorem i_strN {xs : List Nat} {i : Nat} (h1 : i < xs.length) (hl : xs.length ≤ lenLid) (h : Q (.str [xs.getD i 0])) : Pw (itemV (.str xs) (.int (i : Int))) Q := i_str (by lia) (by lia) hl h
theorem i_natsN {xs : List Nat} {i : Nat} (h1 : i < xs.length) (hl : xs.length ≤ lenLid) (h : Q (.int (xs.getD i 0 : Nat))) : Pw (itemV (.list (xs.map fun (x : Nat) => V.int x)) (.int (i : Int))) Q := i_nats (by lia) (by lia) hl h
theorem i_intsN {xs : List Int} {i : Nat} (h1 : i < xs.length) (hl : xs.length ≤ lenLid) (h : Q (.int (xs.getD i 0))) : Pw (itemV (.list (xs.map .int)) (.int (i : Int))) Q := i_ints (by lia) (by lia) hl h
theorem cut_fromN {xs : List Nat} {i : Nat} (hl : xs.length ≤ lenLid) (h : Q (.str (xs.drop i))) : Pw (cutV (.str xs) (.int (i : Int)) .none .none) Q := cut_from (by lia) hl h
theorem WE_cutOr {k : Kd} {n : Nat} {l : Ls} {x y : Str} {xp yp cp op sp p : Pos} {c : Nat} {xs : List Nat} {j : Nat} (hx : l.at x = some (.str xs)) (hy : l.at y = some (.int (-(j : Int)))) (hj : j ≤ xs.length) (hl : xs.length ≤ lenLid) (h : Q (.str (xs.take (xs.length - j)))) :
    WE g k (n + 5) l (.Subscript (.Name x xp) (.Slice none (some (.BoolOp .Or [.Name y yp, .Constant .none c cp] op)) none sp) p) Q := by
  refine WE_cut (WE_name hx (WO_none (WO_some (WE_or (WE_name hy ?_)))))
  refine t_int ?_
  refine split_d (fun hc => ?_) (fun hc => ?_)
  · refine WO_none ?_
    refine cut_ton (by lia) hl ?_
    have : (-(j : Int) + (xs.length : Int)).toNat = xs.length - j := by lia
    rw [this]; exact h
  · refine WE_none (WO_none ?_)
    refine cut_all hl ?_
    have : j = 0 := by lia
    subst this
    rw [Nat.sub_zero, List.take_length] at h; exact h
theorem f_lenS {x : List Nat} (hl : x.length ≤ lenLid) (h : Q (.int x.length)) : Pw (bltV "len" [.str x]) Q := ⟨hl, h⟩
theorem f_ord {c : Nat} (h : Q (.int c)) : Pw (bltV "ord" [.str [c]]) Q := by
  have e : bltV "ord" [.str [c]] = (.int c, True) := rfl
  rw [e]; exact ⟨trivial, h⟩
theorem f_chr {i : Int} (hi : 0 ≤ i ∧ i ≤ 1114111) (h : Q (.str [i.toNat])) : Pw (bltV "chr" [.int i]) Q := by
  have e : bltV "chr" [.int i] = (.str [i.toNat], 0 ≤ i ∧ i ≤ 1114111) := rfl
  rw [e]; exact ⟨hi, h⟩
theorem f_abs {i : Int} (h : Q (.int i.natAbs)) : Pw (bltV "abs" [.int i]) Q := by
  have e : bltV "abs" [.int i] = (.int (if i < 0 then -i else i), True) := rfl
  rw [e]
  refine ⟨trivial, ?_⟩
  have : (if i < 0 then -i else i) = (i.natAbs : Int) := by split <;> omega
  rw [this]; exact h
theorem f_int {i : Int} (h : Q (.int i)) : Pw (bltV "int" [.int i]) Q := by
  have e : bltV "int" [.int i] = (.int i, True) := rfl
  rw [e]; exact ⟨trivial, h⟩
theorem f_divmod {a b : Int} (hb : 0 < b ∧ b < 1073741824) (h : Q (.tup [.int (a / b), .int (a % b)])) : Pw (bltV "divmod" [.int a, .int b]) Q := by
  have e : bltV "divmod" [.int a, .int b] = (.tup [.int (a.fdiv b), .int (a.fmod b)], b ≠ 0 ∧ b.natAbs < 1073741824) := rfl
  rw [e, Int.fdiv_eq_ediv_of_nonneg _ (by lia), Int.fmod_eq_emod_of_nonneg _ (by lia)]
  exact ⟨⟨by lia, by lia⟩, h⟩
theorem f_min {a b : Int} (h : Q (.int (min a b))) : Pw (bltV "min" [.int a, .int b]) Q := by
  have e : bltV "min" [.int a, .int b] = (.int (if b < a then b else a), True) := rfl
  rw [e]
  refine ⟨trivial, ?_⟩
  have : (if b < a then b else a) = min a b := by split <;> lia
  rw [this]; exact h
theorem f_sum {a : List Int} (h : Q (.int a.sum)) : Pw (bltV "sum" [.list (a.map .int)]) Q := by
  have e : bltV "sum" [.list (a.map .int)] = (.int (intsV (a.map .int)).1.sum, (intsV (a.map .int)).2) := rfl
  rw [e, intsV_map]; exact ⟨trivial, h⟩
theorem m_lower {x : List Nat} (hl : x.length ≤ lenLid) (h : Q (.str (Txt.lower ⟨x.toArray⟩).cps.toList)) : Pw (methV g (.str x) "lower" []) Q := ⟨hl, h⟩
theorem m_join {s : Str} {x : List (List Nat)} (hs : s.cps.toList = []) (hl : x.flatten.length ≤ lenLid) (h : Q (.str x.flatten)) : Pw (methV g (.str s.cps.toList) "join" [.list (x.map .str)]) Q := by
  have e : methV g (.str []) "join" [.list (x.map .str)] = (.str (strsV (x.map .str)).1.flatten, (strsV (x.map .str)).2 ∧ (strsV (x.map .str)).1.flatten.length ≤ lenLid ∧ ([] : List Nat) = []) := rfl
  rw [hs, e, strsV_map]; exact ⟨⟨trivial, hl, rfl⟩, h⟩
theorem m_decode {s : Str} {b : List UInt8} (hs : s.cps.toList = [97, 115, 99, 105, 105]) (hb : ∀ c ∈ b, c.toNat < 128) (hl : b.length ≤ lenLid) (h : Q (.str (b.map (·.toNat)))) : Pw (methV g (.bytes b) "decode" [.str s.cps.toList]) Q := by
  rw [hs]
  have e : methV g (.bytes b) "decode" [.str [97, 115, 99, 105, 105]] = (.str (b.map (·.toNat)), (∀ c ∈ b, c.toNat < 128) ∧ b.length ≤ lenLid ∧ ([97, 115, 99, 105, 105] : List Nat) = [97, 115, 99, 105, 105]) := rfl
  rw [e]; exact ⟨⟨hb, hl, rfl⟩, h⟩
theorem m_get {w : Value} {i : Int} (hg : (g.get w i).2) (h : Q (g.get w i).1) : Pw (methV g (.val w) "get" [.int i]) Q := by
  have e : methV g (.val w) "get" [.int i] = g.get w i := rfl
  rw [e]; exact ⟨hg, h⟩
theorem m_getC {D : Dat0} {fs : List FnT} {m : Nat} {w : Value} {i : Int} (hg : (D.get w i).2) (h : Q (D.get w i).1) : Pw (methV (CC D fs m) (.val w) "get" [.int i]) Q :=
  m_get (by rw [CC_get]; exact hg) (by rw [CC_get]; exact h)
end
end Mine
namespace Mine
open PySem PySem.W PyProof.Rows PySem.Calls
section
variable {Q : V → Prop} {g : Cfg}
theorem cut_mid {xs : List Nat} {i j : Nat} {a b : Int} (ea : a = i) (eb : b = j) (hi : i ≤ xs.length) (hl : xs.length ≤ lenLid) (h : Q (.str ((xs.take j).drop i))) : Pw (cutV (.str xs) (.int a) (.int b) .none) Q := by
  subst ea eb
  unfold cutV
  dsimp only
  rw [clip_pos (by lia), clip_pos (by lia)]
  refine ⟨⟨trivial, trivial, hl⟩, ?_⟩
  show Q (.str ((xs.take (min (j : Int).toNat xs.length)).drop (min (i : Int).toNat xs.length)))
  rw [Int.toNat_natCast, Int.toNat_natCast, Nat.min_eq_left hi]
  by_cases e : j ≤ xs.length
  · rw [Nat.min_eq_left e]; exact h
  · rw [Nat.min_eq_right (by lia), List.take_length]
    rw [List.take_of_length_le (by lia)] at h; exact h
end
/-! names, where the list's end is not known -/
theorem at_capt_hit {l : Ls} {k : Kd} {y : Str} {o : Option V} (hk : (k y == some .cell || k y == some .free) = true) (h : l.at y = o) : (l.capt k).at y = o := by
  subst h
  induction l with
  | nil => rfl
  | cons p r ih =>
    obtain ⟨z, u⟩ := p
    unfold Ls.capt at ih ⊢
    rw [List.filter_cons]
    simp only [Ls.at]
    by_cases hz : z = y
    · subst hz
      rw [if_pos rfl, if_pos hk]
      simp [Ls.at]
    · rw [if_neg hz]
      split
      · simp only [Ls.at]; rw [if_neg hz]; exact ih
      · exact ih
theorem at_capt_none {l : Ls} {k : Kd} {y : Str} (h : l.at y = none) : (l.capt k).at y = none := by
  cases e : (l.capt k).at y with
  | none => rfl
  | some v => rw [(at_capt e).1] at h; cases h
theorem WX_cleanK {g : Cfg} {k : Kd} {n : Nat} {l lc : Ls} {x : Str} {px p : Pos} {e : Expr} {Q : Fl → Ls → Prop} (hn : isNew e = false) (h0 : isAtom (ev g k n l e).1 = false) (hc : l.clean = lc) (h : WE g k n lc e fun v => Q .next (l.put x ⟨v, false⟩)) (h1 : storable k x = true) (hd : dvE e = none := by rfl) : WX g k (n + 1) l (.Assign [.Name x px] e p) Q := by
  unfold WX
  have e1 : evS g k n l e = ev g k n lc e := by
    unfold evS
    dsimp only
    rw [if_neg (by rw [h0]; decide), hc]
  rw [ex_asg hd, if_neg (by rw [hn]; decide), e1]
  exact ⟨⟨h.1, h1⟩, h.2⟩
/-- a list of numbers as a value -/
noncomputable abbrev vnats (xs : List Nat) : V := .list (xs.map fun (x : Nat) => V.int x)
theorem clean_put' {j : Ls} {x : Str} {v : V} (h : Ls.clean j = j) : Ls.clean (j.put x ⟨v, false⟩) = j.put x ⟨v, false⟩ := by
  induction j with
  | nil => rfl
  | cons p r ih =>
    obtain ⟨y, u⟩ := p
    have h2 : u.own = false ∧ Ls.clean r = r := by
      unfold Ls.clean at h ⊢
      rw [List.filter_eq_self] at h ⊢
      exact ⟨by simpa using h (y, u) (.head _), fun a ha => h a (.tail _ ha)⟩
    simp only [Ls.put]
    split
    · obtain ⟨h3, h4⟩ := h2
      show _ :: Ls.clean r = _
      rw [h4]
    · have := ih h2.2
      obtain ⟨uv, uo⟩ := u
      obtain ⟨h3, h4⟩ := h2
      dsimp only at h3
      subst h3
      show _ :: Ls.clean (Ls.put r x ⟨v, false⟩) = _
      rw [this]
theorem repStr_one' (c : Nat) : ∀ n, repStr [c] n = List.replicate n c
  | 0 => rfl
  | n + 1 => by rw [show repStr [c] (n + 1) = [c] ++ repStr [c] n from rfl, repStr_one' c n, List.replicate_succ]; rfl
theorem flat_one {α : Type} (B : List α) (f : α → Nat) : ((B.map fun c => [f c]).flatten) = B.map f := by
  induction B with
  | nil => rfl
  | cons b r ih => rw [List.map_cons, List.map_cons, List.flatten_cons, ih]; rfl
/-! the steps' rules, side goals first -/
section
variable {g : Cfg} {k : Kd} {n : Nat} {l : Ls}
theorem mAtom {x : Str} {px p : Pos} {e : Expr} {Q : Fl → Ls → Prop} (h0 : (!isNew e && (dvE e).isNone && storable k x) = true) (h : WE g k n l e fun v => isAtom v = true ∧ Q .next (l.put x ⟨v, false⟩)) : WX g k (n + 1) l (.Assign [.Name x px] e p) Q := by
  simp only [Bool.and_eq_true, Bool.not_eq_true', Option.isNone_iff_eq_none] at h0
  exact WX_atom h0.1.1 h h0.2 h0.1.2
theorem mAug {x : Str} {xp p : Pos} {op : Operator} {e : Expr} {a : V} {Q : Fl → Ls → Prop} (hx : l.at x = some a) (h1 : storable k x = true) (h : WE g k n l e fun v => AugOk op a v ∧ Pw (binV op a v) fun r => Q .next (l.put x ⟨r, false⟩)) : WX g k (n + 1) l (.AugAssign (.Name x xp) op e p) Q := WX_aug hx h h1
theorem mMeth {o : Expr} {name : Str} {ap p : Pos} {args : List Expr} {Q : V → Prop} (h0 : ((ap.endLine == p.line) && decide (args.length ≤ 3)) = true) (h2 : BaseOk o) (h : WE g k n l o fun vo => WEs g k n l args fun vs => Pw (methV g vo name vs) Q) : WE g k (n + 1) l (.Call (.Attribute o name ap) args [] p) Q := by
  rw [Bool.and_eq_true, decide_eq_true_eq] at h0
  exact WE_meth h h0.1 h2 h0.2
theorem mBlt {f : Str} {fp p : Pos} {args : List Expr} {Q : V → Prop} (h0 : (isBlt f && kindOk k f) = true) (h1 : l.at f = none) (h : WEs g k n l args fun vs => Pw (bltV f vs) Q) : WE g k (n + 1) l (.Call (.Name f fp) args [] p) Q := by
  rw [Bool.and_eq_true] at h0
  exact WE_blt h h0.1 h1 h0.2
theorem mFn {f : Str} {fp p : Pos} {args : List Expr} {Q : V → Prop} (h0 : (!isBlt f && !(f == ("list" : Str)) && kindOk k f) = true) (h1 : l.at f = none) (h : WEs g k n l args fun vs => WF g f vs Q) : WE g k (n + 1) l (.Call (.Name f fp) args [] p) Q := by
  simp only [Bool.and_eq_true, Bool.not_eq_true'] at h0
  exact WE_fn h h0.1.1 h0.1.2 h1 h0.2
theorem mCmp {a b : Expr} {op : CmpOp} {p : Pos} {Q : V → Prop} (hb : behindInMarks op b = false) (h : WE g k n l a fun va => WE g k n l b fun vb => Pw (cmpV g op va vb) fun c => Q (.bool c)) : WE g k (n + 1) l (.Compare a [op] [b] p) Q := WE_cmp h hb
theorem mCmpT {a b : Expr} {op : CmpOp} {p : Pos} {Q : Bool → Prop} (hb : behindInMarks op b = false) (h : WE g k n l a fun va => WE g k n l b fun vb => Pw (cmpV g op va vb) Q) : WT g k (n + 1) l (.Compare a [op] [b] p) Q := WT_cmp h hb
theorem mVal {e : Expr} {Q : Bool → Prop} (he : evT g k (n + 1) l e = ((truV (ev g k n l e).1).1, (ev g k n l e).2 ∧ (truV (ev g k n l e).1).2)) (h : WE g k n l e fun v => Pw (truV v) Q) : WT g k (n + 1) l e Q := WT_val h he
theorem mEs {e : Expr} {r : List Expr} {Q : List V → Prop} (hs : ∀ x p, e ≠ .Starred x p) (h : WE g k n l e fun v => WEs g k n l r fun vs => Q (v :: vs)) : WEs g k (n + 1) l (e :: r) Q := WEs_cons h hs
theorem mTwo {x y : Str} {px py p : Pos} {e : Expr} {Q : Fl → Ls → Prop} (h0 : (storable k x && storable k y) = true) (h : WE g k n l e fun v => isAtom v = true ∧ Q .next ((l.put x ⟨v, false⟩).put y ⟨v, false⟩)) : WX g k (n + 1) l (.Assign [.Name x px, .Name y py] e p) Q := by
  rw [Bool.and_eq_true] at h0
  exact WX_two h h0.1 h0.2
theorem mTup {x y : Str} {px py tp p : Pos} {c : Nat} {e : Expr} {Q : Fl → Ls → Prop} (h0 : (!constTup e && storable k x && storable k y && !(x == y)) = true) (h : WE g k n l e fun v => ∃ a b, v = .tup [a, b] ∧ isAtom a = true ∧ isAtom b = true ∧ Q .next ((l.put x ⟨a, false⟩).put y ⟨b, false⟩)) :
    WX g k (n + 1) l (.Assign [.Tuple [.Name x px, .Name y py] c tp] e p) Q := by
  simp only [Bool.and_eq_true, Bool.not_eq_true', beq_eq_false_iff_ne, ne_eq] at h0
  exact WX_tup h h0.1.1.1 h0.1.1.2 h0.1.2 h0.2
theorem mLen {n : Nat} {P : Prop} (h1 : n ≤ lenLid) (h : P) : n ≤ lenLid ∧ P := ⟨h1, h⟩
theorem mIsA {v : V} {P : Prop} (h1 : isAtom v = true) (h : P) : isAtom v = true ∧ P := ⟨h1, h⟩
theorem mOp {op : Operator} {a b : V} {P : Prop} (h1 : AugOk op a b) (h : P) : AugOk op a b ∧ P := ⟨h1, h⟩
theorem at_val {x : Str} {o v : V} (h1 : l.at x = some o) (h2 : o = v) : l.at x = some v := by rw [h1, h2]
end
end Mine
namespace Mine
/-! the distance, as plain numbers -/
noncomputable def stripP : List Nat → List Nat → List Nat × List Nat
  | x :: xs, y :: ys => if x = y then stripP xs ys else (x :: xs, y :: ys)
  | a, b => (a, b)
noncomputable def innerN (sub : Nat → Nat → Nat) (c : Nat) : List Nat → List Nat → Nat → Nat → Nat → List Nat × Nat × Nat
  | x :: xs, w :: ws, d, r, m =>
    let res := min (min r w + 2) (d + sub c x)
    let q := innerN sub c xs ws w res (if res < m then res else m)
    (res :: q.1, q.2.1, q.2.2)
  | _, _, d, r, m => ([], r, m)
noncomputable def outerN (sub : Nat → Nat → Nat) (mc : Nat) (a : List Nat) : List Nat → Nat → List Nat → Nat → Nat
  | [], _, _, result => result
  | c :: cs, i, row, _ =>
    let q := innerN sub c a row (2 * i) (2 * i) 9223372036854775807
    if mc < q.2.2 then mc + 1 else outerN sub mc a cs (i + 1) q.1 q.2.1
noncomputable def sortedN (sub : Nat → Nat → Nat) (mc : Nat) (a b : List Nat) : Nat :=
  if mc < (b.length - a.length) * 2 then mc + 1 else outerN sub mc a b 0 ((List.range a.length).map fun i => 2 + i * 2) 0
noncomputable def coreN (sub : Nat → Nat → Nat) (mc : Nat) (a b : List Nat) : Nat :=
  if a.length = 0 ∨ b.length = 0 then 2 * (a.length + b.length)
  else if 40 < a.length ∨ 40 < b.length then mc + 1
  else if b.length < a.length then sortedN sub mc b a else sortedN sub mc a b
theorem stripP_cons (x y : Nat) (xs ys : List Nat) : stripP (x :: xs) (y :: ys) = if x = y then stripP xs ys else (x :: xs, y :: ys) := rfl
theorem innerN_nil (sub : Nat → Nat → Nat) (c : Nat) (row : List Nat) (d r m : Nat) : innerN sub c [] row d r m = ([], r, m) := by cases row <;> rfl
theorem innerN_cons (sub : Nat → Nat → Nat) (c x w : Nat) (xs ws : List Nat) (d r m : Nat) : innerN sub c (x :: xs) (w :: ws) d r m =
    (min (min r w + 2) (d + sub c x) :: (innerN sub c xs ws w (min (min r w + 2) (d + sub c x)) (if min (min r w + 2) (d + sub c x) < m then min (min r w + 2) (d + sub c x) else m)).1,
      (innerN sub c xs ws w (min (min r w + 2) (d + sub c x)) (if min (min r w + 2) (d + sub c x) < m then min (min r w + 2) (d + sub c x) else m)).2.1,
      (innerN sub c xs ws w (min (min r w + 2) (d + sub c x)) (if min (min r w + 2) (d + sub c x) < m then min (min r w + 2) (d + sub c x) else m)).2.2) := rfl
theorem outerN_cons (sub : Nat → Nat → Nat) (mc : Nat) (a : List Nat) (c : Nat) (cs : List Nat) (i : Nat) (row : List Nat) (r : Nat) : outerN sub mc a (c :: cs) i row r =
    if mc < (innerN sub c a row (2 * i) (2 * i) 9223372036854775807).2.2 then mc + 1 else outerN sub mc a cs (i + 1) (innerN sub c a row (2 * i) (2 * i) 9223372036854775807).1 (innerN sub c a row (2 * i) (2 * i) 9223372036854775807).2.1 := rfl
noncomputable def cutN (a b : List Nat) : List Nat × List Nat :=
  let p := stripP a b
  let q := stripP p.1.reverse p.2.reverse
  (q.1.reverse, q.2.reverse)
noncomputable def levN (sub : Nat → Nat → Nat) (a b : List Nat) (mc : Nat) : Nat :=
  if a = b then 0 else coreN sub mc (cutN a b).1 (cutN a b).2

theorem stripP_step {a b : List Nat} {i : Nat} (ha : i < a.length) (hb : i < b.length) : stripP (a.drop i) (b.drop i) = if a.getD i 0 = b.getD i 0 then stripP (a.drop (i + 1)) (b.drop (i + 1)) else (a.drop i, b.drop i) := by
  rw [List.drop_eq_getElem_cons ha, List.drop_eq_getElem_cons hb]
  rw [stripP_cons]
  simp only [List.getD_eq_getElem?_getD, List.getElem?_eq_getElem ha, List.getElem?_eq_getElem hb, Option.getD_some]
theorem stripP_nil {a b : List Nat} {i : Nat} (h : a.length ≤ i ∨ b.length ≤ i) : stripP (a.drop i) (b.drop i) = (a.drop i, b.drop i) := by
  rcases h with h | h
  · rw [List.drop_eq_nil_of_le h]
    cases b.drop i <;> rfl
  · rw [List.drop_eq_nil_of_le h]
    cases a.drop i <;> rfl
theorem innerN_step (sub : Nat → Nat → Nat) (c : Nat) {a row : List Nat} {i d r m : Nat} (ha : i < a.length) (hb : i < row.length) :
    innerN sub c (a.drop i) (row.drop i) d r m =
      (min (min r (row.getD i 0) + 2) (d + sub c (a.getD i 0)) :: (innerN sub c (a.drop (i + 1)) (row.drop (i + 1)) (row.getD i 0) (min (min r (row.getD i 0) + 2) (d + sub c (a.getD i 0))) (if min (min r (row.getD i 0) + 2) (d + sub c (a.getD i 0)) < m then min (min r (row.getD i 0) + 2) (d + sub c (a.getD i 0)) else m)).1,
       (innerN sub c (a.drop (i + 1)) (row.drop (i + 1)) (row.getD i 0) (min (min r (row.getD i 0) + 2) (d + sub c (a.getD i 0))) (if min (min r (row.getD i 0) + 2) (d + sub c (a.getD i 0)) < m then min (min r (row.getD i 0) + 2) (d + sub c (a.getD i 0)) else m)).2) := by
  rw [List.drop_eq_getElem_cons ha, List.drop_eq_getElem_cons hb]
  rw [innerN_cons]
  simp only [List.getD_eq_getElem?_getD, List.getElem?_eq_getElem ha, List.getElem?_eq_getElem hb, Option.getD_some]
/-- the digits to the base 16 -/
noncomputable def digsF : Nat → Nat → List Nat
  | 0, _ => []
  | f + 1, n => if n = 0 then [] else digsF f (n / 16) ++ [n % 16]
noncomputable def digs (n : Nat) : List Nat := digsF n n
theorem digsF_fuel : ∀ (f n : Nat), n ≤ f → digsF f n = digsF n n
  | 0, 0, _ => rfl
  | f + 1, 0, _ => rfl
  | f + 1, n + 1, h => by
    have h2 : (n + 1) / 16 ≤ n := Nat.le_of_lt_succ (Nat.div_lt_self (Nat.succ_pos n) (by decide))
    show (if n + 1 = 0 then [] else digsF f ((n + 1) / 16) ++ [(n + 1) % 16]) = (if n + 1 = 0 then [] else digsF n ((n + 1) / 16) ++ [(n + 1) % 16])
    rw [digsF_fuel f _ (Nat.le_trans h2 (Nat.le_of_succ_le_succ h)), digsF_fuel n _ h2]
theorem digs_eq (n : Nat) : digs n = if h : n = 0 then [] else digs (n / 16) ++ [n % 16] := by
  cases n with
  | zero => rfl
  | succ n =>
    rw [dif_neg (Nat.succ_ne_zero n)]
    show (if n + 1 = 0 then [] else digsF n ((n + 1) / 16) ++ [(n + 1) % 16]) = _
    rw [if_neg (Nat.succ_ne_zero n), digsF_fuel n _ (Nat.le_of_lt_succ (Nat.div_lt_self (Nat.succ_pos n) (by decide)))]
    rfl
/-- the word of a number: the first digit is not nought -/
theorem digs_head (n : Nat) : ∀ d ∈ (digs n).head?, d ≠ 0 := by
  induction n using Nat.strongRecOn with
  | ind n ih =>
    intro d hd
    rw [digs_eq] at hd
    split at hd
    · cases hd
    · rename_i hn
      by_cases h0 : n / 16 = 0
      · rw [h0] at hd
        rw [digs_eq, dif_pos rfl] at hd
        simp at hd
        lia
      · have := ih (n / 16) (by lia) d
        apply this
        have hne : digs (n / 16) ≠ [] := by
          rw [digs_eq, dif_neg h0]; simp
        cases e : digs (n / 16) with
        | nil => exact absurd e hne
        | cons a r => rw [e] at hd; simpa using hd
theorem digs_lt (n : Nat) : ∀ d ∈ digs n, d < 16 := by
  induction n using Nat.strongRecOn with
  | ind n ih =>
    intro d hd
    rw [digs_eq] at hd
    split at hd
    · cases hd
    · rename_i hn
      rcases List.mem_append.mp hd with hd | hd
      · exact ih _ (by lia) d hd
      · rcases List.mem_singleton.mp hd with rfl; lia
theorem digs_length : ∀ (s n : Nat), n < 16 ^ s → (digs n).length ≤ s
  | 0, n, h => by
    have : n = 0 := by simpa using h
    subst this; rw [digs_eq, dif_pos rfl]; simp
  | s + 1, n, h => by
    rw [digs_eq]
    split
    · simp
    · rw [List.length_append]
      have := digs_length s (n / 16) (by rw [Nat.pow_succ] at h; omega)
      simp; omega
/-- the last s digits -/
noncomputable def padS : Nat → Nat → List Nat
  | 0, _ => []
  | s + 1, n => padS s (n / 16) ++ [n % 16]
theorem pad_digs : ∀ (s n : Nat), n < 16 ^ s → List.replicate (s - (digs n).length) 0 ++ digs n = padS s n
  | 0, n, h => by
    have : n = 0 := by simpa using h
    subst this; rw [digs_eq, dif_pos rfl]; rfl
  | s + 1, n, h => by
    have h' : n / 16 < 16 ^ s := by rw [Nat.pow_succ] at h; lia
    have ih := pad_digs s (n / 16) h'
    have hl := digs_length s (n / 16) h'
    show _ = padS s (n / 16) ++ [n % 16]
    rw [← ih, digs_eq]
    split
    · rename_i h0
      subst h0
      rw [Nat.zero_div, digs_eq, dif_pos rfl]
      simp [List.replicate_succ']
    · rw [List.length_append, List.length_singleton, show s + 1 - ((digs (n / 16)).length + 1) = s - (digs (n / 16)).length by lia, List.append_assoc]
noncomputable def horner (f : Nat → Nat) : Nat → Nat
  | 0 => 0
  | s + 1 => 16 * horner f s + f s
/-! renaming -/
section
variable {S : Nat → Prop} {σ : Nat → Nat} {sub sub' : Nat → Nat → Nat}
theorem map_inj {a b : List Nat} (hi : ∀ x y, S x → S y → (σ x = σ y ↔ x = y)) (ha : ∀ x ∈ a, S x) (hb : ∀ x ∈ b, S x) : a.map σ = b.map σ ↔ a = b := by
  induction a generalizing b with
  | nil => cases b <;> simp
  | cons x r ih =>
    cases b with
    | nil => simp
    | cons y q =>
      simp only [List.map_cons, List.cons.injEq]
      rw [hi x y (ha x (.head _)) (hb y (.head _)), ih (fun z hz => ha z (.tail _ hz)) (fun z hz => hb z (.tail _ hz))]
theorem strip_map (hi : ∀ x y, S x → S y → (σ x = σ y ↔ x = y)) : ∀ {a b : List Nat}, (∀ x ∈ a, S x) → (∀ x ∈ b, S x) → stripP (a.map σ) (b.map σ) = ((stripP a b).1.map σ, (stripP a b).2.map σ) ∧ (∀ x ∈ (stripP a b).1, S x) ∧ (∀ x ∈ (stripP a b).2, S x)
  | [], b, ha, hb => by
    have e : ∀ c : List Nat, stripP [] c = ([], c) := fun c => by cases c <;> rfl
    rw [List.map_nil, e, e]; exact ⟨rfl, ha, hb⟩
  | x :: xs, [], ha, hb => ⟨rfl, ha, hb⟩
  | x :: xs, y :: ys, ha, hb => by
    show (if σ x = σ y then stripP (xs.map σ) (ys.map σ) else (σ x :: xs.map σ, σ y :: ys.map σ)) = ((if x = y then stripP xs ys else (x :: xs, y :: ys)).1.map σ, (if x = y then stripP xs ys else (x :: xs, y :: ys)).2.map σ) ∧ (∀ z ∈ (if x = y then stripP xs ys else (x :: xs, y :: ys)).1, S z) ∧ (∀ z ∈ (if x = y then stripP xs ys else (x :: xs, y :: ys)).2, S z)
    by_cases h : x = y
    · rw [if_pos h, if_pos ((hi x y (ha x (.head _)) (hb y (.head _))).mpr h)]
      exact strip_map hi (fun z hz => ha z (.tail _ hz)) (fun z hz => hb z (.tail _ hz))
    · rw [if_neg h, if_neg (fun q => h ((hi x y (ha x (.head _)) (hb y (.head _))).mp q))]
      exact ⟨rfl, ha, hb⟩
theorem inner_map (hs : ∀ x y, S x → S y → sub (σ x) (σ y) = sub' x y) {c : Nat} (hc : S c) : ∀ {a row : List Nat} {d r m : Nat}, (∀ x ∈ a, S x) → innerN sub (σ c) (a.map σ) row d r m = innerN sub' c a row d r m
  | [], _, _, _, _, _ => rfl
  | x :: xs, [], _, _, _, _ => rfl
  | x :: xs, w :: ws, d, r, m, ha => by
    rw [List.map_cons, innerN_cons, innerN_cons, hs c x hc (ha x (.head _)), inner_map hs hc (fun z hz => ha z (.tail _ hz))]
theorem outer_map (hs : ∀ x y, S x → S y → sub (σ x) (σ y) = sub' x y) {mc : Nat} {a : List Nat} (ha : ∀ x ∈ a, S x) : ∀ {b : List Nat} {i : Nat} {row : List Nat} {r : Nat}, (∀ x ∈ b, S x) → outerN sub mc (a.map σ) (b.map σ) i row r = outerN sub' mc a b i row r
  | [], _, _, _, _ => rfl
  | c :: cs, i, row, r, hb => by
    rw [List.map_cons, outerN_cons, outerN_cons, inner_map hs (hb c (.head _)) ha]
    split
    · rfl
    · exact outer_map hs ha (fun z hz => hb z (.tail _ hz))
theorem sorted_map (hs : ∀ x y, S x → S y → sub (σ x) (σ y) = sub' x y) {mc : Nat} {a b : List Nat} (ha : ∀ x ∈ a, S x) (hb : ∀ x ∈ b, S x) : sortedN sub mc (a.map σ) (b.map σ) = sortedN sub' mc a b := by
  unfold sortedN
  rw [List.length_map, List.length_map, outer_map hs ha hb]
theorem core_map (hs : ∀ x y, S x → S y → sub (σ x) (σ y) = sub' x y) {mc : Nat} {a b : List Nat} (ha : ∀ x ∈ a, S x) (hb : ∀ x ∈ b, S x) : coreN sub mc (a.map σ) (b.map σ) = coreN sub' mc a b := by
  unfold coreN
  rw [List.length_map, List.length_map, sorted_map hs ha hb, sorted_map hs hb ha]
theorem lev_map (hi : ∀ x y, S x → S y → (σ x = σ y ↔ x = y)) (hs : ∀ x y, S x → S y → sub (σ x) (σ y) = sub' x y) {mc : Nat} {a b : List Nat} (ha : ∀ x ∈ a, S x) (hb : ∀ x ∈ b, S x) : levN sub (a.map σ) (b.map σ) mc = levN sub' a b mc := by
  unfold levN cutN
  obtain ⟨e1, h1, h2⟩ := strip_map hi ha hb
  obtain ⟨e2, h3, h4⟩ := strip_map hi (a := (stripP a b).1.reverse) (b := (stripP a b).2.reverse) (fun x hx => h1 x (List.mem_reverse.mp hx)) (fun x hx => h2 x (List.mem_reverse.mp hx))
  rw [e1]
  dsimp only
  rw [← List.map_reverse, ← List.map_reverse, e2]
  dsimp only
  rw [← List.map_reverse, ← List.map_reverse, core_map hs (fun x hx => h3 x (List.mem_reverse.mp hx)) (fun x hx => h4 x (List.mem_reverse.mp hx))]
  by_cases h : a = b
  · rw [if_pos h, if_pos ((map_inj hi ha hb).mpr h)]
  · rw [if_neg h, if_neg (fun q => h ((map_inj hi ha hb).mp q))]
end
end Mine
namespace Mine
/-! the distance reckoned fast by the kernel; signs: 2 i a great letter, 2 i + 1 a small one -/
noncomputable section
noncomputable def mn (a b : Nat) : Nat := Nat.sub a (Nat.sub a b)
noncomputable def costQ (x y : Nat) : Nat := Bool.rec (Bool.rec 2 1 (Nat.beq (Nat.div x 2) (Nat.div y 2))) 0 (Nat.beq x y)
theorem beq_t {a b : Nat} (h : a = b) : Nat.beq a b = true := by subst h; exact Nat.beq_refl a
theorem beq_f {a b : Nat} (h : a ≠ b) : Nat.beq a b = false := by
  cases e : Nat.beq a b
  · rfl
  · exact absurd (Nat.eq_of_beq_eq_true e) h
theorem costQ_eq (x y : Nat) : costQ x y = if x = y then 0 else if x / 2 = y / 2 then 1 else 2 := by
  unfold costQ
  by_cases h : x = y
  · rw [if_pos h, beq_t h]
  · rw [if_neg h, beq_f h]
    by_cases h2 : x / 2 = y / 2
    · rw [if_pos h2, beq_t (show Nat.div x 2 = Nat.div y 2 from h2)]
    · rw [if_neg h2, beq_f (show Nat.div x 2 ≠ Nat.div y 2 from h2)]
noncomputable def innerQ (c : Nat) (as : List Nat) : List Nat → Nat → Nat → List Nat :=
  List.rec (motive := fun _ => List Nat → Nat → Nat → List Nat) (fun _ _ _ => []) (fun x _ ih row d r =>
    List.rec (motive := fun _ => List Nat) [] (fun w ws _ =>
      (fun res => List.cons res (ih ws w res)) (mn (Nat.add (mn r w) 2) (Nat.add d (costQ c x)))) row) as
noncomputable def lastQ (l : List Nat) : Nat → Nat := List.rec (motive := fun _ => Nat → Nat) (fun d => d) (fun x _ ih _ => ih x) l
noncomputable def minQ (l : List Nat) : Nat := List.rec (motive := fun _ => Nat) 9223372036854775807 (fun x _ ih => mn x ih) l
/-- the rows one by one: the last is due at its end, no row is above it -/
noncomputable def outerQ (as bs : List Nat) : Nat → List Nat → Nat → Bool :=
  List.rec (motive := fun _ => Nat → List Nat → Nat → Bool) (fun _ row due => Nat.beq (lastQ row 0) due) (fun c _ ih i row due =>
    (fun r' => and (Nat.ble (minQ r') due) (ih (Nat.succ i) r' due)) (innerQ c as row (Nat.mul 2 i) (Nat.mul 2 i))) bs
noncomputable def rowQ (n : Nat) : List Nat := (List.range n).map fun i => 2 + i * 2
noncomputable def sortedQ (a b : List Nat) (due : Nat) : Bool := and (Nat.ble (Nat.mul (Nat.sub b.length a.length) 2) due) (outerQ a b 0 (rowQ a.length) due)
/-- the check of a distance -/
noncomputable def coreQ (a b : List Nat) (due : Nat) : Bool :=
  match a, b with
  | [], b => Nat.beq (Nat.mul 2 b.length) due
  | a, [] => Nat.beq (Nat.mul 2 a.length) due
  | x :: xs, y :: ys => and (and (Nat.ble xs.length 39) (Nat.ble ys.length 39)) (bif Nat.ble (Nat.succ ys.length) xs.length then sortedQ (y :: ys) (x :: xs) due else sortedQ (x :: xs) (y :: ys) due)
noncomputable def levQ (a b : List Nat) (due : Nat) : Bool := (fun c => coreQ c.1 c.2 due) (cutN a b)
end
end Mine
namespace Mine
open PySem PySem.W PyProof.Rows PySem.Calls
set_option hygiene false
local macro_rules | `(tactic| walk_at "sd") => `(tactic| first | assumption | decide | lia | ((try simp only [lenLid, List.length_map, List.length_range, List.length_append, List.length_cons, List.length_nil, List.length_drop, List.length_take, List.length_replicate] at *); first | lia | decide))
local macro_rules | `(tactic| walk_at "sv") => `(tactic| first
  | (with_reducible first | apply b_add | apply b_sub | apply c_eqI | apply c_neI | apply c_ltI | apply c_gtI | apply c_eqS | apply c_neS | apply c_inD | apply t_bool | apply t_int | apply f_ord | apply f_abs | apply f_int | apply f_min | apply f_sum)
  | ((with_reducible first | apply b_mul | apply b_divp | apply b_modp | apply b_pow | apply b_cat | apply b_rep | apply b_catB | apply t_str | apply f_lenS | apply f_chr | apply f_divmod | apply m_lower); walk_at "sd")
  | ((with_reducible first | apply c_inC | apply m_getC); exact rfl)
  | ((with_reducible apply m_join); decide +kernel; walk_at "sd")
  | ((with_reducible first | apply i_strN | apply i_natsN | apply i_intsN ); walk_at "sd"; walk_at "sd")
  | ((with_reducible first | apply cut_fromN ); walk_at "sd")
  | ((with_reducible first | apply i_ints | apply i_str); walk_at "sd"; walk_at "sd"; walk_at "sd")
  | ((with_reducible first | apply i_strn | apply i_nats); walk_at "sd"; walk_at "sd"; walk_at "sd")
  | ((with_reducible apply cut_step); decide; walk_at "sd")
  | ((with_reducible first | apply cut_from | apply cut_to); walk_at "sd"; walk_at "sd"))
local macro_rules | `(tactic| walk_at "at") => `(tactic| first
  | (with_reducible exact at_hit)
  | (with_reducible exact at_put_hit)
  | exact rfl
  | ((with_reducible first | apply at_miss | apply at_put_miss | apply at_capt_hit); exact rfl; walk_at "at")
  | (with_reducible assumption)
  | ((with_reducible first | apply at_capt_none | apply at_clean_none); walk_at "at")
  | (with_reducible exact at_nil)
  | exact at_only (by assumption) (by rfl)
  | exact rfl)
local macro_rules | `(tactic| walk_at "atv") => `(tactic| (apply at_val; walk_at "at"; rfl))
local macro_rules | `(tactic| walk_at "cl") => `(tactic| first
  | ((with_reducible first | apply clean_plain | apply clean_own | apply clean_put'); walk_at "cl")
  | (with_reducible assumption)
  | exact rfl)
local macro_rules | `(tactic| walk_at "cp") => `(tactic| first
  | ((with_reducible first | apply capt_keep | apply capt_drop); exact rfl; walk_at "cp")
  | exact rfl)
local macro_rules | `(tactic| walk_at "cps") => `(tactic| ((case k1 => walk_at "cp"); (case k2 => walk_at "sd"); (case k4 => walk_at "at"); (case k9 => exact fun _ _ => Expr.noConfusion)))
local macro_rules | `(tactic| walk_at "only") => `(tactic| first
  | assumption
  | exact only_nil
  | (refine only_put ?_ (by rfl); walk_at "only"))
local macro_rules | `(tactic| walk_at "pt") => `(tactic| first
  | (with_reducible exact put_hit)
  | (with_reducible exact put_nil)
  | ((with_reducible apply put_miss); exact rfl; walk_at "pt")
  | exact rfl)
local macro_rules | `(tactic| walk_at "pu") => `(tactic| first
  | (with_reducible exact put_hit)
  | (with_reducible exact put_nil)
  | ((with_reducible apply put_miss); exact rfl; walk_at "pt"))
local macro_rules | `(tactic| walk_at "st") => `(tactic| first
  | ((with_reducible apply then_put2); walk_at "pt"; walk_at "pt")
  | ((with_reducible apply then_put); walk_at "pt")
  | ((with_reducible first | apply wxs_put | apply we_put | apply wt_put); walk_at "pu")
  | (with_reducible first | apply then_next | apply turn_next | apply turn_ret | apply then_ret | apply post_ret | apply WXs_nil | apply WXs_cons | apply WX_ret | apply WX_if | apply WE_int | apply WE_str | apply WE_none | apply WE_bool | apply WE_bytes | apply WE_bin | apply WE_or | apply WE_list | apply WE_tup | apply WT_not | apply WT_and | apply WT_or | apply WA_nil | apply WA_cons | apply WR_nil | apply WR_cons | apply WO_none | apply WO_some | apply WEs_nil)
  | ((with_reducible apply mClean); exact rfl; exact rfl)
  | ((with_reducible first | apply mAtom | apply mTup | apply mTwo); exact rfl)
  | ((with_reducible apply WX_set); walk_at "at"; exact rfl)
  | ((with_reducible apply mAug); walk_at "at"; exact rfl; try dsimp only)
  | ((with_reducible apply WE_cutOr); walk_at "at"; walk_at "at"; walk_at "sd"; walk_at "sd")
  | (with_reducible apply WE_cut)
  | ((with_reducible first | apply WE_item | apply mCmp | apply mCmpT | apply mVal | apply mIsA); exact rfl)
  | ((with_reducible apply mMeth); exact rfl; exact fun _ _ _ => rfl)
  | ((with_reducible apply mBlt); exact rfl; walk_at "at")
  | ((with_reducible apply mFn); exact rfl; walk_at "at")
  | ((with_reducible apply mEs); exact fun _ _ => Expr.noConfusion)
  | ((with_reducible apply WE_name); walk_at "at"; try dsimp only)
  | ((with_reducible apply WE_globC); walk_at "at"; exact rfl; exact rfl; try dsimp only)
  | ((with_reducible apply mLen); walk_at "sd")
  | ((with_reducible apply mOp); constructor)
  | (refine ⟨_, _, rfl, rfl, rfl, ?_⟩)
  | (with_reducible first | apply split_t | apply split_f | refine split_d (fun _ => ?_) (fun _ => ?_) | refine split_e (fun _ => ?_) (fun _ => ?_) | refine split_ne (fun _ => ?_) (fun _ => ?_))
  | walk_at "sv")
set_option hygiene true
noncomputable def low (c : Nat) : List Nat := (Txt.lower ⟨[c].toArray⟩).cps.toList
noncomputable def mapB3 (es : List DictEntry) (c : Nat) : List Nat := match tabGet es c with
  | .str x => x
  | _ => low c
theorem tabGet_form (es : List DictEntry) (i : Int) : tabGet es i = .none ∨ ∃ x, tabGet es i = .str x := by
  unfold tabGet
  split
  · exact .inr ⟨_, rfl⟩
  · exact .inl rfl
namespace L2
theorem w_in_b1 {m : Nat} {c : Nat} {Q : V → Prop} (h : Q (.bool (b1E.any fun e => Value.isInt c e.2))) : WF (CC D2 fs2 (m + 1)) "in_table_b1" [.str [c]] Q := by
  refine WF_of (fnT st4) [("code", ⟨.str [c], false⟩)] (by rfl) (by rfl) (by rfl) ?_
  refine WXs_cons ?_
  repeat' walk_at "st"
  exact h
theorem w_b3 {m : Nat} {c : Nat} {Q : V → Prop} (h : Q (.str (mapB3 b3E c))) : WF (CC D2 fs2 (m + 1)) "map_table_b3" [.str [c]] Q := by
  refine WF_of (fnT st6) [("code", ⟨.str [c], false⟩)] (by rfl) (by rfl) (by rfl) ?_
  refine WXs_cons ?_
  repeat' walk_at "st"
  have e0 : (D2.get (Value.ref 40) (c : Int)).1 = tabGet b3E c := rfl
  rw [e0]
  unfold mapB3 at h
  rcases tabGet_form b3E c with e | ⟨x, e⟩
  · rw [e] at h ⊢
    repeat' walk_at "st"
    refine c_inn (.inl ⟨rfl, ?_⟩)
    repeat' walk_at "st"
    exact h
  · rw [e] at h ⊢
    repeat' walk_at "st"
    refine c_inn (.inr ⟨⟨_, rfl⟩, ?_⟩)
    repeat' walk_at "st"
    exact h
theorem w_subst {m : Nat} {a b : Nat} {Q : V → Prop} (h : Q (.int (if a = b then 0 else if low a = low b then 1 else 2))) : WF (CC D2 fs2 (m + 1)) "_substitution_cost" [.str [a], .str [b]] Q := by
  unfold low at h
  refine WF_of (fnT st11) [("ch_a", ⟨.str [a], false⟩), ("ch_b", ⟨.str [b], false⟩)] (by rfl) (by rfl) (by rfl) ?_
  refine WXs_cons ?_
  repeat' walk_at "st"
  · rename_i hc
    rw [if_pos (by simpa using hc)] at h; exact h
  · rename_i hc hd
    rw [if_neg (by simpa using hc), if_pos hd] at h; exact h
  · rename_i hc hd
    rw [if_neg (by simpa using hc), if_neg hd] at h; exact h
theorem w_ap {m : Nat} {z : Int} {Q : V → Prop} (hz : z.natAbs < 16 ^ 1000) (h : Q (.bytes ((digs z.natAbs).map fun d => UInt8.ofNat (65 + d)))) : WF (CC D2 fs2 (m + 1)) "Int2AP" [.int z] Q := by
  refine WF_of (fnT st1) [("num", ⟨.int z, false⟩)] (by rfl) (by rfl) (by rfl) ?_
  refine WXs_cons ?_
  repeat' walk_at "st"
  refine WX_while (fun i l => ∃ (n : Nat) (v : List Nat) (j : Ls), l = (("num", ⟨.int n, false⟩) :: ("val", ⟨.bytes (v.map fun d => UInt8.ofNat (65 + d)), false⟩) :: ("AP", ⟨.bytes [65, 66, 67, 68, 69, 70, 71, 72, 73, 74, 75, 76, 77, 78, 79, 80], false⟩) :: j : List (Str × Loc)) ∧ Only ["mod"] j ∧ n < 16 ^ i ∧ digs z.natAbs = digs n ++ v ∧ v.length + i ≤ 1000) 1000 (by decide) ⟨z.natAbs, [], [], rfl, only_nil, hz, by simp, by simp⟩ ?_
  rintro i l ⟨n, v, j, rfl, hj, hn, hd, hl⟩
  repeat' walk_at "st"
  · rename_i hc
    cases i with
    | zero => exact absurd (by lia) hc
    | succ i =>
      refine ⟨i, rfl, ?_⟩
      repeat' walk_at "st"
      have h16 : (n : Int) % 16 < 16 ∧ 0 ≤ (n : Int) % 16 := by lia
      have e1 : ([65, 66, 67, 68, 69, 70, 71, 72, 73, 74, 75, 76, 77, 78, 79, 80] : List UInt8).length = 16 := rfl
      refine cut_bytes (by lia) (by lia) (by rw [e1]; lia) (by rw [e1]; lia) (by decide) ?_
      have key : List.drop ((n : Int) % 16).toNat (List.take ((n : Int) % 16 + 1).toNat [65, 66, 67, 68, 69, 70, 71, 72, 73, 74, 75, 76, 77, 78, 79, 80]) = [n % 16].map fun d => UInt8.ofNat (65 + d) := by
        have e2 : ((n : Int) % 16).toNat = n % 16 := by lia
        have e3 : ((n : Int) % 16 + 1).toNat = n % 16 + 1 := by lia
        rw [e2, e3]
        have : ∀ d < 16, List.drop d (List.take (d + 1) [65, 66, 67, 68, 69, 70, 71, 72, 73, 74, 75, 76, 77, 78, 79, 80]) = [d].map fun d => UInt8.ofNat (65 + d) := by decide
        exact this _ (by lia)
      rw [key]
      have hnn : n ≠ 0 := by lia
      repeat' walk_at "st"
      rw [← List.map_append]
      refine ⟨i, Nat.le_refl _, n / 16, n % 16 :: v, _, rfl, by walk_at "only", ?_, ?_, ?_⟩
      · rw [Nat.pow_succ] at hn; lia
      · rw [hd, digs_eq, dif_neg hnn]; simp
      · simp only [List.length_cons]; lia
  · rename_i hc
    obtain rfl : n = 0 := by lia
    rw [hd] at h
    rw [digs_eq, dif_pos rfl, List.nil_append] at h; exact h
end L2
noncomputable def subN (x y : Nat) : Nat := if x = y then 0 else if low x = low y then 1 else 2
theorem take_rev (l : List Nat) (k : Nat) : (l.reverse.drop k).reverse = l.take (l.length - k) := by
  rw [List.drop_reverse, List.reverse_reverse]
theorem getD_rev {l : List Nat} {j : Nat} (h : j < l.length) : l.reverse.getD j 0 = l.getD (l.length - 1 - j) 0 := by
  rw [List.getD_eq_getElem?_getD, List.getD_eq_getElem?_getD, List.getElem?_reverse h]
namespace L2
theorem w_subst' {m : Nat} {a b : Nat} {Q : V → Prop} (h : Q (.int (subN a b : Nat))) : WF (CC D2 fs2 (m + 1)) "_substitution_cost" [.str [a], .str [b]] Q := by
  refine w_subst ?_
  have e : (if a = b then (0 : Int) else if low a = low b then 1 else 2) = (subN a b : Nat) := by
    unfold subN; split
    · rfl
    · split <;> rfl
  rw [e]; exact h
local macro_rules | `(tactic| walk_at "st") => `(tactic| (with_reducible refine w_subst' ?_))
noncomputable abbrev invR (a3 b3 row0 : List Nat) (mc pre j : Nat) : Nat → Ls → Prop := fun i l => ∃ (row : List Nat) (result : Nat) (jj : Ls), l = (("a", ⟨.str a3, false⟩) :: ("b", ⟨.str b3, false⟩) :: ("max_cost", ⟨.int mc, false⟩) :: ("pre", ⟨.int pre, false⟩) :: ("post", ⟨.int (-(j : Int)), false⟩) :: ("row", ⟨.list (row.map fun (x : Nat) => V.int x), true⟩) :: ("result", ⟨.int result, false⟩) :: jj : List (Str × Loc)) ∧
    Only ["bindex", "bchar", "distance", "minimum", "index", "substitute", "insert_delete"] jj ∧ row.length = a3.length ∧ outerN subN mc a3 b3 0 row0 0 = outerN subN mc a3 (b3.drop i) i row result
noncomputable abbrev invZ (a3 b3 row : List Nat) (mc pre j i : Nat) : Nat → Ls → Prop := fun t l => ∃ (cur : List Nat) (d r mn : Nat) (jj : Ls), l = (("a", ⟨.str a3, false⟩) :: ("b", ⟨.str b3, false⟩) :: ("max_cost", ⟨.int mc, false⟩) :: ("pre", ⟨.int pre, false⟩) :: ("post", ⟨.int (-(j : Int)), false⟩) :: ("row", ⟨.list (cur.map fun (x : Nat) => V.int x), true⟩) :: ("result", ⟨.int r, false⟩) :: jj : List (Str × Loc)) ∧
      Only ["bindex", "bchar", "distance", "minimum", "index", "substitute", "insert_delete"] jj ∧ jj.at "distance" = some (.int d) ∧ jj.at "minimum" = some (.int mn) ∧ jj.at "bchar" = some (.str [b3.getD i 0]) ∧ cur.length = a3.length ∧
      innerN subN (b3.getD i 0) a3 row (2 * i) (2 * i) 9223372036854775807 = (cur.take t ++ (innerN subN (b3.getD i 0) (a3.drop t) (cur.drop t) d r mn).1, (innerN subN (b3.getD i 0) (a3.drop t) (cur.drop t) d r mn).2)
theorem w_lev_rows {m : Nat} {a3 b3 : List Nat} {mc : Nat} {Q : V → Prop} {pre j : Nat} (q1 : 0 < a3.length) (q2 : a3.length ≤ 40) (q3 : b3.length ≤ 40) (q4 : a3.length ≤ b3.length) (h : Q (.int (sortedN subN mc a3 b3 : Nat))) :
    WXs (CC D2 fs2 (m + 1)) (fun x => List.lookup x (fnT st12).scope.names) 188 [("a", ⟨.str a3, false⟩), ("b", ⟨.str b3, false⟩), ("max_cost", ⟨.int mc, false⟩), ("pre", ⟨.int pre, false⟩), ("post", ⟨.int (-(j : Int)), false⟩)] ((fnT st12).body.drop 12) (Post Q) := by
  refine WXs_cons ?_
  unfold sortedN at h
  walk_at "st"
  repeat' ((fail_if_success (with_reducible show WX _ _ _ _ (.Assign _ _ _) _)); walk_at "st")
  · rename_i c1
    rw [if_pos (by lia)] at h; exact h
  rename_i c1
  rw [if_neg (by lia)] at h
  clear c1
  refine WX_newC rfl (.inr ⟨_, _, _, _, _, rfl⟩) (by walk_at "cl") ?_ rfl rfl rfl
  refine WE_listRange ?_ rfl rfl rfl rfl
  refine WI_range ?_ rfl rfl rfl
  repeat' walk_at "st"
  refine rng3 (m := a3.length) (by decide) (by unfold lenLid; lia) (by lia) ?_
  have er : (List.range a3.length).map (fun (i : Nat) => V.int (2 + i * 2)) = ((List.range a3.length).map fun i => 2 + i * 2).map fun (x : Nat) => V.int x := by
    rw [List.map_map]; rfl
  rw [er]
  have lr : ((List.range a3.length).map fun i => 2 + i * 2).length = a3.length := by simp
  generalize (List.range a3.length).map (fun i => 2 + i * 2) = row0 at *
  clear er
  repeat' walk_at "st"
  refine WX_forC (invR a3 b3 row0 mc pre j) (by walk_at "cl") ?_ rfl
  refine WI_range ?_ rfl (by walk_at "at") rfl
  repeat' walk_at "st"
  refine rng1 rfl (by unfold lenLid; lia) ?_
  refine ⟨⟨row0, 0, [], rfl, only_nil, lr, by rw [List.drop_zero]⟩, ?_, ?_⟩
  · rintro i v l hv ⟨row, result, jj, rfl, hj, hr, ho⟩
    obtain ⟨hi, rfl⟩ := range_item hv
    clear hv
    refine ⟨rfl, ?_⟩
    repeat' walk_at "st"
    refine WX_forC (invZ a3 b3 row mc pre j i) (by walk_at "cl") ?_ rfl
    refine WI_range ?_ rfl (by walk_at "at") rfl
    repeat' walk_at "st"
    refine rng1 rfl (by unfold lenLid; lia) ?_
    refine ⟨⟨row, i * 2, i * 2, 9223372036854775807, _, rfl, by walk_at "only", by walk_at "atv", by walk_at "atv", by walk_at "atv", hr, ?_⟩, ?_, ?_⟩
    · rw [Nat.mul_comm 2 i]; simp
    · clear hj h
      rintro t v l hv ⟨cur, d, r, mn, j2, rfl, hj, g1, g2, g3, hc, hin⟩
      obtain ⟨ht, rfl⟩ := range_item hv
      clear hv
      refine ⟨rfl, ?_⟩
      repeat' walk_at "st"
      have e1 : min (min (r : Int) ((cur.getD t 0 : Nat) : Int) + 2) ((d : Int) + (subN (b3.getD i 0) (a3.getD t 0) : Nat)) = ((min (min r (cur.getD t 0) + 2) (d + subN (b3.getD i 0) (a3.getD t 0)) : Nat) : Int) := by
        rw [cast_min, Int.natCast_add, cast_min, Int.natCast_add]; rfl
      rw [e1]
      refine ⟨_, rfl, rfl, by lia, by rw [List.length_map]; lia, by rw [List.length_map]; unfold lenLid; lia, ?_⟩
      rw [Int.toNat_natCast, show (V.int ((min (min r (cur.getD t 0) + 2) (d + subN (b3.getD i 0) (a3.getD t 0)) : Nat) : Int)) = (fun (x : Nat) => V.int x) (min (min r (cur.getD t 0) + 2) (d + subN (b3.getD i 0) (a3.getD t 0))) from rfl, ← List.map_set]
      rw [innerN_step subN _ (by lia) (by lia)] at hin
      generalize min (min r (cur.getD t 0) + 2) (d + subN (b3.getD i 0) (a3.getD t 0)) = res at *
      have fin : ∀ mn', mn' = (if res < mn then res else mn) → innerN subN (b3.getD i 0) a3 row (2 * i) (2 * i) 9223372036854775807 = ((cur.set t res).take (t + 1) ++ (innerN subN (b3.getD i 0) (a3.drop (t + 1)) ((cur.set t res).drop (t + 1)) (cur.getD t 0) res mn').1, (innerN subN (b3.getD i 0) (a3.drop (t + 1)) ((cur.set t res).drop (t + 1)) (cur.getD t 0) res mn').2) := by
        rintro mn' rfl
        rw [hin, List.drop_set_of_lt (by lia), List.take_succ]
        simp only [List.take_set_of_le (Nat.le_refl t)]
        simp [show t < cur.length by lia]
      dsimp only
      clear e1 hin
      repeat' walk_at "st"
      · rename_i hc1
        refine ⟨cur.set t res, cur.getD t 0, res, res, _, rfl, by walk_at "only", by walk_at "atv", by walk_at "atv", by walk_at "atv", by rw [List.length_set]; exact hc, fin _ (by rw [if_pos (by lia)])⟩
      · rename_i hc1
        refine ⟨cur.set t res, cur.getD t 0, res, mn, _, rfl, by walk_at "only", by walk_at "atv", by walk_at "atv", by walk_at "atv", by rw [List.length_set]; exact hc, fin _ (by rw [if_neg (by lia)])⟩
    · rintro l ⟨cur, d, r, mn, j2, rfl, hj, g1, g2, g3, hc, hin⟩
      rw [List.length_map, List.length_range, List.take_of_length_le (by lia), List.drop_eq_nil_of_le (Nat.le_refl _)] at hin
      rw [innerN_nil] at hin
      dsimp only at hin
      rw [List.append_nil] at hin
      rw [List.drop_eq_getElem_cons hi] at ho
      rw [outerN_cons] at ho
      have eg : b3[i] = b3.getD i 0 := by rw [List.getD_eq_getElem?_getD, List.getElem?_eq_getElem hi]; rfl
      rw [eg, hin] at ho
      dsimp only at ho
      repeat' walk_at "st"
      · rename_i hc1
        rw [ho, if_pos (by lia)] at h
        exact h
      · rename_i hc1
        rw [if_neg (by lia)] at ho
        exact ⟨cur, r, _, rfl, by walk_at "only", hc, ho⟩
  · rintro l ⟨row, result, jj, rfl, hj, hr, ho⟩
    rw [List.length_map, List.length_range, List.drop_length] at ho
    rw [ho] at h
    repeat' walk_at "st"
    exact h
end L2
namespace L2
local macro_rules | `(tactic| walk_at "st") => `(tactic| (with_reducible refine w_subst' ?_))
theorem lt40 {n : Nat} (h : (40 : Int) < n) : 40 < n := by lia
theorem nlt40 {n : Nat} (h : ¬ (40 : Int) < n) : ¬ 40 < n := by omega
theorem toN {j n : Nat} : (-(j : Int) - 1 + n).toNat = n - 1 - j := by
  rw [Int.add_comm, Int.sub_eq_add_neg, ← Int.neg_add, ← Int.sub_eq_add_neg, Nat.sub_sub, Nat.add_comm 1 j]
  exact Int.toNat_sub n (j + 1)
noncomputable abbrev invP (a b : List Nat) (mc : Nat) : Nat → Ls → Prop := fun i l => ∃ (pre : Nat), l = ([("a", ⟨.str a, false⟩), ("b", ⟨.str b, false⟩), ("max_cost", ⟨.int mc, false⟩), ("pre", ⟨.int pre, false⟩)] : List (Str × Loc)) ∧ stripP a b = stripP (a.drop pre) (b.drop pre) ∧ pre ≤ a.length ∧ pre ≤ b.length ∧ i = a.length - pre
noncomputable abbrev endP (a b : List Nat) (mc : Nat) : Ls → Prop := fun l => ∃ (pre : Nat), l = ([("a", ⟨.str a, false⟩), ("b", ⟨.str b, false⟩), ("max_cost", ⟨.int mc, false⟩), ("pre", ⟨.int pre, false⟩)] : List (Str × Loc)) ∧ stripP a b = (a.drop pre, b.drop pre)
noncomputable abbrev invQ (a1 b1 : List Nat) (mc pre : Nat) : Nat → Ls → Prop := fun i l => ∃ (j : Nat), l = ([("a", ⟨.str a1, false⟩), ("b", ⟨.str b1, false⟩), ("max_cost", ⟨.int mc, false⟩), ("pre", ⟨.int pre, false⟩), ("post", ⟨.int (-(j : Int)), false⟩)] : List (Str × Loc)) ∧ stripP a1.reverse b1.reverse = stripP (a1.reverse.drop j) (b1.reverse.drop j) ∧ j ≤ a1.length ∧ j ≤ b1.length ∧ i = a1.length - j
noncomputable abbrev endQ (a1 b1 : List Nat) (mc pre : Nat) : Ls → Prop := fun l => ∃ (j : Nat), l = ([("a", ⟨.str a1, false⟩), ("b", ⟨.str b1, false⟩), ("max_cost", ⟨.int mc, false⟩), ("pre", ⟨.int pre, false⟩), ("post", ⟨.int (-(j : Int)), false⟩)] : List (Str × Loc)) ∧ stripP a1.reverse b1.reverse = (a1.reverse.drop j, b1.reverse.drop j) ∧ j ≤ a1.length ∧ j ≤ b1.length
noncomputable abbrev endS (Q : V → Prop) (mc pre j : Nat) : Ls → Prop := fun l => ∃ a3 b3 : List Nat, l = ([("a", ⟨.str a3, false⟩), ("b", ⟨.str b3, false⟩), ("max_cost", ⟨.int mc, false⟩), ("pre", ⟨.int pre, false⟩), ("post", ⟨.int (-(j : Int)), false⟩)] : List (Str × Loc)) ∧ 0 < a3.length ∧ a3.length ≤ 40 ∧ b3.length ≤ 40 ∧ a3.length ≤ b3.length ∧ Q (.int (sortedN subN mc a3 b3 : Nat))
theorem w_lev {m : Nat} {a b : List Nat} {mc : Nat} {Q : V → Prop} (ha : a.length ≤ 1000) (hb : b.length ≤ 1000) (h : Q (.int (levN subN a b mc : Nat))) : WF (CC D2 fs2 (m + 2)) "_levenshtein_distance" [.str a, .str b, .int mc] Q := by
  refine WF_of (fnT st12) [("a", ⟨.str a, false⟩), ("b", ⟨.str b, false⟩), ("max_cost", ⟨.int mc, false⟩)] (by rfl) (by rfl) (by rfl) ?_
  refine WXs_cons ?_
  repeat' walk_at "st"
  · rename_i hc
    rw [levN, if_pos hc] at h; exact h
  rename_i hc
  rw [levN, if_neg hc] at h
  clear hc
  refine WX_whileR (invP a b mc)
    (endP a b mc) (a.length) (by lia) ⟨0, rfl, rfl, by lia, by lia, rfl⟩ ?_ ?_
  · rintro i l ⟨pre, rfl, hs, h1, h2, rfl⟩
    repeat' walk_at "st"
    · rename_i c1 c2 c3
      simp only [List.length_drop] at c1 c2 c3
      refine ⟨a.length - pre - 1, (Nat.sub_add_cancel c1).symm, ?_⟩
      repeat' walk_at "st"
      refine ⟨a.length - (pre + 1), by lia, pre + 1, rfl, ?_, by lia, by lia, rfl⟩
      rw [hs, stripP_step (by lia) (by lia), if_pos (by simpa using c3)]
    · rename_i c1 c2 c3
      simp only [List.length_drop] at c1 c2 c3
      exact ⟨pre, rfl, by rw [hs, stripP_step (by lia) (by lia), if_neg (by simpa using c3)]⟩
    · rename_i c1 c2
      simp only [List.length_drop] at c1 c2
      exact ⟨pre, rfl, by rw [hs, stripP_nil (by lia)]⟩
    · rename_i c1
      simp only [List.length_drop] at c1
      exact ⟨pre, rfl, by rw [hs, stripP_nil (by lia)]⟩
  rintro l ⟨pre, rfl, hs⟩
  unfold cutN at h
  rw [hs] at h
  dsimp only at h
  have ha1 : (a.drop pre).length ≤ 1000 := by rw [List.length_drop]; lia
  have hb1 : (b.drop pre).length ≤ 1000 := by rw [List.length_drop]; lia
  repeat' walk_at "st"
  clear hs
  generalize a.drop pre = a1 at *
  generalize b.drop pre = b1 at *
  refine WX_whileR (invQ a1 b1 mc pre)
    (endQ a1 b1 mc pre) (a1.length) (by lia) ⟨0, rfl, rfl, by lia, by lia, rfl⟩ ?_ ?_
  · rintro i l ⟨j, rfl, hs, h1, h2, rfl⟩
    repeat' walk_at "st"
    · rename_i c1 c2 c3
      simp only [List.length_take, Nat.min_eq_left (Nat.sub_le _ _)] at c1 c2
      rw [toN, toN] at c3
      refine ⟨a1.length - j - 1, (Nat.sub_add_cancel c1).symm, ?_⟩
      repeat' walk_at "st"
      have e3 : -(j : Int) - 1 = -((j + 1 : Nat) : Int) := by lia
      rw [e3]
      refine ⟨a1.length - (j + 1), by lia, j + 1, rfl, ?_, by lia, by lia, rfl⟩
      rw [hs, stripP_step (by rw [List.length_reverse]; lia) (by rw [List.length_reverse]; lia), if_pos (by rw [getD_rev (by lia), getD_rev (by lia)]; simpa using c3)]
    · rename_i c1 c2 c3
      simp only [List.length_take, Nat.min_eq_left (Nat.sub_le _ _)] at c1 c2
      rw [toN, toN] at c3
      refine ⟨j, rfl, ?_, h1, h2⟩
      rw [hs, stripP_step (by rw [List.length_reverse]; lia) (by rw [List.length_reverse]; lia), if_neg (by rw [getD_rev (by lia), getD_rev (by lia)]; simpa using c3)]
    · rename_i c1 c2
      simp only [List.length_take, Nat.min_eq_left (Nat.sub_le _ _)] at c1 c2
      exact ⟨j, rfl, by rw [hs, stripP_nil (by simp only [List.length_reverse]; lia)], h1, h2⟩
    · rename_i c1
      simp only [List.length_take, Nat.min_eq_left (Nat.sub_le _ _)] at c1
      exact ⟨j, rfl, by rw [hs, stripP_nil (by simp only [List.length_reverse]; lia)], h1, h2⟩
  rintro l ⟨j, rfl, hs, h1, h2⟩
  rw [hs] at h
  dsimp only at h
  rw [take_rev, take_rev] at h
  have ha2 : (a1.take (a1.length - j)).length ≤ 1000 := by rw [List.length_take]; lia
  have hb2 : (b1.take (b1.length - j)).length ≤ 1000 := by rw [List.length_take]; lia
  repeat' ((fail_if_success (with_reducible show WX _ _ _ _ (.If _ _ _ _) _)); walk_at "st")
  clear hs h1 h2 ha1 hb1
  generalize a1.take (a1.length - j) = a2 at *
  generalize b1.take (b1.length - j) = b2 at *
  clear ha hb
  walk_at "st"
  repeat' ((fail_if_success (with_reducible show WX _ _ _ _ (.If _ _ _ _) _)); walk_at "st")
  rotate_left
  · rename_i n1 n2
    rw [coreN, if_pos (.inr (Nat.eq_zero_of_not_pos n2))] at h; exact h
  · rename_i n1
    rw [coreN, if_pos (.inl (Nat.eq_zero_of_not_pos n1))] at h; exact h
  rename_i n1 n2
  rw [coreN, if_neg (fun q => q.elim (Nat.ne_of_gt n1) (Nat.ne_of_gt n2))] at h
  walk_at "st"
  repeat' ((fail_if_success (with_reducible show WX _ _ _ _ (.If _ _ _ _) _)); walk_at "st")
  rotate_left
  · rename_i n3 n4
    rw [if_pos (.inr (lt40 n4))] at h; exact h
  · rename_i n3
    rw [if_pos (.inl (lt40 n3))] at h; exact h
  rename_i n3 n4
  have m3 := nlt40 n3
  have m4 := nlt40 n4
  clear n3 n4
  rw [if_neg (fun q => q.elim m3 m4)] at h
  refine WX_ifR (endS Q mc pre j) ?_ ?_
  · repeat' walk_at "st"
    · rename_i c1
      have c1 := Int.ofNat_lt.mp c1
      rw [if_pos c1] at h
      exact ⟨b2, a2, rfl, n2, Nat.le_of_not_lt m4, Nat.le_of_not_lt m3, Nat.le_of_lt c1, h⟩
    · rename_i c1
      have c1 : ¬ b2.length < a2.length := fun q => c1 (Int.ofNat_lt.mpr q)
      rw [if_neg c1] at h
      exact ⟨a2, b2, rfl, n1, Nat.le_of_not_lt m3, Nat.le_of_not_lt m4, Nat.le_of_not_lt c1, h⟩
  rintro l ⟨a3, b3, rfl, q1, q2, q3, q4, h⟩
  exact w_lev_rows q1 q2 q3 q4 h
end L2
theorem modN (d : Int) (k : Nat) (hk : 0 < k) : ∃ p : Nat, p < k ∧ d % (k : Int) = p := by
  have h0 : (0 : Int) < k := Int.ofNat_lt.mpr hk
  obtain ⟨p, hp⟩ := Int.eq_ofNat_of_zero_le (Int.emod_nonneg d (Int.ne_of_gt h0))
  exact ⟨p, Int.ofNat_lt.mp (hp ▸ Int.emod_lt_of_pos d h0), hp⟩
theorem lt3 {p : Nat} (h : p < 3) : p = 0 ∨ p = 1 ∨ p = 2 := by lia
/-- what table B.3 and B.1 leave of a text -/
noncomputable def prepL (b1 : Nat → Bool) (b3 : Nat → List Nat) (t : List Nat) : List Nat := ((t.filter fun c => !b1 c).map b3).flatten
theorem prep_app (b1 : Nat → Bool) (b3 : Nat → List Nat) (a b : List Nat) : prepL b1 b3 (a ++ b) = prepL b1 b3 a ++ prepL b1 b3 b := by
  unfold prepL; rw [List.filter_append, List.map_append, List.flatten_append]
theorem off97 {a c : Nat} (h : 97 ≤ c) : ((a : Int) + (c : Int) - 97).toNat = a + (c - 97) := by
  rw [← Nat.add_sub_assoc h, ← Int.natCast_add]
  exact Int.toNat_sub (a + c) 97
noncomputable def pairs17 : List (List Nat × Int) := [([102, 102], 64256), ([102, 105], 64257), ([102, 108], 64258), ([112, 97], 13184), ([110, 97], 13185), ([109, 97], 13187), ([107, 97], 13188), ([107, 98], 13189), ([109, 98], 13190), ([103, 98], 13191), ([112, 102], 13194), ([110, 102], 13195), ([100, 98], 13256), ([104, 112], 13259), ([107, 107], 13261), ([107, 109], 13262), ([110, 111], 8470)]
theorem lookup_memD {x : List Nat} {i : Int} : ∀ {kv : List (List Nat × Int)}, kv.lookup x = some i → (x, i) ∈ kv
  | [], h => by cases h
  | (y, e) :: r, h => by
    rw [List.lookup_cons] at h
    by_cases hy : (x == y) = true
    · rw [hy] at h
      cases h
      obtain rfl := eq_of_beq hy
      exact .head _
    · rw [show (x == y) = false from by simpa using hy] at h
      exact .tail _ (lookup_memD h)
namespace L2
noncomputable def b1 (c : Nat) : Bool := b1E.any fun e => Value.isInt c e.2
noncomputable abbrev prep : List Nat → List Nat := prepL b1 (mapB3 b3E)
theorem tab_pair : (pairs17.all fun p => !b1 p.2.toNat && mapB3 b3E p.2.toNat == p.1 && decide (p.1.length = 2) && decide (0 ≤ p.2) && decide (p.2 ≤ 65000)) = true := by decide +kernel
theorem tab_alpha : ([65, 97, 119808, 120432].all fun a => (List.range 16).all fun i => !b1 (a + i) && mapB3 b3E (a + i) == [97 + i]) = true := by decide +kernel
theorem tab_rider : ([173, 8203, 65039].all fun i => b1 i) = true := by decide +kernel
theorem prep_pair {x : List Nat} {i : Int} (h : pairs17.lookup x = some i) : prep [i.toNat] = x ∧ x.length = 2 ∧ 0 ≤ i ∧ i ≤ 65000 := by
  have := List.all_eq_true.mp tab_pair _ (lookup_memD h)
  simp only [Bool.and_eq_true, decide_eq_true_eq, Bool.not_eq_true', beq_iff_eq] at this
  obtain ⟨⟨⟨⟨h1, h2⟩, h3⟩, h4⟩, h5⟩ := this
  refine ⟨?_, h3, h4, h5⟩
  show prepL b1 (mapB3 b3E) [i.toNat] = x
  unfold prepL
  simp [h1, h2]
theorem prep_alpha {a i : Nat} (ha : a ∈ [65, 97, 119808, 120432]) (hi : i < 16) : prep [a + i] = [97 + i] := by
  have := List.all_eq_true.mp (List.all_eq_true.mp tab_alpha a ha) i (List.mem_range.mpr hi)
  simp only [Bool.and_eq_true, Bool.not_eq_true', beq_iff_eq] at this
  show prepL b1 (mapB3 b3E) [a + i] = _
  unfold prepL
  simp [this.1, this.2]
theorem prep_rider {r : List Nat} (h : r ∈ ([[], [173], [8203], [], [65039]] : List (List Nat))) : prep r = [] ∧ r.length ≤ 1 := by
  have t := tab_rider
  simp only [List.all_cons, List.all_nil, Bool.and_eq_true, Bool.and_true] at t
  obtain ⟨t1, t2, t3⟩ := t
  simp only [List.mem_cons, List.not_mem_nil, or_false] at h
  have key : ∀ c, b1 c = true → prep [c] = [] := fun c hc => by
    show prepL b1 (mapB3 b3E) [c] = []
    unfold prepL; simp [hc]
  rcases h with rfl | rfl | rfl | rfl | rfl
  · exact ⟨rfl, by decide⟩
  · exact ⟨key _ t1, by decide⟩
  · exact ⟨key _ t2, by decide⟩
  · exact ⟨rfl, by decide⟩
  · exact ⟨key _ t3, by decide⟩
noncomputable abbrev invT (ls : List Nat) (d : Int) : Nat → Ls → Prop := fun i l => ∃ (p : Nat) (t : List Nat) (jj : Ls), l = (("letters", ⟨.str ls, false⟩) :: ("draw", ⟨.int d, false⟩) :: ("pairs", ⟨.dict pairs17, false⟩) :: ("alphabets", ⟨.list (([65, 97, 119808, 120432] : List Int).map .int), false⟩) :: ("riders", ⟨.list (([[], [173], [8203], [], [65039]] : List (List Nat)).map .str), false⟩) :: ("typed", ⟨.str t, false⟩) :: ("place", ⟨.int p, false⟩) :: jj : List (Str × Loc)) ∧
      Only ["n", "pair"] jj ∧ p ≤ ls.length ∧ prep t = ls.take p ∧ t.length ≤ 2 * p ∧ i = ls.length - p
noncomputable abbrev endT (ls : List Nat) (d : Int) : Ls → Prop := fun l => ∃ (t : List Nat) (jj : Ls), l = (("letters", ⟨.str ls, false⟩) :: ("draw", ⟨.int d, false⟩) :: ("pairs", ⟨.dict pairs17, false⟩) :: ("alphabets", ⟨.list (([65, 97, 119808, 120432] : List Int).map .int), false⟩) :: ("riders", ⟨.list (([[], [173], [8203], [], [65039]] : List (List Nat)).map .str), false⟩) :: ("typed", ⟨.str t, false⟩) :: jj : List (Str × Loc)) ∧ prep t = ls ∧ t.length ≤ 8
noncomputable abbrev midT (ls : List Nat) (d : Int) (n p : Nat) : Ls → Prop := fun l => ∃ (p2 : Nat) (t2 : List Nat) (j2 : Ls), l = (("letters", ⟨.str ls, false⟩) :: ("draw", ⟨.int d, false⟩) :: ("pairs", ⟨.dict pairs17, false⟩) :: ("alphabets", ⟨.list (([65, 97, 119808, 120432] : List Int).map .int), false⟩) :: ("riders", ⟨.list (([[], [173], [8203], [], [65039]] : List (List Nat)).map .str), false⟩) :: ("typed", ⟨.str t2, false⟩) :: ("place", ⟨.int p2, false⟩) :: j2 : List (Str × Loc)) ∧
        Only ["n", "pair"] j2 ∧ j2.at "n" = some (.int n) ∧ p < p2 ∧ p2 ≤ ls.length ∧ prep t2 = ls.take p2 ∧ t2.length + 1 ≤ 2 * p2
theorem w_typed {m : Nat} {ls : List Nat} {d : Int} {Q : V → Prop} (hl : ls.length ≤ 4) (hc : ∀ c ∈ ls, 97 ≤ c ∧ c < 113) (h : ∀ t, prep t = ls → t.length ≤ 8 → Q (.str t)) : WF (CC D2 fs2 (m + 1)) "_law_typed" [.str ls, .int d] Q := by
  have hlid : lenLid = 100000 := rfl
  refine WF_of (fnT st14) [("letters", ⟨.str ls, false⟩), ("draw", ⟨.int d, false⟩)] (by rfl) (by rfl) (by rfl) ?_
  refine WXs_cons ?_
  refine WX_clean rfl rfl ?_ rfl
  refine WE_dict (kv := pairs17) (by rfl) (by decide +kernel) ?_
  refine then_put (by walk_at "pt") ?_
  refine WXs_cons ?_
  refine WX_clean rfl rfl ?_ rfl
  repeat' ((fail_if_success (with_reducible show WX _ _ _ _ (.Assign _ _ _) _)); walk_at "st")
  refine WX_clean rfl rfl ?_ rfl
  repeat' walk_at "st"
  have ea : ([V.int 65, V.int 97, V.int 119808, V.int 120432] : List V) = ([65, 97, 119808, 120432] : List Int).map .int := rfl
  have er : ([V.str (Str.ofString "").cps.toList, V.str [Int.toNat 173], V.str [Int.toNat 8203], V.str (Str.ofString "").cps.toList, V.str [Int.toNat 65039]] : List V) = ([[], [173], [8203], [], [65039]] : List (List Nat)).map .str := by rfl
  have e0 : (Str.ofString "").cps.toList = [] := by rfl
  rw [ea, er, e0]
  refine WX_whileR (invT ls d)
    (endT ls d)
    ls.length (by lia) ⟨0, [], [], rfl, only_nil, by lia, rfl, by simp, by lia⟩ ?_ ?_
  · rintro i l ⟨p, t, jj, rfl, hj, hp, ht, htl, rfl⟩
    have h5 : p < ls.length → (0 : Int) < 5 ^ (p : Int).toNat ∧ (5 : Int) ^ (p : Int).toNat < 1073741824 := fun hp => by
      have key : ∀ p : Nat, p < 4 → (0 : Int) < 5 ^ (p : Int).toNat ∧ (5 : Int) ^ (p : Int).toNat < 1073741824 := by decide
      exact key p (by lia)
    repeat' walk_at "st"
    · rename_i c1
      have c1 : p < ls.length := by lia
      have h5 := h5 c1
      refine ⟨ls.length - p - 1, (Nat.sub_add_cancel (Nat.sub_pos_of_lt c1)).symm, ?_⟩
      repeat' walk_at "st"
      generalize d / (5 : Int) ^ (p : Int).toNat = dd
      clear h5
      obtain ⟨n, hn, en⟩ : ∃ n : Nat, n < 20 ∧ dd % 20 = n := modN dd 20 (by decide)
      rw [en]
      refine cut_mid (i := p) (j := p + 2) rfl rfl hp (by lia) ?_
      repeat' ((fail_if_success (with_reducible show WX _ _ _ _ (.If _ _ _ _) _)); walk_at "st")
      refine WX_ifR (midT ls d n p) ?_ ?_
      · have one : ∀ (R : V → Prop), (∀ t2, prep t2 = ls.take (p + 1) → t2.length + 1 ≤ 2 * (p + 1) → R (.str t2)) → Pw (bltV "chr" [V.int (([65, 97, 119808, 120432] : List Int).getD ((n : Int) % 4).toNat 0 + ((ls.getD p 0 : Nat) : Int) - 97)]) fun v => AugOk .Add (.str t) v ∧ Pw (binV .Add (.str t) v) R := by
          intro R hR
          have hm : ls.getD p 0 ∈ ls := by
            rw [List.getD_eq_getElem?_getD, List.getElem?_eq_getElem c1]
            exact List.getElem_mem c1
          have hcc := hc _ hm
          obtain ⟨a, ha, ea⟩ : ∃ a : Nat, a ∈ [65, 97, 119808, 120432] ∧ ([65, 97, 119808, 120432] : List Int).getD ((n : Int) % 4).toNat 0 = a := by
            have key : ∀ k < 4, ([65, 97, 119808, 120432] : List Int).getD k 0 = (([65, 97, 119808, 120432] : List Nat).getD k 0 : Nat) ∧ ([65, 97, 119808, 120432] : List Nat).getD k 0 ∈ [65, 97, 119808, 120432] := by decide
            have := key ((n : Int) % 4).toNat (by lia)
            exact ⟨_, this.2, this.1⟩
          have ha2 : a ≤ 120432 := by
            simp only [List.mem_cons, List.not_mem_nil, or_false] at ha; lia
          rw [ea]
          refine f_chr (by lia) ⟨.str, b_cat (by simp [hlid]; lia) (hR _ ?_ (by simp; lia))⟩
          have e1 : ((a : Int) + ((ls.getD p 0 : Nat) : Int) - 97).toNat = a + (ls.getD p 0 - 97) := off97 hcc.1
          have e2 : 97 + (ls.getD p 0 - 97) = ls.getD p 0 := by lia
          rw [e1]
          show prepL b1 (mapB3 b3E) (t ++ _) = _
          rw [prep_app]
          have q := prep_alpha ha (i := ls.getD p 0 - 97) (by lia)
          rw [e2] at q
          rw [show prepL b1 (mapB3 b3E) t = ls.take p from ht, show prepL b1 (mapB3 b3E) [a + (ls.getD p 0 - 97)] = _ from q]
          rw [List.take_add_one, List.getElem?_eq_getElem c1, List.getD_eq_getElem?_getD, List.getElem?_eq_getElem c1]; rfl
        have hjn : (Ls.put (jj.put "n" ⟨.int n, false⟩) "pair" ⟨.str ((ls.take (p + 2)).drop p), false⟩).at "n" = some (.int n) := by walk_at "at"
        cases hlk : pairs17.lookup ((ls.take (p + 2)).drop p) with
        | none =>
          repeat' walk_at "st"
          · rw [hlk]
            refine split_f ?_
            repeat' walk_at "st"
            refine one _ fun t2 h1 h2 => ?_
            repeat' walk_at "st"
            exact ⟨p + 1, t2, _, rfl, by walk_at "only", by walk_at "atv", by lia, by lia, h1, h2⟩
          · refine one _ fun t2 h1 h2 => ?_
            repeat' walk_at "st"
            exact ⟨p + 1, t2, _, rfl, by walk_at "only", by walk_at "atv", by lia, by lia, h1, h2⟩
        | some ii =>
          obtain ⟨g1, g2, g3, g4⟩ := prep_pair hlk
          repeat' walk_at "st"
          · rw [hlk]
            refine split_t ?_
            repeat' walk_at "st"
            refine i_dict hlk ?_
            repeat' walk_at "st"
            have g2' := g2
            rw [List.length_drop, List.length_take] at g2'
            refine ⟨p + 2, _, _, rfl, by walk_at "only", by walk_at "atv", by lia, by lia, ?_, by simp; lia⟩
            show prepL b1 (mapB3 b3E) (t ++ _) = _
            rw [prep_app, show prepL b1 (mapB3 b3E) t = ls.take p from ht, show prepL b1 (mapB3 b3E) [ii.toNat] = _ from g1]
            rw [show ls.take p = (ls.take (p + 2)).take p from by rw [List.take_take, Nat.min_eq_left (by lia)], List.take_append_drop]
          · refine one _ fun t2 h1 h2 => ?_
            repeat' walk_at "st"
            exact ⟨p + 1, t2, _, rfl, by walk_at "only", by walk_at "atv", by lia, by lia, h1, h2⟩
      · rintro l ⟨p2, t2, j2, rfl, hj2, hn2, hp2, hp3, ht2, htl2⟩
        repeat' walk_at "st"
        have hr : ([[], [173], [8203], [], [65039]] : List (List Nat)).getD ((n : Int) / 4).toNat [] ∈ ([[], [173], [8203], [], [65039]] : List (List Nat)) := by
          have key : ∀ k < 5, ([[], [173], [8203], [], [65039]] : List (List Nat)).getD k [] ∈ ([[], [173], [8203], [], [65039]] : List (List Nat)) := by decide
          exact key _ (by lia)
        refine i_strs (by lia) (by show ((n : Int) / 4) < (5 : Nat); lia) (by show (5 : Nat) ≤ lenLid; rw [hlid]; decide) ?_
        generalize ([[], [173], [8203], [], [65039]] : List (List Nat)).getD ((n : Int) / 4).toNat [] = rr at *
        obtain ⟨q1, q2⟩ := prep_rider hr
        refine ⟨.str, b_cat (by rw [hlid]; lia) ?_⟩
        repeat' walk_at "st"
        refine ⟨ls.length - p2, by lia, p2, _, _, rfl, by walk_at "only", hp3, ?_, by rw [List.length_append]; lia, rfl⟩
        show prepL b1 (mapB3 b3E) (t2 ++ _) = _
        rw [prep_app, show prepL b1 (mapB3 b3E) rr = [] from q1, List.append_nil]; exact ht2
    · rename_i c1
      have c1 : p = ls.length := by lia
      subst c1
      rw [List.take_length] at ht
      exact ⟨t, _, rfl, ht, by lia⟩
  · rintro l ⟨t, jj, rfl, ht, htl⟩
    repeat' walk_at "st"
    exact h t ht htl
end L2
namespace L2
theorem w_prepared {m : Nat} {t : List Nat} {Q : V → Prop} (hl : t.length ≤ 100) (hp : (prep t).length ≤ 100) (h : Q (.str (prep t))) : WF (CC D2 fs2 (m + 2)) "_law_prepared" [.str t] Q := by
  have hlid : lenLid = 100000 := rfl
  refine WF_of (fnT st15) [("typed", ⟨.str t, false⟩)] (by rfl) (by rfl) (by rfl) ?_
  refine WXs_cons ?_
  repeat' ((fail_if_success (with_reducible show WE _ _ _ _ (.ListComp _ _ _ _) _)); walk_at "st")
  refine' WE_compIf (fun (c : Nat) => V.str [c]) t (fun c => V.str (mapB3 b3E c)) (fun c => !b1 c) ?k1 ?k2 rfl rfl rfl
  case k1 => walk_at "cp"
  refine WI_name ?_
  repeat' walk_at "st"
  refine it_str (by lia) ⟨rfl, by lia, fun c _ => ?_, fun c _ _ => ?_, ?_⟩
  · repeat' walk_at "st"
    refine w_in_b1 ?_
    repeat' walk_at "st"
    rfl
  · repeat' walk_at "st"
    refine w_b3 ?_
    rfl
  · have e : (t.filter fun c => !b1 c).map (fun c => V.str (mapB3 b3E c)) = ((t.filter fun c => !b1 c).map (mapB3 b3E)).map .str := by rw [List.map_map]; rfl
    rw [e]
    refine WEs_nil ?_
    refine m_join (by decide +kernel) (by show (prep t).length ≤ _; lia) ?_
    repeat' walk_at "st"
    exact h
end L2
section
variable {g : Cfg} {k : Kd} {n : Nat} {l : Ls}
/-- a loop turn by turn -/
noncomputable def Unr (g : Cfg) (k : Kd) (n : Nat) (x : Str) (body : List Stmt) (Q : Fl → Ls → Prop) : List V → Ls → Prop
  | [], l => Q .next l
  | v :: r, l => isAtom v = true ∧ WXs g k n (l.put x ⟨v, false⟩) body (Turn (Unr g k n x body Q r) Q)
end
namespace L2
theorem w_choices {m : Nat} {s : Int} {Q : V → Prop} (h0 : 0 ≤ s) (h1 : s ≤ 100) (h : Q (.int (s * (s - 1) * (s - 2) * (s - 3) / 24))) : WF (CC D2 fs2 (m + 1)) "_law_choices" [.int s] Q := by
  refine WF_of (fnT st17) [("size", ⟨.int s, false⟩)] (by rfl) (by rfl) (by rfl) ?_
  refine WXs_cons ?_
  repeat' ((fail_if_success (with_reducible show Pw (binV .Mult _ _) _)); walk_at "st")
  refine b_mul (.inl (by omega)) ?_
  repeat' ((fail_if_success (with_reducible show Pw (binV .Mult _ _) _)); walk_at "st")
  refine b_mul (.inr (by omega)) ?_
  repeat' ((fail_if_success (with_reducible show Pw (binV .Mult _ _) _)); walk_at "st")
  refine b_mul (.inr (by omega)) ?_
  repeat' walk_at "st"
  exact h
noncomputable abbrev invK : Nat → Ls → Prop := fun i l => ∃ (lf pk : List Nat) (dd : Int) (jj : Ls), l = (("draw", ⟨.int dd, false⟩) :: ("left", ⟨.str lf, false⟩) :: ("pack", ⟨.str pk, false⟩) :: jj : List (Str × Loc)) ∧
    Only ["k"] jj ∧ lf.length = 4 - i ∧ pk.length ≤ 4 ∧ (pk ++ lf).Perm [48, 49, 50, 51]
theorem w_pack {m : Nat} {d : Int} {Q : V → Prop} (h : ∀ p : List Nat, p.Perm [48, 49, 50, 51] → Q (.str p)) : WF (CC D2 fs2 (m + 1)) "_law_pack" [.int d] Q := by
  have hlid : lenLid = 100000 := rfl
  refine WF_of (fnT st18) [("draw", ⟨.int d, false⟩)] (by rfl) (by rfl) (by rfl) ?_
  refine WXs_cons ?_
  repeat' walk_at "st"
  have e0 : (Str.ofString "").cps.toList = [] := by rfl
  have e4 : (Str.ofString "0123").cps.toList = [48, 49, 50, 51] := by rfl
  rw [e0, e4]
  refine WX_forC invK (by walk_at "cl") ?_ rfl
  refine WI_src ?_ rfl fun _ _ => rfl
  repeat' walk_at "st"
  refine it_list (by decide) ⟨⟨[48, 49, 50, 51], [], d, [], rfl, only_nil, rfl, by decide, .refl _⟩, ?_, ?_⟩
  · rintro i v l hv ⟨lf, pk, dd, jj, rfl, hj, hl, hpl, hp⟩
    obtain ⟨hi, rfl⟩ : i < 4 ∧ v = .int ((4 - i : Nat) : Int) := by
      match i, hv with
      | 0, hv => cases hv; exact ⟨by decide, rfl⟩
      | 1, hv => cases hv; exact ⟨by decide, rfl⟩
      | 2, hv => cases hv; exact ⟨by decide, rfl⟩
      | 3, hv => cases hv; exact ⟨by decide, rfl⟩
    refine ⟨rfl, ?_⟩
    obtain ⟨q, hq, eq⟩ := modN dd (4 - i) (by lia)
    have hk : (0 : Int) < ((4 - i : Nat) : Int) := by lia
    generalize hkk : (4 - i : Nat) = kk at hl hq eq hk
    repeat' walk_at "st"
    have e1 : ((dd % (kk : Int)).toNat) = q := by rw [eq]; exact Int.toNat_natCast q
    have e2 : ((dd % (kk : Int) + 1).toNat) = q + 1 := by rw [eq]; lia
    rw [e1, e2]
    have hlen := hp.length_eq
    rw [List.length_append] at hlen
    have h4 : ([48, 49, 50, 51] : List Nat).length = 4 := rfl
    rw [h4] at hlen
    have hql : q < lf.length := by lia
    refine ⟨_, _, _, _, rfl, by walk_at "only", ?_, ?_, ?_⟩
    · rw [List.length_append, List.length_take, List.length_drop]; lia
    · rw [List.length_append, List.length_singleton]; lia
    · refine List.Perm.trans ?_ hp
      rw [List.append_assoc]
      refine List.Perm.append_left pk ?_
      have el : lf = lf.take q ++ lf.getD q 0 :: lf.drop (q + 1) := by
        rw [List.getD_eq_getElem?_getD, List.getElem?_eq_getElem hql]
        show lf = lf.take q ++ lf[q] :: lf.drop (q + 1)
        rw [← List.drop_eq_getElem_cons hql, List.take_append_drop]
      exact (List.perm_middle (l₁ := lf.take q) (l₂ := lf.drop (q + 1)) (a := lf.getD q 0)).symm.trans (List.Perm.of_eq el.symm)
  · rintro l ⟨lf, pk, dd, jj, rfl, hj, hl, hpl, hp⟩
    have : lf = [] := List.length_eq_zero_iff.mp (by simpa using hl)
    subst this
    rw [List.append_nil] at hp
    repeat' walk_at "st"
    exact h pk hp
end L2
section
variable {g : Cfg} {k : Kd} {n : Nat} {l : Ls}
theorem WX_sort {x : Str} {px p : Pos} {e : Expr} {Q : Fl → Ls → Prop} {tx : Str} {L : Lam} {lc : Ls} (K : Nat → List Nat) (hd : dvE e = some (.sort tx L)) (his : SortIs e tx L) (hc : l.clean = lc) (hdt : g.dt L.pos)
    (hk : ∀ c ∈ tx.cps.toList, WE g.low (lamK L) n ((lc.capt (lamK L)).put L.x ⟨.str [c], false⟩) L.body fun v => v = .str (K c)) (hnd : tx.cps.toList.Nodup) (h2 : 2 ≤ tx.cps.toList.length) (h64 : tx.cps.toList.length < 64)
    (hlam : lamOk k lc L = true) (h1 : lc.at "sorted" = none) (h3 : kindOk k "sorted" = true) (hs : storable k x = true) (h : Q .next (l.put x ⟨.str (sortS (tx.cps.toList.map fun c => (c, K c))), false⟩)) :
    WX g k (n + 1) l (.Assign [.Name x px] e p) Q := by
  subst hc
  unfold WX
  rw [ex_asgD hd]
  unfold WE at hk
  have e1 : (tx.cps.toList.map fun c => (c, (strV (ev g.low (lamK L) n ((l.clean.capt (lamK L)).put L.x ⟨.str [c], false⟩) L.body).1).1)) = tx.cps.toList.map fun c => (c, K c) :=
    List.map_congr_left fun c hc => by rw [(hk c hc).2]; rfl
  refine ⟨⟨his, hdt, ⟨fun c hc => ⟨(hk c hc).1, ?_⟩, hnd, h2, h64, hlam, h1, h3⟩, hs⟩, ?_⟩
  · dsimp only; rw [(hk c hc).2]; trivial
  · show Q .next (l.put x ⟨.str (sortS (tx.cps.toList.map fun c => (c, (strV (ev g.low (lamK L) n ((l.clean.capt (lamK L)).put L.x ⟨.str [c], false⟩) L.body).1).1))), false⟩)
    rw [e1]; exact h
theorem WX_dcall {x f : Str} {px fp cp p : Pos} {args : List Expr} {Q : Fl → Ls → Prop} {lc : Ls} (hc : l.clean = lc) (hf : f = ("_law_orders" : Str)) (h : WEs g k n lc args fun vs => Pw (g.dn f vs) fun v => isDict v = true ∧ Q .next (l.put x ⟨v, false⟩))
    (hs : storable k x = true) (h1 : l.at f = none) (h2 : kindOk k f = true) : WX g k (n + 1) l (.Assign [.Name x px] (.Call (.Name f fp) args [] cp) p) Q := by
  subst hc
  unfold WX
  have hd : dvE (.Call (.Name f fp) args [] cp) = some (.call f args) := if_pos hf
  rw [ex_asgD hd]
  obtain ⟨a1, a2, a3, a4⟩ := h
  exact ⟨⟨a1, a2, a3, hs, h1, h2⟩, a4⟩
theorem WX_put {x : Str} {xp ip p : Pos} {i e : Expr} {Q : Fl → Ls → Prop} {kv : List (List Nat × Int)} (ho : l.loc x = some ⟨.dict kv, true⟩) (hl : kv.length ≤ lenLid)
    (h : WE g k n l e fun v => WE g k n l i fun j => ∃ y m, j = .str y ∧ v = .int m ∧ Q .next (l.put x ⟨.dict (putD kv y m), true⟩)) :
    WX g k (n + 1) l (.Assign [.Subscript (.Name x xp) i ip] e p) Q := by
  unfold WX; unfold WE at h; rw [ex_set0]
  unfold setW
  obtain ⟨h0, h1, y, m, e1, e2, hq⟩ := h
  rw [ho, e1, e2]
  exact ⟨⟨h0, h1, .inr ⟨kv, y, m, rfl, rfl, rfl, hl⟩⟩, hq⟩
theorem WE_dict0 {p : Pos} {Q : V → Prop} (hq : Q (.dict [])) : WE g k (n + 1) l (.Dict [] [] p) Q := ⟨.inr rfl, hq⟩
theorem m_getD {kv : List (List Nat × Int)} {x : List Nat} {d : Int} {Q : V → Prop} (h : Q (.int ((kv.lookup x).getD d))) : Pw (methV g (.dict kv) "get" [.str x, .int d]) Q := by
  have e : methV g (.dict kv) "get" [.str x, .int d] = (.int ((kv.lookup x).getD d), True) := rfl
  rw [e]; exact ⟨trivial, h⟩
theorem m_upper {x : List Nat} (hl : x.length ≤ lenLid) {Q : V → Prop} (h : Q (.str (Txt.upper ⟨x.toArray⟩).cps.toList)) : Pw (methV g (.str x) "upper" []) Q := by
  have e : methV g (.str x) "upper" [] = (.str (Txt.upper ⟨x.toArray⟩).cps.toList, x.length ≤ lenLid) := rfl
  rw [e]; exact ⟨hl, h⟩
theorem m_index {x y : List Nat} {Q : V → Prop} (hi : 0 ≤ Txt.find ⟨x.toArray⟩ ⟨y.toArray⟩) (h : Q (.int (Txt.find ⟨x.toArray⟩ ⟨y.toArray⟩))) : Pw (methV g (.str x) "index" [.str y]) Q := by
  have e : methV g (.str x) "index" [.str y] = (.int (Txt.find ⟨x.toArray⟩ ⟨y.toArray⟩), 0 ≤ Txt.find ⟨x.toArray⟩ ⟨y.toArray⟩) := rfl
  rw [e]; exact ⟨hi, h⟩
theorem it_dict {kv : List (List Nat × Int)} {Q : List V → Prop} (hl : kv.length ≤ lenLid) (h : Q (kv.map fun p => V.str p.1)) : Pw (itemsV (.dict kv)) Q := ⟨hl, h⟩
theorem f_intS {x : List Nat} {i : Int} {Q : V → Prop} (hx : PySem.intText? ⟨x.toArray⟩ = some i) (hl : x.length ≤ 100) (h : Q (.int i)) : Pw (bltV "int" [.str x]) Q := by
  have e : bltV "int" [.str x] = (.int ((PySem.intText? ⟨x.toArray⟩).getD 0), (PySem.intText? ⟨x.toArray⟩).isSome = true ∧ x.length ≤ 100) := rfl
  rw [e, hx]; exact ⟨⟨rfl, hl⟩, h⟩
theorem f_strI {i : Int} {Q : V → Prop} (hl : i.natAbs < 1000) (h : Q (.str (PySem.Str.ofString (toString i)).cps.toList)) : Pw (bltV "str" [.int i]) Q := by
  have e : bltV "str" [.int i] = (.str (PySem.Str.ofString (toString i)).cps.toList, i.natAbs < 1000) := rfl
  rw [e]; exact ⟨hl, h⟩
end
/-- the order in which the cards stand -/
noncomputable def dgO (a n k : Nat) : Nat := n / a ^ k % a
noncomputable def placesO (a n : Nat) : List Nat := sortS ([48, 49, 50, 51].map fun c => (c, [dgO a n (51 - c)]))
noncomputable def foundO (a i : Nat) : List (List Nat × Int) := (List.range i).foldl (fun kv n => putD kv (placesO a n) ((kv.lookup (placesO a n)).getD 0 + 1)) []
theorem foundO_succ (a i : Nat) : foundO a (i + 1) = putD (foundO a i) (placesO a i) (((foundO a i).lookup (placesO a i)).getD 0 + 1) := by
  unfold foundO
  rw [List.range_succ, List.foldl_append]; rfl
theorem put_length {kv : List (List Nat × Int)} {x : List Nat} {i : Int} : (putD kv x i).length ≤ kv.length + 1 := by
  unfold putD
  split
  · rw [List.length_map]; lia
  · rw [List.length_append]; exact Nat.le_refl _
theorem foundO_length (a : Nat) : ∀ i, (foundO a i).length ≤ i
  | 0 => Nat.le_refl _
  | i + 1 => by
    rw [foundO_succ]
    have := foundO_length a i
    have := put_length (kv := foundO a i) (x := placesO a i) (i := ((foundO a i).lookup (placesO a i)).getD 0 + 1)
    lia
/-- a map of the keys that keeps the order keeps the sort -/
noncomputable def insN (p : Nat × Nat) : List (Nat × Nat) → List (Nat × Nat)
  | [] => [p]
  | q :: r => if p.2 < q.2 then p :: q :: r else q :: insN p r
theorem insN_mem (p : Nat × Nat) : ∀ (l : List (Nat × Nat)), ∀ q ∈ insN p l, q = p ∨ q ∈ l
  | [], q, h => .inl (List.mem_singleton.mp h)
  | r :: l, q, h => by
    unfold insN at h
    split at h
    · exact List.mem_cons.mp h
    · rcases List.mem_cons.mp h with rfl | h
      · exact .inr (.head _)
      · exact (insN_mem p l q h).imp id fun h => .tail _ h
theorem ins_map {f : Nat → Nat} {S : Nat → Prop} (hf : ∀ x y, S x → S y → (f x < f y ↔ x < y)) {p : Nat × Nat} (hx : S p.2) : ∀ (l : List (Nat × Nat)), (∀ p ∈ l, S p.2) →
    insS (p.1, [f p.2]) (l.map fun p => (p.1, [f p.2])) = (insN p l).map fun p => (p.1, [f p.2])
  | [], _ => rfl
  | q :: l, h => by
    have e : ([f p.2] < [f q.2]) ↔ (p.2 < q.2) := by
      rw [← hf p.2 q.2 hx (h q (.head _))]
      constructor
      · intro r
        rcases List.cons_lt_cons_iff.mp r with r | ⟨_, r⟩
        · exact r
        · exact absurd r (List.lt_irrefl _)
      · exact fun r => List.cons_lt_cons_iff.mpr (.inl r)
    rw [List.map_cons]
    show (if [f p.2] < [f q.2] then _ else _) = (if p.2 < q.2 then p :: q :: l else q :: insN p l).map _
    by_cases r : p.2 < q.2
    · rw [if_pos (e.mpr r), if_pos r]; rfl
    · rw [if_neg (fun z => r (e.mp z)), if_neg r, ins_map hf hx l fun p hp => h p (.tail _ hp)]; rfl
theorem fold_map {f : Nat → Nat} {S : Nat → Prop} (hf : ∀ x y, S x → S y → (f x < f y ↔ x < y)) : ∀ (l acc : List (Nat × Nat)), (∀ p ∈ l, S p.2) → (∀ p ∈ acc, S p.2) →
    (l.map fun p => (p.1, [f p.2])).foldl (fun acc p => insS p acc) (acc.map fun p => (p.1, [f p.2])) = (l.foldl (fun acc p => insN p acc) acc).map fun p => (p.1, [f p.2])
  | [], _, _, _ => rfl
  | p :: l, acc, h, ha => by
    rw [List.map_cons, List.foldl_cons, List.foldl_cons, ins_map hf (h p (.head _)) acc ha]
    exact fold_map hf l _ (fun q hq => h q (.tail _ hq)) fun q hq => by
      rcases insN_mem p acc q hq with rfl | hq
      · exact h _ (.head _)
      · exact ha q hq
theorem sort_map {f g : Nat → Nat} {S : Nat → Prop} (hf : ∀ x y, S x → S y → (f x < f y ↔ x < y)) {cs : List Nat} (hS : ∀ c ∈ cs, S (g c)) : sortS (cs.map fun c => (c, [f (g c)])) = sortS (cs.map fun c => (c, [g c])) := by
  have e1 : (cs.map fun c => (c, [f (g c)])) = (cs.map fun c => (c, g c)).map fun p => (p.1, [f p.2]) := by rw [List.map_map]; rfl
  have e2 : (cs.map fun c => (c, [g c])) = (cs.map fun c => (c, g c)).map fun p => (p.1, [id p.2]) := by rw [List.map_map]; rfl
  have hm : ∀ p ∈ (cs.map fun c => (c, g c)), S p.2 := fun p hp => by
    obtain ⟨c, hc, rfl⟩ := List.mem_map.mp hp
    exact hS c hc
  have a1 := fold_map hf (cs.map fun c => (c, g c)) [] hm (fun p hp => by cases hp)
  have a2 := fold_map (f := id) (S := S) (fun _ _ _ _ => Iff.rfl) (cs.map fun c => (c, g c)) [] hm (fun p hp => by cases hp)
  unfold sortS
  rw [e1, e2]
  have a1 : List.foldl (fun acc p => insS p acc) [] ((cs.map fun c => (c, g c)).map fun p => (p.1, [f p.2])) = _ := a1
  have a2 : List.foldl (fun acc p => insS p acc) [] ((cs.map fun c => (c, g c)).map fun p => (p.1, [id p.2])) = _ := a2
  rw [a1, a2, List.map_map, List.map_map]
  rfl
theorem padS_four {a b c d : Nat} (ha : a < 16) (hb : b < 16) (hc : c < 16) (hd : d < 16) : padS 4 (a * 4096 + b * 256 + c * 16 + d) = [a, b, c, d] := by
  have e3 : (a * 4096 + b * 256 + c * 16 + d) % 16 = d := by lia
  have e2 : (a * 4096 + b * 256 + c * 16 + d) / 16 % 16 = c := by lia
  have e1 : (a * 4096 + b * 256 + c * 16 + d) / 16 / 16 % 16 = b := by lia
  have e0 : (a * 4096 + b * 256 + c * 16 + d) / 16 / 16 / 16 % 16 = a := by lia
  show [(a * 4096 + b * 256 + c * 16 + d) / 16 / 16 / 16 % 16, (a * 4096 + b * 256 + c * 16 + d) / 16 / 16 % 16, (a * 4096 + b * 256 + c * 16 + d) / 16 % 16, (a * 4096 + b * 256 + c * 16 + d) % 16] = _
  rw [e0, e1, e2, e3]
theorem WX_atomR {g : Cfg} {k : Kd} {n : Nat} {l : Ls} {x : Str} {px p : Pos} {e : Expr} {Q : Fl → Ls → Prop} (R : V → Prop) (hn : isNew e = false) (h : WE g k n l e fun v => isAtom v = true ∧ R v) (rest : ∀ v, R v → Q .next (l.put x ⟨v, false⟩)) (h1 : storable k x = true) (hd : dvE e = none := by rfl) : WX g k (n + 1) l (.Assign [.Name x px] e p) Q :=
  WX_atom hn (h.mono fun v q => ⟨q.1, rest v q.2⟩) h1 hd
theorem m_decA {g : Cfg} {Q : V → Prop} {s : Str} {ds : List Nat} (hs : s.cps.toList = [97, 115, 99, 105, 105]) (hd : ∀ d ∈ ds, d < 16) (hl : ds.length ≤ lenLid) (h : Q (.str (ds.map fun d => 65 + d))) : Pw (methV g (.bytes (ds.map fun d => UInt8.ofNat (65 + d))) "decode" [.str s.cps.toList]) Q := by
  refine m_decode hs ?_ (by rw [List.length_map]; exact hl) ?_
  · intro c hc
    obtain ⟨d, hdd, rfl⟩ := List.mem_map.mp hc
    have := hd d hdd
    rw [UInt8.toNat_ofNat']; lia
  · have e1 : (ds.map fun d => UInt8.ofNat (65 + d)).map (·.toNat) = ds.map fun d => 65 + d := by
      rw [List.map_map]
      apply List.map_congr_left
      intro d hdd
      have := hd d hdd
      show (UInt8.ofNat (65 + d)).toNat = 65 + d
      rw [UInt8.toNat_ofNat']; lia
    rw [e1]; exact h
theorem RF_of {g : Cfg} {args : List V} {Q : V → Prop} (t : FnT) (ls : Ls) (hl : args.length = t.params.length) (hs : startLs t.params args = ls)
    (h : WXs g (fun x => t.scope.names.lookup x) 200 ls t.body (Post Q)) : Pw (runFn g [t] t.name args) Q := by
  subst hs
  unfold WXs Post at h
  show (runFn g [t] t.name args).2 ∧ Q (runFn g [t] t.name args).1
  have ef : [t].find? (fun u => u.name == t.name) = some t := by simp
  unfold runFn
  rw [ef]
  dsimp only
  rw [if_pos hl]
  revert h
  generalize exs g (fun x => t.scope.names.lookup x) 200 (startLs t.params args) t.body = q
  obtain ⟨fl, l', c⟩ := q
  rintro ⟨h1, v, rfl, h2⟩
  exact ⟨h1, h2⟩
namespace L2
theorem wf_co {D : Dat0} {fs : List FnT} {p : Pos} {m : Nat} {f : Str} {args : List V} {Q : V → Prop} (h : WF (CC D fs m) f args Q) : WF (CO D fs p m) f args Q := h
noncomputable abbrev GO (m : Nat) : Cfg := CO D2 fs2 ⟨98, 44, 98, 74⟩ (m + 1)
noncomputable abbrev ns16 : List Str := ["number", "row", "word", "places"]
theorem w_orders {m a : Nat} {sg : Int} {ms : List Nat} {Q : V → Prop} (ha : 2 ≤ a) (ha3 : a ≤ 3) (hs : sg = 1 ∨ sg = -1) (h3 : ms.length = 3) (hb : ∀ c ∈ ms, c < 16) (hmono : ∀ i j, i < 3 → j < 3 → (ms.getD i 0 < ms.getD j 0 ↔ i < j)) (h : Q (.dict (foundO a (a ^ 4)))) :
    Pw (runFn (GO m) [fnT st16] "_law_orders" [.int a, .int sg, vnats ms]) Q := by
  have hlid : lenLid = 100000 := rfl
  have h81 : a ^ 4 ≤ 81 := Nat.pow_le_pow_left ha3 4
  refine RF_of (fnT st16) [("packets", ⟨.int a, false⟩), ("sign", ⟨.int sg, false⟩), ("marks", ⟨vnats ms, false⟩)] rfl (by rfl) ?_
  refine WXs_cons ?_
  refine WX_newC rfl (.inl ⟨_, rfl⟩) (by walk_at "cl") (WE_dict0 ?_) rfl rfl rfl
  refine then_put (by walk_at "pt") ?_
  refine WXs_cons ?_
  refine WX_forC (fun i l => ∃ (jj : Ls), l = (("packets", ⟨.int a, false⟩) :: ("sign", ⟨.int sg, false⟩) :: ("marks", ⟨vnats ms, false⟩) :: ("found", ⟨.dict (foundO a i), true⟩) :: jj : List (Str × Loc)) ∧ Only ns16 jj ∧ jj.clean = jj) (by walk_at "cl") ?_ rfl
  refine WI_range ?_ rfl (by walk_at "at") rfl
  repeat' ((fail_if_success (with_reducible show Pw (binV .Pow _ _) _)); walk_at "st")
  refine b_pow ⟨by decide, by decide, by lia⟩ ?_
  repeat' walk_at "st"
  have e4 : (a : Int) ^ ((4 : Int).toNat) = ((a ^ 4 : Nat) : Int) := by rw [Int.natCast_pow]; rfl
  refine rng1 e4 (by lia) ⟨⟨[], rfl, only_nil, rfl⟩, ?_, ?_⟩
  · rintro i v l hv ⟨jj, rfl, hj, hcl⟩
    obtain ⟨hi, rfl⟩ := range_item hv
    clear hv
    refine ⟨rfl, ?_⟩
    have hfl := foundO_length a i
    have hsu := foundO_succ a i
    generalize foundO a i = kv at *
    generalize foundO a (i + 1) = kv' at *
    repeat' ((fail_if_success (with_reducible show WX _ _ _ _ (.Assign _ _ _) _)); walk_at "st")
    have hdg : ∀ k, dgO a i k < 3 := fun k => Nat.lt_of_lt_of_le (Nat.mod_lt _ (by lia)) ha3
    have hm16 : ∀ j, j < 3 → ms.getD j 0 < 16 := fun j hj => by
      rw [List.getD_eq_getElem?_getD, List.getElem?_eq_getElem (by lia)]
      exact hb _ (List.getElem_mem _)
    refine WX_cleanK rfl rfl (by walk_at "cl") ?_ rfl
    have hat : Ls.at (("packets", ⟨.int a, false⟩) :: ("sign", ⟨.int sg, false⟩) :: ("marks", ⟨vnats ms, false⟩) :: jj.put "number" ⟨.int i, false⟩ : List (Str × Loc)) "number" = some (.int i) := by walk_at "at"
    refine' WE_comp (fun (x : Nat) => V.int x) [3, 2, 1, 0] (fun k => V.int (ms.getD (dgO a i k) 0 : Nat)) ?r1 ?r2 rfl rfl ?r3
    case r3 =>
      unfold ev.scopeOk
      rw [Bool.and_eq_true]
      refine ⟨rfl, ?_⟩
      rw [List.all_eq_true]
      intro p hp
      simp only [List.mem_cons, List.not_mem_nil, or_false] at hp
      rcases hp with rfl | rfl | rfl | rfl | rfl
      all_goals first | rfl | (dsimp only; rw [hat]; rfl)
    case r1 => walk_at "cp"
    refine WI_src ?_ rfl fun _ _ => rfl
    repeat' walk_at "st"
    refine it_list (by decide) ⟨rfl, by decide, ?_, ?_⟩
    · intro k hk
      have hk : k ≤ 3 := by
        simp only [List.mem_cons, List.not_mem_nil, or_false] at hk; lia
      have hp1 : a ^ k ≤ 27 := Nat.le_trans (Nat.pow_le_pow_left ha3 k) (Nat.pow_le_pow_right (by decide) hk)
      have hp0 : 0 < a ^ k := Nat.pow_pos (by lia)
      have ek : (a : Int) ^ ((k : Int).toNat) = ((a ^ k : Nat) : Int) := by rw [Int.natCast_pow]; rfl
      repeat' ((fail_if_success (with_reducible show Pw (binV .FloorDiv _ _) _)); walk_at "st")
      rw [ek]
      refine b_divp ⟨by lia, by lia⟩ ?_
      repeat' ((fail_if_success (with_reducible show Pw (itemV _ _) _)); walk_at "st")
      have ed : (i : Int) / ((a ^ k : Nat) : Int) % (a : Int) = ((dgO a i k : Nat) : Int) := by unfold dgO; rw [Int.natCast_emod, Int.natCast_ediv]
      rw [ed]
      have := hdg k
      exact i_natsN (by lia) (by lia) rfl
    have eF : ([3, 2, 1, 0].map fun k => V.int (ms.getD (dgO a i k) 0 : Nat)) = ([3, 2, 1, 0].map fun k => ms.getD (dgO a i k) 0).map fun (x : Nat) => V.int x := by rw [List.map_map]; rfl
    rw [eF]
    have hF0 := hm16 _ (hdg 3)
    have hF1 := hm16 _ (hdg 2)
    have hF2 := hm16 _ (hdg 1)
    have hF3 := hm16 _ (hdg 0)
    have hpl : sortS ([48, 49, 50, 51].map fun c => (c, [65 + ([3, 2, 1, 0].map fun k => ms.getD (dgO a i k) 0).getD (c - 48) 0])) = placesO a i := by
      unfold placesO
      have e1 : ([48, 49, 50, 51].map fun c => (c, [65 + ([3, 2, 1, 0].map fun k => ms.getD (dgO a i k) 0).getD (c - 48) 0])) = [48, 49, 50, 51].map fun c => (c, [65 + ms.getD (dgO a i (51 - c)) 0]) := rfl
      rw [e1]
      exact sort_map (f := fun j => 65 + ms.getD j 0) (g := fun c => dgO a i (51 - c)) (S := fun j => j < 3) (fun x y hx hy => by rw [← hmono x y hx hy]; lia) fun c _ => hdg _
    have eL : ([3, 2, 1, 0].map fun k => ms.getD (dgO a i k) 0) = [ms.getD (dgO a i 3) 0, ms.getD (dgO a i 2) 0, ms.getD (dgO a i 1) 0, ms.getD (dgO a i 0) 0] := rfl
    rw [eL] at hpl ⊢
    generalize placesO a i = pl at *
    generalize ms.getD (dgO a i 3) 0 = f0 at *
    generalize ms.getD (dgO a i 2) 0 = f1 at *
    generalize ms.getD (dgO a i 1) 0 = f2 at *
    generalize ms.getD (dgO a i 0) 0 = f3 at *
    clear eF eL hat
    obtain ⟨N, hN⟩ : ∃ N, N = f0 * 4096 + f1 * 256 + f2 * 16 + f3 := ⟨_, rfl⟩
    have hp4 := padS_four hF0 hF1 hF2 hF3
    rw [← hN] at hp4
    have hN4 : N < 16 ^ 4 := by show N < 65536; lia
    have hN2 : N < 16 ^ 1000 := Nat.lt_of_lt_of_le hN4 (Nat.pow_le_pow_right (by lia) (by lia))
    have hdl := digs_lt N
    have hdh := digs_head N
    have hdn := digs_length 4 N hN4
    have hpd := pad_digs 4 N hN4
    rw [hp4] at hpd
    refine then_put (by walk_at "pt") ?_
    refine WXs_cons ?_
    refine WX_atomR (fun v => v = .str ((digs N).map fun d => 65 + d)) rfl ?_ ?_ rfl
    · repeat' ((fail_if_success (with_reducible show Pw (binV .Mult _ _) _)); walk_at "st")
      refine b_mul (.inr (by decide)) ?_
      repeat' ((fail_if_success (with_reducible show Pw (binV .Mult _ _) _)); walk_at "st")
      refine b_mul (.inr (by decide)) ?_
      repeat' ((fail_if_success (with_reducible show Pw (binV .Mult _ _) _)); walk_at "st")
      refine b_mul (.inr (by decide)) ?_
      repeat' ((fail_if_success (with_reducible show Pw (binV .Mult _ _) _)); walk_at "st")
      refine b_mul (.inl (by rcases hs with rfl | rfl <;> decide)) ?_
      repeat' ((fail_if_success (with_reducible show WF _ _ _ _)); walk_at "st")
      have eS : ((([f0, f1, f2, f3].getD (Int.toNat 0) 0 : Nat) : Int) * 4096 + (([f0, f1, f2, f3].getD (Int.toNat 1) 0 : Nat) : Int) * 256 + (([f0, f1, f2, f3].getD (Int.toNat 2) 0 : Nat) : Int) * 16 + (([f0, f1, f2, f3].getD (Int.toNat 3) 0 : Nat) : Int)) = (N : Int) := by
        show (f0 : Int) * 4096 + (f1 : Int) * 256 + (f2 : Int) * 16 + (f3 : Int) = (N : Int)
        lia
      rw [eS]
      have hab : (sg * (N : Int)).natAbs = N := by
        rcases hs with rfl | rfl
        · rw [Int.one_mul, Int.natAbs_natCast]
        · rw [Int.neg_mul, Int.one_mul, Int.natAbs_neg, Int.natAbs_natCast]
      refine wf_co (w_ap (by rw [hab]; exact hN2) ?_)
      rw [hab]
      repeat' walk_at "st"
      exact m_decA (by decide +kernel) hdl (by lia) ⟨rfl, rfl⟩
    rintro v rfl
    generalize digs N = ds at *
    clear hN hN2 hN4 hp4
    have hl : (ds.map fun d => 65 + d).length = ds.length := List.length_map ..
    have hA : (Str.ofString "A").cps.toList = [65] := by decide +kernel
    refine then_put (by walk_at "pt") ?_
    refine WXs_cons ?_
    refine WX_ifR (fun l => l = (("packets", ⟨.int a, false⟩) :: ("sign", ⟨.int sg, false⟩) :: ("marks", ⟨vnats ms, false⟩) :: ("found", ⟨.dict kv, true⟩) :: ((jj.put "number" ⟨.int i, false⟩).put "row" ⟨vnats [f0, f1, f2, f3], false⟩).put "word" ⟨.str (ds.map fun d => 65 + d), false⟩ : List (Str × Loc))) ?_ ?_
    · repeat' walk_at "st"
      · rename_i hc
        exfalso
        rw [hA] at hc
        cases ds with
        | nil => simp at hc
        | cons d r =>
          have : d = 0 := by simpa using hc
          exact hdh d (by simp) this
      · rfl
    rintro l rfl
    walk_at "st"
    refine WXs_cons ?_
    refine WX_atomR (fun v => v = .str ([f0, f1, f2, f3].map fun c => 65 + c)) rfl ?_ ?_ rfl
    · repeat' ((fail_if_success (with_reducible show Pw (binV .Mult _ _) _)); walk_at "st")
      rw [hA, hl]
      refine b_rep (by rw [List.length_singleton]; lia) ?_
      repeat' walk_at "st"
      rw [repStr_one', show ((4 : Int) - (ds.length : Int)).toNat = 4 - ds.length by lia]
      have e1 : List.replicate (4 - ds.length) 65 ++ ds.map (fun d => 65 + d) = [f0, f1, f2, f3].map fun c => 65 + c := by
        rw [← hpd, List.map_append, List.map_replicate]
      refine b_cat (by rw [List.length_replicate, hl]; lia) ?_
      rw [e1]
      exact ⟨rfl, rfl⟩
    rintro v rfl
    clear hpd hdn hdl hdh
    refine then_put (by walk_at "pt") ?_
    refine WXs_cons ?_
    refine WX_ifR (fun l => l = (("packets", ⟨.int a, false⟩) :: ("sign", ⟨.int sg, false⟩) :: ("marks", ⟨vnats ms, false⟩) :: ("found", ⟨.dict kv, true⟩) :: (((jj.put "number" ⟨.int i, false⟩).put "row" ⟨vnats [f0, f1, f2, f3], false⟩).put "word" ⟨.str (ds.map fun d => 65 + d), false⟩).put "word" ⟨.str ([f0, f1, f2, f3].map fun c => 65 + c), false⟩ : List (Str × Loc))) ?_ ?_
    · refine WT_cmp ?_ rfl
      repeat' ((fail_if_success (with_reducible show WE _ _ _ _ (.ListComp _ _ _ _) _)); walk_at "st")
      refine' WE_comp (fun (x : Nat) => V.int x) [f0, f1, f2, f3] (fun i => V.str [65 + i]) ?l1 ?l2 rfl rfl rfl
      case l1 => walk_at "cp"
      refine WI_name ?_
      repeat' walk_at "st"
      refine it_list (show 4 ≤ lenLid by decide) ⟨rfl, show 4 ≤ lenLid by decide, ?_, ?_⟩
      · intro i hi
        have hi : i < 16 := by
          simp only [List.mem_cons, List.not_mem_nil, or_false] at hi
          lia
        repeat' walk_at "st"
        rw [show ((65 : Int) + i).toNat = 65 + i by lia]
      have em : [f0, f1, f2, f3].map (fun i => V.str [65 + i]) = ([f0, f1, f2, f3].map fun i => [65 + i]).map .str := by rw [List.map_map]; rfl
      have ef : ([f0, f1, f2, f3].map fun i => [65 + i]).flatten = [f0, f1, f2, f3].map fun i => 65 + i := flat_one [f0, f1, f2, f3] fun i => 65 + i
      rw [em]
      refine WEs_nil ?_
      refine m_join (by decide +kernel) (by rw [ef, List.length_map]; exact (show 4 ≤ lenLid by decide)) ?_
      rw [ef]
      repeat' walk_at "st"
      · rename_i hc; exact absurd rfl hc
      · rfl
    rintro l rfl
    walk_at "st"
    refine WXs_cons ?_
    have e0123 : (Str.ofString "0123").cps.toList = [48, 49, 50, 51] := by rfl
    refine WX_sort (fun c => [65 + [f0, f1, f2, f3].getD (c - 48) 0]) (by rfl) ⟨_, _, _, _, _, _, _, _, _, rfl, rfl⟩ (by walk_at "cl") (by rfl) ?hk (by decide +kernel) (by decide +kernel) (by decide +kernel) ?hlam (by walk_at "at") rfl rfl ?hn
    case hlam =>
      have hatw : Ls.at (("packets", ⟨.int a, false⟩) :: ("sign", ⟨.int sg, false⟩) :: ("marks", ⟨vnats ms, false⟩) :: (((jj.put "number" ⟨.int i, false⟩).put "row" ⟨vnats [f0, f1, f2, f3], false⟩).put "word" ⟨.str (ds.map fun d => 65 + d), false⟩).put "word" ⟨.str ([f0, f1, f2, f3].map fun c => 65 + c), false⟩ : List (Str × Loc)) "word" = some (.str ([f0, f1, f2, f3].map fun c => 65 + c)) := by walk_at "at"
      unfold lamOk
      rw [Bool.and_eq_true]
      refine ⟨by rfl, ?_⟩
      rw [List.all_eq_true]
      intro p hp
      have hp : p ∈ [(("place" : Str), NameKind.local), ("word", NameKind.free), ("int", NameKind.globalImplicit)] := hp
      simp only [List.mem_cons, List.not_mem_nil, or_false] at hp
      rcases hp with rfl | rfl | rfl
      all_goals first | rfl | (dsimp only; rw [hatw]; rfl)
    case hk =>
      intro c hc
      have hc : c ∈ (Str.ofString "0123").cps.toList := hc
      rw [e0123] at hc
      simp only [List.mem_cons, List.not_mem_nil, or_false] at hc
      rcases hc with rfl | rfl | rfl | rfl
      · dsimp only
        repeat' walk_at "st"
        refine f_intS (i := 0) (by decide +kernel) (by decide) ?_
        repeat' walk_at "st"
        rfl
      · dsimp only
        repeat' walk_at "st"
        refine f_intS (i := 1) (by decide +kernel) (by decide) ?_
        repeat' walk_at "st"
        rfl
      · dsimp only
        repeat' walk_at "st"
        refine f_intS (i := 2) (by decide +kernel) (by decide) ?_
        repeat' walk_at "st"
        rfl
      · dsimp only
        repeat' walk_at "st"
        refine f_intS (i := 3) (by decide +kernel) (by decide) ?_
        repeat' walk_at "st"
        rfl
    case hn =>
      dsimp only
      rw [e0123, hpl]
      refine then_put (by walk_at "pt") ?_
      refine WXs_cons ?_
      refine WX_put rfl (by lia) ?_
      repeat' ((fail_if_success (with_reducible show Pw (methV _ _ _ _) _)); walk_at "st")
      refine m_getD ?_
      repeat' ((fail_if_success (with_reducible show Exists _)); walk_at "st")
      refine ⟨_, _, rfl, rfl, ?_⟩
      repeat' ((fail_if_success (with_reducible show Exists _)); walk_at "st")
      rw [hsu]
      exact ⟨_, rfl, by walk_at "only", by walk_at "cl"⟩
  · rintro l ⟨jj, rfl, hj, hcl⟩
    rw [List.length_map, List.length_range]
    repeat' walk_at "st"
    exact h
end L2
/-! the tables -/
noncomputable abbrev dig4 : List Nat := [48, 49, 50, 51]
noncomputable def permsC : List (List Nat) := (dig4.flatMap fun a => dig4.flatMap fun b => dig4.flatMap fun c => dig4.map fun d => [a, b, c, d]).filter fun l => decide l.Nodup
noncomputable def invC (q : List Nat) : List Nat := [48, 49, 50, 51].map fun c => 48 + q.idxOf c
noncomputable def btwC (after places : List Nat) : List Nat := places.map fun p => 48 + after.idxOf p
noncomputable def riseC (q : List Nat) (k : Nat) : Bool := Nat.blt (q.idxOf (48 + k)) (q.idxOf (49 + k))
noncomputable def rowsC (q : List Nat) : Nat := 1 + ((List.range 3).filter fun k => !riseC q k).length
noncomputable def chO (s : Int) : Int := s * (s - 1) * (s - 2) * (s - 3) / 24
noncomputable def bothC (fs sn : List (List Nat × Int)) (places : List Nat) : Int := sn.foldl (fun acc p => acc + p.2 * ((fs.lookup (btwC p.1 places)).getD 0)) 0
noncomputable def tabF : Nat → List (List Nat × Int)
  | 2 => [([48, 49, 50, 51], 5), ([48, 49, 51, 50], 1), ([48, 50, 51, 49], 1), ([48, 50, 49, 51], 1), ([48, 51, 49, 50], 1), ([49, 50, 51, 48], 1), ([49, 50, 48, 51], 1), ([49, 51, 48, 50], 1), ([49, 48, 50, 51], 1), ([50, 51, 48, 49], 1), ([50, 48, 49, 51], 1), ([51, 48, 49, 50], 1)]
  | _ => [([48, 49, 50, 51], 15), ([48, 49, 51, 50], 5), ([48, 50, 51, 49], 5), ([48, 50, 49, 51], 5), ([48, 51, 49, 50], 5), ([48, 51, 50, 49], 1), ([49, 50, 51, 48], 5), ([49, 50, 48, 51], 5), ([49, 51, 48, 50], 5), ([49, 48, 50, 51], 5), ([49, 48, 51, 50], 1), ([50, 51, 48, 49], 5), ([50, 48, 49, 51], 5), ([51, 48, 49, 50], 5), ([50, 48, 51, 49], 1), ([51, 48, 50, 49], 1), ([49, 51, 50, 48], 1), ([50, 51, 49, 48], 1), ([50, 49, 51, 48], 1), ([50, 49, 48, 51], 1), ([51, 49, 50, 48], 1), ([51, 49, 48, 50], 1), ([51, 50, 48, 49], 1)]
theorem tab_two : foundO 2 (2 ^ 4) = tabF 2 := by decide +kernel
theorem tab_three : foundO 3 (3 ^ 4) = tabF 3 := by decide +kernel
theorem perm_mem {p : List Nat} (h : p.Perm [48, 49, 50, 51]) : p ∈ permsC := by
  have hl := h.length_eq
  obtain ⟨a, r, rfl, h1⟩ := len_succ (n := 3) hl
  obtain ⟨b, r, rfl, h2⟩ := len_succ h1
  obtain ⟨c, r, rfl, h3⟩ := len_succ h2
  obtain ⟨d, r, rfl, h4⟩ := len_succ h3
  obtain rfl := List.length_eq_zero_iff.mp h4
  have hm : ∀ x ∈ [a, b, c, d], x ∈ dig4 := fun x hx => h.mem_iff.mp hx
  have hn : [a, b, c, d].Nodup := h.nodup_iff.mpr (by decide)
  exact List.mem_filter.mpr ⟨List.mem_flatMap.mpr ⟨a, hm a (.head _), List.mem_flatMap.mpr ⟨b, hm b (.tail _ (.head _)), List.mem_flatMap.mpr ⟨c, hm c (.tail _ (.tail _ (.head _))), List.mem_map.mpr ⟨d, hm d (.tail _ (.tail _ (.tail _ (.head _)))), rfl⟩⟩⟩⟩, decide_eq_true hn⟩
theorem tab_count : (permsC.all fun q => [(2, 2), (2, 3), (3, 2)].all fun ab =>
    decide (((tabF ab.1).lookup (invC q)).getD 0 = chO ((ab.1 : Nat) + 4 - (rowsC q : Nat))) && decide (((tabF ab.2).lookup (invC q)).getD 0 = chO ((ab.2 : Nat) + 4 - (rowsC q : Nat))) &&
    decide (bothC (tabF ab.1) (tabF ab.2) (invC q) = chO (((ab.1 * ab.2 : Nat) : Int) + 4 - (rowsC q : Nat)))) = true := by decide +kernel
noncomputable def dueC (great : Nat) : Nat := 4 + [2, 1, 1, 0].getD great 0
noncomputable def toldC (q : List Nat) (k great e : Nat) : Nat := levN costQ [2 * k + great % 2, 2 * (k + 1) + great / 2] (q.map fun c => 2 * (c - 48) + 1) (dueC great + e)
theorem tab_told : (permsC.all fun q => (List.range 3).all fun k => (List.range 4).all fun gr => (List.range 3).all fun e =>
    if riseC q k then Nat.beq (toldC q k gr e) (dueC gr) else Nat.blt (dueC gr) (toldC q k gr e)) = true := by decide +kernel
noncomputable def sgL (f : Nat → Nat) (c : Nat) : Nat := if c % 2 = 0 then 65 + f (c / 2) else 97 + f (c / 2)
theorem low_great : ((List.range 16).all fun i => low (65 + i) == [97 + i] && low (97 + i) == [97 + i]) = true := by decide +kernel
theorem low_g {i : Nat} (hi : i < 16) : low (65 + i) = [97 + i] ∧ low (97 + i) = [97 + i] := by
  have := List.all_eq_true.mp low_great i (List.mem_range.mpr hi)
  rw [Bool.and_eq_true] at this
  exact ⟨eq_of_beq this.1, eq_of_beq this.2⟩
section
variable {f lab : Nat → Nat} (hf : ∀ i, f i < 16) (l2 : ∀ i, f (lab i) = f i) (l3 : ∀ i j, f i = f j → lab i = lab j)
include hf l2 l3
noncomputable def inL (lab : Nat → Nat) (c : Nat) : Prop := ∃ i, c = 2 * lab i ∨ c = 2 * lab i + 1
omit hf l3 in
theorem sgL_form {c : Nat} (h : inL lab c) : ∃ i, c / 2 = lab i ∧ ((c % 2 = 0 ∧ sgL f c = 65 + f i) ∨ (c % 2 = 1 ∧ sgL f c = 97 + f i)) := by
  obtain ⟨i, h⟩ := h
  refine ⟨i, by lia, ?_⟩
  unfold sgL
  rcases h with rfl | rfl
  · left; refine ⟨by lia, ?_⟩
    rw [if_pos (by lia), show 2 * lab i / 2 = lab i by lia, l2]
  · right; refine ⟨by lia, ?_⟩
    rw [if_neg (by lia), show (2 * lab i + 1) / 2 = lab i by lia, l2]
theorem sgL_inj : ∀ x y, inL lab x → inL lab y → (sgL f x = sgL f y ↔ x = y) := by
  intro x y hx hy
  refine ⟨fun h => ?_, fun h => by rw [h]⟩
  obtain ⟨i, ei, hi⟩ := sgL_form l2 hx
  obtain ⟨j, ej, hj⟩ := sgL_form l2 hy
  have := hf i
  have := hf j
  rcases hi with ⟨p1, q1⟩ | ⟨p1, q1⟩ <;> rcases hj with ⟨p2, q2⟩ | ⟨p2, q2⟩ <;> rw [q1, q2] at h
  · have := l3 i j (by lia); lia
  · lia
  · lia
  · have := l3 i j (by lia); lia
theorem sgL_sub : ∀ x y, inL lab x → inL lab y → subN (sgL f x) (sgL f y) = costQ x y := by
  intro x y hx hy
  rw [costQ_eq]
  unfold subN
  have h1 := sgL_inj hf l2 l3 x y hx hy
  have h2 : low (sgL f x) = low (sgL f y) ↔ x / 2 = y / 2 := by
    obtain ⟨i, ei, hi⟩ := sgL_form l2 hx
    obtain ⟨j, ej, hj⟩ := sgL_form l2 hy
    have e1 : low (sgL f x) = [97 + f i] := by
      rcases hi with ⟨_, q⟩ | ⟨_, q⟩ <;> rw [q]
      · exact (low_g (hf i)).1
      · exact (low_g (hf i)).2
    have e2 : low (sgL f y) = [97 + f j] := by
      rcases hj with ⟨_, q⟩ | ⟨_, q⟩ <;> rw [q]
      · exact (low_g (hf j)).1
      · exact (low_g (hf j)).2
    rw [e1, e2, ei, ej]
    constructor
    · intro h; exact l3 i j (by simpa using h)
    · intro h
      have : f i = f j := by rw [← l2 i, ← l2 j, h]
      rw [this]
  by_cases e : x = y
  · rw [if_pos e, if_pos (h1.mpr e)]
  · rw [if_neg e, if_neg (fun q => e (h1.mp q))]
    by_cases e2 : x / 2 = y / 2
    · rw [if_pos e2, if_pos (h2.mpr e2)]
    · rw [if_neg e2, if_neg (fun q => e2 (h2.mp q))]
end

theorem told_is {f : Nat → Nat} (hf : ∀ i, i < 4 → f i < 16) (hi : ∀ i j, i < 4 → j < 4 → f i = f j → i = j) {q : List Nat} (hq : ∀ c ∈ q, 48 ≤ c ∧ c ≤ 51) {k gr e : Nat} (hk : k < 3) (hg : gr < 4) :
    levN subN [(if gr % 2 = 0 then 65 else 97) + f k, (if gr / 2 = 0 then 65 else 97) + f (k + 1)] (q.map fun c => 97 + f (c - 48)) (dueC gr + e) = toldC q k gr e := by
  have l1 : ∀ i, f (i % 4) < 16 := fun i => hf _ (Nat.mod_lt _ (by decide))
  have l2 : ∀ i, f (i % 4 % 4) = f (i % 4) := fun i => by rw [Nat.mod_mod]
  have l3 : ∀ i j, f (i % 4) = f (j % 4) → i % 4 = j % 4 := fun i j h => hi _ _ (Nat.mod_lt _ (by decide)) (Nat.mod_lt _ (by decide)) h
  have g0 : ∀ i, i < 4 → sgL (fun i => f (i % 4)) (2 * i) = 65 + f i := fun i h => by
    unfold sgL
    rw [if_pos (by lia)]
    show 65 + f (2 * i / 2 % 4) = _
    rw [show 2 * i / 2 % 4 = i by lia]
  have g1 : ∀ i, i < 4 → sgL (fun i => f (i % 4)) (2 * i + 1) = 97 + f i := fun i h => by
    unfold sgL
    rw [if_neg (by lia)]
    show 97 + f ((2 * i + 1) / 2 % 4) = _
    rw [show (2 * i + 1) / 2 % 4 = i by lia]
  have inl : ∀ c, c < 8 → inL (fun i => i % 4) c := fun c h => ⟨c / 2, by show c = 2 * (c / 2 % 4) ∨ c = 2 * (c / 2 % 4) + 1; lia⟩
  have e1 : [(if gr % 2 = 0 then 65 else 97) + f k, (if gr / 2 = 0 then 65 else 97) + f (k + 1)] = [2 * k + gr % 2, 2 * (k + 1) + gr / 2].map (sgL fun i => f (i % 4)) := by
    have a1 : sgL (fun i => f (i % 4)) (2 * k + gr % 2) = (if gr % 2 = 0 then 65 else 97) + f k := by
      by_cases h : gr % 2 = 0
      · rw [if_pos h, h]; exact g0 k (by lia)
      · rw [if_neg h, show gr % 2 = 1 by lia]; exact g1 k (by lia)
    have a2 : sgL (fun i => f (i % 4)) (2 * (k + 1) + gr / 2) = (if gr / 2 = 0 then 65 else 97) + f (k + 1) := by
      by_cases h : gr / 2 = 0
      · rw [if_pos h, h]; exact g0 (k + 1) (by lia)
      · rw [if_neg h, show gr / 2 = 1 by lia]; exact g1 (k + 1) (by lia)
    rw [List.map_cons, List.map_cons, List.map_nil, a1, a2]
  have e2 : (q.map fun c => 97 + f (c - 48)) = (q.map fun c => 2 * (c - 48) + 1).map (sgL fun i => f (i % 4)) := by
    rw [List.map_map]
    apply List.map_congr_left
    intro c hc
    have := hq c hc
    exact (g1 (c - 48) (by lia)).symm
  rw [e1, e2]
  unfold toldC
  refine lev_map (S := inL fun i => i % 4) (σ := sgL fun i => f (i % 4)) (sub' := costQ) (sgL_inj (f := fun i => f (i % 4)) l1 l2 l3) (sgL_sub (f := fun i => f (i % 4)) l1 l2 l3) (fun x hx => inl x ?_) fun x hx => inl x ?_
  · simp only [List.mem_cons, List.not_mem_nil, or_false] at hx
    lia
  · obtain ⟨c, hc, rfl⟩ := List.mem_map.mp hx
    have := hq c hc
    lia
theorem wf_cl {D : Dat0} {fs : List FnT} {fo : FnT} {p : Pos} {m : Nat} {f : Str} {args : List V} {Q : V → Prop} (h : WF (CC D fs (m + 1)) f args Q) : WF (CL D fs fo p m) f args Q := h
namespace L2
noncomputable abbrev kd19 : Kd := fun x => (fnT st19).scope.names.lookup x
noncomputable abbrev ns19 : List Str := ["turn", "cut", "letters", "plain", "rows", "k", "great", "pair", "due", "told", "places", "both", "after", "between"]
/-- the turns of the law -/
noncomputable def forB : List Stmt → List Stmt
  | .For _ _ b _ _ :: _ => b
  | _ => []
noncomputable abbrev body19 : List Stmt := forB ((fnT st19).body.drop 9)
noncomputable abbrev preT (v0 v1 vm : V) (d : List Int) (A B : Nat) (f : Nat → Nat) (q0 : List Nat) (jj : Ls) : Ls :=
  ("script", ⟨v0, false⟩) :: ("start", ⟨v1, false⟩) :: ("draws", ⟨.list (d.map .int), false⟩) :: ("a", ⟨.int A, false⟩) :: ("b", ⟨.int B, false⟩) :: ("names", ⟨.list (([0, 1, 2, 3].map fun i => [97 + f i]).map .str), false⟩) :: ("marks", ⟨vm, false⟩) ::
    ("first", ⟨.dict (tabF A), false⟩) :: ("second", ⟨.dict (tabF B), false⟩) :: ("pack", ⟨.str q0, false⟩) :: jj
theorem i_names {f : Nat → Nat} {i : Int} {Q : V → Prop} (h0 : 0 ≤ i) (h1 : i < 4) (h : Q (.str [97 + f i.toNat])) : Pw (itemV (.list (([0, 1, 2, 3].map fun i => [97 + f i]).map .str)) (.int i)) Q := by
  refine i_strs h0 (by simpa using h1) (show 4 ≤ lenLid by decide) ?_
  have key : ∀ k < 4, ([0, 1, 2, 3].map fun i => [97 + f i]).getD k [] = [97 + f k] := by
    intro k hk
    match k, hk with
    | 0, _ => rfl
    | 1, _ => rfl
    | 2, _ => rfl
    | 3, _ => rfl
  rw [key _ (by lia)]; exact h
theorem turnA {v0 v1 vm : V} {d : List Int} {A B t : Nat} {f : Nat → Nat} {q0 : List Nat} {jj : Ls} {Q : Fl → Ls → Prop} {R : Ls → Prop} (hf : ∀ i, i < 4 → f i < 16) (hq : q0.Perm [48, 49, 50, 51]) (ht : t < 4) (hd : d.length = 8) (hj : Only ns19 jj) (gt : jj.at "turn" = some (.int t))
    (h : ∀ q j2, q.Perm [48, 49, 50, 51] → Only ns19 j2 → j2.at "turn" = some (.int t) → j2.at "cut" = some (.str q) → j2.at "plain" = some (.str (q.map fun c => 97 + f (c - 48))) → j2.at "rows" = some (.int 1) → WXs GL kd19 184 (preT v0 v1 vm d A B f q0 j2) (body19.drop 5) (Turn R Q)) :
    WXs GL kd19 189 (preT v0 v1 vm d A B f q0 jj) body19 (Turn R Q) := by
  have hlid : lenLid = 100000 := rfl
  have hl := hq.length_eq
  have h4 : ([48, 49, 50, 51] : List Nat).length = 4 := rfl
  rw [h4] at hl
  refine WXs_cons ?_
  refine WX_atomR (fun v => ∃ q : List Nat, q.Perm [48, 49, 50, 51] ∧ v = .str q) rfl ?_ ?_ rfl
  · repeat' walk_at "st"
    exact ⟨_, (List.perm_append_comm.trans (List.Perm.of_eq (List.take_append_drop t q0))).trans hq, rfl⟩
  rintro v ⟨q, hq2, rfl⟩
  have hm : ∀ c ∈ q, c = 48 ∨ c = 49 ∨ c = 50 ∨ c = 51 := fun c hc => by
    have := hq2.mem_iff.mp hc
    simpa using this
  have hql := hq2.length_eq
  rw [h4] at hql
  have hcd : ∀ c ∈ q, PySem.intText? ⟨#[c]⟩ = some ((c - 48 : Nat) : Int) ∧ c - 48 < 4 := fun c hc => by
    rcases hm c hc with rfl | rfl | rfl | rfl <;> exact ⟨by decide +kernel, by decide⟩
  refine then_put (by walk_at "pt") ?_
  refine WXs_cons ?_
  refine WX_atomR (fun v => v = .str (q.map fun c => 97 + f (c - 48))) rfl ?_ ?_ rfl
  · repeat' ((fail_if_success (with_reducible show WE _ _ _ _ (.ListComp _ _ _ _) _)); walk_at "st")
    refine' WE_comp (fun (c : Nat) => V.str [c]) q (fun c => V.str [97 + f (c - 48)]) ?l1 ?l2 rfl rfl ?l3
    case l1 => walk_at "cp"
    case l3 =>
      unfold ev.scopeOk
      rw [Bool.and_eq_true]
      refine ⟨rfl, ?_⟩
      rw [List.all_eq_true]
      intro p hp
      simp only [List.mem_cons, List.not_mem_nil, or_false] at hp
      rcases hp with rfl | rfl | rfl | rfl <;> rfl
    refine WI_name ?_
    repeat' walk_at "st"
    refine it_str (by lia) ⟨rfl, by lia, ?_, ?_⟩
    · intro c hc
      obtain ⟨c1, c2⟩ := hcd c hc
      repeat' walk_at "st"
      refine f_intS c1 (show 1 ≤ 100 by decide) ?_
      refine i_names (by lia) (by lia) ?_
      rfl
    have em : q.map (fun c => V.str [97 + f (c - 48)]) = (q.map fun c => [97 + f (c - 48)]).map .str := by rw [List.map_map]; rfl
    have ef : (q.map fun c => [97 + f (c - 48)]).flatten = q.map fun c => 97 + f (c - 48) := flat_one q fun c => 97 + f (c - 48)
    rw [em]
    refine WEs_nil ?_
    refine m_join (by decide +kernel) (by rw [ef, List.length_map]; lia) ?_
    rw [ef]
    exact ⟨rfl, rfl⟩
  rintro v rfl
  have hd5 : (5 : Int) < d.length := by rw [hd]; decide
  have hlt : (q.map fun c => 97 + f (c - 48)).length = 4 := by rw [List.length_map]; exact hql
  have hlc : ∀ c ∈ q.map fun c => 97 + f (c - 48), 97 ≤ c ∧ c < 113 := fun c hc => by
    obtain ⟨x, hx, rfl⟩ := List.mem_map.mp hc
    have := hf _ (hcd x hx).2
    lia
  have h := h q
  generalize q.map (fun c => 97 + f (c - 48)) = ls at *
  refine then_put (by walk_at "pt") ?_
  refine WXs_cons ?_
  refine WX_atomR (fun v => v = .str ls) rfl ?_ ?_ rfl
  · repeat' ((fail_if_success (with_reducible show WF _ _ _ _)); walk_at "st")
    refine wf_cl (w_typed (by lia) hlc fun t h1 h2 => ?_)
    repeat' ((fail_if_success (with_reducible show WF _ _ _ _)); walk_at "st")
    refine wf_cl (w_prepared (by lia) (by rw [h1]; lia) ?_)
    rw [h1]
    exact ⟨rfl, rfl⟩
  rintro v rfl
  refine then_put (by walk_at "pt") ?_
  refine WXs_cons ?_
  refine WX_ifR (fun l => l = preT v0 v1 vm d A B f q0 (((jj.put "cut" ⟨.str q, false⟩).put "letters" ⟨.str ls, false⟩).put "plain" ⟨.str ls, false⟩)) ?_ ?_
  · repeat' walk_at "st"
    · rename_i hc; exact absurd rfl hc
    · rfl
  rintro l rfl
  walk_at "st"
  refine WXs_cons ?_
  repeat' ((fail_if_success (with_reducible show WXs _ _ _ _ _ _)); walk_at "st")
  exact h _ hq2 (by walk_at "only") (by walk_at "at") (by walk_at "atv") (by walk_at "atv") (by walk_at "atv")
end L2
namespace L2
theorem tab_upper : ((List.range 16).all fun i => (Txt.upper ⟨[97 + i].toArray⟩).cps.toList == [65 + i]) = true := by decide +kernel
theorem upper_is {i : Nat} (h : i < 16) : (Txt.upper ⟨[97 + i].toArray⟩).cps.toList = [65 + i] := eq_of_beq (List.all_eq_true.mp tab_upper i (List.mem_range.mpr h))
noncomputable def rowsTo (q : List Nat) (i : Nat) : Nat := 1 + ((List.range i).filter fun k => !riseC q k).length
theorem rowsTo_succ (q : List Nat) (i : Nat) : rowsTo q (i + 1) = if riseC q i then rowsTo q i else rowsTo q i + 1 := by
  unfold rowsTo
  rw [List.range_succ, List.filter_append, List.length_append]
  cases h : riseC q i
  · simp [h]; lia
  · simp [h]
theorem turnB {v0 v1 vm : V} {d : List Int} {A B t : Nat} {f : Nat → Nat} {q0 q : List Nat} {jj : Ls} {Q : Fl → Ls → Prop} {R : Ls → Prop} (hf : ∀ i, i < 4 → f i < 16) (hi : ∀ i j, i < 4 → j < 4 → f i = f j → i = j) (hq : q.Perm [48, 49, 50, 51]) (ht : t < 4) (hd : d.length = 8) (hj : Only ns19 jj)
    (g1 : jj.at "turn" = some (.int t)) (g2 : jj.at "cut" = some (.str q)) (g3 : jj.at "plain" = some (.str (q.map fun c => 97 + f (c - 48)))) (g4 : jj.at "rows" = some (.int 1))
    (h : ∀ j2, Only ns19 j2 → j2.at "turn" = some (.int t) → j2.at "cut" = some (.str q) → j2.at "rows" = some (.int (rowsC q : Nat)) → WXs GL kd19 183 (preT v0 v1 vm d A B f q0 j2) (body19.drop 6) (Turn R Q)) :
    WXs GL kd19 184 (preT v0 v1 vm d A B f q0 jj) (body19.drop 5) (Turn R Q) := by
  have hlid : lenLid = 100000 := rfl
  have hd6 : (6 : Int) < d.length := by rw [hd]; decide
  refine WXs_cons ?_
  refine WX_forC (fun i l => ∃ (j2 : Ls), l = preT v0 v1 vm d A B f q0 j2 ∧ Only ns19 j2 ∧ j2.at "turn" = some (.int t) ∧ j2.at "cut" = some (.str q) ∧ j2.at "plain" = some (.str (q.map fun c => 97 + f (c - 48))) ∧ j2.at "rows" = some (.int (rowsTo q i : Nat))) (by walk_at "cl") ?_ rfl
  refine WI_range ?_ rfl (by walk_at "at") rfl
  repeat' walk_at "st"
  refine rng1 rfl (show 3 ≤ lenLid by decide) ⟨⟨jj, rfl, hj, g1, g2, g3, g4⟩, ?_, ?_⟩
  · clear hj g1 g2 g3 g4 h
    rintro i v l hv ⟨jj, rfl, hj, g1, g2, g3, g4⟩
    obtain ⟨hi3, rfl⟩ := range_item hv
    clear hv
    have hi3 : i < 3 := hi3
    refine ⟨rfl, ?_⟩
    have hrs := rowsTo_succ q i
    have hp2 : (0 : Int) < 2 ^ ((i : Int)).toNat ∧ (2 : Int) ^ ((i : Int)).toNat < 1073741824 := by
      have key : ∀ i : Nat, i < 3 → (0 : Int) < 2 ^ ((i : Int)).toNat ∧ (2 : Int) ^ ((i : Int)).toNat < 1073741824 := by decide
      exact key i hi3
    have htold := fun (gr e : Nat) (hg : gr < 4) => told_is hf hi (q := q) (k := i) (gr := gr) (e := e) (fun c hc => by
      have := hq.mem_iff.mp hc
      simp only [List.mem_cons, List.not_mem_nil, or_false] at this
      lia) hi3 hg
    generalize rowsTo q i = rw0 at *
    generalize rowsTo q (i + 1) = rw1 at *
    refine WXs_cons ?_
    refine WX_atomR (fun v => ∃ gr : Nat, gr < 4 ∧ v = .int gr) rfl ?_ ?_ rfl
    · repeat' ((fail_if_success (with_reducible show Pw (binV .FloorDiv _ _) _)); walk_at "st")
      refine b_divp hp2 ?_
      repeat' walk_at "st"
      generalize (d.getD (Int.toNat 6) 0 + (t : Int)) / 2 ^ ((i : Int)).toNat = x
      exact ⟨(x % 4).toNat, by lia, by congr 1; lia⟩
    rintro v ⟨gr, hg, rfl⟩
    refine then_put (by walk_at "pt") ?_
    refine WXs_cons ?_
    refine WX_atomR (fun v => v = .str [(if gr % 2 = 0 then 65 else 97) + f i, (if gr / 2 = 0 then 65 else 97) + f (i + 1)]) rfl ?_ ?_ rfl
    · have u0 : (Txt.upper ⟨[97 + f ((i : Int)).toNat].toArray⟩).cps.toList = [65 + f i] := upper_is (hf i (by lia))
      have e1 : ((i : Int) + 1).toNat = i + 1 := by lia
      have u1 : (Txt.upper ⟨[97 + f ((i : Int) + 1).toNat].toArray⟩).cps.toList = [65 + f (i + 1)] := by rw [e1]; exact upper_is (hf (i + 1) (by lia))
      have pk : ∀ (x : Nat) (r : Int), r = ((0 : Nat) : Int) ∨ r = ((1 : Nat) : Int) → ([V.str [65 + x], V.str [97 + x]] : List V).getD r.toNat V.none = V.str [(if r = 0 then 65 else 97) + x] := by
        rintro x r (rfl | rfl) <;> rfl
      repeat' walk_at "st"
      refine i_names (by lia) (by lia) ?_
      repeat' ((fail_if_success (with_reducible show Pw (methV _ _ _ _) _)); walk_at "st")
      refine m_upper (by show 1 ≤ lenLid; decide) ?_
      rw [u0]
      repeat' walk_at "st"
      refine i_names (by lia) (by lia) ?_
      repeat' walk_at "st"
      refine i_list (by lia) (by show (gr : Int) % 2 < (2 : Nat); lia) (by show 2 ≤ lenLid; decide) ?_
      rw [show ([V.str [65 + f i], V.str [97 + f ((i : Int)).toNat]] : List V).getD ((gr : Int) % 2).toNat V.none = V.str [(if (gr : Int) % 2 = 0 then 65 else 97) + f i] from pk (f i) ((gr : Int) % 2) (by lia)]
      repeat' walk_at "st"
      refine i_names (by lia) (by lia) ?_
      repeat' ((fail_if_success (with_reducible show Pw (methV _ _ _ _) _)); walk_at "st")
      refine m_upper (by show 1 ≤ lenLid; decide) ?_
      rw [u1]
      repeat' walk_at "st"
      refine i_names (by lia) (by lia) ?_
      repeat' walk_at "st"
      rw [e1]
      refine i_list (by lia) (by show (gr : Int) / 2 < (2 : Nat); lia) (by show 2 ≤ lenLid; decide) ?_
      rw [pk (f (i + 1)) ((gr : Int) / 2) (by lia)]
      refine b_cat (by show 2 ≤ lenLid; decide) ⟨rfl, ?_⟩
      have c1 : ((gr : Int) % 2 = 0) = (gr % 2 = 0) := by apply propext; lia
      have c2 : ((gr : Int) / 2 = 0) = (gr / 2 = 0) := by apply propext; lia
      simp only [c1, c2]
      rfl
    rintro v rfl
    refine then_put (by walk_at "pt") ?_
    refine WXs_cons ?_
    refine WX_atomR (fun v => v = .int (dueC gr : Nat)) rfl ?_ ?_ rfl
    · repeat' walk_at "st"
      refine i_list (by lia) (by show (gr : Int) < (4 : Nat); lia) (by show 4 ≤ lenLid; decide) ?_
      have key : ∀ k < 4, ([V.int 2, V.int 1, V.int 1, V.int 0] : List V).getD ((k : Nat) : Int).toNat V.none = V.int (([2, 1, 1, 0] : List Nat).getD k 0 : Nat) := by
        intro k hk
        match k, hk with
        | 0, _ => rfl
        | 1, _ => rfl
        | 2, _ => rfl
        | 3, _ => rfl
      rw [key gr hg]
      refine b_add ⟨rfl, ?_⟩
      unfold dueC
      rw [Int.natCast_add]; rfl
    rintro v rfl
    refine then_put (by walk_at "pt") ?_
    refine WXs_cons ?_
    refine WX_atomR (fun v => ∃ e : Nat, e < 3 ∧ v = .int (toldC q i gr e : Nat)) rfl ?_ ?_ rfl
    · repeat' ((fail_if_success (with_reducible show WF _ _ _ _)); walk_at "st")
      obtain ⟨e, he, ee⟩ := modN (d.getD (Int.toNat 6) 0) 3 (by decide)
      have em : ((dueC gr : Nat) : Int) + d.getD (Int.toNat 6) 0 % 3 = ((dueC gr + e : Nat) : Int) := by
        have ee : d.getD (Int.toNat 6) 0 % 3 = (e : Int) := ee
        rw [ee, Int.natCast_add]
      rw [em]
      refine wf_cl (w_lev (by show 2 ≤ 1000; decide) (by rw [List.length_map, hq.length_eq]; decide) ?_)
      rw [htold gr e hg]
      exact ⟨rfl, e, he, rfl⟩
    rintro v ⟨e, he, rfl⟩
    have tt := List.all_eq_true.mp (List.all_eq_true.mp (List.all_eq_true.mp (List.all_eq_true.mp tab_told q (perm_mem hq)) i (List.mem_range.mpr hi3)) gr (List.mem_range.mpr hg)) e (List.mem_range.mpr he)
    have tt : (riseC q i = true ∧ toldC q i gr e = dueC gr) ∨ (riseC q i = false ∧ dueC gr < toldC q i gr e) := by
      cases hr : riseC q i with
      | true =>
        rw [hr] at tt
        exact .inl ⟨rfl, Nat.eq_of_beq_eq_true tt⟩
      | false =>
        rw [hr] at tt
        exact .inr ⟨rfl, by simpa using tt⟩
    generalize toldC q i gr e = T at *
    generalize dueC gr = U at *
    refine then_put (by walk_at "pt") ?_
    clear hi hf htold hp2
    refine WXs_cons ?_
    refine WX_ifR (fun l => l = preT v0 v1 vm d A B f q0 (((((jj.put "k" ⟨.int i, false⟩).put "great" ⟨.int gr, false⟩).put "pair" ⟨.str [(if gr % 2 = 0 then 65 else 97) + f i, (if gr / 2 = 0 then 65 else 97) + f (i + 1)], false⟩).put "due" ⟨.int U, false⟩).put "told" ⟨.int T, false⟩)) ?_ ?_
    · repeat' walk_at "st"
      · exfalso; lia
      · rfl
    rintro l rfl
    walk_at "st"
    refine WXs_cons ?_
    repeat' walk_at "st"
    · rename_i hc
      have hr : riseC q i = false := by
        rcases tt with ⟨_, e⟩ | ⟨e, _⟩
        · exfalso; lia
        · exact e
      have hrs : rw1 = rw0 + 1 := by rw [hrs, hr]; rfl
      subst hrs
      exact ⟨_, rfl, by walk_at "only", by walk_at "at", by walk_at "at", by walk_at "at", by rw [Int.natCast_add]; walk_at "atv"⟩
    · rename_i hc
      have hr : riseC q i = true := by
        rcases tt with ⟨e, _⟩ | ⟨_, e⟩
        · exact e
        · exfalso; lia
      have hrs : rw1 = rw0 := by rw [hrs, hr]; rfl
      subst hrs
      exact ⟨_, rfl, by walk_at "only", by walk_at "at", by walk_at "at", by walk_at "at", by walk_at "at"⟩
  · rintro l ⟨j2, rfl, hj, g1, g2, g3, g4⟩
    rw [List.length_map, List.length_range] at g4
    walk_at "st"
    exact h j2 hj g1 g2 g4
end L2
namespace L2
theorem tab_find : (permsC.all fun q => [48, 49, 50, 51].all fun c => decide (Txt.find ⟨q.toArray⟩ ⟨[c].toArray⟩ = (q.idxOf c : Nat)) && Nat.blt (q.idxOf c) 4) = true := by decide +kernel
theorem find_is {q : List Nat} (hq : q ∈ permsC) {c : Nat} (hc : c ∈ [48, 49, 50, 51]) : Txt.find ⟨q.toArray⟩ ⟨[c].toArray⟩ = (q.idxOf c : Nat) ∧ q.idxOf c < 4 := by
  have := List.all_eq_true.mp (List.all_eq_true.mp tab_find q hq) c hc
  rw [Bool.and_eq_true] at this
  exact ⟨of_decide_eq_true this.1, by simpa using this.2⟩
theorem str_dig : ∀ i < 4, (PySem.Str.ofString (toString ((i : Nat) : Int))).cps.toList = [48 + i] := by decide +kernel
theorem tab_keys : ([2, 3].all fun B => (tabF B).all fun p => permsC.contains p.1 && decide ((tabF B).lookup p.1 = some p.2 ∧ p.2.natAbs < 100)) = true := by decide +kernel
theorem bothC_take {fs sn : List (List Nat × Int)} {pl : List Nat} {i : Nat} {p : List Nat × Int} (h : sn[i]? = some p) : bothC fs (sn.take (i + 1)) pl = bothC fs (sn.take i) pl + p.2 * ((fs.lookup (btwC p.1 pl)).getD 0) := by
  unfold bothC
  rw [List.take_add_one, h, List.foldl_append]; rfl
theorem turnC {v0 v1 vm : V} {d : List Int} {A B t : Nat} {f : Nat → Nat} {q0 q : List Nat} {jj : Ls} {Q : Fl → Ls → Prop} {R : Ls → Prop} (hAB : (A, B) ∈ [(2, 2), (2, 3), (3, 2)]) (hq : q.Perm [48, 49, 50, 51]) (hd : d.length = 8) (hj : Only ns19 jj)
    (g2 : jj.at "cut" = some (.str q)) (g4 : jj.at "rows" = some (.int (rowsC q : Nat))) (h : ∀ j2, Only ns19 j2 → R (preT v0 v1 vm d A B f q0 j2)) :
    WXs GL kd19 183 (preT v0 v1 vm d A B f q0 jj) (body19.drop 6) (Turn R Q) := by
  have hlid : lenLid = 100000 := rfl
  have hqm := perm_mem hq
  refine WXs_cons ?_
  refine WX_atomR (fun v => v = .str (invC q)) rfl ?_ ?_ rfl
  · repeat' ((fail_if_success (with_reducible show WE _ _ _ _ (.ListComp _ _ _ _) _)); walk_at "st")
    have hat : Ls.at (preT v0 v1 vm d A B f q0 jj) "cut" = some (.str q) := by walk_at "at"
    refine' WE_comp (fun (c : Nat) => V.str [c]) [48, 49, 50, 51] (fun c => V.str [48 + q.idxOf c]) ?l1 ?l2 rfl rfl ?l3
    case l1 => walk_at "cp"
    case l3 =>
      unfold ev.scopeOk
      rw [Bool.and_eq_true]
      refine ⟨rfl, ?_⟩
      rw [List.all_eq_true]
      intro p hp
      simp only [List.mem_cons, List.not_mem_nil, or_false] at hp
      rcases hp with rfl | rfl | rfl | rfl
      all_goals first | rfl | (dsimp only; rw [hat]; rfl)
    refine WI_src ?_ rfl fun _ _ => rfl
    repeat' walk_at "st"
    have e0123 : (Str.ofString "0123").cps.toList = [48, 49, 50, 51] := by rfl
    rw [e0123]
    refine it_str (by show 4 ≤ lenLid; decide) ⟨rfl, by show 4 ≤ lenLid; decide, ?_, ?_⟩
    · intro c hc
      obtain ⟨f1, f2⟩ := find_is hqm hc
      repeat' ((fail_if_success (with_reducible show Pw (methV _ _ _ _) _)); walk_at "st")
      refine m_index (by rw [f1]; lia) ?_
      rw [f1]
      repeat' walk_at "st"
      refine f_strI (by lia) ?_
      rw [str_dig _ f2]
    have em : [48, 49, 50, 51].map (fun c => V.str [48 + q.idxOf c]) = ([48, 49, 50, 51].map fun c => [48 + q.idxOf c]).map .str := by rw [List.map_map]; rfl
    have ef : ([48, 49, 50, 51].map fun c => [48 + q.idxOf c]).flatten = invC q := flat_one [48, 49, 50, 51] fun c => 48 + q.idxOf c
    rw [em]
    refine WEs_nil ?_
    refine m_join (by decide +kernel) (by rw [ef]; show 4 ≤ lenLid; decide) ?_
    rw [ef]
    exact ⟨rfl, rfl⟩
  rintro v rfl
  refine then_put (by walk_at "pt") ?_
  refine WXs_cons ?_
  have tc := List.all_eq_true.mp (List.all_eq_true.mp tab_count q hqm) (A, B) hAB
  rw [Bool.and_eq_true, Bool.and_eq_true] at tc
  have c1 := of_decide_eq_true tc.1.1
  have c2 := of_decide_eq_true tc.1.2
  have c3 := of_decide_eq_true tc.2
  dsimp only at c1 c2 c3
  clear tc
  have hr4 : rowsC q ≤ 4 := by
    unfold rowsC
    have := List.length_filter_le (fun k => !riseC q k) (List.range 3)
    rw [List.length_range] at this; lia
  have hA : A ≤ 3 ∧ B ≤ 3 ∧ 2 ≤ A ∧ 2 ≤ B := by
    simp only [List.mem_cons, List.not_mem_nil, or_false, Prod.mk.injEq] at hAB
    lia
  have hplc : ∀ c ∈ invC q, c ∈ [48, 49, 50, 51] := fun c hc => by
    unfold invC at hc
    obtain ⟨x, hx, rfl⟩ := List.mem_map.mp hc
    have := (find_is hqm hx).2
    simp only [List.mem_cons, List.not_mem_nil, or_false]; lia
  have hpll : (invC q).length = 4 := rfl
  generalize rowsC q = rw0 at *
  generalize invC q = pl at *
  refine WX_ifR (fun l => l = preT v0 v1 vm d A B f q0 (jj.put "places" ⟨.str pl, false⟩)) ?_ ?_
  · repeat' ((fail_if_success (with_reducible show Pw (methV _ _ _ _) _)); walk_at "st")
    refine m_getD ?_
    repeat' ((fail_if_success (with_reducible show WF _ _ _ _)); walk_at "st")
    refine wf_cl (w_choices (by lia) (by lia) ?_)
    refine c_neI ?_
    rw [decide_eq_false (fun hne => hne c1)]
    refine ⟨fun _ => ?_, fun hc => Bool.noConfusion hc⟩
    repeat' ((fail_if_success (with_reducible show Pw (methV _ _ _ _) _)); walk_at "st")
    refine m_getD ?_
    repeat' ((fail_if_success (with_reducible show WF _ _ _ _)); walk_at "st")
    refine wf_cl (w_choices (by lia) (by lia) ?_)
    refine c_neI ?_
    rw [decide_eq_false (fun hne => hne c2)]
    refine ⟨fun _ => ?_, fun hc => Bool.noConfusion hc⟩
    repeat' walk_at "st"
    rfl
  rintro l rfl
  walk_at "st"
  refine WXs_cons ?_
  repeat' ((fail_if_success (with_reducible show WX _ _ _ _ (.For _ _ _ _ _) _)); walk_at "st")
  have hsn : (tabF B).length ≤ 81 := by
    obtain ⟨_, hB, _, hB2⟩ := hA
    have : B = 2 ∨ B = 3 := by lia
    rcases this with rfl | rfl
    · exact (by decide : 12 ≤ 81)
    · exact (by decide : 23 ≤ 81)
  refine WX_forC (fun i l => ∃ (j2 : Ls), l = preT v0 v1 vm d A B f q0 j2 ∧ Only ns19 j2 ∧ j2.at "places" = some (.str pl) ∧ j2.at "rows" = some (.int (rw0 : Nat)) ∧ j2.at "both" = some (.int (bothC (tabF A) ((tabF B).take i) pl))) (by walk_at "cl") ?_ rfl
  refine WI_name ?_
  repeat' walk_at "st"
  refine it_dict (by lia) ⟨⟨_, rfl, by walk_at "only", by walk_at "at", by walk_at "at", by rw [List.take_zero]; walk_at "atv"⟩, ?_, ?_⟩
  · clear hj g2 g4 h
    rintro i v l hv ⟨jj, rfl, hj, g2, g4, g5⟩
    rw [List.getElem?_map] at hv
    obtain ⟨p, hp, rfl⟩ := Option.map_eq_some_iff.mp hv
    have hB23 : B ∈ [2, 3] := by simp only [List.mem_cons, List.not_mem_nil, or_false]; lia
    have tk := List.all_eq_true.mp (List.all_eq_true.mp tab_keys B hB23) p (List.mem_of_getElem? hp)
    rw [Bool.and_eq_true] at tk
    have kp : p.1 ∈ permsC := List.contains_iff_mem.mp tk.1
    obtain ⟨kl, kn⟩ := of_decide_eq_true tk.2
    have hbt := bothC_take (fs := tabF A) (pl := pl) hp
    generalize bothC (tabF A) ((tabF B).take i) pl = b0 at *
    generalize bothC (tabF A) ((tabF B).take (i + 1)) pl = b1 at *
    refine ⟨rfl, ?_⟩
    refine WXs_cons ?_
    refine WX_atomR (fun v => v = .str (btwC p.1 pl)) rfl ?_ ?_ rfl
    · repeat' ((fail_if_success (with_reducible show WE _ _ _ _ (.ListComp _ _ _ _) _)); walk_at "st")
      have hat : Ls.at (preT v0 v1 vm d A B f q0 (jj.put "after" ⟨.str p.1, false⟩)) "after" = some (.str p.1) := by walk_at "at"
      refine' WE_comp (fun (c : Nat) => V.str [c]) pl (fun c => V.str [48 + p.1.idxOf c]) ?n1 ?n2 rfl rfl ?n3
      case n1 => walk_at "cp"
      case n3 =>
        unfold ev.scopeOk
        rw [Bool.and_eq_true]
        refine ⟨rfl, ?_⟩
        rw [List.all_eq_true]
        intro p hp
        simp only [List.mem_cons, List.not_mem_nil, or_false] at hp
        rcases hp with rfl | rfl | rfl
        all_goals first | rfl | (dsimp only; rw [hat]; rfl)
      refine WI_name ?_
      repeat' walk_at "st"
      refine it_str (by lia) ⟨rfl, by lia, ?_, ?_⟩
      · intro c hc
        obtain ⟨f1, f2⟩ := find_is kp (hplc c hc)
        repeat' ((fail_if_success (with_reducible show Pw (methV _ _ _ _) _)); walk_at "st")
        refine m_index (by rw [f1]; lia) ?_
        rw [f1]
        have e0123 : (Str.ofString "0123").cps.toList = [48, 49, 50, 51] := by rfl
        rw [e0123]
        refine i_strN f2 (by show 4 ≤ lenLid; decide) ?_
        have key : ∀ k < 4, ([48, 49, 50, 51] : List Nat).getD k 0 = 48 + k := by decide
        rw [key _ f2]
      have em : pl.map (fun c => V.str [48 + p.1.idxOf c]) = (pl.map fun c => [48 + p.1.idxOf c]).map .str := by rw [List.map_map]; rfl
      have ef : (pl.map fun c => [48 + p.1.idxOf c]).flatten = btwC p.1 pl := flat_one pl fun c => 48 + p.1.idxOf c
      have el : (btwC p.1 pl).length = pl.length := List.length_map ..
      rw [em]
      refine WEs_nil ?_
      refine m_join (by decide +kernel) (by rw [ef, el]; lia) ?_
      rw [ef]
      exact ⟨rfl, rfl⟩
    rintro v rfl
    refine then_put (by walk_at "pt") ?_
    refine WXs_cons ?_
    repeat' ((fail_if_success (with_reducible show Pw (itemV _ _) _)); walk_at "st")
    refine i_dict kl ?_
    repeat' ((fail_if_success (with_reducible show Pw (methV _ _ _ _) _)); walk_at "st")
    refine m_getD ?_
    refine b_mul (.inl (by lia)) ?_
    repeat' ((fail_if_success (with_reducible show Exists _)); walk_at "st")
    rw [hbt]
    exact ⟨_, rfl, by walk_at "only", by walk_at "at", by walk_at "at", by walk_at "atv"⟩
  · rintro l ⟨j2, rfl, hj2, g2, g4, g5⟩
    rw [List.length_map, List.take_length] at g5
    rw [c3] at g5
    walk_at "st"
    refine WXs_cons ?_
    refine WX_ifR (fun l => l = preT v0 v1 vm d A B f q0 j2) ?_ ?_
    · repeat' ((fail_if_success (with_reducible show Pw (binV .Mult _ _) _)); walk_at "st")
      refine b_mul (.inl (by lia)) ?_
      repeat' ((fail_if_success (with_reducible show WF _ _ _ _)); walk_at "st")
      have hAB2 : (A : Int) * (B : Int) = ((A * B : Nat) : Int) := (Int.natCast_mul ..).symm
      have hAB3 : 4 ≤ A * B ∧ A * B ≤ 9 := ⟨Nat.mul_le_mul hA.2.2.1 hA.2.2.2, Nat.mul_le_mul hA.1 hA.2.1⟩
      rw [hAB2]
      refine wf_cl (w_choices (by lia) (by lia) ?_)
      refine c_neI ?_
      rw [decide_eq_false (fun hne => hne rfl)]
      refine ⟨fun hc => Bool.noConfusion hc, fun _ => ?_⟩
      repeat' walk_at "st"
      rfl
    rintro l rfl
    walk_at "st"
    walk_at "st"
    exact h j2 hj2
end L2
namespace L2
theorem lawD {v0 v1 vm : V} {d : List Int} {A B : Nat} {f : Nat → Nat} {q0 : List Nat} (hAB : (A, B) ∈ [(2, 2), (2, 3), (3, 2)]) (hf : ∀ i, i < 4 → f i < 16) (hi : ∀ i j, i < 4 → j < 4 → f i = f j → i = j) (hq : q0.Perm [48, 49, 50, 51]) (hd : d.length = 8) :
    WXs GL kd19 191 (preT v0 v1 vm d A B f q0 []) ((fnT st19).body.drop 9) (Post fun v => v = .bool true) := by
  have hA : A ≤ 3 ∧ B ≤ 3 ∧ 2 ≤ A ∧ 2 ≤ B := by
    simp only [List.mem_cons, List.not_mem_nil, or_false, Prod.mk.injEq] at hAB
    lia
  have hS : A + B ≤ 8 := by lia
  refine WXs_cons ?_
  refine WX_forC (fun i l => ∃ (jj : Ls), l = preT v0 v1 vm d A B f q0 jj ∧ Only ns19 jj) (by walk_at "cl") ?_ rfl
  refine WI_range ?_ rfl (by walk_at "at") rfl
  repeat' walk_at "st"
  refine rng1 (m := 8 - A - B) (by lia) (Nat.le_trans (Nat.sub_le _ _) (Nat.le_trans (Nat.sub_le _ _) (by decide))) ⟨⟨[], rfl, only_nil⟩, ?_, ?_⟩
  · rintro t v l hv ⟨jj, rfl, hj⟩
    obtain ⟨ht, rfl⟩ := range_item hv
    clear hv
    refine ⟨rfl, ?_⟩
    have ep : Ls.put (preT v0 v1 vm d A B f q0 jj) "turn" ⟨.int t, false⟩ = preT v0 v1 vm d A B f q0 (jj.put "turn" ⟨.int t, false⟩) := by walk_at "pt"
    rw [ep]
    have ht4 : t < 4 := by lia
    refine turnA (t := t) hf hq ht4 hd (by walk_at "only") (by walk_at "atv") fun q j2 hq2 hj2 a1 a2 a3 a4 => ?_
    refine turnB (t := t) hf hi hq2 ht4 hd hj2 a1 a2 a3 a4 fun j3 hj3 b1 b2 b3 => ?_
    exact turnC (t := 0) hAB hq2 hd hj3 b2 b3 fun j4 hj4 => ⟨j4, rfl, hj4⟩
  · rintro l ⟨jj, rfl, hj⟩
    repeat' walk_at "st"
    rfl
end L2
namespace L2
theorem i_natsN' {Q : V → Prop} {xs : List Nat} {i : Int} (h0 : 0 ≤ i) (h1 : i < xs.length) (hl : xs.length ≤ lenLid) (h : Q (.int (xs.getD i.toNat 0 : Nat))) : Pw (itemV (.list (xs.map fun (x : Nat) => V.int x)) (.int i)) Q := i_nats h0 h1 hl h
/-- the letters' places -/
noncomputable def offC (c : Nat) : Nat := [5, 8, 10, 11, 12, 1, 6, 15].getD c 0
theorem off_lt : ∀ c < 8, offC c < 16 ∧ [102, 105, 107, 108, 109, 98, 103, 112].getD c 0 = 97 + offC c := by decide
theorem off_inj : ∀ c < 8, ∀ d < 8, offC c = offC d → c = d := by decide
noncomputable def namF (x y : Int) (k : Nat) : Nat := offC ((x + (2 * y + 1) * k) % 8).toNat
theorem namF_lt (x y : Int) (k : Nat) : namF x y k < 16 := (off_lt _ (by lia)).1
theorem nam_tab : ∀ a < 8, ∀ b < 8, ∀ i < 4, ∀ j < 4, (a + (2 * b + 1) * i) % 8 = (a + (2 * b + 1) * j) % 8 → i = j := by decide +kernel
theorem nam_mod (x y : Int) (k : Nat) : ((x + (2 * y + 1) * k) % 8).toNat = ((x % 8).toNat + (2 * (y % 8).toNat + 1) * k) % 8 := by
  have hx := Int.toNat_of_nonneg (Int.emod_nonneg x (by decide : (8 : Int) ≠ 0))
  have hy := Int.toNat_of_nonneg (Int.emod_nonneg y (by decide : (8 : Int) ≠ 0))
  have e : x + (2 * y + 1) * k = ((x % 8).toNat + (2 * (y % 8).toNat + 1) * k : Nat) + 8 * (x / 8 + 2 * (y / 8) * k) := by
    have e1 := Int.emod_add_mul_ediv x 8
    have e2 := Int.emod_add_mul_ediv y 8
    rw [Int.natCast_add, Int.natCast_mul, Int.natCast_add, Int.natCast_mul, hx, hy]
    show _ = x % 8 + (2 * (y % 8) + 1) * (k : Int) + _
    generalize x / 8 = q at *
    generalize y / 8 = r at *
    generalize x % 8 = a at *
    generalize y % 8 = b at *
    subst e1 e2
    grind
  rw [e, Int.add_mul_emod_self_left]
  rfl
theorem m8 (x : Int) : (x % 8).toNat < 8 := by lia
theorem namF_inj (x y : Int) (i j : Nat) (hi : i < 4) (hj : j < 4) (h : namF x y i = namF x y j) : i = j := by
  have := off_inj _ (by rw [nam_mod]; exact Nat.mod_lt _ (by decide)) _ (by rw [nam_mod]; exact Nat.mod_lt _ (by decide)) h
  rw [nam_mod, nam_mod] at this
  exact nam_tab _ (m8 x) _ (m8 y) i hi j hj this
theorem lawC {v0 v1 : V} {d : List Int} {A B : Nat} {f : Nat → Nat} {ms : List Nat} (hAB : (A, B) ∈ [(2, 2), (2, 3), (3, 2)]) (hf : ∀ i, i < 4 → f i < 16) (hi : ∀ i j, i < 4 → j < 4 → f i = f j → i = j) (hd : d.length = 8)
    (h3 : ms.length = 3) (hb : ∀ c ∈ ms, c < 16) (hmono : ∀ i j, i < 3 → j < 3 → (ms.getD i 0 < ms.getD j 0 ↔ i < j)) :
    WXs GL kd19 194 [("script", ⟨v0, false⟩), ("start", ⟨v1, false⟩), ("draws", ⟨.list (d.map .int), false⟩), ("a", ⟨.int A, false⟩), ("b", ⟨.int B, false⟩), ("names", ⟨.list (([0, 1, 2, 3].map fun i => [97 + f i]).map .str), false⟩), ("marks", ⟨vnats ms, false⟩)] ((fnT st19).body.drop 6) (Post fun v => v = .bool true) := by
  have hlid : lenLid = 100000 := rfl
  have hd3 : (3 : Int) < d.length := by rw [hd]; decide
  have hd4 : (4 : Int) < d.length := by rw [hd]; decide
  have hd6 : (6 : Int) < d.length := by rw [hd]; decide
  obtain ⟨hA2, hA3, hB2, hB3, eA, eB⟩ : 2 ≤ A ∧ A ≤ 3 ∧ 2 ≤ B ∧ B ≤ 3 ∧ foundO A (A ^ 4) = tabF A ∧ foundO B (B ^ 4) = tabF B := by
    simp only [List.mem_cons, List.not_mem_nil, or_false, Prod.mk.injEq] at hAB
    rcases hAB with ⟨rfl, rfl⟩ | ⟨rfl, rfl⟩ | ⟨rfl, rfl⟩
    · exact ⟨by decide, by decide, by decide, by decide, tab_two, tab_two⟩
    · exact ⟨by decide, by decide, by decide, by decide, tab_two, tab_three⟩
    · exact ⟨by decide, by decide, by decide, by decide, tab_three, tab_two⟩
  refine WXs_cons ?_
  refine WX_dcall (by walk_at "cl") rfl ?_ rfl (by walk_at "at") rfl
  repeat' ((fail_if_success (with_reducible show Pw (binV .Mult _ _) _)); walk_at "st")
  refine b_mul (.inl (by decide)) ?_
  repeat' ((fail_if_success (with_reducible show Pw (Cfg.dn _ _ _) _)); walk_at "st")
  refine w_orders (m := 3) hA2 hA3 (by lia) h3 hb hmono ?_
  refine ⟨rfl, ?_⟩
  rw [eA]
  refine then_put (by walk_at "pt") ?_
  refine WXs_cons ?_
  refine WX_dcall (by walk_at "cl") rfl ?_ rfl (by walk_at "at") rfl
  repeat' ((fail_if_success (with_reducible show Pw (Cfg.dn _ _ _) _)); walk_at "st")
  refine w_orders (m := 3) hB2 hB3 (by lia) h3 hb hmono ?_
  refine ⟨rfl, ?_⟩
  rw [eB]
  refine then_put (by walk_at "pt") ?_
  refine WXs_cons ?_
  refine WX_atomR (fun v => ∃ q : List Nat, q.Perm [48, 49, 50, 51] ∧ v = .str q) rfl ?_ ?_ rfl rfl
  · repeat' ((fail_if_success (with_reducible show Pw (binV .Mult _ _) _)); walk_at "st")
    refine b_mul (.inl (by decide)) ?_
    repeat' ((fail_if_success (with_reducible show WF _ _ _ _)); walk_at "st")
    exact wf_cl (w_pack fun p hp => ⟨rfl, p, hp, rfl⟩)
  rintro v ⟨q, hq, rfl⟩
  refine then_put (by walk_at "pt") ?_
  exact lawD hAB hf hi hq hd
theorem lawB {v0 v1 : V} {d : List Int} (hd : d.length = 8) :
    Then GL kd19 198 ((fnT st19).body.drop 2) (Post fun v => v = .bool true) .next (Ls.put [("script", ⟨v0, false⟩), ("start", ⟨v1, false⟩)] "draws" ⟨.list (d.map .int), false⟩) := by
  have hlid : lenLid = 100000 := rfl
  have hd0 : (0 : Int) < d.length := by rw [hd]; decide
  have hd1 : (1 : Int) < d.length := by rw [hd]; decide
  have hd2 : (2 : Int) < d.length := by rw [hd]; decide
  have hd7 : (7 : Int) < d.length := by rw [hd]; decide
  refine then_put (by walk_at "pt") ?_
  obtain ⟨t, ht, et⟩ : ∃ t : Nat, t < 3 ∧ d.getD (Int.toNat 0) 0 % 3 = t := modN _ 3 (by decide)
  refine WXs_cons ?_
  refine WX_atomR (fun v => v = .int ([2, 2, 3].getD t 0 : Nat)) rfl ?_ ?_ rfl rfl
  · repeat' ((fail_if_success (with_reducible show Pw (itemV _ (.int (_ % _))) _)); walk_at "st")
    rw [et]
    refine i_natsN' (xs := [2, 2, 3]) (by lia) (by show (t : Int) < (3 : Nat); lia) (by decide) ?_
    rw [Int.toNat_natCast]
    exact ⟨rfl, rfl⟩
  rintro v rfl
  refine then_put (by walk_at "pt") ?_
  refine WXs_cons ?_
  refine WX_atomR (fun v => v = .int ([2, 3, 2].getD t 0 : Nat)) rfl ?_ ?_ rfl rfl
  · repeat' ((fail_if_success (with_reducible show Pw (itemV _ (.int (_ % _))) _)); walk_at "st")
    rw [et]
    refine i_natsN' (xs := [2, 3, 2]) (by lia) (by show (t : Int) < (3 : Nat); lia) (by decide) ?_
    rw [Int.toNat_natCast]
    exact ⟨rfl, rfl⟩
  rintro v rfl
  have hAB : ∀ t < 3, ([2, 2, 3].getD t 0, [2, 3, 2].getD t 0) ∈ [(2, 2), (2, 3), (3, 2)] := by decide
  have hAB := hAB t ht
  clear et
  generalize ([2, 2, 3] : List Nat).getD t 0 = A at *
  generalize ([2, 3, 2] : List Nat).getD t 0 = B at *
  refine then_put (by walk_at "pt") ?_
  refine WXs_cons ?_
  refine WX_clean rfl rfl ?_ rfl rfl
  refine' WE_compR 4 (fun k => .str [97 + namF (d.getD (Int.toNat 1) 0) (d.getD (Int.toNat 2) 0) k]) ?k1 ?k2 rfl ?k4 rfl rfl rfl rfl ?k9 ?he ?hE ?hQ
  walk_at "cps"
  case he =>
    repeat' walk_at "st"
    rfl
  case hE =>
    intro k hk
    repeat' ((fail_if_success (with_reducible show Pw (binV .Mult _ _) _)); walk_at "st")
    refine b_mul (.inl (by decide)) ?_
    repeat' ((fail_if_success (with_reducible show Pw (binV .Mult _ _) _)); walk_at "st")
    refine b_mul (.inr (by lia)) ?_
    repeat' ((fail_if_success (with_reducible show Pw (itemV (.str _) _) _)); walk_at "st")
    have es : (Str.ofString "fiklmbgp").cps.toList = [102, 105, 107, 108, 109, 98, 103, 112] := by rfl
    rw [es]
    refine i_str (by lia) (by show _ < ((8 : Nat) : Int); lia) (by decide) ?_
    rw [(off_lt _ (by lia)).2]
    rfl
  case hQ =>
    have hf := namF_lt (d.getD (Int.toNat 1) 0) (d.getD (Int.toNat 2) 0)
    have hi := namF_inj (d.getD (Int.toNat 1) 0) (d.getD (Int.toNat 2) 0)
    generalize namF (d.getD (Int.toNat 1) 0) (d.getD (Int.toNat 2) 0) = f at *
    refine then_put (l' := [("script", ⟨v0, false⟩), ("start", ⟨v1, false⟩), ("draws", ⟨.list (d.map .int), false⟩), ("a", ⟨.int A, false⟩), ("b", ⟨.int B, false⟩), ("names", ⟨.list (([0, 1, 2, 3].map fun i => [97 + f i]).map .str), false⟩)]) (by walk_at "pt") ?_
    refine WXs_cons ?_
    refine WX_clean rfl rfl ?_ rfl rfl
    obtain ⟨p, hp, ep⟩ : ∃ p : Nat, p < 2 ∧ d.getD (Int.toNat 7) 0 % 2 = p := modN _ 2 (by decide)
    obtain ⟨q, hq, eq⟩ : ∃ q : Nat, q < 7 ∧ d.getD (Int.toNat 7) 0 / 2 % 7 = q := modN _ 7 (by decide)
    refine' WE_compR 3 (fun k => .int (p + (1 + q) * k : Nat)) ?m1 ?m2 rfl ?m4 rfl rfl rfl rfl ?m9 ?me ?mE ?mQ
    case m1 => walk_at "cp"
    case m2 => walk_at "sd"
    case m4 => walk_at "at"
    case m9 => exact fun _ _ => Expr.noConfusion
    case me =>
      repeat' walk_at "st"
      rfl
    case mE =>
      intro k hk
      repeat' ((fail_if_success (with_reducible show Pw (binV .Mult _ _) _)); walk_at "st")
      refine b_mul (.inr (by lia)) ?_
      repeat' walk_at "st"
      rw [ep, eq]
      refine congrArg V.int ?_
      rw [Int.natCast_add, Int.natCast_mul, Int.natCast_add]; rfl
    case mQ =>
      refine then_put (l' := [("script", ⟨v0, false⟩), ("start", ⟨v1, false⟩), ("draws", ⟨.list (d.map .int), false⟩), ("a", ⟨.int A, false⟩), ("b", ⟨.int B, false⟩), ("names", ⟨.list (([0, 1, 2, 3].map fun i => [97 + f i]).map .str), false⟩), ("marks", ⟨vnats [p + (1 + q) * 0, p + (1 + q) * 1, p + (1 + q) * 2], false⟩)]) (by walk_at "pt") ?_
      refine lawC hAB (fun i _ => hf i) hi hd rfl (fun c hc => ?_) fun i j h1 h2 => ?_
      · simp only [List.mem_cons, List.not_mem_nil, or_false] at hc
        lia
      · rcases lt3 h1 with rfl | rfl | rfl <;> rcases lt3 h2 with rfl | rfl | rfl <;> simp only [List.getD_cons_zero, List.getD_cons_succ] <;> lia
theorem law_walk {ns : List Int} (hns : ns.length ≤ 63) : Pw (runFn GL [fnT st19] "law" [.list (ns.map .int)]) fun v => v = .bool true := by
  have hlid : lenLid = 100000 := rfl
  refine RF_of (fnT st19) [("script", ⟨.list (ns.map .int), false⟩)] rfl (by rfl) ?_
  refine WXs_cons ?_
  refine WX_clean rfl rfl ?_ rfl rfl
  repeat' ((fail_if_success (with_reducible show WX _ _ _ _ (.Assign _ _ _) _)); walk_at "st")
  refine WX_clean rfl rfl ?_ rfl rfl
  have es : V.list [.int 0, .int 2, .int 3, .int 0, .int 1, .int 4, .int 3, .int 2] = V.list (([0, 2, 3, 0, 1, 4, 3, 2] : List Int).map .int) := rfl
  rw [es]
  refine' WE_compR 8 (fun k => .int (([0, 2, 3, 0, 1, 4, 3, 2] : List Int).getD k 0 + (pickL ns (some (k : Int)) none (some 8)).sum)) ?k1 ?k2 rfl ?k4 rfl rfl rfl rfl ?k9 ?he ?hE ?hQ
  walk_at "cps"
  case he =>
    repeat' walk_at "st"
    rfl
  case hE =>
    intro k hk
    repeat' walk_at "st"
    rfl
  case hQ =>
    have ed : (List.range 8).map (fun (k : Nat) => V.int (([0, 2, 3, 0, 1, 4, 3, 2] : List Int).getD k 0 + (pickL ns (some (k : Int)) none (some 8)).sum)) = ((List.range 8).map fun (k : Nat) => ([0, 2, 3, 0, 1, 4, 3, 2] : List Int).getD k 0 + (pickL ns (some (k : Int)) none (some 8)).sum).map .int := by rw [List.map_map]; rfl
    rw [ed]
    have hd : ((List.range 8).map fun (k : Nat) => ([0, 2, 3, 0, 1, 4, 3, 2] : List Int).getD k 0 + (pickL ns (some (k : Int)) none (some 8)).sum).length = 8 := by simp
    generalize (List.range 8).map (fun (k : Nat) => ([0, 2, 3, 0, 1, 4, 3, 2] : List Int).getD k 0 + (pickL ns (some (k : Int)) none (some 8)).sum) = d at *
    clear ed es
    exact lawB hd
theorem ta2 : PySem.Challenge.rw_ta0051_02.Holds := fin_holds fun ns h => law_walk h
end L2
end Mine
theorem PySem.Challenge.cw_ta0051_02_holds : PySem.Challenge.rw_ta0051_02.Holds :=
  Mine.L2.ta2
