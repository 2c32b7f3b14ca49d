import PyProof.Rows.All
import Wide.All
import OpenK.AllK
import Wide.FinOn
import PySem.Challenge.RW_rl0015_01
set_option Elab.async false
set_option maxRecDepth 100000
set_option linter.unusedVariables false

section
open PySem PySem.W PyProof.Rows
set_option maxRecDepth 100000
set_option maxHeartbeats 1000000
set_option linter.unusedVariables false
namespace Mine

/-- every object outside X stays as it is -/
structure Ex (X : List Addr) (s s' : Shared) : Prop where
  keep : ∀ b o, b ∉ X → s.heap.get? b = some o → s'.heap.get? b = some o
  bare : AllBare s.gens → AllBare s'.gens
  os : s'.os = s.os

theorem Ex.refl {X s} : Ex X s s := ⟨fun _ _ _ h => h, fun h => h, rfl⟩
theorem Ex.keep0 {s s'} (h : Ex [] s s') : ∀ b o, s.heap.get? b = some o → s'.heap.get? b = some o := fun b o e => h.keep b o (by simp) e
theorem Ex.step {X Y s0 s s'} (h : Ex X s0 s) (h' : Ex Y s s') (hY : ∀ y ∈ Y, y ∈ X ∨ s0.heap.get? y = none) : Ex X s0 s' := by
  refine ⟨fun b o hb e => h'.keep b o (fun hy => ?_) (h.keep b o hb e), fun x => h'.bare (h.bare x), h'.os.trans h.os⟩
  rcases hY b hy with h1 | h1
  · exact hb h1
  · rw [h1] at e; cases e
theorem Ex.old {X s s' y} (h : Ex X s s') (hy : s'.heap.get? y = none) : y ∈ X ∨ s.heap.get? y = none := by
  by_cases hm : y ∈ X
  · exact .inl hm
  · cases e : s.heap.get? y with
    | none => exact .inr rfl
    | some o => rw [h.keep y o hm e] at hy; cases hy
theorem Ex.old0 {s s' y} (h : Ex [] s s') (hy : s'.heap.get? y = none) : s.heap.get? y = none := (h.old hy).resolve_left (by simp)
theorem fresh_size (h : Heap) : h.get? h.objs.size = none := by
  cases e : h.get? h.objs.size with
  | none => rfl
  | some o => exact absurd (Heap.lt_size e) (Nat.lt_irrefl _)
theorem Ex.trans {X s s' s''} (h : Ex X s s') (h' : Ex X s' s'') : Ex X s s'' := h.step h' fun _ hy => .inl hy
theorem Ex.step0 {X s0 s s'} (h : Ex X s0 s) (h' : Ex [] s s') : Ex X s0 s' := h.step h' (by simp)
theorem Ex.weak {X Y s s'} (h : Ex X s s') (hs : ∀ y ∈ X, y ∈ Y) : Ex Y s s' := ⟨fun b o hb e => h.keep b o (fun hy => hb (hs b hy)) e, h.bare, h.os⟩
theorem Ex.lift {X s s'} (h : Ex [] s s') : Ex X s s' := h.weak (by simp)
theorem Ex.toks {X s} (n : Nat) : Ex X s { s with toks := n } := ⟨fun _ _ _ h => h, fun h => h, rfl⟩
theorem Ex.push {X s} (o : Obj) (n : Nat) : Ex X s { s with heap := s.heap.push o, toks := n } :=
  ⟨fun _ _ _ h => Heap.get?_push_of_some _ h, fun h => h, rfl⟩
theorem Ex.push' {X s} (o : Obj) : Ex X s { s with heap := s.heap.push o } := Ex.push o s.toks
theorem Ex.same {a s h'} (n : Nat) (hs : Heap.SameBut a s.heap h') : Ex [a] s { s with heap := h', toks := n } :=
  ⟨fun b o hb e => (hs.2 b (by simpa using hb)).trans e, fun h => h, rfl⟩
theorem Ex.ns {X s s' L m} (h : Ex X s s') (hn : s.heap.Ns L m) (hL : L ∉ X) : s'.heap.Ns L m :=
  let ⟨o, es, ep, e, r⟩ := hn; ⟨o, es, ep, h.keep _ _ hL e, r⟩

variable {α β : Type} {w : World} {M : Model} {prog : Program} {A : Around} {env : Env} {s s' : Shared}

/-- a tree that from every state beyond s gives a value of R and keeps everything -/
def Pe (M : Model) (A : Around) (t : Sem α) (s : Shared) (R : α → Prop) : Prop :=
  ∀ s', Ex [] s s' → ∀ (E : Value → Shared → Prop), wpAny M A t (fun v s'' => Ex [] s' s'' ∧ R v) E s'

theorem Pe.use {t : Sem α} {R : α → Prop} {Q : α → Shared → Prop} {E : Value → Shared → Prop} (h : Pe M A t s R) (hx : Ex [] s s')
    (k : ∀ v s'', R v → Ex [] s s'' → Ex [] s' s'' → Q v s'') : wpAny M A t Q E s' :=
  wpAny_mono (h s' hx E) (fun v s'' ⟨a, b⟩ => k v s'' b (hx.trans a) a) fun _ _ x => x
theorem Pe.mono {t : Sem α} {R R' : α → Prop} (h : Pe M A t s R) (k : ∀ v, R v → R' v) : Pe M A t s R' :=
  fun s' hx E => h.use hx fun v s'' r _ a => ⟨a, k v r⟩
theorem Pe.later {t : Sem α} {R : α → Prop} (h : Pe M A t s R) (hx : Ex [] s s') : Pe M A t s' R := fun s'' hy E => h s'' (hx.trans hy) E
theorem Pe.pure {a : α} {R : α → Prop} (h : R a) : Pe M A (Pure.pure a) s R := fun _ _ _ => wpAny_pure ⟨.refl, h⟩
theorem Pe.bind {t : Sem α} {f : α → Sem β} {R : α → Prop} {R' : β → Prop} (h : Pe M A t s R) (k : ∀ v, R v → Pe M A (f v) s R') : Pe M A (t >>= f) s R' :=
  fun s' hx E => wpAny_bind (h.use hx fun v s'' r hx' a => (k v r).use hx' fun v' s3 r' _ a' => ⟨a.trans a', r'⟩)

abbrev St (x : List Nat) (v : Value) : Prop := ∃ t, v = .str ⟨x.toArray⟩ t
abbrev It (n : Int) (v : Value) : Prop := ∃ t, v = .int n t

theorem pe_int {i : Int} {k pos} : Pe M A (eval (.Constant (.int i) k pos) env) s (It i) := fun _ _ _ => wpAny_Constant_int ⟨.toks _, _, rfl⟩
theorem pe_str {x : Str} {l : List Nat} {k pos} (h : x = ⟨l.toArray⟩) : Pe M A (eval (.Constant (.str x) k pos) env) s (St l) := fun _ _ _ => wpAny_Constant_str ⟨.toks _, _, by rw [h]⟩
theorem pe_bool {b : Bool} {k pos} : Pe M A (eval (.Constant (.bool b) k pos) env) s (· = .bool b) := fun _ _ _ => wpAny_Constant_bool ⟨.refl, rfl⟩

theorem pe_local {x : Str} {pos : Pos} {m : Str → Option Value} {v : Value} (hn : s.heap.Ns env.locals m) (hv : m x = some v)
    (hk : env.scope.kind = .function := by rfl) (hl : env.kindOf x = some .local := by rfl) (hd : (x == ("__debug__" : Str)) = false := by decide) :
    Pe M A (eval (.Name x pos) env) s (· = v) :=
  fun _ hx _ => wpAny_Name (wpAny_loadName_local hk hl (hx.ns hn (by simp)) hv ⟨.refl, rfl⟩) hd

theorem pe_global {x : Str} {pos : Pos} {mg : Str → Option Value} {v : Value} (hn : s.heap.Ns env.globals mg) (hv : mg x = some v)
    (hk : env.scope.kind = .function := by rfl) (hl : env.kindOf x = some .globalImplicit := by rfl) (hd : (x == ("__debug__" : Str)) = false := by decide) :
    Pe M A (eval (.Name x pos) env) s (· = v) :=
  fun _ hx _ => Calls.Name_function_global hk hl (Calls.loadGlobal_global (hx.ns hn (by simp)) hv ⟨.refl, rfl⟩) hd
theorem pe_builtin {x : Str} {pos : Pos} {mg mb : Str → Option Value} {v : Value} (hn : s.heap.Ns env.globals mg) (hm : mg x = none) (hb : s.heap.Ns env.builtins mb) (hv : mb x = some v)
    (hk : env.scope.kind = .function := by rfl) (hl : env.kindOf x = some .globalImplicit := by rfl) (hd : (x == ("__debug__" : Str)) = false := by decide) :
    Pe M A (eval (.Name x pos) env) s (· = v) :=
  fun _ hx _ => Calls.Name_function_global hk hl (Calls.loadGlobal_builtin (hx.ns hn (by simp)) hm (hx.ns hb (by simp)) hv ⟨.refl, rfl⟩) hd

theorem pe_binop {l r : Expr} {op : Operator} {pos : Pos} {R1 R2 R : Value → Prop} (h1 : Pe M A (eval l env) s R1) (h2 : Pe M A (eval r env) s R2)
    (h : ∀ a b, R1 a → R2 b → Pe M A (binaryOp op a b) s R) : Pe M A (eval (.BinOp l op r pos) env) s R :=
  fun _ hx _ => wpAny_BinOp (h1.use hx fun a s1 ra hx1 a1 => h2.use hx1 fun b s2 rb hx2 a2 => (h a b ra rb).use hx2 fun v s3 rv _ a3 => ⟨(a1.trans a2).trans a3, rv⟩)

theorem cps_append (a b : List Nat) : ((⟨a.toArray⟩ : Str) ++ ⟨b.toArray⟩) = ⟨(a ++ b).toArray⟩ := by
  show (Str.mk (a.toArray ++ b.toArray)) = _
  simp

theorem pe_add_str {l r : Expr} {pos : Pos} {a b : List Nat} (h1 : Pe (model prog w) A (eval l env) s (St a)) (h2 : Pe (model prog w) A (eval r env) s (St b))
    (hsz : a.length + b.length ≤ sizeLine) : Pe (model prog w) A (eval (.BinOp l .Add r pos) env) s (St (a ++ b)) := by
  refine pe_binop h1 h2 ?_
  rintro _ _ ⟨t, rfl⟩ ⟨u, rfl⟩ s' hx E
  refine P.add_str ?_
  split
  · rename_i h
    have : a = [] := by simpa [Str.length] using h
    subst this
    exact ⟨.refl, u, by simp⟩
  · split
    · rename_i h
      have : b = [] := by simpa [Str.length] using h
      subst this
      exact ⟨.refl, t, by simp⟩
    · exact ⟨by rw [cps_append]; simpa [Str.length] using hsz, .toks _, _, by rw [cps_append]⟩

/-! ints -/
theorem pe_add {l r : Expr} {pos : Pos} {a b : Int} (h1 : Pe (model prog w) A (eval l env) s (It a)) (h2 : Pe (model prog w) A (eval r env) s (It b)) :
    Pe (model prog w) A (eval (.BinOp l .Add r pos) env) s (It (a + b)) :=
  pe_binop h1 h2 (by rintro _ _ ⟨t, rfl⟩ ⟨u, rfl⟩ s' hx E; exact P.add_int ⟨.toks _, _, rfl⟩)
theorem pe_sub {l r : Expr} {pos : Pos} {a b : Int} (h1 : Pe (model prog w) A (eval l env) s (It a)) (h2 : Pe (model prog w) A (eval r env) s (It b)) :
    Pe (model prog w) A (eval (.BinOp l .Sub r pos) env) s (It (a - b)) :=
  pe_binop h1 h2 (by rintro _ _ ⟨t, rfl⟩ ⟨u, rfl⟩ s' hx E; exact P.sub_int ⟨.toks _, _, rfl⟩)
theorem pe_mod {l r : Expr} {pos : Pos} {a b : Int} (hb : b ≠ 0) (h1 : Pe (model prog w) A (eval l env) s (It a)) (h2 : Pe (model prog w) A (eval r env) s (It b)) :
    Pe (model prog w) A (eval (.BinOp l .Mod r pos) env) s (It (a.fmod b)) :=
  pe_binop h1 h2 (by rintro _ _ ⟨t, rfl⟩ ⟨u, rfl⟩ s' hx E; exact PyProof.Rows.mod_int' hb ⟨.toks _, _, rfl⟩)
theorem pe_fdiv {l r : Expr} {pos : Pos} {a b : Int} (hb : b ≠ 0) (hs : b.natAbs < 1073741824) (h1 : Pe (model prog w) A (eval l env) s (It a)) (h2 : Pe (model prog w) A (eval r env) s (It b)) :
    Pe (model prog w) A (eval (.BinOp l .FloorDiv r pos) env) s (It (a.fdiv b)) :=
  pe_binop h1 h2 (by rintro _ _ ⟨t, rfl⟩ ⟨u, rfl⟩ s' hx E; exact PyProof.Rows.floordiv_int hb ⟨.toks _, _, rfl⟩ (.inl (PyProof.noPylong_small hs)))
theorem pe_neg {x : Expr} {pos : Pos} {a : Int} (h1 : Pe (model prog w) A (eval x env) s (It a)) : Pe (model prog w) A (eval (.UnaryOp .USub x pos) env) s (It (-a)) :=
  fun _ hx _ => wpAny_UnaryOp (h1.use hx fun v s1 hv hx1 a1 => by obtain ⟨t, rfl⟩ := hv; exact P.neg_int ⟨a1.trans (.toks _), _, rfl⟩)

/-! comparisons -/
def Cmp (prog : Program) (w : World) (op : CmpOp) (R1 R2 : Value → Prop) (c : Bool) : Prop :=
  ∀ a b, R1 a → R2 b → ∀ (A : Around) (E : Value → Shared → Prop) (s : Shared) (Q : Value → Shared → Prop), Q (.bool c) s → wpAny (model prog w) A (compareOp op a b) Q E s
theorem cmp_int_eq {a b : Int} : Cmp prog w .Eq (It a) (It b) (a == b) := by rintro _ _ ⟨t, rfl⟩ ⟨u, rfl⟩ A E s Q h; exact P.eq_int h
theorem cmp_int_ne {a b : Int} : Cmp prog w .NotEq (It a) (It b) (a != b) := by rintro _ _ ⟨t, rfl⟩ ⟨u, rfl⟩ A E s Q h; exact P.ne_int h
theorem cmp_int_le {a b : Int} : Cmp prog w .LtE (It a) (It b) (decide (a ≤ b)) := by rintro _ _ ⟨t, rfl⟩ ⟨u, rfl⟩ A E s Q h; exact P.le_int h
theorem cmp_int_gt {a b : Int} : Cmp prog w .Gt (It a) (It b) (decide (b < a)) := by rintro _ _ ⟨t, rfl⟩ ⟨u, rfl⟩ A E s Q h; exact P.gt_int h
theorem cmp_str_eq {a b : List Nat} : Cmp prog w .Eq (St a) (St b) (a == b) := by rintro _ _ ⟨t, rfl⟩ ⟨u, rfl⟩ A E s Q h; exact P.eq_str h
theorem cmp_str_ne {a b : List Nat} : Cmp prog w .NotEq (St a) (St b) (a != b) := by rintro _ _ ⟨t, rfl⟩ ⟨u, rfl⟩ A E s Q h; exact P.ne_str h

theorem pe_test {l r : Expr} {op : CmpOp} {pos : Pos} {whole : Sem Value} {R1 R2 : Value → Prop} {c : Bool} (hc : Cmp prog w op R1 R2 c)
    (h1 : Pe (model prog w) A (eval l env) s R1) (h2 : Pe (model prog w) A (eval r env) s R2) (hm : behindInMarks op r = false := by with_unfolding_all rfl) :
    Pe (model prog w) A (isTrue (.Compare l [op] [r] pos) env whole) s (· = c) :=
  fun _ hx _ => wpAny_isTrue_Compare1 (h1.use hx fun a s1 ra hx1 a1 => h2.use hx1 fun b s2 rb hx2 a2 => hc a b ra rb _ _ _ _ (wpAny_truthy_bool ⟨a1.trans a2, rfl⟩)) hm

/-! texts -/
theorem len_flat (n : Nat) (a : List Nat) : (List.replicate n a).flatten.length = n * a.length := by
  induction n with
  | zero => simp
  | succ n ih => rw [List.replicate_succ, List.flatten_cons, List.length_append, ih, Nat.succ_mul]; omega
theorem pe_mul_str {l r : Expr} {pos : Pos} {a : List Nat} {n : Nat} (h1 : Pe (model prog w) A (eval l env) s (St a)) (h2 : Pe (model prog w) A (eval r env) s (It n))
    (hsz : a.length * n ≤ 1000000) (hn : n ≤ 1000000) : Pe (model prog w) A (eval (.BinOp l .Mult r pos) env) s (St (List.replicate n a).flatten) := by
  refine pe_binop h1 h2 ?_
  rintro _ _ ⟨t, rfl⟩ ⟨u, rfl⟩ s' hx E
  have hfl : ∀ (k : Nat) (z : Array Nat), (List.replicate k a.toArray).foldl (· ++ ·) z = (z.toList ++ (List.replicate k a).flatten).toArray := by
    intro k
    induction k with
    | zero => intro z; simp
    | succ k ih => intro z; rw [List.replicate_succ, List.foldl_cons, ih]; simp [List.replicate_succ]
  refine P.mul_str (by have h1 : ¬ ((n : Int) < -(2 ^ 63)) := by omega
                       have h2 : ¬ ((n : Int) ≥ 2 ^ 63) := by omega
                       simp; omega) ?_ ?_ ?_
  · intro h1 h2 h3
    have e : (2 ^ 63 - 1 : Int) = 9223372036854775807 := by decide
    rw [e] at h3
    have : (9223372036854775807 : Int) / n ≥ a.length := by
      apply Int.le_ediv_of_mul_le (by omega)
      have h5 : ((a.length * n : Nat) : Int) ≤ ((1000000 : Nat) : Int) := Int.ofNat_le.mpr hsz
      rw [Int.natCast_mul] at h5
      exact Int.le_trans h5 (by decide)
    have e2 : Str.length ⟨a.toArray⟩ = a.length := by simp [Str.length]
    rw [e2] at h3
    exact absurd h3 (Int.not_lt.mpr this)
  · intro h1 h2
    have e2 : Str.length ⟨a.toArray⟩ = a.length := by simp [Str.length]
    rw [e2, Int.toNat_natCast]
    exact decide_eq_false (Nat.not_lt.mpr (Nat.le_trans hsz (by decide)))
  · split
    · rename_i h
      have : n = 0 := by omega
      subst this
      exact ⟨by decide, .toks _, _, rfl⟩
    · split
      · rename_i h
        refine ⟨.refl, t, ?_⟩
        simp [Str.length] at h
        rcases h with h | h
        · have : n = 1 := by omega
          subst this; simp
        · subst h; simp
      · refine ⟨?_, .toks _, s'.toks, ?_⟩
        · show (Str.length ⟨_⟩) ≤ sizeLine
          rw [Int.toNat_natCast, hfl]
          show ((#[] : Array Nat).toList ++ (List.replicate n a).flatten).toArray.size ≤ sizeLine
          rw [List.size_toArray, List.length_append, len_flat, Nat.mul_comm]
          exact Nat.le_trans (Nat.add_le_add_left hsz _) (by decide)
        · rw [Int.toNat_natCast, hfl]; simp
end Mine
end

section
open PySem PySem.W PyProof.Rows
set_option maxRecDepth 100000
set_option maxHeartbeats 1000000
set_option linter.unusedVariables false
namespace Mine
variable {α β : Type} {w : World} {M : Model} {prog : Program} {A : Around} {env : Env} {s s' : Shared}

/-! slices of texts -/
noncomputable def up (o : Option Nat) : Option Int := o.map fun (x : Nat) => (x : Int)
theorem slice_cut (n : Nat) (lo hi : Option Nat) : Builtin.Str.strSliceIndices (up lo) (up hi) 1 n
    = (List.range (Min.min (hi.getD n) n - Min.min (lo.getD 0) n)).map (fun k => Min.min (lo.getD 0) n + k) := by
  have key : ∀ a b : Nat, sliceRange (a : Int) (b : Int) 1 = (List.range (b - a)).map (fun k => a + k) := by
    intro a b
    unfold sliceRange
    simp only [show ((1 : Int) > 0) = True from by simp, if_true]
    by_cases hlt : (a : Int) < b
    · have e3 : (((b : Int) - a + 1 - 1) / 1).toNat = b - a := by omega
      simp only [hlt, if_true, e3]
      refine List.map_congr_left fun k _ => ?_
      omega
    · have : b - a = 0 := by omega
      simp [hlt, this]
  have cl : ∀ i : Nat, Max.max (0 : Int) (Min.min (if (i : Int) < 0 then (i : Int) + (n : Int) else (i : Int)) (n : Int)) = ((Min.min i n : Nat) : Int) := by
    intro i; rw [if_neg (by omega)]; omega
  simp only [Builtin.Str.strSliceIndices, show ((1 : Int) > 0) = True from by simp, if_true]
  cases lo with
  | none => cases hi with
    | none => simpa [up] using key 0 n
    | some j => simp only [up, Option.map_some, Option.map_none, cl, Option.getD_some, Option.getD_none]; simpa using key 0 (Min.min j n)
  | some i => cases hi with
    | none => simp only [up, Option.map_some, Option.map_none, cl, Option.getD_some, Option.getD_none]; simpa using key (Min.min i n) n
    | some j => simp only [up, Option.map_some, cl, Option.getD_some]; exact key _ _

noncomputable def cut (l : List α) (lo hi : Option Nat) : List α := (l.take (hi.getD l.length)).drop (lo.getD 0)

theorem cut_to0 {l : List α} {k : Nat} : cut l none (some k) = l.take k := by unfold cut; exact List.drop_zero
theorem cut_from0 {l : List α} {k : Nat} : cut l (some k) none = l.drop k := by unfold cut; exact congrArg (List.drop k) List.take_length

theorem slice_list (l : List α) (lo hi : Option Nat) :
    ((List.range (Min.min (hi.getD l.length) l.length - Min.min (lo.getD 0) l.length)).map (fun k => Min.min (lo.getD 0) l.length + k)).filterMap (l[·]?) = cut l lo hi := by
  rw [StrLaws.picks l _ _ (by omega)]
  unfold cut
  generalize lo.getD 0 = a
  generalize hi.getD l.length = b
  rw [List.drop_take]
  by_cases h : a ≤ l.length
  · rw [Nat.min_eq_left h]
    by_cases h2 : b ≤ l.length
    · rw [Nat.min_eq_left h2]
    · rw [Nat.min_eq_right (by omega), List.take_of_length_le (by simp), List.take_of_length_le (by simp; omega)]
  · rw [List.drop_of_length_le (by omega), List.drop_of_length_le (l := l) (i := a) (by omega)]; simp

theorem cut_len (l : List α) (lo hi : Option Nat) : (cut l lo hi).length ≤ l.length := by
  unfold cut; rw [List.length_drop, List.length_take]; exact Nat.le_trans (Nat.sub_le _ _) (Nat.min_le_right _ _)

theorem slice_made {x : List Nat} {t : Tok} {l u : Option (Int × Tok)} {lo hi : Option Nat} {Q : Value → Shared → Prop} (hl : l.map (·.1) = up lo) (hu : u.map (·.1) = up hi)
    (hx : x.length ≤ sizeLine) (h : ∀ t' n, Q (.str ⟨(cut x lo hi).toArray⟩ t') { s with toks := n }) : (sliceMade ⟨x.toArray⟩ t l u none).post Q s := by
  have e : (slicePicked ⟨x.toArray⟩ l u none).filterMap ((⟨x.toArray⟩ : Str).cps[·]?) = cut x lo hi := by
    unfold slicePicked
    rw [hl, hu]
    show (Builtin.Str.strSliceIndices _ _ 1 _).filterMap _ = _
    have e0 : Str.length ⟨x.toArray⟩ = x.length := by simp [Str.length]
    rw [e0, slice_cut]
    have := slice_list x lo hi
    simpa using this
  have el : (slicePicked ⟨x.toArray⟩ l u none).length = x.length → cut x lo hi = x := by
    intro hlen
    unfold slicePicked at hlen
    rw [hl, hu] at hlen
    have e0 : Str.length ⟨x.toArray⟩ = x.length := by simp [Str.length]
    rw [e0] at hlen
    have hlen : (Builtin.Str.strSliceIndices (up lo) (up hi) 1 x.length).length = x.length := hlen
    rw [slice_cut] at hlen
    simp only [List.length_map, List.length_range] at hlen
    unfold cut
    by_cases hz : x = []
    · subst hz; simp
    · have : 0 < x.length := List.length_pos_iff.mpr hz
      rw [show lo.getD 0 = 0 by omega, List.drop_zero, List.take_of_length_le (by omega)]
  unfold sliceMade
  split
  · rename_i hc
    simp only [Bool.and_eq_true, beq_iff_eq] at hc
    have e0 : Str.length ⟨x.toArray⟩ = x.length := by simp [Str.length]
    have := el (hc.2.trans e0)
    have h' := h t s.toks
    rw [this] at h'
    exact h'
  · rw [e]
    refine ⟨?_, h s.toks (s.toks + 1)⟩
    simp only [Str.length, List.size_toArray]
    exact Nat.le_trans (cut_len x lo hi) hx

def PeO (M : Model) (A : Around) (e : Option Expr) (env : Env) (s : Shared) (n : Option Nat) : Prop :=
  match e, n with
  | none, none => True
  | some e, some n => Pe M A (eval e env) s (It n)
  | _, _ => False
theorem PeO.use {e : Option Expr} {n : Option Nat} {Q : Value → Shared → Prop} {E : Value → Shared → Prop} (h : PeO M A e env s n) (hx : Ex [] s s')
    (k : ∀ (p : Option (Int × Tok)) s'', p.map (·.1) = up n → Ex [] s s'' → Ex [] s' s'' → Q (partValue p) s'') : wpAny M A (evalPart e env) Q E s' := by
  cases e with
  | none => cases n with
    | none => exact wpAny_pure (k none _ rfl hx .refl)
    | some n => exact h.elim
  | some e => cases n with
    | none => exact h.elim
    | some n => exact Pe.use (t := eval e env) h hx fun v s'' ⟨t, hv⟩ h1 h2 => by subst hv; exact k (some (n, t)) s'' rfl h1 h2

theorem pe_slice_str {value : Expr} {lower upper : Option Expr} {p pos : Pos} {x : List Nat} {lo hi : Option Nat} (h0 : Pe (model prog w) A (eval value env) s (St x))
    (h1 : PeO (model prog w) A lower env s lo) (h2 : PeO (model prog w) A upper env s hi) (hx : x.length ≤ sizeLine) :
    Pe (model prog w) A (eval (.Subscript value (.Slice lower upper none p) pos) env) s (St (cut x lo hi)) := by
  intro s' hs E
  refine Subscript_ (h0.use hs fun v s1 ⟨t, hv⟩ hs1 a1 => wpAny_Slice (h1.use hs1 fun pl s2 hl hs2 a2 => h2.use hs2 fun pu s3 hu hs3 a3 => ?_))
  subst hv
  refine wpAny_pure (tail_any (typeIs_str _ _ t) F.slot_str_getitem.lookup (wpAny_getItem_str_slice (l := pl) (u := pu) (st := none) ⟨_, Heap.get?_push_size _ rfl, rfl, rfl⟩ rfl ?_) rfl)
  exact slice_made hl hu hx fun t' n => ⟨((a1.trans a2).trans a3).trans (Ex.push _ _), t', rfl⟩
end Mine
end

section
open PySem PySem.W PyProof.Rows
set_option maxRecDepth 100000
set_option maxHeartbeats 1000000
set_option linter.unusedVariables false
namespace Mine
variable {α β : Type} {w : World} {M : Model} {prog : Program} {A : Around} {env : Env} {s s' : Shared}

/-! a call of a built-in by its name -/
theorem pe_call1 {f : Str} {fp pos : Pos} {e : Expr} {id : String} {R1 R : Value → Prop} (hf : Pe M A (eval (.Name f fp) env) s (· = .builtin id)) (he : Pe M A (eval e env) s R1)
    (hc : ∀ v, R1 v → Pe M A (call (.builtin id) [v]) s R) (hs : starEach [e] env = [(false, eval e env)] := by rfl) :
    Pe M A (eval (.Call (.Name f fp) [e] [] pos) env) s R := by
  intro s' hx E
  refine Call_ (hf.use hx fun v s1 hv hx1 a1 => ?_)
  subst hv
  refine callWith_builtin1 (rest := []) (args_cons (rest := []) (he.use hx1 fun v s2 hv hx2 a2 => args_nil ((hc v hv).use hx2 fun r s3 hr _ a3 => ⟨(a1.trans a2).trans a3, hr⟩)) hs) hs

theorem pe_len_str {f : Str} {fp pos : Pos} {e : Expr} {x : List Nat} (hf : Pe (model prog w) A (eval (.Name f fp) env) s (· = .builtin "len")) (he : Pe (model prog w) A (eval e env) s (St x))
    (hl : x.length ≤ sizeLine) (hs : starEach [e] env = [(false, eval e env)] := by rfl) : Pe (model prog w) A (eval (.Call (.Name f fp) [e] [] pos) env) s (It x.length) := by
  refine pe_call1 hf he ?_ hs
  rintro _ ⟨t, rfl⟩ s' hx E
  have e0 : Str.length ⟨x.toArray⟩ = x.length := by simp [Str.length]
  refine P.len_str (by rw [e0]; simp only [sizeLine] at hl; omega) ⟨.toks _, s'.toks + 1, by rw [e0]⟩

theorem pe_locS {x : Str} {pos : Pos} {m : Str → Option Value} {l : List Nat} {t : Tok} (hn : s.heap.Ns env.locals m) (hv : m x = some (.str ⟨l.toArray⟩ t))
    (hk : env.scope.kind = .function := by rfl) (hl : env.kindOf x = some .local := by rfl) (hd : (x == ("__debug__" : Str)) = false := by decide) :
    Pe M A (eval (.Name x pos) env) s (St l) := (pe_local hn hv hk hl hd).mono fun v h => ⟨t, h⟩
theorem pe_locI {x : Str} {pos : Pos} {m : Str → Option Value} {i : Int} {t : Tok} (hn : s.heap.Ns env.locals m) (hv : m x = some (.int i t))
    (hk : env.scope.kind = .function := by rfl) (hl : env.kindOf x = some .local := by rfl) (hd : (x == ("__debug__" : Str)) = false := by decide) :
    Pe M A (eval (.Name x pos) env) s (It i) := (pe_local hn hv hk hl hd).mono fun v h => ⟨t, h⟩

/-! tests -/
theorem pe_and {x y : Expr} {pos : Pos} {whole : Sem Value} {b c : Bool} (h1 : Pe M A (isTrue x env (eval x env)) s (· = b)) (h2 : b = true → Pe M A (isTrue y env (eval y env)) s (· = c)) :
    Pe M A (isTrue (.BoolOp .And [x, y] pos) env whole) s (· = (b && c)) := by
  intro s' hx E
  refine wpAny_isTrue_BoolOp (wpAny_allTrue_And_cons (h1.use hx fun v s1 hv hx1 a1 => ?_))
  subst hv
  cases v with
  | false => exact ⟨a1, rfl⟩
  | true => exact wpAny_allTrue_And_cons ((h2 rfl).use hx1 fun v s2 hv hx2 a2 => by
      subst hv
      cases v with
      | false => exact ⟨a1.trans a2, rfl⟩
      | true => exact wpAny_allTrue_And_nil ⟨a1.trans a2, rfl⟩)
theorem pe_not {x : Expr} {pos : Pos} {whole : Sem Value} {b : Bool} (h1 : Pe M A (isTrue x env (eval x env)) s (· = b)) :
    Pe M A (isTrue (.UnaryOp .Not x pos) env whole) s (· = !b) := by
  intro s' hx E
  exact wpAny_isTrue_Not (h1.use hx fun v s1 hv hx1 a1 => ⟨a1, by rw [hv]⟩)

/-! statements; no exception leaves -/
def W (M : Model) (A : Around) (t : Sem α) (Q : α → Shared → Prop) (s : Shared) : Prop := wpAny M A t Q (fun _ _ => False) s
theorem W.up {t : Sem α} {Q : α → Shared → Prop} {E : Value → Shared → Prop} (h : W M A t Q s) : wpAny M A t Q E s := wpAny_mono h (fun _ _ x => x) fun _ _ x => x.elim
theorem W.mono {t : Sem α} {Q Q' : α → Shared → Prop} (h : W M A t Q s) (k : ∀ a s, Q a s → Q' a s) : W M A t Q' s := wpAny_mono h k fun _ _ x => x
theorem W.upm {t : Sem α} {Q Q' : α → Shared → Prop} {E : Value → Shared → Prop} (h : W M A t Q s) (k : ∀ a s, Q a s → Q' a s) : wpAny M A t Q' E s := wpAny_mono h k fun _ _ x => x.elim
theorem Pe.run {t : Sem α} {R : α → Prop} {Q : α → Shared → Prop} (h : Pe M A t s R) (k : ∀ v s'', R v → Ex [] s s'' → Q v s'') : W M A t Q s := h.use .refl fun v s'' r a _ => k v s'' r a

def Kn (M : Model) (A : Around) (env : Env) (rest : List Stmt) (Q : Flow → Shared → Prop) (f : Flow) (s : Shared) : Prop :=
  match f with
  | .next => W M A (execs rest env) Q s
  | f => Q f s

theorem w_nil {Q : Flow → Shared → Prop} (h : Q .next s) : W M A (execs [] env) Q s := wpAny_execs_nil h
theorem w_cons {st : Stmt} {rest : List Stmt} {Q : Flow → Shared → Prop} (h : W M A (exec st env) (Kn M A env rest Q) s) : W M A (execs (st :: rest) env) Q s := by
  refine wpAny_execs_cons (h.upm fun f s' h' => ?_)
  cases f <;> exact h'

abbrev upd (m : Str → Option Value) (x : Str) (v : Value) : Str → Option Value := fun y => if y = x then some v else m y

theorem st_local {x : Str} {v : Value} {m : Str → Option Value} {Q : Unit → Shared → Prop} {E : Value → Shared → Prop} (hn : s.heap.Ns env.locals m)
    (k : ∀ s2, Ex [env.locals] s s2 → s2.heap.Ns env.locals (upd m x v) → Q () s2) (hk : env.scope.kind = .function := by rfl) (hl : env.kindOf x = some .local := by rfl) :
    wpAny M A (storeName env x v) Q E s :=
  wpAny_storeName_local hl hn (fun h' hn' hs => k _ (Ex.same _ hs) hn') (by rw [hk]; rfl)

theorem w_assignE {x : Str} {p1 p2 : Pos} {e : Expr} {rest : List Stmt} {Q : Flow → Shared → Prop}
    (he : W M A (eval e env) (fun v s1 => ∃ m, s1.heap.Ns env.locals m ∧ ∀ s2, Ex [env.locals] s1 s2 → s2.heap.Ns env.locals (upd m x v) → W M A (execs rest env) Q s2) s)
    (hk : env.scope.kind = .function := by rfl) (hl : env.kindOf x = some .local := by rfl) (hs : swapsWith e (some (.Name x p1)) p2.line env = pure false := by rfl) :
    W M A (execs (.Assign [.Name x p1] e p2 :: rest) env) Q s := by
  refine w_cons (wpAny_Assign_Name (he.upm fun v s1 ⟨m, hn, k⟩ => st_local hn (fun s2 hx hn2 => k s2 hx hn2) hk hl) hs)

theorem w_assign {x : Str} {p1 p2 : Pos} {e : Expr} {rest : List Stmt} {m : Str → Option Value} {R : Value → Prop} {Q : Flow → Shared → Prop} (hn : s.heap.Ns env.locals m) (he : Pe M A (eval e env) s R)
    (k : ∀ v s2, R v → Ex [env.locals] s s2 → s2.heap.Ns env.locals (upd m x v) → W M A (execs rest env) Q s2)
    (hk : env.scope.kind = .function := by rfl) (hl : env.kindOf x = some .local := by rfl) (hs : swapsWith e (some (.Name x p1)) p2.line env = pure false := by rfl) :
    W M A (execs (.Assign [.Name x p1] e p2 :: rest) env) Q s :=
  w_assignE (he.run fun v s1 hv hx => ⟨m, hx.ns hn (by simp), fun s2 hx2 hn2 => k v s2 hv (hx.lift.trans hx2) hn2⟩) hk hl hs

/-- x += e on ints -/
theorem w_inc {x : Str} {p1 p2 : Pos} {e : Expr} {rest : List Stmt} {m : Str → Option Value} {a b : Int} {t : Tok} {Q : Flow → Shared → Prop} (hn : s.heap.Ns env.locals m) (hx0 : m x = some (.int a t))
    (he : Pe (model prog w) A (eval e env) s (It b))
    (k : ∀ t' s2, Ex [env.locals] s s2 → s2.heap.Ns env.locals (upd m x (.int (a + b) t')) → W (model prog w) A (execs rest env) Q s2)
    (hk : env.scope.kind = .function := by rfl) (hl : env.kindOf x = some .local := by rfl) :
    W (model prog w) A (execs (.AugAssign (.Name x p1) .Add e p2 :: rest) env) Q s := by
  refine w_cons (wpAny_AugAssign_Name (wpAny_loadName_local hk hl hn hx0 (he.use .refl fun v s1 ⟨u, hv⟩ hx1 _ => ?_)))
  subst hv
  exact P.iadd_int (st_local (m := m) ((hx1.step0 (.toks _)).ns hn (by simp)) (fun s2 hx2 hn2 => k _ s2 ((hx1.step0 (.toks _)).lift.trans hx2) hn2) hk hl)

theorem w_if {test : Expr} {body orelse rest : List Stmt} {pos : Pos} {b : Bool} {Q : Flow → Shared → Prop} (ht : Pe M A (isTrue test env (eval test env)) s (· = b))
    (h1 : b = true → ∀ s1, Ex [] s s1 → W M A (execs body env) (Kn M A env rest Q) s1) (h2 : b = false → ∀ s1, Ex [] s s1 → W M A (execs orelse env) (Kn M A env rest Q) s1) :
    W M A (execs (.If test body orelse pos :: rest) env) Q s := by
  refine w_cons (wpAny_If (ht.use .refl fun v s1 hv hx _ => ?_))
  subst hv
  cases v with
  | true => exact h1 rfl s1 hx
  | false => exact h2 rfl s1 hx

theorem w_ret {e : Expr} {pos : Pos} {rest : List Stmt} {R : Value → Prop} {Q : Flow → Shared → Prop} (he : Pe M A (eval e env) s R) (k : ∀ v s1, R v → Ex [] s s1 → Q (.ret v) s1) :
    W M A (execs (.Return (some e) pos :: rest) env) Q s :=
  w_cons (wpAny_Return_some (he.use .refl fun v s1 hv hx _ => k v s1 hv hx))
theorem w_retE {e : Expr} {pos : Pos} {rest : List Stmt} {Q : Flow → Shared → Prop} (he : W M A (eval e env) (fun v s1 => Q (.ret v) s1) s) :
    W M A (execs (.Return (some e) pos :: rest) env) Q s :=
  w_cons (wpAny_Return_some (he.mono fun v s1 h => h))

theorem w_while {test : Expr} {body orelse rest : List Stmt} {pos : Pos} {Q : Flow → Shared → Prop} (I : Nat → Shared → Prop) (n : Nat) (h0 : I n s)
    (turn : ∀ n s, I n s → ∃ b, Pe (model prog w) A (isTrue test env (eval test env)) s (· = b) ∧
      (b = true → ∀ s1, Ex [] s s1 → W (model prog w) A (execs body env) (fun f s3 => match f with
        | .next | .cont => ∃ m, m < n ∧ I m s3
        | .brk => W (model prog w) A (execs rest env) Q s3
        | .ret v => Q (.ret v) s3) s1) ∧
      (b = false → ∀ s1, Ex [] s s1 → W (model prog w) A (execs orelse env) (Kn (model prog w) A env rest Q) s1)) :
    W (model prog w) A (execs (.While test body orelse pos :: rest) env) Q s := by
  refine w_cons (wpAny_While (codeAny_whileLoop I (fun n s hI => ?_) n h0))
  obtain ⟨b, hb, ht, hf⟩ := turn n s hI
  refine hb.use .refl fun v s1 hv hx _ => ?_
  subst hv
  cases v with
  | true =>
    refine (ht rfl s1 hx).upm fun f s3 h3 => ?_
    cases f <;> exact h3
  | false =>
    refine (hf rfl s1 hx).upm fun f s3 h3 => ?_
    cases f <;> exact h3

theorem Ex.fr {X s0 s s' L} (h : Ex X s0 s) (h' : Ex [L] s s') (hL : s0.heap.get? L = none) : Ex X s0 s' :=
  h.step h' fun y hy => .inr (by rw [List.mem_singleton.mp hy]; exact hL)

/-- a call of a def of the text, no cells of its own -/
theorem w_call {a : Addr} {o : Obj} {fd : FuncData} {body : List Stmt} {args : Args} {binds : List (Str × Value)} {Q : Value → Shared → Prop}
    (hroom : A.depth < recursionLimit) (ho : s.heap.get? a = some o) (hdata : o.data = .func fd) (hlim : s.heap.NoLimit) (hcd : s.heap.CodeRec fd.code fd.qualname)
    (hbody : fd.body = .stmts body) (hbind : BindsTo s fd args binds)
    (h : ∀ s1, Ex [] s s1 → s.heap.get? s.heap.objs.size = none → s1.heap.Ns s.heap.objs.size (fun x => binds.reverse.lookup x) →
      W (model prog w) (A.deeper (callEnv fd s.heap.objs.size a)) (execs body (callEnv fd s.heap.objs.size a)) (fun f s' => Q (match f with | .ret v => v | _ => .none) s') s1)
    (hcell : (fd.scope.names.all fun x => decide (x.2 ≠ .cell)) = true := by rfl) (hloc : (binds.all fun x => decide (fd.scope.names.lookup x.1 = some .local)) = true := by rfl)
    (hco : fd.scope.isCoroutine = false := by rfl) (hgen : fd.scope.isGenerator = false := by rfl) (hk : fd.scope.kind = .function := by rfl) :
    W (model prog w) A (runValue (.call (.ref a) args)) Q s := by
  refine wpAny_runValue (codeAny_call_def hroom ho hdata hlim hcd hbody hbind (fun x hx => of_decide_eq_true (List.all_eq_true.mp hcell x hx)) (fun x hx => of_decide_eq_true (List.all_eq_true.mp hloc x hx)) (fun h₀ hns hkeep => ?_) hco hgen hk)
  have hx : Ex [] s { s with heap := h₀, toks := s.toks + binds.length } := ⟨fun b o _ e => hkeep b o e, fun x => x, rfl⟩
  exact (h _ hx (fresh_size _) hns).upm fun f s' h' => h'
end Mine
end

section
open PySem PySem.W PyProof.Rows
set_option maxRecDepth 100000
set_option maxHeartbeats 1000000
set_option linter.unusedVariables false
namespace Mine
variable {α β : Type} {w : World} {M : Model} {A : Around} {env : Env} {s s' : Shared}

abbrev Pg : Program := PySem.Challenge.pw_rl0015_01

noncomputable def stm (k : Nat) : Stmt := Pg.main.body.getD k (.Pass ⟨0, 0, 0, 0⟩)
noncomputable def clsBody : List Stmt := match stm 3 with
  | .ClassDef _ _ _ b _ _ _ _ _ _ _ => b
  | _ => []
noncomputable def meth (k : Nat) : Stmt := clsBody.getD k (.Pass ⟨0, 0, 0, 0⟩)
noncomputable def bodyOf : Stmt → List Stmt
  | .FunctionDef _ _ b _ _ _ _ _ _ _ => b
  | _ => []
noncomputable def fdOf (st : Stmt) (qual : Str) (pm cd : Value) (cl : List (Str × Addr)) (dv ct : Value) : FuncData := match st with
  | .FunctionDef name args body _ _ _ scope _ _ _ => { name := name, qualname := qual, params := args, body := .stmts body, scope := scope, globals := 3, closure := cl, defaults := dv, kwdefaults := .none, pyModule := pm, code := cd, closureTuple := ct }
  | _ => default

abbrev lawMod : Value := .str (Str.ofString "law_rl0015_01") 306
abbrev hdrMod : Value := .str (Str.ofString "cpy313.email.header") 194
abbrev cCell : List (Str × Addr) := [(Str.ofString "__class__", 25)]
noncomputable def fdInit : FuncData := fdOf (meth 0) (Str.ofString "_Accumulator.__init__") hdrMod (.ref 37) cCell (.ref 30) (.ref 31)
noncomputable def fdPush : FuncData := fdOf (meth 1) (Str.ofString "_Accumulator.push") hdrMod (.ref 44) [] .none .none
noncomputable def fdPopFrom : FuncData := fdOf (meth 2) (Str.ofString "_Accumulator.pop_from") hdrMod (.ref 52) [] (.ref 46) .none
noncomputable def fdPop : FuncData := fdOf (meth 3) (Str.ofString "_Accumulator.pop") hdrMod (.ref 60) cCell .none (.ref 54)
noncomputable def fdLen : FuncData := fdOf (meth 4) (Str.ofString "_Accumulator.__len__") hdrMod (.ref 67) [] .none .none
noncomputable def fdStr : FuncData := fdOf (meth 5) (Str.ofString "_Accumulator.__str__") hdrMod (.ref 74) [] .none .none
noncomputable def fdPart : FuncData := fdOf (meth 8) (Str.ofString "_Accumulator.part_count") hdrMod (.ref 97) cCell .none (.ref 91)
noncomputable def fdTab : FuncData := fdOf (stm 5) (Str.ofString "_generate_overlap_table") (.str (Str.ofString "cpy313.re._compiler") 294) (.ref 111) [] .none .none
noncomputable def fdPile : FuncData := fdOf (stm 7) (Str.ofString "_law_pile") lawMod (.ref 116) [] .none .none
noncomputable def fdPlain : FuncData := fdOf (stm 8) (Str.ofString "_law_plain_rest") lawMod (.ref 123) [] .none .none
noncomputable def fdLeaves : FuncData := fdOf (stm 9) (Str.ofString "_law_leaves") lawMod (.ref 128) [] .none .none
noncomputable def fdFilled : FuncData := fdOf (stm 10) (Str.ofString "_law_filled") lawMod (.ref 135) [] .none .none
noncomputable def fdRoot : FuncData := fdOf (stm 11) (Str.ofString "_law_root") lawMod (.ref 142) [] .none .none
noncomputable def fns : List (Addr × FuncData) := [(38, fdInit), (45, fdPush), (53, fdPopFrom), (61, fdPop), (68, fdLen), (75, fdStr), (98, fdPart), (112, fdTab), (117, fdPile), (124, fdPlain), (129, fdLeaves), (136, fdFilled), (143, fdRoot)]
noncomputable def baseAddrs : List Addr := [0, 2, 3, 25, 30, 46, 100, 101, 38, 45, 53, 61, 68, 75, 98, 112, 117, 124, 129, 136, 143, 37, 44, 52, 60, 67, 74, 97, 111, 116, 123, 128, 135, 142]

structure FnAt (h : Heap) (a : Addr) (fd : FuncData) : Prop where
  at_ : ∃ o, h.get? a = some o ∧ o.data = .func fd ∧ o.cls = .type "function"
  cd : ∃ c o vs t t', fd.code = .ref c ∧ c ∈ baseAddrs ∧ h.get? c = some o ∧ o.data = .fields vs ∧ vs[1]? = some (.str fd.qualname t) ∧ vs[2]? = some (.str (Str.ofString "/claim/cut.py") t')
theorem FnAt.rec_ {h : Heap} {a : Addr} {fd : FuncData} (f : FnAt h a fd) : h.CodeRec fd.code fd.qualname :=
  let ⟨c, o, vs, t, _, e1, _, e2, e3, e4, _⟩ := f.cd; ⟨c, o, vs, t, e1, e2, e3, e4⟩

noncomputable def glTab : List (Str × Value) := [("__name__", .str (Str.ofString "law_rl0015_01") 306), ("__doc__", .none), ("__package__", .none), ("__loader__", .builtin (String.ofList ['_', '_', 'm', 'a', 'i', 'n', '_', '_', '.', '_', '_', 'l', 'o', 'a', 'd', 'e', 'r', '_', '_', '#', 'o', 'p', 'a', 'q', 'u', 'e'])), ("__spec__", .none), ("__annotations__", .ref 6), ("__builtins__", .ref 4),
  ("__file__", .str (Str.ofString "/claim/cut.py") 172), ("__cached__", .none), ("_wall", .ref 21), ("EMPTYSTRING", .str (Str.ofString "") 196), ("_Accumulator", .ref 101), ("_generate_overlap_table", .ref 112), ("_law_pile", .ref 117), ("_law_plain_rest", .ref 124),
  ("_law_leaves", .ref 129), ("_law_filled", .ref 136), ("_law_root", .ref 143), ("law", .ref 148)]
noncomputable def clsTab : List (Str × Value) := [("__module__", hdrMod), ("__firstlineno__", .int 6 208), ("__init__", .ref 38), ("push", .ref 45), ("pop_from", .ref 53), ("pop", .ref 61), ("__len__", .ref 68), ("__str__", .ref 75), ("reset", .ref 83), ("is_onlyws", .ref 90), ("part_count", .ref 98),
  ("__static_attributes__", .ref 99), ("__dict__", .ref 102), ("__weakref__", .ref 103), ("__doc__", .none)]
noncomputable def clsData : ClassData := ClassData.mk (Str.ofString "_Accumulator") [.type "list"] [.ref 101, .type "list", .type "object"] 100 (Str.ofString "_Accumulator") true [] [] false none false
noncomputable def clsObj : Obj := Obj.mk (.type "type") none (.cls clsData) #[some (.ref 22), none, some (.str (Str.ofString "_Accumulator") 198), some (.str (Str.ofString "_Accumulator") 206), some (.builtin "list.__new__"), some (.bool true)]

structure Gl (h : Heap) : Prop where
  g : h.Ns 3 (fun x => glTab.lookup x)
  b : ∃ mb, h.Ns 0 mb ∧ mb "len" = some (.builtin "len") ∧ mb "range" = some (.type "range") ∧ mb "max" = some (.builtin "max") ∧ mb "str" = some (.type "str") ∧ mb "sum" = some (.builtin "sum") ∧ mb "chr" = some (.builtin "chr") ∧
    mb "isinstance" = some (.builtin "isinstance") ∧ mb "list" = some (.type "list") ∧ mb "int" = some (.type "int") ∧ mb "bool" = some (.type "bool") ∧ mb "zip" = some (.type "zip") ∧ mb "super" = some (.type "super")

structure Bs (h : Heap) : Prop where
  lim : h.NoLimit
  gl : Gl h
  fn : ∀ p ∈ fns, FnAt h p.1 p.2
  st : h.get? 2 = some { cls := .none, data := .dict #[] }
  cls : h.get? 101 = some clsObj
  clsNs : h.Ns 100 (fun x => clsTab.lookup x)
  cell : h.IsCell 25 (some (.ref 101))
  d30 : h.get? 30 = some { cls := .type "tuple", data := .seq #[.int 0 210] }
  d46 : ∃ t, h.get? 46 = some { cls := .type "tuple", data := .seq #[.int 0 t] }
  there : ∀ b ∈ baseAddrs, (h.get? b).isSome = true

theorem Bs.init {h : Heap} (f : Bs h) : FnAt h 38 fdInit := f.fn (38, fdInit) (.head _)
theorem Bs.push {h : Heap} (f : Bs h) : FnAt h 45 fdPush := f.fn (45, fdPush) (.tail _ (.head _))
theorem Bs.popFrom {h : Heap} (f : Bs h) : FnAt h 53 fdPopFrom := f.fn (53, fdPopFrom) (.tail _ (.tail _ (.head _)))
theorem Bs.pop {h : Heap} (f : Bs h) : FnAt h 61 fdPop := f.fn (61, fdPop) (.tail _ (.tail _ (.tail _ (.head _))))
theorem Bs.len {h : Heap} (f : Bs h) : FnAt h 68 fdLen := f.fn (68, fdLen) (.tail _ (.tail _ (.tail _ (.tail _ (.head _)))))
theorem Bs.str {h : Heap} (f : Bs h) : FnAt h 75 fdStr := f.fn (75, fdStr) (.tail _ (.tail _ (.tail _ (.tail _ (.tail _ (.head _))))))
theorem Bs.part {h : Heap} (f : Bs h) : FnAt h 98 fdPart := f.fn (98, fdPart) (.tail _ (.tail _ (.tail _ (.tail _ (.tail _ (.tail _ (.head _)))))))
theorem Bs.tab {h : Heap} (f : Bs h) : FnAt h 112 fdTab := f.fn (112, fdTab) (.tail _ (.tail _ (.tail _ (.tail _ (.tail _ (.tail _ (.tail _ (.head _))))))))
theorem Bs.pile {h : Heap} (f : Bs h) : FnAt h 117 fdPile := f.fn (117, fdPile) (.tail _ (.tail _ (.tail _ (.tail _ (.tail _ (.tail _ (.tail _ (.tail _ (.head _)))))))))
theorem Bs.plain {h : Heap} (f : Bs h) : FnAt h 124 fdPlain := f.fn (124, fdPlain) (.tail _ (.tail _ (.tail _ (.tail _ (.tail _ (.tail _ (.tail _ (.tail _ (.tail _ (.head _))))))))))
theorem Bs.leaves {h : Heap} (f : Bs h) : FnAt h 129 fdLeaves := f.fn (129, fdLeaves) (.tail _ (.tail _ (.tail _ (.tail _ (.tail _ (.tail _ (.tail _ (.tail _ (.tail _ (.tail _ (.head _)))))))))))
theorem Bs.filled {h : Heap} (f : Bs h) : FnAt h 136 fdFilled := f.fn (136, fdFilled) (.tail _ (.tail _ (.tail _ (.tail _ (.tail _ (.tail _ (.tail _ (.tail _ (.tail _ (.tail _ (.tail _ (.head _))))))))))))
theorem Bs.root {h : Heap} (f : Bs h) : FnAt h 143 fdRoot := f.fn (143, fdRoot) (.tail _ (.tail _ (.tail _ (.tail _ (.tail _ (.tail _ (.tail _ (.tail _ (.tail _ (.tail _ (.tail _ (.tail _ (.head _)))))))))))))
noncomputable def Wild (x : Addr) : Prop := x ∉ baseAddrs
theorem Bs.wild {h : Heap} {x : Addr} (f : Bs h) (hx : h.get? x = none) : Wild x := fun hm => by have := f.there x hm; rw [hx] at this; cases this

theorem Ex.get {X s s'} (h : Ex X s s') (hX : ∀ x ∈ X, Wild x) {b : Addr} {o : Obj} (e : s.heap.get? b = some o) (hb : b ∈ baseAddrs := by decide) : s'.heap.get? b = some o :=
  h.keep b o (fun hm => absurd (hX b hm) (fun hn => hn hb)) e
theorem Ex.ns' {X s s' a m} (h : Ex X s s') (hX : ∀ x ∈ X, Wild x) (hn : s.heap.Ns a m) (ha : a ∈ baseAddrs := by decide) : s'.heap.Ns a m :=
  h.ns hn fun hm => absurd (hX a hm) (fun hn => hn ha)
theorem FnAt.ex {X s s' a fd} (f : FnAt s.heap a fd) (h : Ex X s s') (hX : ∀ x ∈ X, Wild x) (ha : a ∈ baseAddrs) : FnAt s'.heap a fd := by
  obtain ⟨⟨o, h1, h2⟩, ⟨c, oc, vs, t, t', e, hc, g, r⟩⟩ := f
  exact ⟨⟨o, h.get hX h1 ha, h2⟩, ⟨c, oc, vs, t, t', e, hc, h.get hX g hc, r⟩⟩
theorem Bs.ex {X s s'} (f : Bs s.heap) (h : Ex X s s') (hX : ∀ x ∈ X, Wild x) : Bs s'.heap := by
  obtain ⟨⟨mc, n1, n2⟩, ⟨g1, ⟨mb, b1, b2⟩⟩, p, q0, q1, q2, ⟨q3, q4, q5⟩, q6, ⟨q7, q8⟩, z⟩ := f
  refine ⟨⟨mc, h.ns' hX n1, n2⟩, ⟨h.ns' hX g1, ⟨mb, h.ns' hX b1, b2⟩⟩, fun x hx => (p x hx).ex h hX ?_, h.get hX q0, h.get hX q1, h.ns' hX q2, ⟨q3, h.get hX q4, q5⟩, h.get hX q6, ⟨q7, h.get hX q8⟩, fun b hb => ?_⟩
  · have : ∀ x ∈ fns, x.1 ∈ baseAddrs := by
      simp only [fns, List.forall_mem_cons]
      exact ⟨by decide, by decide, by decide, by decide, by decide, by decide, by decide, by decide, by decide, by decide, by decide, by decide, by decide, by simp⟩
    exact this x hx
  · obtain ⟨o, ho⟩ := Option.isSome_iff_exists.mp (z b hb)
    rw [h.get hX ho hb]; rfl
theorem Bs.ex0 {s s'} (f : Bs s.heap) (h : Ex [] s s') : Bs s'.heap := f.ex h (by simp)

theorem pe_bu {x : Str} {p : Pos} {v : Value} (f : Gl s.heap) (hm : glTab.lookup x = none) (hb : ∃ mb, s.heap.Ns 0 mb ∧ mb x = some v) (hg : env.globals = 3 := by rfl) (hbu : env.builtins = 0 := by rfl) (hk : env.scope.kind = .function := by rfl) (hl : env.kindOf x = some .globalImplicit := by rfl)
    (hd : (x == ("__debug__" : Str)) = false := by decide) :
    Pe M A (eval (.Name x p) env) s (· = v) := by
  obtain ⟨mb, b1, b2⟩ := hb
  exact pe_builtin (mg := fun x => glTab.lookup x) (mb := mb) (hg ▸ f.g) hm (hbu ▸ b1) b2 hk hl hd
theorem pe_gl {x : Str} {p : Pos} {v : Value} (f : Gl s.heap) (hm : glTab.lookup x = some v) (hg : env.globals = 3 := by rfl) (hk : env.scope.kind = .function := by rfl) (hl : env.kindOf x = some .globalImplicit := by rfl)
    (hd : (x == ("__debug__" : Str)) = false := by decide) : Pe M A (eval (.Name x p) env) s (· = v) :=
  pe_global (mg := fun x => glTab.lookup x) (hg ▸ f.g) hm hk hl hd
theorem pe_len {p : Pos} (f : Gl s.heap) (hg : env.globals = 3 := by rfl) (hb : env.builtins = 0 := by rfl) (hk : env.scope.kind = .function := by rfl) (hl : env.kindOf "len" = some .globalImplicit := by rfl) :
    Pe M A (eval (.Name "len" p) env) s (· = .builtin "len") :=
  pe_bu f rfl (let ⟨mb, b1, b2⟩ := f.b; ⟨mb, b1, b2.1⟩) hg hb hk hl
theorem pe_range {p : Pos} (f : Gl s.heap) (hg : env.globals = 3 := by rfl) (hb : env.builtins = 0 := by rfl) (hk : env.scope.kind = .function := by rfl) (hl : env.kindOf "range" = some .globalImplicit := by rfl) :
    Pe M A (eval (.Name "range" p) env) s (· = .type "range") :=
  pe_bu f rfl (let ⟨mb, b1, b2⟩ := f.b; ⟨mb, b1, b2.2.1⟩) hg hb hk hl
end Mine
end

section
open PySem PySem.W PyProof.Rows
set_option maxRecDepth 100000
set_option maxHeartbeats 1000000
set_option linter.unusedVariables false
namespace Mine
variable {α β : Type} {w : World} {M : Model} {prog : Program} {A : Around} {env : Env} {s s' : Shared}

/-- what a loop's head leaves: an iterator over n values of P; fx: the old objects that it reads -/
def Iters (prog : Program) (w : World) (A : Around) (env : Env) (iter : Expr) (s : Shared) (n : Nat) (P : Nat → Value → Prop) (fx : List Addr) : Prop :=
  ∀ E, wpAny (model prog w) A (eval iter env) (fun x s1 => wpAny (model prog w) A (pyIter x) (fun it s2 => ∃ I fp wr St, it = .ref I ∧ Walks prog w A I fp wr n P St ∧ St 0 s2.heap ∧ Ex [] s s2 ∧
    (∀ b ∈ wr, s.heap.get? b = none) ∧ (∀ b ∈ fp, s.heap.get? b = none ∨ b ∈ fx) ∧ (∀ b ∈ fp, b < s2.heap.objs.size)) E s1) E s

theorem w_for_core {target iter : Expr} {body rest : List Stmt} {pos : Pos} {n : Nat} {P : Nat → Value → Prop} {fx Y : List Addr} {Q : Flow → Shared → Prop} (hit : Iters prog w A env iter s n P fx)
    (hY : ∀ y ∈ Y, (∃ o, s.heap.get? y = some o) ∧ y ∉ fx) (J : Nat → Shared → Prop) (h0 : ∀ s2, Ex [] s s2 → J 0 s2)
    (turn : ∀ k v wr s2 s1, k < n → P k v → J k s2 → (∀ b ∈ wr, s.heap.get? b = none) → Ex wr s2 s1 →
      W (model prog w) A (assign target env v) (fun _ s3 => W (model prog w) A (execs body env) (fun f s4 => match f with
        | .next | .cont => Ex Y s1 s4 ∧ J (k + 1) s4
        | .brk => W (model prog w) A (execs rest env) Q s4
        | .ret v => Q (.ret v) s4) s3) s1)
    (done : ∀ wr s2 s1, J n s2 → (∀ b ∈ wr, s.heap.get? b = none) → Ex wr s2 s1 → W (model prog w) A (execs rest env) Q s1)
    (ht : ∀ it v, letOwnedTupleGo target it v = pure () := by intro _ _; rfl) (hs : ∀ x, foldedSetIterable iter env x = pure x := by intro _; rfl) :
    W (model prog w) A (execs (.For target iter body [] pos :: rest) env) Q s := by
  refine w_cons (wpAny_For (wpAny_mono (hit _) (fun x s1 h1 => wpAny_mono h1 (fun it s2 h2 => ?_) fun _ _ e => e) fun _ _ e => e) hs)
  obtain ⟨I, fp, wr, St, rfl, Wk, hst, hx, hwr, hfp, _⟩ := h2
  refine codeAny_forLoop (fun m s' => ∃ k, k ≤ n ∧ m = n + 1 - k ∧ St k s'.heap ∧ J k s') ?_ (n + 1) ⟨0, Nat.zero_le _, rfl, hst, h0 s2 hx⟩ (ht _)
  rintro m s3 ⟨k, hk, rfl, hst3, hJ⟩
  have keepEx : ∀ {h' : Heap} {tk : Nat}, (∀ b o, b ∉ wr → s3.heap.get? b = some o → h'.get? b = some o) → Ex wr s3 { s3 with heap := h', toks := tk } := fun hk' => ⟨hk', fun x => x, rfl⟩
  by_cases hlt : k < n
  · refine Wk.item k _ _ _ hlt hst3 fun v h' tk hP hst' hk' => ?_
    refine (turn k v wr s3 _ hlt hP hJ hwr (keepEx hk')).upm fun _ s5 h5 => ?_
    refine h5.upm fun f s6 h6 => ?_
    have fin : Ex Y { s3 with heap := h', toks := tk } s6 ∧ J (k + 1) s6 → ∃ m, m < n + 1 - k ∧ ∃ k, k ≤ n ∧ m = n + 1 - k ∧ St k s6.heap ∧ J k s6 := by
      rintro ⟨hx6, hJ6⟩
      refine ⟨n + 1 - (k + 1), by omega, k + 1, hlt, rfl, ?_, hJ6⟩
      refine Wk.frame (k + 1) _ _ hst' fun b hb o e => hx6.keep b o (fun hy => ?_) e
      obtain ⟨⟨o', ho'⟩, hyf⟩ := hY b hy
      rcases hfp b hb with h | h
      · rw [h] at ho'; cases ho'
      · exact hyf h
    cases f with
    | next => exact fin h6
    | cont => exact fin h6
    | brk => exact h6
    | ret v => exact h6
  · have : k = n := by omega
    subst this
    refine Wk.done _ _ _ hst3 fun h' tk hk' => ?_
    exact wpAny_execs_nil (done wr s3 _ hJ hwr (keepEx hk'))

/-- the loop's own name a local -/
theorem w_for {x : Str} {px : Pos} {iter : Expr} {body rest : List Stmt} {pos : Pos} {n : Nat} {P : Nat → Value → Prop} {fx Y : List Addr} {Q : Flow → Shared → Prop} (hit : Iters prog w A env iter s n P fx)
    (hY : ∀ y ∈ Y, (∃ o, s.heap.get? y = some o) ∧ y ∉ fx) (hL : env.locals ∈ Y) (J : Nat → (Str → Option Value) → Shared → Prop) (h0 : ∀ s2, Ex [] s s2 → ∃ m, s2.heap.Ns env.locals m ∧ J 0 m s2)
    (turn : ∀ k v wr m s2 s1, k < n → P k v → J k m s2 → (∀ b ∈ wr, s.heap.get? b = none) → Ex (env.locals :: wr) s2 s1 → s1.heap.Ns env.locals (upd m x v) →
      W (model prog w) A (execs body env) (fun f s4 => match f with
        | .next | .cont => Ex Y s1 s4 ∧ ∃ m', s4.heap.Ns env.locals m' ∧ J (k + 1) m' s4
        | .brk => W (model prog w) A (execs rest env) Q s4
        | .ret v => Q (.ret v) s4) s1)
    (done : ∀ wr m s2 s1, s1.heap.Ns env.locals m → J n m s2 → (∀ b ∈ wr, s.heap.get? b = none) → Ex wr s2 s1 → W (model prog w) A (execs rest env) Q s1)
    (hk : env.scope.kind = .function := by rfl) (hl : env.kindOf x = some .local := by rfl) (hs : ∀ x, foldedSetIterable iter env x = pure x := by intro _; rfl) :
    W (model prog w) A (execs (.For (.Name x px) iter body [] pos :: rest) env) Q s := by
  have hLw : ∀ {wr : List Addr}, (∀ b ∈ wr, s.heap.get? b = none) → env.locals ∉ wr := fun hwr hm => by
    obtain ⟨⟨o, ho⟩, _⟩ := hY _ hL
    rw [hwr _ hm] at ho; cases ho
  refine w_for_core hit hY (fun k s2 => ∃ m, s2.heap.Ns env.locals m ∧ J k m s2) h0 ?_ ?_ (fun _ _ => rfl) hs
  · rintro k v wr s2 s1 hlt hP ⟨m, hn, hJ⟩ hwr hx
    refine wpAny_assign_Name (st_local (m := m) (hx.ns hn (hLw hwr)) (fun s3 hx3 hn3 => ?_) hk hl)
    refine (turn k v wr m s2 s3 hlt hP hJ hwr ?_ hn3).mono fun f s4 h4 => ?_
    · exact (hx.weak fun _ h => List.mem_cons_of_mem _ h).trans (hx3.weak fun y hy => by rw [List.mem_singleton.mp hy]; exact List.mem_cons_self ..)
    · have up : Ex Y s3 s4 → Ex Y s1 s4 := fun h => (hx3.weak fun y hy => by rw [List.mem_singleton.mp hy]; exact hL).trans h
      cases f with
      | next => exact ⟨up h4.1, h4.2⟩
      | cont => exact ⟨up h4.1, h4.2⟩
      | brk => exact h4
      | ret v => exact h4
  · rintro wr s2 s1 ⟨m, hn, hJ⟩ hwr hx
    exact done wr m s2 s1 (hx.ns hn (hLw hwr)) hJ hwr hx

/-! iterators -/
theorem it_list {iter : Expr} {a : Addr} {vs : List Value} (he : Pe (model prog w) A (eval iter env) s (· = .ref a)) (hl : s.heap.IsList a vs.toArray) (hh : A.handled = none) :
    Iters prog w A env iter s vs.length (fun i v => vs[i]? = some v) [a] := by
  intro E
  refine he.use .refl fun v s1 hv hx _ => ?_
  subst hv
  have hl1 : s1.heap.IsList a vs.toArray := hl.at fun o e => hx.keep0 _ o e
  have hlt : a < s1.heap.objs.size := let ⟨o, ho, _⟩ := hl1; Heap.lt_size ho
  refine wpAny_pyIter_list hl1 ⟨s1.heap.objs.size, [s1.heap.objs.size, a], [s1.heap.objs.size], _, rfl, by simpa using Walks.list hh s1.heap.objs.size a (Nat.ne_of_lt hlt) vs.toArray, ?_, hx.step0 (.push' _), ?_, ?_, ?_⟩
  · exact ⟨⟨_, Heap.get?_push_size _ rfl, rfl, rfl⟩, hl1.push _⟩
  · intro b hb; rw [List.mem_singleton.mp hb]; exact hx.old0 (fresh_size _)
  · intro b hb
    rcases List.mem_cons.mp hb with rfl | hb
    · exact .inl (hx.old0 (fresh_size _))
    · exact .inr hb
  · intro b hb
    show b < (s1.heap.push _).objs.size
    rw [Heap.size_push]
    rcases List.mem_cons.mp hb with rfl | hb
    · exact Nat.lt_succ_self _
    · rw [List.mem_singleton.mp hb]; exact Nat.lt_succ_of_lt hlt

end Mine
end

section
open PySem PySem.W PyProof.Rows
set_option maxRecDepth 100000
set_option maxHeartbeats 1000000
set_option linter.unusedVariables false
namespace Mine
variable {α β : Type} {w : World} {M : Model} {prog : Program} {A : Around} {env : Env} {s s' : Shared}

/-- as Pe, the result told with the states ahead and behind -/
def Pr (M : Model) (A : Around) (t : Sem α) (s : Shared) (R : Shared → α → Shared → Prop) : Prop :=
  ∀ s', Ex [] s s' → ∀ (E : Value → Shared → Prop), wpAny M A t (fun v s'' => Ex [] s' s'' ∧ R s' v s'') E s'
theorem Pr.use {t : Sem α} {R : Shared → α → Shared → Prop} {Q : α → Shared → Prop} {E : Value → Shared → Prop} (h : Pr M A t s R) (hx : Ex [] s s')
    (k : ∀ v s'', R s' v s'' → Ex [] s s'' → Ex [] s' s'' → Q v s'') : wpAny M A t Q E s' :=
  wpAny_mono (h s' hx E) (fun v s'' ⟨a, b⟩ => k v s'' b (hx.trans a) a) fun _ _ x => x
theorem Pr.later {t : Sem α} {R : Shared → α → Shared → Prop} (h : Pr M A t s R) (hx : Ex [] s s') : Pr M A t s' R := fun s'' hy E => h s'' (hx.trans hy) E
theorem Pr.run {t : Sem α} {R : Shared → α → Shared → Prop} {Q : α → Shared → Prop} (h : Pr M A t s R) (k : ∀ v s'', R s v s'' → Ex [] s s'' → Q v s'') : W M A t Q s := h.use .refl fun v s'' r a _ => k v s'' r a
theorem Pe.pr {t : Sem α} {R : α → Prop} (h : Pe M A t s R) : Pr M A t s (fun _ v _ => R v) := h

/-- a list of values, told one by one -/
structure Are (R : α → Value → Prop) (xs : List α) (vs : List Value) : Prop where
  len : vs.length = xs.length
  at_ : ∀ (i : Nat) x v, xs[i]? = some x → vs[i]? = some v → R x v
theorem Are.nil {R : α → Value → Prop} : Are R [] [] := ⟨rfl, fun i x v h => by simp at h⟩
theorem Are.get {R : α → Value → Prop} {xs : List α} {vs : List Value} (h : Are R xs vs) {i : Nat} {x : α} (hx : xs[i]? = some x) : ∃ v, vs[i]? = some v ∧ R x v := by
  have hlt : i < vs.length := by rw [h.len]; exact (List.getElem?_eq_some_iff.mp hx).1
  exact ⟨vs[i], List.getElem?_eq_getElem hlt, h.at_ i x _ hx (List.getElem?_eq_getElem hlt)⟩
theorem Are.get' {R : α → Value → Prop} {xs : List α} {vs : List Value} (h : Are R xs vs) {i : Nat} {v : Value} (hv : vs[i]? = some v) : ∃ x, xs[i]? = some x ∧ R x v := by
  have hlt : i < xs.length := by rw [← h.len]; exact (List.getElem?_eq_some_iff.mp hv).1
  exact ⟨xs[i], List.getElem?_eq_getElem hlt, h.at_ i _ v (List.getElem?_eq_getElem hlt) hv⟩
theorem Are.cons {R : α → Value → Prop} {xs : List α} {vs : List Value} {x : α} {v : Value} (h : R x v) (hs : Are R xs vs) : Are R (x :: xs) (v :: vs) := by
  refine ⟨by simp [hs.len], fun i y u hy hu => ?_⟩
  cases i with
  | zero => simp at hy hu; subst hy hu; exact h
  | succ i => simp at hy hu; exact hs.at_ i y u hy hu
theorem Are.append {R : α → Value → Prop} {xs ys : List α} {vs us : List Value} (h : Are R xs vs) (h' : Are R ys us) : Are R (xs ++ ys) (vs ++ us) := by
  refine ⟨by simp [h.len, h'.len], fun i y u hy hu => ?_⟩
  by_cases hi : i < xs.length
  · rw [List.getElem?_append_left hi] at hy
    rw [List.getElem?_append_left (by rw [h.len]; exact hi)] at hu
    exact h.at_ i y u hy hu
  · rw [List.getElem?_append_right (by omega)] at hy
    rw [List.getElem?_append_right (by rw [h.len]; omega), h.len] at hu
    exact h'.at_ _ y u hy hu
theorem Are.one {R : α → Value → Prop} {x : α} {v : Value} (h : R x v) : Are R [x] [v] := .cons h .nil
theorem Are.set {R : α → Value → Prop} {xs : List α} {vs : List Value} {x : α} {v : Value} (h : Are R xs vs) (i : Nat) (hx : R x v) : Are R (xs.set i x) (vs.set i v) := by
  refine ⟨by simp [h.len], fun j y u hy hu => ?_⟩
  by_cases hij : i = j
  · subst hij
    by_cases hi : i < xs.length
    · rw [List.getElem?_set_self hi] at hy
      rw [List.getElem?_set_self (by rw [h.len]; exact hi)] at hu
      cases hy; cases hu; exact hx
    · rw [List.getElem?_eq_none (by simp; omega)] at hy; cases hy
  · rw [List.getElem?_set_ne hij] at hy hu
    exact h.at_ j y u hy hu
theorem Are.cut {R : α → Value → Prop} {xs : List α} {vs : List Value} (h : Are R xs vs) (lo hi : Option Nat) : Are R (Mine.cut xs lo hi) (Mine.cut vs lo hi) := by
  unfold Mine.cut
  rw [h.len]
  refine ⟨by simp [h.len], fun i y u hy hu => ?_⟩
  rw [List.getElem?_drop, List.getElem?_take] at hy hu
  split at hy
  · rename_i hc; rw [if_pos hc] at hu; exact h.at_ _ y u hy hu
  · cases hy
theorem Are.rep {R : α → Value → Prop} {x : α} {v : Value} (n : Nat) (h : R x v) : Are R (List.replicate n x) (List.replicate n v) := by
  refine ⟨by simp, fun i y u hy hu => ?_⟩
  rw [List.getElem?_replicate] at hy hu
  split at hy
  · rename_i hc; rw [if_pos hc] at hu; cases hy; cases hu; exact h
  · cases hy
theorem Are.of_ints {vs : List Value} {ns : List Int} (h : IntsAre vs ns) : Are It ns vs := by
  induction h with
  | nil => exact .nil
  | cons _ ih => exact .cons ⟨_, rfl⟩ (by assumption)

def FreshL (P : List Value → Prop) (s' : Shared) (v : Value) (s'' : Shared) : Prop := ∃ a vs, v = .ref a ∧ s'.heap.get? a = none ∧ s''.heap.PlainList a vs.toArray ∧ P vs

/-! arguments -/
theorem peL_nil {pos : Pos} : Pe M A (spliced (backTo pos (starEach [] env))) s (· = []) := fun _ _ _ => args_nil ⟨.refl, rfl⟩
theorem peL_cons {pos : Pos} {e : Expr} {rest : List Expr} {R1 : Value → Prop} {R2 : List Value → Prop} (he : Pe M A (eval e env) s R1) (hr : Pe M A (spliced (backTo pos (starEach rest env))) s R2)
    (hs : starEach (e :: rest) env = (false, eval e env) :: starEach rest env := by rfl) : Pe M A (spliced (backTo pos (starEach (e :: rest) env))) s (fun vs => ∃ v us, vs = v :: us ∧ R1 v ∧ R2 us) :=
  fun _ hx _ => args_cons (he.use hx fun v s1 hv hx1 a1 => hr.use hx1 fun us s2 hus hx2 a2 => ⟨a1.trans a2, v, us, rfl, hv, hus⟩) hs

/-! ranges -/
theorem range_core {a b : Nat} {s3 : Shared} (hx3 : Ex [] s s3) (hh : A.handled = none) (tk : Nat) (o : Obj) : ∃ I fp wr St, Value.ref (s3.heap.push o).objs.size = .ref I ∧ Walks prog w A I fp wr (b - a) (fun i v => It ((a + i : Nat) : Int) v) St ∧
    St 0 ((s3.heap.push o).push { cls := .type "range_iterator", data := .fields #[rawInt (a : Int), rawInt (Builtin.Range.rangeSize (a : Int) (b : Int) 1), rawInt 1] }) ∧
    Ex [] s { s3 with heap := (s3.heap.push o).push { cls := .type "range_iterator", data := .fields #[rawInt (a : Int), rawInt (Builtin.Range.rangeSize (a : Int) (b : Int) 1), rawInt 1] }, toks := tk } ∧
    (∀ x ∈ wr, s.heap.get? x = none) ∧ (∀ x ∈ fp, s.heap.get? x = none ∨ x ∈ ([] : List Addr)) ∧
    (∀ x ∈ fp, x < ((s3.heap.push o).push { cls := .type "range_iterator", data := .fields #[rawInt (a : Int), rawInt (Builtin.Range.rangeSize (a : Int) (b : Int) 1), rawInt 1] }).objs.size) := by
  have hsz : Builtin.Range.rangeSize (a : Int) (b : Int) 1 = ((b - a : Nat) : Int) := by rw [rangeSize_one]; split <;> omega
  have hfr : s.heap.get? (s3.heap.push o).objs.size = none := hx3.old0 (by
      cases e : s3.heap.get? (s3.heap.push o).objs.size with
      | none => rfl
      | some o' => exact absurd (Heap.lt_size e) (by rw [Heap.size_push]; exact Nat.not_lt.mpr (Nat.le_succ _)))
  have h := Walks.range (prog := prog) (w := w) hh (s3.heap.push o).objs.size (a : Int) 1 (b - a)
  have hP : (fun (i : Nat) (v : Value) => ∃ t, v = Value.int ((a : Int) + (i : Int) * 1) t) = (fun (i : Nat) v => It ((a + i : Nat) : Int) v) := by
    funext i v
    rw [show (a : Int) + (i : Int) * 1 = ((a + i : Nat) : Int) by simp]
  rw [hP] at h
  refine ⟨_, _, _, _, rfl, h, ?_, (hx3.step0 (.push _ s3.toks)).step0 (.push _ _), ?_, ?_, ?_⟩
  · show IsRangeIter _ _ ((a : Int) + ((0 : Nat) : Int) * 1) (((b - a : Nat) : Int) - ((0 : Nat) : Int)) 1
    rw [show ((a : Int) + ((0 : Nat) : Int) * 1) = a by simp, show (((b - a : Nat) : Int) - ((0 : Nat) : Int)) = Builtin.Range.rangeSize a b 1 by rw [hsz]; simp]
    exact Heap.get?_push_size _ rfl
  · intro x hx; rw [List.mem_singleton.mp hx]; exact hfr
  · intro x hx; rw [List.mem_singleton.mp hx]; exact .inl hfr
  · intro x hx; simp only [List.mem_singleton] at hx; subst hx; simp only [Heap.size_push]; exact Nat.lt_succ_self _
theorem it_range2 {f : Str} {fp pos : Pos} {e1 e2 : Expr} {a b : Nat} (hf : Pe (model prog w) A (eval (.Name f fp) env) s (· = .type "range")) (h1 : Pe (model prog w) A (eval e1 env) s (It a)) (h2 : Pe (model prog w) A (eval e2 env) s (It b))
    (ha : a ≤ 1000000) (hb : b ≤ 1000000) (hh : A.handled = none) (hs : starEach [e1, e2] env = [(false, eval e1 env), (false, eval e2 env)] := by rfl) :
    Iters prog w A env (.Call (.Name f fp) [e1, e2] [] pos) s (b - a) (fun i v => It ((a + i : Nat) : Int) v) [] := by
  intro E
  refine Call_Name2 (hf.use .refl fun v s1 hv hx1 _ => ?_) hs
  subst hv
  refine PySem.callWith_type rfl (Calls.evalArgs_plain (Calls.spliced_cons (h1.use hx1 fun v s2 ⟨t, hv⟩ hx2 _ => Calls.spliced_cons (h2.use hx2 fun u s3 ⟨t', hu⟩ hx3 _ => Calls.spliced_nil ?_))))
  subst hv hu
  refine call_range_2 (wpAny_pyIter_range (IsRange.new ..) (small_one (by omega) (by omega) (by omega) (by omega)) ?_)
  exact range_core hx3 hh _ _

/-- range(n) -/
theorem it_range1 {f : Str} {fp pos : Pos} {e1 : Expr} {b : Nat} (hf : Pe (model prog w) A (eval (.Name f fp) env) s (· = .type "range")) (h1 : Pe (model prog w) A (eval e1 env) s (It b))
    (hb : b ≤ 1000000) (hh : A.handled = none) (hs : starEach [e1] env = [(false, eval e1 env)] := by rfl) :
    Iters prog w A env (.Call (.Name f fp) [e1] [] pos) s b (fun i v => It ((i : Nat) : Int) v) [] := by
  intro E
  refine Call_Name1 (hf.use .refl fun v s1 hv hx1 _ => ?_) hs
  subst hv
  refine PySem.callWith_type rfl (Calls.evalArgs_plain (Calls.spliced_cons (h1.use hx1 fun v s2 ⟨t, hv⟩ hx2 _ => Calls.spliced_nil ?_)))
  subst hv
  refine call_range_1 (wpAny_pyIter_range (IsRange.new ..) (small_one (by omega) (by omega) (by omega) (by omega)) ?_)
  have h := range_core (prog := prog) (w := w) (a := 0) (b := b) hx2 hh (s2.toks + 1 + 1)
  rw [Nat.sub_zero] at h
  simp only [Nat.zero_add] at h
  exact h _
end Mine
end

section
open PySem PySem.W PyProof.Rows
set_option maxRecDepth 100000
set_option maxHeartbeats 1000000
set_option linter.unusedVariables false
namespace Mine
variable {α β : Type} {w : World} {M : Model} {prog : Program} {A : Around} {env : Env} {s s' : Shared}

theorem Ex.isList {X s s' a} {vs : Array Value} (h : Ex X s s') (hl : s.heap.IsList a vs) (ha : a ∉ X) : s'.heap.IsList a vs := let ⟨o, ho, r⟩ := hl; ⟨o, h.keep _ _ ha ho, r⟩
theorem Ex.plainList {X s s' a} {vs : Array Value} (h : Ex X s s') (hl : s.heap.PlainList a vs) (ha : a ∉ X) : s'.heap.PlainList a vs := let ⟨n, ho⟩ := hl; ⟨n, h.keep _ _ ha ho⟩

theorem pe_item {value slice : Expr} {pos : Pos} {a : Addr} {vs : List Value} {k : Nat} {v : Value} (he : Pe (model prog w) A (eval value env) s (· = .ref a)) (hl : s.heap.IsList a vs.toArray)
    (hi : Pe (model prog w) A (eval slice env) s (It k)) (hv : vs[k]? = some v) (hk : k < 1000000)
    (hs : ∀ u, subscripted slice false (.ref a) (.int (k : Int) u) = operate [.ref a, .int (k : Int) u] (getItem (.ref a) (.int (k : Int) u)) := by intro _; rfl) :
    Pe (model prog w) A (eval (.Subscript value slice pos) env) s (· = v) := by
  intro s' hx E
  refine Subscript_ (he.use hx fun o s1 ho hx1 a1 => hi.use hx1 fun i s2 hi2 hx2 a2 => ?_)
  subst ho
  obtain ⟨t, rfl⟩ := hi2
  have hl2 := hx2.isList hl (by simp)
  exact tail_any hl2.typeIs slot_list_getitem.lookup (wpAny_getItem_list hl2 (by omega) (by omega) (by simpa using hv) ⟨a1.trans a2, rfl⟩) (hs t)

theorem pe_item_last {value slice : Expr} {pos : Pos} {a : Addr} {vs : List Value} {v : Value} (he : Pe (model prog w) A (eval value env) s (· = .ref a)) (hl : s.heap.IsList a vs.toArray)
    (hi : Pe (model prog w) A (eval slice env) s (It (-1))) (hv : vs[vs.length - 1]? = some v)
    (hs : ∀ u, subscripted slice false (.ref a) (.int (-1) u) = operate [.ref a, .int (-1) u] (getItem (.ref a) (.int (-1) u)) := by intro _; rfl) :
    Pe (model prog w) A (eval (.Subscript value slice pos) env) s (· = v) := by
  intro s' hx E
  refine Subscript_ (he.use hx fun o s1 ho hx1 a1 => hi.use hx1 fun i s2 hi2 hx2 a2 => ?_)
  subst ho
  obtain ⟨t, rfl⟩ := hi2
  have hl2 := hx2.isList hl (by simp)
  have hpos : 0 < vs.length := by
    cases vs with
    | nil => simp at hv
    | cons _ _ => simp
  refine tail_any hl2.typeIs slot_list_getitem.lookup (wpAny_getItem_list_neg hl2 (by decide) (by simp; omega) (by decide) ?_ ⟨a1.trans a2, rfl⟩) (hs t)
  rw [show ((-1 : Int) + (vs.toArray.size : Int)).toNat = vs.length - 1 by simp; omega]
  simpa using hv

theorem pe_item_str {value slice : Expr} {pos : Pos} {x : List Nat} {k c : Nat} (he : Pe (model prog w) A (eval value env) s (St x))
    (hi : Pe (model prog w) A (eval slice env) s (It k)) (hv : x[k]? = some c) (hk : k < 1000000)
    (hs : ∀ t u, subscripted slice false (.str ⟨x.toArray⟩ t) (.int (k : Int) u) = operate [.str ⟨x.toArray⟩ t, .int (k : Int) u] (getItem (.str ⟨x.toArray⟩ t) (.int (k : Int) u)) := by intro _ _; rfl) :
    Pe (model prog w) A (eval (.Subscript value slice pos) env) s (St [c]) := by
  intro s' hx E
  refine Subscript_ (he.use hx fun o s1 ⟨t, ho⟩ hx1 a1 => hi.use hx1 fun i s2 hi2 hx2 a2 => ?_)
  subst ho
  obtain ⟨u, rfl⟩ := hi2
  refine tail_any (typeIs_str _ _ t) F.slot_str_getitem.lookup (P.getItem_str (c := c) ?_ ?_ ⟨(a1.trans a2).trans (.toks _), _, rfl⟩) (hs t u)
  · have h1 : ¬ ((k : Int) < -(2 ^ 63)) := by omega
    have h2 : ¬ ((k : Int) ≥ 2 ^ 63) := by omega
    rw [decide_eq_false h1, decide_eq_false h2]; rfl
  · have hlt : k < x.length := (List.getElem?_eq_some_iff.mp hv).1
    rw [seqIndex_of (by omega) (by simp [Str.length]; omega)]
    simpa using hv

theorem pe_len_list {f : Str} {fp pos : Pos} {e : Expr} {a : Addr} {vs : List Value} (hf : Pe (model prog w) A (eval (.Name f fp) env) s (· = .builtin "len")) (he : Pe (model prog w) A (eval e env) s (· = .ref a)) (hl : s.heap.IsList a vs.toArray)
    (hn : vs.length ≤ sizeLine) (hs : starEach [e] env = [(false, eval e env)] := by rfl) : Pe (model prog w) A (eval (.Call (.Name f fp) [e] [] pos) env) s (It vs.length) := by
  refine pe_call1 hf he ?_ hs
  intro v hv s' hx E
  subst hv
  refine len_list (hx.isList hl (by simp)) (by simp only [sizeLine] at hn; simp only [List.size_toArray]; omega) ⟨.toks _, _, by simp; rfl⟩

/-! new lists -/
theorem pr_newList {vs : List Value} (hsz : vs.length ≤ sizeLine) : Pr M A (newList vs) s (FreshL (· = vs)) := by
  intro s' hx E
  refine wpAny_newObj_type ⟨.push' _, s'.heap.objs.size, vs, rfl, fresh_size _, ⟨0, Heap.get?_push_size _ rfl⟩, rfl⟩ (by show vs.toArray.size ≤ sizeLine; simpa using hsz)
theorem pr_list {elts : List Expr} {pos : Pos} {R : List Value → Prop} (h : Pe M A (spliced (backTo pos (starEach elts env))) s R) (hsz : ∀ vs, R vs → vs.length ≤ sizeLine) :
    Pr M A (eval (.List elts pos) env) s (FreshL R) := by
  intro s' hx E
  refine List_ (h.use hx fun vs s1 hv hx1 a1 => (pr_newList (hsz vs hv)).use hx1 fun v s2 hr hx2 a2 => ?_)
  obtain ⟨a, us, rfl, h1, h2, rfl⟩ := hr
  exact ⟨a1.trans a2, a, us, rfl, a1.old0 h1, h2, hv⟩

theorem mul_list0 {l : Addr} {items : Array Value} {k : Nat} {x : Int} {u : Tok} {Q : Value → Shared → Prop} {E : Value → Shared → Prop}
    (hl : s.heap.get? l = some { cls := .type "list", dict := none, data := .seq items k, slots := #[] })
    (c0 : ¬(!Builtin.List.listFitsIndex x) = true) (c1 : ¬ items.size * x.toNat > (2 ^ 63 - 1) / 8) (c2 : ¬ Builtin.List.listTooLong (items.size * x.toNat) = true)
    (h : Q (.ref s.heap.objs.size) { s with heap := s.heap.push { cls := .type "list", data := .seq (List.foldl (fun x1 x2 => x1 ++ x2) #[] (List.replicate (if items.isEmpty = true then 0 else x.toNat) items)) } }) :
    wpAny (model prog w) A (binaryOp .Mult (.ref l) (.int x u)) Q E s :=
  wpAny_binaryOp_repeat_ref (T := "list") (U := "int") (by decide) ⟨_, hl, rfl⟩ (fun s' => typeIs_int s' x u) noFill_list_mul F.fills_int_mul F.slot_int_rmul repeat_list F.slot_int_index.lookup
    (call_meets F.slot_int_rmul (typeIs_int s x u) F.entry_int_rmul (F.args_int_rmul_2 _ _) (int___rmul___int_list x u l items k)
      ⟨hl, rfl, ⟨_, hl, rfl⟩, call_meets F.slot_list_mul ⟨_, hl, rfl⟩ F.entry_list_mul (F.args_list_mul_2 _ _)
        (AutoListH.list___mul___list_int_3 l items k x u c0 c1 c2) ⟨hl, h⟩⟩)
theorem pr_mul_list {l r : Expr} {pos : Pos} {R : List Value → Prop} {n : Nat} (h1 : Pr (model prog w) A (eval l env) s (FreshL R)) (h2 : Pe (model prog w) A (eval r env) s (It n))
    (hsz : ∀ vs, R vs → 0 < vs.length ∧ vs.length * n ≤ 1000000) (hn : n ≤ 1000000) :
    Pr (model prog w) A (eval (.BinOp l .Mult r pos) env) s (FreshL (fun us => ∃ vs, R vs ∧ us = (List.replicate n vs).flatten)) := by
  intro s' hx E
  refine wpAny_BinOp (h1.use hx fun v s1 hv hx1 a1 => h2.use hx1 fun u s2 hu hx2 a2 => ?_)
  obtain ⟨a, vs, rfl, hn1, ⟨k, hl⟩, hR⟩ := hv
  obtain ⟨t, rfl⟩ := hu
  obtain ⟨hp, hz⟩ := hsz vs hR
  have hl2 : s2.heap.get? a = some { cls := .type "list", dict := none, data := .seq vs.toArray k, slots := #[] } := a2.keep0 _ _ hl
  have hz2 : vs.toArray.size * (n : Int).toNat ≤ 1000000 := by rw [List.size_toArray, Int.toNat_natCast]; exact hz
  have c0 : ¬(!Builtin.List.listFitsIndex (n : Int)) = true := by
    rw [fitsIndex_of (by omega) (by omega)]; decide
  have c1 : ¬ vs.toArray.size * (n : Int).toNat > (2 ^ 63 - 1) / 8 := Nat.not_lt.mpr (Nat.le_trans hz2 (by decide))
  have c2 : ¬ Builtin.List.listTooLong (vs.toArray.size * (n : Int).toNat) = true := by
    unfold Builtin.List.listTooLong
    rw [decide_eq_true_eq]
    exact Nat.not_lt.mpr (Nat.le_trans hz2 (by decide))
  have hfl : ∀ (k : Nat) (z : Array Value), (List.replicate k vs.toArray).foldl (fun x1 x2 => x1 ++ x2) z = (z.toList ++ (List.replicate k vs).flatten).toArray := by
    intro k
    induction k with
    | zero => intro z; simp
    | succ k ih => intro z; rw [List.replicate_succ, List.foldl_cons, ih]; simp [List.replicate_succ]
  refine mul_list0 hl2 c0 c1 c2 ?_
  refine ⟨(a1.trans a2).trans (.push' _), s2.heap.objs.size, (List.replicate n vs).flatten, rfl, (a1.trans a2).old0 (fresh_size _), ⟨0, ?_⟩, vs, hR, rfl⟩
  rw [Heap.get?_push_size _ rfl]
  have he : vs.toArray.isEmpty = false := by cases vs with | nil => simp at hp | cons _ _ => rfl
  rw [he]
  simp only [Bool.false_eq_true, if_false, Int.toNat_natCast, hfl, List.nil_append]

theorem slice_pick (vs : List Value) (lo hi : Option Nat) : slicePick vs.toArray (up lo) (up hi) none = (cut vs lo hi).toArray := by
  rw [slicePick_plain]
  have e1 : (up lo).elim 0 (clipAt vs.toArray.size) = Min.min (lo.getD 0) vs.length := by
    cases lo with
    | none => simp [up]
    | some i => simp [up, clipAt_nat]
  have e2 : (up hi).elim vs.toArray.size (clipAt vs.toArray.size) = Min.min (hi.getD vs.length) vs.length := by
    cases hi with
    | none => simp [up]
    | some i => simp [up, clipAt_nat]
  rw [e1, e2]
  have := slice_list vs lo hi
  rw [StrLaws.picks vs _ _ (by omega)] at this
  rw [← this]

theorem PeO.part {e : Option Expr} {n : Option Nat} {Q : Value → Shared → Prop} {E : Value → Shared → Prop} (h : PeO M A e env s n) (hx : Ex [] s s')
    (k : ∀ v s'', IsPart v (up n) → Ex [] s s'' → Ex [] s' s'' → Q v s'') : wpAny M A (evalPart e env) Q E s' := by
  refine h.use hx fun p s'' hp h1 h2 => k _ s'' ?_ h1 h2
  rw [← hp]
  cases p with
  | none => exact .none
  | some q => exact .int q.1 q.2

theorem pr_slice {value : Expr} {lower upper : Option Expr} {p pos : Pos} {a : Addr} {vs : List Value} {lo hi : Option Nat} (h0 : Pe (model prog w) A (eval value env) s (· = .ref a)) (hl : s.heap.IsList a vs.toArray)
    (h1 : PeO (model prog w) A lower env s lo) (h2 : PeO (model prog w) A upper env s hi) (hz : vs.length ≤ sizeLine) :
    Pr (model prog w) A (eval (.Subscript value (.Slice lower upper none p) pos) env) s (FreshL (· = cut vs lo hi)) := by
  intro s' hs E
  refine Subscript_ (h0.use hs fun v s1 hv hs1 a1 => wpAny_Slice (h1.part hs1 fun vl s2 hpl hs2 a2 => h2.part hs2 fun vu s3 hpu hs3 a3 => ?_))
  subst hv
  have hl3 : (s3.heap.push { cls := .type "slice", data := .fields #[vl, vu, .none] }).IsList a vs.toArray := (hs3.isList hl (by simp)).push _
  refine wpAny_pure (tail_any (hl3.typeIs (s := { s3 with heap := s3.heap.push { cls := .type "slice", data := .fields #[vl, vu, .none] } })) slot_list_getitem.lookup
    (wpAny_getItem_list_slice (st := none) hl3 (.new ..) hpl hpu .none (fun e => nomatch e) ?_ (by simpa using hz)) rfl)
  rw [slice_pick]
  have x3 := (a1.trans a2).trans a3
  refine ⟨(x3.trans (.push' _)).trans (.push' _), (s3.heap.push { cls := .type "slice", data := .fields #[vl, vu, .none] }).objs.size, _, rfl, x3.old0 ?_, ⟨0, Heap.get?_push_size _ rfl⟩, rfl⟩
  cases e : s3.heap.get? (s3.heap.push { cls := .type "slice", data := .fields #[vl, vu, .none] }).objs.size with
  | none => rfl
  | some o => exact absurd (Heap.lt_size e) (by rw [Heap.size_push]; exact Nat.not_lt.mpr (Nat.le_succ _))

theorem pr_add_list {l r : Expr} {pos : Pos} {R1 R2 : List Value → Prop} (h1 : Pr (model prog w) A (eval l env) s (FreshL R1)) (h2 : Pr (model prog w) A (eval r env) s (FreshL R2))
    (hsz : ∀ vs us, R1 vs → R2 us → vs.length + us.length ≤ sizeLine) :
    Pr (model prog w) A (eval (.BinOp l .Add r pos) env) s (FreshL (fun xs => ∃ vs us, R1 vs ∧ R2 us ∧ xs = vs ++ us)) := by
  intro s' hx E
  refine wpAny_BinOp (h1.use hx fun v s1 hv hx1 a1 => h2.use hx1 fun u s2 hu hx2 a2 => ?_)
  obtain ⟨a, vs, rfl, hn1, hl, hR⟩ := hv
  obtain ⟨b, us, rfl, hn2, ⟨k2, hl2⟩, hR2⟩ := hu
  obtain ⟨k, hl⟩ := a2.plainList hl (by simp)
  refine P.add_list (n := k) (n2 := k2) hl hl2 ⟨(a1.trans a2).trans (.push' _), s2.heap.objs.size, vs ++ us, rfl, (a1.trans a2).old0 (fresh_size _), ⟨0, ?_⟩, vs, us, hR, hR2, rfl⟩ (by simpa using hsz vs us hR hR2)
  rw [Heap.get?_push_size _ rfl]; simp

theorem Pr.mono {t : Sem α} {R R' : Shared → α → Shared → Prop} (h : Pr M A t s R) (k : ∀ s1 v s2, R s1 v s2 → R' s1 v s2) : Pr M A t s R' :=
  fun s' hx E => h.use hx fun v s'' r _ a => ⟨a, k _ v _ r⟩
theorem FreshL.mono {P P' : List Value → Prop} (k : ∀ vs, P vs → P' vs) : ∀ s1 v s2, FreshL P s1 v s2 → FreshL P' s1 v s2 := fun _ _ _ ⟨a, vs, h1, h2, h3, h4⟩ => ⟨a, vs, h1, h2, h3, k vs h4⟩

/-- table[i] = e -/
theorem w_setitem {o i value : Expr} {p1 pos : Pos} {rest : List Stmt} {a : Addr} {vs : List Value} {k : Nat} {R : Value → Prop} {Q : Flow → Shared → Prop} (hv : Pe (model prog w) A (eval value env) s R)
    (ho : Pe (model prog w) A (eval o env) s (· = .ref a)) (hi : Pe (model prog w) A (eval i env) s (It k)) (hl : s.heap.IsList a vs.toArray) (hk : k < vs.length) (hk2 : k < 1000000)
    (h : ∀ v s2, R v → Ex [a] s s2 → s2.heap.IsList a (vs.set k v).toArray → W (model prog w) A (execs rest env) Q s2)
    (hs : swapsWith value (some (.Subscript o i p1)) pos.line env = pure false := by rfl) :
    W (model prog w) A (execs (.Assign [.Subscript o i p1] value pos :: rest) env) Q s := by
  refine w_cons (wpAny_Assign_Subscript (hv.use .refl fun v s1 hv1 hx1 _ => ho.use hx1 fun ov s2 ho2 hx2 _ => hi.use hx2 fun iv s3 hi3 hx3 _ => ?_) hs)
  subst ho2
  obtain ⟨t, rfl⟩ := hi3
  refine wpAny_setItem_list (hx3.isList hl (by simp)) (by omega) (by omega) (by simp; omega) fun h' hl' hsb => ?_
  refine h v _ hv1 (hx3.lift.trans (Ex.same s3.toks hsb)) ?_
  have e : vs.toArray.setIfInBounds (k : Int).toNat v = (vs.set k v).toArray := by simp
  rw [e] at hl'; exact hl'
end Mine
end

section
open PySem PySem.W PyProof.Rows
set_option maxRecDepth 100000
set_option maxHeartbeats 1000000
set_option linter.unusedVariables false
namespace Mine
variable {α β : Type} {w : World} {M : Model} {A : Around} {env : Env} {s s' : Shared}

/-! the plain hand -/
/-- the word struck out where it first stands, over and over: from a text and a place the rest -/
inductive Plain (word : List Nat) : List Nat → Nat → List Nat → Prop
  | done {rest place} : ¬ place + word.length ≤ rest.length → Plain word rest place rest
  | strike {rest place r} : place + word.length ≤ rest.length → cut rest (some place) (some (place + word.length)) = word → Plain word (cut rest none (some place) ++ cut rest (some (place + word.length)) none) 0 r → Plain word rest place r
  | next {rest place r} : place + word.length ≤ rest.length → cut rest (some place) (some (place + word.length)) ≠ word → Plain word rest (place + 1) r → Plain word rest place r

theorem strike_len {rest : List Nat} {place n : Nat} (h : place + n ≤ rest.length) : (cut rest none (some place) ++ cut rest (some (place + n)) none).length = rest.length - n := by
  rw [cut_to0, cut_from0, List.length_append, List.length_take, List.length_drop, Nat.min_eq_left (Nat.le_trans (Nat.le_add_right _ _) h)]
  omega
theorem Plain.len {word text r : List Nat} {place : Nat} (h : Plain word text place r) : r.length ≤ text.length := by
  induction h with
  | done _ => exact Nat.le_refl _
  | strike h1 _ _ ih => exact Nat.le_trans ih (by rw [strike_len h1]; exact Nat.sub_le _ _)
  | next _ _ _ ih => exact ih

theorem plain_walk (f : Bs s.heap) (word text : List Nat) (tw tt : Tok) (hw : word.length ≤ 100) (hw0 : 0 < word.length) (ht : text.length ≤ 100) (hd : A.depth < 900) :
    W (model Pg w) A (runValue (.call (.ref 124) ⟨[.str ⟨word.toArray⟩ tw, .str ⟨text.toArray⟩ tt], []⟩)) (fun v s' => Ex [] s s' ∧ ∃ r, St r v ∧ Plain word text 0 r) s := by
  obtain ⟨o, h1, h2, _⟩ := f.plain.at_
  have h3 := f.plain.rec_
  refine w_call (binds := [("word", .str ⟨word.toArray⟩ tw), ("text", .str ⟨text.toArray⟩ tt)]) (by simp only [recursionLimit]; omega) h1 h2 f.lim h3 (body := bodyOf (stm 8)) rfl (.of_eq rfl) (fun s1 hx hsz hn => ?_)
  refine w_assign hn (pe_local hn rfl) ?_
  intro v s2 hv hx2 hn2
  subst hv
  refine w_assign hn2 pe_int ?_
  rintro _ s3 ⟨t3, rfl⟩ hx3 hn3
  have x3 : Ex [] s s3 := (hx.fr hx2 hsz).fr hx3 hsz
  refine w_while (fun n s' => Ex [] s s' ∧ ∃ m rest place t1 t2, s'.heap.Ns s.heap.objs.size m ∧ m "word" = some (.str ⟨word.toArray⟩ tw) ∧ m "rest" = some (.str ⟨rest.toArray⟩ t1) ∧ m "place" = some (.int ((place : Nat) : Int) t2) ∧
    rest.length ≤ 100 ∧ place ≤ rest.length ∧ (∀ r, Plain word rest place r → Plain word text 0 r) ∧ n = rest.length * 1000 + (rest.length - place)) _ ⟨x3, _, text, 0, tt, t3, hn3, rfl, rfl, rfl, ht, Nat.zero_le _, fun _ h => h, rfl⟩ ?_
  rintro n s4 ⟨x4, m, rest, place, t1, t2, hm, m1, m2, m3, hr, hp, hP, hn⟩
  have f4 := f.ex0 x4
  have z1 : word.length ≤ sizeLine := by simp only [sizeLine]; omega
  have z2 : rest.length ≤ sizeLine := by simp only [sizeLine]; omega
  refine ⟨decide ((place : Int) + (word.length : Int) ≤ (rest.length : Int)), pe_test cmp_int_le (pe_add (pe_locI hm m3) (pe_len_str (pe_len f4.gl) (pe_locS hm m1) z1)) (pe_len_str (pe_len f4.gl) (pe_locS hm m2) z2), ?_, ?_⟩
  · intro hb s5 hx5
    have hb : place + word.length ≤ rest.length := by have := of_decide_eq_true hb; omega
    have hm5 : s5.heap.Ns s.heap.objs.size m := hx5.ns hm (by simp)
    have f5 := f4.ex0 hx5
    have x5 := x4.step0 hx5
    refine w_if (b := cut rest (some place) (some (place + word.length)) == word) (pe_test cmp_str_eq (pe_slice_str (lo := some place) (hi := some (place + word.length)) (pe_locS hm5 m2) (pe_locI hm5 m3) (pe_add (pe_locI hm5 m3) (pe_len_str (pe_len f5.gl) (pe_locS hm5 m1) z1)) z2) (pe_locS hm5 m1)) ?_ ?_
    · intro hc s6 hx6
      have hc : cut rest (some place) (some (place + word.length)) = word := eq_of_beq hc
      have hm6 : s6.heap.Ns s.heap.objs.size m := hx6.ns hm5 (by simp)
      have f6 := f5.ex0 hx6
      refine w_assign hm6 (pe_add_str (pe_slice_str (lo := none) (hi := some place) (pe_locS hm6 m2) trivial (pe_locI hm6 m3) z2)
        (pe_slice_str (lo := some (place + word.length)) (hi := none) (pe_locS hm6 m2) (pe_add (pe_locI hm6 m3) (pe_len_str (pe_len f6.gl) (pe_locS hm6 m1) z1)) trivial z2) ?_) ?_
      · have := cut_len rest none (some place)
        have := cut_len rest (some (place + word.length)) none
        simp only [sizeLine]; omega
      rintro _ s7 ⟨t7, rfl⟩ hx7 hm7
      refine w_assign hm7 pe_int ?_
      rintro _ s8 ⟨t8, rfl⟩ hx8 hm8
      refine w_nil (w_nil ?_)
      have hlen : (cut rest none (some place) ++ cut rest (some (place + word.length)) none).length = rest.length - word.length := strike_len hb
      refine ⟨_, ?_, (((x5.step0 hx6).fr hx7 hsz).fr hx8 hsz), _, _, 0, t7, t8, hm8, m1, rfl, rfl, ?_, Nat.zero_le _, fun r hr => hP r (.strike hb hc hr), rfl⟩
      · rw [hlen]; omega
      · rw [hlen]; omega
    · intro hc s6 hx6
      have hc : cut rest (some place) (some (place + word.length)) ≠ word := fun e => by rw [e] at hc; simp at hc
      have hm6 : s6.heap.Ns s.heap.objs.size m := hx6.ns hm5 (by simp)
      refine w_inc hm6 m3 pe_int ?_
      intro t7 s7 hx7 hm7
      refine w_nil (w_nil ?_)
      exact ⟨_, by omega, (x5.step0 hx6).fr hx7 hsz, _, rest, place + 1, t1, t7, hm7, m1, m2, rfl, hr, by omega, fun r hr => hP r (.next hb hc hr), rfl⟩
  · intro hb s5 hx5
    have hb : ¬ place + word.length ≤ rest.length := by have := of_decide_eq_false hb; omega
    refine w_nil (w_ret (pe_locS (m := m) (hx5.ns hm (by simp)) m2) ?_)
    intro v s6 hv hx6
    exact ⟨(x4.step0 hx5).step0 hx6, rest, hv, hP rest (.done hb)⟩
end Mine
end

section
open PySem PySem.W PyProof.Rows
set_option maxRecDepth 100000
set_option maxHeartbeats 1000000
set_option linter.unusedVariables false
namespace Mine
variable {α β : Type} {w : World} {M : Model} {A : Around} {env : Env} {s s' : Shared}

/-- the word put in at the wish's place -/
noncomputable def putIn (word filled : List Nat) (wish : Int) : List Nat :=
  let p := (wish.fmod (filled.length + 1)).toNat
  cut filled none (some p) ++ word ++ cut filled (some p) none
noncomputable def filledF (word text : List Nat) (ws : List Int) : List Nat := ws.foldl (putIn word) text

theorem putIn_len (word filled : List Nat) (wish : Int) : (putIn word filled wish).length = filled.length + word.length := by
  unfold putIn
  have h2 := Int.fmod_lt_of_pos wish (b := (filled.length + 1 : Int)) (by omega)
  have h3 : (wish.fmod (filled.length + 1)).toNat ≤ filled.length := by omega
  generalize (wish.fmod (filled.length + 1)).toNat = p at h3
  dsimp only
  rw [cut_to0, cut_from0, List.length_append, List.length_append, List.length_take, List.length_drop, Nat.min_eq_left h3, Nat.add_right_comm, Nat.add_sub_cancel' h3]
theorem filledF_len (word text : List Nat) (ws : List Int) : (filledF word text ws).length = text.length + ws.length * word.length := by
  unfold filledF
  induction ws generalizing text with
  | nil => simp
  | cons x r ih => rw [List.foldl_cons, ih, putIn_len, List.length_cons, Nat.succ_mul]; omega

theorem fresh_mem {X : List Addr} {L : Addr} {wr : List Addr} (hL : s.heap.get? L = none) (hwr : ∀ b ∈ wr, s.heap.get? b = none) : ∀ y ∈ L :: wr, y ∈ X ∨ s.heap.get? y = none := by
  intro y hy
  rcases List.mem_cons.mp hy with rfl | hy
  · exact .inr hL
  · exact .inr (hwr y hy)

theorem filled_walk (f : Bs s.heap) (word text : List Nat) (tw tt : Tok) (a : Addr) (vs : List Value) (ws : List Int) (hl : s.heap.IsList a vs.toArray) (hv : Are It ws vs)
    (hw : word.length ≤ 100) (ht : text.length ≤ 100) (hws : ws.length ≤ 100) (hd : A.depth < 900) (hA : A.handled = none) :
    W (model Pg w) A (runValue (.call (.ref 136) ⟨[.str ⟨word.toArray⟩ tw, .str ⟨text.toArray⟩ tt, .ref a], []⟩)) (fun v s' => Ex [] s s' ∧ St (filledF word text ws) v) s := by
  obtain ⟨o, h1, h2, _⟩ := f.filled.at_
  have h3 := f.filled.rec_
  refine w_call (binds := [("word", .str ⟨word.toArray⟩ tw), ("text", .str ⟨text.toArray⟩ tt), ("wishes", .ref a)]) (by simp only [recursionLimit]; omega) h1 h2 f.lim h3 (body := bodyOf (stm 10)) rfl (.of_eq rfl) (fun s1 hx hsz hn => ?_)
  refine w_assign hn (pe_local hn rfl) ?_
  intro v s2 hv2 hx2 hn2
  subst hv2
  have x2 : Ex [] s s2 := hx.fr hx2 hsz
  have hl2 : s2.heap.IsList a vs.toArray := x2.isList hl (by simp)
  have haL : a ≠ s.heap.objs.size := fun e => by
    obtain ⟨oa, ho, _⟩ := hl
    rw [e, hsz] at ho; cases ho
  refine w_for (Y := [s.heap.objs.size]) (it_list (pe_local hn2 rfl) hl2 hA) ?_ (List.mem_singleton.mpr rfl)
    (fun k m s2 => Ex [] s s2 ∧ ∃ t, m "word" = some (.str ⟨word.toArray⟩ tw) ∧ m "filled" = some (.str ⟨(filledF word text (ws.take k)).toArray⟩ t)) ?_ ?_ ?_
  · intro y hy
    rw [List.mem_singleton.mp hy]
    exact ⟨let ⟨o, _, _, ho, _⟩ := hn2; ⟨o, ho⟩, by simpa using fun e => haL e.symm⟩
  · intro s3 hx3
    exact ⟨_, hx3.ns hn2 (by simp), x2.step0 hx3, tt, rfl, rfl⟩
  · rintro k v wr m s3 s4 hk hP ⟨x3, t, m1, m2⟩ hwr hx4 hn4
    obtain ⟨n, hn1, tn, rfl⟩ := hv.get' hP
    have x4 : Ex [] s s4 := x3.step hx4 (fresh_mem hsz fun b hb => x2.old0 (hwr b hb))
    have f4 := f.ex0 x4
    have hflen : (filledF word text (ws.take k)).length ≤ 100 + 100 * 100 := by
      rw [filledF_len]
      have : (ws.take k).length ≤ 100 := by rw [List.length_take]; omega
      have := Nat.mul_le_mul this hw
      omega
    generalize hF : filledF word text (ws.take k) = fl at *
    have z : fl.length ≤ sizeLine := Nat.le_trans hflen (by decide)
    have b1 := Int.fmod_nonneg_of_pos n (b := (fl.length + 1 : Int)) (by omega)
    have b2 := Int.fmod_lt_of_pos n (b := (fl.length + 1 : Int)) (by omega)
    refine w_assign hn4 (pe_mod (b := (fl.length + 1 : Int)) (by omega) (pe_locI hn4 rfl) (pe_add (pe_len_str (pe_len f4.gl) (pe_locS (l := fl) hn4 m2) z) pe_int)) ?_
    rintro _ s5 ⟨t5, rfl⟩ hx5 hn5
    have hp : (n.fmod (fl.length + 1 : Int)) = (((n.fmod (fl.length + 1 : Int)).toNat : Nat) : Int) := by omega
    rw [hp] at hn5
    refine w_assign hn5 (pe_add_str (pe_add_str (pe_slice_str (lo := none) (hi := some (n.fmod (fl.length + 1 : Int)).toNat) (pe_locS (l := fl) hn5 m2) trivial (pe_locI hn5 rfl) z) (pe_locS hn5 m1) ?_)
      (pe_slice_str (lo := some (n.fmod (fl.length + 1 : Int)).toNat) (hi := none) (pe_locS (l := fl) hn5 m2) (pe_locI hn5 rfl) trivial z) ?_) ?_
    · have := cut_len fl none (some (n.fmod (fl.length + 1 : Int)).toNat)
      exact Nat.le_trans (show _ ≤ 20000 by omega) (by decide)
    · have := cut_len fl none (some (n.fmod (fl.length + 1 : Int)).toNat)
      have := cut_len fl (some (n.fmod (fl.length + 1 : Int)).toNat) none
      rw [List.length_append]
      exact Nat.le_trans (show _ ≤ 40000 by omega) (by decide)
    rintro _ s6 ⟨t6, rfl⟩ hx6 hn6
    refine w_nil ⟨hx5.trans hx6, _, hn6, ((x4.fr hx5 hsz).fr hx6 hsz), t6, m1, ?_⟩
    have e : filledF word text (ws.take (k + 1)) = putIn word fl n := by
      rw [List.take_add_one, hn1]
      unfold filledF at hF ⊢
      rw [List.foldl_append, hF]
      rfl
    rw [e]; rfl
  · rintro wr m s3 s4 hn4 ⟨x3, t, m1, m2⟩ hwr hx4
    have x4 : Ex [] s s4 := x3.step hx4 fun y hy => .inr (x2.old0 (hwr y hy))
    have e : ws.take vs.length = ws := by rw [hv.len, List.take_length]
    rw [e] at m2
    refine w_ret (pe_locS hn4 m2) ?_
    intro v s5 hv5 hx5
    exact ⟨x4.step0 hx5, hv5⟩
end Mine
end

section
open PySem PySem.W PyProof.Rows
set_option maxRecDepth 100000
set_option maxHeartbeats 1000000
set_option linter.unusedVariables false
namespace Mine
variable {α β : Type} {w : World} {M : Model} {A : Around} {env : Env} {s s' : Shared}

theorem pe_ifexp {test body orelse : Expr} {pos : Pos} {b : Bool} {R : Value → Prop} (ht : Pe M A (isTrue test env (eval test env)) s (· = b)) (h1 : b = true → Pe M A (eval body env) s R) (h2 : b = false → Pe M A (eval orelse env) s R) :
    Pe M A (eval (.IfExp test body orelse pos) env) s R := by
  intro s' hx E
  refine wpAny_IfExp (ht.use hx fun v s1 hv hx1 a1 => ?_)
  subst hv
  cases v with
  | true => exact (h1 rfl).use hx1 fun u s2 hu _ a2 => ⟨a1.trans a2, hu⟩
  | false => exact (h2 rfl).use hx1 fun u s2 hu _ a2 => ⟨a1.trans a2, hu⟩

noncomputable def rootF (n last : Nat) : Nat := if n % (n - last) = 0 then n - last else n

theorem root_walk (f : Bs s.heap) (a : Addr) (vs : List Value) (n last : Nat) (t : Tok) (hl : s.heap.IsList a vs.toArray) (hn : vs.length = n) (hn0 : n ≤ 100) (hlast : last < n) (hv : vs[n - 1]? = some (.int last t)) (hd : A.depth < 900) :
    W (model Pg w) A (runValue (.call (.ref 143) ⟨[.ref a], []⟩)) (fun v s' => Ex [] s s' ∧ It (rootF n last) v) s := by
  obtain ⟨o, h1, h2, _⟩ := f.root.at_
  have h3 := f.root.rec_
  refine w_call (binds := [("table", .ref a)]) (by simp only [recursionLimit]; omega) h1 h2 f.lim h3 (body := bodyOf (stm 11)) rfl (.of_eq rfl) (fun s1 hx hsz hn1 => ?_)
  have f1 := f.ex0 hx
  have hl1 := hx.isList hl (by simp)
  have z : vs.length ≤ sizeLine := Nat.le_trans (hn ▸ hn0) (by decide)
  have el : Pe (model Pg w) (A.deeper (callEnv fdRoot s.heap.objs.size 143)) (eval (.Subscript (.Name "table" ⟨0, 0, 0, 0⟩) (.UnaryOp .USub (.Constant (.int 1) 0 ⟨0, 0, 0, 0⟩) ⟨0, 0, 0, 0⟩) ⟨0, 0, 0, 0⟩) (callEnv fdRoot s.heap.objs.size 143)) s1 (· = .int last t) :=
    pe_item_last (pe_local hn1 rfl) hl1 (pe_neg pe_int) (by rw [hn]; exact hv)
  refine w_assign (R := It (((n - last : Nat)) : Int)) hn1 ((pe_sub (pe_len_list (pe_len f1.gl) (pe_local hn1 rfl) hl1 z) ((pe_item_last (pe_local hn1 rfl) hl1 (pe_neg pe_int) (by rw [hn]; exact hv)).mono fun v h => ⟨t, h⟩)).mono ?_) ?_
  · rintro v ⟨u, rfl⟩; exact ⟨u, by rw [hn]; congr 1; omega⟩
  rintro _ s2 ⟨t2, rfl⟩ hx2 hn2
  have x2 := hx.fr hx2 hsz
  have f2 := f.ex0 x2
  have hl2 := x2.isList hl (by simp)
  refine w_ret (R := It (rootF n last)) (pe_ifexp (b := ((n : Int).fmod ((n - last : Nat) : Int) == 0)) (pe_test cmp_int_eq (pe_mod (by omega) ((pe_len_list (pe_len f2.gl) (pe_local hn2 rfl) hl2 z).mono fun v h => by rw [hn] at h; exact h) (pe_locI hn2 rfl)) pe_int) ?_ ?_) ?_
  · intro hb
    refine (pe_locI hn2 rfl).mono ?_
    rintro v ⟨u, rfl⟩
    refine ⟨u, ?_⟩
    have hb := eq_of_beq hb
    have e : n % (n - last) = 0 := by
      rw [Int.fmod_eq_emod_of_nonneg _ (by omega)] at hb
      exact_mod_cast hb
    unfold rootF; rw [if_pos e]
  · intro hb
    refine (pe_len_list (pe_len f2.gl) (pe_local hn2 rfl) hl2 z).mono ?_
    rintro v ⟨u, rfl⟩
    refine ⟨u, ?_⟩
    have hb : ¬ ((n : Int).fmod ((n - last : Nat) : Int)) = 0 := fun e => by rw [e] at hb; cases hb
    have e : ¬ n % (n - last) = 0 := fun e => hb (by
      rw [Int.fmod_eq_emod_of_nonneg _ (by omega)]
      exact_mod_cast e)
    unfold rootF; rw [if_neg e, hn]
  · intro v s3 hv3 hx3
    exact ⟨x2.step0 hx3, hv3⟩
end Mine
end

section
set_option linter.unusedVariables false
namespace Mine

/-- the first k letters of p end t -/
def Suf (p t : List Nat) (k : Nat) : Prop := k ≤ p.length ∧ p.take k <:+ t
/-- the longest such -/
structure IsTop (p t : List Nat) (k : Nat) : Prop where
  suf : Suf p t k
  max : ∀ k', Suf p t k' → k' ≤ k
/-- k ends t, and nothing longer that does goes on by c -/
structure Cand (p t : List Nat) (c k : Nat) : Prop where
  suf : Suf p t k
  out : ∀ k', Suf p t k' → k < k' → p[k']? ≠ some c

theorem suf_zero (p t : List Nat) : Suf p t 0 := ⟨Nat.zero_le _, by simp⟩
theorem Suf.le {p t : List Nat} {k : Nat} (h : Suf p t k) : k ≤ t.length := by
  have := h.2.length_le
  rw [List.length_take, Nat.min_eq_left h.1] at this
  exact this

theorem suffix_drop1 {a b : List Nat} (h : a <:+ b) (hl : a.length < b.length) : a <:+ b.drop 1 := by
  obtain ⟨r, rfl⟩ := h
  cases r with
  | nil => simp at hl
  | cons x r => exact ⟨r, by simp⟩
theorem suf_below {p t : List Nat} {k k' : Nat} (h : Suf p t k) (h' : Suf p t k') (hl : k' < k) : Suf p ((p.take k).drop 1) k' := by
  refine ⟨h'.1, suffix_drop1 (List.suffix_of_suffix_length_le h'.2 h.2 ?_) ?_⟩
  · rw [List.length_take, List.length_take]; omega
  · rw [List.length_take, List.length_take, Nat.min_eq_left h.1, Nat.min_eq_left h'.1]; exact hl
theorem suf_up {p t : List Nat} {k k' : Nat} (h : Suf p t k) (h' : Suf p ((p.take k).drop 1) k') : Suf p t k' :=
  ⟨h'.1, (h'.2.trans (List.drop_suffix _ _)).trans h.2⟩
theorem top_lt {p : List Nat} {k k1 : Nat} (hk : 0 < k) (hp : k ≤ p.length) (h : IsTop p ((p.take k).drop 1) k1) : k1 < k := by
  have := h.suf.le
  rw [List.length_drop, List.length_take, Nat.min_eq_left hp] at this
  omega

theorem concat_suffix {a t : List Nat} {x c : Nat} : (a ++ [x]) <:+ (t ++ [c]) ↔ a <:+ t ∧ x = c := by
  constructor
  · rintro ⟨r, h⟩
    rw [← List.append_assoc] at h
    have := List.append_inj' h rfl
    exact ⟨⟨r, this.1⟩, by simpa using this.2⟩
  · rintro ⟨⟨r, rfl⟩, rfl⟩
    exact ⟨r, by simp⟩
theorem suf_ext {p t : List Nat} {k c : Nat} (hk : k < p.length) : Suf p (t ++ [c]) (k + 1) ↔ Suf p t k ∧ p[k]? = some c := by
  have e : p.take (k + 1) = p.take k ++ [p[k]] := by rw [List.take_add_one, List.getElem?_eq_getElem hk]; rfl
  rw [List.getElem?_eq_getElem hk]
  unfold Suf
  rw [e, concat_suffix]
  constructor
  · rintro ⟨h1, h2, h3⟩; exact ⟨⟨by omega, h2⟩, by rw [h3]⟩
  · rintro ⟨⟨h1, h2⟩, h3⟩; exact ⟨by omega, h2, by simpa using h3⟩

theorem cand_init {p t : List Nat} {c k : Nat} (h : IsTop p t k) : Cand p t c k := ⟨h.suf, fun k' h' hl => absurd (h.max k' h') (by omega)⟩
theorem cand_fall {p t : List Nat} {c k k1 : Nat} (h : Cand p t c k) (hne : p[k]? ≠ some c) (hk : 0 < k) (h1 : IsTop p ((p.take k).drop 1) k1) : Cand p t c k1 := by
  refine ⟨suf_up h.suf h1.suf, fun k' h' hl => ?_⟩
  by_cases hlt : k < k'
  · exact h.out k' h' hlt
  · by_cases he : k' = k
    · rw [he]; exact hne
    · exact absurd (h1.max k' (suf_below h.suf h' (by omega))) (by omega)
theorem cand_hit {p t : List Nat} {c k : Nat} (h : Cand p t c k) (he : p[k]? = some c) : IsTop p (t ++ [c]) (k + 1) := by
  have hk : k < p.length := (List.getElem?_eq_some_iff.mp he).1
  refine ⟨(suf_ext hk).mpr ⟨h.suf, he⟩, fun k' h' => ?_⟩
  cases k' with
  | zero => omega
  | succ k' =>
    have hk' : k' < p.length := h'.1
    have := (suf_ext hk').mp h'
    by_cases hlt : k < k'
    · exact absurd this.2 (h.out k' this.1 hlt)
    · omega
theorem cand_miss {p t : List Nat} {c : Nat} (h : Cand p t c 0) (he : p[0]? ≠ some c) : IsTop p (t ++ [c]) 0 := by
  refine ⟨suf_zero _ _, fun k' h' => ?_⟩
  cases k' with
  | zero => omega
  | succ k' =>
    have hk' : k' < p.length := h'.1
    have := (suf_ext hk').mp h'
    exfalso
    by_cases hlt : 0 < k'
    · exact h.out k' this.1 hlt this.2
    · have : k' = 0 := by omega
      subst this
      exact he this.2

/-- the overlap table: the longest beginning that ends the first i + 1 letters without the first -/
structure Tab (p : List Nat) (ns : List Nat) : Prop where
  len : ns.length = p.length
  at_ : ∀ i, i < p.length → IsTop p ((p.take (i + 1)).drop 1) (ns.getD i 0)

theorem tab_text {p : List Nat} {i c : Nat} (hi : 1 ≤ i) (hc : p[i]? = some c) : (p.take i).drop 1 ++ [c] = (p.take (i + 1)).drop 1 := by
  have hlt : i < p.length := (List.getElem?_eq_some_iff.mp hc).1
  rw [List.take_add_one, hc, List.drop_append_of_le_length (by rw [List.length_take]; omega)]
  rfl
theorem top_nil (p : List Nat) : IsTop p [] 0 := ⟨suf_zero _ _, fun k' h => h.le⟩
end Mine
end

section
open PySem PySem.W PyProof.Rows
set_option maxRecDepth 100000
set_option maxHeartbeats 1000000
set_option linter.unusedVariables false
namespace Mine
variable {α β : Type} {w : World} {M : Model} {A : Around} {env : Env} {s s' : Shared}

abbrev Nt (n : Nat) (v : Value) : Prop := It (n : Int) v

theorem nmem1 {a L : Addr} (h : a ≠ L) : a ∉ [L] := fun hm => h (List.mem_singleton.mp hm)

theorem tab_walk (f : Bs s.heap) (p : List Nat) (tp : Tok) (hp : p.length ≤ 100) (hp0 : 0 < p.length) (hd : A.depth < 900) (hA : A.handled = none) :
    W (model Pg w) A (runValue (.call (.ref 112) ⟨[.str ⟨p.toArray⟩ tp], []⟩)) (fun v s' => Ex [] s s' ∧ ∃ a vs ns, v = .ref a ∧ s.heap.get? a = none ∧ s'.heap.IsList a vs.toArray ∧ Are Nt ns vs ∧ Tab p ns) s := by
  obtain ⟨o, h1, h2, _⟩ := f.tab.at_
  have h3 := f.tab.rec_
  refine w_call (binds := [("prefix", .str ⟨p.toArray⟩ tp)]) (by simp only [recursionLimit]; omega) h1 h2 f.lim h3 (body := bodyOf (stm 5)) rfl (.of_eq rfl) (fun s1 hx hsz hn1 => ?_)
  have f1 := f.ex0 hx
  have z : p.length ≤ sizeLine := Nat.le_trans hp (by decide)
  refine w_assignE ((pr_mul_list (n := p.length) (R := fun us => ∃ v, us = [v] ∧ It 0 v) ((pr_list (peL_cons pe_int peL_nil) ?_).mono (FreshL.mono ?_)) (pe_len_str (pe_len f1.gl) (pe_locS hn1 rfl) z) ?_ ?_).run ?_)
  · rintro vs ⟨v, us, rfl, _, rfl⟩; exact (show 1 ≤ sizeLine by decide)
  · rintro vs ⟨v, us, rfl, hv, rfl⟩; exact ⟨v, rfl, hv⟩
  · rintro vs ⟨v, rfl, _⟩; exact ⟨by simp, by simp; omega⟩
  · omega
  rintro _ s2 ⟨a, us, rfl, hfr, hl, _, ⟨v0, rfl, hv0⟩, rfl⟩ hx2
  refine ⟨_, hx2.ns hn1 (by simp), fun s3 hx3 hn3 => ?_⟩
  have x2 : Ex [] s s2 := hx.trans hx2
  have x3 : Ex [] s s3 := x2.fr hx3 hsz
  have f3 := f.ex0 x3
  have hafr : s.heap.get? a = none := hx.old0 hfr
  have haL : a ≠ s.heap.objs.size := fun e => by
    obtain ⟨o, es, ep, ho, _⟩ := hn1
    rw [e, ho] at hfr; cases hfr
  have hl3 : s3.heap.IsList a (List.replicate p.length v0).toArray := hx3.isList (vs := (List.replicate p.length v0).toArray) (by
    have := hl.isList
    rwa [show (List.replicate p.length [v0]).flatten = List.replicate p.length v0 by simp] at this) (nmem1 haL)
  have hL3 : ∃ o, s3.heap.get? s.heap.objs.size = some o := let ⟨o, _, _, ho, _⟩ := hn3; ⟨o, ho⟩
  have ha3 : ∃ o, s3.heap.get? a = some o := let ⟨o, ho, _⟩ := hl3; ⟨o, ho⟩
  refine w_for (Y := [s.heap.objs.size, a]) (it_range2 (a := 1) (b := p.length) (pe_range f3.gl) pe_int (pe_len_str (pe_len f3.gl) (pe_locS hn3 rfl) z) (by omega) (by omega) hA) ?_ (List.mem_cons_self ..)
    (fun k m s2 => Ex [] s s2 ∧ m "prefix" = some (.str ⟨p.toArray⟩ tp) ∧ m "table" = some (.ref a) ∧ ∃ vs ns, s2.heap.IsList a vs.toArray ∧ Are Nt ns vs ∧ ns.length = p.length ∧ ∀ j, j ≤ k → IsTop p ((p.take (j + 1)).drop 1) (ns.getD j 0)) ?_ ?_ ?_
  · intro y hy
    rcases List.mem_cons.mp hy with rfl | hy
    · exact ⟨hL3, by simp⟩
    · rw [List.mem_singleton.mp hy]; exact ⟨ha3, by simp⟩
  · intro s4 hx4
    refine ⟨_, hx4.ns hn3 (by simp), x3.step0 hx4, rfl, rfl, _, List.replicate p.length 0, hx4.isList hl3 (by simp), Are.rep _ hv0, by simp, ?_⟩
    intro j hj
    have : j = 0 := by omega
    subst this
    rw [show (p.take (0 + 1)).drop 1 = [] by apply List.drop_of_length_le; rw [List.length_take]; omega]
    rw [show (List.replicate p.length 0).getD 0 0 = 0 by cases p with | nil => simp at hp0 | cons _ _ => rfl]
    exact top_nil p
  · rintro k v wr m s4 s5 hk ⟨ti, rfl⟩ ⟨x4, m1, m2, vs, ns, hl4, hvs, hns, htop⟩ hwr hx5 hn5
    have hwr' : ∀ b ∈ wr, s.heap.get? b = none := fun b hb => x3.old0 (hwr b hb)
    have x5 : Ex [] s s5 := x4.step hx5 (fresh_mem hsz hwr')
    have haX : a ∉ (callEnv fdTab s.heap.objs.size 112).locals :: wr := by
      intro hm
      rcases List.mem_cons.mp hm with h | h
      · exact haL h
      · obtain ⟨o, ho⟩ := ha3; rw [hwr a h] at ho; cases ho
    have hl5 := hx5.isList hl4 haX
    have hi : 1 + k < p.length := by omega
    obtain ⟨c, hc⟩ : ∃ c, p[1 + k]? = some c := ⟨_, List.getElem?_eq_getElem hi⟩
    have htk := htop k (Nat.le_refl _)
    obtain ⟨vk, hvk, tk, rfl⟩ := hvs.get (i := k) (x := ns.getD k 0) (by rw [List.getD_eq_getElem?_getD, List.getElem?_eq_getElem (by omega)]; rfl)
    refine w_assign hn5 (pe_item (k := k) (pe_local hn5 m2) hl5 ((pe_sub (pe_locI hn5 rfl) pe_int).mono ?_) hvk (by omega)) ?_
    · rintro v ⟨u, rfl⟩; exact ⟨u, by congr 1; omega⟩
    rintro _ s6 rfl hx6 hn6
    have hl6 := hx6.isList hl5 (nmem1 haL)
    have x6 := x5.fr hx6 hsz
    -- the turn's own end
    have fin : ∀ (n' : Nat) (v' : Value) (s7 : Shared) (m' : Str → Option Value), Nt n' v' → IsTop p ((p.take (1 + k + 1)).drop 1) n' → Ex [s.heap.objs.size] s5 s7 → s7.heap.Ns s.heap.objs.size m' → m' "prefix" = some (.str ⟨p.toArray⟩ tp) → m' "table" = some (.ref a) →
        ∀ s8, Ex [a] s7 s8 → s8.heap.IsList a (vs.set (1 + k) v').toArray →
        Ex [s.heap.objs.size, a] s5 s8 ∧ ∃ m', s8.heap.Ns s.heap.objs.size m' ∧ (Ex [] s s8 ∧ m' "prefix" = some (.str ⟨p.toArray⟩ tp) ∧ m' "table" = some (.ref a) ∧ ∃ vs ns, s8.heap.IsList a vs.toArray ∧ Are Nt ns vs ∧ ns.length = p.length ∧ ∀ j, j ≤ k + 1 → IsTop p ((p.take (j + 1)).drop 1) (ns.getD j 0)) := by
      intro n' v' s7 m' hv' ht' hx7 hn7 mp mt s8 hx8 hl8
      refine ⟨(hx7.weak (by simp)).trans (hx8.weak (by simp)), m', hx8.ns hn7 (nmem1 haL.symm), (x5.fr hx7 hsz).fr hx8 hafr, mp, mt, _, ns.set (1 + k) n', hl8, hvs.set _ hv', by simpa using hns, ?_⟩
      intro j hj
      by_cases hj1 : j = 1 + k
      · subst hj1
        rw [show (ns.set (1 + k) n').getD (1 + k) 0 = n' by rw [List.getD_eq_getElem?_getD, List.getElem?_set_self (by omega)]; rfl]
        exact ht'
      · rw [show (ns.set (1 + k) n').getD j 0 = ns.getD j 0 by rw [List.getD_eq_getElem?_getD, List.getElem?_set_ne (by omega), ← List.getD_eq_getElem?_getD]]
        exact htop j (by omega)
    have htxt : (p.take (1 + k)).drop 1 ++ [c] = (p.take (1 + k + 1)).drop 1 := tab_text (by omega) hc
    refine w_while (fun n s' => ∃ m' j tj, n = j ∧ Ex [s.heap.objs.size] s5 s' ∧ s'.heap.Ns s.heap.objs.size m' ∧ m' "prefix" = some (.str ⟨p.toArray⟩ tp) ∧ m' "table" = some (.ref a) ∧ m' "i" = some (.int ((1 + k : Nat) : Int) ti) ∧ m' "idx" = some (.int ((j : Nat) : Int) tj) ∧ Cand p ((p.take (1 + k)).drop 1) c j)
      _ ⟨_, ns.getD k 0, tk, rfl, hx6, hn6, m1, m2, rfl, rfl, cand_init (by rw [Nat.add_comm]; exact htk)⟩ ?_
    rintro n s7 ⟨m', j, tj, rfl, hx7, hn7, p1, p2, p3, p4, hcand⟩
    have x7 := x5.fr hx7 hsz
    have hl7 := hx7.isList hl5 (nmem1 haL)
    have hjle : n ≤ k := by
      have := hcand.suf.le
      rw [List.length_drop, List.length_take] at this
      omega
    obtain ⟨dj, hdj⟩ : ∃ d, p[n]? = some d := ⟨_, List.getElem?_eq_getElem (by omega)⟩
    refine ⟨[c] != [dj], pe_test cmp_str_ne (pe_item_str (k := 1 + k) (pe_locS hn7 p1) (pe_locI hn7 p3) hc (by omega)) (pe_item_str (k := n) (pe_locS hn7 p1) (pe_locI hn7 p4) hdj (by omega)), ?_, ?_⟩
    · intro hb s8 hx8
      have hne : p[n]? ≠ some c := by
        rw [hdj]; intro e; cases e; simp at hb
      have hn8 : s8.heap.Ns s.heap.objs.size m' := hx8.ns hn7 (by simp)
      have hl8 := hx8.isList hl7 (by simp)
      refine w_if (b := ((n : Int) == 0)) (pe_test cmp_int_eq (pe_locI hn8 p4) pe_int) ?_ ?_
      · intro h0 s9 hx9
        have h0 : n = 0 := by have := eq_of_beq h0; omega
        subst h0
        have hn9 : s9.heap.Ns s.heap.objs.size m' := hx9.ns hn8 (by simp)
        refine w_setitem (k := 1 + k) (pe_int (i := 0)) (pe_local hn9 p2) (pe_locI hn9 p3) (hx9.isList hl8 (by simp)) (by rw [hvs.len]; omega) (by omega) ?_
        intro v' s10 hv' hx10 hl10
        refine w_cons (wpAny_Break ?_)
        refine w_nil ?_
        exact fin 0 v' s9 m' hv' (htxt ▸ cand_miss hcand hne) ((hx7.step0 hx8).step0 hx9) hn9 p1 p2 s10 hx10 hl10
      · intro h0 s9 hx9
        have h0 : 0 < n := by
          have : ¬ ((n : Int) = 0) := fun e => by rw [e] at h0; cases h0
          omega
        have hn9 : s9.heap.Ns s.heap.objs.size m' := hx9.ns hn8 (by simp)
        have htn := htop (n - 1) (by omega)
        rw [show n - 1 + 1 = n by omega] at htn
        obtain ⟨vj, hvj, tj', rfl⟩ := hvs.get (i := n - 1) (x := ns.getD (n - 1) 0) (by rw [List.getD_eq_getElem?_getD, List.getElem?_eq_getElem (by omega)]; rfl)
        refine w_nil (w_assign hn9 (pe_item (k := n - 1) (pe_local hn9 p2) (hx9.isList hl8 (by simp)) ((pe_sub (pe_locI hn9 p4) pe_int).mono ?_) hvj (by omega)) ?_)
        · rintro v ⟨u, rfl⟩; exact ⟨u, by congr 1; omega⟩
        rintro _ s10 rfl hx10 hn10
        refine w_nil ⟨_, top_lt h0 (by omega) htn, _, ns.getD (n - 1) 0, tj', rfl, ((hx7.step0 hx8).step0 hx9).trans hx10, hn10, p1, p2, p3, rfl, cand_fall hcand hne h0 htn⟩
    · intro hb s8 hx8
      have he : p[n]? = some c := by
        rw [hdj]; simp at hb; rw [hb]
      have hn8 : s8.heap.Ns s.heap.objs.size m' := hx8.ns hn7 (by simp)
      refine w_setitem (k := 1 + k) (R := Nt (n + 1)) ((pe_add (pe_locI hn8 p4) pe_int).mono ?_) (pe_local hn8 p2) (pe_locI hn8 p3) (hx8.isList hl7 (by simp)) (by rw [hvs.len]; omega) (by omega) ?_
      · rintro v ⟨u, rfl⟩; exact ⟨u, rfl⟩
      intro v' s10 hv' hx10 hl10
      refine w_nil (w_nil ?_)
      exact fin (n + 1) v' s8 m' hv' (htxt ▸ cand_hit hcand he) (hx7.step0 hx8) hn8 p1 p2 s10 hx10 hl10
  · rintro wr m s4 s5 hn5 ⟨x4, m1, m2, vs, ns, hl4, hvs, hns, htop⟩ hwr hx5
    have x5 : Ex [] s s5 := x4.step hx5 fun y hy => .inr (x3.old0 (hwr y hy))
    have haX : a ∉ wr := fun h => by obtain ⟨o, ho⟩ := ha3; rw [hwr a h] at ho; cases ho
    refine w_ret (pe_local hn5 m2) ?_
    rintro v s6 rfl hx6
    exact ⟨x5.step0 hx6, a, vs, ns, rfl, hafr, hx6.isList (hx5.isList hl4 haX) (by simp), hvs, hns, fun i hi => htop i (by omega)⟩
end Mine
end

section
open PySem PySem.W PyProof.Rows
set_option maxRecDepth 100000
set_option maxHeartbeats 1000000
set_option linter.unusedVariables false
namespace Mine
variable {α β : Type} {w : World} {M : Model} {prog : Program} {A : Around} {env : Env} {s s' : Shared}

structure PileAt (h : Heap) (a d : Addr) (vs : List Value) : Prop where
  obj : ∃ n, h.get? a = some { cls := .ref 101, dict := some d, data := .seq vs.toArray n, slots := #[] }
  ns : ∃ t, h.Ns d (fun x => if x = "_initial_size" then some (.int 0 t) else none)
  ne : a ≠ d
  wa : Wild a
  wd : Wild d

theorem mro_list : mroOf (.type "list") = pure [.type "list", .type "object"] := by rw [mroOf_type]; kernel_rfl
theorem lk_list_ga : typeLookup (.type "list") "__getattribute__" = pure (some (.builtin "list.__getattribute__")) := by rw [typeLookup_type, builtinLookup_eq_fast]; kernel_rfl
theorem lk_list_getattr : typeLookup (.type "list") "__getattr__" = pure none := by rw [typeLookup_type, builtinLookup_eq_fast]; kernel_rfl
theorem canon_list_ga : (Manifest.canonical "list.__getattribute__" != "object.__getattribute__") = false := by decide +kernel

theorem cls_at {h : Heap} (f : Bs h) : h.get? 101 = some (excClassObj (Str.ofString "_Accumulator") (Str.ofString "_Accumulator") 101 100 [.type "list"] [.type "list", .type "object"] true [] [] false none none (some (.ref 22)) none (some (.str (Str.ofString "_Accumulator") 198)) (some (.str (Str.ofString "_Accumulator") 206)) (some (.bool true)) "list.__new__") := f.cls

theorem tl {name : Str} {y : Option Value} {Q : Option Value → Shared → Prop} {E : Value → Shared → Prop} (f : Bs s.heap) (hB : typeLookup (.type "list") name = pure y)
    (hq : Q (match clsTab.lookup name with | some v => some v | none => y) s) : wpAny M A (typeLookup (.ref 101) name) Q E s := by
  obtain ⟨h, g, d, t, os⟩ := s
  exact wpAny_typeLookup_exc (cls_at f) f.clsNs mro_list hB hq

theorem meth_own {name : Str} {a d fa : Addr} {vs : List Value} {of : Obj} {pl : Sem Bool} {y : Option Value} {Q : Value × List Value → Shared → Prop} {E : Value → Shared → Prop} (f : Bs s.heap) (hp : PileAt s.heap a d vs) (hn : clsTab.lookup name = some (.ref fa))
    (hf : s.heap.get? fa = some of) (hfc : of.cls = .type "function") (hB : typeLookup (.type "list") name = pure y) (hsh : name ≠ "_initial_size") (hq : Q (.ref fa, [.ref a]) s) :
    wpAny (model prog w) A (getMethod (.ref a) name pl) Q E s := by
  obtain ⟨⟨n, hx⟩, ⟨t0, hns⟩, hne, _, _⟩ := hp
  have h1 := cls_at f
  have h2 := f.clsNs
  have hcan := canon_list_ga
  obtain ⟨h, g, dr, t, os⟩ := s
  have e1 : clsTab.lookup (Str.ofString "__getattribute__") = none := by decide +kernel
  have e2 : clsTab.lookup (Str.ofString "__getattr__") = none := by decide +kernel
  unfold getMethod specialOf
  repeat (first | (with_reducible refine wpAny_loadPart_at hx ?_) | (with_reducible refine wpAny_typeLookup_exc h1 h2 mro_list lk_list_ga ?_; rw [e1]) | (with_reducible refine wpAny_typeLookup_exc h1 h2 mro_list lk_list_getattr ?_; rw [e2]) | (with_reducible refine wpAny_typeLookup_exc h1 h2 mro_list hB ?_; rw [hn]) | (with_reducible refine wpAny_typeOf (T := "function") ⟨_, hf, hfc⟩ ?_) | (with_reducible refine wpAny_nsGet hns ?_; rw [if_neg hsh]) | wp_step)
  exact hq
end Mine
end

section
open PySem PySem.W PyProof.Rows
set_option maxRecDepth 100000
set_option maxHeartbeats 1000000
set_option linter.unusedVariables false
namespace Mine
variable {α β : Type} {w : World} {M : Model} {prog : Program} {A : Around} {env : Env} {s s' : Shared}

theorem st_ns {h : Heap} (f : Bs h) : h.Ns 2 (fun _ => none) := ⟨_, #[], 0, f.st, rfl, fun e he => by simp at he, fun _ => rfl⟩
theorem no_strange {h : Heap} (f : Bs h) : Looks M h (opaqueClassAbove (.ref 101)) none := by
  intro A Q E s k q
  obtain ⟨hh, g, d, t, os⟩ := s
  have hn : hh.Ns cStatics (fun _ => none) := (st_ns f).keeps k
  unfold opaqueClassAbove anyOpaqueLoaded
  repeat (first | (with_reducible refine wpAny_nsGet hn ?_) | wp_step)
  exact q
theorem sub_cls {h : Heap} (f : Bs h) {b : Value} {r : Bool} (hr : ([.ref 101, .type "list", .type "object"] : List Value).contains b = r) : Looks M h (isSubtype (.ref 101) b) r := by
  intro A Q E s k q
  obtain ⟨hh, g, d, t, os⟩ := s
  refine wpAny_isSubtype_exc (k _ _ (cls_at f)) ?_
  rw [hr]; exact q

theorem slot_wd_get : Slot "wrapper_descriptor" "__get__" "wrapper_descriptor.__get__" := .of (owner := "wrapper_descriptor") (n := "__get__") (by rw [typeLookup_type, builtinLookup_eq_fast]; kernel_rfl) (by decide +kernel) (by decide +kernel) (by decide +kernel)
  (by first | exact .inl (by decide +kernel) | exact .inr (by decide +kernel)) (by rw [isSubtype_type]; kernel_rfl)
theorem entry_wd_get : entryFor table "wrapper_descriptor.__get__" = some Builtin.«wrapper_descriptor.__get__» := entryFor_of_tree (by kernel_rfl)
theorem args_wd_get (a b c : Value) : argsOk "wrapper_descriptor.__get__" ⟨[a, b, c], []⟩ := by unfold argsOk; kernel_rfl
theorem slot_md_get : Slot "method_descriptor" "__get__" "method_descriptor.__get__" := .of (owner := "method_descriptor") (n := "__get__") (by rw [typeLookup_type, builtinLookup_eq_fast]; kernel_rfl) (by decide +kernel) (by decide +kernel) (by decide +kernel)
  (by first | exact .inl (by decide +kernel) | exact .inr (by decide +kernel)) (by rw [isSubtype_type]; kernel_rfl)
theorem entry_md_get : entryFor table "method_descriptor.__get__" = some Builtin.«method_descriptor.__get__» := entryFor_of_tree (by kernel_rfl)
theorem args_md_get (a b c : Value) : argsOk "method_descriptor.__get__" ⟨[a, b, c], []⟩ := by unfold argsOk; kernel_rfl

theorem own_list {name : Str} {r : Option Value} (h : fastBuiltinOwn "list" name = r) : classOwn (.type "list") name = pure r := by
  show (pure (builtinOwn "list" name) : Sem (Option Value)) = _
  rw [builtinOwn_eq_fast, h]
theorem own_list_len : classOwn (.type "list") "__len__" = pure (some (.builtin "list.__len__")) := own_list (by kernel_rfl)
theorem own_list_init : classOwn (.type "list") "__init__" = pure (some (.builtin "list.__init__")) := own_list (by kernel_rfl)
theorem own_list_pop : classOwn (.type "list") "pop" = pure (some (.builtin "list.pop")) := own_list (by kernel_rfl)
theorem ty_list_len : typeOf (.builtin "list.__len__") = pure (.type "wrapper_descriptor") := by kernel_rfl
theorem ty_list_init : typeOf (.builtin "list.__init__") = pure (.type "wrapper_descriptor") := by kernel_rfl
theorem ty_list_pop : typeOf (.builtin "list.pop") = pure (.type "method_descriptor") := by kernel_rfl

abbrev superObj (a : Addr) : Obj := { cls := .type "super", dict := none, data := .fields #[.ref 101, .ref a, .ref 101], slots := #[] }
abbrev boundObj (T id : String) (a : Addr) : Obj := { cls := .type T, dict := none, data := .fields #[.builtin id, .ref a], slots := #[] }

theorem get_list_len {a d : Addr} {vs : List Value} {Q : Value → Shared → Prop} {E : Value → Shared → Prop} (f : Bs s.heap) (hp : PileAt s.heap a d vs)
    (hq : ∀ s', Ex [] s s' → s'.heap.get? s.heap.objs.size = some (boundObj "method-wrapper" "list.__len__" a) → Q (.ref s.heap.objs.size) s') :
    wpAny (model prog w) A (call (.builtin "wrapper_descriptor.__get__") [.builtin "list.__len__", .ref a, .ref 101]) Q E s := by
  have hT : s.TypeIs (.builtin "list.__len__") "wrapper_descriptor" := ty_list_len
  refine wpAny_call_entry slot_wd_get hT entry_wd_get ?_ (args_wd_get _ _ _)
  obtain ⟨⟨k, hx⟩, _, _, _, _⟩ := hp
  have hsub := sub_cls (M := model prog w) f (b := .type "list") (r := true) (by decide)
  obtain ⟨h, g, dr, t, os⟩ := s
  unfold Builtin.«wrapper_descriptor.__get__»
  have e0 : ".".intercalate ("list.__len__".cutAt '.').dropLast = "list" := by decide +kernel
  repeat (first | (with_reducible refine wpAny_loadPart_at hx ?_) | (rw [e0]; dsimp only; refine Looks.at hsub ?_) | (with_reducible refine wpAny_newObj_type ?_ (by size_fits)) | wp_step)
  exact ⟨_, rfl, hq _ (Ex.push' _) (Heap.get?_push_size _ rfl)⟩
theorem get_list_init {a d : Addr} {vs : List Value} {Q : Value → Shared → Prop} {E : Value → Shared → Prop} (f : Bs s.heap) (hp : PileAt s.heap a d vs)
    (hq : ∀ s', Ex [] s s' → s'.heap.get? s.heap.objs.size = some (boundObj "method-wrapper" "list.__init__" a) → Q (.ref s.heap.objs.size) s') :
    wpAny (model prog w) A (call (.builtin "wrapper_descriptor.__get__") [.builtin "list.__init__", .ref a, .ref 101]) Q E s := by
  have hT : s.TypeIs (.builtin "list.__init__") "wrapper_descriptor" := ty_list_init
  refine wpAny_call_entry slot_wd_get hT entry_wd_get ?_ (args_wd_get _ _ _)
  obtain ⟨⟨k, hx⟩, _, _, _, _⟩ := hp
  have hsub := sub_cls (M := model prog w) f (b := .type "list") (r := true) (by decide)
  obtain ⟨h, g, dr, t, os⟩ := s
  unfold Builtin.«wrapper_descriptor.__get__»
  have e0 : ".".intercalate ("list.__init__".cutAt '.').dropLast = "list" := by decide +kernel
  repeat (first | (with_reducible refine wpAny_loadPart_at hx ?_) | (rw [e0]; dsimp only; refine Looks.at hsub ?_) | (with_reducible refine wpAny_newObj_type ?_ (by size_fits)) | wp_step)
  exact ⟨_, rfl, hq _ (Ex.push' _) (Heap.get?_push_size _ rfl)⟩
theorem get_list_pop {a d : Addr} {vs : List Value} {Q : Value → Shared → Prop} {E : Value → Shared → Prop} (f : Bs s.heap) (hp : PileAt s.heap a d vs)
    (hq : ∀ s', Ex [] s s' → s'.heap.get? s.heap.objs.size = some (boundObj "builtin_function_or_method" "list.pop" a) → Q (.ref s.heap.objs.size) s') :
    wpAny (model prog w) A (call (.builtin "method_descriptor.__get__") [.builtin "list.pop", .ref a, .ref 101]) Q E s := by
  have hT : s.TypeIs (.builtin "list.pop") "method_descriptor" := ty_list_pop
  refine wpAny_call_entry slot_md_get hT entry_md_get ?_ (args_md_get _ _ _)
  obtain ⟨⟨k, hx⟩, _, _, _, _⟩ := hp
  have hsub := sub_cls (M := model prog w) f (b := .type "list") (r := true) (by decide)
  obtain ⟨h, g, dr, t, os⟩ := s
  unfold Builtin.«method_descriptor.__get__»
  have e0 : ".".intercalate ("list.pop".cutAt '.').dropLast = "list" := by decide +kernel
  repeat (first | (with_reducible refine wpAny_loadPart_at hx ?_) | (rw [e0]; dsimp only; refine Looks.at hsub ?_) | (with_reducible refine wpAny_newObj_type ?_ (by size_fits)) | wp_step)
  exact ⟨_, rfl, hq _ (Ex.push' _) (Heap.get?_push_size _ rfl)⟩
end Mine
end

section
open PySem PySem.W PyProof.Rows
set_option maxRecDepth 100000
set_option maxHeartbeats 1000000
set_option linter.unusedVariables false
namespace Mine
variable {α β : Type} {w : World} {M : Model} {prog : Program} {A : Around} {env : Env} {s s' : Shared}

def GetBinds (prog : Program) (w : World) (gId id bT : String) : Prop :=
  ∀ (s : Shared) (A : Around) (a d : Addr) (vs : List Value) (Q : Value → Shared → Prop) (E : Value → Shared → Prop), Bs s.heap → PileAt s.heap a d vs →
    (∀ s', Ex [] s s' → s'.heap.get? s.heap.objs.size = some (boundObj bT id a) → Q (.ref s.heap.objs.size) s') → wpAny (model prog w) A (call (.builtin gId) [.builtin id, .ref a, .ref 101]) Q E s
theorem gb_len : GetBinds prog w "wrapper_descriptor.__get__" "list.__len__" "method-wrapper" := fun s A a d vs Q E f hp hq => get_list_len f hp hq
theorem gb_init : GetBinds prog w "wrapper_descriptor.__get__" "list.__init__" "method-wrapper" := fun s A a d vs Q E f hp hq => get_list_init f hp hq
theorem gb_pop : GetBinds prog w "method_descriptor.__get__" "list.pop" "builtin_function_or_method" := fun s A a d vs Q E f hp hq => get_list_pop f hp hq

theorem super_ga {so a d : Addr} {vs : List Value} {name : Str} {id dT gId bT : String} {tk : Tok} {Q : Fin → Shared → Prop} {E : Value → Shared → Prop} (f : Bs s.heap) (hp : PileAt s.heap a d vs)
    (hso : s.heap.get? so = some (superObj a)) (hne : a ≠ 101) (hown : classOwn (.type "list") name = pure (some (.builtin id))) (hty : typeOf (.builtin id) = pure (.type dT)) (hlk : typeLookup (.type dT) "__get__" = pure (some (.builtin gId)))
    (hget : GetBinds prog w gId id bT) (hn : (name == ("__class__" : Str)) = false) (hq : ∀ s', Ex [] s s' → s'.heap.get? s.heap.objs.size = some (boundObj bT id a) → Q (.done (.ret (.ref s.heap.objs.size))) s') :
    wpAny (model prog w) A (Builtin.«super.__getattribute__» ⟨[.ref so, .str name tk], []⟩) Q E s := by
  have hdt : (superObj a).data = .fields #[.ref 101, .ref a, .ref 101] := rfl
  have f0 : (#[.ref 101, .ref a, .ref 101] : Array Value)[0]? = some (.ref 101) := rfl
  have f1 : (#[.ref 101, .ref a, .ref 101] : Array Value)[1]? = some (.ref a) := rfl
  have f2 : (#[.ref 101, .ref a, .ref 101] : Array Value)[2]? = some (.ref 101) := rfl
  have hno := no_strange (M := model prog w) f
  have hcl := cls_at f
  have hne' : (Value.ref a == Value.ref 101) = false := by simp [hne]
  unfold GetBinds at hget
  obtain ⟨h, g, dr, t, os⟩ := s
  unfold Builtin.«super.__getattribute__»
  repeat (first
    | (with_reducible refine wpAny_field hso hdt f0 ?_) | (with_reducible refine wpAny_field hso hdt f1 ?_) | (with_reducible refine wpAny_field hso hdt f2 ?_)
    | (with_reducible refine ks_wpAny_notOpaque hno ?_)
    | (with_reducible refine wpAny_mroOf_exc hcl ?_)
    | (with_reducible refine hget _ _ _ _ _ _ _ f hp ?_)
    | (with_reducible refine wpAny_of_eq hown ?_)
    | (with_reducible refine wpAny_of_eq hty ?_)
    | (with_reducible refine wpAny_of_eq hlk ?_)
    | (simp only [hn, hne', Bool.or_false, Bool.false_eq_true, if_false])
    | wp_step
    | dsimp only)
  all_goals (intro s' hx' hb'; repeat (first | wp_step | dsimp only))
  all_goals exact hq s' hx' hb'

theorem super_meth {so a d : Addr} {vs : List Value} {name : Str} {id dT gId bT : String} {pl : Sem Bool} {Q : Value × List Value → Shared → Prop} {E : Value → Shared → Prop} (f : Bs s.heap) (hp : PileAt s.heap a d vs)
    (hso : s.heap.get? so = some (superObj a)) (hne : a ≠ 101) (hown : classOwn (.type "list") name = pure (some (.builtin id))) (hty : typeOf (.builtin id) = pure (.type dT)) (hlk : typeLookup (.type dT) "__get__" = pure (some (.builtin gId)))
    (hget : GetBinds prog w gId id bT) (hn : (name == ("__class__" : Str)) = false) (hq : ∀ b s', Ex [] s s' → s'.heap.get? b = some (boundObj bT id a) → Q (.ref b, []) s') :
    wpAny (model prog w) A (getMethod (.ref so) name pl) Q E s := by
  have hlk2 := F.ks_slot_super_ga.lookup
  have hcan := F.ks_canon_super_ga
  have hT : ∀ t', ({ s with toks := t' } : Shared).TypeIs (.ref so) "super" := fun _ => ⟨_, hso, rfl⟩
  have hT0 : s.TypeIs (.ref so) "super" := ⟨_, hso, rfl⟩
  unfold getMethod
  refine wpAny_bind (wpAny_specialOf hT0 hlk2 ?_)
  show wpAny _ _ (if (Manifest.canonical "super.__getattribute__" != "object.__getattribute__") = true then _ else _) _ _ _
  rw [if_pos hcan]
  unfold getAttr getAttrBy
  refine wpAny_bind (wpAny_bind (wpAny_mkText (wpAny_holding (wpAny_bind (wpAny_typeOf (hT _) (wpAny_bind (wpAny_of_eq hlk2 ?_)))))))
  show wpAny _ _ (getAttrByItsOwn (.ref so) (.str name s.toks) (.type "super") (.builtin "super.__getattribute__") true false) _ _ _
  unfold getAttrByItsOwn hookBefore callGetattribute boundAndCalled
  refine wpAny_bind (wpAny_of_eq (show (if onTheHeap (.type "super") then typeLookup (.type "super") "__getattr__" else pure none) = pure none from rfl) ?_)
  refine wpAny_bind (wpAny_attempt (wpAny_holding ?_))
  show wpAny _ _ (bindSpecial (.builtin "super.__getattribute__") (.ref so) >>= _) _ _ _
  refine wpAny_bind (wpAny_of_eq (F.ks_slot_super_ga.bind _) ?_)
  refine wpAny_mono (Q := fun v s' => v = .ref s.heap.objs.size ∧ Ex [] s s' ∧ s'.heap.get? s.heap.objs.size = some (boundObj bT id a)) (E := fun _ _ => False)
    (wpAny_call_entry F.ks_slot_super_ga (hT _) F.ks_entry_super_ga (super_ga (s := { s with toks := s.toks + 1 }) f hp hso hne hown hty hlk hget hn fun s' hx' hb' => ⟨_, rfl, rfl, (Ex.toks _).trans hx', hb'⟩) (F.ks_gaArgs_super _ _)) (fun v s' hv => ?_) fun _ _ z => z.elim
  obtain ⟨rfl, hx', hb'⟩ := hv
  exact wpAny_pure (wpAny_pure (hq _ s' hx' hb'))
end Mine
end

section
open PySem PySem.W PyProof.Rows
set_option maxRecDepth 100000
set_option maxHeartbeats 1000000
set_option linter.unusedVariables false
namespace Mine
variable {α β : Type} {w : World} {M : Model} {prog : Program} {A : Around} {env : Env} {s s' : Shared}

theorem bound_call {T id : String} {B : Builtin} {a b : Addr} {pos : Pos} {Q : Value → Shared → Prop} {E : Value → Shared → Prop} (hb : s.heap.get? b = some (boundObj T id a))
    (hT : T = "method-wrapper" ∨ T = "builtin_function_or_method")
    (hchk : ∀ (A : Around) (E : Value → Shared → Prop) (Q : Unit → Shared → Prop), Q () s → wpAny (model prog w) A (checkBoundCall id ⟨[.ref a], []⟩) Q E s) (hpl : plainId id = true) (hent : entryFor table id = some B)
    (h : wpAny (model prog w) A.in1 (B ⟨[.ref a], []⟩) (fun fin s' => ∃ v, fin = .done (.ret v) ∧ Q v s') E s) :
    wpAny (model prog w) A (callWith pos (.ref b) [] (backTo pos (starEach [] env)) []) Q E s := by
  unfold callWith
  refine wpAny_bind (wpAny_holding (PySem.evalArgs_none (wpAny_bind (wpAny_standAt ?_))))
  have hk : ∀ (Q : Keeper → Shared → Prop), Q .machine s → wpAny (model prog w) A (keeperOf (.ref b)) Q E s := by
    intro Q hQ
    unfold keeperOf
    refine wpAny_bind (wpAny_load hb ?_)
    rcases hT with rfl | rfl
    · exact wpAny_pure hQ
    · exact wpAny_pure hQ
  refine wpAny_bind (hk _ ?_)
  have hc : wpAny (model prog w) A (call (.ref b) []) Q E s := by
    refine wpAny_call (codeAny_of_tree ?_)
    show wpAny _ A.in1 (callAny (.ref b) ⟨[], []⟩) _ _ _
    unfold callAny
    refine wpAny_bind (wpAny_load hb ?_)
    have fin : wpAny (model prog w) A.in1 (do checkBoundCall id ⟨[.ref a], []⟩; again (.builtin id ⟨[.ref a], []⟩)) (fun fin s' => match fin with
        | .done f => (match (Except.ok f : Result) with | .ok (.ret v) => Q v s' | .ok _ => False | .error e => E e s')
        | .again c' => c'.quiet = true ∧ codeAny (model prog w) A c' (fun r s' => match r with | .ok (.ret v) => Q v s' | .ok _ => False | .error e => E e s') s')
        (fun e s' => E e s') s := by
      refine wpAny_bind (hchk _ _ _ (wpAny_pure ⟨plainId_quiet hpl _, codeAny_builtin hent ?_⟩))
      rw [Around.under_plainId hpl _]
      refine wpAny_mono h (fun fin s' hv => ?_) fun _ _ x => x
      obtain ⟨v, rfl, hv⟩ := hv
      exact hv
    rcases hT with rfl | rfl
    · exact fin
    · exact fin
  exact wpAny_bind (wpAny_mono hc (fun r s2 hr => wpAny_bind (wpAny_holding (wpAny_point (wpAny_pure hr)))) fun _ _ x => x)

theorem chk_len {a : Addr} (A : Around) (E : Value → Shared → Prop) (Q : Unit → Shared → Prop) (hq : Q () s) : wpAny M A (checkBoundCall "list.__len__" ⟨[.ref a], []⟩) Q E s := by
  have e : checkBoundCall "list.__len__" ⟨[.ref a], []⟩ = pure () := by kernel_rfl
  exact wpAny_of_eq e hq
theorem chk_init {a : Addr} (A : Around) (E : Value → Shared → Prop) (Q : Unit → Shared → Prop) (hq : Q () s) : wpAny M A (checkBoundCall "list.__init__" ⟨[.ref a], []⟩) Q E s := by
  have e : checkBoundCall "list.__init__" ⟨[.ref a], []⟩ = pure () := by kernel_rfl
  exact wpAny_of_eq e hq
theorem chk_pop {a d : Addr} {vs : List Value} (f : Bs s.heap) (hp : PileAt s.heap a d vs) (A : Around) (E : Value → Shared → Prop) (Q : Unit → Shared → Prop) (hq : Q () s) : wpAny M A (checkBoundCall "list.pop" ⟨[.ref a], []⟩) Q E s := by
  obtain ⟨⟨k, hx⟩, _, _, _, _⟩ := hp
  have hcl := cls_at f
  have hsub := sub_cls (M := M) f (b := .type "module") (r := false) (by decide)
  obtain ⟨h, g, dr, t, os⟩ := s
  unfold checkBoundCall
  repeat (first | (with_reducible refine wpAny_loadPart_at hx ?_) | (dsimp only; refine Looks.at hsub ?_) | (with_reducible refine wpAny_loadPart_at hcl ?_) | wp_step)
  exact hq

theorem PileAt.ne_cls {h : Heap} {a d : Addr} {vs : List Value} (hp : PileAt h a d vs) (f : Bs h) : a ≠ 101 := by
  rintro rfl
  obtain ⟨k, hx⟩ := hp.obj
  rw [f.cls] at hx
  cases hx

theorem Ex.pile {X s s' a d vs} (h : Ex X s s') (hp : PileAt s.heap a d vs) (ha : a ∉ X) (hd : d ∉ X) : PileAt s'.heap a d vs :=
  let ⟨⟨n, h1⟩, ⟨t, h2⟩, h3, h4, h5⟩ := hp; ⟨⟨n, h.keep _ _ ha h1⟩, ⟨t, h.ns h2 hd⟩, h3, h4, h5⟩

theorem super_call {fd : FuncData} {fa L a d : Addr} {vs : List Value} {m : Str → Option Value} {name : Str} {id dT gId bT : String} {B : Builtin} {p0 p1 apos pos : Pos} {Q : Value → Shared → Prop} {E : Value → Shared → Prop} {body : List Stmt}
    (f : Bs s.heap) (ff : FnAt s.heap fa fd) (hp : PileAt s.heap a d vs) (hn : s.heap.Ns L m) (hm : m "self" = some (.ref a))
    (hown : classOwn (.type "list") name = pure (some (.builtin id))) (hty : typeOf (.builtin id) = pure (.type dT)) (hlk : typeLookup (.type dT) "__get__" = pure (some (.builtin gId)))
    (hget : GetBinds Pg w gId id bT) (hname : (name == ("__class__" : Str)) = false) (hT : bT = "method-wrapper" ∨ bT = "builtin_function_or_method")
    (hchk : ∀ s' : Shared, Ex [] s s' → ∀ (A : Around) (E : Value → Shared → Prop) (Q : Unit → Shared → Prop), Q () s' → wpAny (model Pg w) A (checkBoundCall id ⟨[.ref a], []⟩) Q E s') (hpl : plainId id = true) (hent : entryFor table id = some B)
    (h : ∀ s', Ex [] s s' → wpAny (model Pg w) A.in1 (B ⟨[.ref a], []⟩) (fun fin s'' => ∃ v, fin = .done (.ret v) ∧ Q v s'') E s')
    (hks : (callEnv fd L fa).kindOf "super" = some .globalImplicit := by rfl) (hkc : (callEnv fd L fa).kindOf "__class__" = some .free := by rfl) (hkl : (callEnv fd L fa).kindOf "self" = some .local := by rfl) (hk : (callEnv fd L fa).scope.kind = .function := by rfl)
    (hcl : (callEnv fd L fa).cells.lookup (Str.ofString "__class__") = some 25 := by rfl) (hg : (callEnv fd L fa).globals = 3 := by rfl) (hbu : (callEnv fd L fa).builtins = 0 := by rfl)
    (har : ∃ p, (fd.params.posonlyargs ++ fd.params.args).head? = some ⟨"self", none, p⟩ := by exact ⟨_, rfl⟩)
    (he : ∃ pl, eval (.Call (.Attribute (.Call (.Name "super" p0) [] [] p1) name apos) [] [] pos) (callEnv fd L fa) = (do
      let ov ← attributeBase (.Call (.Name "super" p0) [] [] p1) name (callEnv fd L fa) (eval (.Call (.Name "super" p0) [] [] p1) (callEnv fd L fa))
      standAt apos.atName
      let (f, first) ← holding [ov] (getMethod ov name pl)
      callWith pos f first (backTo pos (starEach [] (callEnv fd L fa))) []) := by exact ⟨_, rfl⟩) :
    PySem.wpAt (model Pg w) A (.func body (callEnv fd L fa)) (eval (.Call (.Attribute (.Call (.Name "super" p0) [] [] p1) name apos) [] [] pos) (callEnv fd L fa)) Q E s := by
  obtain ⟨pl, he⟩ := he
  refine ks_wpAt_MethodCall (pl := pl) ?_ he
  obtain ⟨of, ho, hod, hoc⟩ := ff.at_
  obtain ⟨cc, oc, cvs, t1, t2, ec, _, hcc, hcd, _, hv2⟩ := ff.cd
  obtain ⟨par, har⟩ := har
  refine ks_wpAt_super_base (env := callEnv fd L fa) hks hkc hname rfl ho hod har ec hcc hcd hv2 (by decide +kernel) (by decide +kernel) ?_
  obtain ⟨mb, b1, b2⟩ := f.gl.b
  refine ks_loadName_global hk hks (Calls.loadGlobal_builtin (mg := fun x => glTab.lookup x) (mb := mb) (hg ▸ f.gl.g) (by decide +kernel) (hbu ▸ b1) b2.2.2.2.2.2.2.2.2.2.2.2 ⟨rfl, ?_⟩)
  refine wpAny_loadName_free hk hkc hcl f.cell ?_
  refine wpAny_loadName_local hk hkl hn hm ?_
  obtain ⟨k, hx⟩ := hp.obj
  have hxa := hp.ne_cls f
  obtain ⟨hh, g, dr, t, os⟩ := s
  refine ks_wpAny_isType_cls f.cls rfl ⟨rfl, ?_⟩
  refine ks_wpAny_call_super (C := 101) f.cls rfl hx rfl (fun c e => by cases e) (sub_cls f (by decide)) (fun h' hso hkeep => ?_)
  have hx1 : Ex [] ⟨hh, g, dr, t, os⟩ ⟨h', g, dr, t, os⟩ := ⟨fun b o _ e => hkeep b o e, fun x => x, rfl⟩
  refine super_meth (s := ⟨h', g, dr, t, os⟩) (f.ex0 hx1) (hx1.pile hp (by simp) (by simp)) hso hxa hown hty hlk hget hname fun b s' hx2 hb => ?_
  have hx3 := hx1.trans hx2
  exact bound_call hb hT (hchk s' hx3) hpl hent (h s' hx3)
end Mine
end

section
open PySem PySem.W PyProof.Rows
set_option maxRecDepth 100000
set_option maxHeartbeats 1000000
set_option linter.unusedVariables false
namespace Mine
variable {α β : Type} {w : World} {M : Model} {prog : Program} {A : Around} {env : Env} {s s' : Shared}

theorem w_callAt {a : Addr} {o : Obj} {fd : FuncData} {body : List Stmt} {args : Args} {binds : List (Str × Value)} {Q : Value → Shared → Prop}
    (hroom : A.depth < recursionLimit) (ho : s.heap.get? a = some o) (hdata : o.data = .func fd) (hlim : s.heap.NoLimit) (hcd : s.heap.CodeRec fd.code fd.qualname)
    (hbody : fd.body = .stmts body) (hbind : BindsTo s fd args binds)
    (h : ∀ s1, Ex [] s s1 → s.heap.get? s.heap.objs.size = none → s1.heap.Ns s.heap.objs.size (fun x => binds.reverse.lookup x) →
      PySem.wpAt (model prog w) (A.deeper (callEnv fd s.heap.objs.size a)) (.func body (callEnv fd s.heap.objs.size a)) (execs body (callEnv fd s.heap.objs.size a)) (fun f s' => Q (match f with | .ret v => v | _ => .none) s') (fun _ _ => False) s1)
    (hcell : (fd.scope.names.all fun x => decide (x.2 ≠ .cell)) = true := by rfl) (hloc : (binds.all fun x => decide (fd.scope.names.lookup x.1 = some .local)) = true := by rfl)
    (hco : fd.scope.isCoroutine = false := by rfl) (hgen : fd.scope.isGenerator = false := by rfl) (hk : fd.scope.kind = .function := by rfl) :
    W (model prog w) A (runValue (.call (.ref a) args)) Q s := by
  refine wpAny_runValue (ks_codeAny_call_defAt hroom ho hdata hlim hcd hbody hbind (fun x hx => of_decide_eq_true (List.all_eq_true.mp hcell x hx)) (fun x hx => of_decide_eq_true (List.all_eq_true.mp hloc x hx)) (fun h₀ hns hkeep => ?_) hco hgen hk)
  have hx : Ex [] s { s with heap := h₀, toks := s.toks + binds.length } := ⟨fun b o _ e => hkeep b o e, fun x => x, rfl⟩
  exact ks_wpAt_mono (h _ hx (fresh_size _) hns) (fun f s' h' => h') fun _ _ x => x.elim

theorem bi_len {a d : Addr} {vs : List Value} {Q : Fin → Shared → Prop} {E : Value → Shared → Prop} (hp : PileAt s.heap a d vs) (hq : ∀ t n, Q (.done (.ret (.int vs.length t))) { s with toks := n }) :
    wpAny (model prog w) A (Builtin.«list.__len__» ⟨[.ref a], []⟩) Q E s := by
  obtain ⟨⟨k, hx⟩, _, _, _, _⟩ := hp
  obtain ⟨h, g, dr, t, os⟩ := s
  unfold Builtin.«list.__len__»
  repeat (first | (with_reducible refine wpAny_loadPart_at hx ?_) | wp_step)
  have := hq t (t + 1)
  simpa using this

theorem lk_wd_get : typeLookup (.type "wrapper_descriptor") "__get__" = pure (some (.builtin "wrapper_descriptor.__get__")) := slot_wd_get.lookup
theorem lk_md_get : typeLookup (.type "method_descriptor") "__get__" = pure (some (.builtin "method_descriptor.__get__")) := slot_md_get.lookup
theorem entry_list_len' : entryFor table "list.__len__" = some Builtin.«list.__len__» := entryFor_of_tree (by kernel_rfl)

theorem part_walk {a d : Addr} {vs : List Value} (f : Bs s.heap) (hp : PileAt s.heap a d vs) (hd : A.depth < 900) :
    W (model Pg w) A (runValue (.call (.ref 98) ⟨[.ref a], []⟩)) (fun v s' => Ex [] s s' ∧ It vs.length v) s := by
  obtain ⟨o, h1, h2, _⟩ := f.part.at_
  have h3 := f.part.rec_
  refine w_callAt (binds := [("self", .ref a)]) (by simp only [recursionLimit]; omega) h1 h2 f.lim h3 (body := bodyOf (meth 8)) rfl (.of_eq rfl) (fun s1 hx hsz hn1 => ?_)
  have f1 := f.ex0 hx
  have hp1 := hx.pile hp (by simp) (by simp)
  refine ks_wpAt_execs_cons (ks_wpAt_Return_some (super_call f1 f1.part hp1 hn1 rfl own_list_len ty_list_len lk_wd_get gb_len (by decide) (.inl rfl) (fun s' _ => chk_len) (by decide +kernel) entry_list_len' fun s2 hx2 => ?_))
  exact bi_len (hx2.pile hp1 (by simp) (by simp)) fun t n => ⟨_, rfl, (hx.trans hx2).trans (.toks _), t, rfl⟩
end Mine
end

section
open PySem PySem.W PyProof.Rows
set_option maxRecDepth 100000
set_option maxHeartbeats 1000000
set_option linter.unusedVariables false
namespace Mine
variable {α β : Type} {w : World} {M : Model} {prog : Program} {A : Around} {env : Env} {s s' : Shared}

/-- a method of the text's own on the pile, no arguments -/
theorem w_meth0 {o : Expr} {name : Str} {apos pos : Pos} {a d fa : Addr} {fd : FuncData} {vs : List Value} {y : Option Value} {Q : Value → Shared → Prop} (f : Bs s.heap) (hp : PileAt s.heap a d vs) (ho : Pe (model prog w) A (eval o env) s (· = .ref a))
    (hn : clsTab.lookup name = some (.ref fa)) (hfn : FnAt s.heap fa fd) (hB : typeLookup (.type "list") name = pure y) (hsh : name ≠ "_initial_size")
    (h : ∀ s1, Ex [] s s1 → W (model prog w) A (runValue (.call (.ref fa) ⟨[.ref a], []⟩)) Q s1)
    (he : ∃ pl, eval (.Call (.Attribute o name apos) [] [] pos) env = (do
      let ov ← eval o env
      standAt apos.atName
      let (f, first) ← holding [ov] (getMethod ov name pl)
      callWith pos f first (backTo pos (starEach [] env)) []) := by exact ⟨_, rfl⟩) :
    W (model prog w) A (eval (.Call (.Attribute o name apos) [] [] pos) env) Q s := by
  obtain ⟨pl, he⟩ := he
  unfold W
  rw [he]
  refine wpAny_bind (ho.use .refl fun v s1 hv hx1 _ => wpAny_bind (wpAny_standAt (wpAny_bind (wpAny_holding ?_))))
  subst hv
  obtain ⟨of, ho1, ho2, ho3⟩ := hfn.at_
  refine meth_own (f.ex0 hx1) (hx1.pile hp (by simp) (by simp)) hn (hx1.keep0 _ _ ho1) ho3 hB hsh ?_
  exact Calls.callWith_function (o := of) (fd := fd) (PySem.evalArgs_none ⟨⟨hx1.keep0 _ _ ho1, ho2⟩, h s1 hx1⟩)

theorem w_methN {o e : Expr} {rest : List Expr} {name : Str} {apos pos : Pos} {a d fa : Addr} {fd : FuncData} {vs : List Value} {y : Option Value} {R : List Value → Prop} {Q : Value → Shared → Prop} (f : Bs s.heap) (hp : PileAt s.heap a d vs) (ho : Pe (model prog w) A (eval o env) s (· = .ref a))
    (hn : clsTab.lookup name = some (.ref fa)) (hfn : FnAt s.heap fa fd) (hB : typeLookup (.type "list") name = pure y) (hsh : name ≠ "_initial_size")
    (ha : Pe (model prog w) A (spliced (backTo pos (starEach (e :: rest) env))) s R)
    (h : ∀ us s1, R us → Ex [] s s1 → W (model prog w) A (runValue (.call (.ref fa) ⟨.ref a :: us, []⟩)) Q s1)
    (hs : starEach (e :: rest) env = (false, eval e env) :: starEach rest env := by rfl)
    (he : ∃ pl, eval (.Call (.Attribute o name apos) (e :: rest) [] pos) env = (do
      let ov ← eval o env
      standAt apos.atName
      let (f, first) ← holding [ov] (getMethod ov name pl)
      callWith pos f first (backTo pos (starEach (e :: rest) env)) []) := by exact ⟨_, rfl⟩) :
    W (model prog w) A (eval (.Call (.Attribute o name apos) (e :: rest) [] pos) env) Q s := by
  obtain ⟨pl, he⟩ := he
  unfold W
  rw [he]
  refine wpAny_bind (ho.use .refl fun v s1 hv hx1 _ => wpAny_bind (wpAny_standAt (wpAny_bind (wpAny_holding ?_))))
  subst hv
  obtain ⟨of, ho1, ho2, ho3⟩ := hfn.at_
  refine meth_own (f.ex0 hx1) (hx1.pile hp (by simp) (by simp)) hn (hx1.keep0 _ _ ho1) ho3 hB hsh ?_
  refine Calls.callWith_function (o := of) (fd := fd) ?_
  have ha' := ha
  rw [hs] at ha' ⊢
  exact Calls.evalArgs_plain (ha'.use hx1 fun us s2 hu hx2 _ => ⟨⟨hx2.keep0 _ _ ho1, ho2⟩, h us s2 hu hx2⟩)

theorem lk_list_part : typeLookup (.type "list") "part_count" = pure none := by rw [typeLookup_type, builtinLookup_eq_fast]; kernel_rfl
theorem lk_list_push : typeLookup (.type "list") "push" = pure none := by rw [typeLookup_type, builtinLookup_eq_fast]; kernel_rfl
theorem lk_list_pop_from : typeLookup (.type "list") "pop_from" = pure none := by rw [typeLookup_type, builtinLookup_eq_fast]; kernel_rfl
theorem lk_list_pop : typeLookup (.type "list") "pop" = pure (some (.builtin "list.pop")) := by rw [typeLookup_type, builtinLookup_eq_fast]; kernel_rfl

theorem pe_part {o : Expr} {apos pos : Pos} {a d : Addr} {vs : List Value} (f : Bs s.heap) (hp : PileAt s.heap a d vs) (ho : Pe (model Pg w) A (eval o env) s (· = .ref a)) (hd : A.depth < 900)
    (he : ∃ pl, eval (.Call (.Attribute o "part_count" apos) [] [] pos) env = (do
      let ov ← eval o env
      standAt apos.atName
      let (f, first) ← holding [ov] (getMethod ov "part_count" pl)
      callWith pos f first (backTo pos (starEach [] env)) []) := by exact ⟨_, rfl⟩) :
    Pe (model Pg w) A (eval (.Call (.Attribute o "part_count" apos) [] [] pos) env) s (It vs.length) := by
  intro s' hx E
  have f1 := f.ex0 hx
  have hp1 := hx.pile hp (by simp) (by simp)
  refine (w_meth0 f1 hp1 (ho.later hx) (by decide +kernel) f1.part lk_list_part (by decide) (fun s1 hx1 => (part_walk (f1.ex0 hx1) (hx1.pile hp1 (by simp) (by simp)) hd).mono fun v s2 h => ⟨hx1.trans h.1, h.2⟩) he).up

theorem pile_upd {a d : Addr} {vs vs' : List Value} {g : Array Value → Array Value} (hp : PileAt s.heap a d vs) (hg : g vs.toArray = vs'.toArray) :
    PileAt (s.heap.update a (Obj.mapSeq g)) a d vs' ∧ Ex [a] s { s with heap := s.heap.update a (Obj.mapSeq g) } := by
  obtain ⟨⟨n, hx⟩, ⟨t, hns⟩, hne, hwa, hwd⟩ := hp
  have hsb := Heap.SameBut.update s.heap a (Obj.mapSeq g)
  have hg' : (s.heap.update a (Obj.mapSeq g)).get? a = some { cls := .ref 101, dict := some d, data := .seq vs'.toArray (if vs'.toArray.size == vs.toArray.size then n else n + 1), slots := #[] } := by
    rw [Heap.get?_update_self _ hx rfl, ← hg]
    rfl
  exact ⟨⟨⟨_, hg'⟩, ⟨t, hns.sameBut hsb hne.symm⟩, hne, hwa, hwd⟩, fun b o hb e => (hsb.2 b (by simpa using hb)).trans e, fun x => x, rfl⟩

theorem bi_pop {a d : Addr} {vs : List Value} {v : Value} {Q : Fin → Shared → Prop} {E : Value → Shared → Prop} (hp : PileAt s.heap a d (vs ++ [v])) (hz : vs.length < 100000) (hq : ∀ s', Ex [a] s s' → PileAt s'.heap a d vs → Q (.done (.ret v)) s') :
    wpAny (model prog w) A (Builtin.«list.pop» ⟨[.ref a], []⟩) Q E s := by
  obtain ⟨hpo, hex⟩ := pile_upd (g := fun xs => xs.eraseIdxIfInBounds ((vs ++ [v]).toArray.size - 1)) (vs' := vs) hp (by
    simp only [List.size_toArray, List.length_append, List.length_singleton, Nat.add_sub_cancel]
    unfold Array.eraseIdxIfInBounds
    rw [dif_pos (by simp)]
    simp [List.eraseIdx_append_of_length_le])
  obtain ⟨⟨k, hx⟩, _, _, _, _⟩ := hp
  have hne : ¬ (vs ++ [v]).toArray.isEmpty = true := by simp
  have hk : seqIndex? (-1) (vs ++ [v]).toArray.size = some ((vs ++ [v]).toArray.size - 1) := by
    rw [seqIndex_neg (by decide) (by simp; omega)]; congr 1; simp; omega
  have hy : (vs ++ [v]).toArray[(vs ++ [v]).toArray.size - 1]? = some v := by simp
  have hz1 : (vs ++ [v]).toArray.size ≤ sizeLine := by simp only [List.size_toArray, List.length_append, List.length_singleton, sizeLine]; omega
  have hz2 : ((vs ++ [v]).toArray.eraseIdxIfInBounds ((vs ++ [v]).toArray.size - 1)).size ≤ sizeLine + 1 := Nat.le_trans (MeetsSeq.size_erased _ _) (Nat.le_succ_of_le hz1)
  have hq' := hq _ hex hpo
  generalize (vs ++ [v]).toArray = xs at *
  obtain ⟨h, g, dr, t, os⟩ := s
  unfold Builtin.«list.pop»
  repeat (first | (with_reducible refine wpAny_loadPart_at hx ?_) | wp_step)
  simp only [hk, hy, Option.bind_some, Option.map_some]
  repeat (first | (with_reducible refine wpAny_updateSeq hx rfl ?_ hz1 hz2) | wp_step)
  exact hq'
end Mine
end

section
open PySem PySem.W PyProof.Rows
set_option maxRecDepth 100000
set_option maxHeartbeats 1000000
set_option linter.unusedVariables false
namespace Mine
variable {α β : Type} {w : World} {M : Model} {prog : Program} {A : Around} {env : Env} {s s' : Shared}

theorem chk_pile {id n : String} {a d : Addr} {vs rest : List Value} {Q : Unit → Shared → Prop} {E : Value → Shared → Prop} (f : Bs s.heap) (hp : PileAt s.heap a d vs)
    (hk : builtinKind id = some .slot ∨ builtinKind id = some .method) (hsp : splitId id = some ("list", n)) (ha : argsOk id ⟨.ref a :: rest, []⟩) (hq : Q () s) :
    wpAny M A (checkBuiltinCall id ⟨.ref a :: rest, []⟩) Q E s := by
  obtain ⟨⟨k, hx⟩, _, _, _, _⟩ := hp
  have hsub := sub_cls (M := M) f (b := .type "list") (r := true) (by decide)
  obtain ⟨h, g, dr, t, os⟩ := s
  rcases hk with hk | hk <;>
  · simp only [checkBuiltinCall, hk, hsp]
    unfold isInstance
    refine wpAny_bind (wpAny_bind (m := typeOf (.ref a)) ?_)
    refine wpAny_bind (wpAny_loadPart_at hx (wpAny_pure ?_))
    refine Looks.at hsub ?_
    simp only [Bool.not_true, Bool.false_eq_true, if_false]
    cases hsig : Manifest.signature? id with
    | none => exact wpAny_pure hq
    | some sig =>
      simp only [argsOk, hsig] at ha
      have h2 : Bind.checkArgs id sig ⟨.ref a :: rest, []⟩ = pure () := ha
      show wpAny M A (Bind.checkArgs id sig ⟨.ref a :: rest, []⟩) Q E _
      rw [h2]; exact wpAny_pure hq

theorem pile_call {id n : String} {B : Builtin} {a d : Addr} {vs rest : List Value} {Q : Value → Shared → Prop} {E : Value → Shared → Prop} (f : Bs s.heap) (hp : PileAt s.heap a d vs)
    (hk : builtinKind id = some .slot ∨ builtinKind id = some .method) (hsp : splitId id = some ("list", n)) (hpl : plainId id = true) (hent : entryFor table id = some B) (ha : argsOk id ⟨.ref a :: rest, []⟩)
    (h : wpAny (model prog w) A.in1 (B ⟨.ref a :: rest, []⟩) (fun fin s' => ∃ v, fin = .done (.ret v) ∧ Q v s') E s) : wpAny (model prog w) A (call (.builtin id) (.ref a :: rest)) Q E s := by
  refine wpAny_call (codeAny_call_builtin hpl hent (chk_pile f hp hk hsp ha ?_))
  refine wpAny_mono h (fun fin s' hv => ?_) fun _ _ x => x
  obtain ⟨v, rfl, hv⟩ := hv
  exact hv

theorem pile_special {name : Str} {id : String} {a d : Addr} {vs args : List Value} {Q : Option Value → Shared → Prop} {E : Value → Shared → Prop} (f : Bs s.heap) (hp : PileAt s.heap a d vs) (hcl : clsTab.lookup name = none)
    (hlk : typeLookup (.type "list") name = pure (some (.builtin id))) (hb : bindSpecial (.builtin id) (.ref a) = pure (.builtin id, [.ref a]))
    (h : wpAny (model prog w) A (call (.builtin id) (.ref a :: args)) (fun v s' => Q (some v) s') E s) : wpAny (model prog w) A (callSpecial? (.ref a) name args) Q E s := by
  obtain ⟨⟨k, hx⟩, _, _, _, _⟩ := hp
  unfold callSpecial? specialOf
  refine wpAny_bind (wpAny_bind (m := typeOf (.ref a)) (wpAny_bind (wpAny_loadPart hx (wpAny_pure (tl f hlk ?_)))))
  rw [hcl]
  refine wpAny_holding (wpAny_bind (wpAny_of_eq hb ?_))
  exact wpAny_bind (wpAny_mono h (fun v s' hv => wpAny_pure hv) fun _ _ x => x)

theorem seqKey {name : Str} {a d : Addr} {vs : List Value} {k : Value} {Q : Value → Shared → Prop} {E : Value → Shared → Prop} (f : Bs s.heap) (hp : PileAt s.heap a d vs) (hq : Q k s) : wpAny M A (sequenceKey (.ref a) k name) Q E s := by
  obtain ⟨⟨n, hx⟩, _, _, _, _⟩ := hp
  have hcl := cls_at f
  obtain ⟨h, g, dr, t, os⟩ := s
  unfold sequenceKey
  refine wpAny_bind (m := typeOf (.ref a)) (wpAny_bind (wpAny_loadPart_at hx (wpAny_pure ?_)))
  dsimp only
  have hno : ∀ l : List String, (∀ n ∈ l, ([.ref 101, .type "list", .type "object"] : List Value).contains (.type n) = false) → ∀ (Q : Bool → Shared → Prop), Q false ⟨h, g, dr, t, os⟩ → wpAny M A (l.anyM fun n => isSubtype (.ref 101) (.type n)) Q E ⟨h, g, dr, t, os⟩ := by
    intro l
    induction l with
    | nil => intro _ Q hQ; exact wpAny_pure hQ
    | cons x l ih =>
      intro hl Q hQ
      rw [List.anyM]
      refine wpAny_bind (wpAny_isSubtype_exc hcl ?_)
      rw [show (Value.ref 101 :: [Value.type "list", Value.type "object"]).contains (.type x) = false from hl x (List.mem_cons_self ..)]
      exact ih (fun n hn => hl n (List.mem_cons_of_mem _ hn)) Q hQ
  refine wpAny_bind (hno _ (by decide) _ ?_)
  exact wpAny_pure hq
end Mine
end

section
open PySem PySem.W PyProof.Rows
set_option maxRecDepth 100000
set_option maxHeartbeats 1000000
set_option linter.unusedVariables false
namespace Mine
variable {α β : Type} {w : World} {M : Model} {prog : Program} {A : Around} {env : Env} {s s' : Shared}

theorem bi_append {a d : Addr} {vs : List Value} {v : Value} {Q : Fin → Shared → Prop} {E : Value → Shared → Prop} (hp : PileAt s.heap a d vs) (hz : vs.length < 100000) (hq : ∀ s', Ex [a] s s' → PileAt s'.heap a d (vs ++ [v]) → Q (.done (.ret .none)) s') :
    wpAny (model prog w) A (Builtin.«list.append» ⟨[.ref a, v], []⟩) Q E s := by
  obtain ⟨hpo, hex⟩ := pile_upd (g := fun xs => xs.push v) (vs' := vs ++ [v]) hp (by simp)
  obtain ⟨⟨k, hx⟩, _, _, _, _⟩ := hp
  have hz1 : vs.toArray.size ≤ sizeLine := by simp only [List.size_toArray, sizeLine]; omega
  have hz2 : (vs.toArray.push v).size ≤ sizeLine + 1 := by rw [Array.size_push]; omega
  have hq' := hq _ hex hpo
  generalize vs.toArray = xs at *
  obtain ⟨h, g, dr, t, os⟩ := s
  unfold Builtin.«list.append»
  repeat (first | (with_reducible refine wpAny_updateSeq hx rfl ?_ hz1 hz2) | wp_step)
  exact hq'

theorem sub_none {sl : Addr} {vl vu vst : Value} {Q : Option Int → Shared → Prop} {E : Value → Shared → Prop} (hs : s.heap.IsSliceOf sl vl vu vst) (hq : Q none s) : wpAny M A (Builtin.List.listSubscript? (.ref sl)) Q E s := by
  obtain ⟨os, hos, hcs, hds⟩ := id hs
  have hTs : s.TypeIs (.ref sl) "slice" := ⟨os, hos, hcs⟩
  unfold Builtin.List.listSubscript?
  refine wpAny_bind (wpAny_specialOf hTs slice_no_index ?_)
  simp only [Option.isNone_none, if_true]
  exact wpAny_pure hq
theorem slice_parts {sl : Addr} {i : Int} {t : Tok} {Q : Value × Value × Value → Shared → Prop} {E : Value → Shared → Prop} (hs : s.heap.IsSliceOf sl (.int i t) .none .none) (hq : Q (rawPart (some i), rawPart none, rawPart none) s) : wpAny M A (Builtin.List.listSliceParts (.ref sl)) Q E s := by
  obtain ⟨os, hos, hcs, hds⟩ := id hs
  rw [listSliceParts_eq]
  refine wpAny_bind (wpAny_field hos hds (x := .none) rfl (wpAny_bind (wpAny_listPart .none ?_)))
  rw [if_neg (by exact Bool.false_ne_true)]
  refine wpAny_bind (wpAny_field hos hds (x := .int i t) rfl (wpAny_bind (wpAny_listPart (.int i t) ?_)))
  exact wpAny_bind (wpAny_field hos hds (x := .none) rfl (wpAny_bind (wpAny_listPart .none (wpAny_pure hq))))

theorem bi_getslice {a d sl : Addr} {vs : List Value} {i : Nat} {t : Tok} {Q : Fin → Shared → Prop} {E : Value → Shared → Prop} (hp : PileAt s.heap a d vs) (hs : s.heap.IsSliceOf sl (.int (i : Int) t) .none .none) (hz : vs.length < 100000)
    (hq : ∀ s', Ex [] s s' → s'.heap.PlainList s.heap.objs.size (vs.drop i).toArray → Q (.done (.ret (.ref s.heap.objs.size))) s') :
    wpAny (model prog w) A (Builtin.«list.__getitem__» ⟨[.ref a, .ref sl], []⟩) Q E s := by
  obtain ⟨⟨k, hx⟩, _, _, _, _⟩ := hp
  have hTs : s.TypeIs (.ref sl) "slice" := let ⟨os, hos, hcs, _⟩ := hs; ⟨os, hos, hcs⟩
  show wpAny _ _ (Builtin.List.listSubscript? (.ref sl) >>= _) _ _ s
  refine wpAny_bind (sub_none hs ?_)
  show wpAny _ _ (typeOf (.ref sl) >>= _) _ _ s
  refine wpAny_bind (wpAny_typeOf hTs ?_)
  rw [if_neg (by decide)]
  refine wpAny_bind (slice_parts hs ?_)
  refine wpAny_bind (m := Builtin.List.listItems (.ref a)) ?_
  unfold Builtin.List.listItems
  refine wpAny_bind (wpAny_seqItems hx rfl (wpAny_pure ?_))
  refine wpAny_bind (wpAny_of_eq (sliceIndices_raw (some (i : Int)) none none vs.toArray.size (by simp)) ?_)
  have hpick : slicePick vs.toArray (some (i : Int)) none none = (vs.drop i).toArray := by
    have := slice_pick vs (some i) none
    simpa [up, cut] using this
  refine wpAny_bind (wpAny_newObj_type (wpAny_pure ?_) (show (slicePick vs.toArray (some (i : Int)) none none).size ≤ sizeLine from Nat.le_trans (slicePick_size_le _ _ _ _) (by simp only [List.size_toArray, sizeLine]; omega)))
  refine hq _ (Ex.push' _) ⟨0, ?_⟩
  rw [Heap.get?_push_size _ rfl]
  show some (Obj.mk _ _ (.seq (slicePick vs.toArray (some (i : Int)) none none) _) _) = _
  rw [hpick]

theorem bi_setslice {a d sl el : Addr} {vs : List Value} {i : Nat} {t : Tok} {Q : Fin → Shared → Prop} {E : Value → Shared → Prop} (hp : PileAt s.heap a d vs) (hs : s.heap.IsSliceOf sl (.int (i : Int) t) .none .none) (hel : s.heap.PlainList el #[]) (hi : i ≤ vs.length) (hz : vs.length < 100000)
    (hq : ∀ s', Ex [a] s s' → PileAt s'.heap a d (vs.take i) → Q (.done (.ret .none)) s') :
    wpAny (model prog w) A (Builtin.«list.__setitem__» ⟨[.ref a, .ref sl, .ref el], []⟩) Q E s := by
  have hb := sliceBounds_plain (some (i : Int)) none vs.toArray.size
  simp only [Option.elim, clipAt_nat, List.size_toArray, Nat.min_eq_left hi] at hb
  obtain ⟨hpo, hex⟩ := pile_upd (g := fun xs => xs.extract 0 ((i : Int)).toNat ++ #[] ++ xs.extract (max (i : Int) (vs.length : Int)).toNat xs.size) (vs' := vs.take i) hp (by
    simp only [Int.toNat_natCast, Array.append_empty, List.size_toArray]
    rw [Int.max_eq_right (Int.ofNat_le.mpr hi), Int.toNat_natCast]
    simp)
  obtain ⟨⟨k, hx⟩, _, _, _, _⟩ := id hp
  obtain ⟨k2, hel⟩ := hel
  have hne : (a == el) = false := by
    cases hc : a == el with
    | false => rfl
    | true =>
      have : a = el := by simpa using hc
      subst this
      rw [hx] at hel; cases hel
  have hTs : s.TypeIs (.ref sl) "slice" := let ⟨os, hos, hcs, _⟩ := hs; ⟨os, hos, hcs⟩
  show wpAny _ _ (Builtin.List.listSubscript? (.ref sl) >>= _) _ _ s
  refine wpAny_bind (sub_none hs ?_)
  show wpAny _ _ (typeOf (.ref sl) >>= _) _ _ s
  refine wpAny_bind (wpAny_typeOf hTs ?_)
  rw [if_neg (by decide)]
  refine wpAny_bind (slice_parts hs ?_)
  dsimp only
  rw [show Builtin.List.listSameRef (.ref a) (.ref el) = false from hne, if_neg (by decide)]
  unfold Builtin.List.listAllItems Builtin.List.listItems
  refine wpAny_bind (wpAny_bind (wpAny_typeOf (T := "list") ⟨_, hel, rfl⟩ ?_))
  rw [if_pos (by decide)]
  refine wpAny_bind (wpAny_seqItems hel rfl (wpAny_pure ?_))
  refine wpAny_bind (wpAny_bind (wpAny_seqItems hx rfl (wpAny_pure ?_)))
  refine wpAny_bind (wpAny_of_eq (sliceIndices_raw (some (i : Int)) none none vs.toArray.size (by simp)) ?_)
  rw [show sliceBounds (some (i : Int)) none none vs.toArray.size = ((i : Int), (vs.length : Int), 1) from by simpa using hb]
  dsimp only
  rw [if_pos (by decide)]
  refine wpAny_bind (wpAny_rule ?_)
  have hz1 : vs.toArray.size ≤ sizeLine := by simp only [List.size_toArray, sizeLine]; omega
  rw [if_neg (show ¬ (Builtin.List.listTooLong (vs.toArray.size + (#[] : Array Value).size) = true) by unfold Builtin.List.listTooLong; rw [decide_eq_true_eq]; simpa using hz1)]
  have hz2 : ((fun xs : Array Value => xs.extract 0 ((i : Int)).toNat ++ #[] ++ xs.extract (max (i : Int) (vs.length : Int)).toNat xs.size) vs.toArray).size ≤ sizeLine + 1 := by
    simp only [Array.size_append, Array.size_extract, List.size_toArray, List.length_nil] at hz1 ⊢
    omega
  refine wpAny_bind (wpAny_updateSeq (f := fun xs => xs.extract 0 ((i : Int)).toNat ++ #[] ++ xs.extract (max (i : Int) (vs.length : Int)).toNat xs.size) hx rfl ?_ hz1 hz2)
  exact wpAny_bind (wpAny_letGo (wpAny_pure (hq _ hex hpo)))
end Mine
end

section
open PySem PySem.W PyProof.Rows
set_option maxRecDepth 100000
set_option maxHeartbeats 1000000
set_option linter.unusedVariables false
namespace Mine
variable {α β : Type} {w : World} {M : Model} {prog : Program} {A : Around} {env : Env} {s s' : Shared}

def TupAt (h : Heap) (a : Addr) (vs : List Value) : Prop := h.get? a = some { cls := .type "tuple", data := .seq vs.toArray }
def FreshT (P : List Value → Prop) (s' : Shared) (v : Value) (s'' : Shared) : Prop := ∃ a vs, v = .ref a ∧ s'.heap.get? a = none ∧ TupAt s''.heap a vs ∧ P vs
theorem Ex.tup {X s s' a vs} (h : Ex X s s') (hl : TupAt s.heap a vs) (ha : a ∉ X) : TupAt s'.heap a vs := h.keep _ _ ha hl

theorem pr_tuple {elts : List Expr} {k : Nat} {pos : Pos} {R : List Value → Prop} (h : Pe M A (spliced (backTo pos (starEach elts env))) s R) (hsz : ∀ vs, R vs → vs.length ≤ sizeLine) :
    Pr M A (eval (.Tuple elts k pos) env) s (FreshT R) := by
  intro s' hx E
  refine Tuple_ (h.use hx fun vs s1 hv hx1 a1 => ?_)
  refine wpAny_newObj_type ⟨a1.trans (.push' _), s1.heap.objs.size, vs, rfl, a1.old0 (fresh_size _), Heap.get?_push_size _ rfl, hv⟩ (by show vs.toArray.size ≤ sizeLine; simpa using hsz vs hv)

theorem w_expr {e : Expr} {pos : Pos} {rest : List Stmt} {Q : Flow → Shared → Prop} (h : W M A (eval e env) (fun v s1 => v = .none ∧ W M A (execs rest env) Q s1) s)
    (hi : interactive env = false := by rfl) (hs : swapsWith e none pos.line env = pure false := by rfl) : W M A (execs (.Expr e pos :: rest) env) Q s :=
  w_cons (wpAny_Expr (h.upm fun v s1 ⟨hv, h1⟩ => by subst hv; exact h1) hi hs)

theorem ty_list_append : typeOf (.builtin "list.append") = pure (.type "method_descriptor") := by kernel_rfl
theorem lk_list_append : typeLookup (.type "list") "append" = pure (some (.builtin "list.append")) := by rw [typeLookup_type, builtinLookup_eq_fast]; kernel_rfl
theorem meth_append {a d : Addr} {vs : List Value} {pl : Sem Bool} {Q : Value × List Value → Shared → Prop} {E : Value → Shared → Prop} (f : Bs s.heap) (hp : PileAt s.heap a d vs) (hq : Q (.builtin "list.append", [.ref a]) s) :
    wpAny (model prog w) A (getMethod (.ref a) "append" pl) Q E s := by
  obtain ⟨⟨n, hx⟩, ⟨t0, hns⟩, hne, _, _⟩ := hp
  have h1 := cls_at f
  have h2 := f.clsNs
  have hcan := canon_list_ga
  have hty := ty_list_append
  obtain ⟨h, g, dr, t, os⟩ := s
  have e1 : clsTab.lookup (Str.ofString "__getattribute__") = none := by decide +kernel
  have e2 : clsTab.lookup (Str.ofString "__getattr__") = none := by decide +kernel
  have e3 : clsTab.lookup (Str.ofString "append") = none := by decide +kernel
  have e4 : (Str.ofString "append") ≠ Str.ofString "_initial_size" := by decide
  unfold getMethod specialOf
  repeat (first | (with_reducible refine wpAny_loadPart_at hx ?_) | (with_reducible refine wpAny_typeLookup_exc h1 h2 mro_list lk_list_ga ?_; rw [e1]) | (with_reducible refine wpAny_typeLookup_exc h1 h2 mro_list lk_list_getattr ?_; rw [e2]) | (with_reducible refine wpAny_typeLookup_exc h1 h2 mro_list lk_list_append ?_; rw [e3]) | (with_reducible refine wpAny_of_eq hty ?_) | (with_reducible refine wpAny_nsGet hns ?_; rw [if_neg e4]) | wp_step)
  exact hq

theorem entry_list_append' : entryFor table "list.append" = some Builtin.«list.append» := entryFor_of_tree (by kernel_rfl)
theorem args_append (a b : Value) : argsOk "list.append" ⟨[a, b], []⟩ := by unfold argsOk; kernel_rfl

theorem push_walk {a d : Addr} {vs : List Value} {u v : Value} (f : Bs s.heap) (hp : PileAt s.heap a d vs) (hz : vs.length < 100000) (hd : A.depth < 900) :
    W (model Pg w) A (runValue (.call (.ref 45) ⟨[.ref a, u, v], []⟩)) (fun r s' => r = .none ∧ Ex [a] s s' ∧ ∃ tp, s.heap.get? tp = none ∧ TupAt s'.heap tp [u, v] ∧ PileAt s'.heap a d (vs ++ [.ref tp])) s := by
  obtain ⟨o, h1, h2, _⟩ := f.push.at_
  have h3 := f.push.rec_
  refine w_call (binds := [("self", .ref a), ("fws", u), ("string", v)]) (by simp only [recursionLimit]; omega) h1 h2 f.lim h3 (body := bodyOf (meth 1)) rfl (.of_eq rfl) (fun s1 hx hsz hn1 => ?_)
  have f1 := f.ex0 hx
  have hp1 := hx.pile hp (by simp) (by simp)
  refine w_expr ?_
  show wpAny _ _ (do
      let ov ← eval (.Name "self" _) (callEnv fdPush s.heap.objs.size 45)
      standAt _
      let (f, first) ← holding [ov] (getMethod ov "append" _)
      callWith _ f first (backTo _ (starEach [_] (callEnv fdPush s.heap.objs.size 45))) []) _ _ _
  refine wpAny_bind ((pe_local hn1 rfl).use .refl fun v1 s2 hv hx2 _ => wpAny_bind (wpAny_standAt (wpAny_bind (wpAny_holding ?_))))
  subst hv
  refine meth_append (f1.ex0 hx2) (hx2.pile hp1 (by simp) (by simp)) ?_
  refine Calls.callWith_builtin rfl (Calls.evalArgs_plain (Calls.spliced_cons ((pr_tuple (k := 0) (peL_cons (pe_local hn1 rfl) (peL_cons (pe_local hn1 rfl) peL_nil)) ?_).use hx2 fun v2 s3 hv2 hx3 a3 => Calls.spliced_nil ?_)))
  · rintro us ⟨_, _, rfl, _, _, _, rfl, _, rfl⟩; exact (show 2 ≤ sizeLine by decide)
  obtain ⟨tp, _, rfl, hfr, ht, ⟨_, _, rfl, rfl, _, _, rfl, rfl, rfl⟩⟩ := hv2
  have hx13 := hx.trans hx3
  have hp3 := hx13.pile hp (by simp) (by simp)
  refine pile_call (f.ex0 hx13) hp3 (.inr (by decide +kernel)) (n := "append") (by decide +kernel) (by decide +kernel) entry_list_append' (args_append _ _) ?_
  refine bi_append hp3 hz fun s4 hx4 hp4 => ⟨_, rfl, rfl, w_nil ⟨rfl, hx13.lift.trans hx4, tp, (hx.trans hx2).old0 hfr, ?_, hp4⟩⟩
  refine hx4.tup ht (nmem1 ?_)
  rintro rfl
  obtain ⟨n, ho⟩ := hp3.obj
  rw [show s3.heap.get? tp = _ from ht] at ho; cases ho
end Mine
end

section
open PySem PySem.W PyProof.Rows
set_option maxRecDepth 100000
set_option maxHeartbeats 1000000
set_option linter.unusedVariables false
namespace Mine
variable {α β : Type} {w : World} {M : Model} {prog : Program} {A : Around} {env : Env} {s s' : Shared}

theorem lk_list_getitem : typeLookup (.type "list") "__getitem__" = pure (some (.builtin "list.__getitem__")) := slot_list_getitem.lookup
theorem lk_list_setitem : typeLookup (.type "list") "__setitem__" = pure (some (.builtin "list.__setitem__")) := slot_list_setitem.lookup

theorem pile_getslice {a d sl : Addr} {vs : List Value} {i : Nat} {t : Tok} {Q : Value → Shared → Prop} {E : Value → Shared → Prop} (f : Bs s.heap) (hp : PileAt s.heap a d vs) (hs : s.heap.IsSliceOf sl (.int (i : Int) t) .none .none) (hz : vs.length < 100000)
    (hq : ∀ s', Ex [] s s' → s'.heap.PlainList s.heap.objs.size (vs.drop i).toArray → Q (.ref s.heap.objs.size) s') : wpAny (model prog w) A (getItem (.ref a) (.ref sl)) Q E s := by
  unfold getItem
  refine wpAny_holding (wpAny_bind (seqKey f hp ?_))
  refine wpAny_bind (pile_special f hp (by decide +kernel) lk_list_getitem (slot_list_getitem.bind _) ?_)
  refine pile_call f hp (.inr (by decide +kernel)) (n := "__getitem__") (by decide +kernel) (by decide +kernel) entry_list_getitem (args_list_getitem _ _) ?_
  exact bi_getslice hp hs hz fun s' hx hl => ⟨_, rfl, wpAny_pure (hq s' hx hl)⟩

theorem pile_setslice {a d sl el : Addr} {vs : List Value} {i : Nat} {t : Tok} {Q : Unit → Shared → Prop} {E : Value → Shared → Prop} (f : Bs s.heap) (hp : PileAt s.heap a d vs) (hs : s.heap.IsSliceOf sl (.int (i : Int) t) .none .none) (hel : s.heap.PlainList el #[]) (hi : i ≤ vs.length) (hz : vs.length < 100000)
    (hq : ∀ s', Ex [a] s s' → PileAt s'.heap a d (vs.take i) → Q () s') : wpAny (model prog w) A (setItem (.ref a) (.ref sl) (.ref el)) Q E s := by
  unfold setItem
  refine wpAny_holding (wpAny_bind (seqKey f hp ?_))
  refine wpAny_bind (pile_special f hp (by decide +kernel) lk_list_setitem (slot_list_setitem.bind _) ?_)
  refine pile_call f hp (.inl (by decide +kernel)) (n := "__setitem__") (by decide +kernel) (by decide +kernel) entry_list_setitem (args_list_setitem _ _ _) ?_
  exact bi_setslice hp hs hel hi hz fun s' hx hl => ⟨_, rfl, wpAny_pure (hq s' hx hl)⟩

theorem tail_pile {a d : Addr} {vs : List Value} {x : Str} {px p : Pos} {lower upper : Option Expr} {i : Value} {Q : Value → Shared → Prop} {E : Value → Shared → Prop} (f : Bs s.heap) (hp : PileAt s.heap a d vs) (h : wpAny (model prog w) A (getItem (.ref a) i) Q E s) :
    wpAny (model prog w) A (subscriptTail (.Name x px) (.Slice lower upper none p) (.ref a) i) Q E s := by
  obtain ⟨⟨n, hx⟩, _, _, _, _⟩ := hp
  unfold subscriptTail getitemInPython specialOf
  refine wpAny_bind (wpAny_bind (wpAny_bind (m := typeOf (.ref a)) (wpAny_bind (wpAny_loadPart hx (wpAny_pure (tl f lk_list_getitem ?_))))))
  rw [show clsTab.lookup (Str.ofString "__getitem__") = none by decide +kernel]
  refine wpAny_pure (wpAny_bind ?_)
  show wpAny _ _ (operate [i, .ref a] (getItem (.ref a) i)) _ _ _
  exact wpAny_operating (wpAny_mono h (fun r s' hr => wpAny_bind (wpAny_pure (wpAny_pure hr))) fun _ _ x => x)

theorem wild1 {a : Addr} (h : Wild a) : ∀ x ∈ [a], Wild x := fun x hx => by rw [List.mem_singleton.mp hx]; exact h

/-- pop_from's body, whatever bound i; s0: the state at the call -/
theorem pop_from_body {a d : Addr} {vs : List Value} {i : Nat} {t : Tok} {L : Addr} {m : Str → Option Value} {s0 : Shared} (f0 : Bs s0.heap) (hx0 : Ex [] s0 s) (hL : s0.heap.get? L = none) (hp0 : PileAt s0.heap a d vs) (hz : vs.length < 100000) (hi : i ≤ vs.length) (hn : s.heap.Ns L m) (m1 : m "self" = some (.ref a)) (m2 : m "i" = some (.int (i : Int) t)) :
    W (model Pg w) A (execs (bodyOf (meth 2)) (callEnv fdPopFrom L 53)) (fun fl s' => ∃ l, fl = .ret (.ref l) ∧ Ex [a] s0 s' ∧ s0.heap.get? l = none ∧ s'.heap.PlainList l (vs.drop i).toArray ∧ PileAt s'.heap a d (vs.take i)) s := by
  have haL : a ≠ L := by rintro rfl; obtain ⟨n, ho⟩ := hp0.obj; rw [hL] at ho; cases ho
  have hdL : d ≠ L := by rintro rfl; obtain ⟨t0, o, _, _, ho, _⟩ := hp0.ns; rw [hL] at ho; cases ho
  have hp := hx0.pile hp0 (by simp) (by simp)
  have f := f0.ex0 hx0
  refine w_assignE ?_
  refine Subscript_ ((pe_local hn m1).use .refl fun v1 s1 hv hx1 _ => wpAny_Slice ?_)
  subst hv
  refine (pe_local hn m2).use hx1 fun v2 s2 hv2 hx2 _ => ?_
  subst hv2
  refine wpAny_pure (wpAny_pure ?_)
  have hx3 : Ex [] s { s2 with heap := s2.heap.push { cls := .type "slice", data := .fields #[.int (i : Int) t, .none, .none] } } := hx2.step0 (.push' _)
  refine tail_pile (s := { s2 with heap := s2.heap.push { cls := .type "slice", data := .fields #[.int (i : Int) t, .none, .none] } }) (f.ex0 hx3) (hx3.pile hp (by simp) (by simp)) ?_
  refine pile_getslice (f.ex0 hx3) (hx3.pile hp (by simp) (by simp)) (.new ..) hz fun s4 hx4 hl4 => ?_
  have x4 : Ex [] s0 s4 := hx0.trans (hx3.trans hx4)
  refine ⟨m, (hx3.trans hx4).ns hn (by simp), fun s5 hx5 hn5 => ?_⟩
  have hlfs : s.heap.get? (s2.heap.push { cls := .type "slice", data := .fields #[.int (i : Int) t, .none, .none] }).objs.size = none := hx3.old0 (fresh_size _)
  have hlfr := hx0.old0 hlfs
  generalize (s2.heap.push { cls := .type "slice", data := .fields #[.int (i : Int) t, .none, .none] }).objs.size = l at *
  have hlL : l ≠ L := by rintro rfl; obtain ⟨o, _, _, ho, _⟩ := hn; rw [hlfs] at ho; cases ho
  have hla : l ≠ a := by rintro rfl; obtain ⟨n, ho⟩ := hp0.obj; rw [hlfr] at ho; cases ho
  have x5 : Ex [] s0 s5 := x4.fr hx5 hL
  have hl5 := hx5.plainList hl4 (nmem1 hlL)
  refine w_cons (wpAny_Assign_Subscript ?_)
  refine (pr_list peL_nil (fun vs h => by rw [h]; exact Nat.zero_le _)).use .refl fun ve s6 hve hx6 _ => ?_
  obtain ⟨el, _, rfl, hel, hpl, rfl⟩ := hve
  refine (pe_local (x := "self") hn5 m1).use hx6 fun v1 s7 hv hx7 a7 => wpAny_Slice ?_
  subst hv
  refine (pe_local (x := "i") hn5 m2).use hx7 fun v2 s8 hv2 hx8 a8 => ?_
  subst hv2
  refine wpAny_pure (wpAny_pure ?_)
  have a9 : Ex [] s6 { s8 with heap := s8.heap.push { cls := .type "slice", data := .fields #[.int (i : Int) t, .none, .none] } } := (a7.trans a8).step0 (.push' _)
  have x9 : Ex [] s0 { s8 with heap := s8.heap.push { cls := .type "slice", data := .fields #[.int (i : Int) t, .none, .none] } } := (x5.trans hx6).trans a9
  refine pile_setslice (s := { s8 with heap := s8.heap.push { cls := .type "slice", data := .fields #[.int (i : Int) t, .none, .none] } }) (f0.ex0 x9) (x9.pile hp0 (by simp) (by simp)) (.new ..) (a9.plainList hpl (by simp)) hi hz fun s10 hx10 hp10 => ?_
  have hn10 : s10.heap.Ns L _ := hx10.ns (((hx6.trans a9)).ns hn5 (by simp)) (nmem1 haL.symm)
  refine w_ret (pe_local hn10 rfl) ?_
  rintro v s11 rfl hx11
  exact ⟨l, rfl, (x9.lift.trans hx10).step0 hx11, hlfr, hx11.plainList (hx10.plainList ((hx6.trans a9).plainList hl5 (by simp)) (nmem1 hla)) (by simp), hx11.pile hp10 (by simp) (by simp)⟩

theorem pop_from_walk {a d : Addr} {vs : List Value} {i : Nat} {t : Tok} (f : Bs s.heap) (hp : PileAt s.heap a d vs) (hz : vs.length < 100000) (hi : i ≤ vs.length) (hd : A.depth < 900) :
    W (model Pg w) A (runValue (.call (.ref 53) ⟨[.ref a, .int (i : Int) t], []⟩)) (fun r s' => ∃ l, r = .ref l ∧ Ex [a] s s' ∧ s.heap.get? l = none ∧ s'.heap.PlainList l (vs.drop i).toArray ∧ PileAt s'.heap a d (vs.take i)) s := by
  obtain ⟨o, h1, h2, _⟩ := f.popFrom.at_
  have h3 := f.popFrom.rec_
  obtain ⟨t46, h46⟩ := f.d46
  refine w_call (binds := [("self", .ref a), ("i", .int (i : Int) t)]) (by simp only [recursionLimit]; omega) h1 h2 f.lim h3 (body := bodyOf (meth 2)) rfl (.of_defaults (T := 46) rfl h46 rfl rfl rfl) (fun s1 hx hsz hn1 => ?_)
  refine (pop_from_body f hx hsz hp hz hi hn1 rfl rfl).mono fun fl s' h => ?_
  obtain ⟨l, rfl, h⟩ := h
  exact ⟨l, rfl, h⟩
theorem pop_from0_walk {a d : Addr} {vs : List Value} (f : Bs s.heap) (hp : PileAt s.heap a d vs) (hz : vs.length < 100000) (hd : A.depth < 900) :
    W (model Pg w) A (runValue (.call (.ref 53) ⟨[.ref a], []⟩)) (fun r s' => ∃ l, r = .ref l ∧ Ex [a] s s' ∧ s.heap.get? l = none ∧ s'.heap.PlainList l vs.toArray ∧ PileAt s'.heap a d []) s := by
  obtain ⟨o, h1, h2, _⟩ := f.popFrom.at_
  have h3 := f.popFrom.rec_
  obtain ⟨t46, h46⟩ := f.d46
  refine w_call (binds := [("self", .ref a), ("i", .int 0 t46)]) (by simp only [recursionLimit]; omega) h1 h2 f.lim h3 (body := bodyOf (meth 2)) rfl (.of_defaults (T := 46) rfl h46 rfl rfl rfl) (fun s1 hx hsz hn1 => ?_)
  refine (pop_from_body (i := 0) f hx hsz hp hz (Nat.zero_le _) hn1 rfl rfl).mono fun fl s' h => ?_
  obtain ⟨l, rfl, h⟩ := h
  exact ⟨l, rfl, h⟩
end Mine
end

section
open PySem PySem.W PyProof.Rows
set_option maxRecDepth 100000
set_option maxHeartbeats 1000000
set_option linter.unusedVariables false
namespace Mine
variable {α β : Type} {w : World} {M : Model} {prog : Program} {A : Around} {env : Env} {s s' : Shared}

theorem w_retR {e : Expr} {pos : Pos} {rest : List Stmt} {R : Shared → Value → Shared → Prop} {Q : Flow → Shared → Prop} (he : Pr M A (eval e env) s R) (k : ∀ v s1, R s v s1 → Ex [] s s1 → Q (.ret v) s1) :
    W M A (execs (.Return (some e) pos :: rest) env) Q s := w_retE (he.run fun v s1 h hx => k v s1 h hx)
theorem entry_list_pop' : entryFor table "list.pop" = some Builtin.«list.pop» := entryFor_of_tree (by kernel_rfl)

theorem pop_walk {a d : Addr} {vs : List Value} (f : Bs s.heap) (hp : PileAt s.heap a d vs) (hz : vs.length < 100000) (hd : A.depth < 800) :
    W (model Pg w) A (runValue (.call (.ref 61) ⟨[.ref a], []⟩)) (fun r s' =>
      (vs = [] ∧ Ex [] s s' ∧ ∃ tp t1 t2, r = .ref tp ∧ s.heap.get? tp = none ∧ TupAt s'.heap tp [.str ⟨[].toArray⟩ t1, .str ⟨[].toArray⟩ t2]) ∨
      (∃ us, vs = us ++ [r] ∧ Ex [a] s s' ∧ PileAt s'.heap a d us)) s := by
  obtain ⟨o, h1, h2, _⟩ := f.pop.at_
  have h3 := f.pop.rec_
  refine w_callAt (binds := [("self", .ref a)]) (by simp only [recursionLimit]; omega) h1 h2 f.lim h3 (body := bodyOf (meth 3)) rfl (.of_eq rfl) (fun s1 hx hsz hn1 => ?_)
  have f1 := f.ex0 hx
  have hp1 := hx.pile hp (by simp) (by simp)
  have hd' : (A.deeper (callEnv fdPop s.heap.objs.size 61)).depth < 900 := by show A.depth + 1 < 900; omega
  have hE : vs = [] ∨ ∃ us v, vs = us ++ [v] := by
    rcases List.eq_nil_or_concat vs with h | ⟨us, v, h⟩
    · exact .inl h
    · exact .inr ⟨us, v, by rw [h, List.concat_eq_append]⟩
  refine ks_wpAt_execs_cons (wpAt_of_wpAny (wpAny_If ((pe_test (c := ((vs.length : Int) == 0)) cmp_int_eq (pe_part f1 hp1 (pe_local hn1 rfl) hd') pe_int).use .refl fun b s2 hb hx2 _ => ?_)))
  subst hb
  have hn2 := hx2.ns hn1 (by simp)
  rcases hE with rfl | ⟨us, v, rfl⟩
  · refine w_retR (R := FreshT (fun l => ∃ u v, l = [u, v] ∧ St [] u ∧ St [] v)) ((pr_tuple (k := 0) (peL_cons (pe_str (l := []) (by decide +kernel)) (peL_cons (pe_str (l := []) (by decide +kernel)) peL_nil)) ?_).mono ?_) ?_
    · rintro us ⟨_, _, rfl, _, _, _, rfl, _, rfl⟩; exact (show 2 ≤ sizeLine by decide)
    · rintro q1 v q2 ⟨tp, l, rfl, e1, e2, ⟨u, _, rfl, hu, v', _, rfl, hv', rfl⟩⟩
      exact ⟨tp, _, rfl, e1, e2, u, v', rfl, hu, hv'⟩
    · rintro v s3 ⟨tp, _, rfl, hfr, ht, u, v', rfl, ⟨t1, rfl⟩, ⟨t2, rfl⟩⟩ hx3
      have hx13 := hx.trans hx2
      exact .inl ⟨rfl, hx13.trans hx3, tp, t1, t2, rfl, hx13.old0 hfr, ht⟩
  · have hb : (((us ++ [v]).length : Int) == 0) = false := by simp; omega
    rw [hb]
    refine wpAny_execs_nil ?_
    have hx12 := hx.trans hx2
    have f2 := f.ex0 hx12
    have hp2 := hx12.pile hp (by simp) (by simp)
    refine ks_wpAt_execs_cons (ks_wpAt_Return_some (super_call f2 f2.pop hp2 hn2 rfl own_list_pop ty_list_pop lk_md_get gb_pop (by decide) (.inr rfl) (fun s' hx' => chk_pop (f2.ex0 hx') (hx'.pile hp2 (by simp) (by simp))) (by decide +kernel) entry_list_pop' fun s3 hx3 => ?_))
    refine bi_pop (hx3.pile hp2 (by simp) (by simp)) (by simp at hz; omega) fun s4 hx4 hp4 => ⟨_, rfl, .inr ⟨us, rfl, (hx12.trans hx3).lift.trans hx4, hp4⟩⟩
end Mine
end

section
open PySem PySem.W PyProof.Rows
set_option maxRecDepth 100000
set_option maxHeartbeats 1000000
set_option linter.unusedVariables false
namespace Mine
variable {α β : Type} {w : World} {M : Model} {prog : Program} {A : Around} {env : Env} {s s' : Shared}

theorem store_list : StoreFacts "list" [.type "list", .type "object"] "object.__setattr__" "object" where
  mro := mro_list
  slot := .of (owner := "object") (n := "__setattr__") (by rw [typeLookup_type, builtinLookup_eq_fast]; kernel_rfl) (by decide +kernel) (by decide +kernel) (by decide +kernel)
    (by first | exact .inl (by decide +kernel) | exact .inr (by decide +kernel)) (by rw [isSubtype_type]; kernel_rfl)
  entry := entryFor_of_tree (by kernel_rfl)
  kind := by decide +kernel
  split := by decide +kernel
  hasOwner := by decide
  args := fun a b c => by unfold argsOk; kernel_rfl
  passes := fun self => by kernel_rfl

theorem chk_new (f : Bs s.heap) {Q : Unit → Shared → Prop} {E : Value → Shared → Prop} (hq : Q () s) : wpAny M A (checkBuiltinCall "list.__new__" ⟨[.ref 101], []⟩) Q E s := by
  have hC := cls_at f
  have hk : builtinKind "list.__new__" = some .builtinFn := by decide +kernel
  have hs : splitId "list.__new__" = some ("list", "__new__") := by decide +kernel
  have hcont : (Value.ref 101 :: [Value.type "list", Value.type "object"]).contains (.type "list") = true := by decide
  obtain ⟨h, g, d, t, os⟩ := s
  simp only [checkBuiltinCall, hk, hs]
  repeat (first | refine wpAny_loadPart_at hC ?_ | (refine wpAny_isSubtype_exc hC ?_; rw [hcont]) | refine wpAny_staticBase_exc hC ?_ | refine wpAny_madeBy_exc hC ?_ | simp only [bne_self_eq_false, Bool.false_eq_true, if_false] | wp_step)
  exact hq

abbrev pileObj (d : Addr) : Obj := { cls := .ref 101, dict := some d, data := .seq #[] }

theorem code_acc_new (f : Bs s.heap) {R : Result → Shared → Prop}
    (h : R (.ok (.ret (.ref (s.heap.objs.size + 1)))) { s with heap := (s.heap.push { cls := .type "dict", data := .dict #[] }).push (pileObj s.heap.objs.size) }) :
    codeAny (model prog w) A (.call (.builtin "list.__new__") ⟨[.ref 101], []⟩) R s := by
  refine codeAny_of_tree ?_
  show wpAny _ A.in1 (do checkBuiltinCall "list.__new__" ⟨[.ref 101], []⟩; again (.builtin "list.__new__" ⟨[.ref 101], []⟩)) _ _ s
  refine wpAny_bind (chk_new f (wpAny_pure ⟨plainId_quiet F.plain_list_new _, codeAny_builtin_stack F.entry_list_new rfl fun p st => ?_⟩))
  rw [Around.under_plainId F.plain_list_new _]
  have hC := cls_at f
  have hC1 : ((s.heap.push { cls := .type "dict", data := .dict #[] }).push (pileObj s.heap.objs.size)).get? 101 = _ := Heap.get?_push_of_some _ (Heap.get?_push_of_some _ hC)
  have hown := owner_list_new
  have hcont : (Value.ref 101 :: [Value.type "list", Value.type "object"]).contains (.type "list") = true := by decide
  have h' : R (.ok (.ret (.ref ((s.heap.push { cls := .type "dict", data := .dict #[] }).objs.size)))) { s with heap := (s.heap.push { cls := .type "dict", data := .dict #[] }).push (pileObj s.heap.objs.size) } := by
    rw [Heap.size_push]; exact h
  obtain ⟨hp, g, d, tk, os⟩ := s
  simp only [hown]
  repeat (first | (with_reducible refine wpAny_loadPart_at hC ?_) | (with_reducible refine wpAny_isSubtype_exc hC ?_; rw [hcont]) | (with_reducible refine wpAny_load hC1 ?_) | wp_step)
  exact h'
end Mine
end

section
open PySem PySem.W PyProof.Rows
set_option maxRecDepth 100000
set_option maxHeartbeats 1000000
set_option linter.unusedVariables false
namespace Mine
variable {α β : Type} {w : World} {M : Model} {prog : Program} {A : Around} {env : Env} {s s' : Shared}

theorem entry_list_init' : entryFor table "list.__init__" = some Builtin.«list.__init__» := entryFor_of_tree (by kernel_rfl)
theorem lk_list_isz : typeLookup (.type "list") "_initial_size" = pure none := by rw [typeLookup_type, builtinLookup_eq_fast]; kernel_rfl

theorem bi_init {a d : Addr} {Q : Fin → Shared → Prop} {E : Value → Shared → Prop} (hp : PileAt s.heap a d []) (hq : ∀ s', Ex [a] s s' → PileAt s'.heap a d [] → Q (.done (.ret .none)) s') :
    wpAny (model prog w) A (Builtin.«list.__init__» ⟨[.ref a], []⟩) Q E s := by
  obtain ⟨hpo, hex⟩ := pile_upd (g := fun _ => #[]) (vs' := []) hp rfl
  obtain ⟨⟨k, hx⟩, _, _, _, _⟩ := hp
  have hz1 : (([] : List Value).toArray).size ≤ sizeLine := by decide
  have hz2 : (#[] : Array Value).size ≤ sizeLine + 1 := by decide
  have hq' := hq _ hex hpo
  obtain ⟨h, g, dr, t, os⟩ := s
  unfold Builtin.«list.__init__»
  repeat (first | (with_reducible refine wpAny_loadPart_at hx ?_) | (with_reducible refine wpAny_updateSeq hx rfl ?_ hz1 hz2) | wp_step)
  exact hq'

theorem init_walk {x d : Addr} (f : Bs s.heap) (hx : s.heap.get? x = some (pileObj d)) (hd : s.heap.get? d = some { cls := .type "dict", data := .dict #[] }) (hxd : x ≠ d) (wx : Wild x) (wd : Wild d) (hde : A.depth < 900) :
    W (model Pg w) A (runValue (.call (.ref 38) ⟨[.ref x], []⟩)) (fun r s' => r = .none ∧ Ex [x, d] s s' ∧ PileAt s'.heap x d []) s := by
  obtain ⟨o, h1, h2, _⟩ := f.init.at_
  have h3 := f.init.rec_
  refine w_callAt (binds := [("self", .ref x), ("initial_size", .int 0 210)]) (by simp only [recursionLimit]; omega) h1 h2 f.lim h3 (body := bodyOf (meth 0)) rfl (.of_defaults (T := 30) rfl f.d30 rfl rfl rfl) (fun s1 hx1 hsz hn1 => ?_)
  have f1 := f.ex0 hx1
  have hxL : x ≠ s.heap.objs.size := fun e => by rw [e, hsz] at hx; cases hx
  have hdL : d ≠ s.heap.objs.size := fun e => by rw [e, hsz] at hd; cases hd
  have hx2 := hx1.keep0 _ _ hx
  have hd2 := hx1.keep0 _ _ hd
  have hI : s1.heap.Inst x 101 (fun _ => none) := ⟨_, hx2, rfl, fun c => by simp, .inr ⟨d, rfl, hxd.symm, Heap.Ns1.of_empty ⟨_, #[], _, hd2, rfl, fun e he => absurd he (by simp), fun _ => rfl⟩⟩⟩
  refine ks_wpAt_execs_cons (ks_wpAt_Assign_Attr (wpAt_of_wpAny ((pe_local hn1 rfl).use .refl fun v s2 hv hx3 _ => (pe_local (x := "self") hn1 rfl).use hx3 fun v' s4 hv' hx4 _ => ?_)))
  subst hv hv'
  have f4 := f1.ex0 hx4
  have hI4 : s4.heap.Inst x 101 (fun _ => none) := ⟨_, hx4.keep0 _ _ hx2, rfl, fun c => by simp, .inr ⟨d, rfl, hxd.symm, Heap.Ns1.of_empty ⟨_, #[], _, hx4.keep0 _ _ hd2, rfl, fun e he => absurd he (by simp), fun _ => rfl⟩⟩⟩
  have hx104 : Ex [] s s4 := hx1.trans hx4
  have hn4 : s4.heap.Ns s.heap.objs.size _ := hx4.ns hn1 (by simp)
  have hx4' := hx4.keep0 _ _ hx2
  obtain ⟨h, g, dr, t, os⟩ := s4
  refine store_attr (ns := []) store_list (cls_at f4) f4.clsNs (by decide +kernel) (by decide +kernel) lk_list_isz (fun e => wx (by rw [e]; decide)) hI4 (fun h' tk' I' hk hsame => ?_) (fun n hn => absurd rfl hn) (Nat.zero_le _)
  have hEx : Ex [x, d] ⟨h, g, dr, t, os⟩ ⟨h', g, dr, tk', os⟩ := by
    refine ⟨fun b o hb e => hk b o (fun e => hb (by rw [e]; simp)) (fun o₀ dx h₀ hdx e => hb ?_) e, fun x => x, rfl⟩
    have : o₀ = pileObj d := Option.some.inj (h₀.symm.trans hx4')
    subst this
    cases hdx
    rw [e]; simp
  obtain ⟨o₁, q1, q2, q3, q4, q5⟩ := hsame _ hx4'
  have hp : PileAt h' x d [] := by
    refine ⟨⟨0, ?_⟩, ⟨210, ?_⟩, hxd, wx, wd⟩
    · rw [q1]
      have := q5 d rfl
      obtain ⟨c1, c2, c3, c4⟩ := o₁
      simp only at q2 q3 q4 this
      subst q2 q3 q4 this
      rfl
    · obtain ⟨o₂, r1, _, _, r4⟩ := I'
      rcases r4 with ⟨r5, _⟩ | ⟨d', r5, _, r6⟩
      · have : o₂ = o₁ := Option.some.inj (r1.symm.trans q1)
        subst this
        rw [q5 d rfl] at r5; cases r5
      · have : o₂ = o₁ := Option.some.inj (r1.symm.trans q1)
        subst this
        rw [q5 d rfl] at r5; cases r5
        exact r6.ns
  have x5 : Ex [x, d] s ⟨h', g, dr, tk', os⟩ := hx104.lift.trans hEx
  have f5 : Bs (⟨h', g, dr, tk', os⟩ : Shared).heap := f.ex x5 (by
    intro y hy
    rcases List.mem_cons.mp hy with rfl | hy
    · exact wx
    · rw [List.mem_singleton.mp hy]; exact wd)
  have hn5 : (⟨h', g, dr, tk', os⟩ : Shared).heap.Ns s.heap.objs.size _ := hEx.ns hn4 (by
    intro hm
    rcases List.mem_cons.mp hm with e | hm
    · exact hxL e.symm
    · exact hdL (List.mem_singleton.mp hm).symm)
  refine ks_wpAt_execs_cons (ks_wpAt_Expr_any (super_call f5 f5.init hp hn5 rfl own_list_init ty_list_init lk_wd_get gb_init (by decide) (.inl rfl) (fun s' _ => chk_init) (by decide +kernel) entry_list_init' fun s6 hx6 => ?_))
  refine bi_init (hx6.pile hp (by simp) (by simp)) fun s7 hx7 hp7 => ⟨_, rfl, ?_⟩
  exact wpAt_of_wpAny (wpAny_execs_nil ⟨rfl, (x5.step0 hx6).trans (hx7.weak (by simp)), hp7⟩)
end Mine
end

section
open PySem PySem.W PyProof.Rows
set_option maxRecDepth 100000
set_option maxHeartbeats 1000000
set_option linter.unusedVariables false
namespace Mine
variable {α β : Type} {w : World} {M : Model} {prog : Program} {A : Around} {env : Env} {s s' : Shared}

theorem bs_init : clsTab.lookup (Str.ofString "__init__") = some (.ref 38) := by decide +kernel
theorem lk_list_init2 : typeLookup (.type "list") "__init__" = pure (some (.builtin "list.__init__")) := by rw [typeLookup_type, builtinLookup_eq_fast]; kernel_rfl

theorem type_call_acc (f : Bs s.heap) {Q : Fin → Shared → Prop} {E : Value → Shared → Prop} (hd : A.depth < 800)
    (hq : ∀ x d s', s.heap.get? x = none → Ex [] s s' → PileAt s'.heap x d [] → s.heap.get? d = none → Q (.done (.ret (.ref x))) s') :
    wpAny (model Pg w) A (Builtin.«type.__call__» ⟨[.ref 101], []⟩) Q E s := by
  have hC := cls_at f
  have x1 : Ex [] s { s with heap := (s.heap.push { cls := .type "dict", data := .dict #[] }).push (pileObj s.heap.objs.size) } := (Ex.push' _).trans (.push' _)
  have hx1 : ((s.heap.push { cls := .type "dict", data := .dict #[] }).push (pileObj s.heap.objs.size)).get? (s.heap.objs.size + 1) = some (pileObj s.heap.objs.size) := by
    rw [show s.heap.objs.size + 1 = (s.heap.push { cls := .type "dict", data := .dict #[] }).objs.size by rw [Heap.size_push]]; exact Heap.get?_push_size _ rfl
  have hd1 : ((s.heap.push { cls := .type "dict", data := .dict #[] }).push (pileObj s.heap.objs.size)).get? s.heap.objs.size = some { cls := .type "dict", data := .dict #[] } := Heap.get?_push_of_some _ (Heap.get?_push_size _ rfl)
  have hfx : s.heap.get? (s.heap.objs.size + 1) = none := by
    cases e : s.heap.get? (s.heap.objs.size + 1) with
    | none => rfl
    | some o => exact absurd (Heap.lt_size e) (Nat.not_lt.mpr (Nat.le_succ _))
  have hfd := fresh_size s.heap
  have f1 := f.ex0 x1
  have hin := init_walk (w := w) (A := A) (s := { s with heap := (s.heap.push { cls := .type "dict", data := .dict #[] }).push (pileObj s.heap.objs.size) }) f1 hx1 hd1 (Nat.succ_ne_self _) (f.wild hfx) (f.wild hfd) (by omega)
  have hnew := fun R => code_acc_new (prog := Pg) (w := w) (A := A) f (R := R)
  have hC1 := cls_at f1
  have hn1 := f1.clsNs
  obtain ⟨of, ho1, ho2, ho3⟩ := f1.init.at_
  have hcC : (Value.ref 101 :: [Value.type "list", Value.type "object"]).contains (.ref 101) = true := by decide
  have hend : ∀ s', Ex [s.heap.objs.size + 1, s.heap.objs.size] { s with heap := (s.heap.push { cls := .type "dict", data := .dict #[] }).push (pileObj s.heap.objs.size) } s' → PileAt s'.heap (s.heap.objs.size + 1) s.heap.objs.size [] → Q (.done (.ret (.ref (s.heap.objs.size + 1)))) s' := by
    intro s' hx' hp'
    refine hq _ _ s' hfx (x1.step hx' ?_) hp' hfd
    intro y hy
    rcases List.mem_cons.mp hy with rfl | hy
    · exact .inr hfx
    · rw [List.mem_singleton.mp hy]; exact .inr hfd
  obtain ⟨h, g, d, t, os⟩ := s
  repeat (first | with_reducible refine wpAny_loadPart_at hC ?_ | with_reducible refine wpAny_madeBy_exc hC ?_ | wp_step)
  refine hnew _ ?_
  show wpAny _ _ _ _ _ _
  unfold isInstance
  repeat (first | with_reducible refine wpAny_loadPart_at hx1 ?_ | (with_reducible refine wpAny_isSubtype_exc hC1 ?_; rw [hcC]) | wp_step)
  show wpAny _ _ (typeLookup (.ref 101) _) _ _ _
  refine wpAny_typeLookup_exc hC1 hn1 mro_list lk_list_init2 ?_
  rw [bs_init]
  refine wpAny_holding (wpAny_bind ?_)
  unfold bindSpecial
  refine wpAny_bind (wpAny_typeOf (T := "function") ⟨_, ho1, ho3⟩ ?_)
  rw [if_pos (by decide)]
  refine wpAny_pure (wpAny_bind (hin.upm fun r s' hr => ?_))
  obtain ⟨rfl, hx', hp'⟩ := hr
  wp_walk
  exact hend s' hx' hp'

theorem acc_walk (f : Bs s.heap) (hd : A.depth < 700) : W (model Pg w) A (call (.ref 101) []) (fun v s' => ∃ x d, v = .ref x ∧ s.heap.get? x = none ∧ s.heap.get? d = none ∧ Ex [] s s' ∧ PileAt s'.heap x d []) s := by
  have f1 := tc_lookup
  have f2 := tc_bind (.ref 101)
  have hC := cls_at f
  have hT : s.TypeIs (.ref 101) "type" := ⟨_, hC, rfl⟩
  have htc := fun Q E => type_call_acc (w := w) (A := A.under (.builtin "type.__call__" ⟨[.ref 101], []⟩)) (Q := Q) (E := E) f (by show A.depth + 1 < 800; omega)
  obtain ⟨h, g, d, t, os⟩ := s
  refine wpAny_call (codeAny_of_tree ?_)
  show wpAny _ _ (callAny (.ref 101) _) _ _ _
  repeat (any_goals (first | assumption | with_reducible refine wpAny_loadPart_at hC ?_ | wp_step))
  refine ⟨rfl, ?_⟩
  refine codeAny_call_builtin_at (Code.quiet_builtin _ (by decide +kernel)) entry_typeCall (wpAny_check_type_call_sub hC (htc _ _ fun x d' s' e1 e2 e3 e4 => ?_))
  exact ⟨x, d', rfl, e1, e4, e2, e3⟩

theorem w_newAcc {f0 : Str} {fp pos : Pos} {Q : Value → Shared → Prop} (f : Bs s.heap) (hf : Pe (model Pg w) A (eval (.Name f0 fp) env) s (· = .ref 101)) (hd : A.depth < 700)
    (h : ∀ x d s', s.heap.get? x = none → s.heap.get? d = none → Ex [] s s' → PileAt s'.heap x d [] → Q (.ref x) s') : W (model Pg w) A (eval (.Call (.Name f0 fp) [] [] pos) env) Q s := by
  refine Call_ (hf.use .refl fun v s1 hv hx1 _ => ?_)
  subst hv
  have g1 := f.ex0 hx1
  unfold callWith
  refine wpAny_bind (wpAny_holding (PySem.evalArgs_none (wpAny_bind (wpAny_standAt ?_))))
  have hk : ∀ (Q : Keeper → Shared → Prop) (E : Value → Shared → Prop), Q .machine s1 → wpAny (model Pg w) A (keeperOf (.ref 101)) Q E s1 := by
    intro Q E hQ
    unfold keeperOf
    refine wpAny_bind (wpAny_load g1.cls ?_)
    show wpAny _ _ (specialOf (.ref 101) "__call__" >>= _) _ _ _
    refine wpAny_bind (wpAny_specialOf (T := "type") ⟨_, g1.cls, rfl⟩ tc_lookup ?_)
    exact wpAny_pure hQ
  refine wpAny_bind (hk _ _ ?_)
  refine wpAny_bind ((acc_walk g1 hd).upm fun r s2 hr => ?_)
  obtain ⟨x, d, rfl, e1, e2, e3, e4⟩ := hr
  exact wpAny_bind (wpAny_holding (wpAny_point (wpAny_pure (h x d s2 (hx1.old0 e1) (hx1.old0 e2) (hx1.trans e3) e4))))
end Mine
end

section
open PySem PySem.W PyProof.Rows
set_option maxRecDepth 100000
set_option maxHeartbeats 1000000
set_option linter.unusedVariables false
namespace Mine
variable {α β : Type} {w : World} {M : Model} {prog : Program} {A : Around} {env : Env} {s s' : Shared}

/-- as Iters; the loop's target may be a tuple -/
def ItersT (prog : Program) (w : World) (A : Around) (env : Env) (iter target : Expr) (s : Shared) (n : Nat) (P : Nat → Value → Prop) (fx : List Addr) : Prop :=
  ∀ E, wpAny (model prog w) A (eval iter env) (fun x s1 => wpAny (model prog w) A (pyIter x) (fun it s2 => ∃ I fp wr St, it = .ref I ∧ Walks prog w A I fp wr n P St ∧ St 0 s2.heap ∧ Ex [] s s2 ∧
    (∀ b ∈ wr, s.heap.get? b = none) ∧ (∀ b ∈ fp, s.heap.get? b = none ∨ b ∈ fx) ∧ (∀ b ∈ fp, b < s2.heap.objs.size) ∧
    (∀ k v s Q E, P k v → St (k + 1) s.heap → Q () s → wpAny (model prog w) A (letOwnedTupleGo target (.ref I) v) Q E s)) E s1) E s

theorem Iters.name {iter : Expr} {x : Str} {px : Pos} {n : Nat} {P : Nat → Value → Prop} {fx : List Addr} (h : Iters prog w A env iter s n P fx) : ItersT prog w A env iter (.Name x px) s n P fx := by
  intro E
  refine wpAny_mono (h E) (fun x s1 h1 => wpAny_mono h1 (fun it s2 h2 => ?_) fun _ _ e => e) fun _ _ e => e
  obtain ⟨I, fp, wr, St, h1, h2, h3, h4, h5, h6, h7⟩ := h2
  exact ⟨I, fp, wr, St, h1, h2, h3, h4, h5, h6, h7, fun k v s Q E _ _ hq => wpAny_pure hq⟩

theorem it_listT {iter : Expr} {elts : List Expr} {cx} {px : Pos} {a : Addr} {vs : List Value} (he : Pe (model prog w) A (eval iter env) s (· = .ref a)) (hl : s.heap.IsList a vs.toArray) (hT : ∀ v ∈ vs, ∃ T, v = .ref T) (hh : A.handled = none) :
    ItersT prog w A env iter (.Tuple elts cx px) s vs.length (fun i v => vs[i]? = some v) [a] := by
  intro E
  refine he.use .refl fun v s1 hv hx _ => ?_
  subst hv
  have hl1 : s1.heap.IsList a vs.toArray := hl.at fun o e => hx.keep0 _ o e
  have hlt : a < s1.heap.objs.size := let ⟨o, ho, _⟩ := hl1; Heap.lt_size ho
  refine wpAny_pyIter_list hl1 ⟨s1.heap.objs.size, [s1.heap.objs.size, a], [s1.heap.objs.size], _, rfl, by simpa using Walks.list hh s1.heap.objs.size a (Nat.ne_of_lt hlt) vs.toArray, ?_, hx.step0 (.push' _), ?_, ?_, ?_, ?_⟩
  · exact ⟨⟨_, Heap.get?_push_size _ rfl, rfl, rfl⟩, hl1.push _⟩
  · intro b hb; rw [List.mem_singleton.mp hb]; exact hx.old0 (fresh_size _)
  · intro b hb
    rcases List.mem_cons.mp hb with rfl | hb
    · exact .inl (hx.old0 (fresh_size _))
    · exact .inr hb
  · intro b hb
    show b < (s1.heap.push _).objs.size
    rw [Heap.size_push]
    rcases List.mem_cons.mp hb with rfl | hb
    · exact Nat.lt_succ_self _
    · rw [List.mem_singleton.mp hb]; exact Nat.lt_succ_of_lt hlt
  · intro k v s3 Q E hP hst hq
    obtain ⟨T, rfl⟩ := hT v (List.mem_of_getElem? hP)
    exact wpAny_letOwnedTupleGo_listiter hst.1 hq

/-- the tests of a comprehension -/
noncomputable def testsOf (ifs : List Expr) (env : Env) : Sem Bool :=
  forIn ifs true fun c r => if r = true then do let ok ← isTrue c env (eval c env); pure (ForInStep.yield ok) else pure (ForInStep.yield r)
theorem tests_nil : Pe M A (testsOf [] env) s (· = true) := fun _ _ _ => wpAny_pure ⟨.refl, rfl⟩
theorem tests_one {c : Expr} {b : Bool} (h : Pe M A (isTrue c env (eval c env)) s (· = b)) : Pe M A (testsOf [c] env) s (· = b) := by
  intro s' hx E
  unfold testsOf
  simp only [List.forIn_cons, List.forIn_nil, if_true]
  exact wpAny_bind (wpAny_bind (h.use hx fun v s1 hv _ a1 => wpAny_pure (wpAny_pure ⟨a1, hv⟩)))

theorem filter_range_succ (p : Nat → Bool) (k : Nat) : (List.range (k + 1)).filter p = (List.range k).filter p ++ (if p k then [k] else []) := by
  rw [List.range_succ, List.filter_append]
  cases h : p k <;> simp [h]

theorem comp_loop {elt target iter : Expr} {ifs : List Expr} {scope : Scope} {pos : Pos} {I D C : Addr} {fp wr : List Addr} {n : Nat} {P : Nat → Value → Prop} {St : Nat → Heap → Prop} {cenv : Env} {m0 : Str → Option Value}
    {p : Nat → Bool} {F : Nat → Value → Prop} {B : Nat → (Str → Option Value) → Prop} {R : Result → Shared → Prop} {s0 : Shared}
    (Wk : Walks prog w A I fp wr n P St) (go : ∀ k v s Q E, P k v → St (k + 1) s.heap → Q () s → wpAny (model prog w) A (letOwnedTupleGo target (.ref I) v) Q E s)
    (hsz : n ≤ sizeLine) (hC : s0.heap.get? C = none) (hD : s0.heap.get? D = none) (hwr : ∀ b ∈ wr, s0.heap.get? b = none) (hDC : D ≠ C) (hDf : D ∉ fp) (hCf : C ∉ fp) (hloc : cenv.locals = C)
    (hst : St 0 s.heap) (hx : Ex [] s0 s) (hacc : s.heap.PlainList D #[]) (hn : s.heap.Ns C m0)
    (hset : ∀ j v s1 m, j < n → P j v → Ex [] s0 s1 → s1.heap.Ns C m → ∀ E Q, (∀ s2 m', Ex [C] s1 s2 → s2.heap.Ns C m' → B j m' → Q () s2) → wpAny (model prog w) A (assign target cenv v) Q E s1)
    (htest : ∀ j s1 m, j < n → B j m → Ex [] s0 s1 → s1.heap.Ns C m → Pe (model prog w) A (testsOf ifs cenv) s1 (· = p j))
    (helt : ∀ j s1 m, j < n → p j = true → B j m → Ex [] s0 s1 → s1.heap.Ns C m → Pe (model prog w) A (eval elt cenv) s1 (F j))
    (hR : ∀ s' m ys, Ex [] s0 s' → s'.heap.Ns C m → s'.heap.PlainList D ys.toArray → Are F ((List.range n).filter p) ys → R (.ok .next) s') :
    codeAny (model prog w) A (.compLoop (.ListComp elt [⟨target, iter, ifs, 0⟩] scope pos) 0 (.ref I) (.ref D) cenv) R s := by
  have hCw : C ∉ wr := fun h => hCf (Wk.sub _ h)
  have hDw : D ∉ wr := fun h => hDf (Wk.sub _ h)
  refine codeAny_loop rfl (fun k s' => ∃ i, i ≤ n ∧ k = n + 1 - i ∧ St i s'.heap ∧ Ex [] s0 s' ∧ ∃ m ys, s'.heap.Ns C m ∧ s'.heap.PlainList D ys.toArray ∧ Are F ((List.range i).filter p) ys) ?_ (n + 1)
    ⟨0, Nat.zero_le _, rfl, hst, hx, m0, [], hn, hacc, by simpa using Are.nil⟩
  rintro k s1 ⟨i, hi, rfl, hst1, hx1, m1, ys, hn1, hl1, hys⟩
  show wpAny _ A ((compTurn (.ListComp elt [⟨target, iter, ifs, 0⟩] scope pos) 0 (.ref I) (.ref D) cenv).onRaise (fun x => do noteFrame x cenv; theTreesLotGoes x)) _ _ s1
  refine wpAny_noted ?_
  rw [compTurn_list]
  refine wpAny_bind (wpAny_standAt (wpAny_bind ?_))
  have keepEx : ∀ {h' : Heap} {tk : Nat}, (∀ b o, b ∉ wr → s1.heap.get? b = some o → h'.get? b = some o) → Ex wr s1 { s1 with heap := h', toks := tk } := fun hk' => ⟨hk', fun x => x, rfl⟩
  by_cases hlt : i < n
  · refine Wk.item i _ _ _ hlt hst1 fun v h2 tk hP hst2 hk2 => ?_
    have e2 := keepEx (tk := tk) hk2
    refine wpAny_bind (go i v _ _ _ hP hst2 ?_)
    have hst2 : St (i + 1) ({ s1 with heap := h2, toks := tk } : Shared).heap := hst2
    generalize ({ s1 with heap := h2, toks := tk } : Shared) = s2 at *
    have x2 : Ex [] s0 s2 := hx1.step e2 fun y hy => .inr (hwr y hy)
    refine wpAny_bind (hset i v s2 m1 hlt hP x2 (e2.ns hn1 hCw) _ _ fun s3 m3 e3 hn3 hB => ?_)
    have x3 : Ex [] s0 s3 := x2.fr e3 hC
    refine wpAny_bind ((htest i s3 m3 hlt hB x3 hn3).use .refl fun ok s4 hok e4 _ => ?_)
    subst hok
    have x4 := x3.trans e4
    have hn4 := e4.ns hn3 (by simp)
    have hst4 : St (i + 1) s4.heap := Wk.frame _ _ _ hst2 fun b hb o e => e4.keep0 _ _ (e3.keep b o (nmem1 fun h => hCf (h ▸ hb)) e)
    have hl4 : s4.heap.PlainList D ys.toArray := e4.plainList (e3.plainList (e2.plainList hl1 hDw) (nmem1 hDC)) (by simp)
    cases hp : p i with
    | false =>
      simp only [Bool.false_eq_true, if_false]
      refine wpAny_pure ⟨rfl, n + 1 - (i + 1), by omega, i + 1, hlt, rfl, hst4, x4, m3, ys, hn4, hl4, ?_⟩
      rw [filter_range_succ, hp]; simpa using hys
    | true =>
      simp only [if_true]
      refine wpAny_bind (wpAny_bind ((helt i s4 m3 hlt hp hB x4 hn4).use .refl fun y s5 hy e5 _ => ?_))
      have hys5 : ys.length ≤ sizeLine := by
        rw [hys.len]
        have h1 : ((List.range i).filter p).length ≤ (List.range i).length := List.length_filter_le _ _
        rw [List.length_range] at h1
        omega
      refine wpAny_bind (wpAny_list_append_plain (e5.plainList hl4 (by simp)) (fun h' hl' hs' => ?_) (by simpa using hys5))
      have e6 : Ex [D] s5 { s5 with heap := h' } := Ex.same s5.toks hs'
      refine wpAny_pure (wpAny_pure ⟨rfl, n + 1 - (i + 1), by omega, i + 1, hlt, rfl, ?_, ((x4.trans e5).fr e6 hD), m3, ys ++ [y], e6.ns (e5.ns hn4 (by simp)) (nmem1 hDC.symm), by simpa using hl', ?_⟩)
      · exact Wk.frame _ _ _ hst4 fun b hb o e => e6.keep b o (nmem1 fun h => hDf (h ▸ hb)) (e5.keep0 _ _ e)
      · rw [filter_range_succ, hp]; simpa using hys.append (.one hy)
  · have : i = n := by omega
    subst this
    refine Wk.done _ _ _ hst1 fun h2 tk hk2 => ?_
    have e2 := keepEx (tk := tk) hk2
    generalize ({ s1 with heap := h2, toks := tk } : Shared) = s2 at *
    exact wpAny_pure (hR s2 m1 ys (hx1.step e2 fun y hy => .inr (hwr y hy)) (e2.ns hn1 hCw) (e2.plainList hl1 hDw) hys)

/-- what a comprehension asks of its parts -/
structure CompOk (prog : Program) (w : World) (A : Around) (env : Env) (scope : Scope) (cl : List (Str × Addr)) (target elt : Expr) (ifs : List Expr) (s : Shared) (n : Nat) (P : Nat → Value → Prop) (p : Nat → Bool) (F : Nat → Value → Prop) (B : Nat → (Str → Option Value) → Prop) : Prop where
  set : ∀ C j v s1 m, j < n → P j v → s.heap.get? C = none → Ex [] s s1 → s1.heap.Ns C m → ∀ E Q, (∀ s2 m', Ex [C] s1 s2 → s2.heap.Ns C m' → B j m' → Q () s2) → wpAny (model prog w) A (assign target (compEnvC scope cl C env) v) Q E s1
  test : ∀ C j s1 m, j < n → B j m → Ex [] s s1 → s1.heap.Ns C m → Pe (model prog w) A (testsOf ifs (compEnvC scope cl C env)) s1 (· = p j)
  elt : ∀ C j s1 m, j < n → p j = true → B j m → Ex [] s s1 → s1.heap.Ns C m → Pe (model prog w) A (eval elt (compEnvC scope cl C env)) s1 (F j)
structure CompScope (scope : Scope) : Prop where
  cell : ∀ y ∈ scope.names, y.2 ≠ .cell
  kind : scope.kind = .function
  names : ∀ y ∈ scope.names, y.2 = .local → scope.names.lookup y.1 = some .local
theorem CompScope.of {scope : Scope} (h1 : (scope.names.all fun y => decide (y.2 ≠ .cell)) = true) (h2 : scope.kind = .function) (h3 : (scope.names.all fun y => decide (y.2 = .local → scope.names.lookup y.1 = some .local)) = true) : CompScope scope :=
  ⟨fun y hy => of_decide_eq_true (List.all_eq_true.mp h1 y hy), h2, fun y hy => of_decide_eq_true (List.all_eq_true.mp h3 y hy)⟩

theorem comp_block {elt target iter : Expr} {ifs : List Expr} {scope : Scope} {cl : List (Str × Addr)} {pos : Pos} {n : Nat} {P : Nat → Value → Prop} {fx : List Addr} {p : Nat → Bool} {F : Nat → Value → Prop} {B : Nat → (Str → Option Value) → Prop}
    {RR : Value → Addr → Result → Shared → Prop} {E : Value → Shared → Prop} (hit : ItersT prog w A env iter target s n P fx) (hsz : n ≤ sizeLine) (hS : CompScope scope) (hk : CompOk prog w A env scope cl target elt ifs s n P p F B)
    (hRR : ∀ D C s' m ys, s.heap.get? D = none → s.heap.get? C = none → D ≠ C → Ex [] s s' → s'.heap.Ns C m → s'.heap.PlainList D ys.toArray → Are F ((List.range n).filter p) ys → RR (.ref D) C (.ok .next) s') :
    wpAny (model prog w) A (eval iter env) (fun xv s₁ => wpAny (model prog w) A (pyIter xv) (fun it s₂ => wpAny (model prog w) A (newList []) (fun acc s₃ => wpAny (model prog w) A (newFunctionEnv scope env.globals cl [] env.qual none .none (some env)) (fun cenv s₄ =>
      codeAny (model prog w) A (.compStart (.ListComp elt [⟨target, iter, ifs, 0⟩] scope pos) 0 it acc { cenv with scope := relabel scope env }) (RR acc cenv.locals) s₄) E s₃) E s₂) E s₁) E s := by
  refine wpAny_mono (hit E) (fun xv s1 h1 => wpAny_mono h1 (fun it s2 h2 => ?_) fun _ _ e => e) fun _ _ e => e
  obtain ⟨I, fp, wr, St, rfl, Wk, hst, hx, hwr, hfp, hlt, hgo⟩ := h2
  refine wpAny_newObj_type (wpAny_newFunctionEnv hS.cell (by intro y hy; simp at hy) (fun h₁ hns₁ hsb₁ => ?_) hS.kind)
  dsimp only at hns₁ hsb₁ ⊢
  generalize hH2 : s2.heap.push { cls := .type "list", dict := none, data := .seq ([] : List Value).toArray } = H2 at hns₁ hsb₁ ⊢
  have hC : H2.objs.size = s2.heap.objs.size + 1 := by rw [← hH2, Heap.size_push]
  have hDC : s2.heap.objs.size ≠ H2.objs.size := by rw [hC]; exact Nat.ne_of_lt (Nat.lt_succ_self _)
  have below : ∀ b, b < s2.heap.objs.size → b ≠ H2.objs.size := fun b hb => by rw [hC]; exact Nat.ne_of_lt (Nat.lt_succ_of_lt hb)
  have hDf : s2.heap.objs.size ∉ fp := fun hm => Nat.lt_irrefl _ (hlt _ hm)
  have hCf : H2.objs.size ∉ fp := fun hm => by have := hlt _ hm; rw [hC] at this; exact Nat.lt_irrefl _ (Nat.lt_of_succ_lt this)
  have old : ∀ b o, s2.heap.get? b = some o → h₁.get? b = some o := fun b o e => hsb₁.extBut b o (below b (Heap.lt_size e)) (Heap.get?_push_of_some _ (hH2 ▸ Heap.get?_push_of_some _ e))
  have hacc : h₁.PlainList s2.heap.objs.size #[] := ⟨_, hsb₁.extBut _ _ hDC (Heap.get?_push_of_some _ (hH2 ▸ Heap.get?_push_size _ rfl))⟩
  have hst₁ : St 0 h₁ := Wk.frame _ _ _ hst fun b _ o e => old b o e
  have fresh : ∀ a, s2.heap.objs.size ≤ a → s.heap.get? a = none := fun a ha => hx.old0 (by
    cases e : s2.heap.get? a with
    | none => rfl
    | some o' => exact absurd (Heap.lt_size e) (Nat.not_lt.mpr ha))
  have hD0 := fresh _ (Nat.le_refl _)
  have hC0 := fresh H2.objs.size (by rw [hC]; exact Nat.le_succ _)
  have loop : ∀ s₃ : Shared, s₃ = { s2 with heap := h₁, toks := s2.toks + ([] : List (Str × Value)).length } →
      codeAny (model prog w) A (.compLoop (.ListComp elt [⟨target, iter, ifs, 0⟩] scope pos) 0 (.ref I) (.ref s2.heap.objs.size) (compEnvC scope cl H2.objs.size env))
        (RR (.ref s2.heap.objs.size) H2.objs.size) s₃ := by
    rintro s₃ rfl
    refine comp_loop (cenv := compEnvC scope cl H2.objs.size env) (s0 := s) (C := H2.objs.size) Wk hgo hsz hC0 hD0 hwr hDC hDf hCf rfl hst₁ (hx.step0 ⟨fun b o _ e => old b o e, fun x => x, rfl⟩) hacc hns₁
      (fun j v s1 m hj hP e1 hn => hk.set _ j v s1 m hj hP hC0 e1 hn) (fun j s1 m hj hB e1 hn => hk.test _ j s1 m hj hB e1 hn) (fun j s1 m hj hp hB e1 hn => hk.elt _ j s1 m hj hp hB e1 hn) ?_
    intro s' m ys e1 e2 e3 e4
    exact hRR _ _ s' m ys hD0 hC0 hDC e1 e2 e3 e4
  exact codeAny_compStart_list (loop _ rfl) (Wk.self 0 _ _ _ hst₁ (loop _ rfl))

theorem pr_comp {elt target iter : Expr} {ifs : List Expr} {scope : Scope} {cl : List (Str × Addr)} {pos : Pos} {n : Nat} {P : Nat → Value → Prop} {fx : List Addr} {p : Nat → Bool} {F : Nat → Value → Prop} {B : Nat → (Str → Option Value) → Prop}
    (hit : ∀ s', Ex [] s s' → ItersT prog w A env iter target s' n P fx) (hk : CompOk prog w A env scope cl target elt ifs s n P p F B) (hsz : n ≤ sizeLine) (hclos : closureFor scope env = pure cl)
    (hS : CompScope scope := by exact .of rfl rfl rfl) (hs : ∀ x, foldedSetIterable iter env x = pure x := by intro _; rfl) :
    Pr (model prog w) A (eval (.ListComp elt [⟨target, iter, ifs, 0⟩] scope pos) env) s (FreshL (fun ys => Are F ((List.range n).filter p) ys)) := by
  intro s' hx E
  rw [eval_ListComp]
  refine wpAny_comprehension_free (use := none) rfl hs hclos hS.kind hS.names ?_
  refine comp_block (RR := fun acc C => compPost (model prog w) A E none _ acc C) (hit s' hx) hsz hS
    ⟨fun C j v s1 m hj hP hC e1 => hk.set C j v s1 m hj hP (hx.old0 hC) (hx.trans e1), fun C j s1 m hj hB e1 => hk.test C j s1 m hj hB (hx.trans e1), fun C j s1 m hj hp hB e1 => hk.elt C j s1 m hj hp hB (hx.trans e1)⟩ ?_
  intro D C s2 m ys hD hC hDC e2 hn hl hys
  refine ⟨m, hn, fun h' hs' => ?_⟩
  have e3 : Ex [C] s2 { s2 with heap := h' } := Ex.same s2.toks hs'
  exact ⟨e2.fr e3 hC, D, ys, rfl, hD, e3.plainList hl (nmem1 hDC), hys⟩

/-- y = [..] on one line -/
theorem w_assignC {elt target iter : Expr} {ifs : List Expr} {y : Str} {py spos : Pos} {rest : List Stmt} {m : Str → Option Value} {scope : Scope} {cl : List (Str × Addr)} {pos : Pos} {n : Nat} {P : Nat → Value → Prop} {fx : List Addr} {p : Nat → Bool} {F : Nat → Value → Prop} {B : Nat → (Str → Option Value) → Prop} {Q : Flow → Shared → Prop}
    (hn : s.heap.Ns env.locals m) (hit : ItersT prog w A env iter target s n P fx) (hk : CompOk prog w A env scope cl target elt ifs s n P p F B) (hsz : n ≤ sizeLine) (hclos : closureFor scope env = pure cl)
    (h : ∀ D ys s2, s.heap.get? D = none → Ex [env.locals] s s2 → s2.heap.PlainList D ys.toArray → Are F ((List.range n).filter p) ys → s2.heap.Ns env.locals (upd m y (.ref D)) → W (model prog w) A (execs rest env) Q s2)
    (hsw : swapsWith (.ListComp elt [⟨target, iter, ifs, 0⟩] scope pos) (some (.Name y py)) spos.line env = pure true := by rfl) (hkk : env.scope.kind = .function := by rfl) (hl : env.kindOf y = some .local := by rfl)
    (hS : CompScope scope := by exact .of rfl rfl rfl) (hs : ∀ x, foldedSetIterable iter env x = pure x := by intro _; rfl) :
    W (model prog w) A (execs (.Assign [.Name y py] (.ListComp elt [⟨target, iter, ifs, 0⟩] scope pos) spos :: rest) env) Q s := by
  refine w_cons ?_
  unfold W
  rw [exec_Assign_Name_used _ _ _ _ hsw]
  refine wpAny_bind (wpAny_standAt (wpAny_bind ?_))
  show wpAny _ A (do let _ ← comprehension (.ListComp elt [⟨target, iter, ifs, 0⟩] scope pos) scope env _ (newList []) false (eval iter env) (some (assign (.Name y py) env))) _ _ s
  refine wpAny_bind (wpAny_mono (wpAny_comprehension_free (use := some (assign (.Name y py) env)) (Q := fun _ s' => Kn (model prog w) A env rest Q .next s') rfl hs hclos hS.kind hS.names ?_) (fun _ s' hq => wpAny_pure (wpAny_pure hq)) fun _ _ e => e)
  refine comp_block (RR := fun acc C => compPost (model prog w) A (fun _ _ => False) (some (assign (.Name y py) env)) _ acc C) hit hsz hS hk ?_
  intro D C s2 mC ys hD hC hDC e2 hnC hl2 hys
  have hLC : env.locals ≠ C := by rintro rfl; obtain ⟨o, _, _, ho, _⟩ := hn; rw [hC] at ho; cases ho
  have hLD : env.locals ≠ D := by rintro rfl; obtain ⟨o, _, _, ho, _⟩ := hn; rw [hD] at ho; cases ho
  show wpAny _ A (assign (.Name y py) env (.ref D)) _ _ _
  refine wpAny_assign_Name (st_local (m := m) (e2.ns hn (by simp)) (fun s3 e3 hn3 => ?_) hkk hl)
  refine ⟨mC, e3.ns hnC (nmem1 hLC.symm), fun h' hs' => ?_⟩
  have e4 : Ex [C] s3 { s3 with heap := h' } := Ex.same s3.toks hs'
  exact h D ys _ hD (((e2.lift.trans e3)).fr e4 hC) (e4.plainList (e3.plainList hl2 (nmem1 hLD.symm)) (nmem1 hDC)) hys (e4.ns hn3 (nmem1 hLC))
end Mine
end

section
open PySem PySem.W PyProof.Rows
set_option maxRecDepth 100000
set_option maxHeartbeats 1000000
set_option linter.unusedVariables false
namespace Mine
variable {α β : Type} {w : World} {M : Model} {prog : Program} {A : Around} {env : Env} {s s' : Shared}

theorem TupAt.isTup {h : Heap} {t : Addr} {vs : List Value} (ht : TupAt h t vs) : IsTup h t vs.toArray := ⟨_, ht, rfl, _, rfl⟩
theorem TupAt.isTuple {h : Heap} {t : Addr} {vs : List Value} (ht : TupAt h t vs) : h.IsTuple t vs.toArray := ⟨_, ht, rfl, _, rfl⟩

theorem pe_titem {value slice : Expr} {pos : Pos} {t : Addr} {vs : List Value} {k : Nat} {v : Value} (he : Pe (model prog w) A (eval value env) s (· = .ref t)) (ht : TupAt s.heap t vs)
    (hi : Pe (model prog w) A (eval slice env) s (It k)) (hv : vs[k]? = some v) (hk : k < 1000000)
    (hs : ∀ u, subscripted slice false (.ref t) (.int (k : Int) u) = operate [.ref t, .int (k : Int) u] (getItem (.ref t) (.int (k : Int) u)) := by intro _; rfl) :
    Pe (model prog w) A (eval (.Subscript value slice pos) env) s (· = v) := by
  intro s' hx E
  refine Subscript_ (he.use hx fun o s1 ho hx1 a1 => hi.use hx1 fun i s2 hi2 hx2 a2 => ?_)
  subst ho
  obtain ⟨u, rfl⟩ := hi2
  have ht2 := hx2.tup ht (by simp)
  have hlt : k < vs.length := (List.getElem?_eq_some_iff.mp hv).1
  refine tail_any ht2.isTup.typeIs slot_tuple_getitem.lookup (getItem_tuple ht2.isTup (j := k) (by omega) (by omega) ?_ (by simpa using hv) ⟨a1.trans a2, rfl⟩) (hs u)
  rw [seqIndex_of (by omega) (by simp; omega)]; simp

theorem join_flat : ∀ xss : List (List Nat), Txt.join ⟨([] : List Nat).toArray⟩ (xss.map fun l => (⟨l.toArray⟩ : Str)) = ⟨xss.flatten.toArray⟩
  | [] => rfl
  | [x] => by show (⟨x.toArray⟩ : Str) = _; simp
  | x :: y :: r => by
    have ih := join_flat (y :: r)
    unfold Txt.join at ih ⊢
    rw [StrLaws.glued_eq_join] at ih ⊢
    show (⟨x.toArray⟩ : Str) ++ ⟨([] : List Nat).toArray⟩ ++ Str.join ⟨([] : List Nat).toArray⟩ ((y :: r).map fun l => (⟨l.toArray⟩ : Str)) = _
    rw [ih, cps_append, cps_append]; simp

theorem strsAre {xss : List (List Nat)} {vs : List Value} (h : Are St xss vs) : StrsAre vs (xss.map fun l => (⟨l.toArray⟩ : Str)) := by
  induction xss generalizing vs with
  | nil =>
    have : vs = [] := List.length_eq_zero_iff.mp (by simpa using h.len)
    subst this; exact .nil
  | cons x xs ih =>
    cases vs with
    | nil => have := h.len; simp at this
    | cons v vs =>
      obtain ⟨t, rfl⟩ := h.at_ 0 x v rfl rfl
      refine .cons _ t (ih ⟨by have := h.len; simpa using this, fun i y u hy hu => h.at_ (i + 1) y u (by simpa using hy) (by simpa using hu)⟩)

/-- ''.join(e), e a new list of texts -/
theorem pe_join {o e : Expr} {apos pos : Pos} {xss : List (List Nat)} {R : List Value → Prop} (ho : Pe (model prog w) A (eval o env) s (St [])) (he : Pr (model prog w) A (eval e env) s (FreshL R)) (hR : ∀ vs, R vs → Are St xss vs) (h5 : xss.flatten.length + xss.length ≤ 1000000)
    (hs : starEach [e] env = [(false, eval e env)] := by rfl)
    (hc : ∃ pl, eval (.Call (.Attribute o "join" apos) [e] [] pos) env = (do
      let ov ← eval o env
      standAt apos.atName
      let (f, first) ← holding [ov] (getMethod ov "join" pl)
      callWith pos f first (backTo pos (starEach [e] env)) []) := by exact ⟨_, rfl⟩) :
    Pe (model prog w) A (eval (.Call (.Attribute o "join" apos) [e] [] pos) env) s (St xss.flatten) := by
  obtain ⟨pl, hc⟩ := hc
  intro s' hx E
  rw [hc]
  refine wpAny_bind (ho.use hx fun v s1 hv hx1 a1 => wpAny_bind (wpAny_standAt (wpAny_bind (wpAny_holding ?_))))
  obtain ⟨t, rfl⟩ := hv
  refine GM.join ?_
  rw [hs]
  refine Calls.callWith_builtin rfl (Calls.evalArgs_plain (Calls.spliced_cons (he.use hx1 fun v2 s2 hv2 hx2 a2 => Calls.spliced_nil ?_)))
  obtain ⟨l, vs, rfl, h1, ⟨k, h2⟩, h3⟩ := hv2
  have h4 := hR vs h3
  refine join_list (ys := xss.map fun l => (⟨l.toArray⟩ : Str)) ⟨_, h2, rfl, _, rfl⟩ (by simpa using strsAre h4) ?_ ?_
  · have e1 : ((xss.map fun l => (⟨l.toArray⟩ : Str)).map (·.length)).sum = xss.flatten.length := by
      rw [List.length_flatten, List.map_map]; congr 1
    rw [e1]
    show _ + _ * 0 ≤ _
    omega
  · intro t' k
    rw [join_flat]
    exact ⟨(a1.trans a2).trans (.toks _), t', rfl⟩

/-- l.append(e) on a plain list -/
theorem w_append {o e : Expr} {apos pos spos : Pos} {rest : List Stmt} {l : Addr} {vs : List Value} {R : Shared → Value → Shared → Prop} {Q : Flow → Shared → Prop} (ho : Pe (model prog w) A (eval o env) s (· = .ref l)) (hl : s.heap.PlainList l vs.toArray)
    (he : Pr (model prog w) A (eval e env) s R) (hz : vs.length ≤ 100000)
    (h : ∀ v s0 s1 s2, Ex [] s s0 → R s0 v s1 → Ex [] s s1 → Ex [l] s1 s2 → s2.heap.PlainList l (vs ++ [v]).toArray → W (model prog w) A (execs rest env) Q s2)
    (hs : starEach [e] env = [(false, eval e env)] := by rfl) (hi : interactive env = false := by rfl) (hsw : swapsWith (.Call (.Attribute o "append" apos) [e] [] pos) none spos.line env = pure false := by rfl)
    (hc : ∃ pl, eval (.Call (.Attribute o "append" apos) [e] [] pos) env = (do
      let ov ← eval o env
      standAt apos.atName
      let (f, first) ← holding [ov] (getMethod ov "append" pl)
      callWith pos f first (backTo pos (starEach [e] env)) []) := by exact ⟨_, rfl⟩) :
    W (model prog w) A (execs (.Expr (.Call (.Attribute o "append" apos) [e] [] pos) spos :: rest) env) Q s := by
  obtain ⟨pl, hc⟩ := hc
  refine w_expr ?_ hi hsw
  unfold W
  rw [hc]
  refine wpAny_bind (ho.use .refl fun v s1 hv hx1 a1 => wpAny_bind (wpAny_standAt (wpAny_bind (wpAny_holding ?_))))
  subst hv
  obtain ⟨k, hl1⟩ := hx1.plainList hl (by simp)
  refine Calls.getMethod_list_append hl1 rfl rfl ?_
  rw [hs]
  refine Calls.callWith_builtin rfl (Calls.evalArgs_plain (Calls.spliced_cons (he.use hx1 fun v2 s2 hv2 hx2 a2 => Calls.spliced_nil ?_)))
  refine wpAny_list_append_plain (hx2.plainList hl (by simp)) (fun h' hl' hs' => ⟨rfl, h v2 s1 s2 _ hx1 hv2 hx2 (Ex.same s2.toks hs') (by simpa using hl')⟩) (by simp only [List.size_toArray, sizeLine]; omega)

/-- f(..), f a def of the text -/
theorem w_callF {f0 : Str} {fp pos : Pos} {e : Expr} {rest : List Expr} {fa : Addr} {fd : FuncData} {R : List Value → Prop} {Q : Value → Shared → Prop} (hf : Pe (model prog w) A (eval (.Name f0 fp) env) s (· = .ref fa)) (hfn : FnAt s.heap fa fd)
    (ha : Pe (model prog w) A (spliced (backTo pos (starEach (e :: rest) env))) s R)
    (h : ∀ us s1, R us → Ex [] s s1 → W (model prog w) A (runValue (.call (.ref fa) ⟨us, []⟩)) Q s1)
    (hs : starEach (e :: rest) env = (false, eval e env) :: starEach rest env := by rfl) :
    W (model prog w) A (eval (.Call (.Name f0 fp) (e :: rest) [] pos) env) Q s := by
  refine Call_ (hf.use .refl fun v s1 hv hx1 _ => ?_)
  subst hv
  obtain ⟨of, ho1, ho2, ho3⟩ := hfn.at_
  refine callWith_def ho2 (ha.use hx1 fun us s2 hu hx2 _ => ⟨hx2.keep0 _ _ ho1, h us s2 hu hx2⟩) hs

theorem assign_tup2 {x y : Str} {px py pos : Pos} {k : Nat} {t : Addr} {u v : Value} {m : Str → Option Value} {Q : Unit → Shared → Prop} {E : Value → Shared → Prop} (hh : A.handled = none) (ht : TupAt s.heap t [u, v]) (hn : s.heap.Ns env.locals m)
    (h : ∀ s2, Ex [env.locals] s s2 → s2.heap.Ns env.locals (upd (upd m x u) y v) → Q () s2)
    (hk : env.scope.kind = .function := by rfl) (hx : env.kindOf x = some .local := by rfl) (hy : env.kindOf y = some .local := by rfl) :
    wpAny (model prog w) A (assign (.Tuple [.Name x px, .Name y py] k pos) env (.ref t)) Q E s := by
  refine wpAny_assign_Tuple hh ht.isTuple rfl rfl fun h1 he1 => ?_
  have e1 : Ex [] s { s with heap := h1 } := ⟨fun b o _ e => he1 b o (Nat.ne_of_lt (Heap.lt_size e)) e, fun x => x, rfl⟩
  refine assignInOrder_cons (wpAny_assign_Name (st_local (m := m) (e1.ns hn (by simp)) (fun s2 e2 hn2 => ?_) hk hx))
  refine assignInOrder_cons (wpAny_assign_Name (st_local hn2 (fun s3 e3 hn3 => ?_) hk hy))
  exact assignInOrder_nil (h s3 ((e1.lift.trans e2).trans e3) hn3)
end Mine
end

section
open PySem PySem.W PyProof.Rows
set_option maxRecDepth 100000
set_option maxHeartbeats 1000000
set_option linter.unusedVariables false
namespace Mine
variable {α β : Type} {w : World} {M : Model} {prog : Program} {A : Around} {env : Env} {s s' : Shared}

/-- no tuple stands at an address of X -/
def NoTup (h : Heap) (X : List Addr) : Prop := ∀ b ∈ X, ∀ vs, ¬ TupAt h b vs
theorem Ex.tups {X s s' t vs} (h : Ex X s s') (hX : NoTup s.heap X) (ht : TupAt s.heap t vs) : TupAt s'.heap t vs := h.tup ht fun hm => hX t hm vs ht
theorem NoTup.ns {h : Heap} {L : Addr} {m} (hn : h.Ns L m) : NoTup h [L] := by
  intro b hb vs ht
  rw [List.mem_singleton.mp hb] at ht
  obtain ⟨o, es, ep, ho, hd, _⟩ := hn
  rw [show h.get? L = _ from ht] at ho
  cases ho; cases hd
theorem NoTup.list {h : Heap} {l : Addr} {us} (hn : h.IsList l us) : NoTup h [l] := by
  intro b hb vs ht
  rw [List.mem_singleton.mp hb] at ht
  obtain ⟨o, ho, hc, _⟩ := hn
  rw [show h.get? l = _ from ht] at ho
  cases ho; injection hc with e; exact absurd e (by decide)
theorem NoTup.plain {h : Heap} {l : Addr} {us} (hn : h.PlainList l us) : NoTup h [l] := .list hn.isList
theorem NoTup.pile {h : Heap} {a d : Addr} {us} (hn : PileAt h a d us) : NoTup h [a] := by
  intro b hb vs ht
  rw [List.mem_singleton.mp hb] at ht
  obtain ⟨n, ho⟩ := hn.obj
  rw [show h.get? a = _ from ht] at ho
  cases ho
theorem NoTup.nil {h : Heap} : NoTup h [] := fun b hb => by simp at hb
theorem NoTup.cons {h : Heap} {a : Addr} {X : List Addr} (h1 : NoTup h [a]) (h2 : NoTup h X) : NoTup h (a :: X) := by
  intro b hb
  rcases List.mem_cons.mp hb with rfl | hb
  · exact h1 b (by simp)
  · exact h2 b hb

/-- as ItersT, and what the iterator changes is there and no tuple -/
def ItersX (prog : Program) (w : World) (A : Around) (env : Env) (iter target : Expr) (s : Shared) (n : Nat) (P : Nat → Value → Prop) (fx : List Addr) : Prop :=
  ∀ E, wpAny (model prog w) A (eval iter env) (fun x s1 => wpAny (model prog w) A (pyIter x) (fun it s2 => ∃ I fp wr St, it = .ref I ∧ Walks prog w A I fp wr n P St ∧ St 0 s2.heap ∧ Ex [] s s2 ∧
    (∀ b ∈ wr, s.heap.get? b = none) ∧ (∀ b ∈ fp, s.heap.get? b = none ∨ b ∈ fx) ∧ (∀ b ∈ fp, b < s2.heap.objs.size) ∧
    (∀ k v s Q E, P k v → St (k + 1) s.heap → Q () s → wpAny (model prog w) A (letOwnedTupleGo target (.ref I) v) Q E s) ∧
    (∀ k h, St k h → NoTup h wr)) E s1) E s

theorem w_forX_core {target iter : Expr} {body rest : List Stmt} {pos : Pos} {n : Nat} {P : Nat → Value → Prop} {fx Y : List Addr} {Q : Flow → Shared → Prop} (hit : ItersX prog w A env iter target s n P fx)
    (hY : ∀ y ∈ Y, (∃ o, s.heap.get? y = some o) ∧ y ∉ fx) (J : Nat → Shared → Prop) (h0 : ∀ s2, Ex [] s s2 → J 0 s2)
    (turn : ∀ k v wr s2 s1, k < n → P k v → J k s2 → (∀ b ∈ wr, s.heap.get? b = none) → NoTup s2.heap wr → Ex wr s2 s1 →
      W (model prog w) A (assign target env v) (fun _ s3 => W (model prog w) A (execs body env) (fun f s4 => match f with
        | .next | .cont => Ex Y s1 s4 ∧ J (k + 1) s4
        | .brk => W (model prog w) A (execs rest env) Q s4
        | .ret v => Q (.ret v) s4) s3) s1)
    (done : ∀ wr s2 s1, J n s2 → (∀ b ∈ wr, s.heap.get? b = none) → NoTup s2.heap wr → Ex wr s2 s1 → W (model prog w) A (execs rest env) Q s1)
    (hs : ∀ x, foldedSetIterable iter env x = pure x := by intro _; rfl)
    (htn : ∀ it v, letOwnedTupleGo target it v = pure () := by intro _ _; rfl) :
    W (model prog w) A (execs (.For target iter body [] pos :: rest) env) Q s := by
  refine w_cons (wpAny_For (wpAny_mono (hit _) (fun x s1 h1 => wpAny_mono h1 (fun it s2 h2 => ?_) fun _ _ e => e) fun _ _ e => e) hs)
  obtain ⟨I, fp, wr, St, rfl, Wk, hst, hx, hwr, hfp, _, hgo, hnt⟩ := h2
  refine codeAny_forLoop (fun m s' => ∃ k, k ≤ n ∧ m = n + 1 - k ∧ St k s'.heap ∧ J k s') ?_ (n + 1) ⟨0, Nat.zero_le _, rfl, hst, h0 s2 hx⟩ (htn _)
  rintro m s3 ⟨k, hk, rfl, hst3, hJ⟩
  have keepEx : ∀ {h' : Heap} {tk : Nat}, (∀ b o, b ∉ wr → s3.heap.get? b = some o → h'.get? b = some o) → Ex wr s3 { s3 with heap := h', toks := tk } := fun hk' => ⟨hk', fun x => x, rfl⟩
  by_cases hlt : k < n
  · refine Wk.item k _ _ _ hlt hst3 fun v h' tk hP hst' hk' => ?_
    refine (turn k v wr s3 _ hlt hP hJ hwr (hnt _ _ hst3) (keepEx hk')).upm fun _ s5 h5 => ?_
    refine h5.upm fun f s6 h6 => ?_
    have fin : Ex Y { s3 with heap := h', toks := tk } s6 ∧ J (k + 1) s6 → ∃ m, m < n + 1 - k ∧ ∃ k, k ≤ n ∧ m = n + 1 - k ∧ St k s6.heap ∧ J k s6 := by
      rintro ⟨hx6, hJ6⟩
      refine ⟨n + 1 - (k + 1), by omega, k + 1, hlt, rfl, ?_, hJ6⟩
      refine Wk.frame (k + 1) _ _ hst' fun b hb o e => hx6.keep b o (fun hy => ?_) e
      obtain ⟨⟨o', ho'⟩, hyf⟩ := hY b hy
      rcases hfp b hb with h | h
      · rw [h] at ho'; cases ho'
      · exact hyf h
    cases f with
    | next => exact fin h6
    | cont => exact fin h6
    | brk => exact h6
    | ret v => exact h6
  · have : k = n := by omega
    subst this
    refine Wk.done _ _ _ hst3 fun h' tk hk' => ?_
    exact wpAny_execs_nil (done wr s3 _ hJ hwr (hnt _ _ hst3) (keepEx hk'))

theorem w_forX {x : Str} {px : Pos} {iter : Expr} {body rest : List Stmt} {pos : Pos} {n : Nat} {P : Nat → Value → Prop} {fx Y : List Addr} {Q : Flow → Shared → Prop} (hit : ItersX prog w A env iter (.Name x px) s n P fx)
    (hY : ∀ y ∈ Y, (∃ o, s.heap.get? y = some o) ∧ y ∉ fx) (hL : env.locals ∈ Y) (J : Nat → (Str → Option Value) → Shared → Prop) (h0 : ∀ s2, Ex [] s s2 → ∃ m, s2.heap.Ns env.locals m ∧ J 0 m s2)
    (turn : ∀ k v wr m s2 s1, k < n → P k v → J k m s2 → (∀ b ∈ wr, s.heap.get? b = none) → NoTup s2.heap (env.locals :: wr) → Ex (env.locals :: wr) s2 s1 → s1.heap.Ns env.locals (upd m x v) →
      W (model prog w) A (execs body env) (fun f s4 => match f with
        | .next | .cont => Ex Y s1 s4 ∧ ∃ m', s4.heap.Ns env.locals m' ∧ J (k + 1) m' s4
        | .brk => W (model prog w) A (execs rest env) Q s4
        | .ret v => Q (.ret v) s4) s1)
    (done : ∀ wr m s2 s1, s1.heap.Ns env.locals m → J n m s2 → (∀ b ∈ wr, s.heap.get? b = none) → NoTup s2.heap wr → Ex wr s2 s1 → W (model prog w) A (execs rest env) Q s1)
    (hk : env.scope.kind = .function := by rfl) (hl : env.kindOf x = some .local := by rfl) (hs : ∀ x, foldedSetIterable iter env x = pure x := by intro _; rfl) :
    W (model prog w) A (execs (.For (.Name x px) iter body [] pos :: rest) env) Q s := by
  have hLw : ∀ {wr : List Addr}, (∀ b ∈ wr, s.heap.get? b = none) → env.locals ∉ wr := fun hwr hm => by
    obtain ⟨⟨o, ho⟩, _⟩ := hY _ hL
    rw [hwr _ hm] at ho; cases ho
  refine w_forX_core hit hY (fun k s2 => ∃ m, s2.heap.Ns env.locals m ∧ J k m s2) h0 ?_ ?_ hs
  · rintro k v wr s2 s1 hlt hP ⟨m, hn, hJ⟩ hwr hnt hx
    refine wpAny_assign_Name (st_local (m := m) (hx.ns hn (hLw hwr)) (fun s3 hx3 hn3 => ?_) hk hl)
    refine (turn k v wr m s2 s3 hlt hP hJ hwr (.cons (.ns hn) hnt) ?_ hn3).mono fun f s4 h4 => ?_
    · exact (hx.weak fun _ h => List.mem_cons_of_mem _ h).trans (hx3.weak fun y hy => by rw [List.mem_singleton.mp hy]; exact List.mem_cons_self ..)
    · have up : Ex Y s3 s4 → Ex Y s1 s4 := fun h => (hx3.weak fun y hy => by rw [List.mem_singleton.mp hy]; exact hL).trans h
      cases f with
      | next => exact ⟨up h4.1, h4.2⟩
      | cont => exact ⟨up h4.1, h4.2⟩
      | brk => exact h4
      | ret v => exact h4
  · rintro wr s2 s1 ⟨m, hn, hJ⟩ hwr hnt hx
    exact done wr m s2 s1 (hx.ns hn (hLw hwr)) hJ hwr hnt hx

theorem noTup_one {h : Heap} {a : Addr} {o : Obj} (ho : h.get? a = some o) (hc : o.cls ≠ .type "tuple") : NoTup h [a] := by
  intro b hb vs ht
  rw [List.mem_singleton.mp hb] at ht
  rw [show h.get? a = _ from ht] at ho
  cases ho; exact hc rfl

theorem itx_str {iter : Expr} {x : List Nat} {y : Str} {py : Pos} (he : Pe (model prog w) A (eval iter env) s (St x)) (hh : A.handled = none) :
    ItersX prog w A env iter (.Name y py) s x.length (fun i v => ∃ c, x[i]? = some c ∧ St [c] v) [] := by
  intro E
  refine he.use .refl fun v s1 ⟨t, hv⟩ hx _ => ?_
  subst hv
  have hP : (SignAt ⟨x.toArray⟩) = (fun i v => ∃ c, x[i]? = some c ∧ Mine.St [c] v) := by
    funext i v
    simp only [SignAt, eq_iff_iff]
    constructor
    · rintro ⟨c, u, h1, h2⟩; exact ⟨c, by simpa using h1, u, h2⟩
    · rintro ⟨c, h1, u, h2⟩; exact ⟨c, u, by simpa using h1, h2⟩
  have key : ∀ T : String, T ≠ "tuple" → Walks prog w A s1.heap.objs.size [s1.heap.objs.size] [s1.heap.objs.size] x.length (fun i v => ∃ c, x[i]? = some c ∧ Mine.St [c] v) (fun i h => h.IsStrIter s1.heap.objs.size T ⟨x.toArray⟩ t i) →
      ∃ I fp wr St, Value.ref s1.heap.objs.size = .ref I ∧ Walks prog w A I fp wr x.length (fun i v => ∃ c, x[i]? = some c ∧ Mine.St [c] v) St ∧ St 0 (s1.heap.push { cls := .type T, data := .fields #[.str ⟨x.toArray⟩ t, .int 0 0] }) ∧ Ex [] s { s1 with heap := s1.heap.push { cls := .type T, data := .fields #[.str ⟨x.toArray⟩ t, .int 0 0] } } ∧
        (∀ b ∈ wr, s.heap.get? b = none) ∧ (∀ b ∈ fp, s.heap.get? b = none ∨ b ∈ ([] : List Addr)) ∧ (∀ b ∈ fp, b < (s1.heap.push { cls := .type T, data := .fields #[.str ⟨x.toArray⟩ t, .int 0 0] }).objs.size) ∧
        (∀ k v s Q E, (∃ c, x[k]? = some c ∧ Mine.St [c] v) → St (k + 1) s.heap → Q () s → wpAny (model prog w) A (letOwnedTupleGo (.Name y py) (.ref I) v) Q E s) ∧ (∀ k h, St k h → NoTup h wr) := by
    intro T hT hW
    refine ⟨_, _, _, _, rfl, hW, ⟨_, Heap.get?_push_size _ rfl, rfl, rfl⟩, hx.step0 (.push' _), ?_, ?_, ?_, fun k v s Q E _ _ hq => wpAny_pure hq, ?_⟩
    · intro b hb; rw [List.mem_singleton.mp hb]; exact hx.old0 (fresh_size _)
    · intro b hb; rw [List.mem_singleton.mp hb]; exact .inl (hx.old0 (fresh_size _))
    · intro b hb
      rw [List.mem_singleton.mp hb, Heap.size_push]; exact Nat.lt_succ_self _
    · rintro k h ⟨o, ho, hc, _⟩
      exact noTup_one ho (by rw [hc]; intro e; injection e with e; exact hT e)
  have hs : (Str.mk x.toArray).cps.size = x.length := by simp
  cases ha : (Str.mk x.toArray).cps.all (· < 128)
  · refine wpAny_pyIter_wide ha (key "str_iterator" (by decide) ?_)
    have := Walks.strWide (prog := prog) (w := w) hh s1.heap.objs.size ⟨x.toArray⟩ t
    rw [hP, hs] at this; exact this
  · refine wpAny_pyIter_ascii ha (key "str_ascii_iterator" (by decide) ?_)
    have := Walks.strAscii (prog := prog) (w := w) hh s1.heap.objs.size ⟨x.toArray⟩ t
    rw [hP, hs] at this; exact this
end Mine
end

section
open PySem PySem.W PyProof.Rows
set_option maxRecDepth 100000
set_option maxHeartbeats 1000000
set_option linter.unusedVariables false
namespace Mine

/-- a letter laid on the pile; a whole word goes off -/
noncomputable def stepF (p l : List Nat) (c : Nat) : List Nat := if p <:+ l ++ [c] then (l ++ [c]).take (l.length + 1 - p.length) else l ++ [c]
noncomputable def stackF (p : List Nat) (t : List Nat) : List Nat := t.foldl (stepF p) []
theorem stackF_snoc (p t : List Nat) (c : Nat) : stackF p (t ++ [c]) = stepF p (stackF p t) c := by
  unfold stackF; rw [List.foldl_append]; rfl

structure Pieces (h : Heap) (p l : List Nat) (vs : List Value) : Prop where
  len : vs.length = l.length
  at_ : ∀ (j : Nat) v, vs[j]? = some v → ∃ tp u c k x, v = .ref tp ∧ TupAt h tp [u, c] ∧ l[j]? = some x ∧ St (List.replicate k 32) u ∧ St [x] c ∧ IsTop p (l.take (j + 1)) k ∧ k < p.length
theorem Pieces.ex {X s s' p l vs} (f : Pieces s.heap p l vs) (h : Ex X s s') (hX : NoTup s.heap X) : Pieces s'.heap p l vs :=
  ⟨f.len, fun j v hv => let ⟨tp, u, c, k, x, e1, e2, r⟩ := f.at_ j v hv; ⟨tp, u, c, k, x, e1, h.tups hX e2, r⟩⟩
theorem Pieces.ex0 {s s' p l vs} (f : Pieces s.heap p l vs) (h : Ex [] s s') : Pieces s'.heap p l vs := f.ex h .nil
theorem Pieces.take {h p l vs} (f : Pieces h p l vs) (i : Nat) : Pieces h p (l.take i) (vs.take i) := by
  refine ⟨by simp [f.len], fun j v hv => ?_⟩
  rw [List.getElem?_take] at hv
  split at hv
  · rename_i hj
    obtain ⟨tp, u, c, k, x, e1, e2, e3, r⟩ := f.at_ j v hv
    refine ⟨tp, u, c, k, x, e1, e2, ?_, ?_⟩
    · rw [List.getElem?_take, if_pos hj]; exact e3
    · rw [List.take_take, Nat.min_eq_left (by omega)]; exact r
  · cases hv
theorem Pieces.nil {h p} : Pieces h p [] [] := ⟨rfl, fun j v hv => by simp at hv⟩
theorem Pieces.snoc {h p l vs} (f : Pieces h p l vs) {tp u c k x} (e2 : TupAt h tp [u, c]) (e3 : St (List.replicate k 32) u) (e4 : St [x] c) (e5 : IsTop p (l ++ [x]) k) (e6 : k < p.length) : Pieces h p (l ++ [x]) (vs ++ [.ref tp]) := by
  refine ⟨by simp [f.len], fun j v hv => ?_⟩
  by_cases hj : j < vs.length
  · rw [List.getElem?_append_left hj] at hv
    obtain ⟨tp, u, c, k, x', e1, e2, e3, r⟩ := f.at_ j v hv
    refine ⟨tp, u, c, k, x', e1, e2, ?_, ?_⟩
    · rw [List.getElem?_append_left (f.len ▸ hj)]; exact e3
    · rw [List.take_append_of_le_length (by rw [← f.len]; omega)]; exact r
  · rw [List.getElem?_append_right (by omega)] at hv
    have hj0 : j = vs.length := by
      by_cases h0 : j = vs.length
      · exact h0
      · rw [List.getElem?_eq_none (by simp; omega)] at hv; cases hv
    subst hj0
    simp at hv
    subst hv
    refine ⟨tp, u, c, k, x, rfl, e2, ?_, e3, e4, ?_, e6⟩
    · rw [f.len]; simp
    · rw [f.len, List.take_of_length_le (by simp)]; exact e5
theorem top_whole {p t : List Nat} (h : IsTop p t p.length) : p <:+ t := by have := h.suf.2; rwa [List.take_of_length_le (Nat.le_refl _)] at this
theorem top_not {p t : List Nat} {k : Nat} (h : IsTop p t k) (hk : k < p.length) : ¬ p <:+ t := fun hs => by
  have := h.max p.length ⟨Nat.le_refl _, by rwa [List.take_of_length_le (Nat.le_refl _)]⟩
  omega
theorem suffix_drop {p t : List Nat} (h : p <:+ t) : t.drop (t.length - p.length) = p := by
  obtain ⟨r, rfl⟩ := h
  simp
theorem cut_one {p : List Nat} {k : Nat} {c : Nat} (h : p[k]? = some c) : cut p (some k) (some (k + 1)) = [c] := by
  have hlt : k < p.length := (List.getElem?_eq_some_iff.mp h).1
  unfold cut
  simp only [Option.getD_some]
  rw [List.take_add_one, h, List.drop_append_of_le_length (by simp; omega)]
  rw [List.drop_of_length_le (by simp; omega)]
  rfl
end Mine
end

section
open PySem PySem.W PyProof.Rows
set_option maxRecDepth 100000
set_option maxHeartbeats 1000000
set_option linter.unusedVariables false
namespace Mine
variable {α β : Type} {w : World} {M : Model} {A : Around} {env : Env} {s s' : Shared}

abbrev Tx (l : List Nat) (t : Tok) : Value := .str ⟨l.toArray⟩ t

theorem lp_pop : clsTab.lookup (Str.ofString "pop") = some (.ref 61) := by decide +kernel
theorem lp_push : clsTab.lookup (Str.ofString "push") = some (.ref 45) := by decide +kernel
theorem lp_pf : clsTab.lookup (Str.ofString "pop_from") = some (.ref 53) := by decide +kernel
theorem lp_tab : glTab.lookup (Str.ofString "_generate_overlap_table") = some (.ref 112) := by decide +kernel
theorem lp_acc : glTab.lookup (Str.ofString "_Accumulator") = some (.ref 101) := by decide +kernel

theorem it_listT' {prog : Program} {iter : Expr} {elts : List Expr} {cx} {px : Pos} {a : Addr} {vs : List Value} {n : Nat} (hn : vs.length = n) (he : Pe (model prog w) A (eval iter env) s (· = .ref a)) (hl : s.heap.IsList a vs.toArray) (hT : ∀ v ∈ vs, ∃ T, v = .ref T) (hh : A.handled = none) :
    ItersT prog w A env iter (.Tuple elts cx px) s n (fun i v => vs[i]? = some v) [a] := hn ▸ it_listT he hl hT hh

theorem flat_ones (p : List Nat) : (p.map fun y => [y]).flatten = p := by
  induction p with
  | nil => rfl
  | cons x p ih => simp [ih]

noncomputable def lpBody : List Stmt := match (bodyOf (stm 7)).getD 3 (.Pass ⟨0, 0, 0, 0⟩) with
  | .For _ _ b _ _ => b
  | _ => []

structure LpS (p l : List Nat) (cnt : Nat) (L pa pd tb tk : Addr) (h : Heap) : Prop where
  pile : ∃ vs, PileAt h pa pd vs ∧ Pieces h p l vs
  tabl : ∃ vs ns, h.IsList tb vs.toArray ∧ Are Nt ns vs ∧ Tab p ns
  tkn : ∃ us, h.PlainList tk us.toArray ∧ Are St (List.replicate cnt p) us
  ne : L ≠ pa ∧ L ≠ pd ∧ L ≠ tb ∧ L ≠ tk ∧ pa ≠ tb ∧ pa ≠ tk ∧ pd ≠ tk ∧ tb ≠ tk
theorem LpS.ex {p l cnt L pa pd tb tk X s s'} (f : LpS p l cnt L pa pd tb tk s.heap) (h : Ex X s s') (hX : NoTup s.heap X) (h1 : pa ∉ X) (h2 : pd ∉ X) (h3 : tb ∉ X) (h4 : tk ∉ X) : LpS p l cnt L pa pd tb tk s'.heap := by
  obtain ⟨⟨vs, a1, a2⟩, ⟨ts, ns, b1, b2⟩, ⟨us, c1, c2⟩, e⟩ := f
  exact ⟨⟨vs, h.pile a1 h1 h2, a2.ex h hX⟩, ⟨ts, ns, h.isList b1 h3, b2⟩, ⟨us, h.plainList c1 h4, c2⟩, e⟩
theorem LpS.ex0 {p l cnt L pa pd tb tk s s'} (f : LpS p l cnt L pa pd tb tk s.heap) (h : Ex [] s s') : LpS p l cnt L pa pd tb tk s'.heap := f.ex h .nil (by simp) (by simp) (by simp) (by simp)
theorem LpS.exL {p l cnt L pa pd tb tk s s' m} (f : LpS p l cnt L pa pd tb tk s.heap) (hn : s.heap.Ns L m) (h : Ex [L] s s') : LpS p l cnt L pa pd tb tk s'.heap :=
  f.ex h (.ns hn) (nmem1 f.ne.1.symm) (nmem1 f.ne.2.1.symm) (nmem1 f.ne.2.2.1.symm) (nmem1 f.ne.2.2.2.1.symm)

/-- the last two statements of the turn: the letter is on the pile, k is its state -/
theorem lp_off {p l : List Nat} {cnt : Nat} {L pa pd tb tk : Addr} {c k : Nat} {tp : Tok} {t0 : Tok} {m : Str → Option Value} {vs : List Value} {T : Addr} {u v : Value} (f : Bs s.heap) (hn : s.heap.Ns L m) (m1 : m "word" = some (Tx p tp)) (m2 : m "pile" = some (.ref pa)) (m3 : m "table" = some (.ref tb)) (m4 : m "taken" = some (.ref tk))
    (m5 : m "state" = some (.int (k : Int) t0)) (hwL : Wild L) (hp : PileAt s.heap pa pd (vs ++ [.ref T])) (hpc : Pieces s.heap p l vs) (hT : TupAt s.heap T [u, v]) (hu : St (List.replicate k 32) u) (hv : St [c] v) (htop : IsTop p (l ++ [c]) k)
    (htk : ∃ us, s.heap.PlainList tk us.toArray ∧ Are St (List.replicate cnt p) us) (hne : L ≠ pa ∧ L ≠ pd ∧ L ≠ tb ∧ L ≠ tk ∧ pa ≠ tb ∧ pa ≠ tk ∧ pd ≠ tk ∧ tb ≠ tk)
    (hpl : p.length ≤ 100) (hp0 : 0 < p.length) (hl : l.length ≤ 100) (hc : cnt ≤ 1000) (hd : A.depth < 650) (hA : A.handled = none) :
    W (model Pg w) A (execs (lpBody.drop 6) (callEnv fdPile L 117)) (fun fl s' => fl = .next ∧ Ex [L, pa, tk] s s' ∧ ∃ m' vs' us' cnt', s'.heap.Ns L m' ∧ m' "word" = some (Tx p tp) ∧ m' "pile" = some (.ref pa) ∧ m' "table" = some (.ref tb) ∧ m' "taken" = some (.ref tk) ∧
      PileAt s'.heap pa pd vs' ∧ Pieces s'.heap p (stepF p l c) vs' ∧ s'.heap.PlainList tk us'.toArray ∧ Are St (List.replicate cnt' p) us' ∧ cnt' * p.length + (stepF p l c).length = cnt * p.length + l.length + 1) s := by
  obtain ⟨us, htk, hus⟩ := htk
  obtain ⟨n1, n2, n3, n4, n5, n6, n7, n8⟩ := hne
  have z : p.length ≤ sizeLine := Nat.le_trans hpl (by decide)
  have hkle : k ≤ p.length := htop.suf.1
  refine w_if (b := ((k : Int) == (p.length : Int))) (pe_test cmp_int_eq (pe_locI hn m5) (pe_len_str (pe_len f.gl) (pe_locS hn m1) z)) ?_ ?_
  · intro hb s1 hx1
    have hk : k = p.length := by have := eq_of_beq hb; omega
    subst hk
    have hsuf := top_whole htop
    have hle : p.length ≤ l.length + 1 := by have := hsuf.length_le; simpa using this
    have hn1 := hx1.ns hn (by simp)
    have hp1 := hx1.pile hp (by simp) (by simp)
    have f1 := f.ex0 hx1
    have hvl : vs.length = l.length := hpc.len
    have hpc' : Pieces s.heap p l vs := hpc
    -- the pieces to go off
    refine w_assignE (w_methN f1 hp1 (pe_local hn1 m2) lp_pf f1.popFrom lk_list_pop_from (by decide) (R := fun us => ∃ t, us = [.int ((l.length + 1 - p.length : Nat) : Int) t]) ((peL_cons (pe_sub (pe_part f1 hp1 (pe_local hn1 m2) (by omega)) (pe_len_str (pe_len f1.gl) (pe_locS hn1 m1) z)) peL_nil).mono ?_) ?_)
    · rintro us ⟨x, us', rfl, ⟨t, rfl⟩, rfl⟩
      exact ⟨t, by rw [List.length_append, List.length_singleton, hvl]; congr 2; omega⟩
    rintro us' s2 ⟨t, rfl⟩ hx2
    have x2 := hx1.trans hx2
    have hp2 := x2.pile hp (by simp) (by simp)
    refine (pop_from_walk (f.ex0 x2) hp2 (by rw [List.length_append, List.length_singleton]; omega) (by rw [List.length_append, List.length_singleton]; omega) (by omega)).mono ?_
    rintro r s3 ⟨off, rfl, hx3, hfro, hlo, hp3⟩
    have hn2 := x2.ns hn (by simp)
    refine ⟨_, hx3.ns hn2 (nmem1 n1), fun s4 hx4 hn4 => ?_⟩
    have hoffL : off ≠ L := by rintro rfl; obtain ⟨o, _, _, ho, _⟩ := hn2; rw [hfro] at ho; cases ho
    have htk2 := x2.plainList htk (by simp)
    have hofft : tk ≠ off := by rintro rfl; obtain ⟨n, ho⟩ := htk2; rw [hfro] at ho; cases ho
    have hoffp : off ≠ pa := by rintro rfl; obtain ⟨n, ho⟩ := hp2.obj; rw [hfro] at ho; cases ho
    have hp4 := hx4.pile hp3 (nmem1 n1.symm) (nmem1 n2.symm)
    have hlo4 := hx4.plainList hlo (nmem1 hoffL)
    have htk4 := hx4.plainList (hx3.plainList htk2 (nmem1 n6.symm)) (nmem1 n4.symm)
    have nt3 : NoTup s2.heap [pa] := .pile hp2
    have nt4 : NoTup s3.heap [L] := .ns (hx3.ns hn2 (nmem1 n1))
    have x4 : Ex [L, pa, tk] s s4 := ((x2.lift.trans (hx3.weak (by simp))).trans (hx4.weak fun y hy => by rw [List.mem_singleton.mp hy]; exact List.mem_cons_self ..))
    have f4 : Bs s4.heap := ((f.ex0 x2).ex hx3 (wild1 hp2.wa)).ex hx4 (wild1 hwL)
    -- all pieces, the new one with them
    have hT2 := x2.tups .nil hT
    have hT4 : TupAt s4.heap T [u, v] := hx4.tups nt4 (hx3.tups nt3 hT2)
    have hpc4 : Pieces s4.heap p l vs := ((hpc.ex0 x2).ex hx3 nt3).ex hx4 nt4
    -- every tuple there
    have tups : ∀ (j : Nat) x, ((vs ++ [Value.ref T]).drop (l.length + 1 - p.length))[j]? = some x → ∃ tq a b y, x = .ref tq ∧ TupAt s4.heap tq [a, b] ∧ p[j]? = some y ∧ St [y] b := by
      intro j x hx
      rw [List.getElem?_drop] at hx
      have hpj : ∀ y, (l ++ [c])[l.length + 1 - p.length + j]? = some y → p[j]? = some y := by
        intro y hy
        have := suffix_drop hsuf
        rw [List.length_append, List.length_singleton] at this
        rw [← this, List.getElem?_drop]; exact hy
      by_cases hj : l.length + 1 - p.length + j < vs.length
      · rw [List.getElem?_append_left hj] at hx
        obtain ⟨tq, a, b, _, y, e1, e2, e3, _, e5, _⟩ := hpc4.at_ _ x hx
        refine ⟨tq, a, b, y, e1, e2, hpj y ?_, e5⟩
        rw [List.getElem?_append_left (by omega)]; exact e3
      · have hj0 : l.length + 1 - p.length + j = vs.length := by
          have := (List.getElem?_eq_some_iff.mp hx).1
          rw [List.length_append, List.length_singleton] at this
          omega
        rw [hj0, List.getElem?_append_right (Nat.le_refl _)] at hx
        simp at hx
        subst hx
        refine ⟨T, u, v, c, rfl, hT4, hpj c ?_, hv⟩
        rw [hj0, hvl]; simp
    have hdl : ((vs ++ [Value.ref T]).drop (l.length + 1 - p.length)).length = p.length := by
      rw [List.length_drop, List.length_append, List.length_singleton, hvl]; omega
    refine w_append (pe_local hn4 m4) htk4 (Pe.pr (pe_join (xss := p.map fun y => [y]) (R := fun ys => Are (fun j v => ∃ y, p[j]? = some y ∧ St [y] v) (List.range p.length) ys) (pe_str (l := []) (by decide +kernel)) (Pr.mono (pr_comp (n := p.length) (p := fun _ => true) (cl := []) (P := fun i v => ((vs ++ [Value.ref T]).drop (l.length + 1 - p.length))[i]? = some v) (fx := [off])
      (F := fun j v => ∃ y, p[j]? = some y ∧ St [y] v) (B := fun j m => ∃ v y, m "part" = some v ∧ p[j]? = some y ∧ St [y] v) ?_ ?_ (by omega) rfl) (FreshL.mono fun ys h => ?_)) ?_ ?_)) (by rw [hus.len, List.length_replicate]; omega) ?_
    · intro s5 hx5
      refine it_listT' hdl (pe_local (hx5.ns hn4 (by simp)) rfl) (hx5.plainList hlo4 (by simp)).isList (fun x hx => ?_) hA
      obtain ⟨j, hj⟩ := List.getElem?_of_mem hx
      obtain ⟨tq, _, _, _, e, _⟩ := tups j x hj
      exact ⟨tq, e⟩
    · refine ⟨?_, ?_, ?_⟩
      · intro C j x s5 mC hj hP hC hx5 hnC E Q hq
        obtain ⟨tq, a, b, y, rfl, e2, e3, e4⟩ := tups j x hP
        exact assign_tup2 hA (hx5.tups .nil e2) hnC fun s6 hx6 hn6 => hq s6 _ hx6 hn6 ⟨b, y, rfl, e3, e4⟩
      · intro C j s5 mC hj hB hx5 hnC
        exact tests_nil
      · rintro C j s5 mC hj _ ⟨b, y, e1, e2, e3⟩ hx5 hnC
        exact (pe_local hnC e1).mono fun v hv => ⟨y, e2, hv ▸ e3⟩
    · rw [List.filter_eq_self.mpr (by simp)] at h; exact h
    · intro ys h
      refine ⟨?_, ?_⟩
      · rw [h.len]; simp
      · intro i x v hx hv
        rw [List.getElem?_map] at hx
        cases hpi : p[i]? with
        | none => rw [hpi] at hx; cases hx
        | some y =>
          rw [hpi] at hx; cases hx
          obtain ⟨y', e1, e2⟩ := h.at_ i i v (by rw [List.getElem?_range (List.getElem?_eq_some_iff.mp hpi).1]) hv
          rw [hpi] at e1; cases e1; exact e2
    · rw [flat_ones, List.length_map]; omega
    · rintro x s5 s6 s7 hx5 hxv hx6 hx7 hl7
      rw [flat_ones] at hxv
      have hst : stepF p l c = (l ++ [c]).take (l.length + 1 - p.length) := by unfold stepF; rw [if_pos hsuf]
      have hn6 := hx6.ns hn4 (by simp)
      refine w_nil (w_nil ⟨rfl, (x4.step0 hx6).trans (hx7.weak (by simp)), _, _, _, cnt + 1, hx7.ns hn6 (nmem1 n4), m1, m2, m3, m4, hx7.pile (hx6.pile hp4 (by simp) (by simp)) (nmem1 n6) (nmem1 n7), ?_, hl7, ?_, ?_⟩)
      · rw [hst]
        have h1 := ((hpc4.ex0 hx6).ex hx7 (.plain (hx6.plainList htk4 (by simp)))).take (l.length + 1 - p.length)
        rw [List.take_append_of_le_length (by omega), List.take_append_of_le_length (by omega)]
        exact h1
      · rw [List.replicate_succ', ]
        exact hus.append (.one hxv)
      · rw [hst, List.length_take, List.length_append, List.length_singleton, Nat.min_eq_left (by omega), Nat.succ_mul]; omega
  · intro hb s1 hx1
    have hk : k < p.length := by
      have : ¬ ((k : Int) = (p.length : Int)) := fun e => by rw [e] at hb; simp at hb
      omega
    have hst : stepF p l c = l ++ [c] := by unfold stepF; rw [if_neg (top_not htop hk)]
    refine w_nil (w_nil ⟨rfl, hx1.lift, m, _, us, cnt, hx1.ns hn (by simp), m1, m2, m3, m4, hx1.pile hp (by simp) (by simp), ?_, hx1.plainList htk (by simp), hus, by rw [hst]; simp; omega⟩)
    rw [hst]
    exact (hpc.ex0 hx1).snoc (hx1.tups .nil hT) hu hv htop hk
end Mine
end

section
open PySem PySem.W PyProof.Rows
set_option maxRecDepth 100000
set_option maxHeartbeats 1000000
set_option linter.unusedVariables false
namespace Mine
variable {α β : Type} {w : World} {M : Model} {A : Around} {env : Env} {s s' : Shared}

/-- what a turn leaves -/
def LpEnd (p : List Nat) (tp : Tok) (L pa pd tb tk : Addr) (l : List Nat) (n : Nat) (s s' : Shared) : Prop :=
  Ex [L, pa, tk] s s' ∧ ∃ m' vs' us' cnt', s'.heap.Ns L m' ∧ m' "word" = some (Tx p tp) ∧ m' "pile" = some (.ref pa) ∧ m' "table" = some (.ref tb) ∧ m' "taken" = some (.ref tk) ∧
      PileAt s'.heap pa pd vs' ∧ Pieces s'.heap p l vs' ∧ s'.heap.PlainList tk us'.toArray ∧ Are St (List.replicate cnt' p) us' ∧ cnt' * p.length + l.length = n
theorem LpEnd.from {p tp L pa pd tb tk l n s s1 s'} (h : LpEnd p tp L pa pd tb tk l n s1 s') (hx : Ex [L, pa, tk] s s1) : LpEnd p tp L pa pd tb tk l n s s' := ⟨hx.trans h.1, h.2⟩

theorem memL {X : List Addr} {L : Addr} : ∀ y ∈ [L], y ∈ L :: X := fun y hy => by rw [List.mem_singleton.mp hy]; exact List.mem_cons_self ..

theorem flat_blank (k : Nat) : (List.replicate k [32]).flatten = List.replicate k 32 := by
  induction k with
  | zero => rfl
  | succ k ih => rw [List.replicate_succ, List.flatten_cons, ih]; rfl

theorem lp_tail {p l : List Nat} {cnt : Nat} {L pa pd tb tk : Addr} {c k0 : Nat} {tp t0 tc : Tok} {m : Str → Option Value} (f : Bs s.heap) (hn : s.heap.Ns L m) (m1 : m "word" = some (Tx p tp)) (m2 : m "pile" = some (.ref pa)) (m3 : m "table" = some (.ref tb)) (m4 : m "taken" = some (.ref tk))
    (m5 : m "state" = some (.int (k0 : Int) t0)) (m6 : m "sign" = some (Tx [c] tc)) (hwL : Wild L) (hS : LpS p l cnt L pa pd tb tk s.heap) (htop : IsTop p l k0) (hk0 : k0 < p.length)
    (hpl : p.length ≤ 100) (hl : l.length ≤ 100) (hc : cnt ≤ 1000) (hd : A.depth < 650) (hA : A.handled = none) :
    W (model Pg w) A (execs (lpBody.drop 3) (callEnv fdPile L 117)) (fun fl s' => fl = .next ∧ LpEnd p tp L pa pd tb tk (stepF p l c) (cnt * p.length + l.length + 1) s s') s := by
  have z : p.length ≤ sizeLine := Nat.le_trans hpl (by decide)
  -- what comes after the search
  have key : ∀ s2 m2' k t, Ex [L] s s2 → s2.heap.Ns L m2' → m2' "word" = some (Tx p tp) → m2' "pile" = some (.ref pa) → m2' "table" = some (.ref tb) → m2' "taken" = some (.ref tk) → m2' "sign" = some (Tx [c] tc) → m2' "state" = some (.int ((k : Nat) : Int) t) → IsTop p (l ++ [c]) k →
      W (model Pg w) A (execs (lpBody.drop 5) (callEnv fdPile L 117)) (fun fl s' => fl = .next ∧ LpEnd p tp L pa pd tb tk (stepF p l c) (cnt * p.length + l.length + 1) s s') s2 := by
    intro s2 mm k t hx2 hn2 q1 q2 q3 q4 q6 q5 htop2
    have hk2 : k ≤ p.length := htop2.suf.1
    have f2 : Bs s2.heap := f.ex hx2 (wild1 hwL)
    obtain ⟨⟨vs, hp2, hpc2⟩, _, htk2, hne⟩ := hS.exL hn hx2
    refine w_expr (w_methN f2 hp2 (pe_local hn2 q2) lp_push f2.push lk_list_push (by decide) (R := fun us => ∃ u v, us = [u, v] ∧ St (List.replicate k 32) u ∧ v = Tx [c] tc) ((peL_cons (pe_mul_str (a := [32]) (n := k) (pe_str (by decide +kernel)) (pe_locI hn2 q5) (by simp; omega) (by omega)) (peL_cons (pe_local hn2 q6) peL_nil)).mono ?_) ?_)
    · rintro us ⟨u, _, rfl, hu, v, _, rfl, rfl, rfl⟩
      rw [flat_blank] at hu
      exact ⟨u, _, rfl, hu, rfl⟩
    rintro us s3 ⟨u, v, rfl, hu, rfl⟩ hx3
    have hp3 := hx3.pile hp2 (by simp) (by simp)
    refine (push_walk (f2.ex0 hx3) hp3 (by rw [hpc2.len]; omega) (by omega)).mono ?_
    rintro r s4 ⟨rfl, hx4, T, hfr, hT, hp4⟩
    refine ⟨rfl, ?_⟩
    have hn4 := hx4.ns (hx3.ns hn2 (by simp)) (nmem1 hne.1)
    have f4 := (f2.ex0 hx3).ex hx4 (wild1 hp2.wa)
    have hx24 : Ex [L, pa, tk] s s4 := ((hx2.weak memL).step0 hx3).trans (hx4.weak (by simp))
    obtain ⟨us, htk, hus⟩ := htk2
    refine (lp_off f4 hn4 q1 q2 q3 q4 q5 hwL hp4 ((hpc2.ex0 hx3).ex hx4 (.pile hp3)) hT hu ⟨tc, rfl⟩ htop2 ⟨us, hx4.plainList (hx3.plainList htk (by simp)) (nmem1 hne.2.2.2.2.2.1.symm), hus⟩ hne hpl (by omega) hl hc hd hA).mono ?_
    rintro fl s5 ⟨h1, h2⟩
    exact ⟨h1, LpEnd.from h2 hx24⟩
  refine w_while (fun n s' => ∃ m' j tj, n = j ∧ Ex [L] s s' ∧ s'.heap.Ns L m' ∧ m' "word" = some (Tx p tp) ∧ m' "pile" = some (.ref pa) ∧ m' "table" = some (.ref tb) ∧ m' "taken" = some (.ref tk) ∧ m' "sign" = some (Tx [c] tc) ∧ m' "state" = some (.int ((j : Nat) : Int) tj) ∧ j < p.length ∧ Cand p l c j)
    _ ⟨m, k0, t0, rfl, .refl, hn, m1, m2, m3, m4, m6, m5, hk0, cand_init htop⟩ ?_
  rintro n s1 ⟨mm, j, tj, rfl, hx1, hn1, q1, q2, q3, q4, q6, q5, hj, hcand⟩
  have hS1 := hS.exL hn hx1
  obtain ⟨d, hdj⟩ : ∃ d, p[n]? = some d := ⟨_, List.getElem?_eq_getElem hj⟩
  have cutE : ∀ {s' : Shared}, s'.heap.Ns L mm → ∀ {e1 e2 : Pos} {e3 e4 e5 e6 e7 e8 : Pos}, Pe (model Pg w) A (eval (.Subscript (.Name "word" e1) (.Slice (some (.Name "state" e2)) (some (.BinOp (.Name "state" e3) .Add (.Constant (.int 1) 0 e4) e5)) none e6) e7) (callEnv fdPile L 117)) s' (St [d]) := by
    intro s' hn' e1 e2 e3 e4 e5 e6 e7 e8
    have := pe_slice_str (prog := Pg) (w := w) (A := A) (env := callEnv fdPile L 117) (s := s') (value := .Name "word" e1) (lower := some (.Name "state" e2)) (upper := some (.BinOp (.Name "state" e3) .Add (.Constant (.int 1) 0 e4) e5)) (p := e6) (pos := e7) (x := p) (lo := some n) (hi := some (n + 1)) (pe_locS hn' q1) (pe_locI hn' q5) ((pe_add (pe_locI hn' q5) pe_int).mono fun v hv => hv) z
    rwa [cut_one hdj] at this
  refine ⟨decide ((0 : Int) < (n : Int)) && ([d] != [c]), pe_and (pe_test cmp_int_gt (pe_locI hn1 q5) pe_int) (fun _ => pe_test cmp_str_ne (cutE hn1 (e8 := ⟨0, 0, 0, 0⟩)) (pe_locS hn1 q6)), ?_, ?_⟩
  · intro hb s2 hx2
    rw [Bool.and_eq_true, decide_eq_true_eq] at hb
    have hpos : 0 < n := by omega
    have hne : p[n]? ≠ some c := by rw [hdj]; intro e; cases e; simp at hb
    obtain ⟨_, ⟨vs, ns, hl1, hvs, htab⟩, _, hne1⟩ := hS1.ex0 hx2
    have htn := htab.at_ (n - 1) (by omega)
    rw [show n - 1 + 1 = n by omega] at htn
    obtain ⟨vj, hvj, tj', rfl⟩ := hvs.get (i := n - 1) (x := ns.getD (n - 1) 0) (by rw [List.getD_eq_getElem?_getD, List.getElem?_eq_getElem (by rw [htab.len]; omega)]; rfl)
    have hn2 : s2.heap.Ns L mm := hx2.ns hn1 (by simp)
    refine w_assign hn2 (pe_item (k := n - 1) (pe_local hn2 q3) hl1 ((pe_sub (pe_locI hn2 q5) pe_int).mono ?_) hvj (by omega)) ?_
    · rintro v ⟨u, rfl⟩; exact ⟨u, by congr 1; omega⟩
    rintro _ s3 rfl hx3 hn3
    have hlt := top_lt hpos (by omega) htn
    refine w_nil ⟨_, hlt, _, ns.getD (n - 1) 0, tj', rfl, (hx1.step0 hx2).trans hx3, hn3, q1, q2, q3, q4, q6, rfl, by omega, cand_fall hcand hne hpos htn⟩
  · intro hb s2 hx2
    refine w_nil ?_
    have hn2 : s2.heap.Ns L mm := hx2.ns hn1 (by simp)
    refine w_if (b := ([d] == [c])) (pe_test cmp_str_eq (cutE hn2 (e8 := ⟨0, 0, 0, 0⟩)) (pe_locS hn2 q6)) ?_ ?_
    · intro he s3 hx3
      have he : p[n]? = some c := by rw [hdj]; simp at he; rw [he]
      have hn3 : s3.heap.Ns L mm := hx3.ns hn2 (by simp)
      refine w_inc hn3 q5 pe_int ?_
      intro t' s4 hx4 hn4
      refine w_nil (key s4 _ (n + 1) t' (((hx1.step0 hx2).step0 hx3).trans hx4) hn4 q1 q2 q3 q4 q6 rfl (cand_hit hcand he))
    · intro he s3 hx3
      have he : p[n]? ≠ some c := by rw [hdj]; intro e; cases e; simp at he
      have h0 : n = 0 := by
        by_cases h0 : n = 0
        · exact h0
        · exfalso
          have : ([d] != [c]) = true := by
            simp; intro e; exact he (by rw [hdj, e])
          rw [this, Bool.and_true] at hb
          have := of_decide_eq_false hb
          omega
      subst h0
      exact w_nil (key s3 mm 0 tj ((hx1.step0 hx2).step0 hx3) (hx3.ns hn2 (by simp)) q1 q2 q3 q4 q6 q5 (cand_miss hcand he))
end Mine
end

section
open PySem PySem.W PyProof.Rows
set_option maxRecDepth 100000
set_option maxHeartbeats 1000000
set_option linter.unusedVariables false
namespace Mine
variable {α β : Type} {w : World} {M : Model} {A : Around} {env : Env} {s s' : Shared}

theorem ne_of_fresh {h : Heap} {a b : Addr} {o : Obj} (ha : h.get? a = none) (hb : h.get? b = some o) : a ≠ b := fun e => by rw [e, hb] at ha; cases ha

/-- a whole turn of the pile's loop -/
theorem lp_turn {p l : List Nat} {cnt : Nat} {L pa pd tb tk : Addr} {c : Nat} {tp tc : Tok} {m : Str → Option Value} (f : Bs s.heap) (hn : s.heap.Ns L m) (m1 : m "word" = some (Tx p tp)) (m2 : m "pile" = some (.ref pa)) (m3 : m "table" = some (.ref tb)) (m4 : m "taken" = some (.ref tk))
    (m6 : m "sign" = some (Tx [c] tc)) (hwL : Wild L) (hS : LpS p l cnt L pa pd tb tk s.heap)
    (hpl : p.length ≤ 100) (hp0 : 0 < p.length) (hl : l.length ≤ 100) (hc : cnt ≤ 1000) (hd : A.depth < 650) (hA : A.handled = none) :
    W (model Pg w) A (execs lpBody (callEnv fdPile L 117)) (fun fl s' => fl = .next ∧ LpEnd p tp L pa pd tb tk (stepF p l c) (cnt * p.length + l.length + 1) s s') s := by
  obtain ⟨⟨vs, hp, hpc⟩, htb, htk, hne⟩ := id hS
  refine w_assignE (w_meth0 f hp (pe_local hn m2) lp_pop f.pop lk_list_pop (by decide) fun s1 hx1 => ((pop_walk (f.ex0 hx1) (hx1.pile hp (by simp) (by simp)) (by rw [hpc.len]; omega) (by omega)).mono ?_))
  rintro r s2 (⟨rfl, hx2, T, t1, t2, rfl, hfr, hT⟩ | ⟨us, rfl, hx2, hp2⟩)
  · -- nothing there
    have x2 := hx1.trans hx2
    have hl0 : l = [] := List.length_eq_zero_iff.mp (by rw [← hpc.len]; rfl)
    subst hl0
    have hn2 := x2.ns hn (by simp)
    refine ⟨m, hn2, fun s3 hx3 hn3 => ?_⟩
    have hT3 : TupAt s3.heap T [Tx [] t1, Tx [] t2] := hx3.tups (.ns hn2) hT
    have x3 : Ex [L] s s3 := x2.lift.trans hx3
    have f3 := f.ex x3 (wild1 hwL)
    refine w_assign hn3 (pe_len_str (x := []) (pe_len f3.gl) ((pe_titem (k := 0) (pe_local hn3 rfl) hT3 pe_int rfl (by omega)).mono fun v hv => ⟨t1, hv⟩) (Nat.zero_le _)) ?_
    rintro _ s4 ⟨t4, rfl⟩ hx4 hn4
    have hT4 : TupAt s4.heap T [Tx [] t1, Tx [] t2] := hx4.tups (.ns hn3) hT3
    refine w_if (b := (([] : List Nat) != [])) (pe_test cmp_str_ne ((pe_titem (k := 1) (pe_local hn4 rfl) hT4 pe_int rfl (by omega)).mono fun v hv => ⟨t2, hv⟩) (pe_str (l := []) (by decide +kernel))) ?_ ?_
    · intro hb; simp at hb
    intro _ s5 hx5
    have x5 : Ex [L] s s5 := (x3.trans hx4).step0 hx5
    refine w_nil ((lp_tail (k0 := 0) (f.ex x5 (wild1 hwL)) (hx5.ns hn4 (by simp)) m1 m2 m3 m4 rfl m6 hwL (hS.exL hn x5) (top_nil p) hp0 hpl hl hc hd hA).mono ?_)
    rintro fl s6 ⟨h1, h2⟩
    exact ⟨h1, h2.from (x5.weak memL)⟩
  · -- the uppermost piece
    have hlast : (us ++ [r])[us.length]? = some r := by simp
    obtain ⟨T, u, v, k0, x, rfl, hT, hx, ⟨tu, hu⟩, ⟨tv, hv⟩, htop, hk0⟩ := hpc.at_ us.length r hlast
    have hlen : us.length + 1 = l.length := by rw [← hpc.len]; simp
    have hll : l = l.take us.length ++ [x] := by
      have h1 : l.take (us.length + 1) = l.take us.length ++ [x] := by rw [List.take_add_one, hx]; rfl
      rwa [List.take_of_length_le (by omega)] at h1
    have htop' : IsTop p l k0 := by rwa [List.take_of_length_le (by omega)] at htop
    have hp1 := hx1.pile hp (by simp) (by simp)
    have hx12 : Ex [pa] s s2 := hx1.lift.trans hx2
    have hn2 := hx12.ns hn (nmem1 hne.1)
    have hT2 : TupAt s2.heap T [u, v] := hx12.tups (.pile hp) hT
    have hpc2 : Pieces s2.heap p (l.take us.length) us := by
      have := (hpc.ex hx12 (.pile hp)).take us.length
      rwa [List.take_left' rfl] at this
    refine ⟨m, hn2, fun s3 hx3 hn3 => ?_⟩
    have nL : NoTup s2.heap [L] := .ns hn2
    have hT3 : TupAt s3.heap T [u, v] := hx3.tups nL hT2
    have x3 : Ex [L, pa, tk] s s3 := (hx12.weak (by simp)).trans (hx3.weak memL)
    have f2 := f.ex hx12 (wild1 hp.wa)
    have f3 := f2.ex hx3 (wild1 hwL)
    refine w_assign hn3 (pe_len_str (x := List.replicate k0 32) (pe_len f3.gl) ((pe_titem (k := 0) (pe_local hn3 rfl) hT3 pe_int rfl (by omega)).mono fun v hv => ⟨tu, hv.trans hu⟩) (by rw [List.length_replicate]; simp only [sizeLine]; omega)) ?_
    rintro _ s4 ⟨t4, rfl⟩ hx4 hn4
    have hT4 : TupAt s4.heap T [u, v] := hx4.tups (.ns hn3) hT3
    have x4 : Ex [L, pa, tk] s s4 := x3.trans (hx4.weak memL)
    have f4 := f3.ex hx4 (wild1 hwL)
    refine w_if (b := ([x] != [])) (pe_test cmp_str_ne ((pe_titem (k := 1) (pe_local hn4 rfl) hT4 pe_int rfl (by omega)).mono fun w hw => ⟨tv, hw.trans hv⟩) (pe_str (l := []) (by decide +kernel))) ?_ ?_
    rotate_left
    · intro hb; simp at hb
    intro _ s5 hx5
    have hn5 := hx5.ns hn4 (by simp)
    have hT5 := hx5.tups .nil hT4
    have hx25 : Ex [L] s2 s5 := (hx3.trans hx4).step0 hx5
    have hp5 := hx25.pile hp2 (nmem1 hne.1.symm) (nmem1 hne.2.1.symm)
    have f5 := f4.ex0 hx5
    refine w_expr (w_methN f5 hp5 (pe_local hn5 m2) lp_push f5.push lk_list_push (by decide) (R := fun q => q = [u, v]) ((peL_cons (pe_titem (k := 0) (pe_local hn5 rfl) hT5 pe_int rfl (by omega)) (peL_cons (pe_titem (k := 1) (pe_local hn5 rfl) hT5 pe_int rfl (by omega)) peL_nil)).mono ?_) ?_)
    · rintro q ⟨_, _, rfl, rfl, _, _, rfl, rfl, rfl⟩; rfl
    rintro q s6 rfl hx6
    have hp6 := hx6.pile hp5 (by simp) (by simp)
    refine (push_walk (f5.ex0 hx6) hp6 (by omega) (by omega)).mono ?_
    rintro r s7 ⟨rfl, hx7, T7, hfr7, hT7, hp7⟩
    have hpc7 : Pieces s7.heap p l (us ++ [.ref T7]) := by
      have h1 := (((hpc2.ex hx25 nL).ex0 hx6).ex hx7 (.pile hp6)).snoc (k := k0) hT7 ⟨tu, hu⟩ ⟨tv, hv⟩ (by rw [← hll]; exact htop') hk0
      rwa [← hll] at h1
    have x7 : Ex [L, pa, tk] s s7 := ((x4.step0 hx5).step0 hx6).trans (hx7.weak (by simp))
    have hx27 : Ex [L, pa] s2 s7 := ((hx25.weak memL).step0 hx6).trans (hx7.weak (by simp))
    have hx17 : Ex [L, pa] s s7 := (hx12.weak (by simp)).trans hx27
    have nLpa : ∀ {a}, a ≠ L → a ≠ pa → a ∉ [L, pa] := fun h1 h2 hm => by
      rcases List.mem_cons.mp hm with h | h
      · exact h1 h
      · exact h2 (List.mem_singleton.mp h)
    obtain ⟨tvs, ns, htb1, htb2⟩ := htb
    obtain ⟨tus, htk1, htk2⟩ := htk
    have hS7 : LpS p l cnt L pa pd tb tk s7.heap := ⟨⟨_, hp7, hpc7⟩, ⟨tvs, ns, hx17.isList htb1 (nLpa hne.2.2.1.symm hne.2.2.2.2.1.symm), htb2⟩, ⟨tus, hx17.plainList htk1 (nLpa hne.2.2.2.1.symm hne.2.2.2.2.2.1.symm), htk2⟩, hne⟩
    refine ⟨rfl, w_nil ((lp_tail (k0 := k0) (t0 := t4) ((f5.ex0 hx6).ex hx7 (wild1 hp.wa)) (hx7.ns (hx6.ns hn5 (by simp)) (nmem1 hne.1)) m1 m2 m3 m4 ?_ m6 hwL hS7 htop' hk0 hpl hl hc hd hA).mono ?_)⟩
    · show some _ = some _
      rw [List.length_replicate]
    rintro fl s8 ⟨h1, h2⟩
    exact ⟨h1, h2.from x7⟩
end Mine
end

section
open PySem PySem.W PyProof.Rows
set_option maxRecDepth 100000
set_option maxHeartbeats 1000000
set_option linter.unusedVariables false
namespace Mine
variable {α β : Type} {w : World} {M : Model} {A : Around} {env : Env} {s s' : Shared}

theorem pile_walk (f : Bs s.heap) (p tx : List Nat) (tp tt : Tok) (hpl : p.length ≤ 100) (hp0 : 0 < p.length) (ht : tx.length ≤ 100) (hd : A.depth < 600) (hA : A.handled = none) :
    W (model Pg w) A (runValue (.call (.ref 117) ⟨[Tx p tp, Tx tx tt], []⟩)) (fun v s' => Ex [] s s' ∧ ∃ T pa pd tk vs us cnt, v = .ref T ∧ TupAt s'.heap T [.ref pa, .ref tk] ∧ s.heap.get? pa = none ∧ s.heap.get? pd = none ∧ s.heap.get? tk = none ∧ PileAt s'.heap pa pd vs ∧ Pieces s'.heap p (stackF p tx) vs ∧
      s'.heap.PlainList tk us.toArray ∧ Are St (List.replicate cnt p) us ∧ cnt * p.length + (stackF p tx).length = tx.length) s := by
  obtain ⟨o, h1, h2, _⟩ := f.pile.at_
  have h3 := f.pile.rec_
  refine w_call (binds := [("word", Tx p tp), ("text", Tx tx tt)]) (by simp only [recursionLimit]; omega) h1 h2 f.lim h3 (body := bodyOf (stm 7)) rfl (.of_eq rfl) (fun s1 hx hsz hn1 => ?_)
  have f1 := f.ex0 hx
  have hd' : (A.deeper (callEnv fdPile s.heap.objs.size 117)).depth < 650 := by show A.depth + 1 < 650; omega
  have hA' : (A.deeper (callEnv fdPile s.heap.objs.size 117)).handled = none := hA
  have hwL := f.wild hsz
  refine w_assignE (w_callF (pe_gl f1.gl lp_tab) f1.tab (peL_cons (pe_local hn1 rfl) peL_nil) ?_)
  rintro _ s2 ⟨_, _, rfl, rfl, rfl⟩ hx2
  refine (tab_walk (f1.ex0 hx2) p tp hpl hp0 (by omega) hA').mono ?_
  rintro _ s3 ⟨hx3, tb, tvs, ns, rfl, hfrT, htb, htvs, htab⟩
  have hn3 := (hx2.trans hx3).ns hn1 (by simp)
  refine ⟨_, hn3, fun s4 hx4 hn4 => ?_⟩
  have x4 : Ex [] s s4 := (hx.trans (hx2.trans hx3)).fr hx4 hsz
  have f4 := f.ex0 x4
  have htbL : s.heap.objs.size ≠ tb := by
    obtain ⟨o, _, _, ho, _⟩ := hx2.ns hn1 (by simp)
    exact (ne_of_fresh hfrT ho).symm
  have htb4 := hx4.isList htb (nmem1 htbL.symm)
  refine w_assignE (w_newAcc f4 (pe_gl f4.gl lp_acc) (by omega) fun pa pd s5 e1 e2 hx5 hp5 => ?_)
  have hn5 := hx5.ns hn4 (by simp)
  have npaL : s.heap.objs.size ≠ pa := by obtain ⟨o, _, _, ho, _⟩ := hn4; exact (ne_of_fresh e1 ho).symm
  have npdL : s.heap.objs.size ≠ pd := by obtain ⟨o, _, _, ho, _⟩ := hn4; exact (ne_of_fresh e2 ho).symm
  have npat : pa ≠ tb := by obtain ⟨o, ho, _⟩ := htb4; exact ne_of_fresh e1 ho
  refine ⟨_, hn5, fun s6 hx6 hn6 => ?_⟩
  have x6 : Ex [] s s6 := (x4.trans hx5).fr hx6 hsz
  have hp6 := hx6.pile hp5 (nmem1 npaL.symm) (nmem1 npdL.symm)
  have htb6 := hx6.isList (hx5.isList htb4 (by simp)) (nmem1 htbL.symm)
  refine w_assignE ((pr_list peL_nil (fun vs h => by rw [h]; exact Nat.zero_le _)).run ?_)
  rintro _ s7 ⟨tk, _, rfl, hfr7, hl7, rfl⟩ hx7
  refine ⟨_, hx7.ns hn6 (by simp), fun s8 hx8 hn8 => ?_⟩
  have ntkL : s.heap.objs.size ≠ tk := by obtain ⟨o, _, _, ho, _⟩ := hn6; exact (ne_of_fresh hfr7 ho).symm
  have npatk : pa ≠ tk := by obtain ⟨n, ho⟩ := hp6.obj; exact (ne_of_fresh hfr7 ho).symm
  have npdtk : pd ≠ tk := by obtain ⟨t, o, _, _, ho, _⟩ := hp6.ns; exact (ne_of_fresh hfr7 ho).symm
  have ntbtk : tb ≠ tk := by obtain ⟨o, ho, _⟩ := htb6; exact (ne_of_fresh hfr7 ho).symm
  have x8 : Ex [] s s8 := (x6.trans hx7).fr hx8 hsz
  have hS8 : LpS p (stackF p (tx.take 0)) 0 s.heap.objs.size pa pd tb tk s8.heap := ⟨⟨[], hx8.pile (hx7.pile hp6 (by simp) (by simp)) (nmem1 npaL.symm) (nmem1 npdL.symm), .nil⟩, ⟨tvs, ns, hx8.isList (hx7.isList htb6 (by simp)) (nmem1 htbL.symm), htvs, htab⟩,
    ⟨[], hx8.plainList hl7 (nmem1 ntkL.symm), by simpa using Are.nil⟩, npaL, npdL, htbL, ntkL, npat, npatk, npdtk, ntbtk⟩
  have hL8 : ∃ o, s8.heap.get? s.heap.objs.size = some o := let ⟨o, _, _, ho, _⟩ := hn8; ⟨o, ho⟩
  have hpa8 : ∃ o, s8.heap.get? pa = some o := let ⟨vs, h, _⟩ := hS8.pile; let ⟨n, ho⟩ := h.obj; ⟨_, ho⟩
  have hpd8 : ∃ o, s8.heap.get? pd = some o := let ⟨vs, h, _⟩ := hS8.pile; let ⟨t, o, _, _, ho, _⟩ := h.ns; ⟨_, ho⟩
  have htb8 : ∃ o, s8.heap.get? tb = some o := let ⟨vs, _, h, _⟩ := hS8.tabl; let ⟨o, ho, _⟩ := h; ⟨_, ho⟩
  have htk8 : ∃ o, s8.heap.get? tk = some o := let ⟨vs, h, _⟩ := hS8.tkn; let ⟨o, ho⟩ := h; ⟨_, ho⟩
  have hpaF : s.heap.get? pa = none := x4.old0 e1
  have htkF : s.heap.get? tk = none := x6.old0 hfr7
  refine w_forX (Y := [s.heap.objs.size, pa, tk]) (itx_str (pe_locS hn8 rfl) hA') ?_ (List.mem_cons_self ..)
    (fun i m s2 => Ex [] s s2 ∧ m "word" = some (Tx p tp) ∧ m "pile" = some (.ref pa) ∧ m "table" = some (.ref tb) ∧ m "taken" = some (.ref tk) ∧ ∃ cnt, LpS p (stackF p (tx.take i)) cnt s.heap.objs.size pa pd tb tk s2.heap ∧ cnt * p.length + (stackF p (tx.take i)).length = i) ?_ ?_ ?_
  · intro y hy
    rcases List.mem_cons.mp hy with rfl | hy
    · exact ⟨hL8, by simp⟩
    rcases List.mem_cons.mp hy with rfl | hy
    · exact ⟨hpa8, by simp⟩
    · rw [List.mem_singleton.mp hy]; exact ⟨htk8, by simp⟩
  · intro s9 hx9
    exact ⟨_, hx9.ns hn8 (by simp), x8.step0 hx9, rfl, rfl, rfl, rfl, 0, hS8.ex0 hx9, by simp [stackF]⟩
  · rintro i v wr m s9 s10 hi ⟨c, hc, tc, rfl⟩ ⟨x9, m1, m2, m3, m4, cnt, hS9, hcnt⟩ hwr hnt hx10 hn10
    have x10 : Ex [] s s10 := x9.step hx10 (fresh_mem hsz fun b hb => x8.old0 (hwr b hb))
    have out : ∀ a, (∃ o, s8.heap.get? a = some o) → s.heap.objs.size ≠ a → a ∉ s.heap.objs.size :: wr := by
      intro a ⟨o, ho⟩ hne hm
      rcases List.mem_cons.mp hm with h | h
      · exact hne h.symm
      · rw [hwr a h] at ho; cases ho
    have hS10 := hS9.ex hx10 hnt (out _ hpa8 npaL) (out _ hpd8 npdL) (out _ htb8 htbL) (out _ htk8 ntkL)
    have hcl : cnt ≤ i := by
      have : cnt * 1 ≤ cnt * p.length := Nat.mul_le_mul_left _ hp0
      omega
    refine (lp_turn (c := c) (tc := tc) (f.ex0 x10) hn10 m1 m2 m3 m4 rfl hwL hS10 hpl hp0 (by omega) (by omega) hd' hA').mono ?_
    rintro fl s11 ⟨rfl, hx11, m', vs', us', cnt', hn11, q1, q2, q3, q4, hp11, hpc11, htk11, hus11, hc11⟩
    have hst : stackF p (tx.take (i + 1)) = stepF p (stackF p (tx.take i)) c := by
      rw [List.take_add_one, hc]; exact stackF_snoc ..
    refine ⟨hx11, m', hn11, x10.step hx11 ?_, q1, q2, q3, q4, cnt', ?_, by rw [hst]; omega⟩
    · intro y hy
      rcases List.mem_cons.mp hy with rfl | hy
      · exact .inr hsz
      rcases List.mem_cons.mp hy with rfl | hy
      · exact .inr hpaF
      · rw [List.mem_singleton.mp hy]; exact .inr htkF
    · rw [hst]
      obtain ⟨tvs, ns, g1, g2⟩ := hS10.tabl
      refine ⟨⟨vs', hp11, hpc11⟩, ⟨tvs, ns, hx11.isList g1 ?_, g2⟩, ⟨us', htk11, hus11⟩, hS10.ne⟩
      intro hm
      rcases List.mem_cons.mp hm with h | h
      · exact htbL h.symm
      rcases List.mem_cons.mp h with h | h
      · exact npat h.symm
      · exact ntbtk (List.mem_singleton.mp h)
  · rintro wr m s9 s10 hn10 ⟨x9, m1, m2, m3, m4, cnt, hS9, hcnt⟩ hwr hnt hx10
    have x10 : Ex [] s s10 := x9.step hx10 fun y hy => .inr (x8.old0 (hwr y hy))
    have out : ∀ a, (∃ o, s8.heap.get? a = some o) → a ∉ wr := by
      intro a ⟨o, ho⟩ hm
      rw [hwr a hm] at ho; cases ho
    have hS10 := hS9.ex hx10 hnt (out _ hpa8) (out _ hpd8) (out _ htb8) (out _ htk8)
    rw [List.take_of_length_le (Nat.le_refl _)] at hS10 hcnt
    refine w_retR (pr_tuple (k := 0) (R := fun l => l = [.ref pa, .ref tk]) ((peL_cons (pe_local hn10 m2) (peL_cons (pe_local hn10 m4) peL_nil)).mono ?_) (fun l hl => by rw [hl]; exact (show 2 ≤ sizeLine by decide))) ?_
    · rintro q ⟨_, _, rfl, rfl, _, _, rfl, rfl, rfl⟩; rfl
    rintro v s11 ⟨T, _, rfl, hfrT, hT, rfl⟩ hx11
    obtain ⟨⟨vs, hp11, hpc11⟩, _, ⟨us, htk11, hus⟩, _⟩ := hS10.ex0 hx11
    exact ⟨x10.trans hx11, T, pa, pd, tk, vs, us, cnt, rfl, hT, hpaF, x4.old0 e2, htkF, hp11, hpc11, htk11, hus, hcnt⟩
end Mine
end

section
open PySem PySem.W PyProof.Rows
set_option maxRecDepth 100000
set_option maxHeartbeats 1000000
set_option linter.unusedVariables false
namespace Mine
variable {α β : Type} {w : World} {M : Model} {prog : Program} {A : Around} {env : Env} {s s' : Shared}

/-- iter(pile) -/
theorem pile_iter {a d : Addr} {vs : List Value} {Q : Value → Shared → Prop} {E : Value → Shared → Prop} (f : Bs s.heap) (hp : PileAt s.heap a d vs)
    (hQ : Q (.ref s.heap.objs.size) { s with heap := s.heap.push { cls := .type "list_iterator", data := .fields #[.ref a, .int 0 0] } }) : wpAny (model prog w) A (pyIter (.ref a)) Q E s := by
  obtain ⟨⟨n, hx⟩, _, _, _, _⟩ := id hp
  have hlk : typeLookup (.type "list") "__iter__" = pure (some (.builtin "list.__iter__")) := slot_list_iter.lookup
  have hcl : clsTab.lookup (Str.ofString "__iter__") = none := by decide +kernel
  have hsp : ∀ (Q : Option Value → Shared → Prop) (E : Value → Shared → Prop), Q (some (.builtin "list.__iter__")) s → wpAny (model prog w) A (specialOf (.ref a) "__iter__") Q E s := by
    intro Q E hq
    unfold specialOf
    refine wpAny_bind (m := typeOf (.ref a)) (wpAny_bind (wpAny_loadPart hx (wpAny_pure (tl f hlk ?_))))
    rw [hcl]; exact hq
  unfold pyIter
  refine wpAny_bind (hsp _ _ ?_)
  show wpAny _ _ (callSpecialIfBoundUnlessNone? (.ref a) "__iter__" _ >>= _) _ _ _
  refine wpAny_bind ?_
  simp only [callSpecialIfBoundUnlessNone?, bindSpecialIfBound?]
  refine wpAny_holding (wpAny_bind (wpAny_bind (hsp _ _ ?_)))
  simp only [slot_list_iter.bind]
  refine wpAny_bind (wpAny_askSetting (wpAny_ite ?_))
  have fin : ∀ {refuse : Sem Value} {Q' : Option Value → Shared → Prop} {E' : Value → Shared → Prop}, Q' (some (.ref s.heap.objs.size)) { s with heap := s.heap.push { cls := .type "list_iterator", data := .fields #[.ref a, .int 0 0] } } →
      wpAny (model prog w) A (if (Value.builtin "list.__iter__" == Value.none) = true then (refuse >>= fun v => pure (some v)) else (call (.builtin "list.__iter__") [.ref a] >>= fun v => pure (some v))) Q' E' s := by
    intro refuse Q' E' hq
    simp only [builtin_beq_none, Bool.false_eq_true, if_false]
    refine wpAny_bind (pile_call f hp (.inl (by decide +kernel)) (n := "__iter__") (by decide +kernel) (by decide +kernel) entry_list_iter (args_list_iter _) ?_)
    show wpAny _ _ (do ret (← newFields "list_iterator" [.ref a, rawInt 0])) _ _ s
    exact wpAny_bind (wpAny_newObj_type (wpAny_pure ⟨_, rfl, wpAny_pure hq⟩))
  have last : wpAny (model prog w) A (specialOf (.ref s.heap.objs.size) "__next__" >>= fun r => match r with
      | none => do
        rule "iter.non-iterator"
        raiseError "TypeError" s!"iter() returned non-iterator of type '{← typeNameOf (.ref s.heap.objs.size)}'"
      | some _ => pure (Value.ref s.heap.objs.size)) Q E { s with heap := s.heap.push { cls := .type "list_iterator", data := .fields #[.ref a, .int 0 0] } } :=
    wpAny_bind (wpAny_specialOf (T := "list_iterator") ⟨_, Heap.get?_push_size _ rfl, rfl⟩ slot_listiter_next.lookup (wpAny_pure hQ))
  split
  · exact wpAny_bind (wpAny_pure (wpAny_pure (fin last)))
  · exact wpAny_tryCatch (wpAny_bind (wpAny_pure (wpAny_pure (fin last))))

/-- the iterator steps on any object that holds a row of values -/
theorem seq_next_item {it l : Addr} {i : Nat} {items : Array Value} {x : Value} {ol : Obj} {nl : Nat} {Q : Option Value → Shared → Prop} {E : Value → Shared → Prop} (hit : s.heap.IsListIter it l i)
    (hol : s.heap.get? l = some ol) (hdl : ol.data = .seq items nl) (hx : items[i]? = some x)
    (hQ : ∀ h', h'.IsListIter it l (i + 1) → Heap.SameBut it s.heap h' → Q (some x) { s with heap := h' }) : wpAny (model prog w) A (pyNext (.ref it)) Q E s := by
  obtain ⟨o, ho, hc, hd⟩ := id hit
  unfold pyNext
  refine wpAny_bind (wpAny_attempt (wpAny_callSpecial?_slot (name := Str.ofString "__next__") hit.typeIs slot_listiter_next (wpAny_call_entry slot_listiter_next hit.typeIs entry_listiter_next ?_ (args_listiter_next _))))
  show wpAny _ _ (field (.ref it) 0 >>= _) _ _ s
  refine wpAny_bind (wpAny_field ho hd (x := .ref l) rfl ?_)
  show wpAny _ _ (if (Value.ref l == Value.none) = true then _ else _) _ _ s
  rw [if_neg (show ¬ ((Value.ref l == Value.none) = true) from Bool.false_ne_true)]
  show wpAny _ _ (field (.ref it) 1 >>= _) _ _ s
  refine wpAny_bind (wpAny_field ho hd (x := .int i 0) rfl ?_)
  show wpAny _ _ (seqItems? (.ref l) >>= _) _ _ s
  refine wpAny_bind (wpAny_seqItems hol hdl ?_)
  simp only [Int.toNat_natCast, hx]
  refine wpAny_bind (wpAny_setField ho hd (by simp) (wpAny_pure ⟨x, rfl, wpAny_pure (hQ _ ?_ (Heap.SameBut.update ..))⟩))
  exact ⟨_, Heap.get?_update_self _ ho (Obj.isFreed_of_fields (Obj.data_mapFields hd _)), (Obj.cls_mapFields ..).trans hc, by rw [Obj.data_mapFields hd]; simp [rawInt]⟩

theorem seq_next_end {it l : Addr} {i : Nat} {items : Array Value} {ol : Obj} {nl : Nat} {Q : Option Value → Shared → Prop} {E : Value → Shared → Prop} (hh : A.handled = none) (hit : s.heap.IsListIter it l i)
    (hol : s.heap.get? l = some ol) (hdl : ol.data = .seq items nl) (hx : items[i]? = none)
    (hQ : ∀ h', Heap.ExtBut it s.heap h' → Q none { s with heap := h' }) : wpAny (model prog w) A (pyNext (.ref it)) Q E s := by
  obtain ⟨o, ho, hc, hd⟩ := id hit
  unfold pyNext
  refine wpAny_bind (wpAny_attempt (wpAny_callSpecial?_slot (name := Str.ofString "__next__") hit.typeIs slot_listiter_next (wpAny_call_entry slot_listiter_next hit.typeIs entry_listiter_next ?_ (args_listiter_next _))))
  show wpAny _ _ (field (.ref it) 0 >>= _) _ _ s
  refine wpAny_bind (wpAny_field ho hd (x := .ref l) rfl ?_)
  show wpAny _ _ (if (Value.ref l == Value.none) = true then _ else _) _ _ s
  rw [if_neg (show ¬ ((Value.ref l == Value.none) = true) from Bool.false_ne_true)]
  show wpAny _ _ (field (.ref it) 1 >>= _) _ _ s
  refine wpAny_bind (wpAny_field ho hd (x := .int i 0) rfl ?_)
  show wpAny _ _ (seqItems? (.ref l) >>= _) _ _ s
  refine wpAny_bind (wpAny_seqItems hol hdl ?_)
  simp only [Int.toNat_natCast, hx]
  refine wpAny_bind (wpAny_rule (wpAny_bind (wpAny_setField ho hd (by simp) ?_)))
  show wpAny _ _ (newExc (.type "StopIteration") [] >>= _) _ _ _
  refine wpAny_bind ?_
  simp only [newExc, newTuple]
  refine wpAny_bind (wpAny_newObj_type ?_ (by size_fits))
  refine wpAny_bind (m := firstArgMember _ _) (wpAny_of_eq (a := Value.none) (by first | rfl | (simp only [firstArgMember]; rfl)) ?_)
  refine wpAny_newObj_type ?_ (by size_fits)
  simp only [raiseNew]
  refine wpAny_bind (wpAny_handled ?_)
  rw [show A.in1.handled = none from hh]
  refine wpAny_bind (wpAny_pure (wpAny_throw ?_))
  refine wpAny_bind (wpAny_isInstance (T := "StopIteration") (b := true) ⟨_, Heap.get?_push_size _ rfl, rfl⟩ isSubtype_stop ?_)
  exact wpAny_pure (hQ _ (((Heap.SameBut.update ..).extBut.push _).push _))

abbrev Pc := Addr × Value × Value
noncomputable def refs (tvs : List Pc) : List Value := tvs.map fun t => Value.ref t.1
theorem refs_get {tvs : List Pc} {j : Nat} {t : Pc} (h : tvs[j]? = some t) : (refs tvs).toArray[j]? = some (.ref t.1) := by simp [refs, h]

structure PileIt (tvs : List Pc) (I a d : Addr) (j : Nat) (h : Heap) : Prop where
  it : h.IsListIter I a j
  sq : ∃ n, h.get? a = some { cls := .ref 101, dict := some d, data := .seq (refs tvs).toArray n, slots := #[] }
  tup : ∀ t ∈ tvs, TupAt h t.1 [t.2.1, t.2.2]
theorem walksU_pile {tvs : List Pc} {I a d : Addr} (hh : A.handled = none) (haI : a ≠ I) (hTI : ∀ t ∈ tvs, t.1 ≠ I) :
    WalksU prog w A I (I :: a :: tvs.map (·.1)) [I] tvs.length (fun j vals => ∃ t, tvs[j]? = some t ∧ vals = #[t.2.1, t.2.2]) (PileIt tvs I a d) (fun j T h => (∃ t, tvs[j]? = some t ∧ T = t.1) ∧ PileIt tvs I a d (j + 1) h) where
  sub := fun b hb => by rw [List.mem_singleton.mp hb]; exact List.mem_cons_self ..
  frame := fun i h h' st hk => ⟨st.it.at fun o e => hk I (by simp) o e, let ⟨n, e⟩ := st.sq; ⟨n, hk a (by simp) _ e⟩,
    fun t ht => hk t.1 (List.mem_cons_of_mem _ (List.mem_cons_of_mem _ (List.mem_map.mpr ⟨t, ht, rfl⟩))) _ (st.tup t ht)⟩
  item := fun i s Q E hi st hQ => by
    obtain ⟨t, ht⟩ : ∃ t, tvs[i]? = some t := ⟨_, List.getElem?_eq_getElem hi⟩
    obtain ⟨n, e⟩ := st.sq
    have hm : t ∈ tvs := List.mem_of_getElem? ht
    refine seq_next_item st.it e rfl (refs_get ht) fun h' hit' hs' => ?_
    have tup : ∀ t ∈ tvs, TupAt h' t.1 [t.2.1, t.2.2] := fun t ht => (hs'.2 t.1 (hTI t ht)).trans (st.tup t ht)
    refine hQ t.1 #[t.2.1, t.2.2] h' s.toks ⟨t, ht, rfl⟩ (tup t hm).isTuple ⟨⟨t, ht, rfl⟩, hit', ⟨n, (hs'.2 a haI).trans e⟩, tup⟩ fun b o hb e => ?_
    exact (hs'.2 b (by simpa using hb)).trans e
  go := fun _ _ _ _ _ s Q _ hm hQ => wpAny_letOwnedTupleGo_listiter hm.2.it (hQ s.heap hm.2 fun _ _ _ e => e)
  apart := fun j T _ hm hmem => by
    obtain ⟨t, ht, rfl⟩ := hm.1
    exact hTI t (List.mem_of_getElem? ht) (List.mem_singleton.mp hmem)
  done := fun s Q E st hQ => by
    obtain ⟨n, e⟩ := st.sq
    refine seq_next_end hh st.it e rfl (by simp [refs]) fun h' he' => hQ h' s.toks fun b o hb e => he' b o (by simpa using hb) e
  self := fun _ _ _ _ st hQ => wpAny_pyIter_listiter st.it hQ

theorem list_of {R : Nat → Pc → Prop} : ∀ (vs : List Value), (∀ (j : Nat) v, vs[j]? = some v → ∃ t : Pc, v = .ref t.1 ∧ R j t) → ∃ tvs : List Pc, vs = refs tvs ∧ ∀ (j : Nat) t, tvs[j]? = some t → R j t := by
  intro vs
  induction vs generalizing R with
  | nil => intro _; exact ⟨[], rfl, fun j t h => by simp at h⟩
  | cons v vs ih =>
    intro h
    obtain ⟨t, rfl, ht⟩ := h 0 v rfl
    obtain ⟨tvs, rfl, hr⟩ := ih (R := fun j t => R (j + 1) t) fun j v hv => h (j + 1) v (by simpa using hv)
    refine ⟨t :: tvs, rfl, fun j u hu => ?_⟩
    cases j with
    | zero => simp at hu; subst hu; exact ht
    | succ j => exact hr j u (by simpa using hu)
end Mine
end

section
open PySem PySem.W PyProof.Rows
set_option maxRecDepth 100000
set_option maxHeartbeats 1000000
set_option linter.unusedVariables false
namespace Mine
variable {α β : Type} {w : World} {M : Model} {prog : Program} {A : Around} {env : Env} {s s' : Shared}

structure Tb (h : Heap) (c P : Addr) : Prop where
  at_ : ∃ ps, h.IsCode c P ps ∧ h.TableAt c P ps
theorem Tb.ex {X s s' c P} (f : Tb s.heap c P) (h : Ex X s s') (hc : c ∉ X) (hP : P ∉ X) : Tb s'.heap c P := by
  obtain ⟨ps, ⟨o, vs, file, tf, flags, tg, inF, text, tt, op, a, r1, r2, r3, r4, r5, r6, b, r⟩, ⟨⟨o', vs', e, q⟩, t⟩⟩ := f
  exact ⟨ps, ⟨o, vs, file, tf, flags, tg, inF, text, tt, op, h.keep _ _ hc a, r1, r2, r3, r4, r5, r6, h.keep _ _ hP b, r⟩, ⟨⟨o', vs', h.keep _ _ hc e, q⟩, h.keep _ _ hP t⟩⟩

/-- the base with what generator expressions need -/
structure Bg (h : Heap) : Prop where
  bs : Bs h
  bm : ∃ o, h.get? 4 = some o ∧ o.cls = .type "module" ∧ o.dict = some builtinsNs ∧ o.data = .plain
  t1 : Tb h 67 63
  t2 : Tb h 74 70
def Wild2 (x : Addr) : Prop := x ∉ 4 :: 63 :: 70 :: baseAddrs
theorem Wild2.wild {x : Addr} (h : Wild2 x) : Wild x := fun hm => h (List.mem_cons_of_mem _ (List.mem_cons_of_mem _ (List.mem_cons_of_mem _ hm)))
theorem Bg.ex {X s s'} (f : Bg s.heap) (h : Ex X s s') (hX : ∀ x ∈ X, Wild2 x) : Bg s'.heap := by
  have out : ∀ b, b ∈ 4 :: 63 :: 70 :: baseAddrs → b ∉ X := fun b hb hm => hX b hm hb
  obtain ⟨o, ho, r⟩ := f.bm
  exact ⟨f.bs.ex h fun x hx => (hX x hx).wild, ⟨o, h.keep _ _ (out 4 (by decide)) ho, r⟩, f.t1.ex h (out _ (by decide)) (out _ (by decide)), f.t2.ex h (out _ (by decide)) (out _ (by decide))⟩
theorem Bg.ex0 {s s'} (f : Bg s.heap) (h : Ex [] s s') : Bg s'.heap := f.ex h (by simp)
theorem Bg.wild2 {h : Heap} {x : Addr} (f : Bg h) (hx : h.get? x = none) : Wild2 x := by
  intro hm
  rcases List.mem_cons.mp hm with rfl | hm
  · obtain ⟨o, ho, _⟩ := f.bm; rw [hx] at ho; cases ho
  rcases List.mem_cons.mp hm with rfl | hm
  · obtain ⟨ps, _, _, ho⟩ := f.t1.at_; rw [hx] at ho; cases ho
  rcases List.mem_cons.mp hm with rfl | hm
  · obtain ⟨ps, _, _, ho⟩ := f.t2.at_; rw [hx] at ho; cases ho
  · exact f.bs.wild hx hm

/-- a generator that is ready to give n values -/
def Ready (prog : Program) (w : World) (A : Around) (s0 : Shared) (g : Addr) (n : Nat) (F : Nat → Value → Prop) (s : Shared) : Prop :=
  ∃ fp wr G St, WalksS prog w A.in4 g fp wr G n F St ∧ St 0 s ∧ (∀ i s', St i s' → s'.TypeIs (.ref g) "generator") ∧ g ∈ fp ∧ (∀ b ∈ fp, b < s.heap.objs.size) ∧ (∀ b ∈ wr, s0.heap.get? b = none) ∧ (∀ x y, G x y → AllBare x → AllBare y)

theorem passing_all (n : Nat) : passing (fun _ => true) n 0 = List.range n := by unfold passing; rw [List.drop_zero, List.filter_eq_self.mpr (by simp)]

theorem gen_pile {elt : Expr} {ps1 pa pb pt pos : Pos} {kt : Nat} {scope : Scope} {c P a d : Addr} {tvs : List Pc} {m : Str → Option Value} {F : Nat → Value → Prop} {Q : Value → Shared → Prop} {E : Value → Shared → Prop}
    (f : Bg s.heap) (hp : PileAt s.heap a d (refs tvs)) (ht : ∀ t ∈ tvs, TupAt s.heap t.1 [t.2.1, t.2.2]) (hn : s.heap.Ns env.locals m) (hm : m "self" = some (.ref a)) (hT : Tb s.heap c P) (hPw : P ∉ 4 :: baseAddrs)
    (hA : A.handled = none) (hd : A.depth < 900)
    (helt : ∀ (A' : Around) E' (i : Nat) t (s₂ : Shared) m₂ C code, A'.handled = none → tvs[i]? = some t → Gl s₂.heap → s₂.heap.Ns C m₂ → m₂ "fws" = some t.2.1 → m₂ "part" = some t.2.2 →
      wpAny (model prog w) A' (eval elt (genEnv scope [] C code builtinsNs env)) (fun y s₃ => F i y ∧ Keeps s₂ s₃) E' s₂)
    (hQ : ∀ g s5, Ex [P] s s5 → Tb s5.heap c P → Ready prog w A s g tvs.length F s5 → Q (.ref g) s5)
    (hcode : env.code = .ref c := by rfl) (hgl : env.globals = 3 := by rfl) (hk : env.scope.kind = .function := by rfl) (hself : env.kindOf "self" = some .local := by rfl)
    (hco : scope.isCoroutine = false := by rfl) (hclos : closureFor scope env = pure [] := by rfl) (hcell : (scope.names.all fun y => decide (y.2 ≠ .cell)) = true := by rfl) (h0 : scope.names.lookup (".0" : Str) = some NameKind.local := by rfl)
    (hxa : scope.names.lookup ("fws" : Str) = some .local := by rfl) (hxb : scope.names.lookup ("part" : Str) = some .local := by rfl) (hkind : scope.kind = .function := by rfl) :
    wpAny (model prog w) A (eval (.GeneratorExp elt [⟨.Tuple [.Name "fws" pa, .Name "part" pb] kt pt, .Name "self" ps1, [], 0⟩] scope pos) env) Q E s := by
  refine wpAny_GeneratorExp_walksQT hA hco hclos (fun y hy => of_decide_eq_true (List.all_eq_true.mp hcell y hy)) h0 hxa hxb (by decide) hkind (by simp only [recursionLimit]; omega) ?_ (fun _ => rfl)
  refine wpAny_Name (wpAny_loadName_local hk hself hn hm ?_) (by decide)
  refine pile_iter f.bs hp ?_
  obtain ⟨s1, hs1⟩ : ∃ s1 : Shared, s1 = { s with heap := s.heap.push { cls := .type "list_iterator", data := .fields #[.ref a, .int 0 0] } } := ⟨_, rfl⟩
  rw [← hs1]
  have x1 : Ex [] s s1 := hs1 ▸ Ex.push' _
  have hI1 : PileIt tvs s.heap.objs.size a d 0 s1.heap := by
    subst hs1
    exact ⟨⟨_, Heap.get?_push_size _ rfl, rfl, rfl⟩, let ⟨n, e⟩ := hp.obj; ⟨n, Heap.get?_push_of_some _ e⟩, fun t h => Heap.get?_push_of_some _ (ht t h)⟩
  have hfrI : s.heap.get? s.heap.objs.size = none := fresh_size _
  have hIlt : s.heap.objs.size < s1.heap.objs.size := by subst hs1; show _ < (s.heap.push _).objs.size; rw [Heap.size_push]; exact Nat.lt_succ_self _
  have f1 := f.ex0 x1
  obtain ⟨ps, hcd, htab⟩ := hT.ex x1 (by simp) (by simp)
  have old : ∀ b o, s.heap.get? b = some o → b ≠ s.heap.objs.size := fun b o e => Nat.ne_of_lt (Heap.lt_size e)
  have hPget : ∀ {h : Heap} {b : Addr} {o : Obj}, h.TableAt c P ps → h.get? b = some o → (o.data ≠ .fields ps ∨ o.cls ≠ .none) → b ≠ P := by
    rintro h b o ht hb hne rfl
    rw [ht.2] at hb; cases hb
    rcases hne with h1 | h1 <;> exact h1 rfl
  have fpP : P ∉ s.heap.objs.size :: a :: tvs.map (·.1) := by
    intro hm
    rcases List.mem_cons.mp hm with e | hm
    · obtain ⟨o, ho, hc', _⟩ := hI1.it
      exact hPget htab ho (.inr (by rw [hc']; exact fun e => nomatch e)) e.symm
    rcases List.mem_cons.mp hm with e | hm
    · obtain ⟨n, ho⟩ := hI1.sq
      exact hPget htab ho (.inr (fun e => nomatch e)) e.symm
    · obtain ⟨t, ht', e⟩ := List.mem_map.mp hm
      exact hPget htab (hI1.tup t ht') (.inr (fun e => nomatch e)) e
  refine ⟨f1.bs.lim, ?_⟩
  -- the code of the expression
  have key : ∀ (code : Value) (s3 : Shared), Ex [P] s1 s3 → s3.gens = s1.gens → s1.heap.objs.size ≤ s3.heap.objs.size → Tb s3.heap c P → wpAny (model prog w) A (builtinsFor env.globals env.builtins) (fun bi s₄ =>
        ∃ I fp wr n₀ Pt St₀ Mid pz F, Value.ref s.heap.objs.size = .ref I ∧ (∀ A' : Around, A'.handled = none → WalksU prog w A' I fp wr n₀ Pt St₀ Mid) ∧ (∀ i vals, Pt i vals → ∃ va vb, vals = #[va, vb]) ∧ St₀ 0 s₄.heap ∧ (∀ b ∈ fp, b < s₄.heap.objs.size) ∧ s₄.heap.NoLimit ∧ cStatics ∉ wr ∧
          (∀ href : Heap, (∀ b o, s₄.heap.get? b = some o → href.get? b = some o) →
            QuietGenT prog w (genEnv scope [] s₄.heap.objs.size code bi env) "fws" "part" [] elt (List.range s₄.heap.objs.size) wr Pt pz F href) ∧
          (∀ a h₅ tk gs, gs.bare = true → s₄.heap.objs.size < a → h₅.objs.size = a + 1 → (∀ b o, s₄.heap.get? b = some o → h₅.get? b = some o) →
            WalksS prog w A.in4 a (a :: s₄.heap.objs.size :: List.range s₄.heap.objs.size) (s₄.heap.objs.size :: wr) (GenOnlyQ s₄.gens.size) (passing pz n₀ 0).length
              (fun j y => ∃ i, (passing pz n₀ 0)[j]? = some i ∧ F i y) (GenAt prog w A.in4 a s₄.gens.size s₄.heap.objs.size (List.range s₄.heap.objs.size) wr pz n₀ F) →
            GenAt prog w A.in4 a s₄.gens.size s₄.heap.objs.size (List.range s₄.heap.objs.size) wr pz n₀ F 0 { s₄ with gens := s₄.gens.push gs, toks := tk, heap := h₅ } →
            Q (.ref a) { s₄ with gens := s₄.gens.push gs, toks := tk, heap := h₅ })) E s3 := by
    intro code s3 x3 hg3 hsz3 hT3
    have hWP : ∀ x ∈ [P], Wild x := wild1 fun hm => hPw (List.mem_cons_of_mem _ hm)
    have f3 := f1.bs.ex x3 hWP
    obtain ⟨o, ho, hb1, hb2, hb3⟩ := f1.bm
    have h4 : s3.heap.get? 4 = some o := x3.keep _ _ (nmem1 fun e => hPw (by rw [← e]; exact List.mem_cons_self ..)) ho
    refine wpAny_builtinsFor (hgl ▸ f3.gl.g) (by decide +kernel) (by decide) h4 hb1 hb2 hb3 ?_
    have aI : a ≠ s.heap.objs.size := let ⟨n, e⟩ := hp.obj; old _ _ e
    have tI : ∀ t ∈ tvs, t.1 ≠ s.heap.objs.size := fun t h => old _ _ (ht t h)
    have hfp : ∀ b ∈ s.heap.objs.size :: a :: tvs.map (·.1), b < s3.heap.objs.size := by
      intro b hb
      refine Nat.lt_of_lt_of_le ?_ hsz3
      rcases List.mem_cons.mp hb with rfl | hb
      · exact hIlt
      rcases List.mem_cons.mp hb with rfl | hb
      · obtain ⟨n, e⟩ := hI1.sq; exact Heap.lt_size e
      · obtain ⟨t, h1, rfl⟩ := List.mem_map.mp hb; exact Heap.lt_size (hI1.tup t h1)
    have hI3 : PileIt tvs s.heap.objs.size a d 0 s3.heap := (walksU_pile (prog := prog) (w := w) (A := A) (d := d) hA aI tI).frame 0 _ _ hI1 fun b hb o e => x3.keep b o (nmem1 fun e' => fpP (e' ▸ hb)) e
    have hcw : cStatics ∉ [s.heap.objs.size] := nmem1 fun e => by
      have := f.bs.st
      rw [← show cStatics = 2 from rfl, e, hfrI] at this; cases this
    have x03 : Ex [P] s s3 := x1.lift.trans x3
    have hC0 : s.heap.get? s3.heap.objs.size = none := by
      cases e : s.heap.get? s3.heap.objs.size with
      | none => rfl
      | some o => exact absurd (Nat.lt_of_lt_of_le (Nat.lt_trans (Heap.lt_size e) hIlt) hsz3) (Nat.lt_irrefl _)
    refine ⟨s.heap.objs.size, s.heap.objs.size :: a :: tvs.map (·.1), [s.heap.objs.size], tvs.length, _, PileIt tvs s.heap.objs.size a d, _, fun _ => true, F, rfl, fun A' hA' => walksU_pile hA' aI tI, ?_, hI3, hfp, f3.lim, hcw, ?_, ?_⟩
    · rintro i vals ⟨t, _, rfl⟩; exact ⟨_, _, rfl⟩
    · intro href hhref
      refine ⟨fun A' E' i va vb s₂ m₂ hA' hP hn2 h1 h2 hkp => wpAny_pure ⟨rfl, s₂.heap, s₂.toks, rfl, fun _ _ e => e⟩, fun A' E' i va vb s₂ m₂ hA' hP _ hn2 h1 h2 hkp => ?_⟩
      obtain ⟨t, ht1, ht2⟩ := hP
      cases ht2
      have keepB : ∀ b o, b ≠ s.heap.objs.size → s3.heap.get? b = some o → s₂.heap.get? b = some o := fun b o hb e => hkp b (List.mem_range.mpr (Heap.lt_size e)) (nmem1 hb) o (hhref b o e)
      refine helt A' E' i t s₂ m₂ _ code hA' ht1 ?_ hn2 h1 h2
      obtain ⟨g1, mb, b1, b2⟩ := f3.gl
      have ne3 : ∀ b, b ∈ baseAddrs → b ≠ s.heap.objs.size := fun b hb e => f.bs.wild hfrI (e ▸ hb)
      exact ⟨g1.at' fun o e => keepB _ _ (ne3 3 (by decide)) e, mb, b1.at' fun o e => keepB _ _ (ne3 0 (by decide)) e, b2⟩
    · intro g h5 tk gs hgs hlt hsz5 hk5 hW hat
      have hF : (fun j y => ∃ i, (passing (fun _ => true) tvs.length 0)[j]? = some i ∧ F i y) = fun j y => j < tvs.length ∧ F j y := by
        funext j y
        rw [passing_all]
        apply propext
        constructor
        · rintro ⟨i, h1, h2⟩
          have hj : j < tvs.length := by have := (List.getElem?_eq_some_iff.mp h1).1; simpa using this
          rw [List.getElem?_range hj] at h1; cases h1
          exact ⟨hj, h2⟩
        · rintro ⟨h1, h2⟩; exact ⟨j, List.getElem?_range h1, h2⟩
      have hlen : (passing (fun _ => true) tvs.length 0).length = tvs.length := by rw [passing_all, List.length_range]
      rw [hF, hlen] at hW
      have x5 : Ex [] s3 { s3 with gens := s3.gens.push gs, toks := tk, heap := h5 } := ⟨fun b o _ e => hk5 b o e, fun hb => hb.push hgs, rfl⟩
      refine hQ g _ (x03.step0 x5) (hT3.ex x5 (by simp) (by simp)) ⟨_, _, _, _, ⟨hW.sub, hW.grefl, hW.gtrans, hW.frame, fun i s Q E hi st hq => hW.item i s Q E hi st fun v s' hv => hq v s' hv.2, hW.done, hW.self⟩, hat, fun i s' st => st.1.typeIs, List.mem_cons_self .., ?_, ?_, fun x y hxy hb => hxy.bare hb⟩
      · intro b hb
        show b < h5.objs.size
        rw [hsz5]
        rcases List.mem_cons.mp hb with rfl | hb
        · exact Nat.lt_succ_self _
        rcases List.mem_cons.mp hb with rfl | hb
        · exact Nat.lt_succ_of_lt hlt
        · exact Nat.lt_succ_of_lt (Nat.lt_trans (List.mem_range.mp hb) hlt)
      · intro b hb
        rcases List.mem_cons.mp hb with rfl | hb
        · exact hC0
        · rw [List.mem_singleton.mp hb]; exact hfrI
  cases hf : codeAmong pos ps.toList with
  | some c' => exact wpAny_genexprCode_hit hcode hcd hf (key c' s1 .refl rfl (Nat.le_refl _) ⟨ps, hcd, htab⟩)
  | none =>
    refine wpAny_genexprCodeX hcode hcd htab hf fun c' h' tk hx' h1 h2 h3 _ h4 _ => key _ _ ⟨fun b o hb e => hx' b o (by simpa using hb) e, fun x => x, rfl⟩ rfl (Nat.le_trans h1 (Nat.le_of_lt h2)) ⟨_, h3, h4⟩
end Mine
end

section
open PySem PySem.W PyProof.Rows
set_option maxRecDepth 100000
set_option maxHeartbeats 1000000
set_option linter.unusedVariables false
namespace Mine
variable {α β : Type} {w : World} {M : Model} {prog : Program} {A : Around} {env : Env} {s s' : Shared}

theorem lk_list_is : typeLookup (.type "list") "_initial_size" = pure none := by rw [typeLookup_type, builtinLookup_eq_fast]; kernel_rfl
theorem bs_is : clsTab.lookup (Str.ofString "_initial_size") = none := by decide +kernel

theorem bi_getsize {a d : Addr} {vs : List Value} {tn : Tok} {Q : Fin → Shared → Prop} {E : Value → Shared → Prop} (f : Bs s.heap) (hp : PileAt s.heap a d vs) (hq : ∀ t, Q (.done (.ret (.int 0 t))) s) :
    wpAny (model prog w) A (Builtin.«object.__getattribute__» ⟨[.ref a, .str (Str.ofString "_initial_size") tn], []⟩) Q E s := by
  obtain ⟨⟨n, hx⟩, ⟨t0, hns⟩, hne, _, _⟩ := hp
  have h1 := cls_at f
  have h2 := f.clsNs
  have hq := hq t0
  obtain ⟨h, g, dr, t, os⟩ := s
  unfold Builtin.«object.__getattribute__»
  repeat (first | (with_reducible refine wpAny_loadPart_at hx ?_) | (with_reducible refine wpAny_typeLookup_exc h1 h2 mro_list lk_list_is ?_; rw [bs_is]) | (with_reducible refine wpAny_nsGet hns ?_; rw [if_pos rfl]) | wp_step)
  exact hq

theorem bind_list_ga (a : Addr) : bindSpecial (.builtin "list.__getattribute__") (.ref a) = pure (.builtin "list.__getattribute__", [.ref a]) := F.slot_list_getattribute.bind _
theorem pile_getsize {a d : Addr} {vs : List Value} {x : Bool} {Q : Value → Shared → Prop} {E : Value → Shared → Prop} (f : Bs s.heap) (hp : PileAt s.heap a d vs) (hq : ∀ t, Q (.int 0 t) { s with toks := s.toks + 1 }) :
    wpAny (model prog w) A (getAttr (.ref a) (Str.ofString "_initial_size") x) Q E s := by
  have hcall : ∀ (A : Around) (Q : Value → Shared → Prop) (E : Value → Shared → Prop) k (tn : Tok), (∀ t, Q (.int 0 t) { s with toks := k }) → wpAny (model prog w) A (call (.builtin "list.__getattribute__") [.ref a, .str (Str.ofString "_initial_size") tn]) Q E { s with toks := k } := by
    intro A Q E k tn h
    refine pile_call (s := { s with toks := k }) f hp (.inl (by decide +kernel)) (n := "__getattribute__") (by decide +kernel) (by decide +kernel) F.entry_list_ga (F.args_list_getattribute_2 _ _) ?_
    exact bi_getsize (s := { s with toks := k }) f hp fun t => ⟨_, rfl, h t⟩
  obtain ⟨⟨n, hx⟩, ⟨t0, hns⟩, hne, _, _⟩ := id hp
  have h1 := cls_at f
  have h2 := f.clsNs
  have e1 : clsTab.lookup (Str.ofString "__getattribute__") = none := by decide +kernel
  have e2 : clsTab.lookup (Str.ofString "__getattr__") = none := by decide +kernel
  obtain ⟨h, g, dr, t, os⟩ := s
  unfold getAttr getAttrBy getAttrByItsOwn hookBefore callGetattribute boundAndCalled
  repeat (first | (with_reducible refine wpAny_loadPart_at hx ?_) | (with_reducible refine wpAny_typeLookup_exc h1 h2 mro_list lk_list_ga ?_; rw [e1]) | (with_reducible refine wpAny_typeLookup_exc h1 h2 mro_list lk_list_getattr ?_; rw [e2]) | (with_reducible refine wpAny_of_eq (bind_list_ga _) ?_) | wp_step)
  rw [if_neg (by cases x <;> exact Bool.false_ne_true)]
  refine wpAny_bind (wpAny_of_eq (bind_list_ga _) ?_)
  refine hcall _ _ _ _ _ fun t' => ?_
  exact wpAny_of_eq (a := .int 0 t') rfl (hq t')
end Mine
end

section
open PySem PySem.W PyProof.Rows
set_option maxRecDepth 100000
set_option maxHeartbeats 1000000
set_option linter.unusedVariables false
namespace Mine
variable {α β : Type} {w : World} {M : Model} {prog : Program} {A : Around} {env : Env} {s s' : Shared}

/-- sum(g, start) over a generator -/
theorem sum_ready {g : Addr} {n : Nat} {Fv : Nat → Value → Prop} {val : Nat → Int} {t0 : Tok} {s0 : Shared} {Q : Value → Shared → Prop} {E : Value → Shared → Prop} (hR : Ready prog w A s0 g n Fv s) (hval : ∀ i v, Fv i v → ∃ t, v = .int (val i) t)
    (hq : ∀ s' t' X, (∀ b ∈ X, s0.heap.get? b = none) → Ex X s s' → Q (.int (preSum val n) t') s') : wpAny (model prog w) A (call (.builtin "sum") [.ref g, .int 0 t0]) Q E s := by
  obtain ⟨fp, wr, G, St, hW4, hst, hty, hgf, hfp, hwr, hbare⟩ := hR
  have hW := hW4.in4_1
  refine call_function_tree F.kind_sum F.plain_sum F.entry_sum (by unfold argsOk; kernel_rfl) ?_
  unfold Builtin.«sum»
  simp only [List.length_cons, List.length_nil]
  rw [if_neg (by decide)]
  refine wpAny_bind (wpAny_of_eq (show Builtin.Builtins.bindParams "sum" ["start"] 0 ⟨[.int 0 t0], []⟩ = pure [some (.int 0 t0)] from rfl) ?_)
  refine wpAny_bind (hW.self 0 s _ _ hst ?_)
  refine wpAny_bind (wpAny_rule (wpAny_bind (wpAny_mkInt (wpAny_bind (wpAny_pure ?_)))))
  simp only [List.forIn_cons, List.forIn_nil]
  refine wpAny_bind (wpAny_bind (wpAny_bind (wpAny_isInstance (T := "int") (b := false) (typeIs_int _ _ _) PySem.sub_int_str ?_)))
  simp only [Bool.false_eq_true, if_false]
  refine wpAny_pure (wpAny_bind (wpAny_bind (wpAny_isInstance (T := "int") (b := false) (typeIs_int _ _ _) PySem.sub_int_bytes ?_)))
  simp only [Bool.false_eq_true, if_false]
  refine wpAny_pure (wpAny_bind (wpAny_bind (wpAny_isInstance (T := "int") (b := false) (typeIs_int _ _ _) PySem.sub_int_bytearray ?_)))
  simp only [Bool.false_eq_true, if_false]
  refine wpAny_pure (wpAny_pure ?_)
  refine wpAny_bind (wpAny_newObj_type ?_)
  have hSf : s.heap.objs.size ∉ fp := fun hm => Nat.lt_irrefl _ (hfp _ hm)
  refine wpAny_pure ⟨plainId_quiet F.plain_sum_loop _, codeAny_sum_loopAnyS hW val hval s.heap.objs.size hSf n 0 _ s.toks 0 0 (.inl rfl) rfl (Nat.zero_le _)
    (hW.frame 0 s _ _ hst (by first | exact Nat.le_refl _ | exact Nat.le_succ _ | omega) fun b _ o e => Heap.get?_push_of_some _ e) (Heap.get?_push_size _ rfl) fun s' t' hm => ?_⟩
  have hm := hm.drop_new (by first | exact Nat.le_refl _ | exact Nat.le_succ _ | omega)
  exact hq s' t' wr hwr ⟨fun b o hb e => hm.heap b o hb e, fun hb => hbare _ _ hm.gens hb, hm.os⟩
end Mine
end

section
open PySem PySem.W PyProof.Rows
set_option maxRecDepth 100000
set_option maxHeartbeats 1000000
set_option linter.unusedVariables false
namespace Mine
variable {α β : Type} {w : World} {M : Model} {prog : Program} {A : Around} {env : Env} {s s' : Shared}

/-- len(x), x a local text; the state told exactly -/
theorem ke_len {x : Str} {fp px pos : Pos} {l : List Nat} {t : Tok} {m : Str → Option Value} {Q : Value → Shared → Prop} {E : Value → Shared → Prop} (g : Gl s.heap) (hn : s.heap.Ns env.locals m) (hx : m x = some (.str ⟨l.toArray⟩ t)) (hl : l.length ≤ sizeLine)
    (h : ∀ t' k, Q (.int l.length t') { s with toks := k })
    (hg : env.globals = 3 := by rfl) (hb : env.builtins = 0 := by rfl) (hk : env.scope.kind = .function := by rfl) (hlen : env.kindOf "len" = some .globalImplicit := by rfl) (hloc : env.kindOf x = some .local := by rfl) (hd : (x == ("__debug__" : Str)) = false := by decide)
    (hs : starEach [.Name x px] env = [(false, eval (.Name x px) env)] := by rfl) :
    wpAny (model prog w) A (eval (.Call (.Name "len" fp) [.Name x px] [] pos) env) Q E s := by
  obtain ⟨g1, mb, b1, b2, _⟩ := g
  refine Call_ (Calls.Name_function_global hk hlen (Calls.loadGlobal_builtin (hg ▸ g1) (by decide +kernel) (hb ▸ b1) b2 ?_) (by decide))
  refine callWith_builtin1 (rest := []) (args_cons (rest := []) (wpAny_Name (wpAny_loadName_local hk hloc hn hx (args_nil ?_)) hd) hs) hs
  have e0 : Str.length ⟨l.toArray⟩ = l.length := by simp [Str.length]
  refine P.len_str (by rw [e0]; simp only [sizeLine] at hl; omega) ?_
  have := h (s.toks + 1) (s.toks + 1 + 1)
  rwa [← e0] at this

theorem call_b2 {f : Str} {fp pos : Pos} {e1 e2 : Expr} {id : String} {Q : Value → Shared → Prop} {E : Value → Shared → Prop} (hf : Pe (model prog w) A (eval (.Name f fp) env) s (· = .builtin id))
    (h : ∀ s1, Ex [] s s1 → wpAny (model prog w) A (eval e1 env) (fun v1 s2 => wpAny (model prog w) A (eval e2 env) (fun v2 s3 => wpAny (model prog w) A (call (.builtin id) [v1, v2]) Q E s3) E s2) E s1)
    (hs : starEach [e1, e2] env = [(false, eval e1 env), (false, eval e2 env)] := by rfl) : wpAny (model prog w) A (eval (.Call (.Name f fp) [e1, e2] [] pos) env) Q E s := by
  refine Call_Name2 (hf.use .refl fun v s1 hv hx1 _ => ?_) hs
  subst hv
  exact Calls.callWith_builtin rfl (Calls.evalArgs_plain (Calls.spliced_cons (wpAny_mono (h s1 hx1) (fun v1 s2 h2 => Calls.spliced_cons (wpAny_mono h2 (fun v2 s3 h3 => Calls.spliced_nil h3) fun _ _ x => x)) fun _ _ x => x)))

theorem lk_len : clsTab.lookup (Str.ofString "__len__") = some (.ref 68) := by decide +kernel

/-- how long a piece is -/
noncomputable def pieceLen (ks : List Nat) : Nat := (ks.map (· + 1)).sum

theorem preSum_ks (ks : List Nat) : ∀ n, n ≤ ks.length → preSum (fun i => ((ks.getD i 0 + 1 : Nat) : Int)) n = ((pieceLen (ks.take n) : Nat) : Int) := by
  intro n
  induction n with
  | zero => intro _; rfl
  | succ n ih =>
    intro hn
    have e : ks.take (n + 1) = ks.take n ++ [ks.getD n 0] := by
      rw [List.take_add_one, List.getD_eq_getElem?_getD, List.getElem?_eq_getElem (by omega)]; rfl
    show preSum _ n + _ = _
    rw [ih (by omega), e]
    unfold pieceLen
    rw [List.map_append, List.sum_append]
    simp

/-- the pieces: blanks and letters -/
structure Pcs (h : Heap) (ks l : List Nat) (tvs : List Pc) : Prop where
  lk : ks.length = tvs.length
  ll : l.length = tvs.length
  at_ : ∀ (j : Nat) t k c, tvs[j]? = some t → ks[j]? = some k → l[j]? = some c → TupAt h t.1 [t.2.1, t.2.2] ∧ St (List.replicate k 32) t.2.1 ∧ St [c] t.2.2
theorem Pcs.get {h ks l tvs} (f : Pcs h ks l tvs) {j : Nat} {t : Pc} (ht : tvs[j]? = some t) : ∃ k c, ks[j]? = some k ∧ l[j]? = some c ∧ TupAt h t.1 [t.2.1, t.2.2] ∧ St (List.replicate k 32) t.2.1 ∧ St [c] t.2.2 := by
  have hlt := (List.getElem?_eq_some_iff.mp ht).1
  obtain ⟨k, h1⟩ : ∃ k, ks[j]? = some k := ⟨_, List.getElem?_eq_getElem (by rw [f.lk]; exact hlt)⟩
  obtain ⟨c, h2⟩ : ∃ c, l[j]? = some c := ⟨_, List.getElem?_eq_getElem (by rw [f.ll]; exact hlt)⟩
  exact ⟨_, _, h1, h2, f.at_ j t _ _ ht h1 h2⟩
theorem Pcs.tup {h ks l tvs} (f : Pcs h ks l tvs) : ∀ t ∈ tvs, TupAt h t.1 [t.2.1, t.2.2] := fun t ht => by
  obtain ⟨j, hj⟩ := List.getElem?_of_mem ht
  obtain ⟨_, _, _, _, h1, _⟩ := f.get hj
  exact h1
theorem Pcs.ex {X s s' ks l tvs} (f : Pcs s.heap ks l tvs) (h : Ex X s s') (hX : NoTup s.heap X) : Pcs s'.heap ks l tvs :=
  ⟨f.lk, f.ll, fun j t k c h1 h2 h3 => let ⟨a, b⟩ := f.at_ j t k c h1 h2 h3; ⟨h.tups hX a, b⟩⟩
end Mine
end

section
open PySem PySem.W PyProof.Rows
set_option maxRecDepth 100000
set_option maxHeartbeats 1000000
set_option linter.unusedVariables false
namespace Mine
variable {α β : Type} {w : World} {M : Model} {prog : Program} {A : Around} {env : Env} {s s' : Shared}

theorem Ready.tick {s0 : Shared} {g : Addr} {n : Nat} {Fv : Nat → Value → Prop} (h : Ready prog w A s0 g n Fv s) : Ready prog w A s0 g n Fv { s with toks := s.toks + 1 } := by
  obtain ⟨fp, wr, G, St, hW, hst, r1, r2, r3, r4⟩ := h
  exact ⟨fp, wr, G, St, hW, hW.frame 0 s s.heap _ hst (Nat.le_succ _) fun _ _ _ e => e, r1, r2, r3, r4⟩

/-- __len__ -/
theorem len_walk {a d : Addr} {tvs : List Pc} {ks l : List Nat} (f : Bg s.heap) (hp : PileAt s.heap a d (refs tvs)) (hT : Pcs s.heap ks l tvs) (hks : ∀ k ∈ ks, k ≤ 100) (hd : A.depth < 800) (hA : A.handled = none) :
    W (model Pg w) A (runValue (.call (.ref 68) ⟨[.ref a], []⟩)) (fun r s' => It (pieceLen ks) r ∧ Ex [63] s s' ∧ Bg s'.heap) s := by
  obtain ⟨o, h1, h2, _⟩ := f.bs.len.at_
  have h3 := f.bs.len.rec_
  refine w_call (binds := [("self", .ref a)]) (by simp only [recursionLimit]; omega) h1 h2 f.bs.lim h3 (body := bodyOf (meth 4)) rfl (.of_eq rfl) (fun s1 hx hsz hn1 => ?_)
  have f1 := f.ex0 hx
  have hp1 := hx.pile hp (by simp) (by simp)
  have hd' : (A.deeper (callEnv fdLen s.heap.objs.size 68)).depth < 900 := by show A.depth + 1 < 900; omega
  have hA' : (A.deeper (callEnv fdLen s.heap.objs.size 68)).handled = none := hA
  refine w_retE (call_b2 (pe_bu f1.bs.gl (x := "sum") (v := .builtin "sum") (by decide +kernel) (let ⟨mb, b1, b2⟩ := f1.bs.gl.b; ⟨mb, b1, b2.2.2.2.2.1⟩)) fun s2 hx2 => ?_)
  have f2 := f1.ex0 hx2
  have hp2 := hx2.pile hp1 (by simp) (by simp)
  have hn2 := hx2.ns hn1 (by simp)
  have hT2 := (hT.ex hx .nil).ex hx2 .nil
  refine gen_pile (F := fun i v => ∃ t, v = .int ((ks.getD i 0 + 1 : Nat) : Int) t) f2 hp2 hT2.tup hn2 rfl f2.t1 (by decide) hA' hd' ?_ ?_
  · intro A' E' i t s₂ m₂ C code hA2 hti g2 hnC m1 m2
    obtain ⟨k, c, hk1, hc1, _, ⟨tk, hk⟩, ⟨tc, hc⟩⟩ := hT2.get hti
    have hk100 : k ≤ 100 := hks k (List.mem_of_getElem? hk1)
    rw [hk] at m1
    rw [hc] at m2
    refine wpAny_BinOp (ke_len g2 hnC m1 (by rw [List.length_replicate]; simp only [sizeLine]; omega) fun t1 k1 => ke_len (s := { s₂ with toks := k1 }) g2 hnC m2 (by exact (show 1 ≤ sizeLine by decide)) fun t2 k2 => P.add_int ?_)
    refine ⟨⟨k2, ?_⟩, s₂.heap, _, rfl, fun _ _ e => e⟩
    rw [List.getD_eq_getElem?_getD, hk1, List.length_replicate]; rfl
  · intro g s5 hx5 hT5 hR
    have f5 : Bg s5.heap := by
      have hw : ∀ x ∈ [63], Wild x := wild1 (show (63 : Addr) ∉ baseAddrs by decide)
      obtain ⟨o4, ho4, r4⟩ := f2.bm
      exact ⟨f2.bs.ex hx5 hw, ⟨o4, hx5.keep _ _ (by decide) ho4, r4⟩, hT5, f2.t2.ex hx5 (by decide) (by decide)⟩
    have n63 : ∀ {x : Addr}, Wild2 x → x ∉ [63] := fun h hm => h (by rw [List.mem_singleton.mp hm]; decide)
    have hL2 : Wild2 s.heap.objs.size := f.wild2 hsz
    have hn5 := hx5.ns hn2 (n63 hL2)
    have ha63 : a ∉ [63] := nmem1 fun e => by
      obtain ⟨n, ho⟩ := hp2.obj
      obtain ⟨ps, _, _, ht⟩ := f2.t1.at_
      rw [e, ht] at ho; cases ho
    have hd63 : d ∉ [63] := nmem1 fun e => by
      obtain ⟨t, o, _, _, ho, hd, _⟩ := hp2.ns
      obtain ⟨ps, _, _, ht⟩ := f2.t1.at_
      rw [e, ht] at ho; cases ho; cases hd
    have hp5 := hx5.pile hp2 ha63 hd63
    refine Attribute_name (wpAny_Name (wpAny_loadName_local rfl rfl hn5 rfl ?_) (by decide))
    refine pile_getsize f5.bs hp5 fun t0 => ?_
    have hR' := hR.tick
    refine sum_ready hR' (val := fun i => ((ks.getD i 0 + 1 : Nat) : Int)) (fun i v h => h) fun s7 t7 X hX hx7 => ?_
    have hpre := preSum_ks ks ks.length (Nat.le_refl _)
    rw [List.take_length] at hpre
    rw [← hT.lk, hpre]
    have x12 := hx.trans hx2
    have x7 : Ex X s5 s7 := (Ex.toks _ : Ex X s5 { s5 with toks := s5.toks + 1 }).trans hx7
    have hX2 : ∀ x ∈ X, Wild2 x := fun x hx => f2.wild2 (hX x hx)
    exact ⟨⟨t7, rfl⟩, (x12.lift.trans hx5).step x7 fun y hy => .inr (x12.old0 (hX y hy)), f5.ex x7 hX2⟩
end Mine
end

section
open PySem PySem.W PyProof.Rows
set_option maxRecDepth 100000
set_option maxHeartbeats 1000000
set_option linter.unusedVariables false
namespace Mine
variable {α β : Type} {w : World} {M : Model} {prog : Program} {A : Around} {env : Env} {s s' : Shared}

theorem gl_empty : glTab.lookup (Str.ofString "EMPTYSTRING") = some (.str (Str.ofString "") 196) := by decide +kernel
theorem str_empty : Str.ofString "" = ⟨([] : List Nat).toArray⟩ := by decide +kernel

/-- EMPTYSTRING.join((x, y)); the state told exactly -/
theorem ke_join {x y : Str} {p1 p2 p3 p4 apos pos : Pos} {kt : Nat} {l1 l2 : List Nat} {t1 t2 : Tok} {m : Str → Option Value} {Q : Value → Shared → Prop} {E : Value → Shared → Prop} (g : Gl s.heap) (hn : s.heap.Ns env.locals m) (hx : m x = some (Tx l1 t1)) (hy : m y = some (Tx l2 t2)) (hl : l1.length + l2.length ≤ 1000)
    (h : ∀ t' h' k, (∀ b o, s.heap.get? b = some o → h'.get? b = some o) → Q (Tx (l1 ++ l2) t') { s with heap := h', toks := k })
    (hg : env.globals = 3 := by rfl) (hk : env.scope.kind = .function := by rfl) (he : env.kindOf "EMPTYSTRING" = some .globalImplicit := by rfl) (hlx : env.kindOf x = some .local := by rfl) (hly : env.kindOf y = some .local := by rfl) (hdx : (x == ("__debug__" : Str)) = false := by decide) (hdy : (y == ("__debug__" : Str)) = false := by decide)
    (hs : starEach [.Tuple [.Name x p1, .Name y p2] kt p3] env = [(false, eval (.Tuple [.Name x p1, .Name y p2] kt p3) env)] := by rfl)
    (hs2 : starEach [.Name x p1, .Name y p2] env = [(false, eval (.Name x p1) env), (false, eval (.Name y p2) env)] := by rfl)
    (hc : ∃ pl, eval (.Call (.Attribute (.Name "EMPTYSTRING" p4) "join" apos) [.Tuple [.Name x p1, .Name y p2] kt p3] [] pos) env = (do
      let ov ← eval (.Name "EMPTYSTRING" p4) env
      standAt apos.atName
      let (f, first) ← holding [ov] (getMethod ov "join" pl)
      callWith pos f first (backTo pos (starEach [.Tuple [.Name x p1, .Name y p2] kt p3] env)) []) := by exact ⟨_, rfl⟩) :
    wpAny (model prog w) A (eval (.Call (.Attribute (.Name "EMPTYSTRING" p4) "join" apos) [.Tuple [.Name x p1, .Name y p2] kt p3] [] pos) env) Q E s := by
  obtain ⟨pl, hc⟩ := hc
  rw [hc]
  refine wpAny_bind (Calls.Name_function_global hk he (Calls.loadGlobal_global (hg ▸ g.g) gl_empty ?_) (by decide))
  refine wpAny_bind (wpAny_standAt (wpAny_bind (wpAny_holding (GM.join ?_))))
  rw [hs]
  refine Calls.callWith_builtin rfl (Calls.evalArgs_plain (Calls.spliced_cons (Tuple_ (k := kt) ?_)))
  rw [hs2]
  refine Calls.spliced_cons (wpAny_Name (wpAny_loadName_local hk hlx hn hx (Calls.spliced_cons (wpAny_Name (wpAny_loadName_local hk hly hn hy (Calls.spliced_nil ?_)) hdy))) hdx)
  refine wpAny_newObj_type (Calls.spliced_nil ?_) (by exact (show 2 ≤ sizeLine by decide))
  rw [str_empty]
  have hA2 : Are St [l1, l2] [Tx l1 t1, Tx l2 t2] := .cons ⟨t1, rfl⟩ (.one ⟨t2, rfl⟩)
  refine join_tuple (ys := [l1, l2].map fun l => (⟨l.toArray⟩ : Str)) (items := #[Tx l1 t1, Tx l2 t2]) ⟨_, Heap.get?_push_size _ rfl, rfl, _, rfl⟩ (by simpa using strsAre hA2) ?_ ?_
  · simp [Str.length]; omega
  · intro t' k
    rw [join_flat]
    have := h t' _ k (fun b o e => Heap.get?_push_of_some { cls := .type "tuple", dict := none, data := .seq #[Tx l1 t1, Tx l2 t2] } e)
    simpa using this

theorem lk_str : clsTab.lookup (Str.ofString "__str__") = some (.ref 75) := by decide +kernel

/-- the pile's text -/
noncomputable def pieceText (ks l : List Nat) : List (List Nat) := (List.range l.length).map fun i => List.replicate (ks.getD i 0) 32 ++ [l.getD i 0]

theorem itemsOf_are {n : Nat} {Fv : Nat → Value → Prop} {vs : List Value} (h : ItemsOf Fv vs.toArray n) : Are Fv (List.range n) vs := by
  obtain ⟨h1, h2⟩ := h
  have hl : vs.length = n := by simpa using h1
  refine ⟨by rw [List.length_range, hl], fun i x v hx hv => ?_⟩
  have hi : i < n := by have := (List.getElem?_eq_some_iff.mp hx).1; simpa using this
  rw [List.getElem?_range hi] at hx
  cases hx
  exact h2 i v (by simpa using hv)
end Mine
end

section
open PySem PySem.W PyProof.Rows
set_option maxRecDepth 100000
set_option maxHeartbeats 1000000
set_option linter.unusedVariables false
namespace Mine
variable {α β : Type} {w : World} {M : Model} {prog : Program} {A : Around} {env : Env} {s s' : Shared}

theorem piece_flat_len (ks l : List Nat) (hks : ∀ k ∈ ks, k ≤ 100) (hl : l.length ≤ 100) : (pieceText ks l).flatten.length + (pieceText ks l).length ≤ 100000 := by
  have h1 : (pieceText ks l).length = l.length := by simp [pieceText]
  have h2 : ∀ x ∈ pieceText ks l, x.length ≤ 101 := by
    intro x hx
    obtain ⟨i, _, rfl⟩ := List.mem_map.mp hx
    rw [List.length_append, List.length_replicate, List.length_singleton]
    have : ks.getD i 0 ≤ 100 := by
      rw [List.getD_eq_getElem?_getD]
      cases e : ks[i]? with
      | none => exact Nat.zero_le _
      | some k => exact hks k (List.mem_of_getElem? e)
    omega
  have h3 : ∀ (xs : List (List Nat)), (∀ x ∈ xs, x.length ≤ 101) → xs.flatten.length ≤ xs.length * 101 := by
    intro xs
    induction xs with
    | nil => intro _; simp
    | cons x xs ih =>
      intro h
      rw [List.flatten_cons, List.length_append, List.length_cons, Nat.succ_mul]
      have := ih fun y hy => h y (List.mem_cons_of_mem _ hy)
      have := h x (List.mem_cons_self ..)
      omega
  have := h3 _ h2
  rw [h1] at this ⊢
  omega

/-- ''.join(g) over a generator -/
theorem join_ready {g : Addr} {n : Nat} {Fv : Nat → Value → Prop} {xss : List (List Nat)} {t0 : Tok} {s0 : Shared} {Q : Value → Shared → Prop} {E : Value → Shared → Prop} (hR : Ready prog w A s0 g n Fv s) (hn : xss.length = n) (hval : ∀ i v x, Fv i v → xss[i]? = some x → St x v) (hstr : ∀ i v, Fv i v → ∃ y u, v = Value.str y u)
    (hz : xss.flatten.length + xss.length ≤ 100000)
    (hq : ∀ s' t' X, (∀ b ∈ X, s0.heap.get? b = none) → Ex X s s' → Q (Tx xss.flatten t') s') : wpAny (model prog w) A (call (.builtin "str.join") [Tx [] t0, .ref g]) Q E s := by
  obtain ⟨fp, wr, G, St', hW4, hst, hty, hgf, hfp, hwr, hbare⟩ := hR
  refine SC.joinGen hW4.in4_2 hty hst hfp hgf hstr (fun s' l hm hit => ?_) (by simp only [sizeLine]; omega)
  have hare : Are St xss (strValues l) := by
    have h1 := itemsOf_are hit
    refine ⟨by rw [h1.len, List.length_range, hn], fun i x v hx hv => ?_⟩
    have hi : i < n := by rw [← hn]; exact (List.getElem?_eq_some_iff.mp hx).1
    exact hval i v x (h1.at_ i i v (List.getElem?_range hi) hv) hx
  have hl : l.map (·.1) = xss.map fun x => (⟨x.toArray⟩ : Str) := by
    have h2 : ∀ (l : List (Str × Tok)) (xss : List (List Nat)), Are St xss (strValues l) → l.map (·.1) = xss.map fun x => (⟨x.toArray⟩ : Str) := by
      intro l
      induction l with
      | nil => intro xss h; have := h.len; cases xss with
        | nil => rfl
        | cons _ _ => simp [strValues] at this
      | cons p l ih =>
        intro xss h
        cases xss with
        | nil => have := h.len; simp [strValues] at this
        | cons x xss =>
          obtain ⟨t, ht⟩ := h.at_ 0 x _ rfl rfl
          rw [List.map_cons, List.map_cons, ih xss ⟨by have := h.len; simpa [strValues] using this, fun i y u hy hu => h.at_ (i + 1) y u (by simpa using hy) (by simpa [strValues] using hu)⟩]
          congr 1
          injection ht
    exact h2 l xss hare
  rw [hl]
  refine ⟨joinOk_of_weight ?_ (by show (0 : Nat) ≤ 16; omega), fun t' k => ?_⟩
  · have e1 : ((xss.map fun l => (⟨l.toArray⟩ : Str)).map (·.length)).sum = xss.flatten.length := by
      rw [List.length_flatten, List.map_map]; congr 1
    rw [e1, List.length_map]; omega
  · rw [join_flat]
    have x1 : Ex wr s s' := ⟨fun b o hb e => hm.heap b o hb e, fun hb => hbare _ _ hm.gens hb, hm.os⟩
    exact hq _ t' wr hwr (x1.step0 (.toks _))

/-- __str__ -/
theorem str_walk {a d : Addr} {tvs : List Pc} {ks l : List Nat} (f : Bg s.heap) (hp : PileAt s.heap a d (refs tvs)) (hT : Pcs s.heap ks l tvs) (hks : ∀ k ∈ ks, k ≤ 100) (hl : l.length ≤ 100) (hd : A.depth < 800) (hA : A.handled = none) :
    W (model Pg w) A (runValue (.call (.ref 75) ⟨[.ref a], []⟩)) (fun r s' => St (pieceText ks l).flatten r ∧ Ex [70] s s' ∧ Bg s'.heap) s := by
  obtain ⟨o, h1, h2, _⟩ := f.bs.str.at_
  have h3 := f.bs.str.rec_
  refine w_call (binds := [("self", .ref a)]) (by simp only [recursionLimit]; omega) h1 h2 f.bs.lim h3 (body := bodyOf (meth 5)) rfl (.of_eq rfl) (fun s1 hx hsz hn1 => ?_)
  have f1 := f.ex0 hx
  have hp1 := hx.pile hp (by simp) (by simp)
  have hd' : (A.deeper (callEnv fdStr s.heap.objs.size 75)).depth < 900 := by show A.depth + 1 < 900; omega
  have hA' : (A.deeper (callEnv fdStr s.heap.objs.size 75)).handled = none := hA
  refine w_retE ?_
  show wpAny _ _ (do
      let ov ← eval (.Name "EMPTYSTRING" _) (callEnv fdStr s.heap.objs.size 75)
      standAt _
      let (f, first) ← holding [ov] (getMethod ov "join" _)
      callWith _ f first (backTo _ (starEach [_] (callEnv fdStr s.heap.objs.size 75))) []) _ _ _
  refine wpAny_bind ((pe_gl f1.bs.gl gl_empty).use .refl fun v s2 hv hx2 _ => wpAny_bind (wpAny_standAt (wpAny_bind (wpAny_holding ?_))))
  subst hv
  refine GM.join ?_
  have f2 := f1.ex0 hx2
  have hp2 := hx2.pile hp1 (by simp) (by simp)
  have hn2 := hx2.ns hn1 (by simp)
  have hT2 := (hT.ex hx .nil).ex hx2 .nil
  refine Calls.callWith_builtin rfl (Calls.evalArgs_plain (Calls.spliced_cons ?_))
  refine gen_pile (F := fun i v => St (List.replicate (ks.getD i 0) 32 ++ [l.getD i 0]) v) f2 hp2 hT2.tup hn2 rfl f2.t2 (by decide) hA' hd' ?_ ?_
  · intro A' E' i t s₂ m₂ C code hA2 hti g2 hnC m1 m2
    obtain ⟨k, c, hk1, hc1, _, ⟨tk, hk⟩, ⟨tc, hc⟩⟩ := hT2.get hti
    have hk100 : k ≤ 100 := hks k (List.mem_of_getElem? hk1)
    rw [hk] at m1
    rw [hc] at m2
    refine ke_join g2 hnC m1 m2 (by rw [List.length_replicate]; simp; omega) fun t' h' k' hk' => ⟨⟨t', ?_⟩, h', k', rfl, hk'⟩
    rw [List.getD_eq_getElem?_getD, hk1, List.getD_eq_getElem?_getD, hc1]; rfl
  · intro g s5 hx5 hT5 hR
    have f5 : Bg s5.heap := by
      have hw : ∀ x ∈ [70], Wild x := wild1 (show (70 : Addr) ∉ baseAddrs by decide)
      obtain ⟨o4, ho4, r4⟩ := f2.bm
      exact ⟨f2.bs.ex hx5 hw, ⟨o4, hx5.keep _ _ (by decide) ho4, r4⟩, f2.t1.ex hx5 (by decide) (by decide), hT5⟩
    refine Calls.spliced_nil ?_
    rw [str_empty]
    refine join_ready (xss := pieceText ks l) hR (by simp [pieceText, hT.ll]) ?_ (fun i v ⟨t, ht⟩ => ⟨_, t, ht⟩) (piece_flat_len ks l hks hl) fun s7 t7 X hX hx7 => ?_
    · intro i v x hv hx
      have hi : i < l.length := by have := (List.getElem?_eq_some_iff.mp hx).1; simpa [pieceText] using this
      unfold pieceText at hx
      rw [List.getElem?_map, List.getElem?_range hi] at hx
      cases hx; exact hv
    have x12 := hx.trans hx2
    have hX2 : ∀ x ∈ X, Wild2 x := fun x hx => f2.wild2 (hX x hx)
    exact ⟨⟨t7, rfl⟩, (x12.lift.trans hx5).step hx7 fun y hy => .inr (x12.old0 (hX y hy)), f5.ex hx7 hX2⟩
end Mine
end

section
open PySem PySem.W PyProof.Rows
set_option maxRecDepth 100000
set_option maxHeartbeats 1000000
set_option linter.unusedVariables false
namespace Mine
variable {α β : Type} {w : World} {M : Model} {prog : Program} {A : Around} {env : Env} {s s' : Shared}

theorem lk_list_len : typeLookup (.type "list") "__len__" = pure (some (.builtin "list.__len__")) := by rw [typeLookup_type, builtinLookup_eq_fast]; kernel_rfl
theorem lk_list_str : ∃ y, typeLookup (.type "list") "__str__" = pure y := ⟨some (.builtin "object.__str__"), by rw [typeLookup_type, builtinLookup_eq_fast]; kernel_rfl⟩
theorem own_special {name : Str} {fa : Addr} {fd : FuncData} {a d : Addr} {vs : List Value} {y : Option Value} (f : Bs s.heap) (hp : PileAt s.heap a d vs) (hn : clsTab.lookup name = some (.ref fa)) (hfn : FnAt s.heap fa fd) (hB : typeLookup (.type "list") name = pure y) : s.heap.OwnSpecial a 101 fa "list" name := by
  obtain ⟨of, ho1, ho2, ho3⟩ := hfn.at_
  obtain ⟨n, hx⟩ := hp.obj
  exact ⟨_, of, _, _, 100, _, _, _, _, _, _, _, _, _, _, _, _, _, _, _, y, hx, rfl, cls_at f, f.clsNs, hn, ho1, ho3, mro_list, hB⟩

theorem piece_len_le (ks : List Nat) (hks : ∀ k ∈ ks, k ≤ 100) (hl : ks.length ≤ 100) : pieceLen ks ≤ 100000 := by
  have h : ∀ ks : List Nat, (∀ k ∈ ks, k ≤ 100) → pieceLen ks ≤ ks.length * 101 := by
    intro ks
    induction ks with
    | nil => intro _; simp [pieceLen]
    | cons k ks ih =>
      intro h
      have h1 := ih fun x hx => h x (List.mem_cons_of_mem _ hx)
      have h2 := h k (List.mem_cons_self ..)
      simp only [pieceLen, List.map_cons, List.sum_cons, List.length_cons] at h1 ⊢
      omega
  have := h ks hks
  omega

/-- len(pile) -/
theorem len_pile {a d : Addr} {tvs : List Pc} {ks l : List Nat} (f : Bg s.heap) (hp : PileAt s.heap a d (refs tvs)) (hT : Pcs s.heap ks l tvs) (hks : ∀ k ∈ ks, k ≤ 100) (hl : ks.length ≤ 100) (hd : A.depth < 800) (hA : A.handled = none) :
    W (model Pg w) A (call (.builtin "len") [.ref a]) (fun r s' => It (pieceLen ks) r ∧ Ex [63] s s' ∧ Bg s'.heap) s := by
  have X := own_special f.bs hp lk_len f.bs.len lk_list_len
  have hw := len_walk (w := w) (A := A.in1) f hp hT hks hd hA
  obtain ⟨h, g, dr, t, os⟩ := s
  refine len_own X (hw.upm fun r s' hr => ?_)
  obtain ⟨⟨u, rfl⟩, hx, f'⟩ := hr
  have := piece_len_le ks hks hl
  exact ⟨_, u, rfl, by omega, by omega, ⟨_, rfl⟩, hx.step0 (.toks _), f'.ex0 (.toks _)⟩
end Mine
end

section
open PySem PySem.W PyProof.Rows
set_option maxRecDepth 100000
set_option maxHeartbeats 1000000
set_option linter.unusedVariables false
namespace Mine
variable {α β : Type} {w : World} {M : Model} {prog : Program} {A : Around} {env : Env} {s s' : Shared}

theorem strOf_pile {a d : Addr} {tvs : List Pc} {ks l : List Nat} (f : Bg s.heap) (hp : PileAt s.heap a d (refs tvs)) (hT : Pcs s.heap ks l tvs) (hks : ∀ k ∈ ks, k ≤ 100) (hl : l.length ≤ 100) (hd : A.depth < 800) (hA : A.handled = none) (hu : A.units < 9800) :
    W (model Pg w) A (Builtin.Str.strOf (.ref a)) (fun r s' => St (pieceText ks l).flatten r ∧ Ex [70] s s' ∧ Bg s'.heap) s := by
  obtain ⟨y, hy⟩ := lk_list_str
  have X := own_special f.bs hp lk_str f.bs.str hy
  have hw := str_walk (w := w) (A := A) f hp hT hks hl hd hA
  obtain ⟨h, g, dr, t, os⟩ := s
  unfold Builtin.Str.strOf
  rw [if_neg (by exact Bool.false_ne_true)]
  refine wpAny_bind (wpAny_cRoomFor (by simp only [cLine]; omega) ?_)
  refine wpAny_bind (m := callSpecial? (.ref a) (Str.ofString "__str__")) (wpAny_callSpecial?_own X (hw.upm fun r s' hr => ?_))
  obtain ⟨⟨u, rfl⟩, hx, f'⟩ := hr
  exact wpAny_pure ⟨⟨u, rfl⟩, hx, f'⟩

/-- str(pile) -/
theorem str_pile {a d : Addr} {tvs : List Pc} {ks l : List Nat} (f : Bg s.heap) (hp : PileAt s.heap a d (refs tvs)) (hT : Pcs s.heap ks l tvs) (hks : ∀ k ∈ ks, k ≤ 100) (hl : l.length ≤ 100) (hd : A.depth < 800) (hA : A.handled = none) (hu : A.units < 9000) :
    W (model Pg w) A (call (.type "str") [.ref a]) (fun r s' => St (pieceText ks l).flatten r ∧ Ex [70] s s' ∧ Bg s'.heap) s := by
  refine callType_newIn (S := fun A R s => wpAny (model Pg w) A.in1 (Builtin.Str.strOf (.ref a)) (fun r s' => R (.ok (.ret r)) s') (fun e s' => R (.error e) s') s) F.called_str (by decide) (F.typeCall_str_1 _) (F.newCall_str_1 _) (fun obj => F.args_object_init_2 obj _) F.entry_str_new ?_ ?_
  · intro A R s h
    rw [str_new_tree]
    refine wpAny_bind (wpAny_pure ?_)
    refine wpAny_bind (wpAny_of_eq isSubtype_str_str ?_)
    exact wpAny_bind (wpAny_mono h (fun r s' h' => wpAny_pure h') fun _ _ e => e)
  · refine (strOf_pile (A := A.in1.in1) f hp hT hks hl hd hA (by show A.units + 1 + 1 < 9800; omega)).upm fun r s' hr => ?_
    obtain ⟨⟨u, rfl⟩, r2⟩ := hr
    exact ⟨typeIs_str _ _ _, ⟨u, rfl⟩, r2⟩
end Mine
end

section
open PySem PySem.W PyProof.Rows
set_option maxRecDepth 100000
set_option maxHeartbeats 1000000
set_option linter.unusedVariables false
namespace Mine
variable {α β : Type} {w : World} {M : Model} {prog : Program} {A : Around} {env : Env} {s s' : Shared}

theorem Ex.cell {X s s' c v} (h : Ex X s s') (hv : s.heap.IsCell c v) (hc : c ∉ X) : s'.heap.IsCell c v := let ⟨o, e, r⟩ := hv; ⟨o, h.keep _ _ hc e, r⟩

theorem pe_cell {x : Str} {pos : Pos} {c : Addr} {v : Value} (hv : s.heap.IsCell c (some v)) (hk : env.scope.kind = .function := by rfl) (hl : env.kindOf x = some .cell := by rfl) (hc : env.cells.lookup x = some c := by rfl) (hd : (x == ("__debug__" : Str)) = false := by decide) :
    Pe M A (eval (.Name x pos) env) s (· = v) :=
  fun _ hx _ => wpAny_Name (wpAny_loadName_cell hk hl hc (hx.cell hv (by simp)) ⟨.refl, rfl⟩) hd

theorem st_cell {x : Str} {v : Value} {c : Addr} {v₀ : Option Value} {Q : Unit → Shared → Prop} {E : Value → Shared → Prop} (hv : s.heap.IsCell c v₀)
    (k : ∀ s2, Ex [c] s s2 → s2.heap.IsCell c (some v) → Q () s2) (hk : env.scope.kind = .function := by rfl) (hl : env.kindOf x = some .cell := by rfl) (hc : env.cells.lookup x = some c := by rfl) :
    wpAny M A (storeName env x v) Q E s :=
  wpAny_storeName_cell hk hl hc hv fun h' hc' hs => k _ (Ex.same s.toks hs) hc'

/-- a call of a def with cells of its own -/
theorem w_callC {a : Addr} {o : Obj} {fd : FuncData} {body : List Stmt} {vals : List Value} {binds : List (Str × Value)} {Q : Value → Shared → Prop}
    (hroom : A.depth < recursionLimit) (ho : s.heap.get? a = some o) (hdata : o.data = .func fd) (hlim : s.heap.NoLimit) (hcd : s.heap.CodeRec fd.code fd.qualname)
    (hbody : fd.body = .stmts body) (hbind : bindArgs fd ⟨vals, []⟩ = pure binds)
    (hkind : ∀ x ∈ binds, fd.scope.names.lookup x.1 = some .local ∨ (fd.scope.names.lookup x.1 = some .cell ∧ ((cellsFrom (s.heap.objs.size + 1) fd.scope.names []).lookup x.1).isSome = true))
    (h : ∀ s1, Ex [] s s1 → s.heap.get? s.heap.objs.size = none → s1.heap.Ns s.heap.objs.size (bindL (callEnvC fd s.heap.objs.size a).kindOf binds fun _ => none) →
      (∀ n c, (callEnvC fd s.heap.objs.size a).cells.lookup n = some c → s1.heap.IsCell c (bindC (callEnvC fd s.heap.objs.size a).kindOf binds (fun _ => none) n) ∧ s.heap.get? c = none ∧ s.heap.objs.size ≠ c) →
      W (model prog w) (A.deeper (callEnvC fd s.heap.objs.size a)) (execs body (callEnvC fd s.heap.objs.size a)) (fun f s' => Q (match f with | .ret v => v | _ => .none) s') s1)
    (hclo : fd.closure = [] := by rfl) (hco : fd.scope.isCoroutine = false := by rfl) (hgen : fd.scope.isGenerator = false := by rfl) (hk : fd.scope.kind = .function := by rfl) :
    W (model prog w) A (runValue (.call (.ref a) ⟨vals, []⟩)) Q s := by
  refine wpAny_runValue (codeAny_call_cells hroom ho hdata hlim hcd hbody hbind hclo hkind (fun s1 x => ?_) hco hgen hk)
  obtain ⟨h', tk, rfl, hkeep⟩ := x.done
  have hx : Ex [] s { s with heap := h', toks := tk } := ⟨fun b o _ e => hkeep b o e, fun x => x, rfl⟩
  have hc : ∀ n c, (callEnvC fd s.heap.objs.size a).cells.lookup n = some c → ({ s with heap := h', toks := tk } : Shared).heap.IsCell c (bindC (callEnvC fd s.heap.objs.size a).kindOf binds (fun _ => none) n) ∧ s.heap.get? c = none ∧ s.heap.objs.size ≠ c := by
    intro n c hl
    have hlt : s.heap.objs.size < c := x.above n c (mem_of_lookup hl)
    refine ⟨x.cell n c hl, ?_, Nat.ne_of_lt hlt⟩
    cases e : s.heap.get? c with
    | none => rfl
    | some o => exact absurd (Heap.lt_size e) (Nat.not_lt.mpr (Nat.le_of_lt hlt))
  exact (h _ hx (fresh_size _) x.toInCall.ns hc).upm fun f s' h' => h'
end Mine
end

section
open PySem PySem.W PyProof.Rows
set_option maxRecDepth 100000
set_option maxHeartbeats 1000000
set_option linter.unusedVariables false
namespace Mine
variable {α β : Type} {w : World} {M : Model} {prog : Program} {A : Around} {env : Env} {s s' : Shared}

/-- range(a, b), told with what it changes -/
theorem itx_range2 {f : Str} {fp pos py : Pos} {y : Str} {e1 e2 : Expr} {a b : Nat} (hf : Pe (model prog w) A (eval (.Name f fp) env) s (· = .type "range")) (h1 : Pe (model prog w) A (eval e1 env) s (It a)) (h2 : Pe (model prog w) A (eval e2 env) s (It b))
    (ha : a ≤ 1000000) (hb : b ≤ 1000000) (hh : A.handled = none) (hs : starEach [e1, e2] env = [(false, eval e1 env), (false, eval e2 env)] := by rfl) :
    ItersX prog w A env (.Call (.Name f fp) [e1, e2] [] pos) (.Name y py) s (b - a) (fun i v => It ((a + i : Nat) : Int) v) [] := by
  intro E
  refine Call_Name2 (hf.use .refl fun v s1 hv hx1 _ => ?_) hs
  subst hv
  refine PySem.callWith_type rfl (Calls.evalArgs_plain (Calls.spliced_cons (h1.use hx1 fun v s2 ⟨t, hv⟩ hx2 _ => Calls.spliced_cons (h2.use hx2 fun u s3 ⟨t', hu⟩ hx3 _ => Calls.spliced_nil ?_))))
  subst hv hu
  refine call_range_2 (wpAny_pyIter_range (IsRange.new ..) (small_one (by omega) (by omega) (by omega) (by omega)) ?_)
  have hsz : Builtin.Range.rangeSize (a : Int) (b : Int) 1 = ((b - a : Nat) : Int) := by rw [rangeSize_one]; split <;> omega
  obtain ⟨s4, hs4⟩ : ∃ s4 : Shared, s4 = { s3 with heap := s3.heap } := ⟨_, rfl⟩
  have key : ∀ (tk : Nat) (o : Obj), ∃ I fp wr St, Value.ref (s3.heap.push o).objs.size = .ref I ∧ Walks prog w A I fp wr (b - a) (fun i v => It ((a + i : Nat) : Int) v) St ∧
      St 0 ((s3.heap.push o).push { cls := .type "range_iterator", data := .fields #[rawInt (a : Int), rawInt (Builtin.Range.rangeSize (a : Int) (b : Int) 1), rawInt 1] }) ∧
      Ex [] s { s3 with heap := (s3.heap.push o).push { cls := .type "range_iterator", data := .fields #[rawInt (a : Int), rawInt (Builtin.Range.rangeSize (a : Int) (b : Int) 1), rawInt 1] }, toks := tk } ∧
      (∀ x ∈ wr, s.heap.get? x = none) ∧ (∀ x ∈ fp, s.heap.get? x = none ∨ x ∈ ([] : List Addr)) ∧
      (∀ x ∈ fp, x < ((s3.heap.push o).push { cls := .type "range_iterator", data := .fields #[rawInt (a : Int), rawInt (Builtin.Range.rangeSize (a : Int) (b : Int) 1), rawInt 1] }).objs.size) ∧
      (∀ k v s Q E, It ((a + k : Nat) : Int) v → St (k + 1) s.heap → Q () s → wpAny (model prog w) A (letOwnedTupleGo (.Name y py) (.ref I) v) Q E s) ∧ (∀ k h, St k h → NoTup h wr) := by
    intro tk o
    have hfr : s.heap.get? (s3.heap.push o).objs.size = none := hx3.old0 (by
        cases e : s3.heap.get? (s3.heap.push o).objs.size with
        | none => rfl
        | some o' => exact absurd (Heap.lt_size e) (by rw [Heap.size_push]; exact Nat.not_lt.mpr (Nat.le_succ _)))
    have h := Walks.range (prog := prog) (w := w) hh (s3.heap.push o).objs.size (a : Int) 1 (b - a)
    have hP : (fun (i : Nat) (v : Value) => ∃ t, v = Value.int ((a : Int) + (i : Int) * 1) t) = (fun (i : Nat) v => It ((a + i : Nat) : Int) v) := by
      funext i v
      rw [show (a : Int) + (i : Int) * 1 = ((a + i : Nat) : Int) by simp]
    rw [hP] at h
    refine ⟨_, _, _, _, rfl, h, ?_, (hx3.step0 (.push _ s3.toks)).step0 (.push _ _), ?_, ?_, ?_, fun k v s Q E _ _ hq => wpAny_pure hq, ?_⟩
    · show IsRangeIter _ _ ((a : Int) + ((0 : Nat) : Int) * 1) (((b - a : Nat) : Int) - ((0 : Nat) : Int)) 1
      rw [show ((a : Int) + ((0 : Nat) : Int) * 1) = a by simp, show (((b - a : Nat) : Int) - ((0 : Nat) : Int)) = Builtin.Range.rangeSize a b 1 by rw [hsz]; simp]
      exact Heap.get?_push_size _ rfl
    · intro x hx; rw [List.mem_singleton.mp hx]; exact hfr
    · intro x hx; rw [List.mem_singleton.mp hx]; exact .inl hfr
    · intro x hx; simp only [List.mem_singleton] at hx; subst hx; simp only [Heap.size_push]; exact Nat.lt_succ_self _
    · intro k hp hst
      exact noTup_one (show hp.get? _ = some _ from hst) (fun e => by injection e with e; exact absurd e (by decide))
  exact key _ _
end Mine
end

section
open PySem PySem.W PyProof.Rows
set_option maxRecDepth 100000
set_option maxHeartbeats 1000000
set_option linter.unusedVariables false
namespace Mine
variable {α β : Type} {w : World} {M : Model} {prog : Program} {A : Around} {env : Env} {s s' : Shared}

def IsMax (ns : List Int) (m : Int) : Prop := m ∈ ns ∧ ∀ a ∈ ns, a ≤ m

theorem best_max {ns : List Int} (h : 0 < ns.length) : IsMax ns (ns.getD (argBest (fun i j => decide (ns.getD i 0 > ns.getD j 0)) (ns.length - 1)) 0) := by
  obtain ⟨h1, h2⟩ := argBest_gt (fun i => ns.getD i 0) (ns.length - 1)
  refine ⟨?_, fun a ha => ?_⟩
  · rw [List.getD_eq_getElem?_getD, List.getElem?_eq_getElem (by omega)]
    exact List.getElem_mem _
  · obtain ⟨j, hj⟩ := List.getElem?_of_mem ha
    have hlt := (List.getElem?_eq_some_iff.mp hj).1
    have := h2 j (by omega)
    rw [show ns.getD j 0 = a by rw [List.getD_eq_getElem?_getD, hj]; rfl] at this
    exact this

theorem call_max_list {l : Addr} {vs : List Value} {ns : List Int} (hl : s.heap.IsList l vs.toArray) (hv : Are It ns vs) (h0 : 0 < ns.length) (hh : A.handled = none) : Pe (model prog w) A (call (.builtin "max") [.ref l]) s (fun v => ∃ m, IsMax ns m ∧ It m v) := by
  intro s' hx E
  have hl' := hx.isList hl (by simp)
  have hlt : l < s'.heap.objs.size := let ⟨o, ho, _⟩ := hl'; Heap.lt_size ho
  have hval : ∀ (i : Nat) (v : Value), vs.toArray[i]? = some v → ∃ t, v = Value.int (ns.getD i 0) t := by
    intro i v h
    obtain ⟨x, hx1, hx2⟩ := hv.get' (i := i) (v := v) (by simpa using h)
    rw [List.getD_eq_getElem?_getD, hx1]; exact hx2
  refine call_max_walk (wpAny_pyIter_list hl' ⟨s'.heap.objs.size, _, _, vs.toArray.size, _, _, _, rfl, Walks.list (A := A.in1) hh s'.heap.objs.size l (Nat.ne_of_lt hlt) vs.toArray, ⟨⟨_, Heap.get?_push_size _ rfl, rfl, rfl⟩, hl'.push _⟩, ?_, by rw [List.size_toArray, hv.len]; exact h0, CmpOf.ints_gt (fun i => ns.getD i 0) hval, ?_⟩)
  · intro b hb
    show b < (s'.heap.push _).objs.size
    rw [Heap.size_push]
    rcases List.mem_cons.mp hb with rfl | hb
    · exact Nat.lt_succ_self _
    · rw [List.mem_singleton.mp hb]; exact Nat.lt_succ_of_lt hlt
  · intro v h' tk hP hk
    refine ⟨⟨fun b o _ e => hk b o (nmem1 (Nat.ne_of_lt (Heap.lt_size e))) (Heap.get?_push_of_some _ e), fun x => x, rfl⟩, _, best_max h0, ?_⟩
    rw [List.size_toArray, hv.len] at hP
    exact hval _ v hP

theorem call_max2 {a b : Int} (hh : A.handled = none) {t u : Tok} : Pe (model prog w) A (call (.builtin "max") [.int a t, .int b u]) s (It (Max.max a b)) := by
  intro s' hx E
  have hval : ∀ (i : Nat) (v : Value), (#[Value.int a t, Value.int b u] : Array Value)[i]? = some v → ∃ t, v = Value.int ([a, b].getD i 0) t := by
    intro i v h
    match i, h with
    | 0, h => cases h; exact ⟨_, rfl⟩
    | 1, h => cases h; exact ⟨_, rfl⟩
  obtain ⟨s1, hs1⟩ : ∃ s1 : Shared, s1 = { s' with heap := s'.heap.push { cls := .type "tuple", data := .seq #[.int a t, .int b u] } } := ⟨_, rfl⟩
  have x1 : Ex [] s' s1 := hs1 ▸ Ex.push' _
  have ht : s1.heap.IsTuple s'.heap.objs.size #[.int a t, .int b u] := by subst hs1; exact ⟨_, Heap.get?_push_size _ rfl, rfl, _, rfl⟩
  have hlt : s'.heap.objs.size < s1.heap.objs.size := let ⟨o, ho, _⟩ := ht; Heap.lt_size ho
  refine call_max_two ?_
  rw [← hs1]
  refine wpAny_pyIter_tuple ht ⟨s1.heap.objs.size, _, _, 2, _, _, _, rfl, Walks.tuple (A := A.in1) hh s1.heap.objs.size s'.heap.objs.size (Nat.ne_of_lt hlt) #[.int a t, .int b u], ⟨⟨_, Heap.get?_push_size _ rfl, rfl, rfl⟩, ht.push _⟩, ?_, by decide, CmpOf.ints_gt (fun i => [a, b].getD i 0) hval, ?_⟩
  · intro b hb
    show b < (s1.heap.push _).objs.size
    rw [Heap.size_push]
    rcases List.mem_cons.mp hb with rfl | hb
    · exact Nat.lt_succ_self _
    · rw [List.mem_singleton.mp hb]; exact Nat.lt_succ_of_lt hlt
  · intro v h' tk hP hk
    refine ⟨x1.trans ⟨fun b o _ e => hk b o (nmem1 (Nat.ne_of_lt (Heap.lt_size e))) (Heap.get?_push_of_some _ e), fun x => x, rfl⟩, ?_⟩
    have hm : IsMax [a, b] ([a, b].getD (argBest (fun i j => decide ([a, b].getD i 0 > [a, b].getD j 0)) (2 - 1)) 0) := best_max (ns := [a, b]) (Nat.zero_lt_succ _)
    obtain ⟨t', ht'⟩ := hval _ v hP
    refine ⟨t', ?_⟩
    rw [ht']
    congr 1
    generalize [a, b].getD (argBest (fun i j => decide ([a, b].getD i 0 > [a, b].getD j 0)) (2 - 1)) 0 = g at hm ⊢
    obtain ⟨h1, h2⟩ := hm
    have ha := h2 a (by simp)
    have hb := h2 b (by simp)
    simp only [List.mem_cons, List.not_mem_nil, or_false] at h1
    rw [Int.max_def]
    split <;> omega
end Mine
end

section
open PySem PySem.W PyProof.Rows
set_option maxRecDepth 100000
set_option maxHeartbeats 1000000
set_option linter.unusedVariables false
namespace Mine
variable {α β : Type} {w : World} {M : Model} {prog : Program} {A : Around} {env : Env} {s s' : Shared}

theorem pe_call2 {f : Str} {fp pos : Pos} {e1 e2 : Expr} {id : String} {R1 R2 R : Value → Prop} (hf : Pe (model prog w) A (eval (.Name f fp) env) s (· = .builtin id)) (h1 : Pe (model prog w) A (eval e1 env) s R1) (h2 : Pe (model prog w) A (eval e2 env) s R2)
    (hc : ∀ v u, R1 v → R2 u → Pe (model prog w) A (call (.builtin id) [v, u]) s R) (hs : starEach [e1, e2] env = [(false, eval e1 env), (false, eval e2 env)] := by rfl) :
    Pe (model prog w) A (eval (.Call (.Name f fp) [e1, e2] [] pos) env) s R := by
  intro s' hx E
  refine call_b2 (hf.later hx) (fun s1 hx1 => (h1.later hx).use hx1 fun v s2 hv hx2 a2 => (h2.later hx).use hx2 fun u s3 hu hx3 a3 => (hc v u hv hu).use (hx.trans hx3) fun r s4 hr hx4 a4 => ⟨hx3.trans a4, hr⟩) hs

theorem pe_cellS {x : Str} {pos : Pos} {c : Addr} {l : List Nat} {t : Tok} (hv : s.heap.IsCell c (some (Tx l t))) (hk : env.scope.kind = .function := by rfl) (hl : env.kindOf x = some .cell := by rfl) (hc : env.cells.lookup x = some c := by rfl) (hd : (x == ("__debug__" : Str)) = false := by decide) :
    Pe M A (eval (.Name x pos) env) s (St l) := (pe_cell hv hk hl hc hd).mono fun v h => ⟨t, h⟩
theorem pe_cellI {x : Str} {pos : Pos} {c : Addr} {i : Int} {t : Tok} (hv : s.heap.IsCell c (some (.int i t))) (hk : env.scope.kind = .function := by rfl) (hl : env.kindOf x = some .cell := by rfl) (hc : env.cells.lookup x = some c := by rfl) (hd : (x == ("__debug__" : Str)) = false := by decide) :
    Pe M A (eval (.Name x pos) env) s (It i) := (pe_cell hv hk hl hc hd).mono fun v h => ⟨t, h⟩

noncomputable def fitsF (p r : List Nat) (e : Nat) : List Nat := (List.range p.length).filter fun k => cut r (some (e - k)) (some e) == cut p none (some k)

noncomputable def lvLoop : List Stmt := match (bodyOf (stm 9)).getD 2 (.Pass ⟨0, 0, 0, 0⟩) with
  | .For _ _ b _ _ => b
  | _ => []

theorem bu_max {x : Gl s.heap} {p : Pos} (hg : env.globals = 3 := by rfl) (hb : env.builtins = 0 := by rfl) (hk : env.scope.kind = .function := by rfl) (hl : env.kindOf "max" = some .globalImplicit := by rfl) :
    Pe M A (eval (.Name "max" p) env) s (· = .builtin "max") := pe_bu x (by decide +kernel) (let ⟨mb, b1, b2⟩ := x.b; ⟨mb, b1, b2.2.2.1⟩) hg hb hk hl

/-- fits = [..] -/
theorem lv_fits {p r : List Nat} {e : Nat} {L : Addr} {tp tr te : Tok} {m : Str → Option Value} {rest : List Stmt} {Q : Flow → Shared → Prop} (f : Bs s.heap) (hn : s.heap.Ns L m)
    (hw : s.heap.IsCell (L + 1) (some (Tx p tp))) (hr : s.heap.IsCell (L + 1 + 1) (some (Tx r tr))) (he : s.heap.IsCell (L + 1 + 1 + 1) (some (.int (e : Int) te))) (hpl : p.length ≤ 100) (hrl : r.length ≤ 100) (hA : A.handled = none)
    (h : ∀ D ys s2, s.heap.get? D = none → Ex [L] s s2 → s2.heap.PlainList D ys.toArray → Are Nt (fitsF p r e) ys → s2.heap.Ns L (upd m "fits" (.ref D)) → W (model Pg w) A (execs (lvLoop.drop 1) (callEnvC fdLeaves L 129)) Q s2) :
    W (model Pg w) A (execs lvLoop (callEnvC fdLeaves L 129)) Q s := by
  have z : p.length ≤ sizeLine := Nat.le_trans hpl (by decide)
  have z2 : r.length ≤ sizeLine := Nat.le_trans hrl (by decide)
  refine w_assignC (cl := [("word", L + 1), ("rest", L + 1 + 1), ("end", L + 1 + 1 + 1)]) (p := fun k => cut r (some (e - k)) (some e) == cut p none (some k)) (F := fun j v => Nt j v) (B := fun j m => ∃ t, m "size" = some (.int ((j : Nat) : Int) t)) hn
    (it_range1 (pe_range f.gl) (pe_len_str (pe_len f.gl) (pe_cellS hw) z) (by omega) hA).name ⟨?_, ?_, ?_⟩ z rfl ?_
  · rintro C j v s1 mC hj ⟨t, rfl⟩ hC hx1 hnC E Q hq
    exact wpAny_assign_Name (st_local hnC fun s2 hx2 hn2 => hq s2 _ hx2 hn2 ⟨t, rfl⟩)
  · rintro C j s1 mC hj ⟨t, hm⟩ hx1 hnC
    have f1 := f.ex0 hx1
    refine tests_one (pe_test cmp_str_eq (pe_slice_str (lo := some (e - j)) (hi := some e) (pe_cellS (hx1.cell hr (by simp))) ?_ (pe_cellI (hx1.cell he (by simp))) z2) (pe_slice_str (lo := none) (hi := some j) (pe_cellS (hx1.cell hw (by simp))) trivial (pe_locI hnC hm) z))
    refine (pe_call2 (R := It (Max.max 0 ((e : Int) - (j : Int)))) (bu_max (x := f1.gl)) pe_int (pe_sub (pe_cellI (hx1.cell he (by simp))) (pe_locI hnC hm)) ?_).mono fun v hv => ?_
    · rintro _ _ ⟨t1, rfl⟩ ⟨t2, rfl⟩; exact call_max2 hA
    · rwa [show Max.max 0 ((e : Int) - (j : Int)) = ((e - j : Nat) : Int) by omega] at hv
  · rintro C j s1 mC hj _ ⟨t, hm⟩ hx1 hnC
    exact pe_locI hnC hm
  · intro D ys s2 h1 h2 h3 h4 h5
    exact h D ys s2 h1 h2 h3 h4 h5
end Mine
end

section
open PySem PySem.W PyProof.Rows
set_option maxRecDepth 100000
set_option maxHeartbeats 1000000
set_option linter.unusedVariables false
namespace Mine
variable {α β : Type} {w : World} {M : Model} {prog : Program} {A : Around} {env : Env} {s s' : Shared}

/-- the pieces that the rest must have -/
structure Want (h : Heap) (p r : List Nat) (n : Nat) (vs : List Value) : Prop where
  len : vs.length = n
  at_ : ∀ (j : Nat) v, vs[j]? = some v → ∃ tp u c k x, v = .ref tp ∧ TupAt h tp [u, c] ∧ r[j]? = some x ∧ St (List.replicate k 32) u ∧ St [x] c ∧ k ∈ fitsF p r (j + 1) ∧ ∀ k' ∈ fitsF p r (j + 1), k' ≤ k
theorem Want.ex {X s s' p r n vs} (f : Want s.heap p r n vs) (h : Ex X s s') (hX : NoTup s.heap X) : Want s'.heap p r n vs :=
  ⟨f.len, fun j v hv => let ⟨tp, u, c, k, x, e1, e2, q⟩ := f.at_ j v hv; ⟨tp, u, c, k, x, e1, h.tups hX e2, q⟩⟩

theorem fits_zero (p r : List Nat) (e : Nat) (hp : 0 < p.length) : 0 ∈ fitsF p r e := by
  unfold fitsF
  rw [List.mem_filter]
  refine ⟨List.mem_range.mpr hp, ?_⟩
  unfold cut
  simp
theorem are_nat_int {ns : List Nat} {vs : List Value} (h : Are Nt ns vs) : Are It (ns.map fun (n : Nat) => (n : Int)) vs :=
  ⟨by rw [h.len, List.length_map], fun i x v hx hv => by
    rw [List.getElem?_map] at hx
    cases e : ns[i]? with
    | none => rw [e] at hx; cases hx
    | some n => rw [e] at hx; cases hx; exact h.at_ i n v e hv⟩

theorem exists_max : ∀ (l : List Nat), l ≠ [] → ∃ k, k ∈ l ∧ ∀ k' ∈ l, k' ≤ k
  | [], h => absurd rfl h
  | [a], _ => ⟨a, by simp, by simp⟩
  | a :: b :: l, _ => by
    obtain ⟨k, h1, h2⟩ := exists_max (b :: l) (by simp)
    by_cases hk : a ≤ k
    · exact ⟨k, List.mem_cons_of_mem _ h1, fun k' h' => by rcases List.mem_cons.mp h' with rfl | h'; exact hk; exact h2 k' h'⟩
    · exact ⟨a, List.mem_cons_self .., fun k' h' => by rcases List.mem_cons.mp h' with rfl | h'; exact Nat.le_refl _; have := h2 k' h'; omega⟩

/-- pieces.append(..) -/
theorem lv_append {p r : List Nat} {e x : Nat} {L pc D : Addr} {tr te : Tok} {ys vs : List Value} {m : Str → Option Value} {Q : Flow → Shared → Prop} (f : Bs s.heap) (hn : s.heap.Ns L m) (hr : s.heap.IsCell (L + 1 + 1) (some (Tx r tr))) (he : s.heap.IsCell (L + 1 + 1 + 1) (some (.int ((e + 1 : Nat) : Int) te)))
    (hD : s.heap.PlainList D ys.toArray) (hy : Are Nt (fitsF p r (e + 1)) ys) (m1 : m "fits" = some (.ref D)) (m2 : m "pieces" = some (.ref pc)) (hpc : s.heap.PlainList pc vs.toArray) (hx : r[e]? = some x) (hp0 : 0 < p.length) (hpl : p.length ≤ 100) (hvl : vs.length ≤ 100) (hrl : r.length ≤ 100) (hA : A.handled = none)
    (hW : Want s.heap p r e vs)
    (h : ∀ s2 tq, Ex [pc] s s2 → s2.heap.PlainList pc (vs ++ [Value.ref tq]).toArray → Want s2.heap p r (e + 1) (vs ++ [Value.ref tq]) → W (model Pg w) A (execs [] (callEnvC fdLeaves L 129)) Q s2) :
    W (model Pg w) A (execs (lvLoop.drop 1) (callEnvC fdLeaves L 129)) Q s := by
  have he0 : e < r.length := (List.getElem?_eq_some_iff.mp hx).1
  obtain ⟨k, hk, hkm⟩ := exists_max (fitsF p r (e + 1)) (List.ne_nil_of_mem (fits_zero p r _ hp0))
  have hk100 : k ≤ 100 := by
    have := List.mem_range.mp (List.mem_filter.mp hk).1
    omega
  have hmax : ∀ {p1 p2 p3 : Pos}, Pe (model Pg w) A (eval (.Call (.Name "max" p1) [.Name "fits" p2] [] p3) (callEnvC fdLeaves L 129)) s (It ((k : Nat) : Int)) := by
    intro p1 p2 p3
    refine pe_call1 (bu_max (x := f.gl)) (pe_local hn m1) ?_
    rintro _ rfl
    refine (call_max_list hD.isList (are_nat_int hy) (by rw [List.length_map]; exact List.length_pos_of_mem (fits_zero p r _ hp0)) hA).mono ?_
    rintro v ⟨mx, ⟨h1, h2⟩, hv⟩
    obtain ⟨k', hk', rfl⟩ := List.mem_map.mp h1
    have e1 := hkm k' hk'
    have e2 := h2 _ (List.mem_map.mpr ⟨k, hk, rfl⟩)
    have : k' = k := by omega
    rw [this] at hv; exact hv
  refine w_append (pe_local hn m2) hpc (pr_tuple (k := 0) (R := fun l => ∃ u c, l = [u, c] ∧ St (List.replicate k 32) u ∧ St [x] c) ((peL_cons (pe_mul_str (a := [32]) (n := k) (pe_str (by decide +kernel)) hmax (by simp; omega) (by omega)) (peL_cons (pe_item_str (k := e) (pe_cellS hr) ((pe_sub (pe_cellI he) pe_int).mono ?_) hx (by omega)) peL_nil)).mono ?_) (fun l hl => by obtain ⟨u, c, rfl, _⟩ := hl; exact (show 2 ≤ sizeLine by decide))) (by omega) ?_
  · rintro v ⟨u, rfl⟩; exact ⟨u, by congr 1; omega⟩
  · rintro l ⟨u, _, rfl, hu, c, _, rfl, hc, rfl⟩
    rw [flat_blank] at hu
    exact ⟨u, c, rfl, hu, hc⟩
  · rintro v s0 s1 s2 hx0 ⟨tq, _, rfl, hfr, hT, u, c, rfl, hu, hc⟩ hx1 hx2 hl2
    have hW2 := (hW.ex hx1 .nil).ex hx2 (.plain (hx1.plainList hpc (by simp)))
    have hT2 : TupAt s2.heap tq [u, c] := hx2.tups (.plain (hx1.plainList hpc (by simp))) hT
    refine h s2 tq (hx1.lift.trans hx2) hl2 ⟨by rw [List.length_append, hW.len]; rfl, fun j v hv => ?_⟩
    by_cases hj : j < vs.length
    · rw [List.getElem?_append_left hj] at hv; exact hW2.at_ j v hv
    · have hj0 : j = vs.length := by
        have := (List.getElem?_eq_some_iff.mp hv).1
        rw [List.length_append, List.length_singleton] at this
        omega
      subst hj0
      rw [List.getElem?_append_right (Nat.le_refl _)] at hv
      simp at hv
      subst hv
      rw [hW.len]
      exact ⟨tq, u, c, k, x, rfl, hT2, hx, hu, hc, hk, hkm⟩
end Mine
end

section
set_option linter.unusedVariables false
set_option maxRecDepth 100000
namespace Mine

/-- no p within t -/
def NF (p t : List Nat) : Prop := ¬ p <:+: t
/-- one p struck out -/
def Red (p s t : List Nat) : Prop := ∃ x y, s = x ++ p ++ y ∧ t = x ++ y
inductive Reds (p : List Nat) : List Nat → List Nat → Prop
  | refl {s} : Reds p s s
  | step {s t u} : Red p s t → Reds p t u → Reds p s u
theorem Reds.trans {p s t u : List Nat} (h : Reds p s t) (h' : Reds p t u) : Reds p s u := by
  induction h with
  | refl => exact h'
  | step a _ ih => exact .step a (ih h')
theorem Red.len {p s t : List Nat} (h : Red p s t) : s.length = t.length + p.length := by
  obtain ⟨x, y, rfl, rfl⟩ := h
  simp only [List.length_append]; omega
theorem Red.app {p s t : List Nat} (h : Red p s t) (z : List Nat) : Red p (s ++ z) (t ++ z) := by
  obtain ⟨x, y, rfl, rfl⟩ := h
  exact ⟨x, y ++ z, by simp, by simp⟩
theorem Reds.app {p s t : List Nat} (h : Reds p s t) (z : List Nat) : Reds p (s ++ z) (t ++ z) := by
  induction h with
  | refl => exact .refl
  | step a _ ih => exact .step (a.app z) ih
theorem NF.not_red {p t u : List Nat} (h : NF p t) (hr : Red p t u) : False := by
  obtain ⟨x, y, rfl, rfl⟩ := hr
  exact h ⟨x, y, rfl⟩
theorem Red.rev {p s t : List Nat} (h : Red p s t) : Red p.reverse s.reverse t.reverse := by
  obtain ⟨x, y, rfl, rfl⟩ := h
  exact ⟨y.reverse, x.reverse, by simp, by simp⟩
theorem Reds.rev {p s t : List Nat} (h : Reds p s t) : Reds p.reverse s.reverse t.reverse := by
  induction h with
  | refl => exact .refl
  | step a _ ih => exact .step a.rev ih
theorem NF.rev {p t : List Nat} (h : NF p t) : NF p.reverse t.reverse := fun hi => h (List.reverse_infix.mp hi)
theorem NF.pre {p a b : List Nat} (h : NF p (a ++ b)) : NF p a := fun hi => h (hi.trans (List.infix_append' [] a b |> fun x => by simpa using x))

theorem nf_snoc {p l : List Nat} {c : Nat} (h : NF p l) (hs : ¬ p <:+ l ++ [c]) (hp : 0 < p.length) : NF p (l ++ [c]) := by
  rintro ⟨x, y, e⟩
  rcases List.eq_nil_or_concat y with rfl | ⟨y', d, rfl⟩
  · exact hs ⟨x, by simpa using e⟩
  · rw [List.concat_eq_append, ← List.append_assoc] at e
    exact h ⟨x, y', (List.append_inj' e rfl).1⟩

theorem stepF_off {p l : List Nat} {c : Nat} (hs : p <:+ l ++ [c]) : ∃ x, l ++ [c] = x ++ p ∧ stepF p l c = x := by
  obtain ⟨x, hx⟩ := hs
  refine ⟨x, hx.symm, ?_⟩
  unfold stepF
  rw [if_pos ⟨x, hx⟩]
  have hl : (l ++ [c]).length = (x ++ p).length := by rw [hx]
  simp only [List.length_append, List.length_singleton] at hl
  rw [← hx, show l.length + 1 - p.length = x.length by omega, List.take_left']
  rfl
theorem stepF_on {p l : List Nat} {c : Nat} (hs : ¬ p <:+ l ++ [c]) : stepF p l c = l ++ [c] := by
  unfold stepF; rw [if_neg hs]

theorem stepF_nf {p l : List Nat} {c : Nat} (h : NF p l) (hp : 0 < p.length) : NF p (stepF p l c) := by
  by_cases hs : p <:+ l ++ [c]
  · obtain ⟨x, hx, e⟩ := stepF_off hs
    rw [e]
    rcases List.eq_nil_or_concat p with rfl | ⟨p', d, rfl⟩
    · simp at hp
    · rw [List.concat_eq_append, ← List.append_assoc] at hx
      have := (List.append_inj' hx rfl).1
      rw [this] at h
      exact h.pre
  · rw [stepF_on hs]; exact nf_snoc h hs hp
theorem stepF_reds {p l : List Nat} {c : Nat} : Reds p (l ++ [c]) (stepF p l c) := by
  by_cases hs : p <:+ l ++ [c]
  · obtain ⟨x, hx, e⟩ := stepF_off hs
    rw [e, hx]
    exact .step ⟨x, [], by simp, by simp⟩ .refl
  · rw [stepF_on hs]; exact .refl
theorem fold_spec {p : List Nat} (hp : 0 < p.length) (t : List Nat) : ∀ l, NF p l → NF p (t.foldl (stepF p) l) ∧ Reds p (l ++ t) (t.foldl (stepF p) l) := by
  induction t with
  | nil => intro l h; exact ⟨h, by simpa using .refl⟩
  | cons c t ih =>
    intro l h
    obtain ⟨h1, h2⟩ := ih _ (stepF_nf (c := c) h hp)
    refine ⟨h1, Reds.trans ?_ h2⟩
    have := (stepF_reds (p := p) (l := l) (c := c)).app t
    simpa using this
theorem nf_nil {p : List Nat} (hp : 0 < p.length) : NF p [] := fun h => by
  have := List.infix_nil.mp h
  rw [this] at hp; simp at hp
theorem stack_nf {p : List Nat} (hp : 0 < p.length) (t : List Nat) : NF p (stackF p t) := (fold_spec hp t [] (nf_nil hp)).1
theorem stack_reds {p : List Nat} (hp : 0 < p.length) (t : List Nat) : Reds p t (stackF p t) := (fold_spec hp t [] (nf_nil hp)).2

/-! what holds no word stays on the pile -/
theorem fold_nf {p : List Nat} (t : List Nat) : ∀ l, NF p (l ++ t) → t.foldl (stepF p) l = l ++ t := by
  induction t with
  | nil => intro l _; simp
  | cons c t ih =>
    intro l h
    have hs : ¬ p <:+ l ++ [c] := fun hs => h (by
      have h1 : l ++ c :: t = (l ++ [c]) ++ t := by simp
      rw [h1]
      exact hs.isInfix.trans (List.prefix_append _ _).isInfix)
    rw [List.foldl_cons, stepF_on hs, ih _ (by simpa using h)]; simp
theorem stack_of_nf {p t : List Nat} (h : NF p t) : stackF p t = t := fold_nf t [] (by simpa using h)

/-- the leftmost word goes first -/
theorem stack_left {p x y : List Nat} (hp : 0 < p.length) (h : NF p (x ++ p.dropLast)) : stackF p (x ++ p ++ y) = stackF p (x ++ y) := by
  have hx : NF p x := h.pre
  have hne : p ≠ [] := fun e => by rw [e] at hp; simp at hp
  have e1 : stackF p (x ++ p) = x := by
    have hsplit : x ++ p = (x ++ p.dropLast) ++ [p.getLast hne] := by rw [List.append_assoc, List.dropLast_concat_getLast]
    rw [hsplit, stackF_snoc, stack_of_nf h]
    have hs : p <:+ (x ++ p.dropLast) ++ [p.getLast hne] := by rw [← hsplit]; exact List.suffix_append _ _
    obtain ⟨z, hz, e⟩ := stepF_off hs
    rw [e]
    rw [← hsplit] at hz
    exact (List.append_cancel_right hz).symm
  unfold stackF at e1 ⊢
  rw [List.foldl_append, e1, List.foldl_append]
  rw [show x.foldl (stepF p) [] = x from stack_of_nf hx]

/-- no word of rest begins ahead of place -/
def Clear (p rest : List Nat) (place : Nat) : Prop := ∀ i, i < place → ¬ p <+: rest.drop i
theorem cut_word {p rest : List Nat} {place : Nat} (h : place + p.length ≤ rest.length) : cut rest (some place) (some (place + p.length)) = p ↔ p <+: rest.drop place := by
  unfold cut
  simp only [Option.getD_some]
  rw [List.drop_take, show place + p.length - place = p.length by omega]
  constructor
  · intro e; rw [← e]; exact List.take_prefix _ _
  · intro e; exact (List.prefix_iff_eq_take.mp e).symm
theorem clear_nf {p rest : List Nat} {place : Nat} (hc : Clear p rest place) (h : rest.length < place + p.length) : NF p rest := by
  rintro ⟨x, y, e⟩
  refine hc x.length ?_ ⟨y, ?_⟩
  · rw [← e] at h; simp only [List.length_append] at h; omega
  · rw [← e, List.append_assoc, List.drop_left' rfl]
theorem plain_stack {p text r : List Nat} {place : Nat} (hp : 0 < p.length) (h : Plain p text place r) (hc : Clear p text place) : stackF p text = r := by
  induction h with
  | done h => exact stack_of_nf (clear_nf hc (by omega))
  | @strike rest place r h1 h2 _ ih =>
    rw [cut_word h1] at h2
    obtain ⟨y, hy⟩ := h2
    have hrest : rest = rest.take place ++ p ++ y := by rw [List.append_assoc, hy, List.take_append_drop]
    have hlen : (rest.take place).length = place := by rw [List.length_take]; omega
    have ih := ih fun i hi => absurd hi (by omega)
    have e1 : cut rest none (some place) = rest.take place := by unfold cut; simp
    have e2 : cut rest (some (place + p.length)) none = y := by
      unfold cut
      simp only [Option.getD_none, Option.getD_some, List.take_length]
      rw [hrest, List.drop_left' (by simp only [List.length_append]; omega)]
    rw [e1, e2] at ih
    rw [← ih]
    conv => lhs; rw [hrest]
    refine stack_left hp ?_
    rintro ⟨a, b, e⟩
    have hab : (a ++ p ++ b).length = (rest.take place ++ p.dropLast).length := by rw [e]
    simp only [List.length_append, List.length_dropLast, hlen] at hab
    refine hc a.length (by omega) ?_
    have hne : p ≠ [] := fun e => by rw [e] at hp; simp at hp
    have : rest = a ++ (p ++ (b ++ [p.getLast hne] ++ y)) := by
      rw [hrest]
      have h3 : p = p.dropLast ++ [p.getLast hne] := (List.dropLast_concat_getLast hne).symm
      calc rest.take place ++ p ++ y = (rest.take place ++ p.dropLast) ++ [p.getLast hne] ++ y := by
            conv => lhs; rw [h3]
            simp
        _ = _ := by rw [← e]; simp
    rw [this, List.drop_left' rfl]
    exact List.prefix_append _ _
  | @next rest place r h1 h2 _ ih =>
    refine ih fun i hi => ?_
    by_cases he : i < place
    · exact hc i he
    · rw [Ne, cut_word h1] at h2
      have : i = place := by omega
      rw [this]; exact h2
theorem plain_stack0 {p text r : List Nat} (hp : 0 < p.length) (h : Plain p text 0 r) : stackF p text = r := plain_stack hp h fun i hi => absurd hi (by omega)
end Mine
end

section
set_option linter.unusedVariables false
set_option maxRecDepth 100000
namespace Mine

/-- every lap of the word with itself is in step -/
def Instep (p : List Nat) : Prop := ∀ k, 0 < k → k < p.length → p.take k = p.drop (p.length - k) → p.drop k = p.take (p.length - k)

theorem diamond0 {p x z y1 y2 : List Nat} (hI : Instep p) (h : p ++ y1 = z ++ (p ++ y2)) : x ++ y1 = (x ++ z) ++ y2 ∨ ∃ u, Red p (x ++ y1) u ∧ Red p ((x ++ z) ++ y2) u := by
  rcases List.append_eq_append_iff.mp h with ⟨z', rfl, rfl⟩ | ⟨q, hq, hy⟩
  · exact .inr ⟨x ++ z' ++ y2, ⟨x ++ z', y2, by simp, by simp⟩, ⟨x, z' ++ y2, by simp, by simp⟩⟩
  · left
    have hlen : p.length = z.length + q.length := by rw [hq]; simp
    by_cases hq0 : q.length = 0
    · have : q = [] := List.length_eq_zero_iff.mp hq0
      subst this
      simp at hq hy
      subst hq
      rw [← hy]; simp
    by_cases hz0 : z.length = 0
    · have : z = [] := List.length_eq_zero_iff.mp hz0
      subst this
      simp at hq
      subst hq
      simp at hy
      rw [hy]; simp
    have e1 : p.take q.length = q := by
      have := congrArg (List.take q.length) hy
      rw [List.take_append_of_le_length (by omega), List.take_left' rfl] at this
      exact this
    have e2 : p.drop (p.length - q.length) = q := by
      conv => lhs; rw [hq]
      rw [List.drop_left' (by simp)]
    have e3 := hI q.length (by omega) (by omega) (e1.trans e2.symm)
    have e4 : p.take (p.length - q.length) = z := by
      conv => lhs; rw [hq]
      rw [List.take_left' (by simp)]
    have e5 : p = q ++ z := by
      conv => lhs; rw [← List.take_append_drop q.length p]
      rw [e1, e3, e4]
    have hy : q ++ z ++ y2 = q ++ y1 := by rw [← e5]; exact hy
    rw [List.append_assoc] at hy
    have := List.append_cancel_left hy
    rw [← this]; simp

theorem diamond {p s a b : List Nat} (hI : Instep p) (h1 : Red p s a) (h2 : Red p s b) : a = b ∨ ∃ u, Red p a u ∧ Red p b u := by
  obtain ⟨x1, y1, e1, rfl⟩ := h1
  obtain ⟨x2, y2, e2, rfl⟩ := h2
  have e : x1 ++ (p ++ y1) = x2 ++ (p ++ y2) := by rw [← List.append_assoc, ← List.append_assoc, ← e1, ← e2]
  rcases List.append_eq_append_iff.mp e with ⟨z, rfl, hz⟩ | ⟨z, rfl, hz⟩
  · exact diamond0 hI hz
  · rcases diamond0 (x := x2) hI hz with h | ⟨u, h, h'⟩
    · exact .inl h.symm
    · exact .inr ⟨u, h', h⟩

theorem unique {p : List Nat} (hp : 0 < p.length) (hI : Instep p) : ∀ (n : Nat) (s a b : List Nat), s.length ≤ n → Reds p s a → Reds p s b → NF p a → NF p b → a = b := by
  intro n
  induction n with
  | zero =>
    intro s a b hs h1 h2 na nb
    cases h1 with
    | refl => cases h2 with
      | refl => rfl
      | step h _ => exact (na.not_red h).elim
    | step h _ => have := h.len; omega
  | succ n ih =>
    intro s a b hs h1 h2 na nb
    cases h1 with
    | refl => cases h2 with
      | refl => rfl
      | step h _ => exact (na.not_red h).elim
    | @step _ t1 _ r1 h1 => cases h2 with
      | refl => exact (nb.not_red r1).elim
      | @step _ t2 _ r2 h2 =>
        have l1 := r1.len
        have l2 := r2.len
        rcases diamond hI r1 r2 with rfl | ⟨u, u1, u2⟩
        · exact ih _ _ _ (by omega) h1 h2 na nb
        · have e1 := ih t1 a (stackF p u) (by omega) h1 (.step u1 (stack_reds hp u)) na (stack_nf hp u)
          have e2 := ih t2 b (stackF p u) (by omega) h2 (.step u2 (stack_reds hp u)) nb (stack_nf hp u)
          rw [e1, e2]

theorem putIn_red (p f : List Nat) (w : Int) : Red p (putIn p f w) f := by
  unfold putIn
  refine ⟨_, _, rfl, ?_⟩
  unfold cut
  simp
theorem filled_reds (p : List Nat) (ws : List Int) : ∀ t, Reds p (filledF p t ws) t := by
  induction ws with
  | nil => intro t; exact .refl
  | cons w ws ih =>
    intro t
    exact (ih (putIn p t w)).trans (.step (putIn_red p t w) .refl)

theorem back_rest {p s r : List Nat} (hp : 0 < p.length) (hI : Instep p) (hs : Reds p s r) (hr : NF p r) : stackF p s = r ∧ stackF p.reverse s.reverse = r.reverse := by
  constructor
  · exact unique hp hI _ s _ _ (Nat.le_refl _) (stack_reds hp s) hs (stack_nf hp s) hr
  · have hp' : 0 < p.reverse.length := by simpa using hp
    have h1 := (stack_reds hp' s.reverse).rev
    have h2 := (stack_nf hp' s.reverse).rev
    rw [List.reverse_reverse, List.reverse_reverse] at h1
    rw [List.reverse_reverse] at h2
    have := unique hp hI _ s _ _ (Nat.le_refl _) h1 hs h2 hr
    rw [← this, List.reverse_reverse]

theorem nf_short {p t : List Nat} (h : t.length < p.length) : NF p t := fun hi => by have := hi.length_le; omega
theorem stack_word {p y : List Nat} (hp : 0 < p.length) : stackF p (p ++ y) = stackF p y := by
  have := stack_left (x := []) (y := y) hp (nf_short (by simp; omega))
  simpa using this
/-- two words, lapped -/
theorem row3_front {p : List Nat} {k : Nat} (hp : 0 < p.length) (hk : k < p.length) (hb : p.take k = p.drop (p.length - k)) : stackF p (p.take (p.length - k) ++ p) = if k = 0 then [] else p.drop k := by
  have e : p.take (p.length - k) ++ p = p ++ p.drop k := by
    calc p.take (p.length - k) ++ p = p.take (p.length - k) ++ (p.take k ++ p.drop k) := by rw [List.take_append_drop]
      _ = (p.take (p.length - k) ++ p.drop (p.length - k)) ++ p.drop k := by rw [hb, List.append_assoc]
      _ = _ := by rw [List.take_append_drop]
  rw [e, stack_word hp]
  split
  · rename_i h
    subst h
    have := stack_word (y := []) hp
    simpa [stackF] using this
  · exact stack_of_nf (nf_short (by rw [List.length_drop]; omega))
theorem row3_back {p : List Nat} {k : Nat} (hp : 0 < p.length) : stackF p.reverse (p.take (p.length - k) ++ p).reverse = if k = 0 then [] else (p.take (p.length - k)).reverse := by
  have hp' : 0 < p.reverse.length := by simpa using hp
  rw [List.reverse_append, stack_word hp']
  split
  · rename_i h
    subst h
    have := stack_word (y := []) hp'
    simpa [stackF] using this
  · exact stack_of_nf (nf_short (by simp; omega))

/-! periods -/
def Per (p : List Nat) (d : Nat) : Prop := ∀ i, i + d < p.length → p[i]? = p[i + d]?
theorem per_iff {p : List Nat} {d : Nat} (hd : d ≤ p.length) : Per p d ↔ p.take (p.length - d) = p.drop d := by
  constructor
  · intro h
    apply List.ext_getElem?
    intro i
    rw [List.getElem?_take, List.getElem?_drop]
    split
    · rw [h i (by omega), Nat.add_comm]
    · rw [List.getElem?_eq_none (by omega)]
  · intro h i hi
    have := congrArg (·[i]?) h
    simp only [List.getElem?_take, List.getElem?_drop] at this
    rw [if_pos (by omega)] at this
    rw [this, Nat.add_comm]
theorem per_mul {p : List Nat} {d : Nat} (h : Per p d) (m : Nat) : Per p (m * d) := by
  induction m with
  | zero => intro i _; simp
  | succ m ih =>
    intro i hi
    rw [Nat.succ_mul] at hi ⊢
    rw [ih i (by omega), h (i + m * d) (by omega), Nat.add_assoc]
theorem per_sub {p : List Nat} {a b : Nat} (hab : a ≤ b) (hs : a + b ≤ p.length) (ha : Per p a) (hb : Per p b) : Per p (b - a) := by
  intro i hi
  by_cases h : a ≤ i
  · have h1 := ha (i - a) (by omega)
    have h2 := hb (i - a) (by omega)
    rw [show i - a + a = i by omega] at h1
    rw [show i - a + b = i + (b - a) by omega] at h2
    rw [← h1, h2]
  · have h1 := hb i (by omega)
    have h2 := ha (i + (b - a)) (by omega)
    rw [show i + (b - a) + a = i + b by omega] at h2
    rw [h1, h2]
theorem per_gcd {p : List Nat} : ∀ (n a b : Nat), a + b ≤ n → a + b ≤ p.length → Per p a → Per p b → Per p (Nat.gcd a b) := by
  intro n
  induction n with
  | zero =>
    intro a b h hs ha hb
    have : a = 0 := by omega
    subst this
    rw [Nat.gcd_zero_left]; exact hb
  | succ n ih =>
    intro a b h hs ha hb
    by_cases ha0 : a = 0
    · subst ha0; rw [Nat.gcd_zero_left]; exact hb
    by_cases hb0 : b = 0
    · subst hb0; rw [Nat.gcd_zero_right]; exact ha
    by_cases hab : a ≤ b
    · have := ih a (b - a) (by omega) (by omega) ha (per_sub hab hs ha hb)
      rwa [Nat.gcd_sub_self_right hab] at this
    · have := ih (a - b) b (by omega) (by omega) (per_sub (by omega) (by omega) hb ha) hb
      rwa [Nat.gcd_sub_self_left (by omega)] at this

theorem suf_border {p : List Nat} {k : Nat} (hk : k < p.length) : Suf p (p.drop 1) k ↔ p.take k = p.drop (p.length - k) := by
  constructor
  · intro h
    have h2 := h.2.trans (List.drop_suffix 1 p)
    have := List.suffix_iff_eq_drop.mp h2
    rw [List.length_take, Nat.min_eq_left h.1] at this
    exact this
  · intro h
    refine ⟨by omega, ?_⟩
    rw [h]
    exact (List.drop_suffix_drop_left p (by omega : 1 ≤ p.length - k))

/-- a lap out of step -/
def Lap (p : List Nat) (k : Nat) : Prop := 1 ≤ k ∧ k < p.length ∧ p.take k = p.drop (p.length - k) ∧ p.drop k ≠ p.take (p.length - k)
theorem Lap.per {p : List Nat} {k : Nat} : Lap p k ↔ 1 ≤ k ∧ k < p.length ∧ Per p (p.length - k) ∧ ¬ Per p k := by
  unfold Lap
  constructor
  · rintro ⟨h1, h2, h3, h4⟩
    refine ⟨h1, h2, (per_iff (Nat.sub_le _ _)).mpr ?_, fun h => h4 ((per_iff (Nat.le_of_lt h2)).mp h).symm⟩
    rw [Nat.sub_sub_self (Nat.le_of_lt h2)]; exact h3
  · rintro ⟨h1, h2, h3, h4⟩
    refine ⟨h1, h2, ?_, fun h => h4 ((per_iff (Nat.le_of_lt h2)).mpr h.symm)⟩
    have := (per_iff (Nat.sub_le _ _)).mp h3
    rw [Nat.sub_sub_self (Nat.le_of_lt h2)] at this
    exact this

theorem lap_max {p ns : List Nat} (hp : 0 < p.length) (ht : Tab p ns) : ns.getD (p.length - 1) 0 < p.length ∧ rootF p.length (ns.getD (p.length - 1) 0) - 1 < p.length ∧
    let lap := ns.getD (rootF p.length (ns.getD (p.length - 1) 0) - 1) 0
    (lap = 0 ∨ Lap p lap) ∧ (∀ k, Lap p k → k ≤ lap) ∧ lap < p.length := by
  have hb := ht.at_ (p.length - 1) (Nat.sub_lt hp Nat.one_pos)
  rw [Nat.sub_add_cancel hp, List.take_length] at hb
  generalize hbl : ns.getD (p.length - 1) 0 = b at hb ⊢
  have hbn : b < p.length := by
    have := hb.suf.le
    rw [List.length_drop] at this
    omega
  -- the least period
  have hdpos : 0 < p.length - b := Nat.sub_pos_of_lt hbn
  have hper : Per p (p.length - b) := (per_iff (Nat.sub_le _ _)).mpr (by
    rw [Nat.sub_sub_self (Nat.le_of_lt hbn)]; exact (suf_border hbn).mp hb.suf)
  have hleast : ∀ d, 0 < d → d ≤ p.length → Per p d → p.length - b ≤ d := by
    intro d h1 h2 h3
    have h4 : Suf p (p.drop 1) (p.length - d) := (suf_border (Nat.sub_lt hp h1)).mpr (by
      rw [Nat.sub_sub_self h2]; exact (per_iff h2).mp h3)
    have := hb.max _ h4
    omega
  have hroot : rootF p.length b - 1 < p.length := by unfold rootF; split <;> omega
  have hborder : ∀ k, Lap p k → k ≤ b := fun k h => hb.max k ((suf_border h.2.1).mpr h.2.2.1)
  refine ⟨hbn, hroot, ?_⟩
  by_cases hdiv : p.length % (p.length - b) = 0
  · have hr : rootF p.length b = p.length - b := by unfold rootF; rw [if_pos hdiv]
    rw [hr]
    by_cases hb0 : b = 0
    · subst hb0
      simp only [Nat.sub_zero, hbl]
      refine ⟨.inl trivial, fun k h => hborder k h, hp⟩
    · have hc := ht.at_ (p.length - b - 1) (Nat.lt_of_lt_of_le (Nat.sub_lt hdpos Nat.one_pos) (Nat.sub_le _ _))
      rw [Nat.sub_add_cancel hdpos] at hc
      generalize ns.getD (p.length - b - 1) 0 = c at hc ⊢
      have hcd : c < p.length - b := by
        have := hc.suf.le
        rw [List.length_drop, List.length_take] at this
        omega
      -- the root ends the word
      have hdd : (p.length - b) ∣ p.length := Nat.dvd_of_mod_eq_zero hdiv
      have hend : Suf p p (p.length - b) := by
        refine ⟨Nat.sub_le _ _, ?_⟩
        obtain ⟨m, hm⟩ := hdd
        have h1 : Per p (p.length - (p.length - b)) := by
          have : p.length - (p.length - b) = (m - 1) * (p.length - b) := by
            have h3 : (m - 1) * (p.length - b) = m * (p.length - b) - (p.length - b) := by rw [Nat.sub_mul, Nat.one_mul]
            rw [h3, Nat.mul_comm, ← hm]
          rw [this]
          exact per_mul hper _
        have h2 := (per_iff (Nat.sub_le _ _)).mp h1
        rw [Nat.sub_sub_self (Nat.sub_le _ _)] at h2
        rw [h2]; exact List.drop_suffix _ _
      have hcn : c < p.length := Nat.lt_of_lt_of_le hcd (Nat.sub_le _ _)
      refine ⟨?_, ?_, hcn⟩
      · by_cases hc0 : c = 0
        · exact .inl hc0
        · right
          rw [Lap.per]
          refine ⟨Nat.pos_of_ne_zero hc0, hcn, ?_, ?_⟩
          · have h1 := suf_up hend hc.suf
            refine (per_iff (Nat.sub_le _ _)).mpr ?_
            rw [Nat.sub_sub_self (Nat.le_of_lt hcn)]
            have := List.suffix_iff_eq_drop.mp h1.2
            rw [List.length_take, Nat.min_eq_left h1.1] at this
            exact this
          · intro h
            have := hleast c (Nat.pos_of_ne_zero hc0) (Nat.le_of_lt hcn) h
            exact absurd this (Nat.not_le.mpr hcd)
      · intro k hk
        have hk' := Lap.per.mp hk
        obtain ⟨h1, h2, h3, h4⟩ := hk'
        by_cases hkd : k < p.length - b
        · have hsk : Suf p p k := by
            refine ⟨Nat.le_of_lt h2, ?_⟩
            rw [hk.2.2.1]; exact List.drop_suffix _ _
          exact hc.max k (suf_below hend hsk hkd)
        · exfalso
          have hg := per_gcd _ (p.length - k) (p.length - b) (Nat.le_refl _) (by omega) h3 hper
          have hgl := hleast _ (Nat.gcd_pos_of_pos_right _ hdpos) (Nat.le_trans (Nat.gcd_le_right _ hdpos) (Nat.sub_le _ _)) hg
          have hge : Nat.gcd (p.length - k) (p.length - b) = p.length - b := Nat.le_antisymm (Nat.gcd_le_right _ hdpos) hgl
          have hdk : (p.length - b) ∣ (p.length - k) := by rw [← hge]; exact Nat.gcd_dvd_left _ _
          have hdk2 : (p.length - b) ∣ k := by
            have := Nat.dvd_sub hdd hdk
            rwa [Nat.sub_sub_self (Nat.le_of_lt h2)] at this
          obtain ⟨m, hm⟩ := hdk2
          apply h4
          rw [hm, Nat.mul_comm]
          exact per_mul hper _
  · have hr : rootF p.length b = p.length := by unfold rootF; rw [if_neg hdiv]
    rw [hr, hbl]
    refine ⟨?_, hborder, hbn⟩
    by_cases hb0 : b = 0
    · exact .inl hb0
    · right
      rw [Lap.per]
      refine ⟨Nat.pos_of_ne_zero hb0, hbn, hper, fun h => hdiv ?_⟩
      have hg := per_gcd _ b (p.length - b) (Nat.le_refl _) (Nat.le_of_eq (Nat.add_sub_cancel' (Nat.le_of_lt hbn))) h hper
      have hgl := hleast _ (Nat.gcd_pos_of_pos_left _ (Nat.pos_of_ne_zero hb0)) (Nat.le_trans (Nat.gcd_le_right _ hdpos) (Nat.sub_le _ _)) hg
      have hge : Nat.gcd b (p.length - b) = p.length - b := Nat.le_antisymm (Nat.gcd_le_right _ hdpos) hgl
      have h1 : (p.length - b) ∣ b := by rw [← hge]; exact Nat.gcd_dvd_left _ _
      have h2 : (p.length - b) ∣ b + (p.length - b) := Nat.dvd_add h1 (Nat.dvd_refl _)
      rw [Nat.add_sub_cancel' (Nat.le_of_lt hbn)] at h2
      exact Nat.mod_eq_zero_of_dvd h2

theorem instep_of {p : List Nat} (h : ∀ k, Lap p k → k ≤ 0) : Instep p := by
  intro k h1 h2 h3
  exact Decidable.byContradiction fun hne => by
    have := h k ⟨h1, h2, h3, hne⟩
    omega
end Mine
end

section
open PySem PySem.W PyProof.Rows
set_option maxRecDepth 100000
set_option maxHeartbeats 1000000
set_option linter.unusedVariables false
namespace Mine
variable {α β : Type} {w : World} {M : Model} {prog : Program} {A : Around} {env : Env} {s s' : Shared}

noncomputable def maxL (l : List Nat) : Nat := l.foldl Nat.max 0
theorem foldl_max_le {k : Nat} : ∀ (l : List Nat) (a : Nat), a ≤ k → (∀ x ∈ l, x ≤ k) → l.foldl Nat.max a ≤ k
  | [], a, h, _ => h
  | x :: l, a, h, hl => foldl_max_le l _ (Nat.max_le.mpr ⟨h, hl x (List.mem_cons_self ..)⟩) fun y hy => hl y (List.mem_cons_of_mem _ hy)
theorem le_foldl_max : ∀ (l : List Nat) (a : Nat), a ≤ l.foldl Nat.max a ∧ ∀ x ∈ l, x ≤ l.foldl Nat.max a
  | [], a => ⟨Nat.le_refl _, fun x hx => by simp at hx⟩
  | y :: l, a => by
    obtain ⟨h1, h2⟩ := le_foldl_max l (Nat.max a y)
    refine ⟨Nat.le_trans (Nat.le_max_left _ _) h1, fun x hx => ?_⟩
    rcases List.mem_cons.mp hx with rfl | hx
    · exact Nat.le_trans (Nat.le_max_right _ _) h1
    · exact h2 x hx
theorem maxL_eq {l : List Nat} {k : Nat} (h : k ∈ l) (hm : ∀ k' ∈ l, k' ≤ k) : maxL l = k :=
  Nat.le_antisymm (foldl_max_le l 0 (Nat.zero_le _) hm) ((le_foldl_max l 0).2 k h)

theorem fits_iff {p l : List Nat} {e k : Nat} (he : e ≤ l.length) : k ∈ fitsF p l e ↔ k < p.length ∧ Suf p (l.take e) k := by
  unfold fitsF
  rw [List.mem_filter, List.mem_range]
  constructor
  · rintro ⟨h1, h2⟩
    refine ⟨h1, by omega, ?_⟩
    have h2 := eq_of_beq h2
    unfold cut at h2
    simp only [Option.getD_some, Option.getD_none, List.drop_zero] at h2
    refine List.suffix_iff_eq_drop.mpr ?_
    rw [List.length_take, List.length_take, Nat.min_eq_left (by omega : k ≤ p.length), Nat.min_eq_left he]
    exact h2.symm
  · rintro ⟨h1, h2⟩
    refine ⟨h1, ?_⟩
    have h3 := List.suffix_iff_eq_drop.mp h2.2
    rw [List.length_take, List.length_take, Nat.min_eq_left (by omega : k ≤ p.length), Nat.min_eq_left he] at h3
    unfold cut
    simp only [Option.getD_some, Option.getD_none, List.drop_zero]
    rw [← h3]; simp

noncomputable def ksOf (p l : List Nat) : List Nat := (List.range l.length).map fun j => maxL (fitsF p l (j + 1))
theorem ksOf_len (p l : List Nat) : (ksOf p l).length = l.length := by simp [ksOf]
theorem ksOf_get {p l : List Nat} {j k : Nat} (h : (ksOf p l)[j]? = some k) : j < l.length ∧ k = maxL (fitsF p l (j + 1)) := by
  have hj : j < l.length := by have := (List.getElem?_eq_some_iff.mp h).1; rwa [ksOf_len] at this
  unfold ksOf at h
  rw [List.getElem?_map, List.getElem?_range hj] at h
  cases h; exact ⟨hj, rfl⟩
theorem ksOf_le {p l : List Nat} (hp : p.length ≤ 100) : ∀ k ∈ ksOf p l, k ≤ 100 := by
  intro k hk
  obtain ⟨j, hj⟩ := List.getElem?_of_mem hk
  obtain ⟨_, rfl⟩ := ksOf_get hj
  refine foldl_max_le _ _ (Nat.zero_le _) fun x hx => ?_
  unfold fitsF at hx
  have := List.mem_range.mp (List.mem_filter.mp hx).1
  omega

theorem pcs_of {h : Heap} {p l : List Nat} {vs : List Value} (hlen : vs.length = l.length)
    (hat : ∀ (j : Nat) v, vs[j]? = some v → ∃ tp u c k x, v = .ref tp ∧ TupAt h tp [u, c] ∧ l[j]? = some x ∧ St (List.replicate k 32) u ∧ St [x] c ∧ k ∈ fitsF p l (j + 1) ∧ ∀ k' ∈ fitsF p l (j + 1), k' ≤ k) :
    ∃ tvs, vs = refs tvs ∧ Pcs h (ksOf p l) l tvs := by
  obtain ⟨tvs, rfl, hR⟩ := list_of (R := fun j t => ∃ x, TupAt h t.1 [t.2.1, t.2.2] ∧ l[j]? = some x ∧ St (List.replicate (maxL (fitsF p l (j + 1))) 32) t.2.1 ∧ St [x] t.2.2) vs fun j v hv => by
    obtain ⟨tp, u, c, k, x, rfl, h1, h2, h3, h4, h5, h6⟩ := hat j v hv
    refine ⟨⟨tp, u, c⟩, rfl, x, h1, h2, ?_, h4⟩
    rw [maxL_eq h5 h6]; exact h3
  have hl : tvs.length = l.length := by simpa [refs] using hlen
  refine ⟨tvs, rfl, ⟨by rw [ksOf_len, hl], hl.symm, fun j t k c ht hk hc => ?_⟩⟩
  obtain ⟨x, h1, h2, h3, h4⟩ := hR j t ht
  obtain ⟨_, rfl⟩ := ksOf_get hk
  rw [hc] at h2; cases h2
  exact ⟨h1, h3, h4⟩
theorem pcs_pieces {h : Heap} {p l : List Nat} {vs : List Value} (f : Pieces h p l vs) : ∃ tvs, vs = refs tvs ∧ Pcs h (ksOf p l) l tvs := by
  refine pcs_of f.len fun j v hv => ?_
  obtain ⟨tp, u, c, k, x, e1, e2, e3, e4, e5, e6, e7⟩ := f.at_ j v hv
  have hj : j + 1 ≤ l.length := (List.getElem?_eq_some_iff.mp e3).1
  exact ⟨tp, u, c, k, x, e1, e2, e3, e4, e5, (fits_iff hj).mpr ⟨e7, e6.suf⟩, fun k' hk' => e6.max k' ((fits_iff hj).mp hk').2⟩
theorem pcs_want {h : Heap} {p l : List Nat} {vs : List Value} (f : Want h p l l.length vs) : ∃ tvs, vs = refs tvs ∧ Pcs h (ksOf p l) l tvs := by
  refine pcs_of f.len fun j v hv => ?_
  obtain ⟨tp, u, c, k, x, e1, e2, e3, e4, e5, e6, e7⟩ := f.at_ j v hv
  exact ⟨tp, u, c, k, x, e1, e2, e3, e4, e5, e6, e7⟩

/-! equality -/
theorem all_true (l : List Nat) : (l.all fun _ => true) = true := List.all_eq_true.mpr fun _ _ => rfl
theorem eq_piece {h1 : Value} {t1 t2 : Addr} {u1 c1 u2 c2 : Value} {a b : List Nat} (hu : A.units < 9000) (e1 : TupAt s.heap t1 [u1, c1]) (e2 : TupAt s.heap t2 [u2, c2]) (hu1 : St a u1) (hu2 : St a u2) (hc1 : St b c1) (hc2 : St b c2) :
    PySem.SeqAt.EqAt A s (.ref t1) (.ref t2) true := by
  by_cases hne : t1 = t2
  · subst hne; exact PySem.SeqAt.EqAt.same _
  · obtain ⟨x1, rfl⟩ := hu1
    obtain ⟨x2, rfl⟩ := hu2
    obtain ⟨y1, rfl⟩ := hc1
    obtain ⟨y2, rfl⟩ := hc2
    have := PySem.SeqAt.RcAt.tuples (A := A) (s := s) (e := fun _ => true) e1.isTuple e2.isTuple (by simp only [cLine]; omega) (fun j h1 h2 => by
      match j, h1 with
      | 0, _ => have := PySem.SeqAt.EqAt.str_str (A := A.in1) (s := s) ⟨a.toArray⟩ x1 ⟨a.toArray⟩ x2; simpa using this
      | 1, _ => have := PySem.SeqAt.EqAt.str_str (A := A.in1) (s := s) ⟨b.toArray⟩ y1 ⟨b.toArray⟩ y2; simpa using this)
    refine PySem.SeqAt.EqAt.of_refs hne ?_
    rw [all_true] at this
    simpa using this
theorem refs_at {tvs : List Pc} {j : Nat} (h : j < (refs tvs).toArray.size) : ∃ t, tvs[j]? = some t ∧ (refs tvs).toArray[j] = .ref t.1 := by
  have hj : j < tvs.length := by simpa [refs] using h
  exact ⟨tvs[j], List.getElem?_eq_getElem hj, by simp [refs]⟩
theorem eq_pcs {la lb : Addr} {tvs tvs2 : List Pc} {ks l : List Nat} (hu : A.units < 8900) (h1 : s.heap.IsList la (refs tvs).toArray) (h2 : s.heap.IsList lb (refs tvs2).toArray) (p1 : Pcs s.heap ks l tvs) (p2 : Pcs s.heap ks l tvs2) :
    PySem.SeqAt.RcAt A s (.ref la) (.ref lb) true := by
  have := PySem.SeqAt.RcAt.lists (A := A) (s := s) (e := fun _ => true) h1 h2 (by simp [refs]; rw [← p1.ll, ← p2.ll]) (by simp only [cLine]; omega) (fun j hj1 hj2 => by
    obtain ⟨t, ht, e1⟩ := refs_at hj1
    obtain ⟨t', ht', e2⟩ := refs_at hj2
    rw [e1, e2]
    obtain ⟨k, c, q1, q2, q3, q4, q5⟩ := p1.get ht
    obtain ⟨k', c', r1, r2, r3, r4, r5⟩ := p2.get ht'
    rw [q1] at r1; cases r1
    rw [q2] at r2; cases r2
    exact eq_piece (h1 := .none) (A := A.in1) (by show A.units + 1 < 9000; omega) q3 r3 q4 r4 q5 r5)
  rw [all_true] at this
  exact this
/-- two lists of the same text, over and over: not unequal -/
theorem ne_texts {la lb : Addr} {us vs : List Value} {n : Nat} {p : List Nat} (hu : A.units < 8900) (h1 : s.heap.IsList la us.toArray) (h2 : s.heap.IsList lb vs.toArray) (p1 : Are St (List.replicate n p) us) (p2 : Are St (List.replicate n p) vs) :
    PySem.SeqAt.RcNeAt A s (.ref la) (.ref lb) false := by
  have := PySem.SeqAt.RcNeAt.lists (A := A) (s := s) (e := fun _ => true) h1 h2 (by simp [p1.len, p2.len]) (by simp only [cLine]; omega) (fun j hj1 hj2 => by
    have hj1' : j < us.length := by simpa using hj1
    have hj2' : j < vs.length := by simpa using hj2
    have hn : j < n := by rw [p1.len, List.length_replicate] at hj1'; exact hj1'
    have g : (List.replicate n p)[j]? = some p := by rw [List.getElem?_replicate, if_pos hn]
    obtain ⟨t1, e1⟩ := p1.at_ j p us[j] g (List.getElem?_eq_getElem hj1')
    obtain ⟨t2, e2⟩ := p2.at_ j p vs[j] g (List.getElem?_eq_getElem hj2')
    have := PySem.SeqAt.EqAt.str_str (A := A.in1) (s := s) ⟨p.toArray⟩ t1 ⟨p.toArray⟩ t2
    simp only [List.getElem_toArray]
    rw [e1, e2]
    simpa using this)
  rw [all_true] at this
  exact this
end Mine
end

section
open PySem PySem.W PyProof.Rows
set_option maxRecDepth 100000
set_option maxHeartbeats 1000000
set_option linter.unusedVariables false
namespace Mine
variable {α β : Type} {w : World} {M : Model} {prog : Program} {A : Around} {env : Env} {s s' : Shared}

/-! what is no code table -/
theorem Bg.tab_obj {h : Heap} (f : Bg h) : ∀ x ∈ [63, 70], ∃ ps, h.get? x = some { cls := .none, data := .fields ps } := by
  intro x hx
  rcases List.mem_cons.mp hx with rfl | hx
  · obtain ⟨ps, _, _, ho⟩ := f.t1.at_; exact ⟨ps, ho⟩
  · rw [List.mem_singleton.mp hx]; obtain ⟨ps, _, _, ho⟩ := f.t2.at_; exact ⟨ps, ho⟩
theorem Bg.noTup {h : Heap} (f : Bg h) : NoTup h [63, 70] := by
  intro b hb vs ht
  obtain ⟨ps, ho⟩ := f.tab_obj b hb
  rw [show h.get? b = _ from ht] at ho; cases ho
theorem Bg.notab {h : Heap} {a : Addr} {o : Obj} (f : Bg h) (ho : h.get? a = some o) (hd : ∀ ps, o.data ≠ .fields ps) : a ∉ [63, 70] := fun hm => by
  obtain ⟨ps, h2⟩ := f.tab_obj a hm
  rw [ho] at h2; cases h2; exact hd ps rfl
theorem Bg.nt_ns {h : Heap} {a : Addr} {m} (f : Bg h) (hn : h.Ns a m) : a ∉ [63, 70] := let ⟨o, es, ep, ho, hd, _⟩ := hn; f.notab ho fun ps e => by rw [hd] at e; cases e
theorem Bg.nt_plain {h : Heap} {a : Addr} {vs} (f : Bg h) (hn : h.PlainList a vs) : a ∉ [63, 70] := let ⟨n, ho⟩ := hn; f.notab ho fun ps e => by cases e
theorem Bg.nt_cell {h : Heap} {a : Addr} {v} (f : Bg h) (hn : h.IsCell a v) : a ∉ [63, 70] := let ⟨o, ho, hd⟩ := hn; f.notab ho fun ps e => by rw [hd] at e; cases e
theorem Bg.nt_pile {h : Heap} {a d : Addr} {vs} (f : Bg h) (hn : PileAt h a d vs) : a ∉ [63, 70] ∧ d ∉ [63, 70] := ⟨let ⟨n, ho⟩ := hn.obj; f.notab ho fun ps e => by (cases e), let ⟨t, hn⟩ := hn.ns; f.nt_ns hn⟩
theorem wk63 {s s' : Shared} (h : Ex [63] s s') : Ex [63, 70] s s' := h.weak (by simp)
theorem wk70 {s s' : Shared} (h : Ex [70] s s') : Ex [63, 70] s s' := h.weak (by simp)

/-! more rules -/
theorem w_ifE {test : Expr} {body orelse rest : List Stmt} {pos : Pos} {Q : Flow → Shared → Prop}
    (ht : W M A (isTrue test env (eval test env)) (fun b s1 => W M A (execs (if b then body else orelse) env) (Kn M A env rest Q) s1) s) :
    W M A (execs (.If test body orelse pos :: rest) env) Q s := by
  refine w_cons (wpAny_If (ht.upm fun b s1 h => ?_))
  cases b <;> exact h
theorem w_test {l r : Expr} {op : CmpOp} {pos : Pos} {whole : Sem Value} {Q : Bool → Shared → Prop}
    (h : W M A (eval l env) (fun a s1 => W M A (eval r env) (fun b s2 => W M A (compareOp op a b) (fun v s3 => ∃ c, v = .bool c ∧ Q c s3) s2) s1) s)
    (hm : behindInMarks op r = false := by with_unfolding_all rfl) : W M A (isTrue (.Compare l [op] [r] pos) env whole) Q s := by
  refine wpAny_isTrue_Compare1 (h.upm fun a s1 h1 => h1.upm fun b s2 h2 => h2.upm fun v s3 ⟨c, hv, hq⟩ => ?_) hm
  subst hv
  exact wpAny_truthy_bool hq
theorem w_cmp {l r : Expr} {op : CmpOp} {pos : Pos} {Q : Value → Shared → Prop}
    (h : W M A (eval l env) (fun a s1 => W M A (eval r env) (fun b s2 => W M A (compareOp op a b) Q s2) s1) s)
    (hm : behindInMarks op r = false := by with_unfolding_all rfl) : W M A (eval (.Compare l [op] [r] pos) env) Q s :=
  wpAny_Compare1 (h.upm fun a s1 h1 => h1.upm fun b s2 h2 => h2) hm
/-- no test of an or holds -/
theorem w_or3 {x y z : Expr} {pos : Pos} {whole : Sem Value} {Q : Bool → Shared → Prop}
    (h : W M A (isTrue x env (eval x env)) (fun b s1 => b = false ∧ W M A (isTrue y env (eval y env)) (fun b s2 => b = false ∧ W M A (isTrue z env (eval z env)) (fun b s3 => b = false ∧ Q false s3) s2) s1) s) :
    W M A (isTrue (.BoolOp .Or [x, y, z] pos) env whole) Q s := by
  refine wpAny_isTrue_BoolOp (wpAny_allTrue_Or_cons (h.upm fun b s1 ⟨hb, h1⟩ => ?_))
  subst hb
  refine wpAny_allTrue_Or_cons (h1.upm fun b s2 ⟨hb, h2⟩ => ?_)
  subst hb
  refine wpAny_allTrue_Or_cons (h2.upm fun b s3 ⟨hb, h3⟩ => ?_)
  subst hb
  exact wpAny_allTrue_Or_nil h3
theorem w_or2 {x y : Expr} {pos : Pos} {whole : Sem Value} {Q : Bool → Shared → Prop}
    (h : W M A (isTrue x env (eval x env)) (fun b s1 => b = false ∧ W M A (isTrue y env (eval y env)) (fun b s2 => b = false ∧ Q false s2) s1) s) :
    W M A (isTrue (.BoolOp .Or [x, y] pos) env whole) Q s := by
  refine wpAny_isTrue_BoolOp (wpAny_allTrue_Or_cons (h.upm fun b s1 ⟨hb, h1⟩ => ?_))
  subst hb
  refine wpAny_allTrue_Or_cons (h1.upm fun b s2 ⟨hb, h2⟩ => ?_)
  subst hb
  exact wpAny_allTrue_Or_nil h2
theorem w_not {x : Expr} {pos : Pos} {whole : Sem Value} {Q : Bool → Shared → Prop} (h : W M A (isTrue x env (eval x env)) (fun b s1 => Q (!b) s1) s) : W M A (isTrue (.UnaryOp .Not x pos) env whole) Q s :=
  isTrue_not h
/-- the truth of a value that is a bool -/
theorem w_true {x : Expr} {Q : Bool → Shared → Prop} (h : W M A (eval x env) (fun v s1 => ∃ b, v = .bool b ∧ Q b s1) s)
    (he : isTrue x env (eval x env) = (do let v ← eval x env; standAt x.pos; holding [v] (truthy v)) := by rfl) : W M A (isTrue x env (eval x env)) Q s := by
  refine wpAny_isTrue_value (h.upm fun v s1 ⟨b, hv, hq⟩ => ?_) he
  subst hv
  exact wpAny_truthy_bool hq
theorem w_and2 {x y : Expr} {pos : Pos} {Q : Value → Shared → Prop}
    (h : W M A (eval x env) (fun v s1 => v = .bool true ∧ W M A (eval y env) Q s1) s) : W M A (eval (.BoolOp .And [x, y] pos) env) Q s := by
  refine BoolOp_and (h.upm fun v s1 ⟨hv, h1⟩ => ?_)
  subst hv
  exact wpAny_truthy_bool (BoolOp_one h1)
theorem w_callB {f : Str} {fp pos : Pos} {e : Expr} {id : String} {R1 : Value → Prop} {Q : Value → Shared → Prop} (hf : Pe M A (eval (.Name f fp) env) s (· = .builtin id)) (he : Pe M A (eval e env) s R1)
    (hc : ∀ v s1, R1 v → Ex [] s s1 → W M A (call (.builtin id) [v]) Q s1) (hs : starEach [e] env = [(false, eval e env)] := by rfl) :
    W M A (eval (.Call (.Name f fp) [e] [] pos) env) Q s := by
  refine Call_ (hf.use .refl fun v s1 hv hx1 a1 => ?_)
  subst hv
  exact callWith_builtin1 (rest := []) (args_cons (rest := []) (he.use hx1 fun v s2 hv hx2 a2 => args_nil (hc v s2 hv hx2)) hs) hs
theorem w_callT {f : Str} {fp pos : Pos} {e : Expr} {T : String} {R1 : Value → Prop} {Q : Value → Shared → Prop} (hf : Pe M A (eval (.Name f fp) env) s (· = .type T)) (he : Pe M A (eval e env) s R1)
    (hc : ∀ v s1, R1 v → Ex [] s s1 → W M A (call (.type T) [v]) Q s1) (hs : starEach [e] env = [(false, eval e env)] := by rfl) :
    W M A (eval (.Call (.Name f fp) [e] [] pos) env) Q s := by
  refine Call_Name1 (hf.use .refl fun v s1 hv hx1 a1 => ?_) hs
  subst hv
  exact PySem.callWith_type rfl (Calls.evalArgs_plain (Calls.spliced_cons (he.use hx1 fun v s2 hv hx2 a2 => Calls.spliced_nil (hc v s2 hv hx2))))
end Mine
end

section
open PySem PySem.W PyProof.Rows
set_option maxRecDepth 100000
set_option maxHeartbeats 1000000
set_option linter.unusedVariables false
namespace Mine
variable {α β : Type} {w : World} {M : Model} {prog : Program} {A : Around} {env : Env} {s s' : Shared}

theorem piece_len_eq {ks l : List Nat} (h : ks.length = l.length) : (pieceText ks l).flatten.length = pieceLen ks := by
  unfold pieceText pieceLen
  rw [List.length_flatten, List.map_map]
  congr 1
  apply List.ext_getElem
  · simp [h]
  · intro i h1 h2
    have hi : i < ks.length := by simpa using h2
    simp [List.getD_eq_getElem?_getD, hi]

/-- what the last statements of _law_leaves have to hand -/
structure LvT (p l ks : List Nat) (L pa pd pc : Addr) (tp tr : Tok) (tvs tvs2 : List Pc) (m : Str → Option Value) (h : Heap) : Prop where
  bg : Bg h
  ns : h.Ns L m
  cw : h.IsCell (L + 1) (some (Tx p tp))
  cr : h.IsCell (L + 1 + 1) (some (Tx l tr))
  pile : PileAt h pa pd (refs tvs)
  pcs : Pcs h ks l tvs
  pl : h.PlainList pc (refs tvs2).toArray
  pcs2 : Pcs h ks l tvs2
theorem LvT.exT {p l ks L pa pd pc tp tr tvs tvs2 m} (f : LvT p l ks L pa pd pc tp tr tvs tvs2 m s.heap) (hx : Ex [63, 70] s s') (b : Bg s'.heap) : LvT p l ks L pa pd pc tp tr tvs tvs2 m s'.heap :=
  ⟨b, hx.ns f.ns (f.bg.nt_ns f.ns), hx.cell f.cw (f.bg.nt_cell f.cw), hx.cell f.cr (f.bg.nt_cell f.cr), hx.pile f.pile (f.bg.nt_pile f.pile).1 (f.bg.nt_pile f.pile).2, f.pcs.ex hx f.bg.noTup, hx.plainList f.pl (f.bg.nt_plain f.pl), f.pcs2.ex hx f.bg.noTup⟩
theorem LvT.ex0 {p l ks L pa pd pc tp tr tvs tvs2 m} (f : LvT p l ks L pa pd pc tp tr tvs tvs2 m s.heap) (hx : Ex [] s s') : LvT p l ks L pa pd pc tp tr tvs tvs2 m s'.heap := f.exT hx.lift (f.bg.ex0 hx)

theorem flat_one {v : Value} (n : Nat) : (List.replicate n [v]).flatten = List.replicate n v := by
  induction n with
  | zero => rfl
  | succ n ih => rw [List.replicate_succ, List.flatten_cons, ih]; rfl

/-- from told = .. on -/
theorem lv_tail {p tx l ks : List Nat} {L pa pd tk pc : Addr} {tp tt tr : Tok} {m : Str → Option Value} {tvs tvs2 : List Pc} {us : List Value} {cnt : Nat} (T : LvT p l ks L pa pd pc tp tr tvs tvs2 m s.heap)
    (m1 : m "text" = some (Tx tx tt)) (m2 : m "pile" = some (.ref pa)) (m3 : m "taken" = some (.ref tk)) (m4 : m "pieces" = some (.ref pc)) (htk : s.heap.PlainList tk us.toArray) (hus : Are St (List.replicate cnt p) us)
    (hcnt : cnt * p.length + l.length = tx.length) (hks : ∀ k ∈ ks, k ≤ 100) (hpl : p.length ≤ 100) (hp0 : 0 < p.length) (htl : tx.length ≤ 100) (hll : l.length ≤ 100) (hd : A.depth < 700) (hA : A.handled = none) (hu : A.units < 8000)
    (hne : L ≠ pa ∧ L ≠ pd ∧ L ≠ tk ∧ L ≠ pc ∧ pa ≠ pc) (wL : Wild2 L) (wpa : Wild2 pa) :
    W (model Pg w) A (execs ((bodyOf (stm 9)).drop 3) (callEnvC fdLeaves L 129)) (fun fl s' => fl = .ret (.bool true) ∧ Ex [L, pa, 63, 70] s s' ∧ Bg s'.heap) s := by
  obtain ⟨n1, n2, n3, n4, n5⟩ := hne
  have zp : p.length ≤ sizeLine := Nat.le_trans hpl (by decide)
  have zt : tx.length ≤ sizeLine := Nat.le_trans htl (by decide)
  have zl : l.length ≤ sizeLine := Nat.le_trans hll (by decide)
  have hkl : ks.length = l.length := by rw [T.pcs.lk, T.pcs.ll]
  have hrl : (refs tvs2).length = l.length := by simp [refs, T.pcs2.ll]
  have zf := piece_flat_len ks l hks hll
  refine w_assign T.ns (pe_join (xss := pieceText ks l) (R := fun ys => Are (fun j v => St (List.replicate (ks.getD j 0) 32 ++ [l.getD j 0]) v) (List.range l.length) ys) (pe_str (l := []) (by decide +kernel))
    (Pr.mono (pr_comp (n := l.length) (p := fun _ => true) (cl := []) (P := fun i v => (refs tvs2)[i]? = some v) (fx := [pc]) (F := fun j v => St (List.replicate (ks.getD j 0) 32 ++ [l.getD j 0]) v)
      (B := fun j m => ∃ t, tvs2[j]? = some t ∧ m "blanks" = some t.2.1 ∧ m "sign" = some t.2.2) ?_ ?_ zl rfl) (FreshL.mono fun ys h => ?_)) ?_ ?_) ?_
  · intro s5 hx5
    refine it_listT' hrl (pe_local (hx5.ns T.ns (by simp)) m4) (hx5.plainList T.pl (by simp)).isList (fun x hx => ?_) hA
    obtain ⟨t, _, rfl⟩ := List.mem_map.mp hx
    exact ⟨t.1, rfl⟩
  · refine ⟨?_, ?_, ?_⟩
    · intro C j x s5 mC hj hP hC hx5 hnC E Q hq
      have hj2 : j < tvs2.length := by rw [← T.pcs2.ll]; exact hj
      obtain ⟨t, ht⟩ : ∃ t, tvs2[j]? = some t := ⟨_, List.getElem?_eq_getElem hj2⟩
      have : x = .ref t.1 := by
        unfold refs at hP; rw [List.getElem?_map, ht] at hP; cases hP; rfl
      subst this
      obtain ⟨k, c, q1, q2, q3, q4, q5⟩ := T.pcs2.get ht
      exact assign_tup2 hA (hx5.tups .nil q3) hnC fun s6 hx6 hn6 => hq s6 _ hx6 hn6 ⟨t, ht, rfl, rfl⟩
    · intro C j s5 mC hj hB hx5 hnC
      exact tests_nil
    · rintro C j s5 mC hj _ ⟨t, ht, e1, e2⟩ hx5 hnC
      obtain ⟨k, c, q1, q2, q3, ⟨y1, q4⟩, ⟨y2, q5⟩⟩ := T.pcs2.get ht
      rw [q4] at e1
      rw [q5] at e2
      have hk := hks k (List.mem_of_getElem? q1)
      rw [List.getD_eq_getElem?_getD, q1, List.getD_eq_getElem?_getD, q2]
      exact pe_add_str (pe_locS hnC e1) (pe_locS hnC e2) (by rw [List.length_replicate]; exact Nat.le_trans (show _ ≤ 101 by simp; omega) (by decide))
  · rw [List.filter_eq_self.mpr (by simp)] at h; exact h
  · intro ys h
    refine ⟨by rw [h.len]; simp [pieceText], fun i x v hx hv => ?_⟩
    have hi : i < l.length := by have := (List.getElem?_eq_some_iff.mp hx).1; simpa [pieceText] using this
    unfold pieceText at hx
    rw [List.getElem?_map, List.getElem?_range hi] at hx
    cases hx
    exact h.at_ i i v (by rw [List.getElem?_range hi]) hv
  · omega
  rintro _ s1 ⟨t1, rfl⟩ hx1 hn1
  have T1 : LvT p l ks L pa pd pc tp tr tvs tvs2 (upd m "told" (Tx (pieceText ks l).flatten t1)) s1.heap :=
    ⟨T.bg.ex hx1 (fun x hx => by rw [List.mem_singleton.mp hx]; exact wL), hn1, hx1.cell T.cw (nmem1 (by show ¬ _; exact Nat.succ_ne_self L)), hx1.cell T.cr (nmem1 (Nat.ne_of_gt (Nat.lt_succ_of_lt (Nat.lt_succ_self L)))), hx1.pile T.pile (nmem1 n1.symm) (nmem1 n2.symm), T.pcs.ex hx1 (.ns T.ns), hx1.plainList T.pl (nmem1 n4.symm), T.pcs2.ex hx1 (.ns T.ns)⟩
  have htk1 := hx1.plainList htk (nmem1 n3.symm)
  generalize hm' : upd m "told" (Tx (pieceText ks l).flatten t1) = m' at T1
  have g1 : m' "text" = some (Tx tx tt) := by rw [← hm']; exact m1
  have g2 : m' "pile" = some (.ref pa) := by rw [← hm']; exact m2
  have g3 : m' "taken" = some (.ref tk) := by rw [← hm']; exact m3
  have g4 : m' "pieces" = some (.ref pc) := by rw [← hm']; exact m4
  have g5 : m' "told" = some (Tx (pieceText ks l).flatten t1) := by rw [← hm']; rfl
  -- taken != [word] * ..
  refine w_ifE (w_test ((pe_local T1.ns g3).run fun v s2 hv hx2 => ?_))
  subst hv
  have T2 := T1.ex0 hx2
  refine (pr_mul_list (n := cnt) (R := fun us => ∃ v, us = [v] ∧ St p v) ((pr_list (peL_cons (pe_cellS T2.cw) peL_nil) ?_).mono (FreshL.mono ?_)) ((pe_fdiv (b := (p.length : Int)) (by omega) (by omega) (pe_sub (pe_len_str (pe_len T2.bg.bs.gl) (pe_locS T2.ns g1) zt) (pe_len_str (pe_len T2.bg.bs.gl) (pe_cellS T2.cr) zl)) (pe_len_str (pe_len T2.bg.bs.gl) (pe_cellS T2.cw) zp)).mono ?_) ?_ ?_).run fun v s3 hR hx3 => ?_
  · rintro vs ⟨v, us, rfl, _, rfl⟩; exact (show 1 ≤ sizeLine by decide)
  · rintro vs ⟨v, us, rfl, hv, rfl⟩; exact ⟨v, rfl, hv⟩
  · rintro v ⟨u, rfl⟩
    refine ⟨u, ?_⟩
    congr 1
    have e : ((tx.length : Int) - (l.length : Int)) = (cnt : Int) * (p.length : Int) := by
      rw [← Int.natCast_mul]; omega
    rw [e]
    exact Int.mul_fdiv_cancel _ (by omega)
  · rintro vs ⟨v, rfl, _⟩
    have : cnt * 1 ≤ cnt * p.length := Nat.mul_le_mul_left _ hp0
    exact ⟨by simp, by simp; omega⟩
  · have : cnt * 1 ≤ cnt * p.length := Nat.mul_le_mul_left _ hp0
    omega
  obtain ⟨lb, vs, rfl, hfr, hlb, us', ⟨v0, rfl, hv0⟩, rfl⟩ := hR
  rw [flat_one] at hlb
  have T3 := T2.ex0 hx3
  refine ne_texts (A := A) (n := cnt) (p := p) (by omega) (hx3.plainList (hx2.plainList htk1 (by simp)) (by simp)).isList hlb.isList hus (.rep cnt hv0) Pg w _ _ ⟨false, rfl, ?_⟩
  refine w_nil ?_
  -- the second test
  refine w_ifE (w_or3 (w_test (w_callT (R1 := (· = .ref pa)) (pe_bu (x := "str") (v := .type "str") T3.bg.bs.gl (by decide +kernel) (let ⟨mb, b1, b2⟩ := T3.bg.bs.gl.b; ⟨mb, b1, b2.2.2.2.1⟩)) (pe_local T3.ns g2) fun v s4 hv hx4 => ?_)))
  subst hv
  have T4 := T3.ex0 hx4
  refine (str_pile T4.bg T4.pile T4.pcs hks hll (by omega) hA (by omega)).mono ?_
  rintro _ s5 ⟨⟨t5, rfl⟩, hx5, b5⟩
  have T5 := T4.exT (wk70 hx5) b5
  refine (pe_local T5.ns g5).run fun v s6 hv hx6 => ?_
  subst hv
  have T6 := T5.ex0 hx6
  refine P.ne_str ⟨_, rfl, by simp, ?_⟩
  refine w_test (w_callB (R1 := (· = .ref pa)) (pe_len T6.bg.bs.gl) (pe_local T6.ns g2) fun v s7 hv hx7 => ?_)
  subst hv
  have T7 := T6.ex0 hx7
  refine (len_pile T7.bg T7.pile T7.pcs hks (by omega) (by omega) hA).mono ?_
  rintro _ s8 ⟨⟨t8, rfl⟩, hx8, b8⟩
  have T8 := T7.exT (wk63 hx8) b8
  refine (pe_len_str (pe_len T8.bg.bs.gl) (pe_locS T8.ns g5) (Nat.le_trans (show _ ≤ 100000 by omega) (by decide))).run ?_
  rintro _ s9 ⟨t9, rfl⟩ hx9
  have T9 := T8.ex0 hx9
  refine P.ne_int ⟨_, rfl, by rw [piece_len_eq hkl]; simp, ?_⟩
  refine w_test ((pe_part T9.bg.bs T9.pile (pe_local T9.ns g2) (by omega)).run ?_)
  rintro _ s10 ⟨t10, rfl⟩ hx10
  have T10 := T9.ex0 hx10
  refine (pe_len_str (pe_len T10.bg.bs.gl) (pe_cellS T10.cr) zl).run ?_
  rintro _ s11 ⟨t11, rfl⟩ hx11
  have T11 := T10.ex0 hx11
  refine P.ne_int ⟨_, rfl, by simp [refs, T.pcs.ll], ?_⟩
  refine w_nil ?_
  -- pop_from() == pieces and part_count() == 0
  refine w_retE (w_and2 (w_cmp (w_meth0 T11.bg.bs T11.pile (pe_local T11.ns g2) lp_pf T11.bg.bs.popFrom lk_list_pop_from (by decide) fun s12 hx12 => ?_)))
  have T12 := T11.ex0 hx12
  have hrl1 : (refs tvs).length = l.length := by simp [refs, T.pcs.ll]
  refine (pop_from0_walk T12.bg.bs T12.pile (by omega) (by omega)).mono ?_
  rintro _ s13 ⟨lo, rfl, hx13, hfrl, hlo, hp13⟩
  have hn13 := hx13.ns T12.ns (nmem1 n1)
  have b13 : Bg s13.heap := T12.bg.ex hx13 (fun x hx => by rw [List.mem_singleton.mp hx]; exact wpa)
  have hpl13 := hx13.plainList T12.pl (nmem1 n5.symm)
  have q1 := T12.pcs.ex hx13 (.pile T12.pile)
  have q2 := T12.pcs2.ex hx13 (.pile T12.pile)
  refine (pe_local hn13 g4).run fun v s14 hv hx14 => ?_
  subst hv
  refine eq_pcs (A := A) (by omega) (hx14.plainList hlo (by simp)).isList (hx14.plainList hpl13 (by simp)).isList (q1.ex hx14 .nil) (q2.ex hx14 .nil) Pg w _ _ ⟨rfl, ?_⟩
  refine w_cmp ((pe_part (b13.ex0 hx14).bs (hx14.pile hp13 (by simp) (by simp)) (pe_local (hx14.ns hn13 (by simp)) g2) (by omega)).run ?_)
  rintro _ s15 ⟨t15, rfl⟩ hx15
  refine (pe_int (i := 0)).run ?_
  rintro _ s16 ⟨t16, rfl⟩ hx16
  refine P.eq_int ⟨rfl, ?_, (b13.ex0 hx14).ex0 hx15 |>.ex0 hx16⟩
  have x1 : Ex [L, pa, 63, 70] s s1 := hx1.weak memL
  have x4 : Ex [L, pa, 63, 70] s s4 := (((x1.step0 hx2).step0 hx3).step0 hx4)
  have x7 : Ex [L, pa, 63, 70] s s7 := ((x4.trans (hx5.weak (by simp))).step0 hx6).step0 hx7
  have x12 : Ex [L, pa, 63, 70] s s12 := ((((x7.trans (hx8.weak (by simp))).step0 hx9).step0 hx10).step0 hx11).step0 hx12
  exact (((x12.trans (hx13.weak (by simp))).step0 hx14).step0 hx15).step0 hx16
end Mine
end

section
open PySem PySem.W PyProof.Rows
set_option maxRecDepth 100000
set_option maxHeartbeats 1000000
set_option linter.unusedVariables false
namespace Mine
variable {α β : Type} {w : World} {M : Model} {prog : Program} {A : Around} {env : Env} {s s' : Shared}

theorem NoTup.cell {h : Heap} {c : Addr} {v} (hv : h.IsCell c v) : NoTup h [c] := by
  intro b hb vs ht
  rw [List.mem_singleton.mp hb] at ht
  obtain ⟨o, ho, hd⟩ := hv
  rw [show h.get? c = _ from ht] at ho
  cases ho; cases hd

/-- x, y = e -/
theorem w_assignT2 {x y : Str} {px py tpos pos : Pos} {k : Nat} {e : Expr} {rest : List Stmt} {Q : Flow → Shared → Prop} (hh : A.handled = none)
    (he : W (model prog w) A (eval e env) (fun v s1 => ∃ t u1 u2 m, v = .ref t ∧ TupAt s1.heap t [u1, u2] ∧ s1.heap.Ns env.locals m ∧ ∀ s2, Ex [env.locals] s1 s2 → s2.heap.Ns env.locals (upd (upd m x u1) y u2) → W (model prog w) A (execs rest env) Q s2) s)
    (hs : swapsWithSole [.Tuple [.Name x px, .Name y py] k tpos] e pos.line env = pure false := by rfl)
    (hw : swappedStores [.Tuple [.Name x px, .Name y py] k tpos] e env = pure none := by rfl)
    (hk : env.scope.kind = .function := by rfl) (hx : env.kindOf x = some .local := by rfl) (hy : env.kindOf y = some .local := by rfl) :
    W (model prog w) A (execs (.Assign [.Tuple [.Name x px, .Name y py] k tpos] e pos :: rest) env) Q s := by
  refine w_cons (Assign_Tuple (he.upm fun v s1 ⟨t, u1, u2, m, hv, ht, hn, h⟩ => ?_) hs hw)
  subst hv
  exact assign_tup2 hh ht hn h hk hx hy

theorem lp_pile : glTab.lookup (Str.ofString "_law_pile") = some (.ref 117) := by decide +kernel

/-- the loop's state -/
structure LvJ (p l ks : List Nat) (L pa pd tk pc : Addr) (tp tr : Tok) (tvs : List Pc) (us : List Value) (k : Nat) (h : Heap) : Prop where
  cw : h.IsCell (L + 1) (some (Tx p tp))
  cr : h.IsCell (L + 1 + 1) (some (Tx l tr))
  ce : ∃ v, h.IsCell (L + 1 + 1 + 1) v
  pile : PileAt h pa pd (refs tvs)
  pcs : Pcs h ks l tvs
  tk : h.PlainList tk us.toArray
  want : ∃ ws, h.PlainList pc ws.toArray ∧ Want h p l k ws

theorem leaves_walk (f : Bg s.heap) (p tx l : List Nat) (tp tt tr : Tok) (hstk : stackF p tx = l) (hpl : p.length ≤ 100) (hp0 : 0 < p.length) (htl : tx.length ≤ 100) (hd : A.depth < 550) (hA : A.handled = none) (hu : A.units < 7000) :
    W (model Pg w) A (runValue (.call (.ref 129) ⟨[Tx p tp, Tx tx tt, Tx l tr], []⟩)) (fun v s' => v = .bool true ∧ Ex [63, 70] s s' ∧ Bg s'.heap) s := by
  obtain ⟨o, h1, h2, _⟩ := f.bs.leaves.at_
  have h3 := f.bs.leaves.rec_
  refine w_callC (binds := [("word", Tx p tp), ("text", Tx tx tt), ("rest", Tx l tr)]) (by simp only [recursionLimit]; omega) h1 h2 f.bs.lim h3 (body := bodyOf (stm 9)) rfl rfl ?_ (fun s1 hx hsz hn1 hc => ?_)
  · intro x hx
    rcases List.mem_cons.mp hx with rfl | hx
    · exact .inr ⟨rfl, rfl⟩
    rcases List.mem_cons.mp hx with rfl | hx
    · exact .inl rfl
    · rw [List.mem_singleton.mp hx]; exact .inr ⟨rfl, rfl⟩
  generalize hL : s.heap.objs.size = L at *
  have c1 : s1.heap.IsCell (L + 1) (some (Tx p tp)) := (hc "word" _ rfl).1
  have c2 : s1.heap.IsCell (L + 1 + 1) (some (Tx l tr)) := (hc "rest" _ rfl).1
  have c3 : s1.heap.IsCell (L + 1 + 1 + 1) none := (hc "end" _ rfl).1
  have fc1 : s.heap.get? (L + 1) = none := (hc "word" _ rfl).2.1
  have fc2 : s.heap.get? (L + 1 + 1) = none := (hc "rest" _ rfl).2.1
  have fc3 : s.heap.get? (L + 1 + 1 + 1) = none := (hc "end" _ rfl).2.1
  have f1 := f.ex0 hx
  have wL : Wild2 L := f.wild2 hsz
  have hd' : (A.deeper (callEnvC fdLeaves L 129)).depth < 600 := by show A.depth + 1 < 600; omega
  have hA' : (A.deeper (callEnvC fdLeaves L 129)).handled = none := hA
  have hu' : (A.deeper (callEnvC fdLeaves L 129)).units < 8000 := by show A.units + 3 < 8000; omega
  generalize A.deeper (callEnvC fdLeaves L 129) = A' at hd' hA' hu' ⊢
  have m1 : (bindL (callEnvC fdLeaves L 129).kindOf [("word", Tx p tp), ("text", Tx tx tt), ("rest", Tx l tr)] fun _ => none) "text" = some (Tx tx tt) := rfl
  generalize (bindL (callEnvC fdLeaves L 129).kindOf [("word", Tx p tp), ("text", Tx tx tt), ("rest", Tx l tr)] fun _ => none) = m0 at hn1 m1
  -- pile, taken = _law_pile(word, text)
  refine w_assignT2 hA' (w_callF (pe_gl f1.bs.gl lp_pile) f1.bs.pile (R := fun us => ∃ t1 t2, us = [Tx p t1, Tx tx t2]) ((peL_cons (pe_cellS c1) (peL_cons (pe_locS hn1 m1) peL_nil)).mono ?_) ?_)
  · rintro us ⟨_, _, rfl, ⟨t1, rfl⟩, _, _, rfl, ⟨t2, rfl⟩, rfl⟩; exact ⟨t1, t2, rfl⟩
  rintro _ s2 ⟨t1, t2, rfl⟩ hx2
  have f2 := f1.ex0 hx2
  refine (pile_walk f2.bs p tx t1 t2 hpl hp0 htl hd' hA').mono ?_
  rintro _ s3 ⟨hx3, T, pa, pd, tk, vs, us, cnt, rfl, hT, fpa, fpd, ftk, hp3, hpc3, htk3, hus, hcnt⟩
  rw [hstk] at hpc3 hcnt
  obtain ⟨tvs, rfl, hpcs3⟩ := pcs_pieces hpc3
  have x3 : Ex [] s1 s3 := hx2.trans hx3
  have hn3 := x3.ns hn1 (by simp)
  refine ⟨T, _, _, m0, rfl, hT, hn3, fun s4 hx4 hn4 => ?_⟩
  have ne_of : ∀ {a b : Addr}, s2.heap.get? a = none → (∃ o, s1.heap.get? b = some o) → b ≠ a := fun {a b} ha hb e => by
    obtain ⟨o, ho⟩ := hb
    rw [← e, hx2.keep0 _ _ ho] at ha; cases ha
  have oL : ∃ o, s1.heap.get? L = some o := let ⟨o, _, _, ho, _⟩ := hn1; ⟨o, ho⟩
  have o1 : ∃ o, s1.heap.get? (L + 1) = some o := let ⟨o, ho, _⟩ := c1; ⟨o, ho⟩
  have o2 : ∃ o, s1.heap.get? (L + 1 + 1) = some o := let ⟨o, ho, _⟩ := c2; ⟨o, ho⟩
  have o3 : ∃ o, s1.heap.get? (L + 1 + 1 + 1) = some o := let ⟨o, ho, _⟩ := c3; ⟨o, ho⟩
  have l1 : L + 1 ≠ L := Nat.succ_ne_self L
  have l2 : L + 1 + 1 ≠ L := Nat.ne_of_gt (Nat.lt_succ_of_lt (Nat.lt_succ_self L))
  have l3 : L + 1 + 1 + 1 ≠ L := Nat.ne_of_gt (Nat.lt_succ_of_lt (Nat.lt_succ_of_lt (Nat.lt_succ_self L)))
  have l13 : L + 1 ≠ L + 1 + 1 + 1 := Nat.ne_of_lt (Nat.lt_succ_of_lt (Nat.lt_succ_self _))
  have l23 : L + 1 + 1 ≠ L + 1 + 1 + 1 := Nat.ne_of_lt (Nat.lt_succ_self _)
  have x4 : Ex [] s s4 := (hx.trans x3).fr hx4 hsz
  have f4 := f.ex0 x4
  have fpa' : s.heap.get? pa = none := (hx.trans hx2).old0 fpa
  have fpd' : s.heap.get? pd = none := (hx.trans hx2).old0 fpd
  have ftk' : s.heap.get? tk = none := (hx.trans hx2).old0 ftk
  have hp4 := hx4.pile hp3 (nmem1 (ne_of fpa oL).symm) (nmem1 (ne_of fpd oL).symm)
  have hpcs4 := hpcs3.ex hx4 (.ns hn3)
  have htk4 := hx4.plainList htk3 (nmem1 (ne_of ftk oL).symm)
  have c14 := hx4.cell (x3.cell c1 (by simp)) (nmem1 l1)
  have c24 := hx4.cell (x3.cell c2 (by simp)) (nmem1 l2)
  have c34 := hx4.cell (x3.cell c3 (by simp)) (nmem1 l3)
  -- pieces = []
  refine w_assignE ((pr_list peL_nil (fun vs h => by rw [h]; exact Nat.zero_le _)).run ?_)
  rintro _ s5 ⟨pc, _, rfl, hfr5, hl5, rfl⟩ hx5
  refine ⟨_, hx5.ns hn4 (by simp), fun s6 hx6 hn6 => ?_⟩
  have x46 : Ex [L] s4 s6 := hx5.lift.trans hx6
  have nL : ∀ {a : Addr}, (∃ o, s4.heap.get? a = some o) → a ≠ pc := fun {a} ⟨o, ho⟩ e => by rw [e, hfr5] at ho; cases ho
  have qL : L ≠ pc := nL (let ⟨o, _, _, ho, _⟩ := hn4; ⟨o, ho⟩)
  have q1 : L + 1 ≠ pc := nL (let ⟨o, ho, _⟩ := c14; ⟨o, ho⟩)
  have q2 : L + 1 + 1 ≠ pc := nL (let ⟨o, ho, _⟩ := c24; ⟨o, ho⟩)
  have q3 : L + 1 + 1 + 1 ≠ pc := nL (let ⟨o, ho, _⟩ := c34; ⟨o, ho⟩)
  have qpa : pa ≠ pc := nL (let ⟨n, ho⟩ := hp4.obj; ⟨_, ho⟩)
  have qpd : pd ≠ pc := nL (let ⟨t, o, _, _, ho, _⟩ := hp4.ns; ⟨_, ho⟩)
  have qtk : tk ≠ pc := nL (let ⟨n, ho⟩ := htk4; ⟨_, ho⟩)
  have x6 : Ex [] s s6 := x4.fr x46 hsz
  have f6 := f.ex0 x6
  have hl6 : s6.heap.PlainList pc ([] : List Value).toArray := hx6.plainList hl5 (nmem1 qL.symm)
  have fpc' : s.heap.get? pc = none := x4.old0 hfr5
  have zl : l.length ≤ 100 := by
    have : l.length ≤ tx.length := by omega
    omega
  have J6 : LvJ p l (ksOf p l) L pa pd tk pc tp tr tvs us 0 s6.heap :=
    ⟨x46.cell c14 (nmem1 l1), x46.cell c24 (nmem1 l2), ⟨_, x46.cell c34 (nmem1 l3)⟩, x46.pile hp4 (nmem1 (ne_of fpa oL).symm) (nmem1 (ne_of fpd oL).symm), hpcs4.ex x46 (.ns hn4), x46.plainList htk4 (nmem1 (ne_of ftk oL).symm), [], hl6, ⟨rfl, fun j v hv => by simp at hv⟩⟩
  -- the loop
  refine w_forX_core (Y := [L, L + 1 + 1 + 1, pc]) (itx_range2 (a := 1) (b := l.length + 1) (pe_range f6.bs.gl) pe_int ((pe_add (pe_len_str (pe_len f6.bs.gl) (pe_cellS J6.cr) (Nat.le_trans zl (by decide))) pe_int).mono fun v hv => by simpa using hv) (by omega) (by omega) hA') ?_
    (fun k s2 => Ex [] s s2 ∧ LvJ p l (ksOf p l) L pa pd tk pc tp tr tvs us k s2.heap ∧ ∃ m, s2.heap.Ns L m ∧ m "text" = some (Tx tx tt) ∧ m "pile" = some (.ref pa) ∧ m "taken" = some (.ref tk) ∧ m "pieces" = some (.ref pc)) ?_ ?_ ?_
  · intro y hy
    rcases List.mem_cons.mp hy with rfl | hy
    · exact ⟨let ⟨o, _, _, ho, _⟩ := hn6; ⟨o, ho⟩, by simp⟩
    rcases List.mem_cons.mp hy with rfl | hy
    · exact ⟨let ⟨v, o, ho, _⟩ := J6.ce; ⟨o, ho⟩, by simp⟩
    · rw [List.mem_singleton.mp hy]; exact ⟨let ⟨n, ho⟩ := hl6; ⟨_, ho⟩, by simp⟩
  · intro s7 hx7
    obtain ⟨a1, a2, ⟨v3, a3⟩, a4, a5, a6, ws, a7, a8⟩ := J6
    exact ⟨x6.step0 hx7, ⟨hx7.cell a1 (by simp), hx7.cell a2 (by simp), ⟨v3, hx7.cell a3 (by simp)⟩, hx7.pile a4 (by simp) (by simp), a5.ex hx7 .nil, hx7.plainList a6 (by simp), ws, hx7.plainList a7 (by simp), a8.ex hx7 .nil⟩, _, hx7.ns hn6 (by simp), m1, rfl, rfl, rfl⟩
  · rintro k v wr s7 s8 hk ⟨tv, rfl⟩ ⟨x7, J7, m, hn7, g1, g2, g3, g4⟩ hwr hnt hx8
    have hk : k < l.length := by omega
    have hwr' : ∀ b ∈ wr, s.heap.get? b = none := fun b hb => x6.old0 (hwr b hb)
    have out : ∀ a, (∃ o, s6.heap.get? a = some o) → a ∉ wr := fun a ⟨o, ho⟩ hm => by rw [hwr a hm] at ho; cases ho
    obtain ⟨a1, a2, ⟨v3, a3⟩, a4, a5, a6, ws, a7, a8⟩ := J7
    have oo : ∀ {a : Addr} {o : Obj}, s6.heap.get? a = some o → a ∉ wr := fun {a o} h => out a ⟨o, h⟩
    have w1 : L + 1 ∉ wr := let ⟨o, ho, _⟩ := J6.cw; oo ho
    have w2 : L + 1 + 1 ∉ wr := let ⟨o, ho, _⟩ := J6.cr; oo ho
    have w3 : L + 1 + 1 + 1 ∉ wr := let ⟨v, o, ho, _⟩ := J6.ce; oo ho
    have w0 : L ∉ wr := let ⟨o, _, _, ho, _⟩ := hn6; oo ho
    have wpa : pa ∉ wr := let ⟨n, ho⟩ := J6.pile.obj; oo ho
    have wpd : pd ∉ wr := let ⟨t, o, _, _, ho, _⟩ := J6.pile.ns; oo ho
    have wtk : tk ∉ wr := let ⟨n, ho⟩ := J6.tk; oo ho
    have wpc : pc ∉ wr := let ⟨n, ho⟩ := hl6; oo ho
    have b1 := hx8.cell a1 w1
    have b2 := hx8.cell a2 w2
    have b3 := hx8.cell a3 w3
    have b7 := hx8.plainList a7 wpc
    have hn8 := hx8.ns hn7 w0
    have x8 : Ex [] s s8 := x7.step hx8 fun y hy => .inr (hwr' y hy)
    refine wpAny_assign_Name (st_cell b3 fun s9 hx9 c9 => ?_)
    have n9 : NoTup s8.heap [L + 1 + 1 + 1] := .cell b3
    have x9 : Ex [] s s9 := x8.fr hx9 fc3
    have f9 := f.ex0 x9
    have d1 := hx9.cell b1 (nmem1 l13)
    have d2 := hx9.cell b2 (nmem1 l23)
    rw [Nat.add_comm 1 k] at c9
    have hn9 := hx9.ns hn8 (nmem1 l3.symm)
    refine lv_fits (rest := []) (p := p) (r := l) (e := k + 1) f9.bs hn9 d1 d2 c9 hpl zl hA' ?_
    intro D ys s10 hfrD hx10 hD hys hn10
    have x10 : Ex [] s s10 := x9.fr hx10 hsz
    have f10 := f.ex0 x10
    have W10 : Want s10.heap p l k ws := ((a8.ex hx8 hnt).ex hx9 n9).ex hx10 (.ns hn9)
    have b10 := hx10.plainList (hx9.plainList b7 (nmem1 q3.symm)) (nmem1 qL.symm)
    obtain ⟨x, hxk⟩ : ∃ x, l[k]? = some x := ⟨_, List.getElem?_eq_getElem hk⟩
    refine lv_append (p := p) (r := l) (e := k) (x := x) f10.bs hn10 (hx10.cell d2 (nmem1 l2)) (hx10.cell c9 (nmem1 l3)) hD hys rfl g4 b10 hxk hp0 hpl (by rw [W10.len]; omega) zl hA' W10 ?_
    intro s11 tq hx11 hl11 hW11
    refine w_nil ⟨((hx9.weak (by simp)).trans (hx10.weak memL)).trans (hx11.weak (by simp)), ?_, ?_, ?_⟩
    · exact x10.fr hx11 fpc'
    · have nt8 : NoTup s7.heap wr := hnt
      refine ⟨hx11.cell (hx10.cell d1 (nmem1 l1)) (nmem1 q1), hx11.cell (hx10.cell d2 (nmem1 l2)) (nmem1 q2), ⟨_, hx11.cell (hx10.cell c9 (nmem1 l3)) (nmem1 q3)⟩, ?_, ?_, ?_, _, hl11, hW11⟩
      · exact hx11.pile (hx10.pile (hx9.pile (hx8.pile a4 wpa wpd) (nmem1 (ne_of fpa o3).symm) (nmem1 (ne_of fpd o3).symm)) (nmem1 (ne_of fpa oL).symm) (nmem1 (ne_of fpd oL).symm)) (nmem1 qpa) (nmem1 qpd)
      · exact (((a5.ex hx8 hnt).ex hx9 n9).ex hx10 (.ns hn9)).ex hx11 (.plain b10)
      · exact hx11.plainList (hx10.plainList (hx9.plainList (hx8.plainList a6 wtk) (nmem1 (ne_of ftk o3).symm)) (nmem1 (ne_of ftk oL).symm)) (nmem1 qtk)
    · exact ⟨_, hx11.ns hn10 (nmem1 qL), g1, g2, g3, g4⟩
  · rintro wr s7 s8 ⟨x7, J7, m, hn7, g1, g2, g3, g4⟩ hwr hnt hx8
    have hwr' : ∀ b ∈ wr, s.heap.get? b = none := fun b hb => x6.old0 (hwr b hb)
    obtain ⟨a1, a2, ⟨v3, a3⟩, a4, a5, a6, ws, a7, a8⟩ := J7
    have oo : ∀ {a : Addr} {o : Obj}, s6.heap.get? a = some o → a ∉ wr := fun {a o} ho hm => by rw [hwr a hm] at ho; cases ho
    have w1 : L + 1 ∉ wr := let ⟨o, ho, _⟩ := J6.cw; oo ho
    have w2 : L + 1 + 1 ∉ wr := let ⟨o, ho, _⟩ := J6.cr; oo ho
    have w0 : L ∉ wr := let ⟨o, _, _, ho, _⟩ := hn6; oo ho
    have wpa : pa ∉ wr := let ⟨n, ho⟩ := J6.pile.obj; oo ho
    have wpd : pd ∉ wr := let ⟨t, o, _, _, ho, _⟩ := J6.pile.ns; oo ho
    have wtk : tk ∉ wr := let ⟨n, ho⟩ := J6.tk; oo ho
    have wpc : pc ∉ wr := let ⟨n, ho⟩ := hl6; oo ho
    have x8 : Ex [] s s8 := x7.step hx8 fun y hy => .inr (hwr' y hy)
    have W8 := a8.ex hx8 hnt
    obtain ⟨tvs2, rfl, hT2⟩ := pcs_want W8
    have T8 : LvT p l (ksOf p l) L pa pd pc tp tr tvs tvs2 m s8.heap := ⟨f.ex0 x8, hx8.ns hn7 w0, hx8.cell a1 w1, hx8.cell a2 w2, hx8.pile a4 wpa wpd, a5.ex hx8 hnt, hx8.plainList a7 wpc, hT2⟩
    refine (lv_tail T8 g1 g2 g3 g4 (hx8.plainList a6 wtk) hus hcnt (ksOf_le hpl) hpl hp0 htl zl (by omega) hA' hu' ⟨ne_of fpa oL, ne_of fpd oL, ne_of ftk oL, qL, qpa⟩ wL (f.wild2 fpa')).mono ?_
    rintro fl s9 ⟨rfl, hx9, b9⟩
    refine ⟨rfl, x8.lift.step hx9 ?_, b9⟩
    intro y hy
    rcases List.mem_cons.mp hy with rfl | hy
    · exact .inr hsz
    rcases List.mem_cons.mp hy with rfl | hy
    · exact .inr fpa'
    · exact .inl hy
end Mine
end

section
open PySem PySem.W PyProof.Rows
set_option maxRecDepth 100000
set_option maxHeartbeats 1000000
set_option linter.unusedVariables false
namespace Mine
variable {α β : Type} {w : World} {M : Model} {prog : Program} {A : Around} {env : Env} {s s' : Shared}

/-- a loop over a new list -/
theorem it_fresh {iter : Expr} {P : List Value → Prop} {n : Nat} {F : Nat → Value → Prop} (he : Pr (model prog w) A (eval iter env) s (FreshL P)) (hP : ∀ vs, P vs → vs.length = n ∧ ∀ (i : Nat) v, vs[i]? = some v → F i v) (hh : A.handled = none) :
    Iters prog w A env iter s n F [] := by
  intro E
  refine he.use .refl fun v s1 hv hx _ => ?_
  obtain ⟨a, vs, rfl, hfr, hl, hp⟩ := hv
  obtain ⟨hlen, hF⟩ := hP vs hp
  have hl1 : s1.heap.IsList a vs.toArray := hl.isList
  have hlt : a < s1.heap.objs.size := let ⟨o, ho, _⟩ := hl1; Heap.lt_size ho
  have W0 := Walks.list (prog := prog) (w := w) hh s1.heap.objs.size a (Nat.ne_of_lt hlt) vs.toArray
  rw [show vs.toArray.size = n by simpa using hlen] at W0
  have W1 : Walks prog w A s1.heap.objs.size _ _ n F _ := { W0 with item := fun i s Q E hi hst hQ => W0.item i s Q E hi hst fun v h' tk hp' hst' hk => hQ v h' tk (hF i v (by simpa using hp')) hst' hk }
  refine wpAny_pyIter_list hl1 ⟨s1.heap.objs.size, _, _, _, rfl, W1, ?_, hx.step0 (.push' _), ?_, ?_, ?_⟩
  · exact ⟨⟨_, Heap.get?_push_size _ rfl, rfl, rfl⟩, hl1.push _⟩
  · intro b hb; rw [List.mem_singleton.mp hb]; exact hx.old0 (fresh_size _)
  · intro b hb
    rcases List.mem_cons.mp hb with rfl | hb
    · exact .inl (hx.old0 (fresh_size _))
    · rw [List.mem_singleton.mp hb]; exact .inl hfr
  · intro b hb
    show b < (s1.heap.push _).objs.size
    rw [Heap.size_push]
    rcases List.mem_cons.mp hb with rfl | hb
    · exact Nat.lt_succ_self _
    · rw [List.mem_singleton.mp hb]; exact Nat.lt_succ_of_lt hlt

theorem call_chr {i : Int} {t : Tok} (h0 : 0 ≤ i) (h1 : i ≤ 1000) : Pe (model prog w) A (call (.builtin "chr") [.int i t]) s (St [i.toNat]) := by
  intro s' hx E
  exact chr_of_range h0 (by omega) ⟨.toks _, _, rfl⟩

theorem call_sum_list {l : Addr} {vs : List Value} {ns : List Int} (hl : s.heap.IsList l vs.toArray) (hv : Are It ns vs) (hh : A.handled = none) : Pe (model prog w) A (call (.builtin "sum") [.ref l]) s (It (preSum (fun i => ns.getD i 0) vs.toArray.size)) := by
  intro s' hx E
  have hl' := hx.isList hl (by simp)
  have hlt : l < s'.heap.objs.size := let ⟨o, ho, _⟩ := hl'; Heap.lt_size ho
  refine call_sum_walkG (wpAny_pyIter_list hl' ⟨s'.heap.objs.size, _, _, _, _, _, fun i => ns.getD i 0, rfl, Walks.list (A := A.in1) hh s'.heap.objs.size l (Nat.ne_of_lt hlt) vs.toArray, ⟨⟨_, Heap.get?_push_size _ rfl, rfl, rfl⟩, hl'.push _⟩, ?_, ?_, ?_⟩)
  · intro b hb
    show b < (s'.heap.push _).objs.size
    rw [Heap.size_push]
    rcases List.mem_cons.mp hb with rfl | hb
    · exact Nat.lt_succ_self _
    · rw [List.mem_singleton.mp hb]; exact Nat.lt_succ_of_lt hlt
  · intro i v hv'
    obtain ⟨x, hx1, hx2⟩ := hv.get' (i := i) (v := v) (by simpa using hv')
    show ∃ t, v = Value.int (ns.getD i 0) t
    rw [List.getD_eq_getElem?_getD, hx1]; exact hx2
  · intro h' tk t' hk
    exact ⟨⟨fun b o _ e => hk b o (nmem1 (Nat.ne_of_lt (Heap.lt_size e))) (Heap.get?_push_of_some _ e), fun x => x, rfl⟩, _, rfl⟩

/-- x = e, x a cell -/
theorem w_assignK {x : Str} {p1 p2 : Pos} {e : Expr} {rest : List Stmt} {c : Addr} {Q : Flow → Shared → Prop} (hc : env.cells.lookup x = some c)
    (he : W M A (eval e env) (fun v s1 => ∃ v0, s1.heap.IsCell c v0 ∧ ∀ s2, Ex [c] s1 s2 → s2.heap.IsCell c (some v) → W M A (execs rest env) Q s2) s)
    (hk : env.scope.kind = .function := by rfl) (hl : env.kindOf x = some .cell := by rfl) (hs : swapsWith e (some (.Name x p1)) p2.line env = pure false := by rfl) :
    W M A (execs (.Assign [.Name x p1] e p2 :: rest) env) Q s :=
  w_cons (wpAny_Assign_Name (he.upm fun v s1 ⟨v0, hv, k⟩ => st_cell hv (fun s2 hx hn2 => k s2 hx hn2) hk hl hc) hs)

/-- f(..), f a def of the text that leaves all as it was -/
theorem pe_callF {f0 : Str} {fp pos : Pos} {e : Expr} {rest : List Expr} {fa : Addr} {fd : FuncData} {R : List Value → Prop} {R' : Value → Prop} (hf : Pe (model prog w) A (eval (.Name f0 fp) env) s (· = .ref fa)) (hfn : FnAt s.heap fa fd)
    (ha : Pe (model prog w) A (spliced (backTo pos (starEach (e :: rest) env))) s R)
    (h : ∀ us s1, R us → Ex [] s s1 → W (model prog w) A (runValue (.call (.ref fa) ⟨us, []⟩)) (fun v s2 => Ex [] s1 s2 ∧ R' v) s1)
    (hs : starEach (e :: rest) env = (false, eval e env) :: starEach rest env := by rfl) :
    Pe (model prog w) A (eval (.Call (.Name f0 fp) (e :: rest) [] pos) env) s R' := by
  intro s' hx E
  obtain ⟨of, ho1, ho2, ho3⟩ := hfn.at_
  refine Call_ (hf.use hx fun v s1 hv hx1 a1 => ?_)
  subst hv
  exact callWith_def ho2 (ha.use hx1 fun us s2 hu hx2 a2 => ⟨hx2.keep0 _ _ ho1, (h us s2 hu hx2).upm fun v s3 ⟨hx3, hr⟩ => ⟨(a1.trans a2).trans hx3, hr⟩⟩) hs

/-- f(..), the arguments told with their states -/
theorem w_callF' {f0 : Str} {fp pos : Pos} {e : Expr} {rest : List Expr} {fa : Addr} {fd : FuncData} {Q : Value → Shared → Prop} (hf : Pe (model prog w) A (eval (.Name f0 fp) env) s (· = .ref fa)) (hfn : FnAt s.heap fa fd)
    (h : ∀ s1, Ex [] s s1 → W (model prog w) A (spliced (backTo pos (starEach (e :: rest) env))) (fun us s2 => Ex [] s1 s2 ∧ W (model prog w) A (runValue (.call (.ref fa) ⟨us, []⟩)) Q s2) s1)
    (hs : starEach (e :: rest) env = (false, eval e env) :: starEach rest env := by rfl) :
    W (model prog w) A (eval (.Call (.Name f0 fp) (e :: rest) [] pos) env) Q s := by
  refine Call_ (hf.use .refl fun v s1 hv hx1 _ => ?_)
  subst hv
  obtain ⟨of, ho1, ho2, ho3⟩ := hfn.at_
  exact callWith_def ho2 ((h s1 hx1).upm fun us s2 ⟨hx2, h2⟩ => ⟨(hx1.trans hx2).keep0 _ _ ho1, h2⟩) hs
theorem w_args_nil {pos : Pos} {Q : List Value → Shared → Prop} (h : Q [] s) : W M A (spliced (backTo pos (starEach [] env))) Q s := args_nil h
theorem w_args_cons {pos : Pos} {e : Expr} {rest : List Expr} {Q : List Value → Shared → Prop} (he : W M A (eval e env) (fun v s1 => W M A (spliced (backTo pos (starEach rest env))) (fun us s2 => Q (v :: us) s2) s1) s)
    (hs : starEach (e :: rest) env = (false, eval e env) :: starEach rest env := by rfl) : W M A (spliced (backTo pos (starEach (e :: rest) env))) Q s :=
  args_cons he hs

theorem pe_or {x y : Expr} {pos : Pos} {whole : Sem Value} {b c : Bool} (h1 : Pe M A (isTrue x env (eval x env)) s (· = b)) (h2 : b = false → Pe M A (isTrue y env (eval y env)) s (· = c)) :
    Pe M A (isTrue (.BoolOp .Or [x, y] pos) env whole) s (· = (b || c)) := by
  intro s' hx E
  refine wpAny_isTrue_BoolOp (wpAny_allTrue_Or_cons (h1.use hx fun v s1 hv hx1 a1 => ?_))
  subst hv
  cases v with
  | true => exact ⟨a1, rfl⟩
  | false => exact wpAny_allTrue_Or_cons ((h2 rfl).use hx1 fun v s2 hv hx2 a2 => by
      subst hv
      cases v with
      | true => exact ⟨a1.trans a2, rfl⟩
      | false => exact wpAny_allTrue_Or_nil ⟨a1.trans a2, rfl⟩)
theorem pe_true {x : Expr} {b : Bool} (h : Pe M A (eval x env) s (· = .bool b)) (he : isTrue x env (eval x env) = (do let v ← eval x env; standAt x.pos; holding [v] (truthy v)) := by rfl) :
    Pe M A (isTrue x env (eval x env)) s (· = b) := by
  intro s' hx E
  refine wpAny_isTrue_value (h.use hx fun v s1 hv hx1 a1 => ?_) he
  subst hv
  exact wpAny_truthy_bool ⟨a1, rfl⟩

/-- e + l, e a new list, l one that stands -/
theorem pr_add_list' {l r : Expr} {pos : Pos} {R1 : List Value → Prop} {b : Addr} {us : List Value} (h1 : Pr (model prog w) A (eval l env) s (FreshL R1)) (h2 : Pe (model prog w) A (eval r env) s (· = .ref b)) (hb : s.heap.PlainList b us.toArray)
    (hsz : ∀ vs, R1 vs → vs.length + us.length ≤ sizeLine) :
    Pr (model prog w) A (eval (.BinOp l .Add r pos) env) s (FreshL (fun xs => ∃ vs, R1 vs ∧ xs = vs ++ us)) := by
  intro s' hx E
  refine wpAny_BinOp (h1.use hx fun v s1 hv hx1 a1 => h2.use hx1 fun u s2 hu hx2 a2 => ?_)
  obtain ⟨a, vs, rfl, hn1, hl, hR⟩ := hv
  subst hu
  obtain ⟨k2, hl2⟩ := hx2.plainList hb (by simp)
  obtain ⟨k, hl⟩ := a2.plainList hl (by simp)
  refine P.add_list (n := k) (n2 := k2) hl hl2 ⟨(a1.trans a2).trans (.push' _), s2.heap.objs.size, vs ++ us, rfl, (a1.trans a2).old0 (fresh_size _), ⟨0, ?_⟩, vs, hR, rfl⟩ (by simpa using hsz vs hR)
  rw [Heap.get?_push_size _ rfl]; simp

/-! a text, turned round -/
theorem slice_back (n : Nat) : Builtin.Str.strSliceIndices none none (-1) n = (List.range n).map fun k => n - 1 - k := by
  unfold Builtin.Str.strSliceIndices sliceRange
  simp only [show ¬ ((-1 : Int) > 0) from by decide, if_false]
  by_cases hn : n = 0
  · subst hn; rfl
  · have h1 : ((n : Int) - 1 > -1) := by omega
    rw [if_pos h1]
    have e : (((n : Int) - 1 - (-1) - (-1) - 1) / (-(-1))).toNat = n := by
      rw [show (-(-1 : Int)) = 1 from rfl, Int.ediv_one]; omega
    rw [e]
    refine List.map_congr_left fun k hk => ?_
    have := List.mem_range.mp hk
    omega
theorem back_pick0 (x : List Nat) : ∀ n, n ≤ x.length → ((List.range n).map fun k => x.length - 1 - k).filterMap (x[·]?) = x.reverse.take n := by
  intro n
  induction n with
  | zero => intro _; simp
  | succ n ih =>
    intro h
    rw [List.range_succ, List.map_append, List.filterMap_append, ih (by omega), List.take_add_one, List.getElem?_reverse (by omega)]
    have hlt : x.length - 1 - n < x.length := by omega
    simp [hlt]
theorem back_pick (x : List Nat) : ((List.range x.length).map fun k => x.length - 1 - k).filterMap (x[·]?) = x.reverse := by
  rw [back_pick0 x _ (Nat.le_refl _), List.take_of_length_le (by simp)]
theorem pe_rev_str {value : Expr} {p q r pos : Pos} {k : Nat} {x : List Nat} (h0 : Pe (model prog w) A (eval value env) s (St x)) (hx : x.length ≤ sizeLine) :
    Pe (model prog w) A (eval (.Subscript value (.Slice none none (some (.UnaryOp .USub (.Constant (.int 1) k q) r)) p) pos) env) s (St x.reverse) := by
  intro s' hs E
  refine Subscript_ (h0.use hs fun v s1 ⟨t, hv⟩ hs1 a1 => wpAny_Slice (wpAny_pure (wpAny_pure (Pe.use (pe_neg (pe_int (i := 1))) hs1 fun vs s2 hst hs2 a2 => ?_))))
  subst hv
  obtain ⟨u, rfl⟩ := hst
  refine tail_any (typeIs_str _ _ t) F.slot_str_getitem.lookup (wpAny_getItem_str_slice (l := none) (u := none) (st := some (-1, u)) ⟨_, Heap.get?_push_size _ rfl, rfl, rfl⟩ rfl ?_) rfl
  unfold sliceMade
  rw [if_neg (by simp)]
  have e : (slicePicked ⟨x.toArray⟩ none none (some (-1, u))).filterMap ((⟨x.toArray⟩ : Str).cps[·]?) = x.reverse := by
    unfold slicePicked
    show (Builtin.Str.strSliceIndices none none (-1) _).filterMap _ = _
    have e0 : Str.length ⟨x.toArray⟩ = x.length := by simp [Str.length]
    rw [e0, slice_back]
    have := back_pick x
    simpa using this
  rw [e]
  refine ⟨?_, (a1.trans a2).trans (Ex.push _ _), _, rfl⟩
  simpa [Str.length] using hx

/-! isinstance -/
theorem isi_list {a : Addr} {vs : Array Value} (hl : s.heap.IsList a vs) : Pe (model prog w) A (call (.builtin "isinstance") [.ref a, .type "list"]) s (· = .bool true) := by
  intro s' hx E
  obtain ⟨o, ho, hc, _⟩ := hx.isList hl (by simp)
  exact IsiPair.list_list ho hc ⟨.refl, rfl⟩
theorem isi_bool {n : Int} {t : Tok} : Pe (model prog w) A (call (.builtin "isinstance") [.int n t, .type "bool"]) s (· = .bool false) := fun s' hx E => IsiPair.int_bool ⟨.toks _, rfl⟩
theorem isi_int {n : Int} {t : Tok} : Pe (model prog w) A (call (.builtin "isinstance") [.int n t, .type "int"]) s (· = .bool true) := fun s' hx E => IsiPair.int_int ⟨.refl, rfl⟩
end Mine
end

section
open PySem PySem.W PyProof.Rows
set_option maxRecDepth 100000
set_option maxHeartbeats 1000000
set_option linter.unusedVariables false
namespace Mine
variable {α β : Type} {w : World} {M : Model} {prog : Program} {A : Around} {env : Env} {s s' : Shared} {E : Value → Shared → Prop}

theorem ane {a b : Nat} (h : a ≠ b) : @Ne Addr a b := h
abbrev TriAt (h : Heap) (T : Addr) (a b c : Value) : Prop := h.get? T = some { cls := .type "tuple", data := .seq #[a, b, c] }

/-- a zip over three lists; what it stands on lies at n .. n + 5 -/
structure Z3 (h : Heap) (n l1 l2 l3 : Nat) (f0 : Value) (k : Nat) (xs ys zs : Array Value) : Prop where
  z : IsZip h (n + 5) (n + 3) (n + 4) f0
  ti : TriAt h (n + 3) (.ref n) (.ref (n + 1)) (.ref (n + 2))
  to : ∃ a b c, TriAt h (n + 4) a b c
  i1 : h.IsListIter n l1 k
  i2 : h.IsListIter (n + 1) l2 k
  i3 : h.IsListIter (n + 2) l3 k
  l1 : h.IsList l1 xs
  l2 : h.IsList l2 ys
  l3 : h.IsList l3 zs
abbrev zWr (n : Nat) : List Nat := [n + 2, n + 1, n + 4, n, n + 5]
theorem zlt {l n : Nat} (h : l < n) (c : Nat) : l ≠ n + c := Nat.ne_of_lt (Nat.lt_of_lt_of_le h (Nat.le_add_right _ _))
theorem zout {l n : Nat} (h : l < n) : l ∉ zWr n := by
  intro hm
  rcases List.mem_cons.mp hm with e | hm
  · exact zlt h 2 e
  rcases List.mem_cons.mp hm with e | hm
  · exact zlt h 1 e
  rcases List.mem_cons.mp hm with e | hm
  · exact zlt h 4 e
  rcases List.mem_cons.mp hm with e | hm
  · exact Nat.ne_of_lt h e
  · exact zlt h 5 (List.mem_singleton.mp hm)
theorem znew {b c : Nat} {S : List Nat} (h : b ∉ c :: S) : @Ne Addr b c := fun e => h (e ▸ List.mem_cons_self ..)
theorem zold {b c : Nat} {S : List Nat} (h : b ∉ c :: S) : b ∉ S := fun e => h (List.mem_cons_of_mem _ e)
theorem z5 {b n : Nat} (h : b ∉ zWr n) : b ≠ n + 5 := znew (zold (zold (zold (zold h))))
theorem z4 {b n : Nat} (h : b ∉ zWr n) : b ≠ n + 4 := znew (zold (zold h))
theorem z0 {b n : Nat} (h : b ∉ zWr n) : b ≠ n := znew (zold (zold (zold h)))

theorem tri_upd {T : Addr} {a b c x : Value} {k : Nat} {Q : Unit → Shared → Prop} (hT : TriAt s.heap T a b c)
    (h : ∀ h', h'.get? T = some { cls := .type "tuple", data := .seq ((#[a, b, c] : Array Value).setIfInBounds k x) } → Heap.SameBut T s.heap h' → Q () { s with heap := h' }) :
    wpAny (model prog w) A (updateSeq T (·.setIfInBounds k x)) Q E s := by
  refine wpAny_updateSeq hT rfl (h _ ?_ (Heap.SameBut.update ..))
  rw [Heap.get?_update_self _ hT rfl]
  simp [Obj.mapSeq]

theorem Z3.frame {h h' : Heap} {n l1 l2 l3 : Nat} {f0 k xs ys zs} (Z : Z3 h n l1 l2 l3 f0 k xs ys zs) (hk : ∀ (b : Nat) o, (b = l1 ∨ b = l2 ∨ b = l3 ∨ (n ≤ b ∧ b ≤ n + 5)) → h.get? b = some o → h'.get? b = some o) : Z3 h' n l1 l2 l3 f0 k xs ys zs := by
  obtain ⟨z, ti, ⟨a, b, c, to⟩, i1, i2, i3, q1, q2, q3⟩ := Z
  exact ⟨hk _ _ (.inr (.inr (.inr (by omega)))) z, hk _ _ (.inr (.inr (.inr (by omega)))) ti, ⟨a, b, c, hk _ _ (.inr (.inr (.inr (by omega)))) to⟩, i1.at fun o e => hk _ o (.inr (.inr (.inr (by omega)))) e, i2.at fun o e => hk _ o (.inr (.inr (.inr (by omega)))) e, i3.at fun o e => hk _ o (.inr (.inr (.inr (by omega)))) e,
    q1.at fun o e => hk _ o (.inl rfl) e, q2.at fun o e => hk _ o (.inr (.inl rfl)) e, q3.at fun o e => hk _ o (.inr (.inr (.inl rfl))) e⟩

theorem z3_next {n l1 l2 l3 k : Nat} {xs ys zs : Array Value} {x y z : Value} {Q : Value → Shared → Prop} (h1 : l1 < n) (h2 : l2 < n) (h3 : l3 < n) (Z : Z3 s.heap n l1 l2 l3 .none k xs ys zs) (hx : xs[k]? = some x) (hy : ys[k]? = some y) (hz : zs[k]? = some z)
    (hQ : ∀ h', Z3 h' n l1 l2 l3 (rawInt s.heap.objs.size) (k + 1) xs ys zs → TriAt h' s.heap.objs.size x y z → (∀ (b : Nat) o, b ∉ zWr n → s.heap.get? b = some o → h'.get? b = some o) → Q (.ref s.heap.objs.size) { s with heap := h' }) :
    wpAny (model prog w) A (Builtin.«zip.__next__» ⟨[.ref (n + 5)], []⟩) (fun fin s' => ∃ v, fin = .done (.ret v) ∧ Q v s') E s := by
  obtain ⟨hzp, hti, ⟨a, b, c, hto⟩, hi1, hi2, hi3, hl1, hl2, hl3⟩ := Z
  show wpAny _ _ (field (.ref (n + 5)) 2 >>= _) _ _ _
  refine wpAny_bind (wpAny_field hzp rfl (x := .bool false) rfl ?_)
  show wpAny _ _ (field (.ref (n + 5)) 3 >>= _) _ _ _
  refine wpAny_bind (wpAny_field hzp rfl (x := .ref (n + 3)) rfl ?_)
  refine wpAny_bind (wpAny_seqItems hti rfl ?_)
  show wpAny _ _ (Builtin.SmallTypes.ownedTupleIsFree (.ref (n + 5)) >>= _) _ _ _
  refine wpAny_bind ?_
  unfold Builtin.SmallTypes.ownedTupleIsFree
  refine wpAny_bind (wpAny_field hzp rfl (x := .none) rfl (wpAny_pure ?_))
  simp only [if_true]
  refine wpAny_bind (wpAny_rule ?_)
  refine wpAny_bind (wpAny_field hzp rfl (x := .ref (n + 4)) rfl ?_)
  refine wpAny_bind (wpAny_setField_rec hzp (by simp) fun g1 hz1 e1 => ?_)
  replace hz1 : IsZip g1 (n + 5) (n + 3) (n + 4) .ellipsis := hz1
  refine wpAny_bind ?_
  simp only [List.zipIdx_cons, List.zipIdx_nil, List.forIn_cons, List.forIn_nil]
  have k1 : ∀ (b : Nat) o, b ∉ ([n + 5] : List Nat) → s.heap.get? b = some o → g1.get? b = some o := fun b o hb e => e1.extBut _ _ (znew hb) e
  -- the first
  refine wpAny_bind (wpAny_bind (wpAny_onRaise ?_))
  show wpAny _ _ (Builtin.SmallTypes.nextOf (.ref n) >>= _) _ _ _
  refine wpAny_bind (wpAny_nextOf_list_item (hi1.at fun o e => k1 _ o (by simp) e) (hl1.at fun o e => k1 _ o (zold (zold (zold (zold (zout h1))))) e) hx fun g2 hi2' e2 => wpAny_pure ?_)
  have k2 : ∀ (b : Nat) o, b ∉ ([n, n + 5] : List Nat) → s.heap.get? b = some o → g2.get? b = some o := fun b o hb e => e2.extBut _ _ (znew hb) (k1 b o (zold hb) e)
  have hto2 : TriAt g2 (n + 4) a b c := k2 _ _ (by simp) hto
  refine wpAny_bind (wpAny_seqItems hto2 rfl ?_)
  refine wpAny_bind (tri_upd hto2 fun g3 hto3 e3 => ?_)
  replace hto3 : TriAt g3 (n + 4) x b c := hto3
  refine wpAny_bind (wpAny_letGo (wpAny_pure ?_))
  have k3 : ∀ (b : Nat) o, b ∉ ([n + 4, n, n + 5] : List Nat) → s.heap.get? b = some o → g3.get? b = some o := fun b o hb e => e3.extBut _ _ (znew hb) (k2 b o (zold hb) e)
  -- the second
  refine wpAny_bind (wpAny_bind (wpAny_onRaise ?_))
  show wpAny _ _ (Builtin.SmallTypes.nextOf (.ref (n + 1)) >>= _) _ _ _
  refine wpAny_bind (wpAny_nextOf_list_item (hi2.at fun o e => k3 _ o (by simp) e) (hl2.at fun o e => k3 _ o (zold (zold (zout h2))) e) hy fun g4 hi4' e4 => wpAny_pure ?_)
  have k4 : ∀ (b : Nat) o, b ∉ ([n + 1, n + 4, n, n + 5] : List Nat) → s.heap.get? b = some o → g4.get? b = some o := fun b o hb e => e4.extBut _ _ (znew hb) (k3 b o (zold hb) e)
  have hto4 : TriAt g4 (n + 4) x b c := e4.extBut _ _ (by simp) hto3
  refine wpAny_bind (wpAny_seqItems hto4 rfl ?_)
  refine wpAny_bind (tri_upd hto4 fun g5 hto5 e5 => ?_)
  replace hto5 : TriAt g5 (n + 4) x y c := hto5
  refine wpAny_bind (wpAny_letGo (wpAny_pure ?_))
  have k5 : ∀ (b : Nat) o, b ∉ ([n + 1, n + 4, n, n + 5] : List Nat) → s.heap.get? b = some o → g5.get? b = some o := fun b o hb e => e5.extBut _ _ (znew (zold hb)) (k4 b o hb e)
  -- the third
  refine wpAny_bind (wpAny_bind (wpAny_onRaise ?_))
  show wpAny _ _ (Builtin.SmallTypes.nextOf (.ref (n + 2)) >>= _) _ _ _
  refine wpAny_bind (wpAny_nextOf_list_item (hi3.at fun o e => k5 _ o (by simp) e) (hl3.at fun o e => k5 _ o (zold (zout h3)) e) hz fun g6 hi6' e6 => wpAny_pure ?_)
  have k6 : ∀ (b : Nat) o, b ∉ zWr n → s.heap.get? b = some o → g6.get? b = some o := fun b o hb e => e6.extBut _ _ (znew hb) (k5 b o (zold hb) e)
  have hto6 : TriAt g6 (n + 4) x y c := e6.extBut _ _ (by simp) hto5
  refine wpAny_bind (wpAny_seqItems hto6 rfl ?_)
  refine wpAny_bind (tri_upd hto6 fun g7 hto7 e7 => ?_)
  replace hto7 : TriAt g7 (n + 4) x y z := hto7
  refine wpAny_bind (wpAny_letGo (wpAny_pure (wpAny_pure ?_)))
  have k7 : ∀ (b : Nat) o, b ∉ zWr n → s.heap.get? b = some o → g7.get? b = some o := fun b o hb e => e7.extBut _ _ (z4 hb) (k6 b o hb e)
  -- the tuple
  refine wpAny_bind (wpAny_seqItems hto7 rfl ?_)
  refine wpAny_bind (wpAny_newTuple ?_)
  have hsz : g7.objs.size = s.heap.objs.size := by rw [e7.1, e6.1, e5.1, e4.1, e3.1, e2.1, e1.1]
  have hz7 : IsZip g7 (n + 5) (n + 3) (n + 4) .ellipsis := e7.extBut _ _ (by simp) (e6.extBut _ _ (by simp) (e5.extBut _ _ (by simp) (e4.extBut _ _ (by simp) (e3.extBut _ _ (by simp) (e2.extBut _ _ (by simp) hz1)))))
  show wpAny _ _ (Builtin.SmallTypes.ownedTupleHandOut (.ref (n + 5)) (.ref g7.objs.size) >>= _) _ _ _
  refine wpAny_bind ?_
  unfold Builtin.SmallTypes.ownedTupleHandOut
  have hz8 : IsZip (g7.push { cls := .type "tuple", data := .seq #[x, y, z] }) (n + 5) (n + 3) (n + 4) .ellipsis := Heap.get?_push_of_some _ hz7
  refine wpAny_bind (wpAny_setField_rec hz8 (by simp) fun g9 hz9 e9 => ?_)
  replace hz9 : IsZip g9 (n + 5) (n + 3) (n + 4) (rawInt g7.objs.size) := hz9
  refine wpAny_setField_rec hz9 (by simp) fun g10 hz10 e10 => ?_
  replace hz10 : IsZip g10 (n + 5) (n + 3) (n + 4) (rawInt g7.objs.size) := hz10
  have up : ∀ (b : Nat) o, b ≠ n + 5 → g7.get? b = some o → g10.get? b = some o := fun b o hb e => e10.extBut _ _ hb (e9.extBut _ _ hb (Heap.get?_push_of_some _ e))
  have hlt : n + 5 < s.heap.objs.size := Heap.lt_size hzp
  have hT : TriAt g10 g7.objs.size x y z := e10.extBut _ _ (by rw [hsz]; exact Nat.ne_of_gt hlt) (e9.extBut _ _ (by rw [hsz]; exact Nat.ne_of_gt hlt) (Heap.get?_push_size _ rfl))
  rw [hsz] at hz10 hT
  refine wpAny_pure ⟨_, rfl, ?_⟩
  show Q (.ref g7.objs.size) _
  rw [hsz]
  refine hQ g10 ⟨hz10, up _ _ (by simp) (k7 _ _ (by simp) hti), ⟨_, _, _, up _ _ (by simp) hto7⟩, ?_, ?_, ?_, ?_, ?_, ?_⟩ hT fun b o hb e => up b o (z5 hb) (k7 b o hb e)
  · exact hi2'.at fun o e => up _ o (by simp) (e7.extBut _ _ (by simp) (e6.extBut _ _ (by simp) (e5.extBut _ _ (by simp) (e4.extBut _ _ (by simp) (e3.extBut _ _ (by simp) e)))))
  · exact hi4'.at fun o e => up _ o (by simp) (e7.extBut _ _ (by simp) (e6.extBut _ _ (by simp) (e5.extBut _ _ (by simp) e)))
  · exact hi6'.at fun o e => up _ o (by simp) (e7.extBut _ _ (by simp) e)
  · exact hl1.at fun o e => up _ o (zlt h1 5) (k7 _ o (zout h1) e)
  · exact hl2.at fun o e => up _ o (zlt h2 5) (k7 _ o (zout h2) e)
  · exact hl3.at fun o e => up _ o (zlt h3 5) (k7 _ o (zout h3) e)

theorem z3_end {n l1 l2 l3 k : Nat} {xs ys zs : Array Value} {Q : Fin → Shared → Prop} (hh : A.handled = none) (h1 : l1 < n) (Z : Z3 s.heap n l1 l2 l3 .none k xs ys zs) (hx : xs[k]? = none)
    (hE : ∀ h' e, (∀ (b : Nat) o, b ∉ zWr n → s.heap.get? b = some o → h'.get? b = some o) → (∃ o, h'.get? e = some o ∧ o.cls = .type "StopIteration") → E (.ref e) { s with heap := h' }) :
    wpAny (model prog w) A (Builtin.«zip.__next__» ⟨[.ref (n + 5)], []⟩) Q E s := by
  obtain ⟨hzp, hti, ⟨a, b, c, hto⟩, hi1, hi2, hi3, hl1, hl2, hl3⟩ := Z
  show wpAny _ _ (field (.ref (n + 5)) 2 >>= _) _ _ _
  refine wpAny_bind (wpAny_field hzp rfl (x := .bool false) rfl ?_)
  show wpAny _ _ (field (.ref (n + 5)) 3 >>= _) _ _ _
  refine wpAny_bind (wpAny_field hzp rfl (x := .ref (n + 3)) rfl ?_)
  refine wpAny_bind (wpAny_seqItems hti rfl ?_)
  show wpAny _ _ (Builtin.SmallTypes.ownedTupleIsFree (.ref (n + 5)) >>= _) _ _ _
  refine wpAny_bind ?_
  unfold Builtin.SmallTypes.ownedTupleIsFree
  refine wpAny_bind (wpAny_field hzp rfl (x := .none) rfl (wpAny_pure ?_))
  simp only [if_true]
  refine wpAny_bind (wpAny_rule ?_)
  refine wpAny_bind (wpAny_field hzp rfl (x := .ref (n + 4)) rfl ?_)
  refine wpAny_bind (wpAny_setField_rec hzp (by simp) fun g1 hz1 e1 => ?_)
  replace hz1 : IsZip g1 (n + 5) (n + 3) (n + 4) .ellipsis := hz1
  refine wpAny_bind ?_
  simp only [List.zipIdx_cons, List.zipIdx_nil, List.forIn_cons, List.forIn_nil]
  have k1 : ∀ (b : Nat) o, b ∉ ([n + 5] : List Nat) → s.heap.get? b = some o → g1.get? b = some o := fun b o hb e => e1.extBut _ _ (znew hb) e
  refine wpAny_bind (wpAny_bind (wpAny_onRaise ?_))
  show wpAny _ _ (Builtin.SmallTypes.nextOf (.ref n) >>= _) _ _ _
  refine wpAny_bind (wpAny_nextOf_list_end hh (hi1.at fun o e => k1 _ o (by simp) e) (hl1.at fun o e => k1 _ o (zold (zold (zold (zold (zout h1))))) e) hx fun g2 e e2 he => ?_)
  obtain ⟨oe, hoe, hce⟩ := he
  have hz2 : IsZip g2 (n + 5) (n + 3) (n + 4) .ellipsis := e2 _ _ (by simp) hz1
  have hez : e ≠ n + 5 := fun x => by subst x; rw [hz2] at hoe; cases hoe; simp at hce
  refine wpAny_setField_rec hz2 (by simp) fun g3 _ e3 => hE g3 e (fun b o hb x => e3.extBut _ _ (z5 hb) (e2 _ _ (z0 hb) (k1 b o (zold (zold (zold (zold hb)))) x))) ⟨oe, e3.extBut _ _ hez hoe, hce⟩
end Mine
end

section
open PySem PySem.W PyProof.Rows
set_option maxRecDepth 100000
set_option maxHeartbeats 1000000
set_option linter.unusedVariables false
namespace Mine
variable {α β : Type} {w : World} {M : Model} {prog : Program} {A : Around} {env : Env} {s s' : Shared} {E : Value → Shared → Prop}

theorem z3_pyNext {n l1 l2 l3 k : Nat} {xs ys zs : Array Value} {x y z : Value} {Q : Option Value → Shared → Prop} (h1 : l1 < n) (h2 : l2 < n) (h3 : l3 < n) (Z : Z3 s.heap n l1 l2 l3 .none k xs ys zs) (hx : xs[k]? = some x) (hy : ys[k]? = some y) (hz : zs[k]? = some z)
    (hQ : ∀ h', Z3 h' n l1 l2 l3 (rawInt s.heap.objs.size) (k + 1) xs ys zs → TriAt h' s.heap.objs.size x y z → (∀ (b : Nat) o, b ∉ zWr n → s.heap.get? b = some o → h'.get? b = some o) → Q (some (.ref s.heap.objs.size)) { s with heap := h' }) :
    wpAny (model prog w) A (pyNext (.ref (n + 5))) Q E s := by
  have hT : s.TypeIs (.ref (n + 5)) "zip" := ⟨_, Z.z, rfl⟩
  unfold pyNext
  exact wpAny_bind (wpAny_attempt (wpAny_callSpecial?_slot (name := Str.ofString "__next__") hT F.slot_zip_next
    (wpAny_call_entry F.slot_zip_next hT F.entry_zip_next (z3_next h1 h2 h3 Z hx hy hz fun h' a1 a2 a3 => wpAny_pure (hQ h' a1 a2 a3)) (F.args_zip_next_1 _))))
theorem z3_pyEnd {n l1 l2 l3 k : Nat} {xs ys zs : Array Value} {Q : Option Value → Shared → Prop} (hh : A.handled = none) (h1 : l1 < n) (Z : Z3 s.heap n l1 l2 l3 .none k xs ys zs) (hx : xs[k]? = none)
    (hQ : ∀ h', (∀ (b : Nat) o, b ∉ zWr n → s.heap.get? b = some o → h'.get? b = some o) → Q none { s with heap := h' }) : wpAny (model prog w) A (pyNext (.ref (n + 5))) Q E s := by
  have hT : s.TypeIs (.ref (n + 5)) "zip" := ⟨_, Z.z, rfl⟩
  unfold pyNext
  refine wpAny_bind (wpAny_attempt (wpAny_callSpecial?_slot (name := Str.ofString "__next__") hT F.slot_zip_next
    (wpAny_call_entry F.slot_zip_next hT F.entry_zip_next (z3_end hh h1 Z hx fun h' e hk he => ?_) (F.args_zip_next_1 _))))
  obtain ⟨o, ho, hc⟩ := he
  exact wpAny_bind (wpAny_isInstance (T := "StopIteration") (b := true) ⟨o, ho, hc⟩ isSubtype_stop (wpAny_pure (hQ _ hk)))

theorem typeCall_zip_3 (a b c : Value) : checkTypeCall "zip" ⟨[a, b, c], []⟩ = pure () := by kernel_rfl
theorem newCall_zip_3 (a b c : Value) : checkBuiltinCall "zip.__new__" ⟨[.type "zip", a, b, c], []⟩ = pure () := by kernel_rfl
theorem args_object_init_4 (a b c d : Value) : argsOk "object.__init__" ⟨[a, b, c, d], []⟩ := by
  unfold argsOk; rw [signature?_of (id := "object.__init__") (n := ['_', '_', 't', 'i', 'n', 'i', '_', '_']) (o := ['t', 'c', 'e', 'j', 'b', 'o']) (by kernel_rfl) F.owner_object]; kernel_rfl

abbrev lio (l : Addr) : Obj := { cls := .type "list_iterator", data := .fields #[.ref l, .int 0 0] }
abbrev z3H (h : Heap) (l1 l2 l3 : Addr) : Heap := ((h.push (lio l1)).push (lio l2)).push (lio l3)
abbrev z3H' (h : Heap) (l1 l2 l3 : Addr) : Heap := (z3H h l1 l2 l3).push { cls := .type "tuple", data := .seq #[.ref h.objs.size, .ref (h.push (lio l1)).objs.size, .ref ((h.push (lio l1)).push (lio l2)).objs.size] }
abbrev z3H2 (h : Heap) (l1 l2 l3 : Addr) : Heap := (z3H' h l1 l2 l3).push { cls := .type "tuple", data := .seq #[.none, .none, .none] }
abbrev z3H3 (h : Heap) (l1 l2 l3 : Addr) : Heap := (z3H2 h l1 l2 l3).push { cls := .type "zip", data := .fields #[.none, .bool false, .bool false, .ref (z3H h l1 l2 l3).objs.size, .ref (z3H' h l1 l2 l3).objs.size] }

theorem meets_zip3 (l1 l2 l3 : Addr) (xs ys zs : Array Value) :
    Meets (Builtin.«zip.__new__» ⟨[.type "zip", .ref l1, .ref l2, .ref l3], []⟩) (fun _ R s => s.heap.IsList l1 xs ∧ s.heap.IsList l2 ys ∧ s.heap.IsList l3 zs ∧
      R (.ok (.ret (.ref (z3H2 s.heap l1 l2 l3).objs.size))) { s with heap := z3H3 s.heap l1 l2 l3 }) :=
  .of_wp fun prog w A R s h => by
    obtain ⟨hp, g, d, tk, os⟩ := s; obtain ⟨hl1, hl2, hl3, h⟩ := h
    have hsub := sub_zip
    have hL1 : Heap.IsList (Shared.heap ⟨hp, g, d, tk, os⟩) l1 xs := hl1
    have hL2 : Heap.IsList (Shared.heap ⟨hp.push (lio l1), g, d, tk, os⟩) l2 ys := Heap.IsList.push hl2 _
    have hL3 : Heap.IsList (Shared.heap ⟨(hp.push (lio l1)).push (lio l2), g, d, tk, os⟩) l3 zs := Heap.IsList.push (Heap.IsList.push hl3 _) _
    wp_walk using wpAny_pyIter_list hL1, wpAny_pyIter_list hL2, wpAny_pyIter_list hL3
    exact ⟨_, rfl, h⟩

theorem call_zip_3 {l1 l2 l3 : Nat} {xs ys zs : Array Value} {Q : Value → Shared → Prop} (hl1 : s.heap.IsList l1 xs) (hl2 : s.heap.IsList l2 ys) (hl3 : s.heap.IsList l3 zs)
    (h : ∀ s', Ex [] s s' → Z3 s'.heap s.heap.objs.size l1 l2 l3 .none 0 xs ys zs → Q (.ref (s.heap.objs.size + 5)) s') :
    wpAny (model prog w) A (call (.type "zip") [.ref l1, .ref l2, .ref l3]) Q E s := by
  refine callType_new F.called_zip (by decide) (typeCall_zip_3 _ _ _) (newCall_zip_3 _ _ _) (fun obj => args_object_init_4 obj _ _ _) F.entry_zip_new (meets_zip3 l1 l2 l3 xs ys zs) ⟨hl1, hl2, hl3, ?_⟩
  have e1 : (s.heap.push (lio l1)).objs.size = s.heap.objs.size + 1 := Heap.size_push ..
  have e2 : ((s.heap.push (lio l1)).push (lio l2)).objs.size = s.heap.objs.size + 2 := by rw [Heap.size_push, e1]
  have e3 : (z3H s.heap l1 l2 l3).objs.size = s.heap.objs.size + 3 := by rw [Heap.size_push, e2]
  have e4 : (z3H' s.heap l1 l2 l3).objs.size = s.heap.objs.size + 4 := by rw [Heap.size_push, e3]
  have e5 : (z3H2 s.heap l1 l2 l3).objs.size = s.heap.objs.size + 5 := by rw [Heap.size_push, e4]
  have g6 : (z3H3 s.heap l1 l2 l3).get? (z3H2 s.heap l1 l2 l3).objs.size = some _ := Heap.get?_push_size _ rfl
  have g5 : (z3H3 s.heap l1 l2 l3).get? (z3H' s.heap l1 l2 l3).objs.size = some _ := Heap.get?_push_of_some _ (Heap.get?_push_size _ rfl)
  have g4 : (z3H3 s.heap l1 l2 l3).get? (z3H s.heap l1 l2 l3).objs.size = some _ := Heap.get?_push_of_some _ (Heap.get?_push_of_some _ (Heap.get?_push_size _ rfl))
  have g3 : (z3H3 s.heap l1 l2 l3).get? ((s.heap.push (lio l1)).push (lio l2)).objs.size = some _ := Heap.get?_push_of_some _ (Heap.get?_push_of_some _ (Heap.get?_push_of_some _ (Heap.get?_push_size _ rfl)))
  have g2 : (z3H3 s.heap l1 l2 l3).get? (s.heap.push (lio l1)).objs.size = some _ := Heap.get?_push_of_some _ (Heap.get?_push_of_some _ (Heap.get?_push_of_some _ (Heap.get?_push_of_some _ (Heap.get?_push_size _ rfl))))
  have g1 : (z3H3 s.heap l1 l2 l3).get? s.heap.objs.size = some _ := Heap.get?_push_of_some _ (Heap.get?_push_of_some _ (Heap.get?_push_of_some _ (Heap.get?_push_of_some _ (Heap.get?_push_of_some _ (Heap.get?_push_size _ rfl)))))
  have up : ∀ b o, s.heap.get? b = some o → (z3H3 s.heap l1 l2 l3).get? b = some o := fun b o e =>
    Heap.get?_push_of_some _ (Heap.get?_push_of_some _ (Heap.get?_push_of_some _ (Heap.get?_push_of_some _ (Heap.get?_push_of_some _ (Heap.get?_push_of_some _ e)))))
  show _ ∧ _
  rw [e5, e3, e4] at g6
  rw [e4] at g5
  rw [e3, e1, e2] at g4
  rw [e2] at g3
  rw [e1] at g2
  rw [e5]
  exact ⟨⟨_, g6, rfl⟩, h _ ⟨fun b o _ e => up b o e, fun x => x, rfl⟩ ⟨g6, g4, ⟨_, _, _, g5⟩, ⟨_, g1, rfl, rfl⟩, ⟨_, g2, rfl, rfl⟩, ⟨_, g3, rfl, rfl⟩, hl1.at fun o e => up _ o e, hl2.at fun o e => up _ o e, hl3.at fun o e => up _ o e⟩⟩

theorem assign_tup3 {x y z : Str} {px py pz pos : Pos} {k : Nat} {t : Addr} {u v q : Value} {m : Str → Option Value} {Q : Unit → Shared → Prop} (hh : A.handled = none) (ht : TriAt s.heap t u v q) (hn : s.heap.Ns env.locals m)
    (h : ∀ s2, Ex [env.locals] s s2 → s2.heap.Ns env.locals (upd (upd (upd m x u) y v) z q) → Q () s2)
    (hk : env.scope.kind = .function := by rfl) (hx : env.kindOf x = some .local := by rfl) (hy : env.kindOf y = some .local := by rfl) (hz : env.kindOf z = some .local := by rfl) :
    wpAny (model prog w) A (assign (.Tuple [.Name x px, .Name y py, .Name z pz] k pos) env (.ref t)) Q E s := by
  refine wpAny_assign_Tuple (items := #[u, v, q]) hh ⟨_, ht, rfl, _, rfl⟩ rfl rfl fun h1 he1 => ?_
  have e1 : Ex [] s { s with heap := h1 } := ⟨fun b o _ e => he1 b o (Nat.ne_of_lt (Heap.lt_size e)) e, fun x => x, rfl⟩
  refine assignInOrder_cons (wpAny_assign_Name (st_local (m := m) (e1.ns hn (by simp)) (fun s2 e2 hn2 => ?_) hk hx))
  refine assignInOrder_cons (wpAny_assign_Name (st_local hn2 (fun s3 e3 hn3 => ?_) hk hy))
  refine assignInOrder_cons (wpAny_assign_Name (st_local hn3 (fun s4 e4 hn4 => ?_) hk hz))
  exact assignInOrder_nil (h s4 (((e1.lift.trans e2).trans e3).trans e4) hn4)
end Mine
end

section
open PySem PySem.W PyProof.Rows
set_option maxRecDepth 100000
set_option maxHeartbeats 1000000
set_option linter.unusedVariables false
namespace Mine
variable {α β : Type} {w : World} {M : Model} {prog : Program} {A : Around} {env : Env} {s s' : Shared} {E : Value → Shared → Prop}

theorem Z3.set {h h' : Heap} {n l1 l2 l3 : Nat} {f0 f1 k xs ys zs} (h1 : l1 < n) (h2 : l2 < n) (h3 : l3 < n) (Z : Z3 h n l1 l2 l3 f0 k xs ys zs) (hz : IsZip h' (n + 5) (n + 3) (n + 4) f1) (hs : Heap.SameBut (n + 5 : Nat) h h') : Z3 h' n l1 l2 l3 f1 k xs ys zs := by
  obtain ⟨z, ti, ⟨a, b, c, to⟩, i1, i2, i3, q1, q2, q3⟩ := Z
  have hk : ∀ (b : Nat) o, b ≠ n + 5 → h.get? b = some o → h'.get? b = some o := fun b o hb e => hs.extBut _ _ hb e
  exact ⟨hz, hk _ _ (by omega) ti, ⟨a, b, c, hk _ _ (by omega) to⟩, i1.at fun o e => hk _ o (by omega) e, i2.at fun o e => hk _ o (by omega) e, i3.at fun o e => hk _ o (by omega) e,
    q1.at fun o e => hk _ o (by omega) e, q2.at fun o e => hk _ o (by omega) e, q3.at fun o e => hk _ o (by omega) e⟩

/-- for x, y, z in zip(..), three lists of N things -/
theorem w_forZip {x y z f : Str} {px py pz tp fp pos p2 : Pos} {kt : Nat} {e1 e2 e3 : Expr} {body rest : List Stmt} {l1 l2 l3 : Nat} {xs ys zs : List Value} {N : Nat} {Y : List Nat} {Q : Flow → Shared → Prop} (hh : A.handled = none)
    (hf : Pe (model prog w) A (eval (.Name f fp) env) s (· = .type "zip")) (h1 : Pe (model prog w) A (eval e1 env) s (· = .ref l1)) (h2 : Pe (model prog w) A (eval e2 env) s (· = .ref l2)) (h3 : Pe (model prog w) A (eval e3 env) s (· = .ref l3))
    (hl1 : s.heap.IsList l1 xs.toArray) (hl2 : s.heap.IsList l2 ys.toArray) (hl3 : s.heap.IsList l3 zs.toArray) (n1 : xs.length = N) (n2 : ys.length = N) (n3 : zs.length = N)
    (hY : ∀ y ∈ Y, (∃ o, s.heap.get? y = some o) ∧ y ≠ l1 ∧ y ≠ l2 ∧ y ≠ l3) (hL : env.locals ∈ Y) (J : Nat → (Str → Option Value) → Shared → Prop) (h0 : ∀ s2, Ex [] s s2 → ∃ m, s2.heap.Ns env.locals m ∧ J 0 m s2)
    (turn : ∀ k a b c m wr s2 s1, k < N → xs[k]? = some a → ys[k]? = some b → zs[k]? = some c → J k m s2 → (∀ b ∈ wr, s.heap.get? b = none) → Ex (env.locals :: wr) s2 s1 → s1.heap.Ns env.locals (upd (upd (upd m x a) y b) z c) →
      W (model prog w) A (execs body env) (fun f s4 => match f with
        | .next | .cont => Ex Y s1 s4 ∧ ∃ m', s4.heap.Ns env.locals m' ∧ J (k + 1) m' s4
        | .brk => W (model prog w) A (execs rest env) Q s4
        | .ret v => Q (.ret v) s4) s1)
    (done : ∀ wr m s2 s1, s1.heap.Ns env.locals m → J N m s2 → (∀ b ∈ wr, s.heap.get? b = none) → Ex wr s2 s1 → W (model prog w) A (execs rest env) Q s1)
    (hs1 : starEach [e1, e2, e3] env = (false, eval e1 env) :: starEach [e2, e3] env := by rfl) (hs2 : starEach [e2, e3] env = (false, eval e2 env) :: starEach [e3] env := by rfl) (hs3 : starEach [e3] env = (false, eval e3 env) :: starEach [] env := by rfl)
    (hpl : (backTo p2 (starEach [e2, e3] env)).any (·.1) = false := by rfl)
    (hk : env.scope.kind = .function := by rfl) (hx : env.kindOf x = some .local := by rfl) (hy : env.kindOf y = some .local := by rfl) (hz : env.kindOf z = some .local := by rfl)
    (hs : ∀ v, foldedSetIterable (.Call (.Name f fp) [e1, e2, e3] [] p2) env v = pure v := by intro _; rfl) :
    W (model prog w) A (execs (.For (.Tuple [.Name x px, .Name y py, .Name z pz] kt tp) (.Call (.Name f fp) [e1, e2, e3] [] p2) body [] pos :: rest) env) Q s := by
  refine w_cons (wpAny_For (Call_ (hf.use .refl fun v s1 hv hx1 _ => ?_)) hs)
  subst hv
  refine Pv.callWith_type1 (args_cons (h1.use hx1 fun v s2 hv hx2 _ => ?_) hs1) hs1 hpl
  subst hv
  refine args_cons (h2.use hx2 fun v s3 hv hx3 _ => ?_) hs2
  subst hv
  refine args_cons (h3.use hx3 fun v s4 hv hx4 _ => ?_) hs3
  subst hv
  refine args_nil (call_zip_3 (hx4.isList hl1 (by simp)) (hx4.isList hl2 (by simp)) (hx4.isList hl3 (by simp)) fun s5 hx5 Z => ?_)
  have a1 : l1 < s4.heap.objs.size := by obtain ⟨_, e, _⟩ := hx4.isList hl1 (by simp); exact Heap.lt_size e
  have a2 : l2 < s4.heap.objs.size := by obtain ⟨_, e, _⟩ := hx4.isList hl2 (by simp); exact Heap.lt_size e
  have a3 : l3 < s4.heap.objs.size := by obtain ⟨_, e, _⟩ := hx4.isList hl3 (by simp); exact Heap.lt_size e
  have fresh : ∀ b : Nat, s4.heap.objs.size ≤ b → s.heap.get? b = none := fun b hb => hx4.old0 (by
    cases e : s4.heap.get? b with
    | none => rfl
    | some o => exact absurd (Heap.lt_size e) (Nat.not_lt.mpr hb))
  generalize s4.heap.objs.size = n at *
  refine wpAny_pyIter_zip Z.z ?_
  have hwr : ∀ b ∈ zWr n, s.heap.get? b = none := by
    intro b hb
    simp at hb
    rcases hb with rfl | rfl | rfl | rfl | rfl
    all_goals exact fresh _ (by omega)
  have out : ∀ b : Nat, (∃ o, s.heap.get? b = some o) → b < n := fun b ⟨o, ho⟩ => by
    by_cases hb : b < n
    · exact hb
    · rw [fresh b (by omega)] at ho; cases ho
  have hLlt : @LT.lt Nat _ env.locals n := out _ (hY _ hL).1
  have hLw : env.locals ∉ (zWr n : List Nat) := by
    intro hm
    obtain ⟨o, ho⟩ := (hY _ hL).1
    rw [hwr _ hm] at ho; cases ho
  refine codeAny_forLoop_any (fun j s' => ∃ k, k ≤ N ∧ j = N + 1 - k ∧ Z3 s'.heap n l1 l2 l3 .none k xs.toArray ys.toArray zs.toArray ∧ ∃ m, s'.heap.Ns env.locals m ∧ J k m s') ?_ (N + 1) ⟨0, Nat.zero_le _, rfl, Z, h0 s5 (hx4.trans hx5)⟩
  rintro j s6 ⟨k, hkN, rfl, Z6, m, hn6, hJ⟩
  have zlt : n + 5 < s6.heap.objs.size := Heap.lt_size Z6.z
  by_cases hlt : k < N
  · obtain ⟨a, ha⟩ : ∃ a, xs[k]? = some a := ⟨_, List.getElem?_eq_getElem (by omega)⟩
    obtain ⟨b, hb⟩ : ∃ a, ys[k]? = some a := ⟨_, List.getElem?_eq_getElem (by omega)⟩
    obtain ⟨c, hc⟩ : ∃ a, zs[k]? = some a := ⟨_, List.getElem?_eq_getElem (by omega)⟩
    refine z3_pyNext a1 a2 a3 Z6 (by simpa using ha) (by simpa using hb) (by simpa using hc) fun g7 Z7 hT7 k7 => ?_
    refine wpAny_letOwnedTupleGo_zip Z7.z fun g8 hz8 e8 => ?_
    have Z8 : Z3 g8 n l1 l2 l3 .none (k + 1) xs.toArray ys.toArray zs.toArray := Z7.set a1 a2 a3 hz8 e8
    have hT8 : TriAt g8 s6.heap.objs.size a b c := e8.extBut _ _ (Nat.ne_of_gt zlt) hT7
    have x8 : Ex (zWr n) s6 { s6 with heap := g8 } := ⟨fun b o hb e => e8.extBut _ _ (fun h => hb (by rw [h]; simp)) (k7 b o hb e), fun x => x, rfl⟩
    refine assign_tup3 (m := m) hh hT8 (x8.ns hn6 hLw) (fun s9 e9 hn9 => ?_) hk hx hy hz
    have x9 : Ex (env.locals :: zWr n) s6 s9 := (x8.weak fun _ h => List.mem_cons_of_mem _ h).trans (e9.weak fun y hy => by rw [List.mem_singleton.mp hy]; exact List.mem_cons_self ..)
    refine (turn k a b c m (zWr n) s6 s9 hlt ha hb hc hJ hwr x9 hn9).upm fun f s10 h10 => ?_
    have hbig : ∀ b : Nat, (b = l1 ∨ b = l2 ∨ b = l3 ∨ (n ≤ b ∧ b ≤ n + 5)) → b ∉ Y := by
      intro b hb hm
      obtain ⟨ho, q1, q2, q3⟩ := hY b hm
      have := out b ho
      rcases hb with h | h | h | h
      · exact q1 h
      · exact q2 h
      · exact q3 h
      · omega
    have fin : (Ex Y s9 s10 ∧ ∃ m', s10.heap.Ns env.locals m' ∧ J (k + 1) m' s10) → ∃ j, j < N + 1 - k ∧ ∃ k, k ≤ N ∧ j = N + 1 - k ∧ Z3 s10.heap n l1 l2 l3 .none k xs.toArray ys.toArray zs.toArray ∧ ∃ m, s10.heap.Ns env.locals m ∧ J k m s10 := by
      rintro ⟨hx10, hm⟩
      refine ⟨N + 1 - (k + 1), by omega, k + 1, hlt, rfl, ?_, hm⟩
      refine Z8.frame fun b o hb e => hx10.keep b o (hbig b hb) (e9.keep b o (nmem1 fun h => hbig b hb (h ▸ hL)) e)
    cases f with
    | next => exact fin h10
    | cont => exact fin h10
    | brk => exact h10
    | ret v => exact h10
  · have : k = N := by omega
    subst this
    refine z3_pyEnd hh a1 Z6 (by simp; omega) fun g7 k7 => ?_
    have x7 : Ex (zWr n) s6 { s6 with heap := g7 } := ⟨fun b o hb e => k7 b o hb e, fun x => x, rfl⟩
    exact wpAny_execs_nil (done (zWr n) m s6 _ (x7.ns hn6 hLw) hJ hwr x7)
end Mine
end

section
open PySem PySem.W PyProof.Rows
set_option maxRecDepth 100000
set_option maxHeartbeats 1000000
set_option linter.unusedVariables false
namespace Mine
variable {α β : Type} {w : World} {M : Model} {prog : Program} {A : Around} {env : Env} {s s' : Shared} {E : Value → Shared → Prop}

noncomputable def argsOf : Stmt → Arguments
  | .FunctionDef _ a _ _ _ _ _ _ _ _ => a
  | _ => default
noncomputable def scopeOf : Stmt → Scope
  | .FunctionDef _ _ _ _ _ _ s _ _ _ => s
  | _ => default
noncomputable def fdLaw (pm cd doc : Value) : FuncData := Calls.docDef (Str.ofString "law") (argsOf (stm 12)) (bodyOf (stm 12)) (scopeOf (stm 12)) pm cd doc

/-- what the law holds behind its first six statements -/
structure LwS (wd tx fl nt : List Nat) (L tb : Addr) (tvs : List Value) (tw tt tf : Tok) (m : Str → Option Value) (h : Heap) : Prop where
  ns : h.Ns L m
  cw : h.IsCell (L + 1) (some (Tx wd tw))
  m1 : m "text" = some (Tx tx tt)
  m2 : m "filled" = some (Tx fl tf)
  m3 : m "table" = some (.ref tb)
  tl : h.IsList tb tvs.toArray
  ar : Are Nt nt tvs
  tab : Tab wd nt
  w0 : 0 < wd.length
  w6 : wd.length ≤ 6
  t6 : tx.length ≤ 8
  fill : ∃ ws : List Int, ws.length ≤ 4 ∧ fl = filledF wd tx ws

theorem lp_filled : glTab.lookup (Str.ofString "_law_filled") = some (.ref 136) := by decide +kernel
theorem peO_none {M : Model} {A : Around} {env : Env} {s : Shared} : PeO M A none env s none := trivial
theorem peO_some {M : Model} {A : Around} {env : Env} {s : Shared} {e : Expr} {n : Nat} (h : Pe M A (eval e env) s (It (n : Int))) : PeO M A (some e) env s (some n) := h
theorem cut_le_hi (l : List α) (lo hi : Nat) : (cut l (some lo) (some hi)).length ≤ hi - lo := by unfold cut; simp only [Option.getD_some, List.length_drop, List.length_take]; omega

theorem law1 {s0 : Shared} {pm cd doc : Value} {L a : Nat} {vs : List Value} {ns : List Int} {m0 : Str → Option Value} {Q : Flow → Shared → Prop} (f : Bg s0.heap) (x0 : Ex [] s0 s) (hL : s0.heap.get? L = none) (hL1 : s0.heap.get? (L + 1) = none)
    (hl : s0.heap.IsList a vs.toArray) (hv : Are It ns vs) (hlen : ns.length ≤ 63) (hn : s.heap.Ns L m0) (g0 : m0 "script" = some (.ref a)) (hc : s.heap.IsCell (L + 1) none) (hd : A.depth < 500) (hA : A.handled = none)
    (k : ∀ s' wd tx fl nt tb tvs tw tt tf m, Ex [] s0 s' → s0.heap.get? tb = none → LwS wd tx fl nt L tb tvs tw tt tf m s'.heap → W (model Pg w) A (execs ((bodyOf (stm 12)).drop 6) (callEnvC (fdLaw pm cd doc) L 148)) Q s') :
    W (model Pg w) A (execs (bodyOf (stm 12)) (callEnvC (fdLaw pm cd doc) L 148)) Q s := by
  have l1 : L + 1 ≠ L := Nat.succ_ne_self L
  have hvl : vs.length ≤ 63 := by rw [hv.len]; exact hlen
  have zv : vs.length ≤ sizeLine := Nat.le_trans hvl (by decide)
  have hl1 := x0.isList hl (by simp)
  have f1 := f.ex0 x0
  -- letters
  refine w_assign hn (pe_join (xss := (ns.take 6).map fun x => [97 + (x.fmod 26).toNat]) (R := fun ys => Are (fun j v => ∃ x, ns[j]? = some x ∧ St [97 + (x.fmod 26).toNat] v) (List.range (ns.take 6).length) ys) (pe_str (l := []) (by decide +kernel))
    (Pr.mono (pr_comp (n := (ns.take 6).length) (p := fun _ => true) (cl := []) (P := fun i v => vs[i]? = some v) (fx := []) (F := fun j v => ∃ x, ns[j]? = some x ∧ St [97 + (x.fmod 26).toNat] v)
      (B := fun j m => ∃ x t, ns[j]? = some x ∧ m "x" = some (.int x t)) ?_ ?_ ?_ rfl) (FreshL.mono fun ys h => ?_)) ?_ ?_) ?_
  · intro s5 hx5
    refine (it_fresh (pr_slice (lo := none) (hi := some 6) (pe_local (hx5.ns hn (by simp)) g0) (hx5.isList hl1 (by simp)) peO_none (peO_some pe_int) zv) ?_ hA).name
    rintro us rfl
    unfold cut
    refine ⟨by simp [hv.len], fun i v hi => ?_⟩
    simp only [Option.getD_some, Option.getD_none, List.drop_zero, List.getElem?_take] at hi
    split at hi
    · exact hi
    · cases hi
  · refine ⟨?_, ?_, ?_⟩
    · intro C j x s5 mC hj hP hC hx5 hnC E Q hq
      obtain ⟨y, hy, t, rfl⟩ := hv.get' hP
      exact wpAny_assign_Name (st_local hnC fun s2 hx2 hn2 => hq s2 _ hx2 hn2 ⟨y, t, hy, rfl⟩)
    · intro C j s5 mC hj hB hx5 hnC
      exact tests_nil
    · rintro C j s5 mC hj _ ⟨x, t, hx, hm⟩ hx5 hnC
      have b1 := Int.fmod_nonneg_of_pos x (b := (26 : Int)) (by omega)
      have b2 := Int.fmod_lt_of_pos x (b := (26 : Int)) (by omega)
      refine (pe_call1 (id := "chr") (R1 := It (97 + x.fmod 26)) (R := St [(97 + x.fmod 26).toNat]) (pe_bu (x := "chr") (v := .builtin "chr") (f1.ex0 hx5).bs.gl (by decide +kernel) (let ⟨mb, b1, b2⟩ := (f1.ex0 hx5).bs.gl.b; ⟨mb, b1, b2.2.2.2.2.2.1⟩)) (pe_add pe_int (pe_mod (by omega) (pe_locI hnC hm) pe_int)) ?_).mono ?_
      · rintro _ ⟨u, rfl⟩; exact call_chr (by omega) (by omega)
      · intro v hv'
        refine ⟨x, hx, ?_⟩
        rwa [show (97 + x.fmod 26).toNat = 97 + (x.fmod 26).toNat by omega] at hv'
  · rw [List.length_take]; exact Nat.le_trans (Nat.min_le_left _ _) (by decide)
  · rw [List.filter_eq_self.mpr (by simp)] at h; exact h
  · intro ys h
    refine ⟨by rw [h.len]; simp, fun i x v hx hv' => ?_⟩
    rw [List.getElem?_map] at hx
    have hi : i < (ns.take 6).length := by
      have := (List.getElem?_eq_some_iff.mp hv').1
      rw [h.len, List.length_range] at this
      exact this
    obtain ⟨y, hy, hs⟩ := h.at_ i i v (by rw [List.getElem?_range hi]) hv'
    have hi6 : i < 6 := by rw [List.length_take] at hi; omega
    rw [List.getElem?_take, if_pos hi6, hy] at hx
    cases hx; exact hs
  · have e : ∀ l : List Int, (l.map fun x => [97 + (x.fmod 26).toNat]).flatten.length = l.length := by
      intro l; rw [List.length_flatten, List.map_map]; induction l with
      | nil => rfl
      | cons a l ih => simp only [List.map_cons, List.sum_cons, ih, List.length_cons, Function.comp]; simp; omega
    rw [e, List.length_map, List.length_take]; omega
  rintro _ s2 ⟨t2, rfl⟩ hx2 hn2
  have hlet : ((ns.take 6).map fun x => [97 + (x.fmod 26).toNat]).flatten.length ≤ 6 := by
    have e : ∀ l : List Int, (l.map fun x => [97 + (x.fmod 26).toNat]).flatten.length = l.length := by
      intro l; rw [List.length_flatten, List.map_map]; induction l with
      | nil => rfl
      | cons a l ih => simp only [List.map_cons, List.sum_cons, ih, List.length_cons, Function.comp]; simp; omega
    rw [e, List.length_take]; omega
  generalize ((ns.take 6).map fun x => [97 + (x.fmod 26).toNat]).flatten = let_ at hlet hn2
  have zl : let_.length ≤ sizeLine := Nat.le_trans hlet (by decide)
  have x2 : Ex [] s0 s2 := x0.fr hx2 hL
  have hc2 := hx2.cell hc (nmem1 l1)
  -- short
  refine w_assign hn2 (pe_add_str (pe_slice_str (lo := none) (hi := some 3) (pe_locS (l := let_) hn2 rfl) peO_none (peO_some pe_int) zl) (pe_str (l := [97, 98]) (by decide +kernel)) ?_) ?_
  · have := cut_len let_ none (some 3); exact Nat.le_trans (show _ ≤ 8 by simp; omega) (by decide)
  rintro _ s3 ⟨t3, rfl⟩ hx3 hn3
  have hsh : 2 ≤ (cut let_ none (some 3) ++ [97, 98]).length ∧ (cut let_ none (some 3) ++ [97, 98]).length ≤ 5 := by
    have : (cut let_ none (some 3)).length ≤ 3 := by unfold cut; simp; omega
    simp; omega
  generalize cut let_ none (some 3) ++ [97, 98] = sh at hsh hn3
  obtain ⟨hs2, hs5⟩ := hsh
  have zs : sh.length ≤ sizeLine := Nat.le_trans hs5 (by decide)
  have x3 : Ex [] s0 s3 := x2.fr hx3 hL
  have f3 := f.ex0 x3
  have hc3 := hx3.cell hc2 (nmem1 l1)
  -- word
  refine w_assignK (c := L + 1) rfl (Pe.run (pe_ifexp (R := fun v => ∃ wd, 0 < wd.length ∧ wd.length ≤ 6 ∧ St wd v) (b := ((preSum (fun i => ns.getD i 0) vs.toArray.size).fmod 2 == 1)) (pe_test cmp_int_eq (pe_mod (by omega) (pe_call1 (id := "sum") (R1 := (· = .ref a)) (pe_bu (x := "sum") (v := .builtin "sum") f3.bs.gl (by decide +kernel) (let ⟨mb, b1, b2⟩ := f3.bs.gl.b; ⟨mb, b1, b2.2.2.2.2.1⟩)) (pe_local hn3 g0) ?_) pe_int) pe_int) ?_ ?_) ?_)
  · rintro _ rfl; exact call_sum_list (x3.isList hl (by simp)) hv hA
  · intro _
    refine (pe_slice_str (x := (List.replicate 3 sh).flatten) (lo := none) (hi := some 6) (pe_mul_str (n := 3) (pe_locS hn3 rfl) pe_int (by omega) (by omega)) peO_none (peO_some pe_int) ?_).mono fun v hv' => ⟨_, ?_, ?_, hv'⟩
    · rw [len_flat]; exact Nat.le_trans (show _ ≤ 15 by omega) (by decide)
    · unfold cut; simp only [Option.getD_some, Option.getD_none, List.drop_zero, List.length_take, len_flat]; omega
    · unfold cut; simp only [Option.getD_some, Option.getD_none, List.drop_zero, List.length_take, len_flat]; omega
  · intro _
    exact (pe_locS (l := sh) hn3 rfl).mono fun v hv' => ⟨sh, by omega, by omega, hv'⟩
  rintro _ s4 ⟨wd, hw0, hw6, tw, rfl⟩ hx4
  refine ⟨none, hx4.cell hc3 (by simp), fun s5 hx5 hc5 => ?_⟩
  have x5 : Ex [] s0 s5 := (x3.trans hx4).fr hx5 hL1
  have hn5 := hx5.ns (hx4.ns hn3 (by simp)) (nmem1 l1.symm)
  have f5 := f.ex0 x5
  -- text
  refine w_assign hn5 (pe_add_str (pe_slice_str (lo := some 3) (hi := none) (pe_locS (l := let_) hn5 rfl) pe_int peO_none zl) (pe_str (l := [98, 97]) (by decide +kernel)) ?_) ?_
  · have := cut_len let_ (some 3) none; exact Nat.le_trans (show _ ≤ 8 by simp; omega) (by decide)
  rintro _ s6 ⟨t6, rfl⟩ hx6 hn6
  have htx : (cut let_ (some 3) none ++ [98, 97]).length ≤ 8 := by have := cut_len let_ (some 3) none; simp; omega
  generalize cut let_ (some 3) none ++ [98, 97] = tx at htx hn6
  have x6 : Ex [] s0 s6 := x5.fr hx6 hL
  have f6 := f.ex0 x6
  have hc6 := hx6.cell hc5 (nmem1 l1)
  -- filled
  refine w_assignE (w_callF' (pe_gl f6.bs.gl lp_filled) f6.bs.filled fun s7 hx7 => w_args_cons ((pe_cellS (hx7.cell hc6 (by simp))).run ?_))
  rintro _ s8 ⟨t8, rfl⟩ hx8
  refine w_args_cons ((pe_locS (l := tx) ((hx7.trans hx8).ns hn6 (by simp)) rfl).run ?_)
  rintro _ s9 ⟨t9, rfl⟩ hx9
  have x79 := (hx7.trans hx8).trans hx9
  refine w_args_cons (Pr.run (pr_add_list (pr_slice (lo := some 6) (hi := some 8) (pe_local (x79.ns hn6 (by simp)) g0) ((x6.trans x79).isList hl (by simp)) pe_int pe_int zv) (R2 := fun us => ∃ t1 t2, us = [.int 1 t1, .int 4 t2]) ((pr_list (peL_cons pe_int (peL_cons pe_int peL_nil)) ?_).mono (FreshL.mono ?_)) ?_) ?_)
  · rintro us ⟨_, _, rfl, _, _, _, rfl, _, rfl⟩; exact (show 2 ≤ sizeLine by decide)
  · rintro us ⟨_, _, rfl, ⟨t1, rfl⟩, _, _, rfl, ⟨t2, rfl⟩, rfl⟩; exact ⟨t1, t2, rfl⟩
  · rintro us us' rfl ⟨t1, t2, rfl⟩
    have := cut_le_hi vs 6 8
    exact Nat.le_trans (show _ ≤ 4 by simp; omega) (by decide)
  rintro _ s10 ⟨la, us, rfl, hfr, hla, us1, us2, rfl, ⟨t1, t4, rfl⟩, rfl⟩ hx10
  refine w_args_nil ⟨(hx8.trans hx9).trans hx10, ?_⟩
  have x10 := (x6.trans x79).trans hx10
  have f10 := f.ex0 x10
  have hws : (cut ns (some 6) (some 8) ++ [1, 4]).length ≤ 4 := by have := cut_le_hi ns 6 8; simp; omega
  refine (filled_walk (A := A) (w := w) f10.bs wd tx t8 t9 la _ (cut ns (some 6) (some 8) ++ [1, 4]) hla.isList ((hv.cut (some 6) (some 8)).append (.cons ⟨_, rfl⟩ (.one ⟨_, rfl⟩))) (by omega) (by omega) (by omega) (by omega) hA).mono ?_
  rintro _ s11 ⟨hx11, tf, rfl⟩
  have x611 := (x79.trans hx10).trans hx11
  refine ⟨_, x611.ns hn6 (by simp), fun s12 hx12 hn12 => ?_⟩
  generalize hfl : filledF wd tx (cut ns (some 6) (some 8) ++ [1, 4]) = fl at hn12
  have x12 : Ex [] s0 s12 := (x6.trans x611).fr hx12 hL
  have f12 := f.ex0 x12
  have hc12 := hx12.cell (x611.cell hc6 (by simp)) (nmem1 l1)
  -- table
  refine w_assignE (w_callF (pe_gl f12.bs.gl lp_tab) f12.bs.tab (peL_cons (pe_cellS hc12) peL_nil) ?_)
  rintro _ s13 ⟨_, _, rfl, ⟨t13, rfl⟩, rfl⟩ hx13
  refine (tab_walk (f12.ex0 hx13).bs wd t13 (by omega) hw0 (by omega) hA).mono ?_
  rintro _ s14 ⟨hx14, tb, tvs, nt, rfl, hfrT, htb, htvs, htab⟩
  have x1214 := hx13.trans hx14
  refine ⟨_, x1214.ns hn12 (by simp), fun s15 hx15 hn15 => ?_⟩
  have x15 : Ex [] s0 s15 := (x12.trans x1214).fr hx15 hL
  have ntb : tb ≠ L := fun e => by
    obtain ⟨o, _, _, ho, _⟩ := hx13.ns hn12 (by simp)
    have ho : s13.heap.get? L = some o := ho
    rw [e] at hfrT; rw [hfrT] at ho; cases ho
  exact k s15 wd tx fl nt tb tvs _ _ _ _ x15 ((x12.trans hx13).old0 hfrT) ⟨hn15, hx15.cell (x1214.cell hc12 (by simp)) (nmem1 l1), rfl, rfl, rfl, hx15.isList htb (nmem1 ntb), htvs, htab, hw0, hw6, htx, _, hws, hfl.symm⟩
end Mine
end

section
open PySem PySem.W PyProof.Rows
set_option maxRecDepth 100000
set_option maxHeartbeats 1000000
set_option linter.unusedVariables false
namespace Mine
variable {α β : Type} {w : World} {M : Model} {prog : Program} {A : Around} {env : Env} {s s' : Shared} {E : Value → Shared → Prop}

theorem LwS.ne {wd tx fl nt L tb tvs tw tt tf m} {h : Heap} (T : LwS wd tx fl nt L tb tvs tw tt tf m h) : tb ≠ L := by
  rintro rfl
  obtain ⟨o, es, ep, ho, hd, _⟩ := T.ns
  obtain ⟨o2, ho2, _, n, hd2⟩ := T.tl
  rw [ho] at ho2; cases ho2
  rw [hd] at hd2; cases hd2
theorem LwS.ex0 {wd tx fl nt L tb tvs tw tt tf m} (T : LwS wd tx fl nt L tb tvs tw tt tf m s.heap) (hx : Ex [] s s') : LwS wd tx fl nt L tb tvs tw tt tf m s'.heap :=
  { T with ns := hx.ns T.ns (by simp), cw := hx.cell T.cw (by simp), tl := hx.isList T.tl (by simp) }
theorem LwS.upd {wd tx fl nt tb tvs tw tt tf m} {L : Nat} {x : Str} {v : Value} (T : LwS wd tx fl nt L tb tvs tw tt tf m s.heap) (hx : Ex [L] s s') (hn : s'.heap.Ns L (Mine.upd m x v)) (h1 : (Str.ofString "text" : Str) ≠ x := by decide) (h2 : (Str.ofString "filled" : Str) ≠ x := by decide) (h3 : (Str.ofString "table" : Str) ≠ x := by decide) :
    LwS wd tx fl nt L tb tvs tw tt tf (Mine.upd m x v) s'.heap :=
  { T with ns := hn, cw := hx.cell T.cw (nmem1 (Nat.succ_ne_self L)), tl := hx.isList T.tl (nmem1 T.ne),
           m1 := by show (if _ = _ then _ else _) = _; rw [if_neg h1]; exact T.m1
           m2 := by show (if _ = _ then _ else _) = _; rw [if_neg h2]; exact T.m2
           m3 := by show (if _ = _ then _ else _) = _; rw [if_neg h3]; exact T.m3 }

theorem bu_ty {x : Str} {T : String} {p : Pos} (g : Gl s.heap) (hx : glTab.lookup x = none) (hb : ∃ mb, s.heap.Ns 0 mb ∧ mb x = some (.type T)) (hg : env.globals = 3 := by rfl) (hbu : env.builtins = 0 := by rfl) (hk : env.scope.kind = .function := by rfl) (hl : env.kindOf x = some .globalImplicit := by rfl)
    (hd : (x == ("__debug__" : Str)) = false := by decide) : Pe M A (eval (.Name x p) env) s (· = .type T) := pe_bu g hx hb hg hbu hk hl hd
theorem bu_isi {p : Pos} (g : Gl s.heap) (hg : env.globals = 3 := by rfl) (hb : env.builtins = 0 := by rfl) (hk : env.scope.kind = .function := by rfl) (hl : env.kindOf "isinstance" = some .globalImplicit := by rfl) :
    Pe M A (eval (.Name "isinstance" p) env) s (· = .builtin "isinstance") := pe_bu g (by decide +kernel) (let ⟨mb, b1, b2⟩ := g.b; ⟨mb, b1, b2.2.2.2.2.2.2.1⟩) hg hb hk hl

/-- not isinstance(table, list) or [..] != [] -/
theorem law_isi {wd tx fl nt tb tvs tw tt tf m} {L : Nat} {pm cd doc : Value} {Q : Flow → Shared → Prop} (f : Bg s.heap) (T : LwS wd tx fl nt L tb tvs tw tt tf m s.heap) (hA : A.handled = none) (hu : A.units < 9000)
    (k : ∀ s', Ex [] s s' → W (model Pg w) A (execs ((bodyOf (stm 12)).drop 7) (callEnvC (fdLaw pm cd doc) L 148)) Q s') :
    W (model Pg w) A (execs ((bodyOf (stm 12)).drop 6) (callEnvC (fdLaw pm cd doc) L 148)) Q s := by
  have htl : tvs.length ≤ 6 := by rw [T.ar.len, T.tab.len]; exact T.w6
  refine w_if (b := (false || false)) (pe_or (b := false) (c := false) (pe_not (b := true) (pe_true (pe_call2 (R1 := (· = .ref tb)) (R2 := (· = .type "list")) (bu_isi f.bs.gl) (pe_local T.ns T.m3) (bu_ty f.bs.gl (by decide +kernel) (let ⟨mb, b1, b2⟩ := f.bs.gl.b; ⟨mb, b1, b2.2.2.2.2.2.2.2.1⟩)) ?_))) fun _ => ?_) ?_ ?_
  · rintro _ _ rfl rfl; exact isi_list T.tl
  · intro s1 hx1 E
    refine wpAny_isTrue_Compare1 (Pr.use (pr_comp (n := tvs.length) (p := fun _ => false) (cl := []) (P := fun i v => tvs[i]? = some v) (fx := [tb]) (F := fun _ _ => True) (B := fun j m => ∃ x t, m "x" = some (.int x t)) ?_ ?_ (Nat.le_trans htl (by decide)) rfl) hx1 fun v s2 hR hx2 a2 => ?_)
    · intro s' hx'
      exact (it_list (pe_local (hx'.ns T.ns (by simp)) T.m3) (hx'.isList T.tl (by simp)) hA).name
    · refine ⟨?_, ?_, ?_⟩
      · intro C j x s5 mC hj hP hC hx5 hnC E Q hq
        obtain ⟨y, hy, t, rfl⟩ := T.ar.get' hP
        exact wpAny_assign_Name (st_local hnC fun s2 hx2 hn2 => hq s2 _ hx2 hn2 ⟨_, t, rfl⟩)
      · rintro C j s5 mC hj ⟨x, t, hm⟩ hx5 hnC
        have f5 := f.ex0 hx5
        refine tests_one (b := (false || false)) (pe_or (b := false) (c := false) (pe_true (pe_call2 (R1 := It x) (R2 := (· = .type "bool")) (bu_isi f5.bs.gl) (pe_locI hnC hm) (bu_ty f5.bs.gl (by decide +kernel) (let ⟨mb, b1, b2⟩ := f5.bs.gl.b; ⟨mb, b1, b2.2.2.2.2.2.2.2.2.2.1⟩)) ?_))
          fun _ => pe_not (b := true) (pe_true (pe_call2 (R1 := It x) (R2 := (· = .type "int")) (bu_isi f5.bs.gl) (pe_locI hnC hm) (bu_ty f5.bs.gl (by decide +kernel) (let ⟨mb, b1, b2⟩ := f5.bs.gl.b; ⟨mb, b1, b2.2.2.2.2.2.2.2.2.1⟩)) ?_)))
        · rintro _ _ ⟨u, rfl⟩ rfl; exact isi_bool
        · rintro _ _ ⟨u, rfl⟩ rfl; exact isi_int
      · intro C j s5 mC hj hp; cases hp
    obtain ⟨D, ys, rfl, hfr, hD, hys⟩ := hR
    have hy0 : ys = [] := List.length_eq_zero_iff.mp (by rw [hys.len, List.filter_eq_nil_iff.mpr (by simp)]; rfl)
    subst hy0
    refine Pr.use (pr_list peL_nil (fun vs h => by rw [h]; exact Nat.zero_le _)) (R := FreshL (· = [])) hx2 fun v s3 hR hx3 a3 => ?_
    obtain ⟨D2, us, rfl, hfr2, hD2, rfl⟩ := hR
    refine PySem.SeqAt.RcNeAt.lists (A := A) (e := fun _ => true) (a3.plainList hD (by simp)).isList hD2.isList rfl (by simp only [cLine]; omega) (fun j h1 h2 => absurd h1 (by simp)) Pg w _ _ ?_
    exact wpAny_truthy_bool ⟨a2.trans a3, rfl⟩
  · intro hb; cases hb
  · intro _ s1 hx1
    exact w_nil (k s1 hx1)
end Mine
end

section
open PySem PySem.W PyProof.Rows
set_option maxRecDepth 100000
set_option maxHeartbeats 1000000
set_option linter.unusedVariables false
namespace Mine
variable {α β : Type} {w : World} {M : Model} {prog : Program} {A : Around} {env : Env} {s s' : Shared} {E : Value → Shared → Prop}

theorem lp_root : glTab.lookup (Str.ofString "_law_root") = some (.ref 143) := by decide +kernel

theorem cut_to {l : List α} {k : Nat} : cut l none (some k) = l.take k := by unfold cut; simp
theorem cut_from {l : List α} {k : Nat} : cut l (some k) none = l.drop k := by unfold cut; simp
noncomputable def lapB (p : List Nat) (k : Nat) : Bool := (cut p none (some k) == cut p (some (p.length - k)) none) && (cut p (some k) none != cut p none (some (p.length - k)))
theorem lapB_iff {p : List Nat} {j : Nat} (hj : j < p.length - 1) : lapB p (1 + j) = true ↔ Lap p (1 + j) := by
  unfold lapB Lap
  rw [Bool.and_eq_true, beq_iff_eq, bne_iff_ne, cut_to, cut_from, cut_from, cut_to]
  constructor
  · rintro ⟨h1, h2⟩; exact ⟨by omega, by omega, h1, h2⟩
  · rintro ⟨_, _, h1, h2⟩; exact ⟨h1, h2⟩

theorem law_lap {wd tx fl nt tb tvs tw tt tf m} {L : Nat} {pm cd doc : Value} {Q : Flow → Shared → Prop} (f : Bg s.heap) (T : LwS wd tx fl nt L tb tvs tw tt tf m s.heap) (hA : A.handled = none) (hd : A.depth < 500)
    (k : ∀ s' lap tl, Ex [L] s s' → lap < wd.length → (lap = 0 ∨ Lap wd lap) → (∀ k, Lap wd k → k ≤ lap) → LwS wd tx fl nt L tb tvs tw tt tf (upd m "lap" (.int (lap : Int) tl)) s'.heap → W (model Pg w) A (execs ((bodyOf (stm 12)).drop 8) (callEnvC (fdLaw pm cd doc) L 148)) Q s') :
    W (model Pg w) A (execs ((bodyOf (stm 12)).drop 7) (callEnvC (fdLaw pm cd doc) L 148)) Q s := by
  obtain ⟨hlast, hroot, hlap0, hlapm, hlapn⟩ := lap_max T.w0 T.tab
  have htl : tvs.length = wd.length := by rw [T.ar.len, T.tab.len]
  have hnl : nt.length = wd.length := T.tab.len
  have w6 := T.w6
  have hget : ∀ i, i < wd.length → ∃ v t, tvs[i]? = some v ∧ v = .int ((nt.getD i 0 : Nat) : Int) t := by
    intro i hi
    obtain ⟨v, h1, t, h2⟩ := T.ar.get (i := i) (x := nt.getD i 0) (by rw [List.getD_eq_getElem?_getD, List.getElem?_eq_getElem (by omega)]; rfl)
    exact ⟨v, t, h1, h2⟩
  obtain ⟨v1, t1, e1, rfl⟩ := hget (wd.length - 1) (by have := T.w0; omega)
  obtain ⟨v2, t2, e2, rfl⟩ := hget _ hroot
  have hr1 : 1 ≤ rootF wd.length (nt.getD (wd.length - 1) 0) := by
    have := T.w0
    unfold rootF; split <;> omega
  generalize nt.getD (wd.length - 1) 0 = last at *
  generalize hlp : nt.getD (rootF wd.length last - 1) 0 = lap at *
  refine w_assign T.ns (pe_item (k := rootF wd.length last - 1) (pe_local T.ns T.m3) T.tl ((pe_sub (pe_callF (R := fun us => us = [.ref tb]) (R' := It ((rootF wd.length last : Nat) : Int)) (pe_gl f.bs.gl lp_root) f.bs.root ((peL_cons (pe_local T.ns T.m3) peL_nil).mono ?_) ?_) pe_int).mono ?_) e2 (by omega)) ?_
  · rintro us ⟨_, _, rfl, rfl, rfl⟩; rfl
  · rintro us s1 rfl hx1
    exact root_walk (f.ex0 hx1).bs tb tvs wd.length last t1 (hx1.isList T.tl (by simp)) htl (by omega) hlast e1 (by omega)
  · rintro v ⟨u, rfl⟩; exact ⟨u, by congr 1; omega⟩
  rintro _ s1 rfl hx1 hn1
  exact k s1 lap t2 hx1 hlapn hlap0 hlapm (T.upd hx1 hn1)

theorem law_laps {wd tx fl nt tb tvs tw tt tf m lap tl} {L : Nat} {pm cd doc : Value} {Q : Flow → Shared → Prop} (f : Bg s.heap) (wL : Wild2 L) (T : LwS wd tx fl nt L tb tvs tw tt tf m s.heap) (hA : A.handled = none) (hd : A.depth < 500)
    (g1 : m "lap" = some (.int ((lap : Nat) : Int) tl)) (hlap0 : lap = 0 ∨ Lap wd lap) (hlapm : ∀ k, Lap wd k → k ≤ lap)
    (k : ∀ s' m', Ex [L] s s' → m' "lap" = some (.int ((lap : Nat) : Int) tl) → LwS wd tx fl nt L tb tvs tw tt tf m' s'.heap → W (model Pg w) A (execs ((bodyOf (stm 12)).drop 10) (callEnvC (fdLaw pm cd doc) L 148)) Q s') :
    W (model Pg w) A (execs ((bodyOf (stm 12)).drop 8) (callEnvC (fdLaw pm cd doc) L 148)) Q s := by
  have w6 := T.w6
  have zw : wd.length ≤ sizeLine := Nat.le_trans w6 (by decide)
  refine w_assignC (cl := [("word", L + 1)]) (n := wd.length - 1) (p := fun j => lapB wd (1 + j)) (F := fun j v => Nt (1 + j) v) (B := fun j m => ∃ t, m "k" = some (.int ((1 + j : Nat) : Int) t)) T.ns
    (it_range2 (a := 1) (b := wd.length) (pe_range f.bs.gl) pe_int (pe_len_str (pe_len f.bs.gl) (pe_cellS T.cw) zw) (by omega) (by omega) hA).name ⟨?_, ?_, ?_⟩ (Nat.le_trans (Nat.sub_le _ _) zw) rfl ?_
  · rintro C j v s1 mC hj ⟨t, rfl⟩ hC hx1 hnC E Q hq
    exact wpAny_assign_Name (st_local hnC fun s2 hx2 hn2 => hq s2 _ hx2 hn2 ⟨t, rfl⟩)
  · rintro C j s1 mC hj ⟨t, hm⟩ hx1 hnC
    have f1 := f.ex0 hx1
    have cw1 := hx1.cell T.cw (by simp)
    refine tests_one (pe_and (b := cut wd none (some (1 + j)) == cut wd (some (wd.length - (1 + j))) none) (c := cut wd (some (1 + j)) none != cut wd none (some (wd.length - (1 + j)))) (pe_test cmp_str_eq (pe_slice_str (lo := none) (hi := some (1 + j)) (pe_cellS cw1) peO_none (peO_some (pe_locI hnC hm)) zw)
      (pe_slice_str (lo := some (wd.length - (1 + j))) (hi := none) (pe_cellS cw1) (peO_some ((pe_sub (pe_len_str (pe_len f1.bs.gl) (pe_cellS cw1) zw) (pe_locI hnC hm)).mono ?_)) peO_none zw))
      fun _ => pe_test cmp_str_ne (pe_slice_str (lo := some (1 + j)) (hi := none) (pe_cellS cw1) (peO_some (pe_locI hnC hm)) peO_none zw)
      (pe_slice_str (lo := none) (hi := some (wd.length - (1 + j))) (pe_cellS cw1) peO_none (peO_some ((pe_sub (pe_len_str (pe_len f1.bs.gl) (pe_cellS cw1) zw) (pe_locI hnC hm)).mono ?_)) zw))
    · rintro v ⟨u, rfl⟩; exact ⟨u, by congr 1; omega⟩
    · rintro v ⟨u, rfl⟩; exact ⟨u, by congr 1; omega⟩
  · rintro C j s1 mC hj _ ⟨t, hm⟩ hx1 hnC
    exact pe_locI hnC hm
  intro D ys s2 hfr hx2 hD hys hn2
  have T2 := T.upd hx2 hn2
  have hys2 : Are It (((List.range (wd.length - 1)).filter fun j => lapB wd (1 + j)).map fun j => ((1 + j : Nat) : Int)) ys :=
    ⟨by rw [hys.len, List.length_map], fun i x v hx hv => by
      rw [List.getElem?_map] at hx
      cases e : ((List.range (wd.length - 1)).filter fun j => lapB wd (1 + j))[i]? with
      | none => rw [e] at hx; cases hx
      | some j => rw [e] at hx; cases hx; exact hys.at_ i j v e hv⟩
  generalize hns : (((List.range (wd.length - 1)).filter fun j => lapB wd (1 + j)).map fun j => ((1 + j : Nat) : Int)) = ls at hys2
  have hmem : ∀ x : Int, x ∈ ls ↔ ∃ j, j < wd.length - 1 ∧ Lap wd (1 + j) ∧ x = ((1 + j : Nat) : Int) := by
    intro x
    rw [← hns, List.mem_map]
    constructor
    · rintro ⟨j, hj, rfl⟩
      obtain ⟨h1, h2⟩ := List.mem_filter.mp hj
      have h1 := List.mem_range.mp h1
      exact ⟨j, h1, (lapB_iff h1).mp h2, rfl⟩
    · rintro ⟨j, h1, h2, rfl⟩
      exact ⟨j, List.mem_filter.mpr ⟨List.mem_range.mpr h1, (lapB_iff h1).mpr h2⟩, rfl⟩
  have hmax : ∀ mx, IsMax (0 :: ls) mx → mx = (lap : Int) := by
    rintro mx ⟨h1, h2⟩
    have hup : mx ≤ (lap : Int) := by
      rcases List.mem_cons.mp h1 with rfl | h1
      · omega
      · obtain ⟨j, hj, hl, rfl⟩ := (hmem _).mp h1
        have := hlapm _ hl
        omega
    have hlo : (lap : Int) ≤ mx := by
      rcases hlap0 with rfl | hl
      · exact h2 0 (List.mem_cons_self ..)
      · have h3 := hl.1
        have h4 := hl.2.1
        refine h2 _ (List.mem_cons_of_mem _ ((hmem _).mpr ⟨lap - 1, by omega, ?_, by congr 1; omega⟩))
        rw [show 1 + (lap - 1) = lap by omega]; exact hl
    omega
  have hysl : ys.length ≤ 6 := by
    rw [hys.len]
    have h1 : ((List.range (wd.length - 1)).filter fun j => lapB wd (1 + j)).length ≤ (List.range (wd.length - 1)).length := List.length_filter_le _ _
    rw [List.length_range] at h1
    omega
  have gl2 : upd m "laps" (.ref D) "lap" = some (.int ((lap : Nat) : Int) tl) := g1
  refine w_if (b := false) ?_ (fun hb => by cases hb) fun _ s3 hx3 => w_nil (k s3 _ (hx2.step0 hx3) gl2 (T2.ex0 hx3))
  intro s4 hx4 E
  have f2 : Bg s2.heap := f.ex hx2 fun x hx => by rw [List.mem_singleton.mp hx]; exact wL
  refine wpAny_isTrue_Compare1 ((pe_local T2.ns gl2).use hx4 fun a s5 ha hx5 a5 => ?_)
  subst ha
  refine Call_ ((bu_max (x := f2.bs.gl)).use hx5 fun v s6 hv hx6 a6 => ?_)
  subst hv
  refine callWith_builtin1 (rest := []) (args_cons (rest := []) (Pr.use (pr_add_list' (R1 := fun us => ∃ v, us = [v] ∧ It 0 v) ((pr_list (peL_cons pe_int peL_nil) ?_).mono (FreshL.mono ?_)) (pe_local T2.ns rfl) hD ?_) hx6 fun v s7 hR hx7 a7 => args_nil ?_)) rfl
  · rintro vs ⟨v, us, rfl, _, rfl⟩; exact (show 1 ≤ sizeLine by decide)
  · rintro vs ⟨v, us, rfl, hv, rfl⟩; exact ⟨v, rfl, hv⟩
  · rintro vs ⟨v, rfl, _⟩; exact Nat.le_trans (show _ ≤ 7 by simp; omega) (by decide)
  obtain ⟨la, us, rfl, hfr2, hla, _, ⟨v0, rfl, hv0⟩, rfl⟩ := hR
  refine (call_max_list (ns := 0 :: ls) hla.isList (.cons hv0 hys2) (Nat.zero_lt_succ _) hA).use .refl fun v s8 hm hx8 a8 => ?_
  obtain ⟨mx, hm, t, rfl⟩ := hm
  rw [hmax mx hm]
  exact P.ne_int (wpAny_truthy_bool ⟨((a5.trans a6).trans a7).trans a8, by simp⟩)
end Mine
end

section
open PySem PySem.W PyProof.Rows
set_option maxRecDepth 100000
set_option maxHeartbeats 1000000
set_option linter.unusedVariables false
namespace Mine
variable {α β : Type} {w : World} {M : Model} {prog : Program} {A : Around} {env : Env} {s s' : Shared} {E : Value → Shared → Prop}

theorem lp_plain : glTab.lookup (Str.ofString "_law_plain_rest") = some (.ref 124) := by decide +kernel

/-- what the last loop has to hand -/
structure LwF (wd : List Nat) (rows fs bs : List (List Nat)) (L rw fr bk : Addr) (rvs fvs bvs : List Value) (tw : Tok) (m : Str → Option Value) (h : Heap) : Prop where
  ns : h.Ns L m
  cw : h.IsCell (L + 1) (some (Tx wd tw))
  g1 : m "rows" = some (.ref rw)
  g2 : m "front" = some (.ref fr)
  g3 : m "back" = some (.ref bk)
  rl : h.PlainList rw rvs.toArray
  fl : h.PlainList fr fvs.toArray
  bl : h.PlainList bk bvs.toArray
  ra : Are St rows rvs
  fa : Are St fs fvs
  ba : Are St bs bvs
  rn : rows.length = 3
  fn : fs.length = 3
  bn : bs.length = 3
  w0 : 0 < wd.length
  w6 : wd.length ≤ 6
  rsz : ∀ r ∈ rows, r.length ≤ 100
  ok : ∀ (i : Nat) r a b, rows[i]? = some r → fs[i]? = some a → bs[i]? = some b → stackF wd r = a ∧ stackF wd.reverse r.reverse = b

/-! what must come out -/
theorem ok_zero {wd tx fl rest : List Nat} {ws : List Int} (hp : 0 < wd.length) (hl : ∀ k, Lap wd k → k ≤ 0) (hfl : fl = filledF wd tx ws) (hr : Plain wd tx 0 rest) :
    ∀ (i : Nat) r a b, [tx, fl, wd.take (wd.length - 0) ++ wd][i]? = some r → [rest, rest, []][i]? = some a → [rest.reverse, rest.reverse, []][i]? = some b → stackF wd r = a ∧ stackF wd.reverse r.reverse = b := by
  have hI := instep_of hl
  have e1 := plain_stack0 hp hr
  have r1 : Reds wd tx rest := e1 ▸ stack_reds hp tx
  have n1 : NF wd rest := e1 ▸ stack_nf hp tx
  intro i r a b h1 h2 h3
  match i with
  | 0 => cases h1; cases h2; cases h3; exact back_rest hp hI r1 n1
  | 1 => cases h1; cases h2; cases h3; exact back_rest hp hI (hfl ▸ (filled_reds wd ws tx).trans r1) n1
  | 2 =>
    cases h1; cases h2; cases h3
    exact ⟨by rw [row3_front hp hp (by simp)]; simp, by rw [row3_back hp]; simp⟩
  | i + 3 => cases h1
theorem ok_lap {wd tx fl rest r2 q1 q2 : List Nat} {lap : Nat} (hp : 0 < wd.length) (hl : Lap wd lap) (hr : Plain wd tx 0 rest) (hr2 : Plain wd fl 0 r2) (h1 : Plain wd.reverse tx.reverse 0 q1) (h2 : Plain wd.reverse fl.reverse 0 q2) :
    ∀ (i : Nat) r a b, [tx, fl, wd.take (wd.length - lap) ++ wd][i]? = some r → [rest, r2, wd.drop lap][i]? = some a → [q1, q2, (wd.take (wd.length - lap)).reverse][i]? = some b → stackF wd r = a ∧ stackF wd.reverse r.reverse = b := by
  have hp' : 0 < wd.reverse.length := by simpa using hp
  obtain ⟨l1, l2, l3, _⟩ := hl
  have l0 : ¬ lap = 0 := by omega
  intro i r a b e1 e2 e3
  match i with
  | 0 => cases e1; cases e2; cases e3; exact ⟨plain_stack0 hp hr, plain_stack0 hp' h1⟩
  | 1 => cases e1; cases e2; cases e3; exact ⟨plain_stack0 hp hr2, plain_stack0 hp' h2⟩
  | 2 =>
    cases e1; cases e2; cases e3
    exact ⟨by rw [row3_front hp l2 l3, if_neg l0], by rw [row3_back hp, if_neg l0]⟩
  | i + 3 => cases e1

theorem are3 {xs : List (List Nat)} {a b c : List Nat} {u v x : Value} (h : xs = [a, b, c]) (h1 : St a u) (h2 : St b v) (h3 : St c x) : Are St xs [u, v, x] := h ▸ .cons h1 (.cons h2 (.one h3))

theorem pe_plain {fp p : Pos} {e1 e2 : Expr} {wd tx : List Nat} (f : Bg s.heap) (hd : A.depth < 500) (hg : env.globals = 3 := by rfl) (h1 : Pe (model Pg w) A (eval e1 env) s (St wd)) (h2 : Pe (model Pg w) A (eval e2 env) s (St tx)) (hw : wd.length ≤ 100) (hw0 : 0 < wd.length) (ht : tx.length ≤ 100)
    (hk : env.scope.kind = .function := by rfl) (hl : env.kindOf "_law_plain_rest" = some .globalImplicit := by rfl)
    (hs : starEach [e1, e2] env = (false, eval e1 env) :: starEach [e2] env := by rfl) (hs2 : starEach [e2] env = (false, eval e2 env) :: starEach [] env := by rfl) :
    Pe (model Pg w) A (eval (.Call (.Name "_law_plain_rest" fp) [e1, e2] [] p) env) s (fun v => ∃ r, St r v ∧ Plain wd tx 0 r) := by
  refine pe_callF (R := fun us => ∃ t1 t2, us = [Tx wd t1, Tx tx t2]) (pe_gl f.bs.gl lp_plain hg hk hl) f.bs.plain ((peL_cons h1 (peL_cons h2 peL_nil hs2) hs).mono ?_) ?_ hs
  · rintro us ⟨_, _, rfl, ⟨t1, rfl⟩, _, _, rfl, ⟨t2, rfl⟩, rfl⟩; exact ⟨t1, t2, rfl⟩
  · rintro us s1 ⟨t1, t2, rfl⟩ hx1
    exact (plain_walk (f.ex0 hx1).bs wd tx t1 t2 hw hw0 ht (by omega))
end Mine
end

section
open PySem PySem.W PyProof.Rows
set_option maxRecDepth 100000
set_option maxHeartbeats 1000000
set_option linter.unusedVariables false
namespace Mine
variable {α β : Type} {w : World} {M : Model} {prog : Program} {A : Around} {env : Env} {s s' : Shared} {E : Value → Shared → Prop}

theorem fr_ne {L a : Addr} {m} {s0 s1 : Shared} (hn : s0.heap.Ns L m) (hf : s0.heap.get? a = none) : a ≠ L := by
  rintro rfl
  obtain ⟨o, _, _, ho, _⟩ := hn
  rw [hf] at ho; cases ho

theorem law_rows {wd tx fl nt tb tvs tw tt tf m lap tl} {L : Nat} {pm cd doc : Value} {Q : Flow → Shared → Prop} (f : Bg s.heap) (wL : Wild2 L) (T : LwS wd tx fl nt L tb tvs tw tt tf m s.heap) (hA : A.handled = none) (hd : A.depth < 500)
    (g1 : m "lap" = some (.int ((lap : Nat) : Int) tl)) (hlap0 : lap = 0 ∨ Lap wd lap) (hlapm : ∀ k, Lap wd k → k ≤ lap) (hlapn : lap < wd.length)
    (k : ∀ s' m' rows fs bs rw fr bk rvs fvs bvs, Ex [L] s s' → LwF wd rows fs bs L rw fr bk rvs fvs bvs tw m' s'.heap → W (model Pg w) A (execs ((bodyOf (stm 12)).drop 15) (callEnvC (fdLaw pm cd doc) L 148)) Q s') :
    W (model Pg w) A (execs ((bodyOf (stm 12)).drop 10) (callEnvC (fdLaw pm cd doc) L 148)) Q s := by
  have w6 := T.w6
  have w0 := T.w0
  have t6 := T.t6
  obtain ⟨ws, hws, hfl⟩ := T.fill
  have hfll : fl.length ≤ 40 := by
    rw [hfl, filledF_len]
    have := Nat.mul_le_mul hws w6
    omega
  have zw : wd.length ≤ sizeLine := Nat.le_trans w6 (by decide)
  have zt : tx.length ≤ sizeLine := Nat.le_trans t6 (by decide)
  have zf : fl.length ≤ sizeLine := Nat.le_trans hfll (by decide)
  have l1 : L + 1 ≠ L := Nat.succ_ne_self L
  have w1 : ∀ x ∈ [L], Wild2 x := fun x hx => by rw [List.mem_singleton.mp hx]; exact wL
  -- rows
  refine w_assignE (Pr.run (pr_list (R := fun us => ∃ u v x, us = [u, v, x] ∧ St tx u ∧ St fl v ∧ St (wd.take (wd.length - lap) ++ wd) x) ((peL_cons (pe_locS T.ns T.m1) (peL_cons (pe_locS T.ns T.m2) (peL_cons (pe_add_str (a := wd.take (wd.length - lap)) (b := wd) ((pe_slice_str (lo := none) (hi := some (wd.length - lap)) (pe_cellS T.cw) peO_none (peO_some ((pe_sub (pe_len_str (pe_len f.bs.gl) (pe_cellS T.cw) zw) (pe_locI T.ns g1)).mono ?_)) zw).mono ?_) (pe_cellS T.cw) ?_) peL_nil))).mono ?_) ?_) ?_)
  · rintro v ⟨u, rfl⟩; exact ⟨u, by congr 1; omega⟩
  · intro v hv; rwa [cut_to] at hv
  · rw [List.length_take]; exact Nat.le_trans (show _ ≤ 12 by omega) (by decide)
  · rintro us ⟨u, _, rfl, hu, v, _, rfl, hv, x, _, rfl, hx, rfl⟩; exact ⟨u, v, x, rfl, hu, hv, hx⟩
  · rintro us ⟨u, v, x, rfl, _⟩; exact (show 3 ≤ sizeLine by decide)
  rintro _ s1 ⟨rw_, _, rfl, hfrw, hrw, u1, u2, u3, rfl, hu1, hu2, hu3⟩ hx1
  refine ⟨m, hx1.ns T.ns (by simp), fun s2 hx2 hn2 => ?_⟩
  have x2 : Ex [L] s s2 := hx1.lift.trans hx2
  have T2 := T.upd x2 hn2
  have f2 := f.ex x2 w1
  have nrw : rw_ ≠ L := fr_ne (s1 := s) T.ns hfrw
  have hrw2 := hx2.plainList hrw (nmem1 nrw)
  -- rest
  refine w_assign hn2 (pe_plain f2 hd rfl (pe_cellS T2.cw) (pe_locS hn2 T2.m1) (by omega) w0 (by omega)) ?_
  rintro _ s3 ⟨rest, ⟨t3, rfl⟩, hrest⟩ hx3 hn3
  have T3 := T2.upd hx3 hn3
  have hrw3 := hx3.plainList hrw2 (nmem1 nrw)
  have hrl : rest.length ≤ 8 := Nat.le_trans hrest.len t6
  have zr : rest.length ≤ sizeLine := Nat.le_trans hrl (by decide)
  -- front
  refine w_assignE (Pr.run (pr_list (R := fun us => ∃ u v x, us = [u, v, x] ∧ St rest u ∧ St rest v ∧ St [] x) ((peL_cons (pe_locS (l := rest) hn3 rfl) (peL_cons (pe_locS (l := rest) hn3 rfl) (peL_cons (pe_str (l := []) (by decide +kernel)) peL_nil))).mono ?_) ?_) ?_)
  · rintro us ⟨u, _, rfl, hu, v, _, rfl, hv, x, _, rfl, hx, rfl⟩; exact ⟨u, v, x, rfl, hu, hv, hx⟩
  · rintro us ⟨u, v, x, rfl, _⟩; exact (show 3 ≤ sizeLine by decide)
  rintro _ s4 ⟨fr, _, rfl, hffr, hfr, a1, a2, a3, rfl, ha1, ha2, ha3⟩ hx4
  refine ⟨_, hx4.ns hn3 (by simp), fun s5 hx5 hn5 => ?_⟩
  have x35 : Ex [L] s3 s5 := hx4.lift.trans hx5
  have T5 := T3.upd x35 hn5
  have nfr : fr ≠ L := fr_ne (s1 := s) hn3 hffr
  have hrw5 := x35.plainList hrw3 (nmem1 nrw)
  have hfr5 := hx5.plainList hfr (nmem1 nfr)
  -- back
  refine w_assignE (Pr.run (pr_list (R := fun us => ∃ u v x, us = [u, v, x] ∧ St rest.reverse u ∧ St rest.reverse v ∧ St [] x) ((peL_cons (pe_rev_str (pe_locS (l := rest) hn5 rfl) zr) (peL_cons (pe_rev_str (pe_locS (l := rest) hn5 rfl) zr) (peL_cons (pe_str (l := []) (by decide +kernel)) peL_nil))).mono ?_) ?_) ?_)
  · rintro us ⟨u, _, rfl, hu, v, _, rfl, hv, x, _, rfl, hx, rfl⟩; exact ⟨u, v, x, rfl, hu, hv, hx⟩
  · rintro us ⟨u, v, x, rfl, _⟩; exact (show 3 ≤ sizeLine by decide)
  rintro _ s6 ⟨bk, _, rfl, hfbk, hbk, b1, b2, b3, rfl, hb1, hb2, hb3⟩ hx6
  refine ⟨_, hx6.ns hn5 (by simp), fun s7 hx7 hn7 => ?_⟩
  have x57 : Ex [L] s5 s7 := hx6.lift.trans hx7
  have T7 := T5.upd x57 hn7
  have nbk : bk ≠ L := fr_ne (s1 := s) hn5 hfbk
  have hrw7 := x57.plainList hrw5 (nmem1 nrw)
  have hfr7 := x57.plainList hfr5 (nmem1 nfr)
  have hbk7 := hx7.plainList hbk (nmem1 nbk)
  have x7 : Ex [L] s s7 := ((x2.trans hx3).trans x35).trans x57
  have f7 := f.ex x7 w1
  have rowsz : ∀ r ∈ [tx, fl, wd.take (wd.length - lap) ++ wd], r.length ≤ 100 := by
    intro r hr
    simp only [List.mem_cons, List.not_mem_nil, or_false] at hr
    rcases hr with rfl | rfl | rfl
    · omega
    · omega
    · rw [List.length_append, List.length_take]; omega
  -- lap > 0
  refine w_if (b := decide ((0 : Int) < (lap : Int))) (pe_test cmp_int_gt (pe_locI (i := (lap : Int)) (t := tl) hn7 g1) pe_int) ?_ ?_
  · intro hb s8 hx8
    have hlp : Lap wd lap := by
      rcases hlap0 with h | h
      · rw [h] at hb; simp at hb
      · exact h
    have T8 := T7.ex0 hx8
    have f8 := f7.ex0 hx8
    have hn8 := T8.ns
    have x8 := x7.step0 hx8
    have pl8 : ∀ {q : Pos}, Pe (model Pg w) A (eval (.Name "lap" q) (callEnvC (fdLaw pm cd doc) L 148)) s8 (It (lap : Int)) := fun {q} => pe_locI (i := (lap : Int)) (t := tl) hn8 g1
    -- front
    refine w_assignE (Pr.run (pr_list (R := fun us => ∃ r2 u v x, us = [u, v, x] ∧ St rest u ∧ (St r2 v ∧ Plain wd fl 0 r2) ∧ St (wd.drop lap) x) ((peL_cons (pe_locS (l := rest) hn8 rfl) (peL_cons (pe_plain f8 hd rfl (pe_cellS T8.cw) (pe_locS hn8 T8.m2) (by omega) w0 (by omega)) (peL_cons (pe_slice_str (lo := some lap) (hi := none) (pe_cellS T8.cw) (peO_some pl8) peO_none zw) peL_nil))).mono ?_) ?_) ?_)
    · rintro us ⟨u, _, rfl, hu, v, _, rfl, ⟨r2, hv⟩, x, _, rfl, hx, rfl⟩
      rw [cut_from] at hx
      exact ⟨r2, u, v, x, rfl, hu, hv, hx⟩
    · rintro us ⟨r2, u, v, x, rfl, _⟩; exact (show 3 ≤ sizeLine by decide)
    rintro _ s9 ⟨fr', _, rfl, hffr', hfr', r2, c1, c2, c3, rfl, hc1, ⟨hc2, hr2⟩, hc3⟩ hx9
    refine ⟨_, hx9.ns hn8 (by simp), fun s10 hx10 hn10 => ?_⟩
    have x810 : Ex [L] s8 s10 := hx9.lift.trans hx10
    have T10 := T8.upd x810 hn10
    have f10 := f8.ex x810 w1
    have nfr' : fr' ≠ L := fr_ne (s1 := s) hn8 hffr'
    have hrw10 := x810.plainList (hx8.plainList hrw7 (by simp)) (nmem1 nrw)
    have hfr10 := hx10.plainList hfr' (nmem1 nfr')
    have x10 := x8.trans x810
    have pl10 : ∀ {q : Pos}, Pe (model Pg w) A (eval (.Name "lap" q) (callEnvC (fdLaw pm cd doc) L 148)) s10 (It (lap : Int)) := fun {q} => pe_locI (i := (lap : Int)) (t := tl) hn10 g1
    -- back
    refine w_assignE (Pr.run (pr_add_list (R1 := fun ys => ∃ q1 q2 u v, ys = [u, v] ∧ (St q1 u ∧ Plain wd.reverse tx.reverse 0 q1) ∧ (St q2 v ∧ Plain wd.reverse fl.reverse 0 q2)) (R2 := fun ys => ∃ u, ys = [u] ∧ St (wd.take (wd.length - lap)).reverse u)
      (Pr.mono (pr_comp (n := 2) (p := fun _ => true) (cl := [("word", L + 1)]) (P := fun i v => ∃ r, [tx, fl][i]? = some r ∧ St r v) (fx := []) (F := fun j v => ∃ r q, [tx, fl][j]? = some r ∧ St q v ∧ Plain wd.reverse r.reverse 0 q)
        (B := fun j m => ∃ r t, [tx, fl][j]? = some r ∧ m "row" = some (Tx r t)) ?_ ⟨?_, ?_, ?_⟩ (by decide) rfl) (FreshL.mono fun ys h => ?_))
      (Pr.mono (pr_list (peL_cons (pe_rev_str (pe_slice_str (lo := none) (hi := some (wd.length - lap)) (pe_cellS T10.cw) peO_none (peO_some ((pe_sub (pe_len_str (pe_len f10.bs.gl) (pe_cellS T10.cw) zw) pl10).mono ?_)) zw) ?_) peL_nil) ?_) (FreshL.mono fun ys h => ?_)) ?_) ?_)
    · intro s' hx'
      refine (it_fresh (pr_slice (lo := none) (hi := some 2) (pe_local (hx'.ns hn10 (by simp)) rfl) (hx'.plainList hrw10 (by simp)).isList peO_none (peO_some pe_int) (show 3 ≤ sizeLine by decide)) ?_ hA).name
      rintro us rfl
      refine ⟨rfl, fun i v hi => ?_⟩
      match i with
      | 0 => cases hi; exact ⟨tx, rfl, hu1⟩
      | 1 => cases hi; exact ⟨fl, rfl, hu2⟩
      | i + 2 => cases hi
    · rintro C j x s5 mC hj ⟨r, hr, t, rfl⟩ hC hx5 hnC E Q hq
      exact wpAny_assign_Name (st_local hnC fun s2 hx2 hn2 => hq s2 _ hx2 hn2 ⟨r, t, hr, rfl⟩)
    · intro C j s5 mC hj hB hx5 hnC
      exact tests_nil
    · rintro C j s5 mC hj _ ⟨r, t, hr, hm⟩ hx5 hnC
      have hrl2 : r.length ≤ 100 := by
        match j with
        | 0 => cases hr; omega
        | 1 => cases hr; omega
        | j + 2 => omega
      refine (pe_plain (wd := wd.reverse) (tx := r.reverse) (f10.ex0 hx5) hd rfl (pe_rev_str (pe_cellS (hx5.cell T10.cw (by simp))) zw) (pe_rev_str (pe_locS hnC hm) (Nat.le_trans hrl2 (by decide))) (by simp; omega) (by simpa using w0) (by simpa using hrl2)).mono ?_
      rintro v ⟨q, hq1, hq2⟩; exact ⟨r, q, hr, hq1, hq2⟩
    · rw [List.filter_eq_self.mpr (by simp)] at h
      have hl2 : ys.length = 2 := by rw [h.len]; rfl
      match ys, hl2 with
      | [y1, y2], _ =>
        obtain ⟨r, q1, e1, e2, e3⟩ := h.at_ 0 0 y1 rfl rfl
        cases e1
        obtain ⟨r, q2, e4, e5, e6⟩ := h.at_ 1 1 y2 rfl rfl
        cases e4
        exact ⟨q1, q2, y1, y2, rfl, ⟨e2, e3⟩, e5, e6⟩
    · rintro v ⟨u, rfl⟩; exact ⟨u, by congr 1; omega⟩
    · exact Nat.le_trans (Nat.le_trans (cut_len _ _ _) w6) (by decide)
    · rintro us ⟨u, _, rfl, _, rfl⟩; exact (show 1 ≤ sizeLine by decide)
    · obtain ⟨u, _, rfl, hu, rfl⟩ := h
      rw [cut_to] at hu
      exact ⟨u, rfl, hu⟩
    · rintro vs us ⟨_, _, _, _, rfl, _⟩ ⟨_, rfl, _⟩; exact (show 3 ≤ sizeLine by decide)
    rintro _ s11 ⟨bk', _, rfl, hfbk', hbk', _, _, ⟨q1, q2, y1, y2, rfl, ⟨hy1, hq1⟩, hy2, hq2⟩, ⟨y3, rfl, hy3⟩, rfl⟩ hx11
    refine ⟨_, hx11.ns hn10 (by simp), fun s12 hx12 hn12 => ?_⟩
    have x1012 : Ex [L] s10 s12 := hx11.lift.trans hx12
    have nbk' : bk' ≠ L := fr_ne (s1 := s) hn10 hfbk'
    have T12 := T10.upd x1012 hn12
    refine w_nil (k s12 _ [tx, fl, wd.take (wd.length - lap) ++ wd] [rest, r2, wd.drop lap] [q1, q2, (wd.take (wd.length - lap)).reverse] rw_ fr' bk' [u1, u2, u3] [c1, c2, c3] [y1, y2, y3] (x10.trans x1012)
      ⟨hn12, T12.cw, rfl, rfl, rfl, x1012.plainList hrw10 (nmem1 nrw), x1012.plainList hfr10 (nmem1 nfr'), hx12.plainList hbk' (nmem1 nbk'), are3 rfl hu1 hu2 hu3, are3 rfl hc1 hc2 hc3, are3 rfl hy1 hy2 hy3, rfl, rfl, rfl, w0, w6, rowsz, ok_lap w0 hlp hrest hr2 hq1 hq2⟩)
  · intro hb s8 hx8
    have hlz : lap = 0 := by
      have := of_decide_eq_false hb
      omega
    subst hlz
    refine w_nil (k s8 _ [tx, fl, wd.take (wd.length - 0) ++ wd] [rest, rest, []] [rest.reverse, rest.reverse, []] rw_ fr bk [u1, u2, u3] [a1, a2, a3] [b1, b2, b3] (x7.step0 hx8)
      ⟨hx8.ns hn7 (by simp), hx8.cell T7.cw (by simp), rfl, rfl, rfl, hx8.plainList hrw7 (by simp), hx8.plainList hfr7 (by simp), hx8.plainList hbk7 (by simp), are3 rfl hu1 hu2 hu3, are3 rfl ha1 ha2 ha3, are3 rfl hb1 hb2 hb3, rfl, rfl, rfl, w0, w6, rowsz, ok_zero w0 hlapm hfl hrest⟩)
end Mine
end

section
open PySem PySem.W PyProof.Rows
set_option maxRecDepth 100000
set_option maxHeartbeats 1000000
set_option linter.unusedVariables false
namespace Mine
variable {α β : Type} {w : World} {M : Model} {prog : Program} {A : Around} {env : Env} {s s' : Shared} {E : Value → Shared → Prop}

theorem lp_leaves : glTab.lookup (Str.ofString "_law_leaves") = some (.ref 129) := by decide +kernel

/-- _law_leaves(..), the arguments plain -/
theorem w_leaves {fp p : Pos} {e1 e2 e3 : Expr} {wd tx l : List Nat} {Q : Value → Shared → Prop} (f : Bg s.heap) (hd : A.depth < 550) (hA : A.handled = none) (hu : A.units < 7000) (hg : env.globals = 3 := by rfl)
    (h1 : Pe (model Pg w) A (eval e1 env) s (St wd)) (h2 : Pe (model Pg w) A (eval e2 env) s (St tx)) (h3 : Pe (model Pg w) A (eval e3 env) s (St l)) (hw : wd.length ≤ 100) (hw0 : 0 < wd.length) (ht : tx.length ≤ 100) (hst : stackF wd tx = l)
    (k : ∀ s', Ex [63, 70] s s' → Bg s'.heap → Q (.bool true) s')
    (hk : env.scope.kind = .function := by rfl) (hl : env.kindOf "_law_leaves" = some .globalImplicit := by rfl)
    (hs1 : starEach [e1, e2, e3] env = (false, eval e1 env) :: starEach [e2, e3] env := by rfl) (hs2 : starEach [e2, e3] env = (false, eval e2 env) :: starEach [e3] env := by rfl) (hs3 : starEach [e3] env = (false, eval e3 env) :: starEach [] env := by rfl) :
    W (model Pg w) A (eval (.Call (.Name "_law_leaves" fp) [e1, e2, e3] [] p) env) Q s := by
  refine w_callF (R := fun us => ∃ t1 t2 t3, us = [Tx wd t1, Tx tx t2, Tx l t3]) (pe_gl f.bs.gl lp_leaves hg hk hl) f.bs.leaves ((peL_cons h1 (peL_cons h2 (peL_cons h3 peL_nil hs3) hs2) hs1).mono ?_) ?_ hs1
  · rintro us ⟨_, _, rfl, ⟨t1, rfl⟩, _, _, rfl, ⟨t2, rfl⟩, _, _, rfl, ⟨t3, rfl⟩, rfl⟩; exact ⟨t1, t2, t3, rfl⟩
  · rintro us s1 ⟨t1, t2, t3, rfl⟩ hx1
    refine (leaves_walk (f.ex0 hx1) wd tx l t1 t2 t3 hst hw hw0 ht hd hA hu).mono ?_
    rintro v s2 ⟨rfl, hx2, b2⟩
    exact k s2 (hx1.lift.trans hx2) b2

theorem law_loop {wd : List Nat} {rows fs bs : List (List Nat)} {L : Nat} {rw fr bk : Nat} {rvs fvs bvs : List Value} {tw m} {pm cd doc : Value} (f : Bg s.heap) (wL : Wild2 L) (T : LwF wd rows fs bs L rw fr bk rvs fvs bvs tw m s.heap) (hA : A.handled = none) (hd : A.depth < 500) (hu : A.units < 6900) :
    W (model Pg w) A (execs ((bodyOf (stm 12)).drop 15) (callEnvC (fdLaw pm cd doc) L 148)) (fun fl s' => fl = .ret (.bool true) ∧ Ex [L, 63, 70] s s' ∧ Bg s'.heap) s := by
  have zw : wd.length ≤ sizeLine := Nat.le_trans T.w6 (by decide)
  have w6 := T.w6
  have hcw : ∃ o, s.heap.get? (L + 1) = some o := let ⟨o, ho, _⟩ := T.cw; ⟨o, ho⟩
  have neL : ∀ {a : Nat} {vs : List Value}, s.heap.PlainList a vs.toArray → L ≠ a := by
    rintro a vs ⟨n, hn⟩ rfl
    obtain ⟨o, es, ep, ho, hd, _⟩ := T.ns
    rw [hn] at ho; cases ho; cases hd
  have ne6 : ∀ {a : Nat} {vs : List Value}, s.heap.PlainList a vs.toArray → (63 : Nat) ≠ a ∧ (70 : Nat) ≠ a := by
    intro a vs h
    have := f.nt_plain h
    simp at this
    exact ⟨fun e => this.1 e.symm, fun e => this.2 e.symm⟩
  refine w_forZip (N := 3) (Y := [L, 63, 70]) hA (bu_ty (T := "zip") f.bs.gl (by decide +kernel) (let ⟨mb, b1, b2⟩ := f.bs.gl.b; ⟨mb, b1, b2.2.2.2.2.2.2.2.2.2.2.1⟩)) (pe_local T.ns T.g1) (pe_local T.ns T.g2) (pe_local T.ns T.g3) T.rl.isList T.fl.isList T.bl.isList
    (T.ra.len.trans T.rn) (T.fa.len.trans T.fn) (T.ba.len.trans T.bn) ?_ (List.mem_cons_self ..)
    (fun k m s2 => Ex [L, 63, 70] s s2 ∧ Bg s2.heap ∧ s2.heap.IsCell (L + 1) (some (Tx wd tw))) ?_ ?_ ?_
  · intro y hy
    rcases List.mem_cons.mp hy with rfl | hy
    · exact ⟨let ⟨o, _, _, ho, _⟩ := T.ns; ⟨o, ho⟩, neL T.rl, neL T.fl, neL T.bl⟩
    rcases List.mem_cons.mp hy with rfl | hy
    · exact ⟨let ⟨ps, ho⟩ := f.tab_obj 63 (by simp); ⟨_, ho⟩, (ne6 T.rl).1, (ne6 T.fl).1, (ne6 T.bl).1⟩
    · rw [List.mem_singleton.mp hy]
      exact ⟨let ⟨ps, ho⟩ := f.tab_obj 70 (by simp); ⟨_, ho⟩, (ne6 T.rl).2, (ne6 T.fl).2, (ne6 T.bl).2⟩
  · intro s2 hx2
    exact ⟨m, hx2.ns T.ns (by simp), hx2.lift, f.ex0 hx2, hx2.cell T.cw (by simp)⟩
  · rintro k va vb vc m2 wr s2 s1 hk h1 h2 h3 ⟨x2, f2, c2⟩ hwr hx1 hn1
    obtain ⟨r, hr, t1, rfl⟩ := T.ra.get' h1
    obtain ⟨a, ha, t2, rfl⟩ := T.fa.get' h2
    obtain ⟨b, hb, t3, rfl⟩ := T.ba.get' h3
    obtain ⟨ok1, ok2⟩ := T.ok k r a b hr ha hb
    have hrl := T.rsz r (List.mem_of_getElem? hr)
    have f1 : Bg s1.heap := f2.ex hx1 fun x hx => by
      rcases List.mem_cons.mp hx with rfl | hx
      · exact wL
      · exact f.wild2 (hwr x hx)
    have c1 := hx1.cell c2 (fun hm => by
      rcases List.mem_cons.mp hm with h | h
      · exact Nat.succ_ne_self L h
      · obtain ⟨o, ho⟩ := hcw; rw [hwr _ h] at ho; cases ho)
    have x1 : Ex [L, 63, 70] s s1 := x2.step hx1 fun y hy => by
      rcases List.mem_cons.mp hy with rfl | hy
      · exact .inl (List.mem_cons_self ..)
      · exact .inr (hwr y hy)
    refine w_ifE (w_or2 (w_not (w_true (w_leaves (wd := wd) (tx := r) (l := a) f1 (by omega) hA (by omega) rfl (pe_cellS c1) (pe_locS (l := r) hn1 rfl) (pe_locS (l := a) hn1 rfl) (by omega) T.w0 hrl ok1 fun s3 hx3 f3 => ⟨true, rfl, rfl, ?_⟩))))
    have hn3 := hx3.ns hn1 (f1.nt_ns hn1)
    have c3 := hx3.cell c1 (f1.nt_cell c1)
    refine w_not (w_true (w_leaves (wd := wd.reverse) (tx := r.reverse) (l := b) f3 (by omega) hA (by omega) rfl (pe_rev_str (pe_cellS c3) zw) (pe_rev_str (pe_locS (l := r) hn3 rfl) (Nat.le_trans hrl (by decide))) (pe_locS (l := b) hn3 rfl) (by simp; omega) (by simpa using T.w0) (by simpa using hrl) ok2 fun s4 hx4 f4 => ⟨true, rfl, rfl, ?_⟩))
    have x14 : Ex [63, 70] s1 s4 := hx3.trans hx4
    have hm : ∀ y ∈ [63, 70], y ∈ [L, 63, 70] := fun y hy => List.mem_cons_of_mem _ hy
    exact w_nil (w_nil ⟨x14.weak hm, _, hx4.ns hn3 (f3.nt_ns hn3), x1.trans (x14.weak hm), f4, hx4.cell c3 (f3.nt_cell c3)⟩)
  · rintro wr m2 s2 s1 hn1 ⟨x2, f2, c2⟩ hwr hx1
    refine w_ret pe_bool fun v s3 hv hx3 => ?_
    subst hv
    refine ⟨rfl, ((x2.step hx1 fun y hy => .inr (hwr y hy)).step0 hx3), ?_⟩
    exact (f2.ex hx1 fun x hx => f.wild2 (hwr x hx)).ex0 hx3
end Mine
end

section
open PySem PySem.W PyProof.Rows
set_option maxRecDepth 100000
set_option maxHeartbeats 1000000
set_option linter.unusedVariables false
namespace Mine
variable {α β : Type} {w : World} {M : Model} {prog : Program} {A : Around} {env : Env} {s s' : Shared} {E : Value → Shared → Prop}

theorem law_walk (f : Bg s.heap) {o : Obj} {pm cd doc : Value} (ho : s.heap.get? 148 = some o) (hdata : o.data = .func (fdLaw pm cd doc)) (hcd : s.heap.CodeRec cd (Str.ofString "law")) {a : Nat} {vs : List Value} {ns : List Int} (hl : s.heap.IsList a vs.toArray) (hv : Are It ns vs) (hlen : ns.length ≤ 63)
    (hd : A.depth < 400) (hA : A.handled = none) (hu : A.units < 6000) :
    W (model Pg w) A (runValue (.call (.ref 148) ⟨[.ref a], []⟩)) (fun v s' => v = .bool true ∧ Ex [63, 70] s s' ∧ Bg s'.heap) s := by
  refine w_callC (fd := fdLaw pm cd doc) (binds := [("script", .ref a)]) (by simp only [recursionLimit]; omega) ho hdata f.bs.lim hcd (body := bodyOf (stm 12)) rfl rfl ?_ (fun s1 hx hsz hn1 hc => ?_)
  · intro x hx
    rw [List.mem_singleton.mp hx]; exact .inl rfl
  generalize hL : s.heap.objs.size = L at *
  have c1 : s1.heap.IsCell (L + 1) none := (hc "word" _ rfl).1
  have fc1 : s.heap.get? (L + 1) = none := (hc "word" _ rfl).2.1
  have wL : Wild2 L := f.wild2 hsz
  have hd' : (A.deeper (callEnvC (fdLaw pm cd doc) L 148)).depth < 500 := by show A.depth + 1 < 500; omega
  have hA' : (A.deeper (callEnvC (fdLaw pm cd doc) L 148)).handled = none := hA
  have hu' : (A.deeper (callEnvC (fdLaw pm cd doc) L 148)).units < 6900 := by show A.units + 3 < 6900; omega
  generalize A.deeper (callEnvC (fdLaw pm cd doc) L 148) = A' at hd' hA' hu' ⊢
  have g0 : (bindL (callEnvC (fdLaw pm cd doc) L 148).kindOf [("script", .ref a)] fun _ => none) "script" = some (.ref a) := rfl
  generalize (bindL (callEnvC (fdLaw pm cd doc) L 148).kindOf [("script", .ref a)] fun _ => none) = m0 at hn1 g0
  have w1 : ∀ x ∈ [L], Wild2 x := fun x hx => by rw [List.mem_singleton.mp hx]; exact wL
  refine law1 (s0 := s) f hx hsz fc1 hl hv hlen hn1 g0 c1 hd' hA' fun s2 wd tx fl nt tb tvs tw tt tf m x2 _ T2 => ?_
  have f2 := f.ex0 x2
  refine law_isi f2 T2 hA' (by omega) fun s3 hx3 => ?_
  have T3 := T2.ex0 hx3
  have f3 := f2.ex0 hx3
  refine law_lap f3 T3 hA' hd' fun s4 lap tl hx4 hlapn hlap0 hlapm T4 => ?_
  have f4 := f3.ex hx4 w1
  refine law_laps (lap := lap) (tl := tl) f4 wL T4 hA' hd' rfl hlap0 hlapm fun s5 m5 hx5 g5 T5 => ?_
  have f5 := f4.ex hx5 w1
  refine law_rows f5 wL T5 hA' hd' g5 hlap0 hlapm hlapn fun s6 m6 rows fs bs rw fr bk rvs fvs bvs hx6 T6 => ?_
  have f6 := f5.ex hx6 w1
  refine (law_loop f6 wL T6 hA' hd' hu').mono ?_
  rintro fl s7 ⟨rfl, hx7, f7⟩
  refine ⟨rfl, ?_, f7⟩
  have x3 : Ex [] s s3 := x2.trans hx3
  have x6 : Ex [] s s6 := x3.fr ((hx4.trans hx5).trans hx6) hsz
  refine x6.lift.step hx7 fun y hy => ?_
  rcases List.mem_cons.mp hy with rfl | hy
  · exact .inr hsz
  · exact .inl hy
end Mine
end

section
open PySem PySem.W PyProof.Rows
set_option maxRecDepth 100000
set_option maxHeartbeats 1000000
set_option linter.unusedVariables false
namespace Mine
variable {w : World} {s s' : Shared}

noncomputable def keyStr (e : DictEntry) : Str := match e.key with
  | .str n _ => n
  | _ => Str.empty
noncomputable def strKey (e : DictEntry) : Bool := match e.key with
  | .str _ _ => true
  | _ => false
theorem find_lookup (x : Str) : ∀ l : List DictEntry, l.all strKey = true → (l.find? fun e => e.key.isStr x).map (·.val) = (l.map fun e => (keyStr e, e.val)).lookup x := by
  intro l
  induction l with
  | nil => intro _; rfl
  | cons e l ih =>
    intro h
    rw [List.all_cons, Bool.and_eq_true] at h
    obtain ⟨hash, key, val⟩ := e
    obtain ⟨h1, h2⟩ := h
    cases key with
    | str n t =>
      rw [List.find?_cons, List.map_cons, List.lookup_cons]
      show Option.map _ (match n == x with | true => _ | false => _) = (match x == n with | true => _ | false => _)
      rw [show (x == n) = (n == x) from by rw [Bool.eq_iff_iff, beq_iff_eq, beq_iff_eq]; exact eq_comm]
      cases n == x with
      | true => rfl
      | false => exact ih h2
    | _ => cases h1
theorem ns_tab {h : Heap} {L : Addr} {o : Obj} {es : Array DictEntry} {ep : Nat} {tab : List (Str × Value)} (ho : h.get? L = some o) (hd : o.data = .dict es ep) (hk : es.toList.all strKey = true) (ht : (es.toList.map fun e => (keyStr e, e.val)) = tab) :
    h.Ns L (fun x => tab.lookup x) := by
  refine ⟨o, es, ep, ho, hd, fun e he => ?_, fun x => ?_⟩
  · have := List.all_eq_true.mp hk e (by simpa using he)
    obtain ⟨hash, key, val⟩ := e
    cases key with
    | str n t => exact ⟨n, t, rfl⟩
    | _ => cases this
  · unfold nsFind findBy
    have h1 := find_lookup x _ hk
    rw [ht] at h1
    show _ = tab.lookup x
    rw [← h1]
    obtain ⟨l⟩ := es
    simp

/-- the code tables grew: nothing else of old turned -/
theorem oldK_of {h h' : Heap} (hk : ∀ b o, b ∉ [63, 70] → h.get? b = some o → h'.get? b = some o) (t1 : h.TableAt 67 63 #[]) (t2 : h.TableAt 74 70 #[]) (b : Bg h') : OldK h h' := by
  have tab : ∀ x ∈ [63, 70], ∃ ps, h'.get? x = some { cls := .none, data := .fields ps } := b.tab_obj
  refine ⟨fun a o ho => ?_, fun a o ho => ?_⟩
  · by_cases hm : a ∈ [63, 70]
    · obtain ⟨ps, hp⟩ := tab a hm
      refine .inr (.inl ?_)
      rcases List.mem_cons.mp hm with rfl | hm
      · have e := t1.2; rw [ho] at e; cases e
        exact ⟨t1.isCodeTable, rfl, #[], ps, rfl, by rw [hp]; simp⟩
      · have e70 := List.mem_singleton.mp hm
        subst e70
        have e := t2.2; rw [ho] at e; cases e
        exact ⟨t2.isCodeTable, rfl, #[], ps, rfl, by rw [hp]; simp⟩
    · exact .inl (hk a o hm ho)
  · by_cases hm : a ∈ [63, 70]
    · obtain ⟨ps, hp⟩ := tab a hm; exact ⟨_, hp⟩
    · exact ⟨o, hk a o hm ho⟩



theorem good_of {c : ClaimW} {cl : Str → Option Addr} {mean : ExcName → Option Value} {args : List WData} (hr : ∀ cls, c.raises args cls = false) (hp : c.post args (.bool true) args = true) (hx : Ex [63, 70] s s') (b : Bg s'.heap) (t1 : s.heap.TableAt 67 63 #[]) (t2 : s.heap.TableAt 74 70 #[]) (hg : s.gens = #[]) :
    GoodWG c cl mean args s (.ok (.ret (.bool true))) s' :=
  ⟨.inl ⟨_, _, [], rfl, hr, ReadsW.bool true, hp, fun _ => ⟨List.nodup_nil, fun _ hm => nomatch hm⟩⟩, oldK_of hx.keep t1 t2 b, hx.os, hx.bare (.of_eq hg)⟩
end Mine
end

section
open PySem PySem.W PyProof.Rows
set_option maxRecDepth 100000
set_option maxHeartbeats 1000000
set_option linter.unusedVariables false
namespace Mine

/-! what the head looks at: no more than the proof wants -/
noncomputable def fnv (h : Heap) (a : Addr) : Option (Value × Option FuncData) := (h.get? a).map fun o => (o.cls, match o.data with
  | .func fd => some fd
  | _ => none)
noncomputable def strV : Option Value → Option Str
  | some (.str x _) => some x
  | _ => none
noncomputable def intV : Option Value → Bool
  | some (.int _ _) => true
  | _ => false
noncomputable def boolV : Option Value → Bool
  | some (.bool _) => true
  | _ => false
noncomputable def cdv (h : Heap) (c : Addr) : Option (Option Str × Option Str) := (h.get? c).map fun o => match o.data with
  | .fields vs => (strV vs[1]?, strV vs[2]?)
  | _ => (none, none)
noncomputable def nsv (h : Heap) (a : Addr) : Option (List (Option Str × Value)) := (h.get? a).map fun o => match o.data with
  | .dict es _ => es.toList.map fun e => (strV (some e.key), e.val)
  | _ => []
noncomputable def tcv (h : Heap) (c : Addr) : Option (Value × Option Value × Option Str × Bool × Bool × Bool) := (h.get? c).map fun o => match o.data with
  | .fields vs => (o.cls, vs[11]?, strV vs[18]?, intV vs[7]?, boolV vs[9]?, intV vs[10]?)
  | _ => (.none, none, none, false, false, false)
noncomputable def codeOf (fd : FuncData) : Addr := match fd.code with
  | .ref c => c
  | _ => 0
abbrev LookT := List (Option (Value × Option FuncData)) × List (Option (Option Str × Option Str)) × Option (List (Option Str × Value)) × Option (List (Option Str × Value)) × List (Option Obj) ×
  Option (Value × Option Value × Option Str × Bool × Bool × Bool) × Option (Value × Option Value × Option Str × Bool × Bool × Bool) × List Bool
noncomputable def look (h : Heap) : LookT :=
  (fns.map fun p => fnv h p.1, fns.map fun p => cdv h (codeOf p.2), nsv h 3, nsv h 100, [2, 63, 70, 101, 25, 30, 46, 4].map h.get?, tcv h 67, tcv h 74, (baseAddrs.drop 1).map fun b => (h.get? b).isSome)
noncomputable def want : LookT :=
  (fns.map fun p => some (.type "function", some p.2), fns.map fun p => some (some p.2.qualname, some (Str.ofString "/claim/cut.py")), some (glTab.map fun p => (some p.1, p.2)), some (clsTab.map fun p => (some p.1, p.2)),
    [some { cls := .none, data := .dict #[] }, some { cls := .none, data := .fields #[] }, some { cls := .none, data := .fields #[] }, some clsObj, some { cls := .type "cell", data := .cell (some (.ref 101)) },
      some { cls := .type "tuple", data := .seq #[.int 0 210] }, some { cls := .type "tuple", data := .seq #[.int 0 229] }, some { cls := .type "module", dict := some 0, data := .plain }],
    some (.type "code", some (.ref 63), some (Str.ofString "/claim/cut.py"), true, true, true), some (.type "code", some (.ref 70), some (Str.ofString "/claim/cut.py"), true, true, true), (baseAddrs.drop 1).map fun _ => true)
def Seen (h : Heap) : Prop := ∃ h₀, look h₀ = want ∧ ∀ b o, h₀.get? b = some o → h.get? b = some o
noncomputable def hook : Hook := ⟨LookT, fun s => look s.heap, fun _ => want, fun _ h => Seen h, fun _ s e => ⟨s.heap, e, fun _ _ x => x⟩, fun _ h h' ⟨h₀, e, k⟩ k' => ⟨h₀, e, fun b o x => k' b o (k b o x)⟩⟩

theorem strV_some {v : Option Value} {x : Str} (h : strV v = some x) : ∃ t, v = some (.str x t) := by
  unfold strV at h
  split at h
  · cases h; exact ⟨_, rfl⟩
  · cases h
theorem intV_true {v : Option Value} (h : intV v = true) : ∃ i t, v = some (.int i t) := by
  unfold intV at h
  split at h
  · exact ⟨_, _, rfl⟩
  · cases h
theorem boolV_true {v : Option Value} (h : boolV v = true) : ∃ b, v = some (.bool b) := by
  unfold boolV at h
  split at h
  · exact ⟨_, rfl⟩
  · cases h
theorem fnv_some {h : Heap} {a : Addr} {fd : FuncData} (e : fnv h a = some (.type "function", some fd)) : ∃ o, h.get? a = some o ∧ o.data = .func fd ∧ o.cls = .type "function" := by
  unfold fnv at e
  cases ho : h.get? a with
  | none => rw [ho] at e; cases e
  | some o =>
    rw [ho] at e
    obtain ⟨cls, dict, data, slots⟩ := o
    cases data with
    | func f => cases e; exact ⟨_, rfl, rfl, rfl⟩
    | _ => cases e
theorem cdv_some {h : Heap} {c : Addr} {x y : Str} (e : cdv h c = some (some x, some y)) : ∃ o vs t t', h.get? c = some o ∧ o.data = .fields vs ∧ vs[1]? = some (.str x t) ∧ vs[2]? = some (.str y t') := by
  unfold cdv at e
  cases ho : h.get? c with
  | none => rw [ho] at e; cases e
  | some o =>
    rw [ho] at e
    obtain ⟨cls, dict, data, slots⟩ := o
    cases data with
    | fields vs =>
      have e : some (strV vs[1]?, strV vs[2]?) = some (some x, some y) := e
      simp only [Option.some.injEq, Prod.mk.injEq] at e
      obtain ⟨t, h1⟩ := strV_some e.1
      obtain ⟨t', h2⟩ := strV_some e.2
      exact ⟨_, vs, t, t', rfl, rfl, h1, h2⟩
    | _ => cases e
theorem tcv_some {h : Heap} {c P : Addr} {x : Str} (e : tcv h c = some (.type "code", some (.ref P), some x, true, true, true)) (hP : h.get? P = some { cls := .none, data := .fields #[] }) (hne : c ≠ P) : h.IsCode c P #[] ∧ h.TableAt c P #[] := by
  unfold tcv at e
  cases ho : h.get? c with
  | none => rw [ho] at e; cases e
  | some o =>
    rw [ho] at e
    obtain ⟨cls, dict, data, slots⟩ := o
    cases data with
    | fields vs =>
      have e : some (cls, vs[11]?, strV vs[18]?, intV vs[7]?, boolV vs[9]?, intV vs[10]?) = some (.type "code", some (.ref P), some x, true, true, true) := e
      simp only [Option.some.injEq, Prod.mk.injEq] at e
      obtain ⟨e1, e2, e3, e4, e5, e6⟩ := e
      obtain ⟨t, h3⟩ := strV_some e3
      obtain ⟨i, u, h4⟩ := intV_true e4
      obtain ⟨b, h5⟩ := boolV_true e5
      obtain ⟨j, v, h6⟩ := intV_true e6
      refine ⟨⟨_, vs, x, t, i, u, b, j, v, _, ho, rfl, ?_, ?_, ?_, ?_, ?_, hP, rfl, trivial, hne⟩, ⟨_, vs, ho, e1, rfl, e2⟩, hP⟩
      · rw [Array.getD_eq_getD_getElem?, e2]; rfl
      · rw [Array.getD_eq_getD_getElem?, h3]; rfl
      · rw [Array.getD_eq_getD_getElem?, h4]; rfl
      · rw [Array.getD_eq_getD_getElem?, h5]; rfl
      · rw [Array.getD_eq_getD_getElem?, h6]; rfl
    | _ => cases e
theorem tab_of : ∀ (l : List DictEntry) (tab : List (Str × Value)), (l.map fun e => (strV (some e.key), e.val)) = (tab.map fun p => (some p.1, p.2)) → l.all strKey = true ∧ (l.map fun e => (keyStr e, e.val)) = tab
  | [], [], _ => ⟨rfl, rfl⟩
  | [], _ :: _, e => by cases e
  | _ :: _, [], e => by cases e
  | d :: l, q :: tab, e => by
    rw [List.map_cons, List.map_cons, List.cons.injEq, Prod.mk.injEq] at e
    obtain ⟨⟨e1, e2⟩, e3⟩ := e
    obtain ⟨i1, i2⟩ := tab_of l tab e3
    obtain ⟨hash, key, val⟩ := d
    obtain ⟨t, hk⟩ := strV_some e1
    cases hk
    refine ⟨by rw [List.all_cons, i1]; rfl, ?_⟩
    rw [List.map_cons, i2]
    show (q.1, val) :: tab = q :: tab
    rw [show val = q.2 from e2]
theorem nsv_some {h : Heap} {a : Addr} {tab : List (Str × Value)} (e : nsv h a = some (tab.map fun p => (some p.1, p.2))) (h0 : tab ≠ []) : h.Ns a (fun x => tab.lookup x) := by
  unfold nsv at e
  cases ho : h.get? a with
  | none => rw [ho] at e; cases e
  | some o =>
    rw [ho] at e
    obtain ⟨cls, dict, data, slots⟩ := o
    cases data with
    | dict es ep =>
      have e : some (es.toList.map fun e => (strV (some e.key), e.val)) = some (tab.map fun p => (some p.1, p.2)) := e
      have e := Option.some.inj e
      have hk := tab_of _ _ e
      exact ns_tab ho rfl hk.1 hk.2
    | _ =>
      cases tab with
      | nil => exact absurd rfl h0
      | cons _ _ => cases e

theorem fns_code : ∀ p ∈ fns, ∃ c, p.2.code = .ref c ∧ codeOf p.2 = c ∧ c ∈ baseAddrs := by
  simp only [fns, List.forall_mem_cons]
  exact ⟨⟨37, rfl, rfl, by decide⟩, ⟨44, rfl, rfl, by decide⟩, ⟨52, rfl, rfl, by decide⟩, ⟨60, rfl, rfl, by decide⟩, ⟨67, rfl, rfl, by decide⟩, ⟨74, rfl, rfl, by decide⟩, ⟨97, rfl, rfl, by decide⟩, ⟨111, rfl, rfl, by decide⟩, ⟨116, rfl, rfl, by decide⟩,
    ⟨123, rfl, rfl, by decide⟩, ⟨128, rfl, rfl, by decide⟩, ⟨135, rfl, rfl, by decide⟩, ⟨142, rfl, rfl, by decide⟩, by simp⟩

/-- what was seen is what the proof stands on -/
theorem seen_bg {h : Heap} (y : Seen h) (lim : h.NoLimit) {mb : Str → Option Value} (hb : h.Ns 0 mb) (hm : ∀ x : Str, x ≠ "__name__" → mb x = bootBuiltins x) : Bg h ∧ h.TableAt 67 63 #[] ∧ h.TableAt 74 70 #[] := by
  obtain ⟨h₀, e, k⟩ := y
  unfold look want at e
  rw [Prod.mk.injEq, Prod.mk.injEq, Prod.mk.injEq, Prod.mk.injEq, Prod.mk.injEq, Prod.mk.injEq, Prod.mk.injEq] at e
  obtain ⟨e1, e2, e3, e4, e5, e6, e7, e8⟩ := e
  have e1 := List.map_inj_left.mp e1
  have e2 := List.map_inj_left.mp e2
  have e8 := List.map_inj_left.mp e8
  simp only [List.map_cons, List.map_nil, List.cons.injEq, and_true] at e5
  obtain ⟨o2, o63, o70, o101, o25, o30, o46, o4⟩ := e5
  obtain ⟨c1, t1⟩ := tcv_some e6 o63 (by decide)
  obtain ⟨c2, t2⟩ := tcv_some e7 o70 (by decide)
  have t1' := t1.keeps k
  have t2' := t2.keeps k
  have fn : ∀ p ∈ fns, FnAt h p.1 p.2 := by
    intro p hp
    obtain ⟨o, q1, q2, q3⟩ := fnv_some (e1 p hp)
    obtain ⟨c, r1, r2, r3⟩ := fns_code p hp
    have e2p := e2 p hp
    rw [r2] at e2p
    obtain ⟨oc, vs, t, t', s1, s2, s3, s4⟩ := cdv_some e2p
    exact ⟨⟨o, k _ _ q1, q2, q3⟩, c, oc, vs, t, t', r1, r3, k _ _ s1, s2, s3, s4⟩
  have gl : Gl h := by
    refine ⟨(nsv_some e3 (by simp [glTab])).keeps k, mb, hb, ?_⟩
    refine ⟨(hm _ (by decide)).trans ?_, (hm _ (by decide)).trans ?_, (hm _ (by decide)).trans ?_, (hm _ (by decide)).trans ?_, (hm _ (by decide)).trans ?_, (hm _ (by decide)).trans ?_,
      (hm _ (by decide)).trans ?_, (hm _ (by decide)).trans ?_, (hm _ (by decide)).trans ?_, (hm _ (by decide)).trans ?_, (hm _ (by decide)).trans ?_, (hm _ (by decide)).trans ?_⟩
    all_goals decide +kernel
  have there : ∀ b ∈ baseAddrs, (h.get? b).isSome = true := by
    intro b hbm
    rcases List.mem_cons.mp hbm with rfl | hbm
    · obtain ⟨o, _, _, ho, _⟩ := hb; rw [ho]; rfl
    · obtain ⟨o, ho⟩ := Option.isSome_iff_exists.mp (e8 b hbm)
      rw [k b o ho]; rfl
  exact ⟨⟨⟨lim, gl, fn, k _ _ o2, k _ _ o101, (nsv_some e4 (by simp [clsTab])).keeps k, ⟨_, k _ _ o25, rfl⟩, k _ _ o30, ⟨_, k _ _ o46⟩, there⟩, ⟨_, k _ _ o4, rfl, rfl, rfl⟩, ⟨⟨#[], c1.keeps k, t1'⟩⟩, ⟨⟨#[], c2.keeps k, t2'⟩⟩⟩, t1', t2'⟩

theorem ns_same {h : Heap} {a : Addr} {m m' : Str → Option Value} (x : h.Ns a m) (y : h.Ns a m') (n : Str) : m n = m' n := by
  obtain ⟨o, es, ep, ho, hd, _, hf⟩ := x
  obtain ⟨o', es', ep', ho', hd', _, hf'⟩ := y
  rw [ho] at ho'; cases ho'
  rw [hd] at hd'; cases hd'
  exact (hf n).symm.trans (hf' n)
/-- the law's own address -/
theorem law_at {h : Heap} {mg : Str → Option Value} {fa : Addr} (b : Bg h) (hg : h.Ns 3 mg) (e : mg (Str.ofString "law") = some (.ref fa)) : fa = 148 := by
  have e2 := ns_same hg b.bs.gl.g (Str.ofString "law")
  rw [e] at e2
  have e3 : glTab.lookup (Str.ofString "law") = some (.ref 148) := by decide +kernel
  rw [e3] at e2
  cases e2; rfl
end Mine
end

open PySem PySem.W PyProof.Rows
set_option maxRecDepth 100000
set_option maxHeartbeats 8000000
theorem PySem.Challenge.cw_rl0015_01_holds : PySem.Challenge.rw_rl0015_01.Holds := by
  w_on; o_law; o_head Mine.hook; (case hw => w_witness2)
  intro w s₀ s₁ mg mb G Y fa o pm cd doc dV kV ho hd hcd hD hmg hg args vals as hpre hlay hrd hwl hlo
  refine Ground.open G ?_
  intro T B D TE TW
  wrow_args hpre hlay hrd hwl hlo
  rename_i ns _ _ _ _ _ _ _ a vs _ hL _ _ _ hI _ hc _
  obtain ⟨bg, t1, t2⟩ := Mine.seen_bg Y T.nolimit T.b T.builtins
  obtain rfl := Mine.law_at bg T.g hmg
  obtain ⟨hp, hk⟩ := hD
  rcases hp with ⟨_, rfl⟩ | ⟨h, _⟩
  · rcases hk with ⟨_, rfl⟩ | ⟨h, _⟩
    · exact (Mine.law_walk (w := w) (A := callerA) (pm := pm) (cd := cd) (doc := doc) bg ho hd hcd hL (Mine.Are.of_ints hI) (by omega) (by show 1 + claimMargin < 400; decide) rfl (by decide)).upm fun v s' hv => by
        obtain ⟨rfl, hx, b⟩ := hv
        exact Mine.good_of (fun _ => rfl) (by first | rfl | wrow_post) hx b t1 t2 hg
    · exact absurd rfl h
  · exact absurd rfl h
