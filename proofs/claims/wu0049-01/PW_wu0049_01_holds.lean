import PyProof.Rows.All
import KE.KNestM
import KE.KSuperObj
import Wide.FinOn
import OpenK.AllK
import Wide.All
import Lean
import PySem.Challenge.RW_wu0049_01
open PySem PySem.W PySem.Spec PySem.Calls PyProof.Rows PyProof.V
set_option Elab.async false
set_option maxRecDepth 100000
set_option linter.all false
set_option compiler.extract_closed false
namespace Mine
def view : Program := { PySem.Challenge.pw_wu0049_01 with main := { PySem.Challenge.pw_wu0049_01.main with body := [0, 2, 3, 5, 6, 8, 9, 10, 12, 13, 14, 15, 16, 18, 19, 20, 21].filterMap fun i => PySem.Challenge.pw_wu0049_01.main.body[i]? } }
theorem said_so : OpenLaw.wellSaid PySem.Challenge.rw_wu0049_01 = true := by
  unfold OpenLaw.wellSaid OpenRow.wellSaid OpenRow.partSaid looksOpen
  repeat' (with_reducible refine look_both ?_ ?_)
  all_goals decide +kernel
section
local macro_rules
  | `(tactic| o_law) => `(tactic| refine holds_law said_so fun said => ?_)
local macro_rules
  | `(tactic| o_head ($_ $k $a $e)) => `(tactic| (
      refine holds_open (q := view) (loose := [Str.ofString "_Accumulator"]) (Xt := fun s => xlAt view [] s && recOk (RowW.records (OpenRow.toRowW (OpenLaw.row PySem.Challenge.rw_wu0049_01))) s) (XP := XL view [])
        (Yf := Hook.obs (kmHook $k $a $e [77, 84])) (Ya := Hook.val (kmHook $k $a $e [77, 84])) (YP := Hook.says (kmHook $k $a $e [77, 84])) (N := 2744) ?hl (Hook.of _) (Hook.keeps _) (fun s e => xl_of s (Bool.and_eq_true_iff.mp e).1) XL.keeps (by rfl) (by rfl) (by rfl)
        (fun s e => recFacts_of (Bool.and_eq_true_iff.mp e).2) (by rfl) (by first | assumption | decide +kernel) (by decide +kernel) ⟨rfl, rfl, rfl, rfl, rfl, by decide +kernel⟩ ?hw ?hc
      case hl => exact fun w => by kernel_rfl))
set_option maxHeartbeats 8000000 in
open_top hd for PySem.Challenge.rw_wu0049_01
end
set_option maxHeartbeats 4000000
-- M1
/-! plain values, objects, frames -/
inductive V where
  | none
  | bool (b : Bool)
  | int (i : Int)
  | str (x : Str)
  | val (v : Value)
  | tup (l : List V)
abbrev tupleOf (vs : List Value) (n : Nat) : Obj := { cls := .type "tuple", data := .seq vs.toArray n }
mutual
inductive VR (H : Addr → Prop) (h : Heap) : V → Value → Prop
  | none : VR H h .none .none
  | bool (b : Bool) : VR H h (.bool b) (.bool b)
  | int (i : Int) (t : Tok) : VR H h (.int i) (.int i t)
  | str (x : Str) (t : Tok) : VR H h (.str x) (.str x t)
  | val (v : Value) : VR H h (.val v) v
  | tup {l : List V} {vs : List Value} {a : Addr} {n : Nat} : H a → h.get? a = some (tupleOf vs n) → VRs H h l vs → VR H h (.tup l) (.ref a)
inductive VRs (H : Addr → Prop) (h : Heap) : List V → List Value → Prop
  | nil : VRs H h [] []
  | cons {x : V} {l : List V} {v : Value} {vs : List Value} : VR H h x v → VRs H h l vs → VRs H h (x :: l) (v :: vs)
end
noncomputable def TK (H : Addr → Prop) (h h' : Heap) : Prop := ∀ a vs n, H a → h.get? a = some (tupleOf vs n) → h'.get? a = some (tupleOf vs n)
theorem TK.refl {H : Addr → Prop} (h : Heap) : TK H h h := fun _ _ _ _ e => e
theorem TK.trans {H : Addr → Prop} {a b c : Heap} (x : TK H a b) (y : TK H b c) : TK H a c := fun i vs n q e => y i vs n q (x i vs n q e)
theorem TK.of_keep {H : Addr → Prop} {h h' : Heap} (k : ∀ b o, h.get? b = some o → h'.get? b = some o) : TK H h h' := fun _ _ _ _ e => k _ _ e
mutual
theorem VR.mono {H : Addr → Prop} {h h' : Heap} (k : TK H h h') : ∀ {x : V} {v : Value}, VR H h x v → VR H h' x v
  | _, _, .none => .none
  | _, _, .bool b => .bool b
  | _, _, .int i t => .int i t
  | _, _, .str x t => .str x t
  | _, _, .val v => .val v
  | _, _, .tup q e r => .tup q (k _ _ _ q e) (VRs.mono k r)
theorem VRs.mono {H : Addr → Prop} {h h' : Heap} (k : TK H h h') : ∀ {l : List V} {vs : List Value}, VRs H h l vs → VRs H h' l vs
  | _, _, .nil => .nil
  | _, _, .cons a r => .cons (VR.mono k a) (VRs.mono k r)
end
theorem VRs.length {H : Addr → Prop} {h : Heap} : ∀ {l : List V} {vs : List Value}, VRs H h l vs → l.length = vs.length
  | _, _, .nil => rfl
  | _, _, .cons _ r => by rw [List.length_cons, List.length_cons, VRs.length r]
theorem VRs.get {H : Addr → Prop} {h : Heap} : ∀ {l : List V} {vs : List Value}, VRs H h l vs → ∀ {i : Nat} {x : V}, l[i]? = some x → ∃ v, vs[i]? = some v ∧ VR H h x v
  | _, _, .nil, i, x, e => by simp at e
  | _, _, .cons a r, 0, x, e => by simp at e; subst e; exact ⟨_, rfl, a⟩
  | _, _, .cons a r, i + 1, x, e => by simpa using VRs.get r (by simpa using e)
theorem VRs.getr {H : Addr → Prop} {h : Heap} : ∀ {l : List V} {vs : List Value}, VRs H h l vs → ∀ {i : Nat} {v : Value}, vs[i]? = some v → ∃ x, l[i]? = some x ∧ VR H h x v
  | _, _, .nil, i, x, e => by simp at e
  | _, _, .cons a r, 0, x, e => by simp at e; subst e; exact ⟨_, rfl, a⟩
  | _, _, .cons a r, i + 1, x, e => by simpa using VRs.getr r (by simpa using e)
theorem VRs.append {H : Addr → Prop} {h : Heap} : ∀ {l : List V} {vs : List Value} {l' : List V} {vs' : List Value}, VRs H h l vs → VRs H h l' vs' → VRs H h (l ++ l') (vs ++ vs')
  | _, _, _, _, .nil, y => y
  | _, _, _, _, .cons a r, y => .cons a (VRs.append r y)
theorem VRs.drop {H : Addr → Prop} {h : Heap} : ∀ {l : List V} {vs : List Value}, VRs H h l vs → ∀ k, VRs H h (l.drop k) (vs.drop k)
  | _, _, .nil, k => by simp; exact .nil
  | _, _, .cons a r, 0 => .cons a r
  | _, _, .cons a r, k + 1 => VRs.drop r k
theorem VRs.take {H : Addr → Prop} {h : Heap} : ∀ {l : List V} {vs : List Value}, VRs H h l vs → ∀ k, VRs H h (l.take k) (vs.take k)
  | _, _, .nil, k => by simp; exact .nil
  | _, _, .cons a r, 0 => .nil
  | _, _, .cons a r, k + 1 => .cons a (VRs.take r k)
theorem VRs.set {H : Addr → Prop} {h : Heap} : ∀ {l : List V} {vs : List Value}, VRs H h l vs → ∀ k {x : V} {v : Value}, VR H h x v → VRs H h (l.set k x) (vs.set k v)
  | _, _, .nil, k, _, _, _ => .nil
  | _, _, .cons a r, 0, _, _, y => .cons y r
  | _, _, .cons a r, k + 1, _, _, y => .cons a (VRs.set r k y)
theorem VRs.one {H : Addr → Prop} {h : Heap} {x : V} {v : Value} (a : VR H h x v) : VRs H h [x] [v] := .cons a .nil
theorem VR.int_inv {H : Addr → Prop} {h : Heap} {i : Int} {v : Value} (x : VR H h (.int i) v) : ∃ t, v = .int i t := by cases x; exact ⟨_, rfl⟩
theorem VR.str_inv {H : Addr → Prop} {h : Heap} {i : Str} {v : Value} (x : VR H h (.str i) v) : ∃ t, v = .str i t := by cases x; exact ⟨_, rfl⟩
theorem VR.bool_inv {H : Addr → Prop} {h : Heap} {i : Bool} {v : Value} (x : VR H h (.bool i) v) : v = .bool i := by cases x; rfl
theorem VR.none_inv {H : Addr → Prop} {h : Heap} {v : Value} (x : VR H h .none v) : v = .none := by cases x; rfl
theorem VR.val_inv {H : Addr → Prop} {h : Heap} {u v : Value} (x : VR H h (.val u) v) : v = u := by cases x; rfl
theorem VR.tup_inv {H : Addr → Prop} {h : Heap} {l : List V} {v : Value} (x : VR H h (.tup l) v) : ∃ a vs n, v = .ref a ∧ h.get? a = some (tupleOf vs n) ∧ VRs H h l vs := by
  cases x with
  | tup _ e r => exact ⟨_, _, _, rfl, e, r⟩
theorem VR.tup_ok {H : Addr → Prop} {h : Heap} {l : List V} {a : Addr} (x : VR H h (.tup l) (.ref a)) : H a := by cases x; assumption
inductive Ob where
  | lst (l : List V)
  | acc (C dx : Addr) (l : List V)
  | exact (o : Obj)
  | rng (a b c : Int)
  | prop (p : Obj → Prop)
inductive OR (H : Addr → Prop) (h : Heap) : Ob → Obj → Prop
  | lst {l : List V} {vs : List Value} {n : Nat} : VRs H h l vs → OR H h (.lst l) (listOf vs.toArray n)
  | acc {C dx : Addr} {l : List V} {vs : List Value} {n : Nat} : VRs H h l vs → OR H h (.acc C dx l) { cls := .ref C, dict := some dx, data := .seq vs.toArray n }
  | exact (o : Obj) : OR H h (.exact o) o
  | rng {a b c : Int} {t u v : Tok} : OR H h (.rng a b c) { cls := .type "range", data := .fields #[.int a t, .int b u, .int c v] }
  | prop {p : Obj → Prop} {o : Obj} : p o → OR H h (.prop p) o
theorem OR.mono {H : Addr → Prop} {h h' : Heap} (k : TK H h h') {b : Ob} {o : Obj} (x : OR H h b o) : OR H h' b o := by
  cases x with
  | lst r => exact .lst (r.mono k)
  | acc r => exact .acc (r.mono k)
  | exact => exact .exact _
  | rng => exact .rng
  | prop q => exact .prop q
noncomputable def At (H : Addr → Prop) (h : Heap) (a : Addr) (b : Ob) : Prop := ∃ o, h.get? a = some o ∧ OR H h b o
theorem At.keep {H : Addr → Prop} {h h' : Heap} {a : Addr} {b : Ob} (x : At H h a b) (k : ∀ b o, h.get? b = some o → h'.get? b = some o) : At H h' a b := let ⟨o, e, r⟩ := x; ⟨o, k _ _ e, r.mono (.of_keep k)⟩
theorem At.other {H : Addr → Prop} {h h' : Heap} {a : Addr} {b : Ob} (x : At H h a b) (t : TK H h h') (e : h'.get? a = h.get? a) : At H h' a b := let ⟨o, q, r⟩ := x; ⟨o, e.trans q, r.mono t⟩
structure Cx where
  prog : Program
  w : World
  A : Around
  env : Env
  K : Frag
  p : Program
  loose : List Str
  mg : Str → Option Value
  mb : Str → Option Value
  old : List (Addr × Ob)
  os : OsState
  wr : Str → Bool
  H : Addr → Prop
structure Cx.Ok (C : Cx) : Prop where
  fn : C.env.scope.kind = .function
  glob : C.env.globals = mainGlobals
  blt : C.env.builtins = builtinsNs
  hand : C.A.handled = none
  depth : C.A.depth < 800
  units : C.A.units < 2000
abbrev Mem := List (Addr × Ob)
noncomputable def Bd (C : Cx) (m : Str → Option Value) (h : Heap) (x : Str) (v : V) : Prop :=
  (C.env.kindOf x = some .local ∧ ∃ u, m x = some u ∧ VR C.H h v u) ∨
  ((C.env.kindOf x = some .cell ∨ C.env.kindOf x = some .free) ∧ (x == ("__classdict__" : Str)) = false ∧ ∃ c u, C.env.cells.lookup x = some c ∧ h.IsCell c (some u) ∧ VR C.H h v u)
inductive Lk : List Str → List (Option V) → Str → V → Prop
  | head {x : Str} {ks : List Str} {v : V} {l : List (Option V)} : Lk (x :: ks) (some v :: l) x v
  | tail {x k : Str} {ks : List Str} {u : Option V} {v : V} {l : List (Option V)} : Lk ks l x v → Lk (k :: ks) (u :: l) x v
inductive Up : List Str → List (Option V) → Str → V → List (Option V) → Prop
  | head {x : Str} {ks : List Str} {u : Option V} {v : V} {l : List (Option V)} : Up (x :: ks) (u :: l) x v (some v :: l)
  | tail {x k : Str} {ks : List Str} {u : Option V} {v : V} {l l' : List (Option V)} : Up ks l x v l' → Up (k :: ks) (u :: l) x v (u :: l')
inductive Mu : Mem → Addr → Ob → Ob → Mem → Prop
  | head {a : Addr} {b b' : Ob} {μ : Mem} : Mu ((a, b) :: μ) a b b' ((a, b') :: μ)
  | tail {a : Addr} {b b' : Ob} {q : Addr × Ob} {μ μ' : Mem} : Mu μ a b b' μ' → Mu (q :: μ) a b b' (q :: μ')
structure Rel (C : Cx) (ks : List Str) (l : List (Option V)) (μ : Mem) (h₀ : Heap) (s : Shared) : Prop where
  ns : ∃ m, s.heap.Ns C.env.locals m ∧ ∀ x v, Lk ks l x v → Bd C m s.heap x v
  keep : ∀ b o, h₀.get? b = some o → s.heap.get? b = some o
  mem : ∀ p ∈ μ, At C.H s.heap p.1 p.2 ∧ h₀.get? p.1 = none
  nd : (C.env.locals :: (C.env.cells.map (·.2) ++ μ.map (·.1))).Nodup
  l0 : h₀.get? C.env.locals = none
  cells : ∀ p ∈ C.env.cells, (∃ v, s.heap.IsCell p.2 v) ∧ (C.wr p.1 = true → h₀.get? p.2 = none)
  bare : AllBare s.gens
  os : s.os = C.os
  inK : C.K.In h₀
  top : TopRead C.p C.loose C.mg C.mb h₀
  old : ∀ p ∈ C.old, At C.H h₀ p.1 p.2
  off : ∀ a, ¬ C.H a → ∃ o, s.heap.get? a = some o
theorem none_size (h : Heap) : h.get? h.objs.size = none := by
  cases e : h.get? h.objs.size with
  | none => rfl
  | some o => exact absurd (Heap.lt_size e) (Nat.lt_irrefl _)
-- M2
theorem Lk.mem {ks : List Str} {l : List (Option V)} {x : Str} {v : V} (h : Lk ks l x v) : x ∈ ks := by
  induction h with
  | head => exact .head _
  | tail _ ih => exact .tail _ ih
theorem Up.spec {ks : List Str} {l l' : List (Option V)} {x : Str} {v : V} (u : Up ks l x v l') : ks.Nodup → ∀ {y : Str} {w : V}, Lk ks l' y w → (y = x ∧ w = v) ∨ (y ≠ x ∧ Lk ks l y w) := by
  induction u with
  | head =>
    intro nd y w h
    cases h with
    | head => exact .inl ⟨rfl, rfl⟩
    | tail h => exact .inr ⟨fun e => (List.nodup_cons.mp nd).1 (e ▸ h.mem), .tail h⟩
  | tail u ih =>
    intro nd y w h
    cases h with
    | head => exact .inr ⟨fun e => (List.nodup_cons.mp nd).1 (by
        have : ∀ {ks : List Str} {l l' : List (Option V)} {x : Str} {v : V}, Up ks l x v l' → x ∈ ks := by
          intro ks l l' x v u
          induction u with
          | head => exact .head _
          | tail _ ih => exact .tail _ ih
        rw [e]; exact this u), .head⟩
    | tail h =>
      rcases ih (List.nodup_cons.mp nd).2 h with ⟨a, b⟩ | ⟨a, b⟩
      · exact .inl ⟨a, b⟩
      · exact .inr ⟨a, .tail b⟩
theorem Mu.old {μ μ' : Mem} {a : Addr} {b b' : Ob} (u : Mu μ a b b' μ') : (a, b) ∈ μ := by
  induction u with
  | head => exact .head _
  | tail _ ih => exact .tail _ ih
theorem Mu.keys {μ μ' : Mem} {a : Addr} {b b' : Ob} (u : Mu μ a b b' μ') : μ'.map (·.1) = μ.map (·.1) := by
  induction u with
  | head => rfl
  | tail _ ih => rw [List.map_cons, List.map_cons, ih]
theorem Mu.spec {μ μ' : Mem} {a : Addr} {b b' : Ob} (u : Mu μ a b b' μ') : (μ.map (·.1)).Nodup → ∀ p ∈ μ', (p = (a, b')) ∨ (p.1 ≠ a ∧ p ∈ μ) := by
  induction u with
  | head =>
    intro nd p hp
    rcases List.mem_cons.mp hp with rfl | hp
    · exact .inl rfl
    · refine .inr ⟨fun e => (List.nodup_cons.mp nd).1 ?_, .tail _ hp⟩
      have := List.mem_map_of_mem (f := fun x : Addr × Ob => x.1) hp
      rw [e] at this; exact this
  | tail u ih =>
    intro nd p hp
    rcases List.mem_cons.mp hp with rfl | hp
    · refine .inr ⟨fun e => (List.nodup_cons.mp nd).1 ?_, .head _⟩
      have := List.mem_map_of_mem (f := fun x : Addr × Ob => x.1) u.old
      show p.1 ∈ _
      rw [e]; exact this
    · rcases ih (List.nodup_cons.mp nd).2 p hp with e | ⟨e, h⟩
      · exact .inl e
      · exact .inr ⟨e, .tail _ h⟩
theorem Bd.mono {C : Cx} {m : Str → Option Value} {h h' : Heap} {x : Str} {v : V} (b : Bd C m h x v) (t : TK C.H h h') (c : ∀ c u, C.env.cells.lookup x = some c → h.IsCell c u → h'.IsCell c u) : Bd C m h' x v := by
  rcases b with ⟨k, u, e, r⟩ | ⟨k, n, a, u, e, i, r⟩
  · exact .inl ⟨k, u, e, r.mono t⟩
  · exact .inr ⟨k, n, a, u, e, c a _ e i, r.mono t⟩
theorem lookup_mem {α β : Type} [BEq α] [LawfulBEq α] {l : List (α × β)} {x : α} {c : β} (e : l.lookup x = some c) : (x, c) ∈ l := by
  induction l with
  | nil => cases e
  | cons p r ih =>
    rw [List.lookup_cons] at e
    split at e
    · rename_i q
      cases e
      have := eq_of_beq q
      subst this
      exact .head _
    · exact .tail _ (ih e)
section
variable {C : Cx} {ks : List Str} {l l' : List (Option V)} {μ μ' : Mem} {h₀ : Heap} {s : Shared}
theorem Rel.keeps (R : Rel C ks l μ h₀ s) {h' : Heap} {tk : Nat} (k : ∀ b o, s.heap.get? b = some o → h'.get? b = some o) : Rel C ks l μ h₀ { s with heap := h', toks := tk } where
  ns := let ⟨m, n, b⟩ := R.ns; ⟨m, n.keeps k, fun x v q => (b x v q).mono (.of_keep k) fun c u _ i => i.keeps k⟩
  keep := fun b o e => k b o (R.keep b o e)
  mem := fun p hp => ⟨(R.mem p hp).1.keep k, (R.mem p hp).2⟩
  nd := R.nd
  l0 := R.l0
  cells := fun p hp => ⟨let ⟨v, i⟩ := (R.cells p hp).1; ⟨v, i.keeps k⟩, (R.cells p hp).2⟩
  bare := R.bare
  os := R.os
  inK := R.inK
  top := R.top
  old := R.old
  off := fun a q => let ⟨o, e⟩ := R.off a q; ⟨o, k _ _ e⟩
theorem Rel.H_new (R : Rel C ks l μ h₀ s) {a : Addr} (hn : s.heap.get? a = none) : C.H a := Classical.byContradiction fun q => by obtain ⟨o, e⟩ := R.off a q; rw [hn] at e; cases e
theorem Rel.toks (R : Rel C ks l μ h₀ s) {tk : Nat} : Rel C ks l μ h₀ { s with toks := tk } := R.keeps fun _ _ e => e
theorem Rel.keepsG (R : Rel C ks l μ h₀ s) {s' : Shared} (k : ∀ b o, s.heap.get? b = some o → s'.heap.get? b = some o) (g : AllBare s'.gens) (o : s'.os = s.os) : Rel C ks l μ h₀ s' where
  ns := let ⟨m, n, b⟩ := R.ns; ⟨m, n.keeps k, fun x v q => (b x v q).mono (.of_keep k) fun c u _ i => i.keeps k⟩
  keep := fun b o e => k b o (R.keep b o e)
  mem := fun p hp => ⟨(R.mem p hp).1.keep k, (R.mem p hp).2⟩
  nd := R.nd
  l0 := R.l0
  cells := fun p hp => ⟨let ⟨v, i⟩ := (R.cells p hp).1; ⟨v, i.keeps k⟩, (R.cells p hp).2⟩
  bare := g
  os := o.trans R.os
  inK := R.inK
  top := R.top
  old := R.old
  off := fun a q => let ⟨o, e⟩ := R.off a q; ⟨o, k _ _ e⟩
theorem Rel.off_same (R : Rel C ks l μ h₀ s) {d : Addr} {h' : Heap} (hs : Heap.SameBut d s.heap h') (hd : ∃ o, h'.get? d = some o) : ∀ a, ¬ C.H a → ∃ o, h'.get? a = some o := fun a q => by
  by_cases e : a = d
  · rw [e]; exact hd
  · obtain ⟨o, ho⟩ := R.off a q
    exact ⟨o, (hs.2 a e).trans ho⟩
theorem Rel.new_ne (R : Rel C ks l μ h₀ s) {a : Addr} (hn : s.heap.get? a = none) : a ∉ C.env.locals :: (C.env.cells.map (·.2) ++ μ.map (·.1)) := by
  intro h
  rcases List.mem_cons.mp h with rfl | h
  · obtain ⟨m, ⟨o, _, _, ho, _⟩, _⟩ := R.ns
    rw [hn] at ho; cases ho
  · rcases List.mem_append.mp h with h | h
    · obtain ⟨p, hp, rfl⟩ := List.mem_map.mp h
      obtain ⟨⟨v, o, ho, _⟩, _⟩ := R.cells p hp
      rw [hn] at ho; cases ho
    · obtain ⟨p, hp, rfl⟩ := List.mem_map.mp h
      obtain ⟨o, ho, _⟩ := (R.mem p hp).1
      rw [hn] at ho; cases ho
theorem Rel.new0 (R : Rel C ks l μ h₀ s) {a : Addr} (hn : s.heap.get? a = none) : h₀.get? a = none := by
  cases q : h₀.get? a with
  | none => rfl
  | some o => have := R.keep a o q; rw [hn] at this; cases this
theorem Rel.grow (R : Rel C ks l μ h₀ s) {a : Addr} {b : Ob} (ha : At C.H s.heap a b) (hf : a ∉ C.env.locals :: (C.env.cells.map (·.2) ++ μ.map (·.1))) (h0 : h₀.get? a = none) : Rel C ks l ((a, b) :: μ) h₀ s where
  ns := R.ns
  keep := R.keep
  mem := fun p hp => (List.mem_cons.mp hp).elim (fun e => by subst e; exact ⟨ha, h0⟩) (R.mem p)
  nd := by
    have h := R.nd
    have p : (C.env.locals :: (C.env.cells.map (·.2) ++ ((a, b) :: μ).map (·.1))).Perm (a :: C.env.locals :: (C.env.cells.map (·.2) ++ μ.map (·.1))) := by
      rw [List.map_cons]
      refine (List.Perm.cons _ List.perm_middle).trans ?_
      exact List.Perm.swap ..
    exact p.nodup_iff.mpr (List.nodup_cons.mpr ⟨hf, h⟩)
  l0 := R.l0
  cells := R.cells
  bare := R.bare
  os := R.os
  inK := R.inK
  top := R.top
  old := R.old
  off := R.off
theorem Rel.drop (R : Rel C ks l μ h₀ s) (hs : List.Sublist μ' μ) : Rel C ks l μ' h₀ s where
  ns := R.ns
  keep := R.keep
  mem := fun p hp => R.mem p (hs.subset hp)
  nd := R.nd.sublist ((((hs.map (·.1)).append_left _)).cons_cons _)
  l0 := R.l0
  cells := R.cells
  bare := R.bare
  os := R.os
  inK := R.inK
  top := R.top
  old := R.old
  off := R.off
theorem Rel.at (R : Rel C ks l μ h₀ s) {a : Addr} {b : Ob} (h : (a, b) ∈ μ) : At C.H s.heap a b := (R.mem _ h).1
theorem Rel.atOld (R : Rel C ks l μ h₀ s) {a : Addr} {b : Ob} (h : (a, b) ∈ C.old) : At C.H s.heap a b := (R.old _ h).keep R.keep
theorem Rel.ndm (R : Rel C ks l μ h₀ s) : (μ.map (·.1)).Nodup := (List.nodup_append.mp (List.nodup_cons.mp R.nd).2).2.1
noncomputable def NoTup (b : Ob) : Prop := match b with | .exact _ => False | .prop _ => False | _ => True
theorem NoTup.ne {H : Addr → Prop} {h : Heap} {b : Ob} {o : Obj} (n : NoTup b) (r : OR H h b o) : ∀ vs k, o ≠ tupleOf vs k := by
  cases r with
  | lst => intro vs k e; have := congrArg Obj.cls e; simp at this
  | acc => intro vs k e; have := congrArg Obj.cls e; simp at this
  | exact => exact n.elim
  | prop => exact n.elim
  | rng => intro vs k e; have := congrArg Obj.cls e; simp at this
theorem tk_same {h h' : Heap} {d : Addr} {o : Obj} (hs : Heap.SameBut d h h') (ho : h.get? d = some o) (hn : ∀ vs k, o ≠ tupleOf vs k) {H : Addr → Prop} : TK H h h' := fun a vs n _ e => by
  by_cases q : a = d
  · subst q
    rw [ho] at e
    cases e
    exact absurd rfl (hn vs n)
  · exact (hs.2 a q).trans e
theorem Rel.mut (R : Rel C ks l μ h₀ s) {d : Addr} {b b' : Ob} (U : Mu μ d b b' μ') (hb : NoTup b) {h' : Heap} {tk : Nat} (hs : Heap.SameBut d s.heap h') (ha : At C.H h' d b') :
    Rel C ks l μ' h₀ { s with heap := h', toks := tk } ∧ TK C.H s.heap h' := by
  obtain ⟨⟨o, ho, ro⟩, h0⟩ := R.mem _ U.old
  have t : TK C.H s.heap h' := tk_same hs ho (hb.ne ro)
  have dm : d ∈ μ.map (·.1) := List.mem_map_of_mem (f := (·.1)) U.old
  have nL : C.env.locals ≠ d := fun e => (List.nodup_cons.mp R.nd).1 (List.mem_append_right _ (e ▸ dm))
  have nC : ∀ p ∈ C.env.cells, p.2 ≠ d := fun p hp e => (List.nodup_append.mp (List.nodup_cons.mp R.nd).2).2.2 _ (List.mem_map_of_mem (f := (·.2)) hp) _ dm e
  refine ⟨⟨?_, ?_, ?_, ?_, R.l0, ?_, R.bare, R.os, R.inK, R.top, R.old, R.off_same hs (let ⟨o, e, _⟩ := ha; ⟨o, e⟩)⟩, t⟩
  · obtain ⟨m, n, b⟩ := R.ns
    exact ⟨m, n.sameBut hs nL, fun x v q => (b x v q).mono t fun c u e i => i.sameBut hs (nC _ (lookup_mem e))⟩
  · intro b o e
    exact (hs.2 b (fun q => by subst q; rw [h0] at e; cases e)).trans (R.keep b o e)
  · intro p hp
    rcases U.spec R.ndm p hp with rfl | ⟨e, hp⟩
    · exact ⟨ha, h0⟩
    · exact ⟨(R.mem p hp).1.other t (hs.2 _ e), (R.mem p hp).2⟩
  · rw [U.keys]; exact R.nd
  · intro p hp
    exact ⟨let ⟨v, i⟩ := (R.cells p hp).1; ⟨v, i.sameBut hs (nC p hp)⟩, (R.cells p hp).2⟩
theorem Rel.store (R : Rel C ks l μ h₀ s) (nk : ks.Nodup) {x : Str} {v : V} {u : Value} (U : Up ks l x v l') (hk : C.env.kindOf x = some .local) (hv : VR C.H s.heap v u) {h' : Heap} {tk : Nat} {m : Str → Option Value}
    (hm : s.heap.Ns C.env.locals m) (hb : ∀ x v, Lk ks l x v → Bd C m s.heap x v) (hn : h'.Ns C.env.locals (fun y => if y = x then some u else m y)) (hs : Heap.SameBut C.env.locals s.heap h') :
    Rel C ks l' μ h₀ { s with heap := h', toks := tk } ∧ TK C.H s.heap h' := by
  have t : TK C.H s.heap h' := by
    obtain ⟨o, es, ep, ho, hd, _⟩ := hm
    refine tk_same hs ho fun vs k e => ?_
    subst e; cases hd
  have nM : ∀ p ∈ μ, p.1 ≠ C.env.locals := fun p hp e => (List.nodup_cons.mp R.nd).1 (List.mem_append_right _ (e ▸ List.mem_map_of_mem (f := (·.1)) hp))
  have nC : ∀ p ∈ C.env.cells, p.2 ≠ C.env.locals := fun p hp e => (List.nodup_cons.mp R.nd).1 (List.mem_append_left _ (e ▸ List.mem_map_of_mem (f := (·.2)) hp))
  refine ⟨⟨⟨_, hn, ?_⟩, ?_, ?_, R.nd, R.l0, ?_, R.bare, R.os, R.inK, R.top, R.old, R.off_same hs (let ⟨o, _, _, e, _⟩ := hn; ⟨o, e⟩)⟩, t⟩
  · intro y w q
    rcases U.spec nk q with ⟨rfl, rfl⟩ | ⟨ne, q⟩
    · exact .inl ⟨hk, u, if_pos rfl, hv.mono t⟩
    · rcases hb y w q with ⟨k, u', e, r⟩ | ⟨k, n, a, u', e, i, r⟩
      · exact .inl ⟨k, u', (if_neg ne).trans e, r.mono t⟩
      · exact .inr ⟨k, n, a, u', e, i.sameBut hs (nC _ (lookup_mem e)), r.mono t⟩
  · intro b o e
    exact (hs.2 b (fun q => by subst q; rw [R.l0] at e; cases e)).trans (R.keep b o e)
  · intro p hp
    exact ⟨(R.mem p hp).1.other t (hs.2 _ (nM p hp)), (R.mem p hp).2⟩
  · intro p hp
    exact ⟨let ⟨v, i⟩ := (R.cells p hp).1; ⟨v, i.sameBut hs (nC p hp)⟩, (R.cells p hp).2⟩
/-- storing a cell variable -/
theorem Rel.storeC (R : Rel C ks l μ h₀ s) (nk : ks.Nodup) {x : Str} {v : V} {u : Value} {c : Addr} (U : Up ks l x v l') (hk : C.env.kindOf x = some .cell) (hx : (x == ("__classdict__" : Str)) = false) (hc : C.env.cells.lookup x = some c) (hw : C.wr x = true)
    (hinj : (C.env.cells.map (·.1)).Nodup) (hv : VR C.H s.heap v u) {h' : Heap} {tk : Nat} (hn : h'.IsCell c (some u)) (hs : Heap.SameBut c s.heap h') :
    Rel C ks l' μ h₀ { s with heap := h', toks := tk } ∧ TK C.H s.heap h' := by
  have hcm := lookup_mem hc
  obtain ⟨⟨v0, o, ho, hd⟩, h0⟩ := R.cells _ hcm
  have t : TK C.H s.heap h' := tk_same hs ho fun vs k e => by subst e; cases hd
  have h0 := h0 hw
  have cc : c ∈ C.env.cells.map (·.2) := List.mem_map_of_mem (f := (·.2)) hcm
  have nL : C.env.locals ≠ c := fun e => (List.nodup_cons.mp R.nd).1 (List.mem_append_left _ (e ▸ cc))
  have nM : ∀ p ∈ μ, p.1 ≠ c := fun p hp e => (List.nodup_append.mp (List.nodup_cons.mp R.nd).2).2.2 _ cc _ (List.mem_map_of_mem (f := (·.1)) hp) e.symm
  have nC2 : (C.env.cells.map (·.2)).Nodup := (List.nodup_append.mp (List.nodup_cons.mp R.nd).2).1
  have inj : ∀ p ∈ C.env.cells, p.2 = c → p = (x, c) := by
    intro p hp e
    have : ∀ {L : List (Str × Addr)}, (L.map (·.2)).Nodup → ∀ p ∈ L, ∀ q ∈ L, p.2 = q.2 → p = q := by
      intro L
      induction L with
      | nil => intro _ p hp; cases hp
      | cons a r ih =>
        intro nd p hp q hq e
        rw [List.map_cons, List.nodup_cons] at nd
        rcases List.mem_cons.mp hp with e1 | hp <;> rcases List.mem_cons.mp hq with e2 | hq
        · rw [e1, e2]
        · exact absurd (by rw [← e1, e]; exact List.mem_map_of_mem (f := fun x : Str × Addr => x.2) hq) nd.1
        · exact absurd (by rw [← e2, ← e]; exact List.mem_map_of_mem (f := fun x : Str × Addr => x.2) hp) nd.1
        · exact ih nd.2 p hp q hq e
    exact this nC2 p hp _ hcm e
  refine ⟨⟨?_, ?_, ?_, R.nd, R.l0, ?_, R.bare, R.os, R.inK, R.top, R.old, R.off_same hs (let ⟨o, e, _⟩ := hn; ⟨o, e⟩)⟩, t⟩
  · obtain ⟨m, hm, hb⟩ := R.ns
    refine ⟨m, hm.sameBut hs nL, ?_⟩
    intro y w q
    rcases U.spec nk q with ⟨rfl, rfl⟩ | ⟨ne, q⟩
    · exact .inr ⟨.inl hk, hx, c, u, hc, hn, hv.mono t⟩
    · rcases hb y w q with ⟨k, u', e, r⟩ | ⟨k, n, a, u', e, i, r⟩
      · exact .inl ⟨k, u', e, r.mono t⟩
      · refine .inr ⟨k, n, a, u', e, i.sameBut hs (fun q => ne ?_), r.mono t⟩
        exact congrArg Prod.fst (inj _ (lookup_mem e) q)
  · intro b o e
    exact (hs.2 b (fun q => by subst q; rw [h0] at e; cases e)).trans (R.keep b o e)
  · intro p hp
    exact ⟨(R.mem p hp).1.other t (hs.2 _ (nM p hp)), (R.mem p hp).2⟩
  · intro p hp
    refine ⟨?_, (R.cells p hp).2⟩
    by_cases e : p.2 = c
    · exact ⟨_, e ▸ hn⟩
    · obtain ⟨v, i⟩ := (R.cells p hp).1
      exact ⟨v, i.sameBut hs e⟩
end
/-! the judgements -/
inductive Fl where
  | next
  | brk
  | ret (v : V)
inductive FlR (H : Addr → Prop) (h : Heap) : Fl → Flow → Prop
  | next : FlR H h .next .next
  | brk : FlR H h .brk .brk
  | ret {v : V} {u : Value} : VR H h v u → FlR H h (.ret v) (.ret u)
/-- an operation on values: from a related state to a related state and value -/
noncomputable def OP (C : Cx) (ks : List Str) (l : List (Option V)) (μ : Mem) (t : Sem Value) (Φ : V → Mem → Prop) (h₀ : Heap) (s : Shared) : Prop :=
  ∀ (Q E : Value → Shared → Prop), (∀ v μ' u s', Φ v μ' → TK C.H s.heap s'.heap → Rel C ks l μ' h₀ s' → VR C.H s'.heap v u → Q u s') → wpAny (model C.prog C.w) C.A t Q E s
noncomputable def EV (C : Cx) (ks : List Str) (l : List (Option V)) (μ : Mem) (e : Expr) (Φ : V → Mem → Prop) : Prop :=
  ∀ h₀ s, Rel C ks l μ h₀ s → OP C ks l μ (eval e C.env) Φ h₀ s
noncomputable def Is (v : V) (μ : Mem) (v' : V) (μ' : Mem) : Prop := v' = v ∧ μ' = μ
abbrev PV (C : Cx) (ks : List Str) (l : List (Option V)) (μ : Mem) (e : Expr) (v : V) : Prop := EV C ks l μ e (Is v μ)
noncomputable def TV (C : Cx) (ks : List Str) (l : List (Option V)) (μ : Mem) (e : Expr) (b : Bool) : Prop :=
  ∀ h₀ s, Rel C ks l μ h₀ s → ∀ (Q : Bool → Shared → Prop) (E : Value → Shared → Prop), (∀ s', TK C.H s.heap s'.heap → Rel C ks l μ h₀ s' → Q b s') → wpAny (model C.prog C.w) C.A (isTrue e C.env (eval e C.env)) Q E s
noncomputable def EX (C : Cx) (ks : List Str) (l : List (Option V)) (μ : Mem) (ss : List Stmt) (Ψ : Fl → List (Option V) → Mem → Prop) : Prop :=
  ∀ h₀ s, Rel C ks l μ h₀ s → ∀ (Q : Flow → Shared → Prop) (E : Value → Shared → Prop), (∀ f l' μ' fl s', Ψ f l' μ' → TK C.H s.heap s'.heap → Rel C ks l' μ' h₀ s' → FlR C.H s'.heap f fl → Q fl s') → wpAny (model C.prog C.w) C.A (execs ss C.env) Q E s
/-- one statement -/
noncomputable def E1 (C : Cx) (ks : List Str) (l : List (Option V)) (μ : Mem) (st : Stmt) (Ψ : Fl → List (Option V) → Mem → Prop) : Prop :=
  ∀ h₀ s, Rel C ks l μ h₀ s → ∀ (Q : Flow → Shared → Prop) (E : Value → Shared → Prop), (∀ f l' μ' fl s', Ψ f l' μ' → TK C.H s.heap s'.heap → Rel C ks l' μ' h₀ s' → FlR C.H s'.heap f fl → Q fl s') → wpAny (model C.prog C.w) C.A (exec st C.env) Q E s
section
variable {C : Cx} {ks : List Str} {l l' : List (Option V)} {μ μ' : Mem} {h₀ : Heap} {s : Shared}
theorem EV.mono {e : Expr} {Φ Φ' : V → Mem → Prop} (h : EV C ks l μ e Φ) (k : ∀ v μ', Φ v μ' → Φ' v μ') : EV C ks l μ e Φ' := fun h₀ s R Q E q => h h₀ s R Q E fun v μ' u s' p t r y => q v μ' u s' (k v μ' p) t r y
theorem EX.mono {ss : List Stmt} {Ψ Ψ' : Fl → List (Option V) → Mem → Prop} (h : EX C ks l μ ss Ψ) (k : ∀ f l' μ', Ψ f l' μ' → Ψ' f l' μ') : EX C ks l μ ss Ψ' := fun h₀ s R Q E q => h h₀ s R Q E fun f l' μ' fl s' p t r y => q f l' μ' fl s' (k f l' μ' p) t r y
theorem OP.pure {v : V} {u : Value} {Φ : V → Mem → Prop} {t : Sem Value} (R : Rel C ks l μ h₀ s) (hv : VR C.H s.heap v u) (hΦ : Φ v μ) (h : ∀ (Q E : Value → Shared → Prop), (∀ k, Q u { s with toks := k }) → wpAny (model C.prog C.w) C.A t Q E s) : OP C ks l μ t Φ h₀ s :=
  fun Q E q => h Q E fun k => q v μ u _ hΦ (TK.refl _) R.toks hv
theorem EX_nil {Ψ : Fl → List (Option V) → Mem → Prop} (h : Ψ .next l μ) : EX C ks l μ [] Ψ := fun h₀ s R Q E q => wpAny_pure (q .next l μ .next s h (TK.refl _) R .next)
abbrev Nx (C : Cx) (ks : List Str) (rest : List Stmt) (Ψ : Fl → List (Option V) → Mem → Prop) : Fl → List (Option V) → Mem → Prop := fun f l' μ' => match f with | .next => EX C ks l' μ' rest Ψ | f => Ψ f l' μ'
abbrev Lp (I : List (Option V) → Mem → Prop) (Ψ : Fl → List (Option V) → Mem → Prop) : Fl → List (Option V) → Mem → Prop := fun f l' μ' => match f with | .next => I l' μ' | .brk => Ψ .next l' μ' | .ret v => Ψ (.ret v) l' μ'
theorem EX_cons {st : Stmt} {rest : List Stmt} {Ψ : Fl → List (Option V) → Mem → Prop} (h : E1 C ks l μ st (Nx C ks rest Ψ)) : EX C ks l μ (st :: rest) Ψ := fun h₀ s R Q E q => by
  refine wpAny_execs_cons (h h₀ s R _ E fun f l' μ' fl s' p t r y => ?_)
  cases y with
  | next => exact p h₀ s' r Q E fun f l' μ' fl s'' p' t' r' y' => q f l' μ' fl s'' p' (t.trans t') r' y'
  | brk => exact q _ _ _ _ _ p t r .brk
  | ret v => exact q _ _ _ _ _ p t r (.ret v)
theorem storeName_rel {x : Str} {v : V} {u : Value} (ok : C.Ok) (nk : ks.Nodup) (R : Rel C ks l μ h₀ s) (U : Up ks l x v l') (hk : C.env.kindOf x = some .local) (hv : VR C.H s.heap v u) {Q : Unit → Shared → Prop} {E : Value → Shared → Prop}
    (q : ∀ s', TK C.H s.heap s'.heap → Rel C ks l' μ h₀ s' → Q () s') : wpAny (model C.prog C.w) C.A (storeName C.env x u) Q E s := by
  obtain ⟨m, hm, hb⟩ := R.ns
  refine wpAny_storeName_local hk hm (fun h' hn hs => ?_) (by rw [ok.fn]; rfl)
  have := R.store nk U hk hv hm hb hn hs (tk := s.toks + 1)
  exact q _ this.2 this.1
theorem storeName_relC {x : Str} {v : V} {u : Value} {c : Addr} (ok : C.Ok) (nk : ks.Nodup) (R : Rel C ks l μ h₀ s) (U : Up ks l x v l') (hk : C.env.kindOf x = some .cell) (hx : (x == ("__classdict__" : Str)) = false) (hc : C.env.cells.lookup x = some c) (hw : C.wr x = true)
    (hinj : (C.env.cells.map (·.1)).Nodup) (hv : VR C.H s.heap v u) {Q : Unit → Shared → Prop} {E : Value → Shared → Prop}
    (q : ∀ s', TK C.H s.heap s'.heap → Rel C ks l' μ h₀ s' → Q () s') : wpAny (model C.prog C.w) C.A (storeName C.env x u) Q E s := by
  obtain ⟨v0, i⟩ := (R.cells _ (lookup_mem hc)).1
  refine wpAny_storeName_cell ok.fn hk hc i (fun h' hn hs => ?_)
  have := R.storeC nk U hk hx hc hw hinj hv hn hs (tk := s.toks)
  exact q _ this.2 this.1
end
-- M3
section
variable {C : Cx} {ks : List Str} {l l' : List (Option V)} {μ μ' : Mem} {h₀ : Heap} {s : Shared}
/-! constants and names -/
theorem PV_int {i : Int} {k : Nat} {pos : Pos} : PV C ks l μ (.Constant (.int i) k pos) (.int i) := fun h₀ s R Q E q => wpAny_Constant_int (q _ μ _ _ ⟨rfl, rfl⟩ (TK.refl _) R.toks (.int _ _))
theorem PV_str {i : Str} {k : Nat} {pos : Pos} : PV C ks l μ (.Constant (.str i) k pos) (.str i) := fun h₀ s R Q E q => wpAny_Constant_str (q _ μ _ _ ⟨rfl, rfl⟩ (TK.refl _) R.toks (.str _ _))
theorem PV_none {k : Nat} {pos : Pos} : PV C ks l μ (.Constant .none k pos) .none := fun h₀ s R Q E q => wpAny_Constant_none (q _ μ _ _ ⟨rfl, rfl⟩ (TK.refl _) R .none)
theorem PV_name (ok : C.Ok) {x : Str} {pos : Pos} {v : V} (h : Lk ks l x v) (hd : (x == ("__debug__" : Str)) = false) : PV C ks l μ (.Name x pos) v := fun h₀ s R Q E q => by
  obtain ⟨m, hm, hb⟩ := R.ns
  refine wpAny_Name ?_ hd
  rcases hb x v h with ⟨k, u, e, r⟩ | ⟨k, n, c, u, e, i, r⟩
  · exact wpAny_loadName_local ok.fn k hm e (q _ μ _ _ ⟨rfl, rfl⟩ (TK.refl _) R r)
  · rcases k with k | k
    · exact wpAny_loadName_cell ok.fn k e i (q _ μ _ _ ⟨rfl, rfl⟩ (TK.refl _) R r)
    · exact wpAny_loadName_free ok.fn k e i (q _ μ _ _ ⟨rfl, rfl⟩ (TK.refl _) R r) n
theorem PV_glob (ok : C.Ok) {x : Str} {pos : Pos} {v : Value} (e : nsIn C.K mainGlobals x = some (some v)) (hx : C.env.kindOf x = some .globalImplicit) (hd : (x == ("__debug__" : Str)) = false) : PV C ks l μ (.Name x pos) (.val v) := fun h₀ s R Q E q => by
  refine Name_function_global ok.fn hx (loadGlobal_global ?_ (mg_of R.inK R.top.g e) (q _ μ _ _ ⟨rfl, rfl⟩ (TK.refl _) R (.val _))) hd
  rw [ok.glob]
  exact R.top.g.keeps R.keep
theorem PV_globS (ok : C.Ok) {x : Str} {pos : Pos} {y : Str} {t : Tok} (e : nsIn C.K mainGlobals x = some (some (.str y t))) (hx : C.env.kindOf x = some .globalImplicit) (hd : (x == ("__debug__" : Str)) = false) : PV C ks l μ (.Name x pos) (.str y) := fun h₀ s R Q E q => by
  refine Name_function_global ok.fn hx (loadGlobal_global ?_ (mg_of R.inK R.top.g e) (q _ μ _ _ ⟨rfl, rfl⟩ (TK.refl _) R (.str _ _))) hd
  rw [ok.glob]
  exact R.top.g.keeps R.keep
theorem PV_globI (ok : C.Ok) {x : Str} {pos : Pos} {y : Int} {t : Tok} (e : nsIn C.K mainGlobals x = some (some (.int y t))) (hx : C.env.kindOf x = some .globalImplicit) (hd : (x == ("__debug__" : Str)) = false) : PV C ks l μ (.Name x pos) (.int y) := fun h₀ s R Q E q => by
  refine Name_function_global ok.fn hx (loadGlobal_global ?_ (mg_of R.inK R.top.g e) (q _ μ _ _ ⟨rfl, rfl⟩ (TK.refl _) R (.int _ _))) hd
  rw [ok.glob]
  exact R.top.g.keeps R.keep
theorem PV_blt (ok : C.Ok) {x : Str} {pos : Pos} {v : Value} (e : nsIn C.K mainGlobals x = some none) (hv : bootBuiltins x = some v) (hn : x ≠ "__name__") (hx : C.env.kindOf x = some .globalImplicit) (hd : (x == ("__debug__" : Str)) = false) : PV C ks l μ (.Name x pos) (.val v) := fun h₀ s R Q E q => by
  refine Name_function_global ok.fn hx (loadGlobal_builtin (mg := C.mg) (mb := C.mb) ?_ (mg_none_of R.inK R.top.g e) ?_ ((R.top.builtins x hn).trans hv) (q _ μ _ _ ⟨rfl, rfl⟩ (TK.refl _) R (.val _))) hd
  · rw [ok.glob]; exact R.top.g.keeps R.keep
  · rw [ok.blt]; exact R.top.b.keeps R.keep
/-! two operands -/
noncomputable def OPB (C : Cx) (ks : List Str) (l : List (Option V)) (μ : Mem) (op : Operator) (a b : V) (Φ : V → Mem → Prop) : Prop := ∀ h₀ s x y, Rel C ks l μ h₀ s → VR C.H s.heap a x → VR C.H s.heap b y → OP C ks l μ (binaryOp op x y) Φ h₀ s
noncomputable def OPC (C : Cx) (ks : List Str) (l : List (Option V)) (μ : Mem) (op : CmpOp) (a b : V) (r : Bool) : Prop := ∀ h₀ s x y, Rel C ks l μ h₀ s → VR C.H s.heap a x → VR C.H s.heap b y → OP C ks l μ (compareOp op x y) (Is (.bool r) μ) h₀ s
theorem EV_bin {a b : Expr} {op : Operator} {pos : Pos} {va vb : V} {Φ : V → Mem → Prop} (ha : PV C ks l μ a va) (hb : PV C ks l μ b vb) (ho : OPB C ks l μ op va vb Φ) : EV C ks l μ (.BinOp a op b pos) Φ := fun h₀ s R Q E q => by
  refine wpAny_BinOp (ha h₀ s R _ E fun v μ' x s₁ e t₁ R₁ y₁ => ?_)
  obtain ⟨rfl, rfl⟩ := e
  refine hb h₀ s₁ R₁ _ E fun v' μ'' y s₂ e t₂ R₂ y₂ => ?_
  obtain ⟨rfl, rfl⟩ := e
  exact ho h₀ s₂ x y R₂ (y₁.mono t₂) y₂ Q E fun v μ' u s' p t r z => q v μ' u s' p ((t₁.trans t₂).trans t) r z
/-- the right side may allocate -/
theorem EV_binA {a b : Expr} {op : Operator} {pos : Pos} {va : V} {Φ : V → Mem → Prop} (ha : PV C ks l μ a va) (hb : EV C ks l μ b fun vb μ' => OPB C ks l μ' op va vb Φ) : EV C ks l μ (.BinOp a op b pos) Φ := fun h₀ s R Q E q => by
  refine wpAny_BinOp (ha h₀ s R _ E fun v μ' x s₁ e t₁ R₁ y₁ => ?_)
  obtain ⟨rfl, rfl⟩ := e
  refine hb h₀ s₁ R₁ _ E fun v' μ'' y s₂ ho t₂ R₂ y₂ => ?_
  exact ho h₀ s₂ x y R₂ (y₁.mono t₂) y₂ Q E fun v μ' u s' p t r z => q v μ' u s' p ((t₁.trans t₂).trans t) r z
theorem PV_cmp {a b : Expr} {op : CmpOp} {pos : Pos} {va vb : V} {r : Bool} (ha : PV C ks l μ a va) (hb : PV C ks l μ b vb) (ho : OPC C ks l μ op va vb r) (hm : behindInMarks op b = false) : PV C ks l μ (.Compare a [op] [b] pos) (.bool r) := fun h₀ s R Q E q => by
  refine wpAny_Compare1 (ha h₀ s R _ E fun v μ' x s₁ e t₁ R₁ y₁ => ?_) hm
  obtain ⟨rfl, rfl⟩ := e
  refine hb h₀ s₁ R₁ _ E fun v' μ'' y s₂ e t₂ R₂ y₂ => ?_
  obtain ⟨rfl, rfl⟩ := e
  exact ho h₀ s₂ x y R₂ (y₁.mono t₂) y₂ Q E fun v μ' u s' p t r z => q v μ' u s' p ((t₁.trans t₂).trans t) r z
theorem TV_cmp {a b : Expr} {op : CmpOp} {pos : Pos} {va vb : V} {r : Bool} (ha : PV C ks l μ a va) (hb : PV C ks l μ b vb) (ho : OPC C ks l μ op va vb r) (hm : behindInMarks op b = false) : TV C ks l μ (.Compare a [op] [b] pos) r := fun h₀ s R Q E q => by
  refine wpAny_isTrue_Compare1 (ha h₀ s R _ E fun v μ' x s₁ e t₁ R₁ y₁ => ?_) hm
  obtain ⟨rfl, rfl⟩ := e
  refine hb h₀ s₁ R₁ _ E fun v' μ'' y s₂ e t₂ R₂ y₂ => ?_
  obtain ⟨rfl, rfl⟩ := e
  refine ho h₀ s₂ x y R₂ (y₁.mono t₂) y₂ _ E fun v μ' u s' p t r z => ?_
  obtain ⟨rfl, rfl⟩ := p
  cases z
  exact wpAny_truthy_bool (q s' ((t₁.trans t₂).trans t) r)
/-- both sides may allocate -/
noncomputable def TE (C : Cx) (ks : List Str) (l : List (Option V)) (μ : Mem) (e : Expr) (Φ : Bool → Mem → Prop) : Prop :=
  ∀ h₀ s, Rel C ks l μ h₀ s → ∀ (Q : Bool → Shared → Prop) (E : Value → Shared → Prop), (∀ b μ' s', Φ b μ' → TK C.H s.heap s'.heap → Rel C ks l μ' h₀ s' → Q b s') → wpAny (model C.prog C.w) C.A (isTrue e C.env (eval e C.env)) Q E s
theorem TE_cmp {a b : Expr} {op : CmpOp} {pos : Pos} {Φ : Bool → Mem → Prop} (ha : EV C ks l μ a fun va μ' => EV C ks l μ' b fun vb μ'' => ∃ r, OPC C ks l μ'' op va vb r ∧ Φ r μ'') (hm : behindInMarks op b = false) : TE C ks l μ (.Compare a [op] [b] pos) Φ := fun h₀ s R Q E q => by
  refine wpAny_isTrue_Compare1 (ha h₀ s R _ E fun v μ' x s₁ hb t₁ R₁ y₁ => ?_) hm
  refine hb h₀ s₁ R₁ _ E fun v' μ'' y s₂ ho t₂ R₂ y₂ => ?_
  obtain ⟨r, ho, hr⟩ := ho
  refine ho h₀ s₂ x y R₂ (y₁.mono t₂) y₂ _ E fun v μ' u s' p t r z => ?_
  obtain ⟨rfl, rfl⟩ := p
  cases z
  exact wpAny_truthy_bool (q _ _ s' hr ((t₁.trans t₂).trans t) r)
theorem TV_TE {e : Expr} {b : Bool} {Φ : Bool → Mem → Prop} (h : TV C ks l μ e b) (p : Φ b μ) : TE C ks l μ e Φ := fun h₀ s R Q E q => h h₀ s R Q E fun s' t r => q b μ s' p t r
/-! operations on ints, texts, bools -/
theorem OPB_addI {a b : Int} : OPB C ks l μ .Add (.int a) (.int b) (Is (.int (a + b)) μ) := fun h₀ s x y R hx hy Q E q => by
  cases hx; cases hy; exact P.add_int (q _ μ _ _ ⟨rfl, rfl⟩ (TK.refl _) R.toks (.int _ _))
theorem OPB_subI {a b : Int} : OPB C ks l μ .Sub (.int a) (.int b) (Is (.int (a - b)) μ) := fun h₀ s x y R hx hy Q E q => by
  cases hx; cases hy; exact P.sub_int (q _ μ _ _ ⟨rfl, rfl⟩ (TK.refl _) R.toks (.int _ _))
theorem OPB_mulI {a b : Int} (h : IntMulOk a b) : OPB C ks l μ .Mult (.int a) (.int b) (Is (.int (a * b)) μ) := fun h₀ s x y R hx hy Q E q => by
  cases hx; cases hy; exact P.mul_int (q _ μ _ _ ⟨rfl, rfl⟩ (TK.refl _) R.toks (.int _ _)) h
theorem OPB_divI (ok : C.Ok) {a b : Int} (h : 0 < b) (hp : Builtin.divisionGoesByPylong a b = false) : OPB C ks l μ .FloorDiv (.int a) (.int b) (Is (.int (a / b)) μ) := fun h₀ s x y R hx hy Q E q => by
  cases hx; cases hy
  refine floordiv_int_or ok.hand (fun e => absurd e (by omega)) (fun _ => ?_) (fun _ => .inl hp)
  rw [Int.fdiv_eq_ediv_of_nonneg _ (by omega)]
  exact q _ μ _ _ ⟨rfl, rfl⟩ (TK.refl _) R.toks (.int _ _)
theorem OPB_modI (ok : C.Ok) {a b : Int} (h : 0 < b) : OPB C ks l μ .Mod (.int a) (.int b) (Is (.int (a % b)) μ) := fun h₀ s x y R hx hy Q E q => by
  cases hx; cases hy
  refine mod_int_or ok.hand (fun e => absurd e (by omega)) (fun _ => ?_)
  rw [Int.fmod_eq_emod_of_nonneg _ (by omega)]
  exact q _ μ _ _ ⟨rfl, rfl⟩ (TK.refl _) R.toks (.int _ _)
theorem OPB_addS {a b : Str} (h : a.length + b.length ≤ 16777216) : OPB C ks l μ .Add (.str a) (.str b) (Is (.str (a ++ b)) μ) := fun h₀ s x y R hx hy Q E q => by
  cases hx; cases hy
  exact PyProof.Rows.add_str (fun t k => q _ μ _ _ ⟨rfl, rfl⟩ (TK.refl _) R.toks (.str _ _)) (by rw [sizeLine_eq]; exact h)
theorem OPB_mulS {a : Str} {n : Int} (h : PySem.MulOk a n) : OPB C ks l μ .Mult (.str a) (.int n) (Is (.str (Txt.mul a n)) μ) := fun h₀ s x y R hx hy Q E q => by
  cases hx; cases hy
  exact SB.mul h (fun t k => q _ μ _ _ ⟨rfl, rfl⟩ (TK.refl _) R.toks (.str _ _))
theorem OPC_ltI {a b : Int} : OPC C ks l μ .Lt (.int a) (.int b) (decide (a < b)) := fun h₀ s x y R hx hy Q E q => by
  cases hx; cases hy; exact P.lt_int (q _ μ _ _ ⟨rfl, rfl⟩ (TK.refl _) R (.bool _))
theorem OPC_leI {a b : Int} : OPC C ks l μ .LtE (.int a) (.int b) (decide (a ≤ b)) := fun h₀ s x y R hx hy Q E q => by
  cases hx; cases hy; exact P.le_int (q _ μ _ _ ⟨rfl, rfl⟩ (TK.refl _) R (.bool _))
theorem OPC_gtI {a b : Int} : OPC C ks l μ .Gt (.int a) (.int b) (decide (b < a)) := fun h₀ s x y R hx hy Q E q => by
  cases hx; cases hy; exact P.gt_int (q _ μ _ _ ⟨rfl, rfl⟩ (TK.refl _) R (.bool _))
theorem OPC_geI {a b : Int} : OPC C ks l μ .GtE (.int a) (.int b) (decide (b ≤ a)) := fun h₀ s x y R hx hy Q E q => by
  cases hx; cases hy; exact P.ge_int (q _ μ _ _ ⟨rfl, rfl⟩ (TK.refl _) R (.bool _))
theorem OPC_eqI {a b : Int} : OPC C ks l μ .Eq (.int a) (.int b) (decide (a = b)) := fun h₀ s x y R hx hy Q E q => by
  cases hx; cases hy; exact P.eq_int (q _ μ _ _ ⟨rfl, rfl⟩ (TK.refl _) R (by rw [show decide (a = b) = (a == b) from rfl]; exact .bool _))
theorem OPC_neI {a b : Int} : OPC C ks l μ .NotEq (.int a) (.int b) (!decide (a = b)) := fun h₀ s x y R hx hy Q E q => by
  cases hx; cases hy; exact P.ne_int (q _ μ _ _ ⟨rfl, rfl⟩ (TK.refl _) R (by rw [show (!decide (a = b)) = (a != b) from rfl]; exact .bool _))
theorem OPC_eqS {a b : Str} : OPC C ks l μ .Eq (.str a) (.str b) (a == b) := fun h₀ s x y R hx hy Q E q => by
  cases hx; cases hy; exact PyProof.Rows.eq_str (q _ μ _ _ ⟨rfl, rfl⟩ (TK.refl _) R (.bool _))
theorem OPC_neS {a b : Str} : OPC C ks l μ .NotEq (.str a) (.str b) (a != b) := fun h₀ s x y R hx hy Q E q => by
  cases hx; cases hy; exact PyProof.Rows.ne_str (q _ μ _ _ ⟨rfl, rfl⟩ (TK.refl _) R (.bool _))
theorem OPC_ltS {a b : Str} : OPC C ks l μ .Lt (.str a) (.str b) (decide (a.cps.toList < b.cps.toList)) := fun h₀ s x y R hx hy Q E q => by
  cases hx; cases hy; exact PyProof.Rows.lt_str (q _ μ _ _ ⟨rfl, rfl⟩ (TK.refl _) R (.bool _))
theorem OPC_gtS {a b : Str} : OPC C ks l μ .Gt (.str a) (.str b) (decide (b.cps.toList < a.cps.toList)) := fun h₀ s x y R hx hy Q E q => by
  cases hx; cases hy; exact P.gt_str (q _ μ _ _ ⟨rfl, rfl⟩ (TK.refl _) R (.bool _))
/-! truth, and, or, not, the conditional expression -/
theorem TV_bool {e : Expr} {b : Bool} (h : PV C ks l μ e (.bool b)) (he : ∀ whole, isTrue e C.env whole = (do let v ← whole; standAt e.pos; holding [v] (truthy v))) : TV C ks l μ e b := fun h₀ s R Q E q => by
  refine isTrue_plain (h h₀ s R _ E fun v μ' u s' p t r z => ?_) (he _)
  obtain ⟨rfl, rfl⟩ := p
  cases z
  exact wpAny_truthy_bool (q s' t r)
theorem TV_str {e : Expr} {x : Str} (h : PV C ks l μ e (.str x)) (hx : x.length ≤ 16777216) (he : ∀ whole, isTrue e C.env whole = (do let v ← whole; standAt e.pos; holding [v] (truthy v))) : TV C ks l μ e (decide (x.length ≠ 0)) := fun h₀ s R Q E q => by
  refine isTrue_plain (h h₀ s R _ E fun v μ' u s' p t r z => ?_) (he _)
  obtain ⟨rfl, rfl⟩ := p
  cases z
  refine P.truthy_str (by omega) ?_
  have : decide (x.length ≠ 0) = ((x.length : Int) != 0) := by
    rcases hl : x.length with _ | n
    · rfl
    · have h1 : ((n + 1 : Nat) : Int) ≠ 0 := by omega
      rw [decide_eq_true (by omega), bne_iff_ne.mpr h1]
  rw [← this]
  exact q _ t r.toks
theorem TV_not {e : Expr} {pos : Pos} {b : Bool} (h : TV C ks l μ e b) : TV C ks l μ (.UnaryOp .Not e pos) (!b) := fun h₀ s R Q E q => isTrue_not (h h₀ s R _ E fun s' t r => q s' t r)
theorem TV_and0 {pos : Pos} : TV C ks l μ (.BoolOp .And [] pos) true := fun h₀ s R Q E q => isTrue_and_nil (q s (TK.refl _) R)
theorem TV_or0 {pos : Pos} : TV C ks l μ (.BoolOp .Or [] pos) false := fun h₀ s R Q E q => isTrue_or_nil (q s (TK.refl _) R)
/-- the second is looked at only where the first is true -/
theorem TV_and {e : Expr} {es : List Expr} {pos : Pos} {b c : Bool} (h : TV C ks l μ e b) (h2 : b = true → TV C ks l μ (.BoolOp .And es pos) c) : TV C ks l μ (.BoolOp .And (e :: es) pos) (b && c) := fun h₀ s R Q E q => by
  have key : ∀ {w w' : Sem Value} {es : List Expr} {s : Shared} {Q : Bool → Shared → Prop}, wpAny (model C.prog C.w) C.A (isTrue (.BoolOp .And es pos) C.env w) Q E s → wpAny (model C.prog C.w) C.A (isTrue (.BoolOp .And es pos) C.env w') Q E s := fun h => h
  refine isTrue_and (h h₀ s R _ E fun s' t r => ?_)
  cases b with
  | false => exact q s' t r
  | true => exact key (h2 rfl h₀ s' r Q E fun s'' t' r' => q s'' (t.trans t') r')
theorem TV_or {e : Expr} {es : List Expr} {pos : Pos} {b c : Bool} (h : TV C ks l μ e b) (h2 : b = false → TV C ks l μ (.BoolOp .Or es pos) c) : TV C ks l μ (.BoolOp .Or (e :: es) pos) (b || c) := fun h₀ s R Q E q => by
  have key : ∀ {w w' : Sem Value} {es : List Expr} {s : Shared} {Q : Bool → Shared → Prop}, wpAny (model C.prog C.w) C.A (isTrue (.BoolOp .Or es pos) C.env w) Q E s → wpAny (model C.prog C.w) C.A (isTrue (.BoolOp .Or es pos) C.env w') Q E s := fun h => h
  refine isTrue_or (h h₀ s R _ E fun s' t r => ?_)
  cases b with
  | true => exact q s' t r
  | false => exact key (h2 rfl h₀ s' r Q E fun s'' t' r' => q s'' (t.trans t') r')
theorem PV_if {test a b : Expr} {pos : Pos} {c : Bool} {v : V} (h : TV C ks l μ test c) (ha : c = true → PV C ks l μ a v) (hb : c = false → PV C ks l μ b v) : PV C ks l μ (.IfExp test a b pos) v := fun h₀ s R Q E q => by
  refine IfExp_ (h h₀ s R _ E fun s' t r => ?_)
  cases c with
  | true => exact ha rfl h₀ s' r Q E fun v μ' u s'' p t' r' z => q v μ' u s'' p (t.trans t') r' z
  | false => exact hb rfl h₀ s' r Q E fun v μ' u s'' p t' r' z => q v μ' u s'' p (t.trans t') r' z
/-- «i or e»: an int ahead -/
theorem PV_orI {a b : Expr} {pos : Pos} {i : Int} {v : V} (ha : PV C ks l μ a (.int i)) (hz : i ≠ 0 → v = .int i) (hb : i = 0 → PV C ks l μ b v) : PV C ks l μ (.BoolOp .Or [a, b] pos) v := fun h₀ s R Q E q => by
  refine BoolOp_or (ha h₀ s R _ E fun v' μ' u s' p t r z => ?_)
  obtain ⟨rfl, rfl⟩ := p
  cases z
  refine P.truthy_int ?_
  by_cases e : i = 0
  · subst e
    exact BoolOp_one (hb rfl h₀ s' r Q E fun v μ' u s'' p t' r' z => q v μ' u s'' p (t.trans t') r' z)
  · rw [bne_iff_ne.mpr e]
    exact q v _ _ _ ⟨rfl, rfl⟩ t r (hz e ▸ .int _ _)
theorem PV_neg {a : Expr} {pos : Pos} {i : Int} (ha : PV C ks l μ a (.int i)) : PV C ks l μ (.UnaryOp .USub a pos) (.int (-i)) := fun h₀ s R Q E q => by
  refine UnaryOp_ (ha h₀ s R _ E fun v' μ' u s' p t r z => ?_)
  obtain ⟨rfl, rfl⟩ := p
  cases z
  exact P.neg_int (q _ _ _ _ ⟨rfl, rfl⟩ t r.toks (.int _ _))
end
-- M4
section
variable {C : Cx} {ks : List Str} {l l' : List (Option V)} {μ μ' : Mem} {h₀ : Heap} {s : Shared}
/-! several expressions, one behind the other -/
noncomputable def ES (C : Cx) (ks : List Str) (l : List (Option V)) (μ : Mem) (pos : Pos) (es : List Expr) (Φ : List V → Mem → Prop) : Prop :=
  ∀ h₀ s, Rel C ks l μ h₀ s → ∀ (Q : List Value → Shared → Prop) (E : Value → Shared → Prop), (∀ vs μ' us s', Φ vs μ' → TK C.H s.heap s'.heap → Rel C ks l μ' h₀ s' → VRs C.H s'.heap vs us → Q us s') → wpAny (model C.prog C.w) C.A (spliced (backTo pos (starEach es C.env))) Q E s
theorem ES_nil {pos : Pos} {Φ : List V → Mem → Prop} (h : Φ [] μ) : ES C ks l μ pos [] Φ := fun h₀ s R Q E q => Calls.spliced_nil (q [] μ [] s h (TK.refl _) R .nil)
abbrev CoK (v : V) (Φ : List V → Mem → Prop) : List V → Mem → Prop := fun vs μ'' => Φ (v :: vs) μ''
abbrev EcK (C : Cx) (ks : List Str) (l : List (Option V)) (pos : Pos) (es : List Expr) (Φ : List V → Mem → Prop) : V → Mem → Prop := fun v μ' => ES C ks l μ' pos es (CoK v Φ)
theorem ES_cons {pos : Pos} {e : Expr} {es : List Expr} {Φ : List V → Mem → Prop} (h : EV C ks l μ e (EcK C ks l pos es Φ)) (he : starEach (e :: es) C.env = (false, eval e C.env) :: starEach es C.env) : ES C ks l μ pos (e :: es) Φ := fun h₀ s R Q E q => by
  rw [he]
  refine Calls.spliced_cons (h h₀ s R _ E fun v μ' u s' p t r y => ?_)
  exact p h₀ s' r _ E fun vs μ'' us s'' p' t' r' y' => q (v :: vs) μ'' (u :: us) s'' p' (t.trans t') r' (.cons (y.mono t') y')
theorem ES_consP {pos : Pos} {e : Expr} {es : List Expr} {v : V} {Φ : List V → Mem → Prop} (h : PV C ks l μ e v) (h2 : ES C ks l μ pos es (CoK v Φ)) (he : starEach (e :: es) C.env = (false, eval e C.env) :: starEach es C.env) : ES C ks l μ pos (e :: es) Φ :=
  ES_cons (fun h₀ s R Q E q => h h₀ s R Q E fun v' μ' u s' p t r y => q v' μ' u s' (by obtain ⟨rfl, rfl⟩ := p; exact h2) t r y) he
/-- a call of a value that is told -/
noncomputable def OPK (C : Cx) (ks : List Str) (l : List (Option V)) (μ : Mem) (f : Value) (vs : List V) (Φ : V → Mem → Prop) : Prop := ∀ h₀ s us, Rel C ks l μ h₀ s → VRs C.H s.heap vs us → OP C ks l μ (call f us) Φ h₀ s
noncomputable def Keepy (C : Cx) (f : Value) : Prop := (∃ id, f = .builtin id) ∨ (∃ T, f = .type T) ∨ keepIn C.K f = true
theorem Keepy.keeper {C : Cx} {f : Value} (k : Keepy C f) {M : Model} (h : Heap) (X : C.K.In h) : ∃ k, (k = Keeper.frame ∨ k = Keeper.machine ∨ k = Keeper.boundFrame) ∧ Looks M h (keeperOf f) k := by
  rcases k with ⟨id, rfl⟩ | ⟨T, rfl⟩ | k
  · exact ⟨.machine, .inr (.inl rfl), Looks.of_pure rfl⟩
  · exact ⟨.machine, .inr (.inl rfl), Looks.of_pure rfl⟩
  · exact keeps_K k h X
theorem callW {f : Value} {first : List Value} {vf : List V} {e : Expr} {es : List Expr} {pos : Pos} {Φ : V → Mem → Prop} (kp : Keepy C f) (R : Rel C ks l μ h₀ s) (yf : VRs C.H s.heap vf first)
    (h : ES C ks l μ pos (e :: es) fun vs μ' => OPK C ks l μ' f (vf ++ vs) Φ) (hp : (backTo pos (starEach (e :: es) C.env)).any (·.1) = false) (he : starEach (e :: es) C.env = (false, eval e C.env) :: starEach es C.env) :
    OP C ks l μ (callWith pos f first (backTo pos (starEach (e :: es) C.env)) []) Φ h₀ s := fun Q E q => by
  refine callWith_of (P := fun h => C.K.In h) (by rw [hp]; rfl) (fun h X => kp.keeper h X) ?_
  have fin : wpAny (model C.prog C.w) C.A (spliced (backTo pos (starEach (e :: es) C.env))) (fun vs s' => C.K.In s'.heap ∧ wpAny (model C.prog C.w) C.A (call f (first ++ vs) []) Q E s') E s := by
    refine h h₀ s R _ E fun vs μ' us s' p t r y => ⟨r.inK.keeps r.keep, ?_⟩
    exact p h₀ s' (first ++ us) r ((yf.mono t).append y) Q E fun v μ'' u s'' p' t' r' y' => q v μ'' u s'' p' (t.trans t') r' y'
  rw [he] at fin ⊢
  exact Calls.evalArgs_plain fin
theorem callW0 {f : Value} {first : List Value} {vf : List V} {pos : Pos} {Φ : V → Mem → Prop} (kp : Keepy C f) (R : Rel C ks l μ h₀ s) (yf : VRs C.H s.heap vf first) (h : OPK C ks l μ f vf Φ) :
    OP C ks l μ (callWith pos f first (backTo pos (starEach [] C.env)) []) Φ h₀ s := fun Q E q => by
  refine callWith_of (P := fun h => C.K.In h) rfl (fun h X => kp.keeper h X) (evalArgs_nil3 ⟨R.inK.keeps R.keep, ?_⟩)
  show wpAny _ _ (call f (first ++ []) []) Q E s
  rw [List.append_nil]
  exact h h₀ s first R yf Q E q
/-- f(e, ..) -/
abbrev CaK (C : Cx) (ks : List Str) (l : List (Option V)) (g : Value) (Φ : V → Mem → Prop) : List V → Mem → Prop := fun vs μ' => OPK C ks l μ' g vs Φ
abbrev CvK (C : Cx) (ks : List Str) (l : List (Option V)) (g : Value) (ov : V) (Φ : V → Mem → Prop) : List V → Mem → Prop := fun vs μ' => OPK C ks l μ' g (ov :: vs) Φ
theorem EV_call {f : Expr} {e : Expr} {es : List Expr} {pos : Pos} {g : Value} {Φ : V → Mem → Prop} (hf : PV C ks l μ f (.val g)) (kp : Keepy C g) (h : ES C ks l μ pos (e :: es) (CaK C ks l g Φ))
    (hp : (backTo pos (starEach (e :: es) C.env)).any (·.1) = false) (he : starEach (e :: es) C.env = (false, eval e C.env) :: starEach es C.env)
    (hc : eval (.Call f (e :: es) [] pos) C.env = (do callWith pos (← eval f C.env) [] (backTo pos (starEach (e :: es) C.env)) (backToKw pos (keywordEach [] C.env)))) : EV C ks l μ (.Call f (e :: es) [] pos) Φ := fun h₀ s R Q E q => by
  rw [hc]
  refine wpAny_bind (hf h₀ s R _ E fun v μ' u s' p t r y => ?_)
  obtain ⟨rfl, rfl⟩ := p
  cases y
  exact callW (vf := []) kp r .nil h hp he Q E fun v μ'' u s'' p' t' r' y' => q v μ'' u s'' p' (t.trans t') r' y'
theorem EV_call0 {f : Expr} {pos : Pos} {g : Value} {Φ : V → Mem → Prop} (hf : PV C ks l μ f (.val g)) (kp : Keepy C g) (h : OPK C ks l μ g [] Φ)
    (hc : eval (.Call f [] [] pos) C.env = (do callWith pos (← eval f C.env) [] (backTo pos (starEach [] C.env)) (backToKw pos (keywordEach [] C.env)))) : EV C ks l μ (.Call f [] [] pos) Φ := fun h₀ s R Q E q => by
  rw [hc]
  refine wpAny_bind (hf h₀ s R _ E fun v μ' u s' p t r y => ?_)
  obtain ⟨rfl, rfl⟩ := p
  cases y
  exact callW0 (vf := []) kp r .nil h Q E fun v μ'' u s'' p' t' r' y' => q v μ'' u s'' p' (t.trans t') r' y'
/-- o.name(e, ..): what getMethod finds -/
noncomputable def GM (C : Cx) (ks : List Str) (l : List (Option V)) (μ : Mem) (o : V) (name : Str) (g : Value) : Prop := ∀ h₀ s u, Rel C ks l μ h₀ s → VR C.H s.heap o u → ∀ (pl : Sem Bool) (Q : Value × List Value → Shared → Prop) (E : Value → Shared → Prop), Q (g, [u]) s → wpAny (model C.prog C.w) C.A (getMethod u name pl) Q E s
inductive MeK (C : Cx) (ks : List Str) (l : List (Option V)) (name : Str) (pos : Pos) (es : List Expr) (Φ : V → Mem → Prop) (ov : V) (μ₁ : Mem) : Prop
  | mk (g : Value) : GM C ks l μ₁ ov name g → Keepy C g → ES C ks l μ₁ pos es (CvK C ks l g ov Φ) → MeK C ks l name pos es Φ ov μ₁
theorem EV_meth {o : Expr} {name : Str} {apos pos : Pos} {e : Expr} {es : List Expr} {Φ : V → Mem → Prop} {pl : Sem Bool}
    (h : EV C ks l μ o (MeK C ks l name pos (e :: es) Φ))
    (hp : (backTo pos (starEach (e :: es) C.env)).any (·.1) = false) (hs : starEach (e :: es) C.env = (false, eval e C.env) :: starEach es C.env)
    (he : eval (.Call (.Attribute o name apos) (e :: es) [] pos) C.env = (do
      let ov ← eval o C.env
      standAt apos.atName
      let (f, first) ← holding [ov] (getMethod ov name pl)
      callWith pos f first (backTo pos (starEach (e :: es) C.env)) (backToKw pos (keywordEach [] C.env)))) : EV C ks l μ (.Call (.Attribute o name apos) (e :: es) [] pos) Φ := fun h₀ s R Q E q => by
  refine methodCall_KW (pl := pl) (h h₀ s R _ E fun v μ' u s' p t r y => ?_) he
  obtain ⟨g, hg, kp, ha⟩ := p
  refine hg h₀ s' u r y pl _ E ?_
  exact callW (vf := [v]) kp r (.one y) ha hp hs Q E fun v μ'' u s'' p' t' r' y' => q v μ'' u s'' p' (t.trans t') r' y'
theorem EV_meth0 {o : Expr} {name : Str} {apos pos : Pos} {Φ : V → Mem → Prop} {pl : Sem Bool}
    (h : EV C ks l μ o fun ov μ₁ => ∃ g, GM C ks l μ₁ ov name g ∧ Keepy C g ∧ OPK C ks l μ₁ g [ov] Φ)
    (he : eval (.Call (.Attribute o name apos) [] [] pos) C.env = (do
      let ov ← eval o C.env
      standAt apos.atName
      let (f, first) ← holding [ov] (getMethod ov name pl)
      callWith pos f first (backTo pos (starEach [] C.env)) (backToKw pos (keywordEach [] C.env)))) : EV C ks l μ (.Call (.Attribute o name apos) [] [] pos) Φ := fun h₀ s R Q E q => by
  refine methodCall_KW (pl := pl) (h h₀ s R _ E fun v μ' u s' p t r y => ?_) he
  obtain ⟨g, hg, kp, ha⟩ := p
  refine hg h₀ s' u r y pl _ E ?_
  exact callW0 (vf := [v]) kp r (.one y) ha Q E fun v μ'' u s'' p' t' r' y' => q v μ'' u s'' p' (t.trans t') r' y'
theorem EV_of {e : Expr} {v : V} {Φ : V → Mem → Prop} (h : PV C ks l μ e v) (p : Φ v μ) : EV C ks l μ e Φ := h.mono fun v' μ' q => by obtain ⟨rfl, rfl⟩ := q; exact p
/-! displays -/
abbrev LiK (Φ : V → Mem → Prop) : List V → Mem → Prop := fun vs μ' => vs.length ≤ 1000 ∧ ∀ a, Φ (.val (.ref a)) ((a, .lst vs) :: μ')
abbrev TuK (Φ : V → Mem → Prop) : List V → Mem → Prop := fun vs μ' => vs.length ≤ 1000 ∧ Φ (.tup vs) μ'
theorem EV_list {es : List Expr} {pos : Pos} {Φ : V → Mem → Prop} (h : ES C ks l μ pos es (LiK Φ)) : EV C ks l μ (.List es pos) Φ := fun h₀ s R Q E q => by
  refine List_ (h h₀ s R _ E fun vs μ' us s' p t r y => ?_)
  refine wpAny_newList ?_ (by rw [← y.length, sizeLine_eq]; omega)
  have n : s'.heap.get? s'.heap.objs.size = none := by
    cases e : s'.heap.get? s'.heap.objs.size with
    | none => rfl
    | some o => exact absurd (Heap.lt_size e) (Nat.lt_irrefl _)
  have k : ∀ b o, s'.heap.get? b = some o → (s'.heap.push { cls := .type "list", data := .seq us.toArray }).get? b = some o := fun b o e => Heap.get?_push_of_some _ e
  have r' := (r.keeps (tk := s'.toks) k).grow (a := s'.heap.objs.size) (b := .lst vs) ⟨_, Heap.get?_push_size _ rfl, .lst (y.mono (.of_keep k))⟩ (r.new_ne n) (r.new0 n)
  exact q _ _ _ _ (p.2 _) (t.trans (.of_keep k)) r' (.val _)
theorem EV_tuple {es : List Expr} {k : Nat} {pos : Pos} {Φ : V → Mem → Prop} (h : ES C ks l μ pos es (TuK Φ)) : EV C ks l μ (.Tuple es k pos) Φ := fun h₀ s R Q E q => by
  refine Tuple_ (h h₀ s R _ E fun vs μ' us s' p t r y => ?_)
  refine wpAny_newTuple ?_ (by rw [← y.length, sizeLine_eq]; omega)
  have k : ∀ b o, s'.heap.get? b = some o → (s'.heap.push { cls := .type "tuple", data := .seq us.toArray }).get? b = some o := fun b o e => Heap.get?_push_of_some _ e
  exact q _ _ _ _ p.2 (t.trans (.of_keep k)) (r.keeps (tk := s'.toks) k) (.tup (n := 0) (r.H_new (none_size _)) (Heap.get?_push_size _ rfl) (y.mono (.of_keep k)))
end
-- M5
/-! texts as lists of signs -/
noncomputable def S (l : List Nat) : Str := ⟨l.toArray⟩
theorem S_len (l : List Nat) : (S l).length = l.length := by show l.toArray.size = _; simp
theorem S_cps (l : List Nat) : (S l).cps.toList = l := by simp [S]
theorem S_app (a b : List Nat) : S a ++ S b = S (a ++ b) := by
  show (⟨a.toArray ++ b.toArray⟩ : Str) = _
  simp [S]
theorem S_inj {a b : List Nat} : S a = S b ↔ a = b := ⟨fun h => by have := congrArg (fun x : Str => x.cps.toList) h; simpa [S] using this, fun h => by rw [h]⟩
theorem S_beq (a b : List Nat) : (S a == S b) = (a == b) := by
  by_cases h : a = b
  · subst h; simp
  · have : S a ≠ S b := fun q => h (S_inj.mp q)
    rw [beq_eq_false_iff_ne.mpr this, beq_eq_false_iff_ne.mpr h]
theorem S_bne (a b : List Nat) : (S a != S b) = (a != b) := by rw [bne, bne, S_beq]
theorem of_S (x : Str) : x = S x.cps.toList := by cases x; simp [S]
theorem slice_from {l : List Nat} {i : Int} (h0 : 0 ≤ i) : Txt.slice (S l) (some i) none = S (l.drop i.toNat) := by
  by_cases h : i ≤ (S l).length
  · rw [slice_from_eq h0 h rfl, S_cps, S_len]
    show S _ = S _
    rw [List.take_of_length_le]
    rw [List.length_drop]
    rw [S_len] at h
    omega
  · rw [slice_from_beyond (by omega)]
    show S [] = S _
    rw [List.drop_eq_nil_of_le]
    rw [S_len] at h
    omega
theorem slice_to {l : List Nat} {j : Int} (h0 : 0 ≤ j) : Txt.slice (S l) none (some j) = S (l.take j.toNat) := by
  by_cases h : j ≤ (S l).length
  · rw [eq_of_beq (slice_closes_toL h0 h), S_cps]
    show S _ = S _
    rw [Int.sub_zero]; rfl
  · rw [slice_to_beyond (by omega), eq_of_beq (slice_closes_toL (x := S l) (by omega) (Int.le_refl _)), S_cps]
    rw [S_len] at h
    show S _ = S _
    rw [Int.sub_zero, S_len]
    rw [List.take_of_length_le (l := l) (by omega)]
    show S (List.take _ l) = S l
    rw [List.take_of_length_le (by omega)]
theorem slice_all {l : List Nat} : Txt.slice (S l) none none = S l := by
  unfold Txt.slice
  split
  · rfl
  · rename_i h
    exfalso
    apply h
    have : (Builtin.Str.strSliceIndices none none 1 (S l).length).length = (S l).length := by
      have e : Builtin.Str.strSliceIndices none none 1 (S l).length = Builtin.Str.strSliceIndices (some ((0 : Nat) : Int)) (some (((S l).length : Nat) : Int)) 1 (S l).length := by
        unfold Builtin.Str.strSliceIndices
        simp
        have e1 : max (0 : Int) (min 0 ((S l).length : Int)) = 0 := by omega
        have e2 : max (0 : Int) (min (if ((S l).length : Int) < 0 then ((S l).length : Int) + ((S l).length : Int) else ((S l).length : Int)) ((S l).length : Int)) = (S l).length := by split <;> omega
        rw [e1, e2]
      rw [e, StrLaws.strSliceIndices_plain (Nat.zero_le _) (Nat.le_refl _)]
      simp
    simp [this]
theorem slice_ss {l : List Nat} {i j : Int} (h0 : 0 ≤ i) (h1 : i ≤ j) (h2 : j ≤ l.length) : Txt.slice (S l) (some i) (some j) = S ((l.drop i.toNat).take (j - i).toNat) := by
  rw [eq_of_beq (slice_closesL h0 h1 (by rw [S_len]; exact h2)), S_cps]; rfl
section
variable {C : Cx} {ks : List Str} {l l' : List (Option V)} {μ μ' : Mem} {h₀ : Heap} {s : Shared}
/-- an object that the frame knows: its own, or one of the base -/
noncomputable def Has (C : Cx) (μ : Mem) (a : Addr) (b : Ob) : Prop := (a, b) ∈ μ ∨ (a, b) ∈ C.old
theorem Rel.has (R : Rel C ks l μ h₀ s) {a : Addr} {b : Ob} (h : Has C μ a b) : At C.H s.heap a b := h.elim R.at R.atOld
theorem At.list {h : Heap} {a : Addr} {xs : List V} (x : At C.H h a (.lst xs)) : ∃ vs n, h.get? a = some (listOf vs.toArray n) ∧ VRs C.H h xs vs := by
  obtain ⟨o, ho, r⟩ := x
  cases r with
  | lst r => exact ⟨_, _, ho, r⟩
theorem isList_of {h : Heap} {a : Addr} {vs : List Value} {n : Nat} (e : h.get? a = some (listOf vs.toArray n)) : h.IsList a vs.toArray := ⟨_, e, rfl, n, rfl⟩
theorem isTup_of {h : Heap} {a : Addr} {vs : List Value} {n : Nat} (e : h.get? a = some (tupleOf vs n)) : IsTup h a vs.toArray := ⟨_, e, rfl, n, rfl⟩
/-! an item, a slice -/
theorem EV_sub {value slice : Expr} {pos : Pos} {Φ : V → Mem → Prop} {vo vi : V} (hv : PV C ks l μ value vo) (hi : PV C ks l μ slice vi)
    (h : ∀ h₀ s o i, Rel C ks l μ h₀ s → VR C.H s.heap vo o → VR C.H s.heap vi i → ∃ T id, s.TypeIs o T ∧ typeLookup (.type T) "__getitem__" = pure (some (.builtin id)) ∧ OP C ks l μ (getItem o i) Φ h₀ s)
    (hs : ∀ o i, ∃ ops, subscripted slice false o i = operate ops (getItem o i)) : EV C ks l μ (.Subscript value slice pos) Φ := fun h₀ s R Q E q => by
  refine Subscript_ (hv h₀ s R _ E fun v μ' o s₁ p t₁ R₁ y₁ => ?_)
  obtain ⟨rfl, rfl⟩ := p
  refine hi h₀ s₁ R₁ _ E fun v' μ'' i s₂ p t₂ R₂ y₂ => ?_
  obtain ⟨rfl, rfl⟩ := p
  obtain ⟨T, id, hT, hl, ho⟩ := h h₀ s₂ o i R₂ (y₁.mono t₂) y₂
  obtain ⟨ops, e⟩ := hs o i
  exact tail_any hT hl (ho Q E fun v μ' u s' p t r y => q v μ' u s' p ((t₁.trans t₂).trans t) r y) e
noncomputable def NotSlice (e : Expr) : Prop := match e with | .Slice .. => False | _ => True
theorem NotSlice.sub {e : Expr} (n : NotSlice e) : ∀ o i, ∃ ops, subscripted e false o i = operate ops (getItem o i) := fun o i => ⟨[o, i], by
  cases e <;> first | rfl | exact n.elim⟩
theorem PV_itemL {value slice : Expr} {pos : Pos} {a : Addr} {xs : List V} {i : Int} {x : V} (hv : PV C ks l μ value (.val (.ref a))) (hi : PV C ks l μ slice (.int i)) (hm : Has C μ a (.lst xs)) (h0 : 0 ≤ i) (hx : xs[i.toNat]? = some x) (hz : xs.length ≤ 1000) (n : NotSlice slice) :
    PV C ks l μ (.Subscript value slice pos) x := EV_sub hv hi (fun h₀ s o j R yo yi => by
  cases yo; cases yi
  obtain ⟨vs, k, ho, r⟩ := (R.has hm).list
  obtain ⟨u, hu, y⟩ := r.get hx
  have hlt : i.toNat < xs.length := (List.getElem?_eq_some_iff.mp hx).1
  refine ⟨"list", _, (isList_of ho).typeIs, slot_list_getitem.lookup, fun Q E q => ?_⟩
  exact wpAny_getItem_list (isList_of ho) h0 (by omega) (by simpa using hu) (q _ _ _ _ ⟨rfl, rfl⟩ (TK.refl _) R y)) n.sub
theorem PV_itemLneg {value slice : Expr} {pos : Pos} {a : Addr} {xs : List V} {i : Int} {x : V} (hv : PV C ks l μ value (.val (.ref a))) (hi : PV C ks l μ slice (.int i)) (hm : Has C μ a (.lst xs)) (h0 : i < 0) (h1 : -(xs.length : Int) ≤ i) (hx : xs[(i + xs.length).toNat]? = some x) (hz : xs.length ≤ 1000) (n : NotSlice slice) :
    PV C ks l μ (.Subscript value slice pos) x := EV_sub hv hi (fun h₀ s o j R yo yi => by
  cases yo; cases yi
  obtain ⟨vs, k, ho, r⟩ := (R.has hm).list
  obtain ⟨u, hu, y⟩ := r.get hx
  have e : vs.toArray.size = xs.length := by simp [r.length]
  refine ⟨"list", _, (isList_of ho).typeIs, slot_list_getitem.lookup, fun Q E q => ?_⟩
  exact wpAny_getItem_list_neg (isList_of ho) h0 (by rw [e]; exact h1) (by omega) (by rw [e]; simpa using hu) (q _ _ _ _ ⟨rfl, rfl⟩ (TK.refl _) R y)) n.sub
theorem PV_itemT {value slice : Expr} {pos : Pos} {xs : List V} {i : Int} {x : V} (hv : PV C ks l μ value (.tup xs)) (hi : PV C ks l μ slice (.int i)) (h0 : 0 ≤ i) (hx : xs[i.toNat]? = some x) (hz : xs.length ≤ 1000) (n : NotSlice slice) :
    PV C ks l μ (.Subscript value slice pos) x := EV_sub hv hi (fun h₀ s o j R yo yi => by
  obtain ⟨a, vs, k, rfl, ho, r⟩ := yo.tup_inv
  cases yi
  obtain ⟨u, hu, y⟩ := r.get hx
  have hlt : i.toNat < xs.length := (List.getElem?_eq_some_iff.mp hx).1
  have e : vs.toArray.size = xs.length := by simp [r.length]
  refine ⟨"tuple", _, (isTup_of ho).typeIs, slot_tuple_getitem.lookup, fun Q E q => ?_⟩
  exact getItem_tuple (j := i.toNat) (isTup_of ho) (by omega) (by omega) (by rw [e]; exact seqIndex_of h0 (by omega)) (by simpa using hu) (q _ _ _ _ ⟨rfl, rfl⟩ (TK.refl _) R y)) n.sub
theorem PV_itemS {value slice : Expr} {pos : Pos} {xs : List Nat} {i : Int} {c : Nat} (hv : PV C ks l μ value (.str (S xs))) (hi : PV C ks l μ slice (.int i)) (h0 : -(xs.length : Int) ≤ i) (hx : xs[(if i < 0 then i + xs.length else i).toNat]? = some c) (hz : xs.length ≤ 1000) (n : NotSlice slice) :
    PV C ks l μ (.Subscript value slice pos) (.str (S [c])) := EV_sub hv hi (fun h₀ s o j R yo yi => by
  cases yo; cases yi
  have hlt := (List.getElem?_eq_some_iff.mp hx).1
  refine ⟨"str", _, typeIs_str _ _ _, F.slot_str_getitem.lookup, fun Q E q => ?_⟩
  refine P.getItem_str (c := c) ?_ ?_ (q _ _ _ _ ⟨rfl, rfl⟩ (TK.refl _) R.toks (.str _ _))
  · split at hlt
    · rw [decide_eq_false (by omega), decide_eq_false (by omega)]; rfl
    · rw [decide_eq_false (by omega), decide_eq_false (by omega)]; rfl
  · rw [S_len]
    have e : seqIndex? i xs.length = some (if i < 0 then i + xs.length else i).toNat := by
      unfold seqIndex?
      split at hlt <;> rename_i hi
      · rw [if_pos hi]; simp; omega
      · rw [if_neg hi]; simp; omega
    rw [e]
    simpa [S] using hx) n.sub
end
-- M6
section
variable {C : Cx} {ks : List Str} {l l' : List (Option V)} {μ μ' : Mem} {h₀ : Heap} {s : Shared}
/-! slices -/
noncomputable def ofPart : Option Int → V
  | none => .none
  | some i => .int i
noncomputable def PPart (C : Cx) (ks : List Str) (l : List (Option V)) (μ : Mem) (e : Option Expr) (p : Option Int) : Prop :=
  ∀ h₀ s, Rel C ks l μ h₀ s → ∀ (Q E : Value → Shared → Prop), (∀ u s', TK C.H s.heap s'.heap → Rel C ks l μ h₀ s' → VR C.H s'.heap (ofPart p) u → Q u s') → wpAny (model C.prog C.w) C.A (evalPart e C.env) Q E s
theorem PPart_none : PPart C ks l μ none none := fun h₀ s R Q E q => wpAny_evalPart_none (q _ s (TK.refl _) R .none)
theorem PPart_some {e : Expr} {p : Option Int} (h : PV C ks l μ e (ofPart p)) : PPart C ks l μ (some e) p := fun h₀ s R Q E q => wpAny_evalPart_some (h h₀ s R Q E fun v μ' u s' k t r y => by obtain ⟨rfl, rfl⟩ := k; exact q u s' t r y)
theorem PPart_int {e : Expr} {i : Int} (h : PV C ks l μ e (.int i)) : PPart C ks l μ (some e) (some i) := PPart_some h
theorem part_of {h : Heap} {p : Option Int} {u : Value} (y : VR C.H h (ofPart p) u) : ∃ pt : Option (Int × Tok), u = partValue pt ∧ pt.map (·.1) = p ∧ IsPart u p := by
  cases p with
  | none => cases y; exact ⟨none, rfl, rfl, .none⟩
  | some i => cases y with | int i t => exact ⟨some (i, t), rfl, rfl, .int i t⟩
theorem EV_slice {value : Expr} {lo hi : Option Expr} {p pos : Pos} {Φ : V → Mem → Prop} {vo : V} {i j : Option Int} (hv : PV C ks l μ value vo) (hi' : PPart C ks l μ lo i) (hj : PPart C ks l μ hi j)
    (h : ∀ h₀ s o u v a, Rel C ks l μ h₀ s → VR C.H s.heap vo o → VR C.H s.heap (ofPart i) u → VR C.H s.heap (ofPart j) v → s.heap.get? a = some { cls := .type "slice", data := .fields #[u, v, .none] } → ∃ T id, s.TypeIs o T ∧ typeLookup (.type T) "__getitem__" = pure (some (.builtin id)) ∧ OP C ks l μ (getItem o (.ref a)) Φ h₀ s) : EV C ks l μ (.Subscript value (.Slice lo hi none p) pos) Φ := fun h₀ s R Q E q => by
  refine Subscript_ (hv h₀ s R _ E fun v μ' o s₁ k t₁ R₁ y₁ => ?_)
  obtain ⟨rfl, rfl⟩ := k
  refine wpAny_Slice (hi' h₀ s₁ R₁ _ E fun u s₂ t₂ R₂ y₂ => ?_)
  refine hj h₀ s₂ R₂ _ E fun w s₃ t₃ R₃ y₃ => ?_
  refine wpAny_evalPart_none ?_
  have k : ∀ b o, s₃.heap.get? b = some o → (s₃.heap.push { cls := .type "slice", data := .fields #[u, w, .none] }).get? b = some o := fun b o e => Heap.get?_push_of_some _ e
  have t₄ := TK.of_keep (H := C.H) k
  obtain ⟨T, id, hT, hl, ho⟩ := h h₀ { s₃ with heap := s₃.heap.push { cls := .type "slice", data := .fields #[u, w, .none] } } o u w s₃.heap.objs.size (R₃.keeps (tk := s₃.toks) k) (y₁.mono ((t₂.trans t₃).trans t₄)) (y₂.mono (t₃.trans t₄)) (y₃.mono t₄) (Heap.get?_push_size _ rfl)
  exact tail_any (ops := [.ref s₃.heap.objs.size, o]) hT hl (ho Q E fun v μ' u' s' p t r y => q v μ' u' s' p ((((t₁.trans t₂).trans t₃).trans t₄).trans t) r y) rfl
theorem PV_sliceS {value : Expr} {lo hi : Option Expr} {p pos : Pos} {xs : List Nat} {i j : Option Int} {y : Str} (hv : PV C ks l μ value (.str (S xs))) (hi' : PPart C ks l μ lo i) (hj : PPart C ks l μ hi j) (e : Txt.slice (S xs) i j = y) (hz : xs.length ≤ 1000) :
    PV C ks l μ (.Subscript value (.Slice lo hi none p) pos) (.str y) := EV_slice hv hi' hj fun h₀ s o u v a R yo yu yv ha => by
  cases yo
  obtain ⟨pi, rfl, ei, _⟩ := part_of yu
  obtain ⟨pj, rfl, ej, _⟩ := part_of yv
  refine ⟨"str", _, typeIs_str _ _ _, F.slot_str_getitem.lookup, fun Q E q => ?_⟩
  refine wpAny_getItem_str_slice (l := pi) (u := pj) (st := none) ⟨_, ha, rfl, rfl⟩ rfl ?_
  subst e ei ej
  exact post_val_or_str ⟨Nat.le_trans (Txt.slice_le _ _ _) (by rw [S_len, sizeLine_eq]; omega), fun t' k => q _ μ _ _ ⟨rfl, rfl⟩ (TK.refl _) R.toks (.str _ _)⟩
theorem slicePick_vrs {h : Heap} {xs : List V} {vs : List Value} (r : VRs C.H h xs vs) (lo hi : Option Int) : VRs C.H h ((sliceRange (sliceBounds lo hi none xs.length).1 (sliceBounds lo hi none xs.length).2.1 (sliceBounds lo hi none xs.length).2.2).filterMap (xs[·]?)) (slicePick vs.toArray lo hi none).toList := by
  unfold slicePick
  have e : vs.toArray.size = xs.length := by simp [r.length]
  rw [e]
  generalize sliceRange _ _ _ = L
  induction L with
  | nil => exact .nil
  | cons k L ih =>
    rw [List.filterMap_cons, List.filterMap_cons]
    cases hk : xs[k]? with
    | none =>
      have : vs.toArray[k]? = none := by
        simp at hk ⊢; rw [← r.length]; exact hk
      rw [this]; exact ih
    | some x =>
      obtain ⟨v, hv, y⟩ := r.get hk
      have : vs.toArray[k]? = some v := by simpa using hv
      rw [this]; exact .cons y ih
/-- a list's slice: a new list -/
theorem EV_sliceL {value : Expr} {lo hi : Option Expr} {p pos : Pos} {a : Addr} {xs ys : List V} {i j : Option Int} {Φ : V → Mem → Prop} (hv : PV C ks l μ value (.val (.ref a))) (hi' : PPart C ks l μ lo i) (hj : PPart C ks l μ hi j) (hm : Has C μ a (.lst xs)) (hz : xs.length ≤ 1000)
    (e : (sliceRange (sliceBounds i j none xs.length).1 (sliceBounds i j none xs.length).2.1 (sliceBounds i j none xs.length).2.2).filterMap (xs[·]?) = ys) (h : ∀ b, Φ (.val (.ref b)) ((b, .lst ys) :: μ)) :
    EV C ks l μ (.Subscript value (.Slice lo hi none p) pos) Φ := EV_slice hv hi' hj fun h₀ s o u v sl R yo yu yv hsl => by
  cases yo
  obtain ⟨_, _, _, pu⟩ := part_of yu
  obtain ⟨_, _, _, pv⟩ := part_of yv
  obtain ⟨vs, k, ho, r⟩ := (R.has hm).list
  refine ⟨"list", _, (isList_of ho).typeIs, slot_list_getitem.lookup, fun Q E q => ?_⟩
  refine wpAny_getItem_list_slice (isList_of ho) ⟨_, hsl, rfl, rfl⟩ pu pv .none (by intro x; cases x) ?_ (by simp [← r.length, sizeLine_eq]; omega)
  have n : s.heap.get? s.heap.objs.size = none := by
    cases e : s.heap.get? s.heap.objs.size with
    | none => rfl
    | some o => exact absurd (Heap.lt_size e) (Nat.lt_irrefl _)
  have kp : ∀ b o, s.heap.get? b = some o → (s.heap.push { cls := .type "list", data := .seq (slicePick vs.toArray i j none) }).get? b = some o := fun b o e => Heap.get?_push_of_some _ e
  have at' : At C.H (s.heap.push { cls := .type "list", data := .seq (slicePick vs.toArray i j none) }) s.heap.objs.size (.lst ys) := by
    refine ⟨_, Heap.get?_push_size _ rfl, ?_⟩
    have := OR.lst (n := 0) ((slicePick_vrs r i j).mono (.of_keep kp))
    rw [e] at this
    simpa using this
  exact q _ _ _ _ (h _) (.of_keep kp) ((R.keeps (tk := s.toks) kp).grow at' (R.new_ne n) (R.new0 n)) (.val _)
theorem range_take {xs : List V} : ∀ n, (List.range n).filterMap (xs[·]?) = xs.take n
  | 0 => rfl
  | n + 1 => by
    rw [List.range_succ, List.filterMap_append, range_take n, List.take_add_one]
    cases h : xs[n]? <;> simp [h]
theorem pick_to {xs : List V} {j : Nat} : (sliceRange (sliceBounds none (some (j : Int)) none xs.length).1 (sliceBounds none (some (j : Int)) none xs.length).2.1 (sliceBounds none (some (j : Int)) none xs.length).2.2).filterMap (xs[·]?) = xs.take j := by
  have e : sliceRange (sliceBounds none (some (j : Int)) none xs.length).1 (sliceBounds none (some (j : Int)) none xs.length).2.1 (sliceBounds none (some (j : Int)) none xs.length).2.2 = List.range (min j xs.length) := by
    have e1 : (sliceBounds none (some (j : Int)) none xs.length).1 = 0 := rfl
    have e2 : (sliceBounds none (some (j : Int)) none xs.length).2.1 = ((min j xs.length : Nat) : Int) := by
      show (if (1 : Int) > 0 then max 0 (min (if (j : Int) < 0 then (j : Int) + xs.length else j) (xs.length : Int)) else max (-1) (min (if (j : Int) < 0 then (j : Int) + xs.length else j) ((xs.length : Int) - 1))) = _
      rw [if_pos (by decide), if_neg (by omega)]
      omega
    have e3 : (sliceBounds none (some (j : Int)) none xs.length).2.2 = 1 := rfl
    rw [e1, e2, e3]
    generalize min j xs.length = n
    unfold sliceRange
    have c : (if (1 : Int) > 0 then (if (0 : Int) < (n : Int) then ((n : Int) - 0 + 1 - 1) / 1 else 0) else (if (0 : Int) > (n : Int) then (0 - (n : Int) - 1 - 1) / (-1) else 0)).toNat = n := by
      rw [if_pos (by decide)]
      by_cases hn : n = 0
      · subst hn; rfl
      · rw [if_pos (by omega), Int.ediv_one]; omega
    simp only [c]
    conv => rhs; rw [← List.map_id (List.range n)]
    apply List.map_congr_left
    intro k _
    show (0 + 1 * (k : Int)).toNat = k
    omega
  rw [e, range_take, List.take_eq_take_iff.mpr]
  omega
/-- the same of a value that is made on the spot -/
theorem EV_sliceLA {value : Expr} {lo hi : Option Expr} {p pos : Pos} {ys : List V} {Φ : V → Mem → Prop}
    (hv : EV C ks l μ value fun vo μ' => ∃ a xs i j, vo = .val (.ref a) ∧ Has C μ' a (.lst xs) ∧ xs.length ≤ 1000 ∧ PPart C ks l μ' lo i ∧ PPart C ks l μ' hi j ∧ (sliceRange (sliceBounds i j none xs.length).1 (sliceBounds i j none xs.length).2.1 (sliceBounds i j none xs.length).2.2).filterMap (xs[·]?) = ys ∧ ∀ b, Φ (.val (.ref b)) ((b, .lst ys) :: μ')) :
    EV C ks l μ (.Subscript value (.Slice lo hi none p) pos) Φ := fun h₀ s R Q E q => by
  refine Subscript_ (hv h₀ s R _ E fun v μ' o s₁ k t₁ R₁ y₁ => ?_)
  obtain ⟨a, xs, i, j, rfl, hm, hz, hi', hj, e, h⟩ := k
  cases y₁
  refine wpAny_Slice (hi' h₀ s₁ R₁ _ E fun u s₂ t₂ R₂ y₂ => ?_)
  refine hj h₀ s₂ R₂ _ E fun w s₃ t₃ R₃ y₃ => ?_
  refine wpAny_evalPart_none ?_
  have k : ∀ b o, s₃.heap.get? b = some o → (s₃.heap.push { cls := .type "slice", data := .fields #[u, w, .none] }).get? b = some o := fun b o e => Heap.get?_push_of_some _ e
  have t₄ := TK.of_keep (H := C.H) k
  have R₄ := R₃.keeps (tk := s₃.toks) k
  obtain ⟨_, _, _, pu⟩ := part_of y₂
  obtain ⟨_, _, _, pv⟩ := part_of y₃
  obtain ⟨vs, n, ho, r⟩ := (R₄.has hm).list
  refine tail_any (ops := [.ref s₃.heap.objs.size, .ref a]) (T := "list") (isList_of ho).typeIs slot_list_getitem.lookup ?_ rfl
  refine wpAny_getItem_list_slice (isList_of ho) ⟨_, Heap.get?_push_size _ rfl, rfl, rfl⟩ pu pv .none (by intro x; cases x) ?_ (by simp [← r.length, sizeLine_eq]; omega)
  generalize hH : s₃.heap.push { cls := .type "slice", data := .fields #[u, w, .none] } = H at *
  have n : H.get? H.objs.size = none := by
    cases e : H.get? H.objs.size with
    | none => rfl
    | some o => exact absurd (Heap.lt_size e) (Nat.lt_irrefl _)
  have kp : ∀ b o, H.get? b = some o → (H.push { cls := .type "list", data := .seq (slicePick vs.toArray i j none) }).get? b = some o := fun b o e => Heap.get?_push_of_some _ e
  have at' : At C.H (H.push { cls := .type "list", data := .seq (slicePick vs.toArray i j none) }) H.objs.size (.lst ys) := by
    refine ⟨_, Heap.get?_push_size _ rfl, ?_⟩
    have := OR.lst (n := 0) ((slicePick_vrs r i j).mono (.of_keep kp))
    rw [e] at this
    simpa using this
  exact q _ _ _ _ (h _) ((((t₁.trans t₂).trans t₃).trans t₄).trans (.of_keep kp)) ((R₄.keeps (tk := s₃.toks) kp).grow at' (R₄.new_ne n) (R₄.new0 n)) (.val _)
theorem PV_sliceT {value : Expr} {lo : Expr} {p pos : Pos} {xs : List V} {i : Nat} (hv : PV C ks l μ value (.tup xs)) (hi' : PV C ks l μ lo (.int i)) (h1 : 1 ≤ i) (hi2 : i ≤ xs.length) (hz : xs.length ≤ 1000) :
    PV C ks l μ (.Subscript value (.Slice (some lo) none none p) pos) (.tup (xs.drop i)) := EV_slice hv (PPart_int hi') PPart_none fun h₀ s o u v sl R yo yu yv hsl => by
  obtain ⟨a, vs, k, rfl, ho, r⟩ := yo.tup_inv
  cases yu; cases yv
  refine ⟨"tuple", _, (isTup_of ho).typeIs, slot_tuple_getitem.lookup, fun Q E q => ?_⟩
  have e : vs.toArray.size = xs.length := by simp [r.length]
  refine getItem_tuple_from (isTup_of ho) ⟨_, hsl, rfl, rfl⟩ h1 (by rw [e]; exact hi2) ?_ (by rw [e, sizeLine_eq]; omega)
  have kp : ∀ b o, s.heap.get? b = some o → (s.heap.push { cls := .type "tuple", data := .seq (vs.toArray.toList.drop i).toArray }).get? b = some o := fun b o e => Heap.get?_push_of_some _ e
  exact q _ _ _ _ ⟨rfl, rfl⟩ (.of_keep kp) (R.keeps (tk := s.toks) kp) (.tup (n := 0) (R.H_new (none_size _)) (Heap.get?_push_size _ rfl) (by simpa using (r.drop i).mono (.of_keep kp)))
end
-- M7
theorem ext_keep {h h' : Heap} (x : Heap.ExtBut h.objs.size h h') : ∀ b o, h.get? b = some o → h'.get? b = some o := fun b o e => x b o (fun q => by subst q; rw [none_size] at e; cases e) e
section
variable {C : Cx} {ks : List Str} {l l' : List (Option V)} {μ μ' : Mem} {h₀ : Heap} {s : Shared}
/-! the largest base: all that the frame does not hold itself -/
noncomputable def Cx.ownCells (C : Cx) : List Addr := (C.env.cells.filter fun p => C.wr p.1).map (·.2)
noncomputable def held (C : Cx) (μ : Mem) : List Addr := C.env.locals :: (C.ownCells ++ μ.map (·.1))
noncomputable def bigBase (C : Cx) (μ : Mem) (h : Heap) : Heap := hideAll h (held C μ)
theorem ownCells_sub {C : Cx} {a : Addr} (h : a ∈ C.ownCells) : a ∈ C.env.cells.map (·.2) := by
  obtain ⟨p, hp, rfl⟩ := List.mem_map.mp h
  exact List.mem_map_of_mem (List.mem_filter.mp hp).1
theorem Rel.notHeld (R : Rel C ks l μ h₀ s) {b : Addr} {o : Obj} (e : h₀.get? b = some o) : b ∉ held C μ := by
  intro h
  rcases List.mem_cons.mp h with rfl | h
  · rw [R.l0] at e; cases e
  · rcases List.mem_append.mp h with h | h
    · obtain ⟨p, hp, rfl⟩ := List.mem_map.mp h
      obtain ⟨h1, h2⟩ := List.mem_filter.mp hp
      rw [(R.cells p h1).2 h2] at e; cases e
    · obtain ⟨p, hp, rfl⟩ := List.mem_map.mp h
      rw [(R.mem p hp).2] at e; cases e
theorem Rel.toBig (R : Rel C ks l μ h₀ s) : ∀ b o, h₀.get? b = some o → (bigBase C μ s.heap).get? b = some o := fun b o e => hideAll_get _ (R.keep b o e) (R.notHeld e)
theorem Rel.big (R : Rel C ks l μ h₀ s) : Rel C ks l μ (bigBase C μ s.heap) s where
  ns := R.ns
  keep := fun b o e => of_hideAll _ e
  mem := fun p hp => ⟨(R.mem p hp).1, hideAll_none _ (.tail _ (List.mem_append_right _ (List.mem_map_of_mem (f := fun x : Addr × Ob => x.1) hp)))⟩
  nd := R.nd
  l0 := hideAll_none _ (.head _)
  cells := fun p hp => ⟨(R.cells p hp).1, fun k => hideAll_none _ (.tail _ (List.mem_append_left _ (List.mem_map.mpr ⟨p, List.mem_filter.mpr ⟨hp, k⟩, rfl⟩)))⟩
  bare := R.bare
  os := R.os
  inK := R.inK.keeps R.toBig
  top := R.top.keeps R.toBig
  old := fun p hp => (R.old p hp).keep R.toBig
  off := R.off
theorem Rel.small {h₁ : Heap} {s₀ : Shared} (R : Rel C ks l μ h₁ s) (R₀ : Rel C ks l' μ' h₀ s₀) (k : ∀ b o, h₀.get? b = some o → h₁.get? b = some o) : Rel C ks l μ h₀ s where
  ns := R.ns
  keep := fun b o e => R.keep b o (k b o e)
  mem := fun p hp => ⟨(R.mem p hp).1, by
    cases q : h₀.get? p.1 with
    | none => rfl
    | some o => have := (R.mem p hp).2; rw [k _ _ q] at this; cases this⟩
  nd := R.nd
  l0 := R₀.l0
  cells := fun p hp => ⟨(R.cells p hp).1, (R₀.cells p hp).2⟩
  bare := R.bare
  os := R.os
  inK := R₀.inK
  top := R₀.top
  old := R₀.old
  off := R.off
/-- an object that the frame does not hold is turned -/
theorem Rel.other (R : Rel C ks l μ h₀ s) {fp : List Addr} (hf : ∀ b ∈ fp, b ∉ C.env.locals :: (C.env.cells.map (·.2) ++ μ.map (·.1)) ∧ h₀.get? b = none) {h' : Heap} (ho : ∀ b ∈ fp, C.H b ∨ ∃ o, h'.get? b = some o) {tk : Nat} (k : ∀ b o, b ∉ fp → s.heap.get? b = some o → h'.get? b = some o) (t : TK C.H s.heap h') :
    Rel C ks l μ h₀ { s with heap := h', toks := tk } where
  ns := by
    obtain ⟨m, n, b⟩ := R.ns
    have hL : C.env.locals ∉ fp := fun q => (hf _ q).1 (.head _)
    refine ⟨m, n.at fun o e => k _ _ hL e, fun x v q => (b x v q).mono t fun c u e i => ?_⟩
    obtain ⟨o, ho, hd⟩ := i
    exact ⟨o, k _ _ (fun q => (hf _ q).1 (.tail _ (List.mem_append_left _ (List.mem_map_of_mem (f := fun x : Str × Addr => x.2) (lookup_mem e))))) ho, hd⟩
  keep := fun b o e => k b o (fun q => by rw [(hf _ q).2] at e; cases e) (R.keep b o e)
  mem := fun p hp => ⟨by
    obtain ⟨o, ho, r⟩ := (R.mem p hp).1
    exact ⟨o, k _ _ (fun q => (hf _ q).1 (.tail _ (List.mem_append_right _ (List.mem_map_of_mem (f := fun x : Addr × Ob => x.1) hp)))) ho, r.mono t⟩, (R.mem p hp).2⟩
  nd := R.nd
  l0 := R.l0
  cells := fun p hp => ⟨by
    obtain ⟨v, o, ho, hd⟩ := (R.cells p hp).1
    exact ⟨v, o, k _ _ (fun q => (hf _ q).1 (.tail _ (List.mem_append_left _ (List.mem_map_of_mem (f := fun x : Str × Addr => x.2) hp)))) ho, hd⟩, (R.cells p hp).2⟩
  bare := R.bare
  os := R.os
  inK := R.inK
  top := R.top
  old := R.old
  off := fun a q => by
    by_cases m : a ∈ fp
    · rcases ho a m with h | h
      · exact absurd h q
      · exact h
    · obtain ⟨o, e⟩ := R.off a q
      exact ⟨o, k a o m e⟩
/-! targets -/
noncomputable def Sto (C : Cx) (x : Str) : Prop := C.env.kindOf x = some .local ∨ (C.env.kindOf x = some .cell ∧ (x == ("__classdict__" : Str)) = false ∧ (∃ c, C.env.cells.lookup x = some c) ∧ C.wr x = true ∧ (C.env.cells.map (·.1)).Nodup)
theorem store_any (ok : C.Ok) (nk : ks.Nodup) {x : Str} {v : V} {u : Value} (R : Rel C ks l μ h₀ s) (U : Up ks l x v l') (hk : Sto C x) (hv : VR C.H s.heap v u) {Q : Unit → Shared → Prop} {E : Value → Shared → Prop}
    (q : ∀ s', TK C.H s.heap s'.heap → Rel C ks l' μ h₀ s' → Q () s') : wpAny (model C.prog C.w) C.A (storeName C.env x u) Q E s := by
  rcases hk with hk | ⟨hk, hx, ⟨c, hc⟩, hw, hi⟩
  · exact storeName_rel ok nk R U hk hv q
  · exact storeName_relC ok nk R U hk hx hc hw hi hv q
noncomputable def AS (C : Cx) (ks : List Str) (l : List (Option V)) (μ : Mem) (t : Expr) (v : V) (Ξ : List (Option V) → Prop) : Prop :=
  ∀ h₀ s u, Rel C ks l μ h₀ s → VR C.H s.heap v u → ∀ (Q : Unit → Shared → Prop) (E : Value → Shared → Prop), (∀ l' s', Ξ l' → TK C.H s.heap s'.heap → Rel C ks l' μ h₀ s' → Q () s') → wpAny (model C.prog C.w) C.A (assign t C.env u) Q E s
theorem AS_name (ok : C.Ok) (nk : ks.Nodup) {x : Str} {pos : Pos} {v : V} {Ξ : List (Option V) → Prop} (hk : Sto C x) (U : Up ks l x v l') (h : Ξ l') : AS C ks l μ (.Name x pos) v Ξ := fun h₀ s u R y Q E q =>
  wpAny_assign_Name (store_any ok nk R U hk y fun s' t r => q l' s' h t r)
theorem bind_any (ok : C.Ok) (nk : ks.Nodup) {x : Str} {v : V} {u : Value} (R : Rel C ks l μ h₀ s) (U : Up ks l x v l') (hk : Sto C x) (hv : VR C.H s.heap v u) {Q : Unit → Shared → Prop} {E : Value → Shared → Prop}
    (q : ∀ s', TK C.H s.heap s'.heap → Rel C ks l' μ h₀ s' → Q () s') : wpAny (model C.prog C.w) C.A (bindName C.env x u) Q E s := by
  show wpAny _ _ (holding [u] point >>= fun _ => storeName C.env x u >>= fun _ => point) _ _ s
  refine wpAny_bind (wpAny_holding (wpAny_point (wpAny_bind (store_any ok nk R U hk hv fun s' t r => ?_))))
  exact wpAny_point (q s' t r)
/-- names one behind the other, from a tuple's items -/
inductive Ups : List Str → List (Option V) → List Str → List V → List (Option V) → Prop
  | nil {ks : List Str} {l : List (Option V)} : Ups ks l [] [] l
  | cons {ks : List Str} {l l' l'' : List (Option V)} {x : Str} {xs : List Str} {v : V} {vs : List V} : Up ks l x v l' → Ups ks l' xs vs l'' → Ups ks l (x :: xs) (v :: vs) l''
theorem stores_any (ok : C.Ok) (nk : ks.Nodup) : ∀ {ps : List (Str × Pos)} {vs : List V} {us : List Value} {l : List (Option V)} {s : Shared}, Rel C ks l μ h₀ s → Ups ks l (ps.map (·.1)) vs l' → (∀ p ∈ ps, Sto C p.1) → VRs C.H s.heap vs us → ∀ {Q : Unit → Shared → Prop} {E : Value → Shared → Prop},
    (∀ s', TK C.H s.heap s'.heap → Rel C ks l' μ h₀ s' → Q () s') → wpAny (model C.prog C.w) C.A (assignInOrder (ps.map fun p => assign (.Name p.1 p.2) C.env) us) Q E s
  | [], vs, us, l, s, R, U, hk, y, Q, E, q => by
    cases U
    cases y
    exact wpAny_pure (q s (TK.refl _) R)
  | p :: ps, vs, us, l, s, R, U, hk, y, Q, E, q => by
    cases U with
    | cons U1 U2 =>
      cases y with
      | cons y1 y2 =>
        show wpAny _ _ (do holding _ (assign (.Name p.1 p.2) C.env _); assignInOrder _ _) _ _ s
        refine wpAny_bind (wpAny_holding (wpAny_assign_Name (store_any ok nk R U1 (hk p (.head _)) y1 fun s' t r => ?_)))
        exact stores_any ok nk r U2 (fun p hp => hk p (.tail _ hp)) (y2.mono t) fun s'' t' r' => q s'' (t.trans t') r'
theorem AS_tuple (ok : C.Ok) (nk : ks.Nodup) {elts : List Expr} {k : Nat} {pos : Pos} {ps : List (Str × Pos)} {vs : List V} {Ξ : List (Option V) → Prop} (he : assignEach elts C.env = ps.map fun p => (false, assign (.Name p.1 p.2) C.env)) (hl : ps.length = vs.length)
    (hk : ∀ p ∈ ps, Sto C p.1) (U : Ups ks l (ps.map (·.1)) vs l') (h : Ξ l') : AS C ks l μ (.Tuple elts k pos) (.tup vs) Ξ := fun h₀ s u R y Q E q => by
  obtain ⟨a, us, n, rfl, ho, r⟩ := y.tup_inv
  have e : us.toArray.size = vs.length := by simp [r.length]
  refine assign_Tuple_tuple ok.hand (isTup_of ho) (by rw [he, List.length_map, hl, e]) (by rw [he]; simp [List.findIdx?_eq_none_iff]) fun h' x => ?_
  have kp := ext_keep x
  rw [he, List.map_map]
  exact stores_any ok nk (R.keeps (tk := s.toks) kp) U hk (r.mono (.of_keep kp)) fun s' t r => q l' s' h ((TK.of_keep kp).trans t) r
/-! plain statements -/
inductive StK (ks : List Str) (l : List (Option V)) (x : Str) (Ψ : Fl → List (Option V) → Mem → Prop) (v : V) (μ' : Mem) : Prop
  | mk (l' : List (Option V)) : Up ks l x v l' → Ψ .next l' μ' → StK ks l x Ψ v μ'
inductive AuK (ks : List Str) (l : List (Option V)) (x : Str) (j r : Int) (Ψ : Fl → List (Option V) → Mem → Prop) (v : V) (μ' : Mem) : Prop
  | mk : v = .int j → (l' : List (Option V)) → Up ks l x (.int r) l' → Ψ .next l' μ' → AuK ks l x j r Ψ v μ'
abbrev ReK (l : List (Option V)) (Ψ : Fl → List (Option V) → Mem → Prop) : V → Mem → Prop := fun v μ' => Ψ (.ret v) l μ'
abbrev ExK (l : List (Option V)) (Ψ : Fl → List (Option V) → Mem → Prop) : V → Mem → Prop := fun _ μ' => Ψ .next l μ'
abbrev IfK (C : Cx) (ks : List Str) (l : List (Option V)) (a b : List Stmt) (Ψ : Fl → List (Option V) → Mem → Prop) : Bool → Mem → Prop := fun c μ' => (c = true → EX C ks l μ' a Ψ) ∧ (c = false → EX C ks l μ' b Ψ)
theorem E1_assign (ok : C.Ok) (nk : ks.Nodup) {x : Str} {p pos : Pos} {e : Expr} {Ψ : Fl → List (Option V) → Mem → Prop} (hk : Sto C x) (h : EV C ks l μ e (StK ks l x Ψ)) (hs : swapsWith e (some (.Name x p)) pos.line C.env = pure false) :
    E1 C ks l μ (.Assign [.Name x p] e pos) Ψ := fun h₀ s R Q E q => by
  refine wpAny_Assign_Name (h h₀ s R _ E fun v μ' u s' k t r y => ?_) hs
  obtain ⟨l', U, k⟩ := k
  exact store_any ok nk r U hk y fun s'' t' r' => q .next l' μ' .next s'' k (t.trans t') r' .next
theorem E1_assignP (ok : C.Ok) (nk : ks.Nodup) {x : Str} {p pos : Pos} {e : Expr} {v : V} {Ψ : Fl → List (Option V) → Mem → Prop} (hk : Sto C x) (h : PV C ks l μ e v) (U : Up ks l x v l') (k : Ψ .next l' μ) (hs : swapsWith e (some (.Name x p)) pos.line C.env = pure false) :
    E1 C ks l μ (.Assign [.Name x p] e pos) Ψ := E1_assign ok nk hk (EV_of h ⟨l', U, k⟩) hs
theorem E1_augI (ok : C.Ok) (nk : ks.Nodup) {x : Str} {p pos : Pos} {e : Expr} {i j r : Int} {op : Operator} {Ψ : Fl → List (Option V) → Mem → Prop} (hk : Sto C x) (hx : Lk ks l x (.int i)) (h : EV C ks l μ e (AuK ks l x j r Ψ)) (ho : (op = .Add ∧ r = i + j) ∨ (op = .Sub ∧ r = i - j))
     : E1 C ks l μ (.AugAssign (.Name x p) op e pos) Ψ := fun h₀ s R Q E q => by
  refine wpAny_AugAssign_Name ?_
  have ld : ∀ {Q : Value → Shared → Prop}, (∀ t, Q (.int i t) s) → wpAny (model C.prog C.w) C.A (loadName C.env x) Q E s := fun {Q} q => by
    obtain ⟨m, hm, hb⟩ := R.ns
    rcases hb x _ hx with ⟨k, u, e, r⟩ | ⟨k, n, c, u, e, i, r⟩
    · cases r; exact wpAny_loadName_local ok.fn k hm e (q _)
    · rcases k with k | k
      · cases r; exact wpAny_loadName_cell ok.fn k e i (q _)
      · cases r; exact wpAny_loadName_free ok.fn k e i (q _) n
  refine ld fun t => ?_
  refine h h₀ s R _ E fun v μ' u s' k tk R' y => ?_
  obtain ⟨rfl, l', U, k⟩ := k
  cases y
  rcases ho with ⟨rfl, rfl⟩ | ⟨rfl, rfl⟩
  · refine wpAny_iadd_int (store_any ok nk R'.toks U hk (.int _ _) fun s'' t' r' => q .next l' μ' .next s'' k (tk.trans t') r' .next)
  · refine P.isub_int (store_any ok nk R'.toks U hk (.int _ _) fun s'' t' r' => q .next l' μ' .next s'' k (tk.trans t') r' .next)
theorem E1_expr {e : Expr} {pos : Pos} {Ψ : Fl → List (Option V) → Mem → Prop} (h : EV C ks l μ e (ExK l Ψ)) (hi : interactive C.env = false) (hs : swapsWith e none pos.line C.env = pure false) : E1 C ks l μ (.Expr e pos) Ψ := fun h₀ s R Q E q =>
  wpAny_Expr_any (h h₀ s R _ E fun v μ' u s' k t r y => q .next l μ' .next s' k t r .next) hi hs
theorem E1_if {test : Expr} {a b : List Stmt} {pos : Pos} {Ψ : Fl → List (Option V) → Mem → Prop} (h : TE C ks l μ test (IfK C ks l a b Ψ)) : E1 C ks l μ (.If test a b pos) Ψ := fun h₀ s R Q E q => by
  refine wpAny_If (h h₀ s R _ E fun c μ' s' k t r => ?_)
  cases c with
  | true => exact k.1 rfl h₀ s' r Q E fun f l' μ' fl s'' p t' r' y => q f l' μ' fl s'' p (t.trans t') r' y
  | false => exact k.2 rfl h₀ s' r Q E fun f l' μ' fl s'' p t' r' y => q f l' μ' fl s'' p (t.trans t') r' y
theorem E1_ret {e : Expr} {pos : Pos} {Ψ : Fl → List (Option V) → Mem → Prop} (h : EV C ks l μ e (ReK l Ψ)) : E1 C ks l μ (.Return (some e) pos) Ψ := fun h₀ s R Q E q =>
  wpAny_Return_some (h h₀ s R _ E fun v μ' u s' k t r y => q (.ret v) l μ' (.ret u) s' k t r (.ret y))
theorem E1_brk {pos : Pos} {Ψ : Fl → List (Option V) → Mem → Prop} (h : Ψ .brk l μ) : E1 C ks l μ (.Break pos) Ψ := fun h₀ s R Q E q => wpAny_Break (q .brk l μ .brk s h (TK.refl _) R .brk)
theorem E1_while {test : Expr} {body : List Stmt} {pos : Pos} {Ψ : Fl → List (Option V) → Mem → Prop} (Inv : Nat → List (Option V) → Mem → Prop) (n₀ : Nat) (start : Inv n₀ l μ)
    (turn : ∀ n l μ, Inv n l μ → TE C ks l μ test fun c μ' => (c = true → EX C ks l μ' body (Lp (fun l' μ'' => ∃ m, m < n ∧ Inv m l' μ'') Ψ)) ∧ (c = false → Ψ .next l μ')) :
    E1 C ks l μ (.While test body [] pos) Ψ := fun h₀ s R Q E q => by
  refine wpAny_While (codeAny_whileLoop (fun n s' => ∃ l μ, Inv n l μ ∧ Rel C ks l μ h₀ s' ∧ TK C.H s.heap s'.heap) ?_ n₀ ⟨l, μ, start, R, TK.refl _⟩)
  rintro n s₁ ⟨l₁, μ₁, hI, R₁, t₁⟩
  refine turn n l₁ μ₁ hI h₀ s₁ R₁ _ _ fun c μ' s₂ k t r => ?_
  cases c with
  | false => exact wpAny_pure (q .next l₁ μ' .next s₂ (k.2 rfl) (t₁.trans t) r .next)
  | true =>
    refine k.1 rfl h₀ s₂ r _ _ fun f l' μ'' fl s₃ p t' r' y => ?_
    cases y with
    | next => obtain ⟨m, hm, hI⟩ := p; exact ⟨m, hm, l', μ'', hI, r', (t₁.trans t).trans t'⟩
    | brk => exact q .next l' μ'' .next s₃ p ((t₁.trans t).trans t') r' .next
    | ret y => exact q (.ret _) l' μ'' _ s₃ p ((t₁.trans t).trans t') r' (.ret y)
end
-- M8
theorem codeAny_forG {prog : Program} {w : World} {A : Around} {R : Result → Shared → Prop} {s : Shared} {target : Expr} {it : Value} {body orelse : List Stmt} {env : Env} (I : Nat → Shared → Prop)
    (turn : ∀ n s, I n s → ∀ E, wpAny (model prog w) A (pyNext it) (fun r s₁ => match r with
      | none => ∀ E, wpAny (model prog w) A (execs orelse env) (fun f s₃ => R (.ok f) s₃) E s₁
      | some v => ∀ E, wpAny (model prog w) A (letOwnedTupleGo target it v) (fun _ s₁ => ∀ E, wpAny (model prog w) A (assign target env v) (fun _ s₂ => ∀ E, wpAny (model prog w) A (execs body env) (fun f s₃ => match f with
          | .next | .cont => ∃ m, m < n ∧ I m s₃
          | .brk => R (.ok .next) s₃
          | .ret v => R (.ok (.ret v)) s₃) E s₂) E s₁) E s₁) E s)
    (n : Nat) (h : I n s) : codeAny (model prog w) A (.forLoop target it body orelse env) R s := by
  refine codeAny_loop' rfl I (fun n s hI => ?_) n h
  show wpAny _ _ ((forTurn target it body orelse env).onRaise (fun x => do noteFrame x env; theTreesLotGoes x)) _ _ s
  refine wpAny_noted ?_
  simp only [forTurn]
  refine wpAny_bind (wpAny_standAt (wpAny_bind (wpAny_onRaise (wpAny_mono (turn n s hI (fun _ _ => False)) (fun r s₁ h₁ => ?_) fun _ _ h' => h'.elim))))
  cases r with
  | none => exact wpAny_pure (.inr ⟨rfl, codeAny_block (h₁ _)⟩)
  | some v =>
    refine wpAny_bind (wpAny_mono (h₁ (fun _ _ => False)) (fun _ s₂ h₂ => ?_) fun _ _ h' => h'.elim)
    refine wpAny_bind (wpAny_mono (h₂ (fun _ _ => False)) (fun _ s₂ h₂ => wpAny_bind (wpAny_mono (h₂ (fun _ _ => False)) (fun f s₃ h₃ => ?_) fun _ _ h' => h'.elim)) fun _ _ h' => h'.elim)
    cases f with
    | next => exact wpAny_pure (.inl ⟨rfl, h₃⟩)
    | cont => exact wpAny_pure (.inl ⟨rfl, h₃⟩)
    | brk => exact wpAny_pure h₃
    | ret v => exact wpAny_pure h₃
section
variable {C : Cx} {ks : List Str} {l l' : List (Option V)} {μ μ' : Mem} {h₀ : Heap} {s : Shared}
noncomputable def Untr (C : Cx) (μ : Mem) (h₀ : Heap) (fp : List Addr) : Prop := ∀ b ∈ fp, b ∉ C.env.locals :: (C.env.cells.map (·.2) ++ μ.map (·.1)) ∧ h₀.get? b = none
/-- an iterator at I, its own objects fp; after i items -/
structure Iter (C : Cx) (ks : List Str) (I : Addr) (fp : List Addr) (n : Nat) (xs : Nat → V) (Need : Mem → Prop) (target : Expr) (St Md : Nat → Heap → Prop) : Prop where
  there : ∀ i h, St i h → ∀ b ∈ fp, ∃ o, h.get? b = some o
  ok : ∀ b ∈ fp, C.H b
  keep : ∀ i h h', St i h → (∀ b ∈ fp, ∀ o, h.get? b = some o → h'.get? b = some o) → St i h'
  keepM : ∀ i h h', Md i h → (∀ b ∈ fp, ∀ o, h.get? b = some o → h'.get? b = some o) → Md i h'
  self : ∀ i (s : Shared) (Q : Value → Shared → Prop) (E : Value → Shared → Prop), St i s.heap → Q (.ref I) s → wpAny (model C.prog C.w) C.A (pyIter (.ref I)) Q E s
  next : ∀ i l μ h₀ s (Q : Option Value → Shared → Prop) (E : Value → Shared → Prop), i < n → Need μ → Untr C μ h₀ fp → Rel C ks l μ h₀ s → St i s.heap →
    (∀ u s', TK C.H s.heap s'.heap → Rel C ks l μ h₀ s' → VR C.H s'.heap (xs i) u → Md i s'.heap → Q (some u) s') → wpAny (model C.prog C.w) C.A (pyNext (.ref I)) Q E s
  own : ∀ i l μ h₀ s u (Q : Unit → Shared → Prop) (E : Value → Shared → Prop), i < n → Need μ → Untr C μ h₀ fp → Rel C ks l μ h₀ s → VR C.H s.heap (xs i) u → Md i s.heap →
    (∀ s', TK C.H s.heap s'.heap → Rel C ks l μ h₀ s' → VR C.H s'.heap (xs i) u → St (i + 1) s'.heap → Q () s') → wpAny (model C.prog C.w) C.A (letOwnedTupleGo target (.ref I) u) Q E s
  done : ∀ l μ h₀ s (Q : Option Value → Shared → Prop) (E : Value → Shared → Prop), Need μ → Untr C μ h₀ fp → Rel C ks l μ h₀ s → St n s.heap →
    (∀ s', TK C.H s.heap s'.heap → Rel C ks l μ h₀ s' → Q none s') → wpAny (model C.prog C.w) C.A (pyNext (.ref I)) Q E s
/-- pyIter of a value gives such an iterator -/
noncomputable def Src (C : Cx) (ks : List Str) (l : List (Option V)) (μ : Mem) (v : V) (n : Nat) (xs : Nat → V) (Need : Mem → Prop) (target : Expr) : Prop :=
  ∀ h₀ s u, Rel C ks l μ h₀ s → VR C.H s.heap v u → ∀ (Q : Value → Shared → Prop) (E : Value → Shared → Prop),
    (∀ I fp St Md s', Iter C ks I fp n xs Need target St Md → St 0 s'.heap → Untr C μ h₀ fp → TK C.H s.heap s'.heap → Rel C ks l μ h₀ s' → Q (.ref I) s') → wpAny (model C.prog C.w) C.A (pyIter u) Q E s
theorem untr_big {fp : List Addr} {I : Addr} {n : Nat} {xs : Nat → V} {Need : Mem → Prop} {target : Expr} {St Md : Nat → Heap → Prop} (W : Iter C ks I fp n xs Need target St Md) {i : Nat} {h : Heap} (st : St i h) (u : Untr C μ h₀ fp) : ∀ b ∈ fp, ∃ o, h.get? b = some o ∧ (bigBase C μ h).get? b = some o := fun b hb => by
  obtain ⟨o, ho⟩ := W.there i h st b hb
  refine ⟨o, ho, hideAll_get _ ho fun q => (u b hb).1 ?_⟩
  rcases List.mem_cons.mp q with rfl | q
  · exact .head _
  · rcases List.mem_append.mp q with q | q
    · exact .tail _ (List.mem_append_left _ (ownCells_sub q))
    · exact .tail _ (List.mem_append_right _ q)
theorem untr_after {fp : List Addr} {h₁ : Heap} {s' : Shared} (u : Untr C μ h₀ fp) (hb : ∀ b ∈ fp, ∃ o, h₁.get? b = some o) (R' : Rel C ks l' μ' h₁ s') : Untr C μ' h₀ fp := fun b h => by
  refine ⟨fun q => ?_, (u b h).2⟩
  rcases List.mem_cons.mp q with rfl | q
  · exact (u _ h).1 (.head _)
  · rcases List.mem_append.mp q with q | q
    · exact (u b h).1 (.tail _ (List.mem_append_left _ q))
    · obtain ⟨p, hp, rfl⟩ := List.mem_map.mp q
      obtain ⟨o, ho⟩ := hb _ h
      rw [(R'.mem p hp).2] at ho; cases ho
theorem E1_forE {target iter : Expr} {body : List Stmt} {pos : Pos} {Ψ : Fl → List (Option V) → Mem → Prop}
    (hi : EV C ks l μ iter fun v μ' => ∃ (n : Nat) (xs : Nat → V) (Need : Mem → Prop) (Inv : Nat → List (Option V) → Mem → Prop), Src C ks l μ' v n xs Need target ∧ Inv 0 l μ' ∧
      (∀ i l μ, i < n → Inv i l μ → Need μ ∧ AS C ks l μ target (xs i) fun l' => EX C ks l' μ body (Lp (Inv (i + 1)) Ψ)) ∧
      (∀ l μ, Inv n l μ → Need μ ∧ Ψ .next l μ)) (hs : ∀ x, foldedSetIterable iter C.env x = pure x) : E1 C ks l μ (.For target iter body [] pos) Ψ := fun h₀ s R Q E q => by
  refine wpAny_For (hi h₀ s R _ E fun v μ₁ u s₁ k t₁ R₁ y₁ => ?_) hs
  obtain ⟨n, xs, Need, Inv, src, hI0, turn, done⟩ := k
  refine src h₀ s₁ u R₁ y₁ _ E fun I fp St Md s₂ W st₀ un t₂ R₂ => ?_
  refine codeAny_forG (fun k s' => ∃ i l μ, i ≤ n ∧ k = n - i ∧ Inv i l μ ∧ Rel C ks l μ h₀ s' ∧ TK C.H s.heap s'.heap ∧ St i s'.heap ∧ Untr C μ h₀ fp) ?_ n ⟨0, l, μ₁, Nat.zero_le _, rfl, hI0, R₂, t₁.trans t₂, st₀, un⟩
  rintro k s₃ ⟨i, l₃, μ₃, hin, rfl, hI, R₃, t₃, st, un⟩ E₁
  by_cases hlt : i < n
  · obtain ⟨nd, as⟩ := turn i l₃ μ₃ hlt hI
    refine W.next i l₃ μ₃ h₀ s₃ _ E₁ hlt nd un R₃ st fun u s₄ t₄ R₄ y₄ md => ?_
    intro E₂
    refine W.own i l₃ μ₃ h₀ s₄ u _ E₂ hlt nd un R₄ y₄ md fun s₅ t₅ R₅ y₅ st₅ => ?_
    intro E₃
    -- the base from here on: all that the frame does not hold, the iterator too
    have hb : ∀ b ∈ fp, ∃ o, s₅.heap.get? b = some o ∧ (bigBase C μ₃ s₅.heap).get? b = some o := untr_big W st₅ un
    refine as _ s₅ u R₅.big y₅ _ E₃ fun l₆ s₆ ex t₆ R₆ => ?_
    intro E₄
    refine ex _ s₆ R₆ _ E₄ fun f l₇ μ₇ fl s₇ p t₇ R₇ y₇ => ?_
    have st₇ : St (i + 1) s₇.heap := W.keep _ _ _ st₅ fun b hb' o e => by
      obtain ⟨o', ho, hbig⟩ := hb b hb'
      obtain rfl : o' = o := Option.some.inj (ho.symm.trans e)
      exact R₇.keep b _ hbig
    have R₇' := R₇.small R₅ R₅.toBig
    have un₇ : Untr C μ₇ h₀ fp := untr_after un (fun b h => let ⟨o, _, e⟩ := hb b h; ⟨o, e⟩) R₇
    have tt := (((t₃.trans t₄).trans t₅).trans t₆).trans t₇
    cases y₇ with
    | next => exact ⟨n - (i + 1), by omega, i + 1, l₇, μ₇, hlt, rfl, p, R₇', tt, st₇, un₇⟩
    | brk => exact q .next l₇ μ₇ .next s₇ p tt R₇' .next
    | ret y => exact q (.ret _) l₇ μ₇ _ s₇ p tt R₇' (.ret y)
  · obtain rfl : i = n := by omega
    obtain ⟨nd, hΨ⟩ := done l₃ μ₃ hI
    refine W.done l₃ μ₃ h₀ s₃ _ E₁ nd un R₃ st fun s₄ t₄ R₄ => ?_
    intro E₂
    exact wpAny_pure (q .next l₃ μ₃ .next s₄ hΨ (t₃.trans t₄) R₄ .next)
theorem E1_for {target iter : Expr} {body : List Stmt} {pos : Pos} {Ψ : Fl → List (Option V) → Mem → Prop} {n : Nat} {xs : Nat → V} {Need : Mem → Prop} (Inv : Nat → List (Option V) → Mem → Prop)
    (hi : EV C ks l μ iter fun v μ' => Src C ks l μ' v n xs Need target ∧ Inv 0 l μ')
    (turn : ∀ i l μ, i < n → Inv i l μ → Need μ ∧ AS C ks l μ target (xs i) fun l' => EX C ks l' μ body (Lp (Inv (i + 1)) Ψ))
    (done : ∀ l μ, Inv n l μ → Need μ ∧ Ψ .next l μ) (hs : ∀ x, foldedSetIterable iter C.env x = pure x) : E1 C ks l μ (.For target iter body [] pos) Ψ := E1_forE (hi.mono fun v μ' p => ⟨n, xs, Need, Inv, p.1, p.2, turn, done⟩) hs
/-! lists, ranges -/
theorem untr_new (R : Rel C ks l μ h₀ s) {a : Addr} (n : s.heap.get? a = none) : Untr C μ h₀ [a] := fun b hb => by
  rw [List.mem_singleton.mp hb]; exact ⟨R.new_ne n, R.new0 n⟩
theorem ext_tk {h h' : Heap} {I : Addr} {o : Obj} (ho : h.get? I = some o) (hn : ∀ vs k, o ≠ tupleOf vs k) (x : ∀ b o, b ≠ I → h.get? b = some o → h'.get? b = some o) : TK C.H h h' := fun a vs n _ e => x a _ (fun q => by subst q; rw [ho] at e; cases e; exact hn _ _ rfl) e
noncomputable def plainT (t : Expr) : Prop := match t with | .Tuple .. => False | .List .. => False | _ => True
theorem own_plain {t : Expr} (p : plainT t) (it v : Value) : letOwnedTupleGo t it v = pure () := by
  cases t <;> first | rfl | exact p.elim
theorem iter_list (ok : C.Ok) {I : Addr} (hI : C.H I) {a : Addr} {ys : List V} {target : Expr} :
    Iter C ks I [I] ys.length (fun i => ys.getD i .none) (fun μ => Has C μ a (.lst ys)) target (fun i h => h.IsListIter I a i) (fun i h => h.IsListIter I a (i + 1)) where
  there := fun i h ⟨o, ho, _⟩ b hb => by rw [List.mem_singleton.mp hb]; exact ⟨o, ho⟩
  ok := fun b hb => by rw [List.mem_singleton.mp hb]; exact hI
  keep := fun i h h' ⟨o, ho, r⟩ k => ⟨o, k I (.head _) o ho, r⟩
  keepM := fun i h h' ⟨o, ho, r⟩ k => ⟨o, k I (.head _) o ho, r⟩
  self := fun i s Q E st hQ => wpAny_pyIter_listiter st hQ
  next := fun i l μ h₀ s Q E hi nd un R st q => by
    obtain ⟨vs, n, ho, r⟩ := (R.has nd).list
    obtain ⟨x, hx⟩ : ∃ x, ys[i]? = some x := ⟨_, List.getElem?_eq_getElem hi⟩
    obtain ⟨v, hv, y⟩ := r.get hx
    obtain ⟨oi, hoi, hc, hd⟩ := id st
    refine wpAny_pyNext_list_item st (isList_of ho) (x := v) (by simpa using hv) fun h' hit hs => ?_
    have t : TK C.H s.heap h' := tk_same hs hoi fun vs k e => by subst e; simp at hc
    have R' := R.other (tk := s.toks) (fp := [I]) un (ho := fun b hb => .inl (by rw [List.mem_singleton.mp hb]; exact hI)) (h' := h') (fun b o hb e => (hs.2 b fun q => hb (by rw [q]; exact .head _)).trans e) t
    have e : ys.getD i .none = x := by simp [List.getD, hx]
    exact q _ _ t R' (by rw [e]; exact y.mono t) hit
  own := fun i l μ h₀ s u Q E hi nd un R y md q => by
    obtain ⟨oi, hoi, hc, hd⟩ := id md
    have fin : Q () s := q s (TK.refl _) R y md
    have key : ∀ (t : Expr), wpAny (model C.prog C.w) C.A (letOwnedTupleGo t (.ref I) u) Q E s := by
      have go : ∀ (u : Value), wpAny (model C.prog C.w) C.A (do
          let (.ref r, .ref a) := (Value.ref I, u) | return
          let o ← load r
          match o.cls, o.data with
          | .type n, .fields vs =>
            if ["enumerate", "zip", "dict_itemiterator", "dict_reverseitemiterator", "odict_iterator", "itertools.zip_longest", "itertools.pairwise"].contains n && vs[0]? == some (rawInt a) then
              rule "for.unpacks-the-owned-tuple"
              updateField r 0 .none
          | _, _ => pure ()) Q E s := by
        intro u
        cases u with
        | ref x =>
          refine wpAny_bind (wpAny_load hoi ?_)
          rw [hc, hd]
          exact wpAny_pure fin
        | _ => exact wpAny_pure fin
      intro t
      cases t <;> first | exact go u | exact wpAny_pure fin
    exact key target
  done := fun l μ h₀ s Q E nd un R st q => by
    obtain ⟨vs, n, ho, r⟩ := (R.has nd).list
    obtain ⟨oi, hoi, hc, hd⟩ := id st
    refine wpAny_pyNext_list_end ok.hand st (isList_of ho) (by simp [r.length]) fun h' x => ?_
    have t : TK C.H s.heap h' := ext_tk hoi (fun vs k e => by subst e; simp at hc) fun b o hb e => x b o hb e
    exact q _ t (R.other (tk := s.toks) (fp := [I]) un (ho := fun b hb => .inl (by rw [List.mem_singleton.mp hb]; exact hI)) (fun b o hb e => x b o (fun q => hb (by rw [q]; exact .head _)) e) t)
theorem src_list (ok : C.Ok) {a : Addr} {ys : List V} {target : Expr} (hm : Has C μ a (.lst ys)) : Src C ks l μ (.val (.ref a)) ys.length (fun i => ys.getD i .none) (fun μ => Has C μ a (.lst ys)) target := fun h₀ s u R y Q E q => by
  cases y
  obtain ⟨vs, n, ho, r⟩ := (R.has hm).list
  refine wpAny_pyIter_list (isList_of ho) ?_
  have kp : ∀ b o, s.heap.get? b = some o → (s.heap.push { cls := .type "list_iterator", data := .fields #[.ref a, .int 0 0] }).get? b = some o := fun b o e => Heap.get?_push_of_some _ e
  exact q s.heap.objs.size [s.heap.objs.size] _ _ { s with heap := s.heap.push { cls := .type "list_iterator", data := .fields #[.ref a, .int 0 0] } } (iter_list ok (R.H_new (none_size _))) ⟨_, Heap.get?_push_size _ rfl, rfl, rfl⟩ (untr_new R (none_size _)) (.of_keep kp) (R.keeps (tk := s.toks) kp)
theorem iter_range (ok : C.Ok) {I : Addr} (hI : C.H I) {a : Int} {n : Nat} {x : Str} {px : Pos} :
    Iter C ks I [I] n (fun i => .int (a + i)) (fun _ => True) (.Name x px) (fun i h => IsRangeIter h I (a + i) ((n : Int) - i) 1) (fun i h => IsRangeIter h I (a + (i + 1 : Nat)) ((n : Int) - (i + 1 : Nat)) 1) where
  there := fun i h ho b hb => by rw [List.mem_singleton.mp hb]; exact ⟨_, ho⟩
  ok := fun b hb => by rw [List.mem_singleton.mp hb]; exact hI
  keep := fun i h h' ho k => k I (.head _) _ ho
  keepM := fun i h h' ho k => k I (.head _) _ ho
  self := fun i s Q E st hQ => wpAny_pyIter_rangeiter st hQ
  next := fun i l μ h₀ s Q E hi nd un R st q => by
    refine wpAny_pyNext_range_item st (by omega) fun h' hit hs => ?_
    have t : TK C.H s.heap h' := tk_same hs st fun vs k e => by have := congrArg Obj.cls e; simp at this
    refine q _ _ t (R.other (tk := s.toks + 1) (fp := [I]) un (ho := fun b hb => .inl (by rw [List.mem_singleton.mp hb]; exact hI)) (h' := h') (fun b o hb e => (hs.2 b fun q => hb (by rw [q]; exact .head _)).trans e) t) (.int _ _) ?_
    have e1 : a + ((i + 1 : Nat) : Int) = a + i + 1 := by omega
    have e2 : (n : Int) - ((i + 1 : Nat) : Int) = (n : Int) - i - 1 := by omega
    show IsRangeIter h' I (a + ((i + 1 : Nat) : Int)) ((n : Int) - ((i + 1 : Nat) : Int)) 1
    rw [e1, e2]; exact hit
  own := fun i l μ h₀ s u Q E hi nd un R y md q => by
    rw [own_plain (t := .Name x px) True.intro]
    exact wpAny_pure (q s (TK.refl _) R y md)
  done := fun l μ h₀ s Q E nd un R st q => by
    refine wpAny_pyNext_range_end ok.hand st (by omega) fun h' x => ?_
    have t : TK C.H s.heap h' := ext_tk st (fun vs k e => by have := congrArg Obj.cls e; simp at this) fun b o hb e => x b o hb e
    exact q _ t (R.other (tk := s.toks) (fp := [I]) un (ho := fun b hb => .inl (by rw [List.mem_singleton.mp hb]; exact hI)) (fun b o hb e => x b o (fun q => hb (by rw [q]; exact .head _)) e) t)
end
-- M9
section
variable {C : Cx} {ks : List Str} {l l' : List (Option V)} {μ μ' : Mem} {h₀ : Heap} {s : Shared}
/-- the frame of a called def -/
noncomputable def callee (C : Cx) (fd : FuncData) (f L : Addr) (old : List (Addr × Ob)) : Cx := { C with A := C.A.deeper (callEnv fd L f), env := callEnv fd L f, old := old, wr := fun x => fd.scope.names.lookup x == some .cell }
theorem Rel.adopt (R : Rel C ks l μ h₀ s) : ∀ {ν : Mem}, (∀ p ∈ ν, At C.H s.heap p.1 p.2 ∧ p.1 ∉ C.env.locals :: (C.env.cells.map (·.2) ++ μ.map (·.1)) ∧ h₀.get? p.1 = none) → (ν.map (·.1)).Nodup → Rel C ks l (ν ++ μ) h₀ s
  | [], _, _ => R
  | p :: ν, h, nd => by
    rw [List.map_cons, List.nodup_cons] at nd
    have R' := Rel.adopt R (ν := ν) (fun q hq => h q (.tail _ hq)) nd.2
    obtain ⟨a, b, c⟩ := h p (.head _)
    refine R'.grow (a := p.1) (b := p.2) a (fun q => ?_) c
    rcases List.mem_cons.mp q with q | q
    · exact b (q ▸ .head _)
    · rw [List.map_append] at q
      rcases List.mem_append.mp q with q | q
      · exact b (.tail _ (List.mem_append_left _ q))
      · rcases List.mem_append.mp q with q | q
        · exact nd.1 q
        · exact b (.tail _ (List.mem_append_right _ q))
/-- arguments' names and the rest of the locals -/
noncomputable def startLocs (n : Nat) (vs : List V) : List (Option V) := vs.map some ++ List.replicate n none
theorem lk_none {ks : List Str} {n : Nat} {x : Str} {v : V} : ¬ Lk ks (List.replicate n none) x v := by
  intro h
  generalize hr : List.replicate n (none : Option V) = r at h
  induction h generalizing n with
  | head => cases n <;> simp [List.replicate_succ] at hr
  | tail _ ih => cases n with
    | zero => simp at hr
    | succ n => simp [List.replicate_succ] at hr; exact ih hr.2
theorem lk_start {rest : List Str} {n : Nat} : ∀ {ns : List Str} {vs : List V}, ns.length = vs.length → ∀ {x : Str} {v : V}, Lk (ns ++ rest) (startLocs n vs) x v → ∃ i : Nat, ns[i]? = some x ∧ vs[i]? = some v
  | [], [], _, x, v, h => absurd h lk_none
  | k :: ns, w :: vs, e, x, v, h => by
    cases h with
    | head => exact ⟨0, rfl, rfl⟩
    | tail h =>
      obtain ⟨i, a, b⟩ := lk_start (by simpa using e) h
      exact ⟨i + 1, a, b⟩
  | [], _ :: _, e, _, _, _ => by simp at e
  | _ :: _, [], e, _, _, _ => by simp at e
theorem lookup_append {α β : Type} [BEq α] {a b : List (α × β)} {x : α} : (a ++ b).lookup x = (a.lookup x).or (b.lookup x) := by
  induction a with
  | nil => rfl
  | cons p a ih =>
    rw [List.cons_append, List.lookup_cons, List.lookup_cons]
    split
    · rfl
    · exact ih
theorem zip_rev_lookup {ns : List Str} {us : List Value} (nd : ns.Nodup) {i : Nat} {x : Str} {u : Value} (hx : ns[i]? = some x) (hu : us[i]? = some u) : (ns.zip us).reverse.lookup x = some u := by
  induction ns generalizing us i with
  | nil => simp at hx
  | cons k ns ih =>
    cases us with
    | nil => simp at hu
    | cons w us =>
      rw [List.nodup_cons] at nd
      rw [List.zip_cons_cons, List.reverse_cons, lookup_append]
      cases i with
      | zero =>
        simp at hx hu
        subst hx hu
        have : (ns.zip us).reverse.lookup k = none := by
          cases e : (ns.zip us).reverse.lookup k with
          | none => rfl
          | some v =>
            have := lookup_mem e
            rw [List.mem_reverse] at this
            exact absurd (List.of_mem_zip this).1 nd.1
        rw [this]
        simp
      | succ i =>
        simp at hx hu
        rw [ih nd.2 hx hu]
        rfl
theorem call_fn {f : Addr} {fd : FuncData} {body : List Stmt} {oc : Value} {od : Option Addr} {osl : Array (Option Value)} {ns : List Str} (rest : List Str) {vs : List V} {n : Nat} {Φ : V → Mem → Prop} (old : List (Addr × Ob)) (ok : C.Ok) (hd : C.A.depth < 700)
    (hK : C.K.lookup f = some ⟨oc, od, .func fd, osl⟩) (hbody : fd.body = .stmts body) (hcd : codeIn C.K fd.code fd.qualname = true)
    (hlen : ns.length = vs.length) (hns : ns.Nodup) (hold : ∀ p ∈ old, Has C μ p.1 p.2)
    (hbind : ∀ us : List Value, us.length = vs.length → bindArgs fd ⟨us, []⟩ = pure (ns.zip us)) (hloc : ∀ x ∈ ns, fd.scope.names.lookup x = some .local)
    (hcell : ∀ x ∈ fd.scope.names, x.2 ≠ .cell) (hclos : fd.closure = [])
    (hco : fd.scope.isCoroutine = false) (hgen : fd.scope.isGenerator = false) (hk : fd.scope.kind = .function) (hgl : fd.globals = mainGlobals) (hbl : fd.builtins = builtinsNs) (hu : C.A.units < 1900)
    {ks' : List Str} {l₀ : List (Option V)} (hks : ns ++ rest = ks') (hl₀ : startLocs n vs = l₀)
    (hx : ∀ L, (callee C fd f L old).Ok → EX (callee C fd f L old) ks' l₀ [] body fun fl l' μ' => ∃ ν, List.Sublist ν μ' ∧ Φ (match fl with | .ret v => v | _ => .none) (ν ++ μ)) :
    OPK C ks l μ (.ref f) vs Φ := fun h₀ s us R y Q E q => by
  subst hks hl₀
  have hX : C.K.In s.heap := R.inK.keeps R.keep
  have hT := R.top.keeps R.keep
  have hl : us.length = vs.length := y.length.symm
  have okc : (callee C fd f s.heap.objs.size old).Ok := ⟨hk, hgl, hbl, ok.hand, by show C.A.depth + 1 < 800; omega, by show C.A.units + 3 < 2000; omega⟩
  refine wpAny_call (codeAny_call_def (by show C.A.depth < 1000; omega) (hX _ _ hK) rfl hT.nolimit (codeRec_of hX hcd) hbody (fun M A E Q q => by rw [hbind us hl]; exact wpAny_pure q) hcell (fun x hx => hloc x.1 (List.of_mem_zip hx).1) (fun h₁ hn k => ?_) hco hgen hk)
  have R' : Rel (callee C fd f s.heap.objs.size old) (ns ++ rest) (startLocs n vs) [] s.heap { s with heap := h₁, toks := s.toks + (ns.zip us).length } := by
    refine ⟨⟨_, hn, fun x v hk' => ?_⟩, k, (fun p hp => nomatch hp), ?_, none_size _, ?_, R.bare, R.os, hX, hT, fun p hp => R.has (hold p hp), (fun a q => let ⟨o, e⟩ := R.off a q; ⟨o, k _ _ e⟩)⟩
    · obtain ⟨i, a, b⟩ := lk_start (ns := ns) hlen hk'
      obtain ⟨u, hu, r⟩ := y.get b
      have hm : x ∈ ns := List.mem_of_getElem? a
      refine .inl ⟨?_, u, zip_rev_lookup hns a hu, r.mono (.of_keep k)⟩
      exact hloc x hm
    · show (s.heap.objs.size :: (fd.closure.map (·.2) ++ [])).Nodup
      rw [hclos]; simp
    · intro p hp
      exfalso
      have : (callee C fd f s.heap.objs.size old).env.cells = fd.closure := rfl
      rw [this, hclos] at hp; cases hp
  refine hx s.heap.objs.size okc s.heap _ R' _ _ fun fl l' μ' flw s' p t r z => ?_
  obtain ⟨ν, hν, hΦ⟩ := p
  have kp : ∀ b o, s.heap.get? b = some o → s'.heap.get? b = some o := r.keep
  have Rc := R.keepsG (s' := s') kp r.bare (r.os.trans R.os.symm)
  have Ra : Rel C ks l (ν ++ μ) h₀ s' := by
    refine Rc.adopt (fun p hp => ?_) ?_
    · obtain ⟨a, b⟩ := r.mem p (hν.subset hp)
      exact ⟨a, R.new_ne b, R.new0 b⟩
    · exact List.Nodup.sublist (hν.map _) r.ndm
  have tk : TK C.H s.heap s'.heap := .of_keep kp
  cases z with
  | next => exact q _ _ _ s' hΦ tk Ra .none
  | brk => exact q _ _ _ s' hΦ tk Ra .none
  | ret z => exact q _ _ _ s' hΦ tk Ra z
end
-- M10
theorem ints_of {H : Addr → Prop} {h : Heap} : ∀ {ns : List Int} {vs : List Value}, VRs H h (ns.map V.int) vs → IntsAre vs ns
  | [], _, .nil => .nil
  | n :: ns, _, .cons (.int _ t) r => .cons n t (ints_of r)
theorem strs_of {H : Addr → Prop} {h : Heap} : ∀ {ns : List Str} {vs : List Value}, VRs H h (ns.map V.str) vs → StrsAre vs ns
  | [], _, .nil => .nil
  | n :: ns, _, .cons (.str _ t) r => .cons n t (strs_of r)
section
variable {C : Cx} {ks : List Str} {l l' : List (Option V)} {μ μ' : Mem} {h₀ : Heap} {s : Shared}
theorem OPK_lenS {x : Str} (h : x.length ≤ 16777216) : OPK C ks l μ (.builtin "len") [.str x] (Is (.int x.length) μ) := fun h₀ s us R y Q E q => by
  cases y with | cons y r => cases r; cases y; exact P.len_str (by omega) (q _ _ _ _ ⟨rfl, rfl⟩ (TK.refl _) R.toks (.int _ _))
theorem OPK_lenL {a : Addr} {xs : List V} (hm : Has C μ a (.lst xs)) (hz : xs.length ≤ 1000) : OPK C ks l μ (.builtin "len") [.val (.ref a)] (Is (.int xs.length) μ) := fun h₀ s us R y Q E q => by
  cases y with
  | cons y r =>
    cases r; cases y
    obtain ⟨vs, n, ho, r⟩ := (R.has hm).list
    have e : vs.toArray.size = xs.length := by simp [r.length]
    exact Calls.call_len_list (isList_of ho) (by rw [e]; omega) (by rw [e]; exact q _ _ _ _ ⟨rfl, rfl⟩ (TK.refl _) R.toks (.int _ _))
theorem OPK_sumI (ok : C.Ok) {a : Addr} {ns : List Int} (hm : Has C μ a (.lst (ns.map V.int))) : OPK C ks l μ (.builtin "sum") [.val (.ref a)] (Is (.int ns.sum) μ) := fun h₀ s us R y Q E q => by
  cases y with
  | cons y r =>
    cases r; cases y
    obtain ⟨vs, n, ho, r⟩ := (R.has hm).list
    have hi := ints_of r
    obtain ⟨xs, hx⟩ := hi.allInts.items
    have hl' : s.heap.IsList a (intItems xs) := hx ▸ isList_of ho
    refine sum_intListG ok.hand hl' fun h' tk t' hk => ?_
    have e1 : ns = xs.toList.map (·.1) := by
      rw [← nums_intItems, ← hx]
      exact (show numsOf vs.toArray.toList = ns from hi.numsOf).symm
    have e2 : preSum (numAt xs) xs.size = ns.sum := by
      rw [preSum_eq, List.take_of_length_le (by simp), e1]
    rw [e2]
    exact q _ _ _ _ ⟨rfl, rfl⟩ (.of_keep hk) (R.keeps hk) (.int _ _)
theorem OPK_max (ok : C.Ok) {a b : Int} : OPK C ks l μ (.builtin "max") [.int a, .int b] (Is (.int (max a b)) μ) := fun h₀ s us R y Q E q => by
  cases y with
  | cons y r => cases r with
    | cons y2 r =>
      cases r; cases y; cases y2
      refine max_two_ints ok.hand fun h' tk hk => ?_
      by_cases c : b > a
      · rw [if_pos c]; exact q _ _ _ _ ⟨rfl, rfl⟩ (.of_keep hk) (R.keeps hk) (by rw [show max a b = b by omega]; exact .int _ _)
      · rw [if_neg c]; exact q _ _ _ _ ⟨rfl, rfl⟩ (.of_keep hk) (R.keeps hk) (by rw [show max a b = a by omega]; exact .int _ _)
theorem OPK_min (ok : C.Ok) {a b : Int} : OPK C ks l μ (.builtin "min") [.int a, .int b] (Is (.int (min a b)) μ) := fun h₀ s us R y Q E q => by
  cases y with
  | cons y r => cases r with
    | cons y2 r =>
      cases r; cases y; cases y2
      refine min_two_ints ok.hand fun h' tk hk => ?_
      by_cases c : b < a
      · rw [if_pos c]; exact q _ _ _ _ ⟨rfl, rfl⟩ (.of_keep hk) (R.keeps hk) (by rw [show min a b = b by omega]; exact .int _ _)
      · rw [if_neg c]; exact q _ _ _ _ ⟨rfl, rfl⟩ (.of_keep hk) (R.keeps hk) (by rw [show min a b = a by omega]; exact .int _ _)
theorem OPK_divmod {a b : Int} (hb : 0 < b) (hp : Builtin.divisionGoesByPylong a b = false) : OPK C ks l μ (.builtin "divmod") [.int a, .int b] (Is (.tup [.int (a / b), .int (a % b)]) μ) := fun h₀ s us R y Q E q => by
  cases y with
  | cons y r => cases r with
    | cons y2 r =>
      cases r; cases y; cases y2
      refine divmod_int (by omega) ?_ (.inl hp)
      rw [Int.fdiv_eq_ediv_of_nonneg _ (by omega), Int.fmod_eq_emod_of_nonneg _ (by omega)]
      have k : ∀ c o, s.heap.get? c = some o → (s.heap.push { cls := .type "tuple", data := .seq #[.int (a / b) s.toks, .int (a % b) (s.toks + 1)] }).get? c = some o := fun b o e => Heap.get?_push_of_some _ e
      exact q _ _ _ _ ⟨rfl, rfl⟩ (.of_keep k) (R.keeps k) (.tup (n := 0) (R.H_new (none_size _)) (vs := [.int (a / b) s.toks, .int (a % b) (s.toks + 1)]) (Heap.get?_push_size _ rfl) (.cons (.int _ _) (.cons (.int _ _) .nil)))
theorem OPK_strI {a : Int} (ha : a.natAbs.log2 < 1920) : OPK C ks l μ (.type "str") [.int a] (Is (.str (Str.ofString (toString a))) μ) := fun h₀ s us R y Q E q => by
  cases y with
  | cons y r => cases r; cases y; exact P.str_of_int ha (q _ _ _ _ ⟨rfl, rfl⟩ (TK.refl _) R.toks (.str _ _))
/-! ranges -/
theorem new_obj (R : Rel C ks l μ h₀ s) (o : Obj) (b : Ob) (hf : o.isFreed = false) (ho : ∀ h, OR C.H h b o) : (∀ c x, s.heap.get? c = some x → (s.heap.push o).get? c = some x) ∧ ∀ tk, Rel C ks l ((s.heap.objs.size, b) :: μ) h₀ { s with heap := s.heap.push o, toks := tk } := by
  have k : ∀ c x, s.heap.get? c = some x → (s.heap.push o).get? c = some x := fun c x e => Heap.get?_push_of_some _ e
  refine ⟨k, fun tk => ?_⟩
  exact (R.keeps (tk := tk) k).grow (a := s.heap.objs.size) (b := b) ⟨_, Heap.get?_push_size _ hf, ho _⟩ (R.new_ne (none_size _)) (R.new0 (none_size _))
theorem OPK_range1 {n : Int} {Φ : V → Mem → Prop} (h : ∀ r, Φ (.val (.ref r)) ((r, .rng 0 n 1) :: μ)) : OPK C ks l μ (.type "range") [.int n] Φ := fun h₀ s us R y Q E q => by
  cases y with
  | cons y r =>
    cases r; cases y
    rename_i t1
    refine PySem.call_range_1 ?_
    have := new_obj R { cls := .type "range", data := .fields #[.int 0 s.toks, .int n t1, .int 1 (s.toks + 1)] } (.rng 0 n 1) rfl (fun h => .rng)
    exact q _ _ _ _ (h _) (.of_keep this.1) (this.2 _) (.val _)
theorem OPK_range2 {a n : Int} {Φ : V → Mem → Prop} (h : ∀ r, Φ (.val (.ref r)) ((r, .rng a n 1) :: μ)) : OPK C ks l μ (.type "range") [.int a, .int n] Φ := fun h₀ s us R y Q E q => by
  cases y with
  | cons y r => cases r with
    | cons y2 r =>
      cases r; cases y; cases y2
      rename_i t1 t2
      refine PySem.call_range_2 ?_
      have := new_obj R { cls := .type "range", data := .fields #[.int a t1, .int n t2, .int 1 s.toks] } (.rng a n 1) rfl (fun h => .rng)
      exact q _ _ _ _ (h _) (.of_keep this.1) (this.2 _) (.val _)
theorem OPK_range3 {a n c : Int} {Φ : V → Mem → Prop} (hc : c ≠ 0) (hp : Builtin.divisionGoesByPylong (n - a) c = false) (h : ∀ r, Φ (.val (.ref r)) ((r, .rng a n c) :: μ)) : OPK C ks l μ (.type "range") [.int a, .int n, .int c] Φ := fun h₀ s us R y Q E q => by
  cases y with
  | cons y r => cases r with
    | cons y2 r => cases r with
      | cons y3 r =>
        cases r; cases y; cases y2; cases y3
        rename_i t1 t2 t3
        refine call_range_3 hc ?_ (.inl hp)
        have := new_obj R { cls := .type "range", data := .fields #[.int a t1, .int n t2, .int c t3] } (.rng a n c) rfl (fun h => .rng)
        exact q _ _ _ _ (h _) (.of_keep this.1) (this.2 _) (.val _)
theorem At.rng {H : Addr → Prop} {h : Heap} {r : Addr} {a b c : Int} (x : At H h r (.rng a b c)) : ∃ t u v, IsRange h r a b c t u v := by
  obtain ⟨o, ho, r⟩ := x
  cases r with
  | rng => exact ⟨_, _, _, ho⟩
theorem src_range (ok : C.Ok) {r : Addr} {a b : Int} {n : Nat} {x : Str} {px : Pos} (hm : Has C μ r (.rng a b 1)) (hn : Builtin.Range.rangeSize a b 1 = n) (hsmall : Builtin.Range.small a b 1 = true) :
    Src C ks l μ (.val (.ref r)) n (fun i => .int (a + i)) (fun _ => True) (.Name x px) := fun h₀ s u R y Q E q => by
  cases y
  obtain ⟨t, u, v, hr⟩ := (R.has hm).rng
  refine wpAny_pyIter_range hr hsmall ?_
  have kp : ∀ c o, s.heap.get? c = some o → (s.heap.push { cls := .type "range_iterator", data := .fields #[rawInt a, rawInt (Builtin.Range.rangeSize a b 1), rawInt 1] }).get? c = some o := fun b o e => Heap.get?_push_of_some _ e
  refine q s.heap.objs.size [s.heap.objs.size] _ _ { s with heap := s.heap.push { cls := .type "range_iterator", data := .fields #[rawInt a, rawInt (Builtin.Range.rangeSize a b 1), rawInt 1] } } (iter_range ok (R.H_new (none_size _)) (a := a) (n := n)) ?_ (untr_new R (none_size _)) (.of_keep kp) (R.keeps (tk := s.toks) kp)
  show IsRangeIter _ _ (a + ((0 : Nat) : Int)) ((n : Int) - ((0 : Nat) : Int)) 1
  have e1 : a + ((0 : Nat) : Int) = a := by omega
  have e2 : (n : Int) - ((0 : Nat) : Int) = n := by omega
  rw [e1, e2, ← hn]
  exact Heap.get?_push_size _ rfl
theorem OPK_listRange (ok : C.Ok) {r : Addr} {a b c : Int} {n : Nat} {Φ : V → Mem → Prop} (hm : Has C μ r (.rng a b c)) (hn : Builtin.Range.rangeSize a b c = n) (hsmall : Builtin.Range.small a b c = true) (hz : n ≤ 1000)
    (h : ∀ d, Φ (.val (.ref d)) ((d, .lst ((List.range n).map fun i : Nat => V.int (a + (i : Int) * c))) :: μ)) : OPK C ks l μ (.type "list") [.val (.ref r)] Φ := fun h₀ s us R y Q E q => by
  cases y with
  | cons y rr =>
    cases rr; cases y
    obtain ⟨t, u, v, hr⟩ := (R.has hm).rng
    refine PySem.call_list_range ok.hand hr hsmall hn (by omega) fun h' tk acc c' hk ho hI => ?_
    have Rk := R.keeps (tk := tk) hk
    have at' : At C.H h' s.heap.objs.size (.lst ((List.range n).map fun i : Nat => V.int (a + (i : Int) * c))) := by
      refine ⟨_, ho, ?_⟩
      have : ∀ (m : Nat) (L : List Value), L.length = m → (∀ (j : Nat) (v : Value), L[j]? = some v → ∃ t, v = Value.int (a + (j : Int) * c) t) → VRs C.H h' ((List.range m).map fun i : Nat => V.int (a + (i : Int) * c)) L := by
        intro m
        induction m with
        | zero => intro L hL _; rw [List.length_eq_zero_iff.mp hL]; exact .nil
        | succ m ih =>
          intro L hL hj
          have hne : L ≠ [] := by intro e; rw [e] at hL; cases hL
          rw [List.range_succ, List.map_append, ← List.dropLast_concat_getLast hne]
          refine (ih _ (by simp [hL]) fun j v e => ?_).append ?_
          · have hlt : j < L.length - 1 := by have := (List.getElem?_eq_some_iff.mp e).1; simpa using this
            refine hj j v ?_
            rw [List.dropLast_eq_take, List.getElem?_take, if_pos hlt] at e
            exact e
          · obtain ⟨t, e⟩ := hj m (L.getLast hne) (by rw [List.getLast_eq_getElem]; simp [hL])
            rw [e]
            exact .one (.int _ _)
      have v := this n acc.toList (by simpa using hI.1) fun j v e => hI.2 j v (by simpa using e)
      have := OR.lst (n := c') v
      simpa using this
    exact q _ _ _ _ (h _) (.of_keep hk) (Rk.grow at' (R.new_ne (none_size _)) (R.new0 (none_size _))) (.val _)
/-! methods of texts and lists -/
theorem GM_str {x : Str} {name : Str} {id : String} (slot : Slot "str" name id) (ht : typeOf (.builtin id) = pure (.type "method_descriptor")) : GM C ks l μ (.str x) name (.builtin id) := fun h₀ s u R y pl Q E q => by
  cases y
  exact getMethod_builtin (typeIs_str _ _ _) PySem.F.plainAttrs_str slot ht (fun a e => nomatch e) q
theorem GM_lst {a : Addr} {xs : List V} {name : Str} {id : String} (hm : Has C μ a (.lst xs)) (slot : Slot "list" name id) (ht : typeOf (.builtin id) = pure (.type "method_descriptor")) : GM C ks l μ (.val (.ref a)) name (.builtin id) := fun h₀ s u R y pl Q E q => by
  cases y
  obtain ⟨vs, n, ho, r⟩ := (R.has hm).list
  exact getMethod_builtin (T := "list") (isList_of ho).typeIs PySem.F.plainAttrs_list slot ht (fun b e => by cases e; exact ⟨_, ho, rfl⟩) q
theorem OPK_join {x : Str} {a : Addr} {ys : List Str} (hm : Has C μ a (.lst (ys.map V.str))) (hz : (ys.map (·.length)).sum + ys.length * x.length ≤ 16777216) : OPK C ks l μ (.builtin "str.join") [.str x, .val (.ref a)] (Is (.str (Txt.join x ys)) μ) := fun h₀ s us R y Q E q => by
  cases y with
  | cons y r => cases r with
    | cons y2 r =>
      cases r; cases y; cases y2
      obtain ⟨vs, n, ho, r⟩ := (R.has hm).list
      exact join_list (isList_of ho) (by simpa using strs_of r) hz fun t k => q _ _ _ _ ⟨rfl, rfl⟩ (TK.refl _) R.toks (.str _ _)
theorem OPK_startswith {x y : Str} : OPK C ks l μ (.builtin "str.startswith") [.str x, .str y] (Is (.bool (Txt.startswith x y)) μ) := fun h₀ s us R y Q E q => by
  cases y with
  | cons y r => cases r with
    | cons y2 r => cases r; cases y; cases y2; exact SC.startswith (q _ _ _ _ ⟨rfl, rfl⟩ (TK.refl _) R (.bool _))
theorem OPK_lstrip {x y : Str} (hz : x.length ≤ 16777216) : OPK C ks l μ (.builtin "str.lstrip") [.str x, .str y] (Is (.str (Txt.lstripChars x y)) μ) := fun h₀ s us R y Q E q => by
  cases y with
  | cons y r => cases r with
    | cons y2 r => cases r; cases y; cases y2; exact SC.lstripChars (fun t k => q _ _ _ _ ⟨rfl, rfl⟩ (TK.refl _) R.toks (.str _ _)) (by rw [sizeLine_eq]; exact hz)
theorem OPK_lower {x : Str} (hz : Builtin.Str.tooLong (Txt.lower x).length = false) : OPK C ks l μ (.builtin "str.lower") [.str x] (Is (.str (Txt.lower x)) μ) := fun h₀ s us R y Q E q => by
  cases y with
  | cons y r => cases r; cases y; exact SC.lower hz (q _ _ _ _ ⟨rfl, rfl⟩ (TK.refl _) R.toks (.str _ _))
theorem OPK_append {a : Addr} {xs : List V} {v : V} {Φ : V → Mem → Prop} (U : Mu μ a (.lst xs) (.lst (xs ++ [v])) μ') (hz : xs.length ≤ 1000) (h : Φ .none μ') : OPK C ks l μ (.builtin "list.append") [.val (.ref a), v] Φ := fun h₀ s us R y Q E q => by
  cases y with
  | cons y r => cases r with
    | cons y2 r =>
      cases r; cases y
      obtain ⟨vs, n, ho, r⟩ := (R.at U.old).list
      refine append_at ho (fun h' hs ho' => ?_) (by simp [← r.length, sizeLine_eq]; omega)
      have t : TK C.H s.heap h' := tk_same hs ho fun vs k e => by have := congrArg Obj.cls e; simp at this
      have at' : At C.H h' a (.lst (xs ++ [v])) := ⟨_, ho', by have := OR.lst (n := n + 1) ((r.mono t).append (.one (y2.mono t))); simpa using this⟩
      obtain ⟨R', t'⟩ := R.mut (tk := s.toks) U trivial hs at'
      exact q _ _ _ _ h t' R' .none
theorem OPK_extend {a b : Addr} {xs ys : List V} {Φ : V → Mem → Prop} (U : Mu μ a (.lst xs) (.lst (xs ++ ys)) μ') (hb : Has C μ b (.lst ys)) (hz : xs.length + ys.length ≤ 1000) (h : Φ .none μ') : OPK C ks l μ (.builtin "list.extend") [.val (.ref a), .val (.ref b)] Φ := fun h₀ s us R y Q E q => by
  cases y with
  | cons y r => cases r with
    | cons y2 r =>
      cases r; cases y; cases y2
      obtain ⟨vs, n, ho, r⟩ := (R.at U.old).list
      obtain ⟨ws, m, ho2, r2⟩ := (R.has hb).list
      have e1 : vs.toArray.size = xs.length := by simp [r.length]
      have e2 : ws.toArray.size = ys.length := by simp [r2.length]
      have door : ¬ (!vs.toArray.isEmpty && Builtin.List.listTooLong (vs.toArray.size + ws.toArray.size)) = true := by
        rw [e1, e2]
        have : Builtin.List.listTooLong (xs.length + ys.length) = false := by unfold Builtin.List.listTooLong; rw [sizeLine_eq]; exact decide_eq_false (by omega)
        rw [this]; simp
      refine call_meets PySem.F.slot_list_extend (isList_of ho).typeIs PySem.F.entry_list_extend (PySem.F.args_list_extend_2 _ _) (AutoSeq1.list_extend_list_list_0 a vs.toArray n b ws.toArray m door (by have h3 : sizeLine = 16777216 := sizeLine_eq; omega) (by have h3 : sizeLine = 16777216 := sizeLine_eq; omega)) ⟨ho, ho2, ?_⟩
      have hs : Heap.SameBut a s.heap (s.heap.update a (Obj.mapSeq fun xs => xs ++ ws.toArray)) := Heap.SameBut.update ..
      have ho' := IsL.update (show IsL s.heap a vs.toArray n from ho) (fun xs => xs ++ ws.toArray)
      have t : TK C.H s.heap _ := tk_same hs ho fun vs k e => by have := congrArg Obj.cls e; simp at this
      have at' : At C.H (s.heap.update a (Obj.mapSeq fun xs => xs ++ ws.toArray)) a (.lst (xs ++ ys)) := ⟨_, ho', by
        have := OR.lst (n := if (vs.toArray ++ ws.toArray).size == vs.toArray.size then n else n + 1) ((r.mono t).append (r2.mono t))
        simpa using this⟩
      obtain ⟨R', t'⟩ := R.mut (tk := s.toks) U trivial hs at'
      exact q _ _ _ _ h t' R' .none
theorem OPK_insert0 {a : Addr} {xs : List V} {v : V} {Φ : V → Mem → Prop} (U : Mu μ a (.lst xs) (.lst (v :: xs)) μ') (hz : xs.length ≤ 1000) (h : Φ .none μ') : OPK C ks l μ (.builtin "list.insert") [.val (.ref a), .int 0, v] Φ := fun h₀ s us R y Q E q => by
  cases y with
  | cons y r => cases r with
    | cons y2 r => cases r with
      | cons y3 r =>
        cases r; cases y; cases y2
        obtain ⟨vs, n, ho, r⟩ := (R.at U.old).list
        have e1 : vs.toArray.size = xs.length := by simp [r.length]
        rename_i u tk
        refine call_meets PySem.F.slot_list_insert (isList_of ho).typeIs PySem.F.entry_list_insert (PySem.F.args_list_insert_3 _ _ _) (AutoSeq1.list_insert_list_int_val_1 a vs.toArray n 0 _ _ (by decide) (by rw [e1, sizeLine_eq]; omega)) ⟨ho, ?_⟩
        have hs := Heap.SameBut.update s.heap a (Obj.mapSeq fun xs : Array Value => have k := if (0 : Int) < 0 then ((0 : Int) + (xs.size : Int)).toNat else min (0 : Int).toNat xs.size; (xs.extract 0 k).push u ++ xs.extract k)
        have ho' := IsL.update (show IsL s.heap a vs.toArray n from ho) (fun xs : Array Value => have k := if (0 : Int) < 0 then ((0 : Int) + (xs.size : Int)).toNat else min (0 : Int).toNat xs.size; (xs.extract 0 k).push u ++ xs.extract k)
        have t : TK C.H s.heap _ := tk_same hs ho fun vs k e => by have := congrArg Obj.cls e; simp at this
        have hz0 : min (0 : Int).toNat vs.toArray.size = 0 := Nat.zero_min _
        have e3 : (have k := if (0 : Int) < 0 then ((0 : Int) + (vs.toArray.size : Int)).toNat else min (0 : Int).toNat vs.toArray.size; (vs.toArray.extract 0 k).push u ++ vs.toArray.extract k) = (u :: vs).toArray := by
          show (vs.toArray.extract 0 (if (0 : Int) < 0 then _ else min (0 : Int).toNat vs.toArray.size)).push u ++ vs.toArray.extract (if (0 : Int) < 0 then _ else min (0 : Int).toNat vs.toArray.size) = _
          rw [if_neg (by decide), hz0]
          apply Array.ext'
          simp
        have at' : At C.H _ a (.lst (v :: xs)) := ⟨_, ho', by
          rw [e3]
          exact OR.lst (n := _) (.cons (y3.mono t) (r.mono t))⟩
        obtain ⟨R', t'⟩ := R.mut (tk := s.toks) U trivial hs at'
        exact q _ _ _ _ h t' R' .none
end
-- M12
theorem codeAny_compG {prog : Program} {w : World} {A : Around} {R : Result → Shared → Prop} {s : Shared} {elt target iter : Expr} {ifs : List Expr} {scope : Scope} {pos : Pos} {it acc : Value} {env : Env} (I : Nat → Shared → Prop)
    (turn : ∀ n s, I n s → ∀ E, wpAny (model prog w) A (pyNext it) (fun r s₁ => match r with
      | none => R (.ok .next) s₁
      | some v => ∀ E, wpAny (model prog w) A (letOwnedTupleGo target it v) (fun _ s₁ => ∀ E, wpAny (model prog w) A (assign target env v) (fun _ s₂ => ∀ E,
          wpAny (model prog w) A (forIn ifs true fun c r => if r = true then do let ok ← isTrue c env (eval c env); pure (ForInStep.yield ok) else pure (ForInStep.yield r)) (fun ok s₃ =>
            if ok = true then ∀ E, wpAny (model prog w) A (eval elt env) (fun x s₄ => ∀ E,
              wpAny (model prog w) A (call (.builtin "list.append") [acc, x]) (fun _ s₅ => ∃ m, m < n ∧ I m s₅) E s₄) E s₃
            else ∃ m, m < n ∧ I m s₃) E s₂) E s₁) E s₁) E s)
    (n : Nat) (h : I n s) : codeAny (model prog w) A (.compLoop (.ListComp elt [⟨target, iter, ifs, 0⟩] scope pos) 0 it acc env) R s := by
  refine codeAny_loop rfl I (fun n s hI => ?_) n h
  show wpAny _ A ((compTurn (.ListComp elt [⟨target, iter, ifs, 0⟩] scope pos) 0 it acc env).onRaise (fun x => do noteFrame x env; theTreesLotGoes x)) _ _ s
  refine wpAny_noted ?_
  rw [compTurn_list]
  refine wpAny_bind (wpAny_standAt (wpAny_bind (wpAny_mono (turn n s hI (fun _ _ => False)) (fun r s₁ h₁ => ?_) fun _ _ h' => h'.elim)))
  cases r with
  | none => exact wpAny_pure h₁
  | some v =>
    refine wpAny_bind (wpAny_mono (h₁ (fun _ _ => False)) (fun _ s₂ h₂ => ?_) fun _ _ h' => h'.elim)
    refine wpAny_bind (wpAny_mono (h₂ (fun _ _ => False)) (fun _ s₂ h₂ => wpAny_bind (wpAny_mono (h₂ (fun _ _ => False)) (fun ok s₃ h₃ => ?_) fun _ _ h' => h'.elim)) fun _ _ h' => h'.elim)
    cases ok with
    | false => exact wpAny_pure ⟨rfl, h₃⟩
    | true =>
      exact wpAny_bind (wpAny_bind (wpAny_mono (h₃ (fun _ _ => False)) (fun x s₄ h₄ => wpAny_bind (wpAny_mono (h₄ (fun _ _ => False)) (fun _ s₅ h₅ => wpAny_pure (wpAny_pure ⟨rfl, h₅⟩)) fun _ _ h' => h'.elim)) fun _ _ h' => h'.elim))
section
variable {C : Cx} {ks : List Str} {l l' : List (Option V)} {μ μ' : Mem} {h₀ : Heap} {s : Shared}
noncomputable def TS (C : Cx) (ks : List Str) (l : List (Option V)) (μ : Mem) (ifs : List Expr) (Φ : Bool → Mem → Prop) : Prop :=
  ∀ h₀ s, Rel C ks l μ h₀ s → ∀ (Q : Bool → Shared → Prop) (E : Value → Shared → Prop), (∀ b μ' s', Φ b μ' → TK C.H s.heap s'.heap → Rel C ks l μ' h₀ s' → Q b s') →
    wpAny (model C.prog C.w) C.A (forIn ifs true fun c r => if r = true then do let ok ← isTrue c C.env (eval c C.env); pure (ForInStep.yield ok) else pure (ForInStep.yield r)) Q E s
theorem TS_nil {Φ : Bool → Mem → Prop} (h : Φ true μ) : TS C ks l μ [] Φ := fun h₀ s R Q E q => wpAny_pure (q _ _ _ h (TK.refl _) R)
theorem TS_one {c : Expr} {Φ : Bool → Mem → Prop} (h : TE C ks l μ c Φ) : TS C ks l μ [c] Φ := fun h₀ s R Q E q => wpAny_tests_one (h h₀ s R Q E q)
/-- the frame of a comprehension -/
noncomputable def inner (C : Cx) (scope : Scope) (cl : List (Str × Addr)) (L : Addr) (old : List (Addr × Ob)) : Cx := { C with env := compEnvC scope cl L C.env, old := old, wr := fun _ => false }
theorem Rel.otherG (R : Rel C ks l μ h₀ s) {fp : List Addr} {s' : Shared} (hf : ∀ b ∈ fp, b ∉ C.env.locals :: (C.env.cells.map (·.2) ++ μ.map (·.1)) ∧ h₀.get? b = none) (k : ∀ b o, b ∉ fp → s.heap.get? b = some o → s'.heap.get? b = some o) (t : TK C.H s.heap s'.heap) (g : AllBare s'.gens) (o : s'.os = s.os) (ho : ∀ b ∈ fp, C.H b ∨ ∃ o, s'.heap.get? b = some o) :
    Rel C ks l μ h₀ s' := by
  have := R.other (tk := s'.toks) hf ho k t
  exact ⟨this.ns, this.keep, this.mem, this.nd, this.l0, this.cells, g, o.trans R.os, this.inK, this.top, this.old, this.off⟩
/-- a base that leaves out fp too -/
theorem Rel.bigF (R : Rel C ks l μ h₀ s) {fp : List Addr} (un : Untr C μ h₀ fp) : Rel C ks l μ (hideAll s.heap (held C μ ++ fp)) s ∧ Untr C μ (hideAll s.heap (held C μ ++ fp)) fp ∧ (∀ b o, h₀.get? b = some o → (hideAll s.heap (held C μ ++ fp)).get? b = some o) := by
  have k : ∀ b o, h₀.get? b = some o → (hideAll s.heap (held C μ ++ fp)).get? b = some o := fun b o e => hideAll_get _ (R.keep b o e) fun q => by
    rcases List.mem_append.mp q with q | q
    · exact R.notHeld e q
    · rw [(un b q).2] at e; cases e
  refine ⟨⟨R.ns, fun b o e => of_hideAll _ e, fun p hp => ⟨(R.mem p hp).1, ?_⟩, R.nd, hideAll_none _ (List.mem_append_left _ (.head _)), fun p hp => ⟨(R.cells p hp).1, fun q => ?_⟩, R.bare, R.os, R.inK.keeps k, R.top.keeps k, fun p hp => (R.old p hp).keep k, R.off⟩, fun b hb => ⟨(un b hb).1, hideAll_none _ (List.mem_append_right _ hb)⟩, k⟩
  · exact hideAll_none _ (List.mem_append_left _ (.tail _ (List.mem_append_right _ (List.mem_map_of_mem (f := fun x : Addr × Ob => x.1) hp))))
  · exact hideAll_none _ (List.mem_append_left _ (.tail _ (List.mem_append_left _ (List.mem_map.mpr ⟨p, List.mem_filter.mpr ⟨hp, q⟩, rfl⟩))))
theorem lookup_addr {cells : List (Str × Addr)} (nd : (cells.map (·.2)).Nodup) {x y : Str} {c : Addr} (hx : cells.lookup x = some c) (hy : cells.lookup y = some c) : x = y := by
  have a := lookup_mem hx
  have b := lookup_mem hy
  induction cells with
  | nil => cases a
  | cons p r ih =>
    rw [List.map_cons, List.nodup_cons] at nd
    rcases List.mem_cons.mp a with e1 | a <;> rcases List.mem_cons.mp b with e2 | b
    · exact congrArg Prod.fst (e1.trans e2.symm)
    · exact absurd (by rw [← e1]; show c ∈ _; exact List.mem_map_of_mem (f := fun x : Str × Addr => x.2) b) nd.1
    · exact absurd (by rw [← e2]; show c ∈ _; exact List.mem_map_of_mem (f := fun x : Str × Addr => x.2) a) nd.1
    · have ex : ∀ {z : Str}, (z, c) ∈ r → ((p :: r).lookup z = some c) → r.lookup z = some c := fun {z} h e => by
        rw [List.lookup_cons] at e
        cases hz : z == p.1 with
        | true =>
          rw [hz] at e
          exact absurd (by rw [Option.some.inj e]; exact List.mem_map_of_mem (f := fun x : Str × Addr => x.2) h) nd.1
        | false => rw [hz] at e; exact e
      exact ih nd.2 (ex a hx) (ex b hy) a b
theorem cl_nodup {cells : List (Str × Addr)} (nd : (cells.map (·.2)).Nodup) : ∀ {cl : List (Str × Addr)}, (∀ p ∈ cl, cells.lookup p.1 = some p.2) → (cl.map (·.1)).Nodup → (cl.map (·.2)).Nodup
  | [], _, _ => .nil
  | p :: r, h, n => by
    rw [List.map_cons, List.nodup_cons] at n ⊢
    refine ⟨fun q => n.1 ?_, cl_nodup nd (fun p hp => h p (.tail _ hp)) n.2⟩
    obtain ⟨q, hq, e⟩ := List.mem_map.mp q
    have := lookup_addr nd (h p (.head _)) (e ▸ h q (.tail _ hq))
    rw [this]
    exact List.mem_map_of_mem (f := fun x : Str × Addr => x.1) hq
structure Inside (C : Cx) (ks : List Str) (l : List (Option V)) (scope : Scope) (cl : List (Str × Addr)) (ks' : List Str) (l₀ : List (Option V)) : Prop where
  look : ∀ p ∈ cl, C.env.cells.lookup p.1 = some p.2
  nd : (cl.map (·.1)).Nodup
  lk : ∀ x v, Lk ks' l₀ x v → Lk ks l x v ∧ (C.env.kindOf x ≠ some .local) ∧ ((relabel scope C.env).names.lookup x = some .cell ∨ (relabel scope C.env).names.lookup x = some .free) ∧ cl.lookup x = C.env.cells.lookup x
theorem inner_rel {scope : Scope} {cl : List (Str × Addr)} {ks' : List Str} {l₀ : List (Option V)} (In : Inside C ks l scope cl ks' l₀) (R : Rel C ks l μ h₀ s) {old : List (Addr × Ob)} (ho : ∀ p ∈ old, p ∈ μ ∨ p ∈ C.old) {L : Addr} {m : Str → Option Value} (hL : s.heap.Ns L m)
    (hLn : L ∉ C.env.locals :: (C.env.cells.map (·.2) ++ μ.map (·.1))) (h0 : h₀.get? L = none) : Rel (inner C scope cl L old) ks' l₀ [] (hideAll s.heap [L]) s ∧ TK C.H s.heap (hideAll s.heap [L]) := by
  have kp : ∀ b o, b ≠ L → s.heap.get? b = some o → (hideAll s.heap [L]).get? b = some o := fun b o n e => hideAll_get _ e (by simpa using n)
  have k0 : ∀ b o, h₀.get? b = some o → (hideAll s.heap [L]).get? b = some o := fun b o e => kp b o (fun q => by rw [q, h0] at e; cases e) (R.keep b o e)
  have tk : TK C.H s.heap (hideAll s.heap [L]) := fun a vs n _ e => kp a _ (fun q => by
    subst q
    obtain ⟨o, es, ep, x, r⟩ := hL
    rw [e] at x; cases x; simp at r) e
  refine ⟨⟨⟨m, hL, fun x v q => ?_⟩, fun b o e => of_hideAll _ e, (fun p hp => nomatch hp), ?_, hideAll_none _ (.head _), fun p hp => ?_, R.bare, R.os, R.inK.keeps k0, R.top.keeps k0, fun p hp => ?_, R.off⟩, tk⟩
  · obtain ⟨a, b, c, d⟩ := In.lk x v q
    obtain ⟨m', _, hb⟩ := R.ns
    rcases hb x v a with ⟨k, _⟩ | ⟨_, n, c', u, e, i, y⟩
    · exact absurd k b
    · exact .inr ⟨c, n, c', u, d.trans e, i, y⟩
  · show (L :: (cl.map (·.2) ++ [])).Nodup
    rw [List.append_nil, List.nodup_cons]
    have nd := (List.nodup_append.mp (List.nodup_cons.mp R.nd).2).1
    refine ⟨fun q => ?_, cl_nodup nd In.look In.nd⟩
    obtain ⟨p, hp, e⟩ := List.mem_map.mp q
    have := lookup_mem (In.look p hp)
    rw [e] at this
    exact hLn (.tail _ (List.mem_append_left _ (List.mem_map_of_mem (f := fun x : Str × Addr => x.2) this)))
  · exact ⟨(R.cells _ (lookup_mem (In.look p hp))).1, fun q => by cases q⟩
  · rcases ho p hp with hp | hp
    · obtain ⟨o, e, r⟩ := (R.mem p hp).1
      exact ⟨o, kp _ _ (fun q => hLn (q ▸ .tail _ (List.mem_append_right _ (List.mem_map_of_mem (f := fun x : Addr × Ob => x.1) hp)))) e, r.mono tk⟩
    · exact (R.old p hp).keep k0
theorem Rel.perm (R : Rel C ks l μ h₀ s) (p : List.Perm μ' μ) : Rel C ks l μ' h₀ s :=
  ⟨R.ns, R.keep, fun q hq => R.mem q (p.subset hq), ((List.Perm.append_left _ (p.map _)).cons _).nodup_iff.mpr R.nd, R.l0, R.cells, R.bare, R.os, R.inK, R.top, R.old, R.off⟩
/-- behind an evaluation in the inner frame: the outer one again -/
theorem inner_after {scope : Scope} {cl : List (Str × Addr)} {ks' : List Str} {l₁ : List (Option V)} {old : List (Addr × Ob)} {L : Addr} {ν ν₂ : Mem} {s' : Shared} {fp : List Addr} (R : Rel C ks l μ h₀ s)
    (hLn : L ∉ C.env.locals :: (C.env.cells.map (·.2) ++ μ.map (·.1))) (h0 : h₀.get? L = none) (un : Untr C μ h₀ fp) (hfp : ∀ b ∈ fp, ∃ o, s.heap.get? b = some o) (hLf : L ∉ fp)
    (R' : Rel (inner C scope cl L old) ks' l₁ ν₂ (hideAll s.heap [L]) s') (t : TK C.H s.heap s'.heap) (hν : List.Sublist ν ν₂) :
    Rel C ks l (ν ++ μ) h₀ s' ∧ L ∉ C.env.locals :: (C.env.cells.map (·.2) ++ (ν ++ μ).map (·.1)) ∧ Untr C (ν ++ μ) h₀ fp ∧ (∃ m, s'.heap.Ns L m) ∧ (∀ b ∈ fp, ∀ o, s.heap.get? b = some o → s'.heap.get? b = some o) := by
  have kp : ∀ b o, b ≠ L → s.heap.get? b = some o → (hideAll s.heap [L]).get? b = some o := fun b o n e => hideAll_get _ e (by simpa using n)
  have kq : ∀ b o, b ≠ L → s.heap.get? b = some o → s'.heap.get? b = some o := fun b o n e => R'.keep _ _ (kp b o n e)
  have nL : ∀ p ∈ ν₂, p.1 ≠ L := fun p hp e => (List.nodup_cons.mp R'.nd).1 (by
    show L ∈ _
    exact List.mem_append_right _ (e ▸ List.mem_map_of_mem (f := fun x : Addr × Ob => x.1) hp))
  have nw : ∀ p ∈ ν₂, s.heap.get? p.1 = none := fun p hp => by
    cases e : s.heap.get? p.1 with
    | none => rfl
    | some o => have := (R'.mem p hp).2; rw [kp _ _ (nL p hp) e] at this; cases this
  have Ro : Rel C ks l μ h₀ s' := R.otherG (fp := [L]) (fun b hb => by rw [List.mem_singleton.mp hb]; exact ⟨hLn, h0⟩) (fun b o hb e => kq b o (fun q => hb (by rw [q]; exact .head _)) e) t R'.bare (R'.os.trans R.os.symm) (fun b hb => .inr (by rw [List.mem_singleton.mp hb]; obtain ⟨m, ⟨o, _, _, e, _⟩, _⟩ := R'.ns; exact ⟨o, e⟩))
  have Ra := Ro.adopt (ν := ν) (fun p hp => ⟨(R'.mem p (hν.subset hp)).1, R.new_ne (nw p (hν.subset hp)), R.new0 (nw p (hν.subset hp))⟩) (List.Nodup.sublist (hν.map _) R'.ndm)
  refine ⟨Ra, fun q => ?_, fun b hb => ⟨fun q => ?_, (un b hb).2⟩, ?_, fun b hb o e => kq b o (fun q => hLf (q ▸ hb)) e⟩
  · rcases List.mem_cons.mp q with e | q
    · exact hLn (e ▸ .head _)
    · rcases List.mem_append.mp q with q | q
      · exact hLn (.tail _ (List.mem_append_left _ q))
      · rw [List.map_append] at q
        rcases List.mem_append.mp q with q | q
        · obtain ⟨p, hp, e⟩ := List.mem_map.mp q
          exact nL p (hν.subset hp) e
        · exact hLn (.tail _ (List.mem_append_right _ q))
  · rcases List.mem_cons.mp q with e | q
    · exact (un b hb).1 (e ▸ .head _)
    · rcases List.mem_append.mp q with q | q
      · exact (un b hb).1 (.tail _ (List.mem_append_left _ q))
      · rw [List.map_append] at q
        rcases List.mem_append.mp q with q | q
        · obtain ⟨p, hp, e⟩ := List.mem_map.mp q
          obtain ⟨o, ho⟩ := hfp b hb
          have := nw p (hν.subset hp)
          have e' : p.1 = b := e
          rw [e', ho] at this; cases this
        · exact (un b hb).1 (.tail _ (List.mem_append_right _ q))
  · obtain ⟨m, hm, _⟩ := R'.ns
    exact ⟨m, hm⟩
/-- what the outer frame does itself keeps L and the iterator -/
theorem held_not {L : Addr} (h : L ∉ C.env.locals :: (C.env.cells.map (·.2) ++ μ.map (·.1))) : L ∉ held C μ := fun q => h (by
  rcases List.mem_cons.mp q with e | q
  · exact e ▸ .head _
  · rcases List.mem_append.mp q with q | q
    · exact .tail _ (List.mem_append_left _ (ownCells_sub q))
    · exact .tail _ (List.mem_append_right _ q))
theorem comp_core {E : Value → Shared → Prop} {elt target iter : Expr} {ifs : List Expr} {scope : Scope} {cl : List (Str × Addr)} {pos : Pos} {n : Nat} {xs : Nat → V} {Need : Mem → Prop} {I : Addr} {fp : List Addr} {St Md : Nat → Heap → Prop} {ks' : List Str} {l₀ : List (Option V)} (ok : C.Ok)
    (W : Iter C ks I fp n xs Need target St Md) (hn : n ≤ 1000) (In : Inside C ks l scope cl ks' l₀) (hcell : ∀ y ∈ scope.names, y.2 ≠ .cell) (hkind : scope.kind = .function)
    (st : St 0 s.heap) (un : Untr C μ h₀ fp) (R : Rel C ks l μ h₀ s) (Inv : Nat → List V → Mem → Prop) (start : Inv 0 [] μ)
    (turn : ∀ i ys μ, i < n → Inv i ys μ → (∀ p, Need (p :: μ)) ∧ ∀ L, (inner C scope cl L (μ ++ C.old)).Ok → AS (inner C scope cl L (μ ++ C.old)) ks' l₀ [] target (xs i) fun l₁ => TS (inner C scope cl L (μ ++ C.old)) ks' l₁ [] ifs fun b ν₁ =>
      if b = true then EV (inner C scope cl L (μ ++ C.old)) ks' l₁ ν₁ elt fun v ν₂ => ∃ ν, List.Sublist ν ν₂ ∧ Inv (i + 1) (ys ++ [v]) (ν ++ μ) else ∃ ν, List.Sublist ν ν₁ ∧ Inv (i + 1) ys (ν ++ μ))
    (done : ∀ ys μ, Inv n ys μ → ∀ p, Need (p :: μ))
    {RR : Value → Addr → Result → Shared → Prop} (hRR : ∀ D L ys μ' s' m, Inv n ys μ' → ys.length ≤ n → Rel C ks l ((D, .lst ys) :: μ') h₀ s' → TK C.H s.heap s'.heap → s'.heap.Ns L m → L ∉ C.env.locals :: (C.env.cells.map (·.2) ++ ((D, Ob.lst ys) :: μ').map (·.1)) → h₀.get? L = none → C.H L → RR (.ref D) L (.ok .next) s') :
    wpAny (model C.prog C.w) C.A (newList []) (fun acc s₃ => wpAny (model C.prog C.w) C.A (newFunctionEnv scope C.env.globals cl [] C.env.qual none .none (some C.env)) (fun cenv s₄ =>
      codeAny (model C.prog C.w) C.A (.compStart (.ListComp elt [⟨target, iter, ifs, 0⟩] scope pos) 0 (.ref I) acc { cenv with scope := relabel scope C.env }) (RR acc cenv.locals) s₄) E s₃) E s := by
  refine wpAny_newObj_type (wpAny_newFunctionEnv hcell (by intro y hy; simp at hy) (fun h₁ hns₁ hsb₁ => ?_) hkind)
  dsimp only at hns₁ hsb₁ ⊢
  obtain ⟨k2, R2⟩ := new_obj R { cls := .type "list", dict := none, data := .seq ([] : List Value).toArray } (.lst []) rfl (fun h => .lst .nil)
  generalize hH2 : s.heap.push { cls := .type "list", dict := none, data := .seq ([] : List Value).toArray } = H2 at hns₁ hsb₁ k2 R2 ⊢
  generalize hD : s.heap.objs.size = D at hns₁ hsb₁ k2 R2 ⊢
  have R2 := R2 s.toks
  have nL2 : H2.get? H2.objs.size = none := none_size _
  generalize hL : H2.objs.size = L at hns₁ hsb₁ nL2 ⊢
  have k1 : ∀ b o, H2.get? b = some o → h₁.get? b = some o := fun b o e => hsb₁.extBut b o (fun q => by rw [q, nL2] at e; cases e) (Heap.get?_push_of_some _ e)
  have hLn2 : L ∉ C.env.locals :: (C.env.cells.map (·.2) ++ ((D, Ob.lst []) :: μ).map (·.1)) := R2.new_ne nL2
  have hL0 : h₀.get? L = none := R2.new0 nL2
  have hLH : C.H L := R2.H_new nL2
  have fpThere : ∀ b ∈ fp, ∃ o, s.heap.get? b = some o := W.there 0 _ st
  have hLf : L ∉ fp := fun q => by obtain ⟨o, e⟩ := fpThere _ q; rw [k2 _ _ e] at nL2; cases nL2
  have hDf : D ∉ fp := fun q => by obtain ⟨o, e⟩ := fpThere _ q; rw [← hD, none_size] at e; cases e
  have R3 : Rel C ks l ((D, .lst []) :: μ) h₀ { s with heap := h₁, toks := s.toks + ([] : List (Str × Value)).length } := R2.keeps k1
  have st3 : St 0 h₁ := W.keep _ _ _ st fun b hb o e => k1 _ _ (k2 _ _ e)
  have un3 : Untr C ((D, Ob.lst []) :: μ) h₀ fp := fun b hb => ⟨fun q => by
    rcases List.mem_cons.mp q with e | q
    · exact (un b hb).1 (e ▸ .head _)
    · rcases List.mem_append.mp q with q | q
      · exact (un b hb).1 (.tail _ (List.mem_append_left _ q))
      · rcases List.mem_cons.mp q with e | q
        · have e' : b = D := e
          exact hDf (e' ▸ hb)
        · exact (un b hb).1 (.tail _ (List.mem_append_right _ q)), (un b hb).2⟩
  have t3 : TK C.H s.heap h₁ := .of_keep fun b o e => k1 _ _ (k2 _ _ e)
  have okI : ∀ old, (inner C scope cl L old).Ok := fun old => ⟨hkind, ok.glob, ok.blt, ok.hand, ok.depth, ok.units⟩
  have loop : ∀ s₃ : Shared, s₃ = { s with heap := h₁, toks := s.toks + ([] : List (Str × Value)).length } →
      codeAny (model C.prog C.w) C.A (.compLoop (.ListComp elt [⟨target, iter, ifs, 0⟩] scope pos) 0 (.ref I) (.ref D) (compEnvC scope cl L C.env)) (RR (.ref D) L) s₃ := by
    rintro s₃ rfl
    refine codeAny_compG (fun k s' => ∃ i ys μ' m, i ≤ n ∧ k = n - i ∧ ys.length ≤ i ∧ Inv i ys μ' ∧ Rel C ks l ((D, .lst ys) :: μ') h₀ s' ∧ TK C.H s.heap s'.heap ∧ St i s'.heap ∧ Untr C ((D, Ob.lst ys) :: μ') h₀ fp ∧ s'.heap.Ns L m ∧ L ∉ C.env.locals :: (C.env.cells.map (·.2) ++ ((D, Ob.lst ys) :: μ').map (·.1))) ?_ n
      ⟨0, [], μ, _, Nat.zero_le _, rfl, Nat.le_refl _, start, R3, t3, st3, un3, hns₁, hLn2⟩
    rintro k s' ⟨i, ys, μ', m, hi, rfl, hyl, hI, R', t', st', un', hN', hLn'⟩ E₁
    have kL : ∀ {μ₁ : Mem} {s₁ : Shared}, L ∉ C.env.locals :: (C.env.cells.map (·.2) ++ μ₁.map (·.1)) → ∀ o, s₁.heap.get? L = some o → (hideAll s₁.heap (held C μ₁ ++ fp)).get? L = some o := fun h o e => hideAll_get _ e fun q => by
      rcases List.mem_append.mp q with q | q
      · exact held_not h q
      · exact hLf q
    by_cases hlt : i < n
    · obtain ⟨nd, tn⟩ := turn i ys μ' hlt hI
      obtain ⟨R₁, un₁, k₁⟩ := R'.bigF un'
      refine W.next i l _ _ s' _ E₁ hlt (nd _) un₁ R₁ st' fun u s₁ t₁ R₁' y₁ md => ?_
      intro E₂
      have hN₁ : s₁.heap.Ns L m := hN'.at' fun o e => R₁'.keep _ _ (kL hLn' o e)
      obtain ⟨R₂, un₂, k₂⟩ := (R₁'.small R' k₁).bigF un'
      refine W.own i l _ _ s₁ u _ E₂ hlt (nd _) un₂ R₂ y₁ md fun s₂ t₂ R₂' y₂ st₂ => ?_
      intro E₃
      have hN₂ : s₂.heap.Ns L m := hN₁.at' fun o e => R₂'.keep _ _ (kL hLn' o e)
      have Ro := R₂'.small R' k₂
      have fpT : ∀ b ∈ fp, ∃ o, s₂.heap.get? b = some o := W.there _ _ st₂
      have tt := (t'.trans t₁).trans t₂
      obtain ⟨Ri, tk⟩ := inner_rel In Ro (old := μ' ++ C.old) (fun p hp => (List.mem_append.mp hp).imp (fun h => .tail _ h) id) hN₂ hLn' hL0
      refine tn L (okI _) _ s₂ u Ri y₂ _ E₃ fun l₁ s₃ ex t₃ R₃ => ?_
      intro E₄
      refine ex _ s₃ R₃ _ E₄ fun b ν₁ s₄ hb t₄ R₄ => ?_
      cases b with
      | false =>
        simp only [Bool.false_eq_true, if_false] at hb ⊢
        obtain ⟨ν, hν, hI'⟩ := hb
        obtain ⟨Ra, a2, a3, ⟨m', a4⟩, a5⟩ := inner_after Ro hLn' hL0 un' fpT hLf R₄ (t₃.trans t₄) hν
        have pm : List.Perm ((D, Ob.lst ys) :: (ν ++ μ')) (ν ++ (D, Ob.lst ys) :: μ') := List.perm_middle.symm
        refine ⟨n - (i + 1), by omega, i + 1, ys, ν ++ μ', m', hlt, rfl, by omega, hI', Ra.perm pm, (tt.trans t₃).trans t₄, W.keep _ _ _ st₂ a5, fun b hb => ⟨fun q => (a3 b hb).1 ?_, (a3 b hb).2⟩, a4, fun q => a2 ?_⟩
        · exact ((List.Perm.append_left _ (pm.map _)).cons _).subset q
        · exact ((List.Perm.append_left _ (pm.map _)).cons _).subset q
      | true =>
        simp only [if_true] at hb ⊢
        intro E₅
        refine hb _ s₄ R₄ _ E₅ fun v ν₂ u' s₅ hv t₅ R₅ y₅ => ?_
        intro E₆
        obtain ⟨ν, hν, hI'⟩ := hv
        obtain ⟨Ra, a2, a3, ⟨m', a4⟩, a5⟩ := inner_after Ro hLn' hL0 un' fpT hLf R₅ ((t₃.trans t₄).trans t₅) hν
        have pm : List.Perm ((D, Ob.lst ys) :: (ν ++ μ')) (ν ++ (D, Ob.lst ys) :: μ') := List.perm_middle.symm
        have un₅ : Untr C ((D, Ob.lst ys) :: (ν ++ μ')) h₀ fp := fun b hb => ⟨fun q => (a3 b hb).1 (((List.Perm.append_left _ (pm.map _)).cons _).subset q), (a3 b hb).2⟩
        have hL₅ : L ∉ C.env.locals :: (C.env.cells.map (·.2) ++ ((D, Ob.lst ys) :: (ν ++ μ')).map (·.1)) := fun q => a2 (((List.Perm.append_left _ (pm.map _)).cons _).subset q)
        have Rp := Ra.perm pm
        have hdD : D ∉ fp := fun q => (un₅ _ q).1 (.tail _ (List.mem_append_right _ (.head _)))
        refine (OPK_append (Φ := fun w μ₆ => μ₆ = (D, .lst (ys ++ [v])) :: (ν ++ μ')) (v := v) .head (by omega) rfl) _ s₅ [.ref D, u'] Rp.big (.cons (.val _) (.cons y₅ .nil)) _ E₆ fun w μ₆ u₆ s₆ e t₆ R₆ y₆ => ?_
        subst e
        have st₅ : St (i + 1) s₅.heap := W.keep _ _ _ st₂ a5
        have hb₅ := untr_big W st₅ un₅
        have st₆ : St (i + 1) s₆.heap := W.keep _ _ _ st₅ fun b hb' o e => by
          obtain ⟨o', ho, hbig⟩ := hb₅ b hb'
          obtain rfl : o' = o := Option.some.inj (ho.symm.trans e)
          exact R₆.keep b _ hbig
        have hN₆ : s₆.heap.Ns L m' := a4.at' fun o e => R₆.keep _ _ (hideAll_get _ e (held_not hL₅))
        exact ⟨n - (i + 1), by omega, i + 1, ys ++ [v], ν ++ μ', m', hlt, rfl, by simp; omega, hI', R₆.small Rp Rp.toBig, (((tt.trans t₃).trans t₄).trans t₅).trans t₆, st₆, un₅, hN₆, hL₅⟩
    · obtain rfl : i = n := by omega
      obtain ⟨R₁, un₁, k₁⟩ := R'.bigF un'
      refine W.done l _ _ s' _ E₁ (done ys μ' hI _) un₁ R₁ st' fun s₁ t₁ R₁' => ?_
      have hN₁ : s₁.heap.Ns L m := hN'.at' fun o e => R₁'.keep _ _ (kL hLn' o e)
      exact hRR D L ys μ' s₁ m hI hyl (R₁'.small R' k₁) (t'.trans t₁) hN₁ hLn' hL0 hLH
  exact codeAny_compStart_list (loop _ rfl) (W.self 0 _ _ _ st3 (loop _ rfl))
theorem EV_compE {elt target iter : Expr} {ifs : List Expr} {scope : Scope} {pos : Pos} {Φ : V → Mem → Prop} (ok : C.Ok) (cl : List (Str × Addr)) (ks' : List Str) (l₀ : List (Option V))
    (hi : EV C ks l μ iter fun v μ' => ∃ (n : Nat) (xs : Nat → V) (Need : Mem → Prop) (Inv : Nat → List V → Mem → Prop), Src C ks l μ' v n xs Need target ∧ Inv 0 [] μ' ∧ n ≤ 1000 ∧ (∀ i ys μ, i < n → Inv i ys μ → (∀ p, Need (p :: μ)) ∧ ∀ L, (inner C scope cl L (μ ++ C.old)).Ok → AS (inner C scope cl L (μ ++ C.old)) ks' l₀ [] target (xs i) fun l₁ => TS (inner C scope cl L (μ ++ C.old)) ks' l₁ [] ifs fun b ν₁ =>
      if b = true then EV (inner C scope cl L (μ ++ C.old)) ks' l₁ ν₁ elt fun v ν₂ => ∃ ν, List.Sublist ν ν₂ ∧ Inv (i + 1) (ys ++ [v]) (ν ++ μ) else ∃ ν, List.Sublist ν ν₁ ∧ Inv (i + 1) ys (ν ++ μ)) ∧
      (∀ ys μ, Inv n ys μ → (∀ p, Need (p :: μ)) ∧ ∀ D, Φ (.val (.ref D)) ((D, .lst ys) :: μ)))
    (hclos : closureFor scope C.env = pure cl) (In : Inside C ks l scope cl ks' l₀) (hcell : ∀ y ∈ scope.names, y.2 ≠ .cell) (hkind : scope.kind = .function)
    (hnames : ∀ x ∈ scope.names, x.2 = .local → scope.names.lookup x.1 = some .local) (hs : ∀ x, foldedSetIterable iter C.env x = pure x) :
    EV C ks l μ (.ListComp elt [⟨target, iter, ifs, 0⟩] scope pos) Φ := fun h₀ s R Q E q => by
  rw [eval_ListComp]
  refine wpAny_comprehension_free (use := none) rfl hs hclos hkind hnames ?_
  refine hi h₀ s R _ E fun v μ₁ u s₁ k t₁ R₁ y₁ => ?_
  obtain ⟨n, xs, Need, Inv, src, hI0, hn, turn, done⟩ := k
  refine src h₀ s₁ u R₁ y₁ _ E fun I fp St Md s₂ W st₀ un t₂ R₂ => ?_
  refine comp_core (RR := fun acc L => compPost (model C.prog C.w) C.A E none Q acc L) ok W hn In hcell hkind st₀ un R₂ Inv hI0 turn (fun ys μ h => (done ys μ h).1) ?_
  intro D L ys μ' s' m hI hyl R' t' hN hL h0 hLH
  refine ⟨m, hN, fun h' hs' => ?_⟩
  obtain ⟨o, ho, hd⟩ : ∃ o, s'.heap.get? L = some o ∧ ∀ vs k, o ≠ tupleOf vs k := by
    obtain ⟨o, es, ep, x, r⟩ := hN
    exact ⟨o, x, fun vs k e => by rw [e] at r; simp at r⟩
  have tk := tk_same hs' ho hd (H := C.H)
  have R'' := R'.other (tk := s'.toks) (fp := [L]) (fun b hb => by rw [List.mem_singleton.mp hb]; exact ⟨hL, h0⟩) (fun b hb => .inl (by rw [List.mem_singleton.mp hb]; exact hLH)) (fun b o hb e => (hs'.2 b fun q => hb (by rw [q]; exact .head _)).trans e) tk
  exact q _ _ _ _ ((done ys μ' hI).2 D) (((t₁.trans t₂).trans t').trans tk) R'' (.val _)
theorem E1_compE {x : Str} {px spos : Pos} {elt target iter : Expr} {ifs : List Expr} {scope : Scope} {pos : Pos} {Ψ : Fl → List (Option V) → Mem → Prop} (ok : C.Ok) (nk : ks.Nodup) (hk : Sto C x) (cl : List (Str × Addr)) (ks' : List Str) (l₀ : List (Option V))
    (hi : EV C ks l μ iter fun v μ' => ∃ (n : Nat) (xs : Nat → V) (Need : Mem → Prop) (Inv : Nat → List V → Mem → Prop), Src C ks l μ' v n xs Need target ∧ Inv 0 [] μ' ∧ n ≤ 1000 ∧ (∀ i ys μ, i < n → Inv i ys μ → (∀ p, Need (p :: μ)) ∧ ∀ L, (inner C scope cl L (μ ++ C.old)).Ok → AS (inner C scope cl L (μ ++ C.old)) ks' l₀ [] target (xs i) fun l₁ => TS (inner C scope cl L (μ ++ C.old)) ks' l₁ [] ifs fun b ν₁ =>
      if b = true then EV (inner C scope cl L (μ ++ C.old)) ks' l₁ ν₁ elt fun v ν₂ => ∃ ν, List.Sublist ν ν₂ ∧ Inv (i + 1) (ys ++ [v]) (ν ++ μ) else ∃ ν, List.Sublist ν ν₁ ∧ Inv (i + 1) ys (ν ++ μ)) ∧
      (∀ ys μ, Inv n ys μ → (∀ p, Need (p :: μ)) ∧ ∀ D, ∃ l', Up ks l x (.val (.ref D)) l' ∧ Ψ .next l' ((D, .lst ys) :: μ)))
    (hclos : closureFor scope C.env = pure cl) (In : Inside C ks l scope cl ks' l₀) (hcell : ∀ y ∈ scope.names, y.2 ≠ .cell) (hkind : scope.kind = .function)
    (hnames : ∀ x ∈ scope.names, x.2 = .local → scope.names.lookup x.1 = some .local) (hs : ∀ x, foldedSetIterable iter C.env x = pure x)
    (hsw : swapsWith (.ListComp elt [⟨target, iter, ifs, 0⟩] scope pos) (some (.Name x px)) spos.line C.env = pure true) :
    E1 C ks l μ (.Assign [.Name x px] (.ListComp elt [⟨target, iter, ifs, 0⟩] scope pos) spos) Ψ := fun h₀ s R Q E q => by
  rw [exec_Assign_Name_used _ _ _ _ hsw]
  refine wpAny_bind (wpAny_standAt (wpAny_bind ?_))
  show wpAny _ _ (do let _ ← comprehension (.ListComp elt [⟨target, iter, ifs, 0⟩] scope pos) scope C.env _ (newList []) false (eval iter C.env) (some (assign (.Name x px) C.env))) _ _ s
  refine wpAny_bind (wpAny_mono (wpAny_comprehension_free (use := some (assign (.Name x px) C.env)) (Q := fun _ s' => Q .next s') rfl hs hclos hkind hnames ?_) (fun _ s' hq => wpAny_pure (wpAny_pure hq)) fun _ _ e => e)
  refine hi h₀ s R _ E fun v μ₁ u s₁ k t₁ R₁ y₁ => ?_
  obtain ⟨n, xs, Need, Inv, src, hI0, hn, turn, done⟩ := k
  refine src h₀ s₁ u R₁ y₁ _ E fun I fp St Md s₂ W st₀ un t₂ R₂ => ?_
  refine comp_core (RR := fun acc L => compPost (model C.prog C.w) C.A E (some (assign (.Name x px) C.env)) (fun _ s' => Q .next s') acc L) ok W hn In hcell hkind st₀ un R₂ Inv hI0 turn (fun ys μ h => (done ys μ h).1) ?_
  intro D L ys μ' s' m hI hyl R' t' hN hL h0 hLH
  obtain ⟨l', U, hΨ⟩ := (done ys μ' hI).2 D
  show wpAny _ _ (assign (.Name x px) C.env (.ref D)) _ _ _
  refine wpAny_assign_Name (store_any ok nk R'.big U hk (.val _) fun s₃ t₃ R₃ => ?_)
  have hN₃ : s₃.heap.Ns L m := hN.at' fun o e => R₃.keep _ _ (hideAll_get _ e (held_not hL))
  refine ⟨m, hN₃, fun h' hs' => ?_⟩
  obtain ⟨o, ho, hd⟩ : ∃ o, s₃.heap.get? L = some o ∧ ∀ vs k, o ≠ tupleOf vs k := by
    obtain ⟨o, es, ep, x, r⟩ := hN₃
    exact ⟨o, x, fun vs k e => by rw [e] at r; simp at r⟩
  have tk := tk_same hs' ho hd (H := C.H)
  have R'' := (R₃.small R' R'.toBig).other (tk := s₃.toks) (fp := [L]) (fun b hb => by rw [List.mem_singleton.mp hb]; exact ⟨hL, h0⟩) (fun b hb => .inl (by rw [List.mem_singleton.mp hb]; exact hLH)) (fun b o hb e => (hs'.2 b fun q => hb (by rw [q]; exact .head _)).trans e) tk
  exact q _ _ _ _ _ hΨ ((((t₁.trans t₂).trans t').trans t₃).trans tk) R'' .next
end
-- M13
theorem int_sub_bb (a b : Bool) : Gives (Builtin.«int.__sub__» ⟨[.bool a, .bool b], []⟩) (.int ((if a = true then (1 : Int) else 0) - if b = true then (1 : Int) else 0)) :=
  .of_wp fun M A E s Q h => by obtain ⟨hp, g, d, tk, os⟩ := s; wp_walk; exact ⟨_, rfl, h⟩
theorem sub_bb {prog : Program} {w : World} {A : Around} {E : Value → Shared → Prop} {s : Shared} {Q : Value → Shared → Prop} {a b : Bool} (h : Q (.int ((if a = true then (1 : Int) else 0) - if b = true then (1 : Int) else 0) s.toks) { s with toks := s.toks + 1 }) : wpAny (model prog w) A (binaryOp .Sub (.bool a) (.bool b)) Q E s :=
  binaryOp_gives (op := .Sub) (T := "bool") rfl rfl F.fills_bool_sub F.slot_bool_sub F.entry_int_sub (F.args_int_sub_2 _ _) (int_sub_bb a b) trivial h
section
variable {C : Cx} {ks : List Str} {l l' : List (Option V)} {μ μ' : Mem} {h₀ : Heap} {s : Shared}
noncomputable def b2i (b : Bool) : Int := if b = true then 1 else 0
theorem OPB_subB {a b : Bool} : OPB C ks l μ .Sub (.bool a) (.bool b) (Is (.int (b2i a - b2i b)) μ) := fun h₀ s x y R hx hy Q E q => by
  cases hx; cases hy; exact sub_bb (q _ μ _ _ ⟨rfl, rfl⟩ (TK.refl _) R.toks (.int _ _))
theorem OPC_ltSS {a b : List Nat} : OPC C ks l μ .Lt (.str (S a)) (.str (S b)) (decide (a < b)) := OPC_ltS
theorem OPC_gtSS {a b : List Nat} : OPC C ks l μ .Gt (.str (S a)) (.str (S b)) (decide (b < a)) := OPC_gtS
/-! assignments of other shapes -/
theorem E1_tuple {elts : List Expr} {k : Nat} {tpos pos : Pos} {value : Expr} {Ψ : Fl → List (Option V) → Mem → Prop} (h : EV C ks l μ value fun v μ' => AS C ks l μ' (.Tuple elts k tpos) v fun l' => Ψ .next l' μ')
    (hs : swapsWithSole [.Tuple elts k tpos] value pos.line C.env = pure false) (hw : swappedStores [.Tuple elts k tpos] value C.env = pure none) : E1 C ks l μ (.Assign [.Tuple elts k tpos] value pos) Ψ := fun h₀ s R Q E q =>
  Assign_Tuple (h h₀ s R _ E fun v μ' u s' p t r y => p h₀ s' u r y _ E fun l' s'' k t' r' => q _ _ _ _ _ k (t.trans t') r' .next) hs hw
theorem binds_any (ok : C.Ok) (nk : ks.Nodup) : ∀ {xs : List Str} {vs : List V} {us : List Value} {l : List (Option V)} {s : Shared}, Rel C ks l μ h₀ s → Ups ks l xs vs l' → (∀ x ∈ xs, Sto C x) → VRs C.H s.heap vs us → ∀ {Q : Unit → Shared → Prop} {E : Value → Shared → Prop},
    (∀ s', TK C.H s.heap s'.heap → Rel C ks l' μ h₀ s' → Q () s') → wpAny (model C.prog C.w) C.A (assignInOrder (xs.map fun n => bindName C.env n) us) Q E s
  | [], vs, us, l, s, R, U, hk, y, Q, E, q => by
    cases U
    cases y
    exact wpAny_pure (q s (TK.refl _) R)
  | x :: xs, vs, us, l, s, R, U, hk, y, Q, E, q => by
    cases U with
    | cons U1 U2 =>
      cases y with
      | cons y1 y2 =>
        show wpAny _ _ (do holding _ (bindName C.env x _); assignInOrder _ _) _ _ s
        refine wpAny_bind (wpAny_holding (bind_any ok nk R U1 (hk x (.head _)) y1 fun s' t r => ?_))
        exact binds_any ok nk r U2 (fun p hp => hk p (.tail _ hp)) (y2.mono t) fun s'' t' r' => q s'' (t.trans t') r'
theorem VRs.rev {H : Addr → Prop} {h : Heap} : ∀ {l : List V} {vs : List Value}, VRs H h l vs → VRs H h l.reverse vs.reverse
  | _, _, .nil => .nil
  | _, _, .cons a r => by rw [List.reverse_cons, List.reverse_cons]; exact (VRs.rev r).append (.one a)
theorem E1_tupleS (ok : C.Ok) (nk : ks.Nodup) {elts : List Expr} {k : Nat} {tpos pos : Pos} {value : Expr} {names : List Str} {Ψ : Fl → List (Option V) → Mem → Prop}
    (h : EV C ks l μ value fun v μ' => ∃ vs, v = .tup vs ∧ names.length = vs.length ∧ ∃ l', Ups ks l names.reverse vs.reverse l' ∧ Ψ .next l' μ') (hk : ∀ x ∈ names, Sto C x)
    (hs : swapsWithSole [.Tuple elts k tpos] value pos.line C.env = pure false) (hw : swappedStores [.Tuple elts k tpos] value C.env = pure (some names)) : E1 C ks l μ (.Assign [.Tuple elts k tpos] value pos) Ψ := fun h₀ s R Q E q => by
  refine Assign_Tuple_swapped (h h₀ s R _ E fun v μ' u s' p t r y => ?_) hs hw
  obtain ⟨vs, rfl, hn, l', U, hΨ⟩ := p
  obtain ⟨a, us, n, rfl, ho, y⟩ := y.tup_inv
  have e : names.length = us.toArray.size := by rw [hn, y.length]; simp
  rw [e]
  refine unpackItems_tuple ok.hand (isTup_of ho) fun h' x => ?_
  have kp := ext_keep x
  refine binds_any ok nk (r.keeps (tk := s'.toks) kp) U (fun x hx => hk x (List.mem_reverse.mp hx)) ((y.mono (.of_keep kp)).rev) fun s'' t' r' => ?_
  exact q _ _ _ _ _ hΨ ((t.trans (.of_keep kp)).trans t') r' .next
theorem E1_two {t₁ t₂ value : Expr} {pos : Pos} {Ψ : Fl → List (Option V) → Mem → Prop} (h : EV C ks l μ value fun v μ' => AS C ks l μ' t₁ v fun l' => AS C ks l' μ' t₂ v fun l'' => Ψ .next l'' μ')
    (he : (assignEach [t₁, t₂] C.env).map (·.2) = [assign t₁ C.env, assign t₂ C.env]) (hw : swappedStores [t₁, t₂] value C.env = pure none) : E1 C ks l μ (.Assign [t₁, t₂] value pos) Ψ := fun h₀ s R Q E q =>
  wpAny_Assign_two (h h₀ s R _ E fun v μ' u s' p t r y => p h₀ s' u r y _ E fun l' s'' p' t' r' => p' h₀ s'' u r' (y.mono t') _ E fun l'' s3 k t3 r3 => q _ _ _ _ _ k ((t.trans t').trans t3) r3 .next) he hw
/-! methods -/
theorem GM_append {a : Addr} {xs : List V} (hm : Has C μ a (.lst xs)) : GM C ks l μ (.val (.ref a)) (Str.ofString "append") (.builtin "list.append") := GM_lst hm F.slot_list_append rfl
theorem GM_insert {a : Addr} {xs : List V} (hm : Has C μ a (.lst xs)) : GM C ks l μ (.val (.ref a)) (Str.ofString "insert") (.builtin "list.insert") := GM_lst hm F.slot_list_insert rfl
theorem GM_extend {a : Addr} {xs : List V} (hm : Has C μ a (.lst xs)) : GM C ks l μ (.val (.ref a)) (Str.ofString "extend") (.builtin "list.extend") := GM_lst hm F.slot_list_extend rfl
theorem GM_join {x : Str} : GM C ks l μ (.str x) (Str.ofString "join") (.builtin "str.join") := GM_str F.slot_str_join rfl
theorem GM_startswith {x : Str} : GM C ks l μ (.str x) (Str.ofString "startswith") (.builtin "str.startswith") := GM_str F.slot_str_startswith rfl
theorem GM_lstrip {x : Str} : GM C ks l μ (.str x) (Str.ofString "lstrip") (.builtin "str.lstrip") := GM_str F.slot_str_lstrip rfl
theorem GM_lower {x : Str} : GM C ks l μ (.str x) (Str.ofString "lower") (.builtin "str.lower") := GM_str F.slot_str_lower rfl
theorem kb {id : String} : Keepy C (.builtin id) := .inl ⟨_, rfl⟩
theorem E1.mono {st : Stmt} {Ψ Ψ' : Fl → List (Option V) → Mem → Prop} (h : E1 C ks l μ st Ψ) (k : ∀ f l' μ', Ψ f l' μ' → Ψ' f l' μ') : E1 C ks l μ st Ψ' := fun h₀ s R Q E q => h h₀ s R Q E fun f l' μ' fl s' p t r y => q f l' μ' fl s' (k f l' μ' p) t r y
theorem EX_cut {st : Stmt} {rest : List Stmt} {Ψ : Fl → List (Option V) → Mem → Prop} (Mid : List (Option V) → Mem → Prop) (h : E1 C ks l μ st fun f l' μ' => f = .next ∧ Mid l' μ') (k : ∀ l' μ', Mid l' μ' → EX C ks l' μ' rest Ψ) : EX C ks l μ (st :: rest) Ψ :=
  EX_cons (h.mono fun f l' μ' p => by obtain ⟨rfl, p⟩ := p; exact k l' μ' p)
theorem AS_tup2 (ok : C.Ok) (nk : ks.Nodup) {x y : Str} {px py pos : Pos} {k : Nat} {v w : V} {l'' : List (Option V)} {Ξ : List (Option V) → Prop} (hx : Sto C x) (hy : Sto C y) (U1 : Up ks l x v l') (U2 : Up ks l' y w l'') (h : Ξ l'') : AS C ks l μ (.Tuple [.Name x px, .Name y py] k pos) (.tup [v, w]) Ξ :=
  AS_tuple ok nk (ps := [(x, px), (y, py)]) rfl rfl (by intro q hq; rcases List.mem_cons.mp hq with rfl | hq; exact hx; rw [List.mem_singleton.mp hq]; exact hy) (Ups.cons U1 (Ups.cons U2 .nil)) h
theorem AS_tup3 (ok : C.Ok) (nk : ks.Nodup) {x y z : Str} {px py pz pos : Pos} {k : Nat} {v w u : V} {l'' l3 : List (Option V)} {Ξ : List (Option V) → Prop} (hx : Sto C x) (hy : Sto C y) (hz : Sto C z) (U1 : Up ks l x v l') (U2 : Up ks l' y w l'') (U3 : Up ks l'' z u l3) (h : Ξ l3) : AS C ks l μ (.Tuple [.Name x px, .Name y py, .Name z pz] k pos) (.tup [v, w, u]) Ξ :=
  AS_tuple ok nk (ps := [(x, px), (y, py), (z, pz)]) rfl rfl (by intro q hq; rcases List.mem_cons.mp hq with rfl | hq; exact hx; rcases List.mem_cons.mp hq with rfl | hq; exact hy; rw [List.mem_singleton.mp hq]; exact hz) (Ups.cons U1 (Ups.cons U2 (Ups.cons U3 .nil))) h
end
-- G0
/-- the rest of the way told by a name: keeps the terms small -/
theorem EX_gen {C : Cx} {ks : List Str} {l : List (Option V)} {μ : Mem} {ss : List Stmt} {Ψ : Fl → List (Option V) → Mem → Prop} (h : ∀ Φ : Fl → List (Option V) → Mem → Prop, (∀ fl l' μ', Ψ fl l' μ' → Φ fl l' μ') → EX C ks l μ ss Φ) : EX C ks l μ ss Ψ := h Ψ fun _ _ _ x => x
theorem pos_name {i : Str} {p : Pos} : (PySem.Expr.Name i p).pos = p := rfl
theorem pos_const {c : Const} {k : Nat} {p : Pos} : (PySem.Expr.Constant c k p).pos = p := rfl
theorem pos_call {f : PySem.Expr} {a : List PySem.Expr} {k : List Keyword} {p : Pos} : (PySem.Expr.Call f a k p).pos = p := rfl
theorem pos_list {a : List PySem.Expr} {p : Pos} : (PySem.Expr.List a p).pos = p := rfl
theorem pos_tuple {a : List PySem.Expr} {k : Nat} {p : Pos} : (PySem.Expr.Tuple a k p).pos = p := rfl
theorem len1 {us : List Value} (h : us.length = 1) : ∃ a, us = [a] := by
  match us, h with
  | [a], _ => exact ⟨a, rfl⟩
theorem len2 {us : List Value} (h : us.length = 2) : ∃ a b, us = [a, b] := by
  cases us with
  | nil => cases h
  | cons a r => obtain ⟨b, rfl⟩ := len1 (Nat.succ.inj h); exact ⟨a, b, rfl⟩
theorem len3 {us : List Value} (h : us.length = 3) : ∃ a b c, us = [a, b, c] := by
  cases us with
  | nil => cases h
  | cons a r => obtain ⟨b, c, rfl⟩ := len2 (Nat.succ.inj h); exact ⟨a, b, c, rfl⟩
theorem len4 {us : List Value} (h : us.length = 4) : ∃ a b c d, us = [a, b, c, d] := by
  cases us with
  | nil => cases h
  | cons a r => obtain ⟨b, c, d, rfl⟩ := len3 (Nat.succ.inj h); exact ⟨a, b, c, d, rfl⟩
-- M14
theorem foldl_app (c : Nat) : ∀ (n : Nat) (a : Array Nat), ((List.replicate n #[c]).foldl (· ++ ·) a).toList = a.toList ++ List.replicate n c
  | 0, a => by simp
  | n + 1, a => by rw [List.replicate_succ, List.foldl_cons, foldl_app c n]; simp [List.replicate_succ]
theorem mul_S {c : Nat} {n : Nat} : Txt.mul (S [c]) (n : Int) = S (List.replicate n c) := by
  unfold Txt.mul
  match n with
  | 0 => rfl
  | 1 => rfl
  | n + 2 =>
    rw [if_neg (by omega), if_neg]
    · show (⟨_⟩ : Str) = ⟨_⟩
      congr 1
      apply Array.toList_inj.mp
      have := foldl_app c (n + 2) #[]
      have e : ((n + 2 : Nat) : Int).toNat = n + 2 := by omega
      show (List.foldl (fun x1 x2 => x1 ++ x2) #[] (List.replicate ((n + 2 : Nat) : Int).toNat #[c])).toList = List.replicate (n + 2) c
      rw [e, this]; rfl
    · rw [S_len]; simp; omega
theorem mulOk_S {c : Nat} {n : Nat} (h : n ≤ 1000) : PySem.MulOk (S [c]) (n : Int) := by
  refine ⟨?_, fun h1 h2 => ?_, fun h1 h2 => ?_⟩
  · simp; omega
  · rw [S_len]
    have : (1 : Int) ≤ (2 ^ 63 - 1) / (n : Int) := by
      rw [Int.le_ediv_iff_mul_le (by omega)]
      have : (n : Int) ≤ 1000 := by omega
      omega
    show ¬ (((1 : Nat) : Int) > (2 ^ 63 - 1) / (n : Int))
    exact Int.not_lt.mpr this
  · rw [S_len]
    unfold Builtin.Str.tooLong
    rw [sizeLine_eq]; simp; omega
theorem mulIntOk {a b : Int} (h1 : -1000000000 < a) (h2 : a < 1000000000) : IntMulOk a b := IntMulOk.of_left (intBits_le_64 (by omega) (by omega))
theorem glued_fold : ∀ (l : List (List Nat)) (a : Array Nat), ((l.map S).foldl (fun acc p => acc ++ (S []).cps ++ p.cps) a).toList = a.toList ++ l.flatten
  | [], a => by simp
  | x :: l, a => by rw [List.map_cons, List.foldl_cons, glued_fold l]; simp [S]
theorem join_S (l : List (List Nat)) : Txt.join (S []) (l.map S) = S l.flatten := by
  show (⟨_⟩ : Str) = ⟨_⟩
  congr 1
  apply Array.toList_inj.mp
  cases l with
  | nil => rfl
  | cons x l =>
    have := glued_fold l (S x).cps
    simp only [List.map_cons, List.drop_succ_cons, List.drop_zero, List.headD_cons]
    rw [this]
    simp [S]
theorem startswith_S (a b : List Nat) : Txt.startswith (S a) (S b) = b.isPrefixOf a := by
  unfold Txt.startswith
  rw [StrLaws.subAt_eq, S_cps, S_cps, S_len, S_len]
  rw [Bool.eq_iff_iff, List.isPrefixOf_iff_prefix, List.prefix_iff_eq_take]
  simp only [List.drop_zero, Bool.and_eq_true, decide_eq_true_eq, beq_iff_eq, Nat.zero_add]
  constructor
  · rintro ⟨_, h⟩; exact h.symm
  · intro h
    refine ⟨?_, h.symm⟩
    have := congrArg List.length h
    rw [List.length_take] at this
    omega
theorem takeWhile_len {p : Nat → Bool} : ∀ (l : List Nat), l.drop (l.takeWhile p).length = l.dropWhile p
  | [] => rfl
  | c :: l => by
    cases h : p c with
    | true => simp [List.takeWhile_cons, List.dropWhile_cons, h, takeWhile_len l]
    | false => simp [List.takeWhile_cons, List.dropWhile_cons, h]
theorem lstrip_S (x : List Nat) (c : Nat) : Txt.lstripChars (S x) (S [c]) = S (x.dropWhile (· == c)) := by
  unfold Txt.lstripChars
  rw [PyProof.Rows.stripBy_eq]
  have hf : (S [c]).cps.contains = (fun y => y == c) := by
    funext y
    show Array.contains #[c] y = (y == c)
    simp [Array.contains, eq_comm]
  show (⟨_⟩ : Str) = ⟨_⟩
  congr 1
  apply Array.toList_inj.mp
  rw [Array.toList_extract]
  simp only [stripLo, stripHi, if_true, Bool.false_eq_true, if_false]
  rw [hf, S_cps, S_len]
  simp only [List.extract_eq_drop_take]
  show _ = x.dropWhile (fun y => y == c)
  rw [← takeWhile_len]
  show List.take _ (List.drop _ x) = _
  rw [List.take_of_length_le]
  simp
-- M11
theorem chk {P : Params} {x : Str} {v : Option Value} (h : nsIn (hd.heap_1 P) mainGlobals x = some v) : nsIn (hd.heap_1 P) mainGlobals x = some v := h
theorem chl {P : Params} (x : Addr) {v : Obj} (h : (hd.heap_1 P).lookup x = some v) : (hd.heap_1 P).lookup x = some v := h
/-- a frame of this program -/
structure Fr (D : Cx) (names : List (Str × NameKind)) (P : Params) : Prop where
  ok : D.Ok
  names : D.env.scope.names = names
  k : D.K = hd.heap_1 P
section
variable {C : Cx} {names : List (Str × NameKind)} {P : Params} {ks : List Str} {l l' : List (Option V)} {μ μ' : Mem}
theorem Fr.kind (f : Fr C names P) {x : Str} {k : NameKind} (e : names.lookup x = some k) : C.env.kindOf x = some k := by show C.env.scope.names.lookup x = _; rw [f.names]; exact e
theorem Fr.sto (f : Fr C names P) {x : Str} (e : names.lookup x = some .local) : Sto C x := .inl (f.kind e)
theorem Fr.inter (f : Fr C names P) : interactive C.env = false := by unfold interactive; rw [f.ok.fn]; rfl
theorem Fr.name (f : Fr C names P) {x : Str} {pos : Pos} {v : V} (h : Lk ks l x v) (hd : (x == ("__debug__" : Str)) = false) : PV C ks l μ (.Name x pos) v := PV_name f.ok h hd
theorem Fr.glob (f : Fr C names P) {x : Str} {pos : Pos} {v : Value} (e : nsIn (hd.heap_1 P) mainGlobals x = some (some v)) (hx : names.lookup x = some .globalImplicit) (hd : (x == ("__debug__" : Str)) = false) : PV C ks l μ (.Name x pos) (.val v) := PV_glob f.ok (f.k ▸ e) (f.kind hx) hd
theorem Fr.globS (f : Fr C names P) {x : Str} {pos : Pos} {y : Str} {t : Tok} (e : nsIn (hd.heap_1 P) mainGlobals x = some (some (.str y t))) (hx : names.lookup x = some .globalImplicit) (hd : (x == ("__debug__" : Str)) = false) : PV C ks l μ (.Name x pos) (.str y) := PV_globS f.ok (f.k ▸ e) (f.kind hx) hd
theorem Fr.globI (f : Fr C names P) {x : Str} {pos : Pos} {y : Int} {t : Tok} (e : nsIn (hd.heap_1 P) mainGlobals x = some (some (.int y t))) (hx : names.lookup x = some .globalImplicit) (hd : (x == ("__debug__" : Str)) = false) : PV C ks l μ (.Name x pos) (.int y) := PV_globI f.ok (f.k ▸ e) (f.kind hx) hd
theorem Fr.blt (f : Fr C names P) {x : Str} {pos : Pos} {v : Value} (e : nsIn (hd.heap_1 P) mainGlobals x = some none) (hv : bootBuiltins x = some v) (hn : x ≠ "__name__") (hx : names.lookup x = some .globalImplicit) (hd : (x == ("__debug__" : Str)) = false) : PV C ks l μ (.Name x pos) (.val v) := PV_blt f.ok (f.k ▸ e) hv hn (f.kind hx) hd
/-- the caller, and how deep it still may call -/
structure Room (C : Cx) (P : Params) (n : Nat) : Prop where
  ok : C.Ok
  k : C.K = hd.heap_1 P
  depth : C.A.depth + n < 700
  units : C.A.units + 3 * n < 1900
theorem Room.less {n m : Nat} (r : Room C P n) (h : m ≤ n) : Room C P m := ⟨r.ok, r.k, by have := r.depth; omega, by have := r.units; omega⟩
theorem Fr.room (f : Fr C names P) {n : Nat} (h1 : C.A.depth + n < 700) (h2 : C.A.units + 3 * n < 1900) : Room C P n := ⟨f.ok, f.k, h1, h2⟩
/-- a call of a def, its frame told -/
theorem call_fr {n : Nat} {f : Addr} {fd : FuncData} {body : List Stmt} {oc : Value} {od : Option Addr} {osl : Array (Option Value)} (rm : Room C P (n + 1)) (ns rest : List Str) (names : List (Str × NameKind)) {vs : List V} {Φ : V → Mem → Prop} (old : List (Addr × Ob))
    (hK : (hd.heap_1 P).lookup f = some ⟨oc, od, .func fd, osl⟩) (hbody : fd.body = .stmts body) (hcd : codeIn (hd.heap_1 P) fd.code fd.qualname = true) (hnames : fd.scope.names = names)
    (hlen : ns.length = vs.length) (hns : ns.Nodup) (hold : ∀ p ∈ old, Has C μ p.1 p.2)
    (hbind : ∀ us : List Value, us.length = vs.length → bindArgs fd ⟨us, []⟩ = pure (ns.zip us)) (hloc : ∀ x ∈ ns, names.lookup x = some .local)
    (hcell : ∀ x ∈ names, x.2 ≠ .cell) (hclos : fd.closure = [])
    (hco : fd.scope.isCoroutine = false) (hgen : fd.scope.isGenerator = false) (hk : fd.scope.kind = .function) (hgl : fd.globals = mainGlobals) (hbl : fd.builtins = builtinsNs)
    (hx : ∀ D : Cx, Fr D names P → Room D P n → D.old = old → EX D (ns ++ rest) (startLocs rest.length vs) [] body fun fl l' μ' => ∃ ν, List.Sublist ν μ' ∧ Φ (match fl with | .ret v => v | _ => .none) (ν ++ μ)) :
    OPK C ks l μ (.ref f) vs Φ := by
  have dp := rm.depth
  have un := rm.units
  refine call_fn (ns := ns) (n := rest.length) rest old rm.ok (by omega) (rm.k ▸ hK) hbody (rm.k ▸ hcd) hlen hns hold hbind (fun x hx => hnames ▸ hloc x hx) (fun x hx => hcell x (hnames ▸ hx)) hclos hco hgen hk hgl hbl (by omega) rfl rfl (fun L okD => ?_)
  have hD : Fr (callee C fd f L old) names P := ⟨okD, hnames, rm.k⟩
  exact hx _ hD (hD.room (by show C.A.depth + 1 + n < 700; omega) (by show C.A.units + 3 + 3 * n < 1900; omega)) rfl
end
section
variable {C : Cx} {names : List (Str × NameKind)} {P : Params} {ks : List Str} {l l' : List (Option V)} {μ μ' : Mem}
theorem PV_strE {y : Str} {x : List Nat} {k : Nat} {pos : Pos} (e : y = S x) : PV C ks l μ (.Constant (.str y) k pos) (.str (S x)) := e ▸ PV_str
theorem OPC_eqSS {a b : List Nat} : OPC C ks l μ .Eq (.str (S a)) (.str (S b)) (decide (a = b)) := by
  have := OPC_eqS (C := C) (ks := ks) (l := l) (μ := μ) (a := S a) (b := S b)
  rw [S_beq, show (a == b) = decide (a = b) by rw [Bool.eq_iff_iff]; simp] at this
  exact this
theorem OPC_neSS {a b : List Nat} : OPC C ks l μ .NotEq (.str (S a)) (.str (S b)) (!decide (a = b)) := by
  have := OPC_neS (C := C) (ks := ks) (l := l) (μ := μ) (a := S a) (b := S b)
  rw [S_bne, show (a != b) = !decide (a = b) by rw [Bool.eq_iff_iff]; simp] at this
  exact this
theorem OPB_addSS {a b : List Nat} (h : a.length + b.length ≤ 16777216) : OPB C ks l μ .Add (.str (S a)) (.str (S b)) (Is (.str (S (a ++ b))) μ) := S_app a b ▸ OPB_addS (by rw [S_len, S_len]; exact h)
theorem OPK_lenSS {x : List Nat} (h : x.length ≤ 16777216) : OPK C ks l μ (.builtin "len") [.str (S x)] (Is (.int x.length) μ) := by
  have := OPK_lenS (C := C) (ks := ks) (l := l) (μ := μ) (x := S x) (by rw [S_len]; exact h)
  rw [S_len] at this
  exact this
theorem TV_strS {e : Expr} {x : List Nat} (h : PV C ks l μ e (.str (S x))) (hx : x.length ≤ 16777216) (he : ∀ whole, isTrue e C.env whole = (do let v ← whole; standAt e.pos; holding [v] (truthy v))) : TV C ks l μ e (decide (x.length ≠ 0)) := by
  have := TV_str h (by rw [S_len]; exact hx) he
  rw [S_len] at this
  exact this
end
theorem warm0 (w : World) : PySem.Challenge.rw_wu0049_01 = PySem.Challenge.rw_wu0049_01 ∧ hd.heap_1 w.params = hd.heap_1 w.params := by
  k_fill
  exact ⟨rfl, rfl⟩
section
variable {C : Cx} {names : List (Str × NameKind)} {P : Params} {ks : List Str} {l l' : List (Option V)} {μ μ' : Mem}
theorem g_len : nsIn (hd.heap_1 P) mainGlobals (Str.ofString "len") = some none := by k_is
theorem Fr.len (f : Fr C names P) {pos : Pos} (hx : names.lookup (Str.ofString "len") = some .globalImplicit) : PV C ks l μ (.Name (Str.ofString "len") pos) (.val (.builtin "len")) := f.blt g_len rfl (by decide) hx rfl
theorem g_sum : nsIn (hd.heap_1 P) mainGlobals (Str.ofString "sum") = some none := by k_is
theorem Fr.sum (f : Fr C names P) {pos : Pos} (hx : names.lookup (Str.ofString "sum") = some .globalImplicit) : PV C ks l μ (.Name (Str.ofString "sum") pos) (.val (.builtin "sum")) := f.blt g_sum rfl (by decide) hx rfl
theorem g_max : nsIn (hd.heap_1 P) mainGlobals (Str.ofString "max") = some none := by k_is
theorem Fr.max (f : Fr C names P) {pos : Pos} (hx : names.lookup (Str.ofString "max") = some .globalImplicit) : PV C ks l μ (.Name (Str.ofString "max") pos) (.val (.builtin "max")) := f.blt g_max rfl (by decide) hx rfl
theorem g_min : nsIn (hd.heap_1 P) mainGlobals (Str.ofString "min") = some none := by k_is
theorem Fr.min (f : Fr C names P) {pos : Pos} (hx : names.lookup (Str.ofString "min") = some .globalImplicit) : PV C ks l μ (.Name (Str.ofString "min") pos) (.val (.builtin "min")) := f.blt g_min rfl (by decide) hx rfl
theorem g_divmod : nsIn (hd.heap_1 P) mainGlobals (Str.ofString "divmod") = some none := by k_is
theorem Fr.divmod (f : Fr C names P) {pos : Pos} (hx : names.lookup (Str.ofString "divmod") = some .globalImplicit) : PV C ks l μ (.Name (Str.ofString "divmod") pos) (.val (.builtin "divmod")) := f.blt g_divmod rfl (by decide) hx rfl
theorem g_sorted : nsIn (hd.heap_1 P) mainGlobals (Str.ofString "sorted") = some none := by k_is
theorem Fr.sorted (f : Fr C names P) {pos : Pos} (hx : names.lookup (Str.ofString "sorted") = some .globalImplicit) : PV C ks l μ (.Name (Str.ofString "sorted") pos) (.val (.builtin "sorted")) := f.blt g_sorted rfl (by decide) hx rfl
theorem g_range : nsIn (hd.heap_1 P) mainGlobals (Str.ofString "range") = some none := by k_is
theorem Fr.range (f : Fr C names P) {pos : Pos} (hx : names.lookup (Str.ofString "range") = some .globalImplicit) : PV C ks l μ (.Name (Str.ofString "range") pos) (.val (.type "range")) := f.blt g_range rfl (by decide) hx rfl
theorem g_list : nsIn (hd.heap_1 P) mainGlobals (Str.ofString "list") = some none := by k_is
theorem Fr.list (f : Fr C names P) {pos : Pos} (hx : names.lookup (Str.ofString "list") = some .globalImplicit) : PV C ks l μ (.Name (Str.ofString "list") pos) (.val (.type "list")) := f.blt g_list rfl (by decide) hx rfl
theorem g_zip : nsIn (hd.heap_1 P) mainGlobals (Str.ofString "zip") = some none := by k_is
theorem Fr.zip (f : Fr C names P) {pos : Pos} (hx : names.lookup (Str.ofString "zip") = some .globalImplicit) : PV C ks l μ (.Name (Str.ofString "zip") pos) (.val (.type "zip")) := f.blt g_zip rfl (by decide) hx rfl
theorem g_str : nsIn (hd.heap_1 P) mainGlobals (Str.ofString "str") = some none := by k_is
theorem Fr.str (f : Fr C names P) {pos : Pos} (hx : names.lookup (Str.ofString "str") = some .globalImplicit) : PV C ks l μ (.Name (Str.ofString "str") pos) (.val (.type "str")) := f.blt g_str rfl (by decide) hx rfl
theorem g_super : nsIn (hd.heap_1 P) mainGlobals (Str.ofString "super") = some none := by k_is
theorem Fr.super (f : Fr C names P) {pos : Pos} (hx : names.lookup (Str.ofString "super") = some .globalImplicit) : PV C ks l μ (.Name (Str.ofString "super") pos) (.val (.type "super")) := f.blt g_super rfl (by decide) hx rfl
theorem k_parse257 : keepIn (hd.heap_1 P) (.ref 151) = true := by k_is
theorem g_parse257 : nsIn (hd.heap_1 P) mainGlobals (Str.ofString "parse257") = some (some (.ref 151)) := by k_is
theorem Fr.parse257 (f : Fr C names P) {pos : Pos} (hx : names.lookup (Str.ofString "parse257") = some .globalImplicit) : PV C ks l μ (.Name (Str.ofString "parse257") pos) (.val (.ref 151)) := f.glob g_parse257 hx rfl
theorem Fr.kp_parse257 (f : Fr C names P) : Keepy C (.ref 151) := .inr (.inr (f.k ▸ k_parse257))
theorem k_strcoll : keepIn (hd.heap_1 P) (.ref 28) = true := by k_is
theorem g_strcoll : nsIn (hd.heap_1 P) mainGlobals (Str.ofString "_strcoll") = some (some (.ref 28)) := by k_is
theorem Fr.strcoll (f : Fr C names P) {pos : Pos} (hx : names.lookup (Str.ofString "_strcoll") = some .globalImplicit) : PV C ks l μ (.Name (Str.ofString "_strcoll") pos) (.val (.ref 28)) := f.glob g_strcoll hx rfl
theorem Fr.kp_strcoll (f : Fr C names P) : Keepy C (.ref 28) := .inr (.inr (f.k ▸ k_strcoll))
theorem k_strxfrm : keepIn (hd.heap_1 P) (.ref 35) = true := by k_is
theorem g_strxfrm : nsIn (hd.heap_1 P) mainGlobals (Str.ofString "_strxfrm") = some (some (.ref 35)) := by k_is
theorem Fr.strxfrm (f : Fr C names P) {pos : Pos} (hx : names.lookup (Str.ofString "_strxfrm") = some .globalImplicit) : PV C ks l μ (.Name (Str.ofString "_strxfrm") pos) (.val (.ref 35)) := f.glob g_strxfrm hx rfl
theorem Fr.kp_strxfrm (f : Fr C names P) : Keepy C (.ref 35) := .inr (.inr (f.k ▸ k_strxfrm))
theorem k_Accumulator : keepIn (hd.heap_1 P) (.ref 115) = true := by k_is
theorem g_Accumulator : nsIn (hd.heap_1 P) mainGlobals (Str.ofString "_Accumulator") = some (some (.ref 115)) := by k_is
theorem Fr.Accumulator (f : Fr C names P) {pos : Pos} (hx : names.lookup (Str.ofString "_Accumulator") = some .globalImplicit) : PV C ks l μ (.Name (Str.ofString "_Accumulator") pos) (.val (.ref 115)) := f.glob g_Accumulator hx rfl
theorem Fr.kp_Accumulator (f : Fr C names P) : Keepy C (.ref 115) := .inr (.inr (f.k ▸ k_Accumulator))
theorem k_levenshtein_distance : keepIn (hd.heap_1 P) (.ref 165) = true := by k_is
theorem g_levenshtein_distance : nsIn (hd.heap_1 P) mainGlobals (Str.ofString "_levenshtein_distance") = some (some (.ref 165)) := by k_is
theorem Fr.levenshtein_distance (f : Fr C names P) {pos : Pos} (hx : names.lookup (Str.ofString "_levenshtein_distance") = some .globalImplicit) : PV C ks l μ (.Name (Str.ofString "_levenshtein_distance") pos) (.val (.ref 165)) := f.glob g_levenshtein_distance hx rfl
theorem Fr.kp_levenshtein_distance (f : Fr C names P) : Keepy C (.ref 165) := .inr (.inr (f.k ▸ k_levenshtein_distance))
theorem k_substitution_cost : keepIn (hd.heap_1 P) (.ref 158) = true := by k_is
theorem g_substitution_cost : nsIn (hd.heap_1 P) mainGlobals (Str.ofString "_substitution_cost") = some (some (.ref 158)) := by k_is
theorem Fr.substitution_cost (f : Fr C names P) {pos : Pos} (hx : names.lookup (Str.ofString "_substitution_cost") = some .globalImplicit) : PV C ks l μ (.Name (Str.ofString "_substitution_cost") pos) (.val (.ref 158)) := f.glob g_substitution_cost hx rfl
theorem Fr.kp_substitution_cost (f : Fr C names P) : Keepy C (.ref 158) := .inr (.inr (f.k ▸ k_substitution_cost))
theorem k_law_folders : keepIn (hd.heap_1 P) (.ref 172) = true := by k_is
theorem g_law_folders : nsIn (hd.heap_1 P) mainGlobals (Str.ofString "_law_folders") = some (some (.ref 172)) := by k_is
theorem Fr.law_folders (f : Fr C names P) {pos : Pos} (hx : names.lookup (Str.ofString "_law_folders") = some .globalImplicit) : PV C ks l μ (.Name (Str.ofString "_law_folders") pos) (.val (.ref 172)) := f.glob g_law_folders hx rfl
theorem Fr.kp_law_folders (f : Fr C names P) : Keepy C (.ref 172) := .inr (.inr (f.k ▸ k_law_folders))
theorem k_law_order : keepIn (hd.heap_1 P) (.ref 177) = true := by k_is
theorem g_law_order : nsIn (hd.heap_1 P) mainGlobals (Str.ofString "_law_order") = some (some (.ref 177)) := by k_is
theorem Fr.law_order (f : Fr C names P) {pos : Pos} (hx : names.lookup (Str.ofString "_law_order") = some .globalImplicit) : PV C ks l μ (.Name (Str.ofString "_law_order") pos) (.val (.ref 177)) := f.glob g_law_order hx rfl
theorem Fr.kp_law_order (f : Fr C names P) : Keepy C (.ref 177) := .inr (.inr (f.k ▸ k_law_order))
theorem k_law_pieces : keepIn (hd.heap_1 P) (.ref 184) = true := by k_is
theorem g_law_pieces : nsIn (hd.heap_1 P) mainGlobals (Str.ofString "_law_pieces") = some (some (.ref 184)) := by k_is
theorem Fr.law_pieces (f : Fr C names P) {pos : Pos} (hx : names.lookup (Str.ofString "_law_pieces") = some .globalImplicit) : PV C ks l μ (.Name (Str.ofString "_law_pieces") pos) (.val (.ref 184)) := f.glob g_law_pieces hx rfl
theorem Fr.kp_law_pieces (f : Fr C names P) : Keepy C (.ref 184) := .inr (.inr (f.k ▸ k_law_pieces))
theorem g_MOVE_COST : nsIn (hd.heap_1 P) mainGlobals (Str.ofString "_MOVE_COST") = some (some (.int 2 363)) := by k_is
theorem Fr.MOVE_COST (f : Fr C names P) {pos : Pos} (hx : names.lookup (Str.ofString "_MOVE_COST") = some .globalImplicit) : PV C ks l μ (.Name (Str.ofString "_MOVE_COST") pos) (.int 2) := f.globI g_MOVE_COST hx rfl
theorem g_CASE_COST : nsIn (hd.heap_1 P) mainGlobals (Str.ofString "_CASE_COST") = some (some (.int 1 365)) := by k_is
theorem Fr.CASE_COST (f : Fr C names P) {pos : Pos} (hx : names.lookup (Str.ofString "_CASE_COST") = some .globalImplicit) : PV C ks l μ (.Name (Str.ofString "_CASE_COST") pos) (.int 1) := f.globI g_CASE_COST hx rfl
theorem g_MAX_STRING_SIZE : nsIn (hd.heap_1 P) mainGlobals (Str.ofString "_MAX_STRING_SIZE") = some (some (.int 40 361)) := by k_is
theorem Fr.MAX_STRING_SIZE (f : Fr C names P) {pos : Pos} (hx : names.lookup (Str.ofString "_MAX_STRING_SIZE") = some .globalImplicit) : PV C ks l μ (.Name (Str.ofString "_MAX_STRING_SIZE") pos) (.int 40) := f.globI g_MAX_STRING_SIZE hx rfl
theorem g_EMPTYSTRING : nsIn (hd.heap_1 P) mainGlobals (Str.ofString "EMPTYSTRING") = some (some (.str (Str.ofString "") 213)) := by k_is
end
theorem c_257 : Str.ofString "257" = S [50, 53, 55] := by decide
theorem c_spq : Str.ofString " \"" = S [32, 34] := by decide
theorem c_0 : Str.ofString "" = S [] := by decide
theorem c_q : Str.ofString "\"" = S [34] := by decide
theorem c_sl : Str.ofString "/" = S [47] := by decide
theorem c_abc : Str.ofString "abcde" = S [97, 98, 99, 100, 101] := by decide
theorem c_00 : Str.ofString "00" = S [48, 48] := by decide
theorem c_m11 : Str.ofString "-11" = S [45, 49, 49] := by decide
theorem c_257q : Str.ofString "257 \"" = S [50, 53, 55, 32, 34] := by decide
theorem Fr.EMPTYSTRING {C : Cx} {names : List (Str × NameKind)} {P : Params} {ks : List Str} {l : List (Option V)} {μ : Mem} (f : Fr C names P) {pos : Pos} (hx : names.lookup (Str.ofString "EMPTYSTRING") = some .globalImplicit) : PV C ks l μ (.Name (Str.ofString "EMPTYSTRING") pos) (.str (S [])) := c_0 ▸ f.globS g_EMPTYSTRING hx rfl
-- M15
theorem cf_acc : ∀ (names : List (Str × NameKind)) (n : Nat) (acc : List (Str × Addr)) (x : Str), (acc.lookup x).isSome = true → ((cellsFrom n names acc).lookup x).isSome = true
  | [], n, acc, x, h => h
  | (name, kind) :: r, n, acc, x, h => by
    unfold cellsFrom
    split
    · refine cf_acc r _ _ x ?_
      rw [List.lookup_cons]
      split
      · rfl
      · exact h
    · exact cf_acc r _ _ x h
theorem cf_some : ∀ (names : List (Str × NameKind)) (n : Nat) (acc : List (Str × Addr)) (x : Str), names.lookup x = some .cell → ((cellsFrom n names acc).lookup x).isSome = true
  | [], n, acc, x, h => by simp at h
  | (name, kind) :: r, n, acc, x, h => by
    rw [List.lookup_cons] at h
    unfold cellsFrom
    cases hx : x == name with
    | true =>
      rw [hx] at h
      obtain rfl : kind = .cell := Option.some.inj h
      rw [if_pos (by rfl)]
      refine cf_acc r _ _ x ?_
      rw [List.lookup_cons, hx]
      rfl
    | false =>
      rw [hx] at h
      split
      · exact cf_some r _ _ x h
      · exact cf_some r _ _ x h
theorem bindL_off {k : Str → Option NameKind} {x : Str} : ∀ {ns : List Str} {us : List Value} {m : Str → Option Value}, x ∉ ns → bindL k (ns.zip us) m x = m x
  | [], _, m, h => rfl
  | n :: ns, [], m, h => rfl
  | n :: ns, u :: us, m, h => by
    rw [List.zip_cons_cons]; unfold bindL
    rw [bindL_off (fun q => h (.tail _ q))]
    split
    · show (if x = n then some u else m x) = m x
      rw [if_neg (fun q : x = n => h (by rw [q]; exact .head _))]
    · rfl
theorem bindC_off {k : Str → Option NameKind} {x : Str} : ∀ {ns : List Str} {us : List Value} {m : Str → Option Value}, x ∉ ns → bindC k (ns.zip us) m x = m x
  | [], _, m, h => rfl
  | n :: ns, [], m, h => rfl
  | n :: ns, u :: us, m, h => by
    rw [List.zip_cons_cons]; unfold bindC
    rw [bindC_off (fun q => h (.tail _ q))]
    split
    · rfl
    · show (if x = n then some u else m x) = m x
      rw [if_neg (fun q : x = n => h (by rw [q]; exact .head _))]
theorem bindL_get {k : Str → Option NameKind} {x : Str} {u : Value} (hk : k x = some .local) : ∀ {ns : List Str} {us : List Value} {m : Str → Option Value} {i : Nat}, ns.Nodup → ns[i]? = some x → us[i]? = some u → bindL k (ns.zip us) m x = some u
  | [], _, m, i, _, h, _ => by simp at h
  | n :: ns, [], m, i, _, _, h => by simp at h
  | n :: ns, v :: us, m, 0, nd, h, hu => by
    simp at h hu; subst h hu
    rw [List.zip_cons_cons]; unfold bindL
    rw [bindL_off (List.nodup_cons.mp nd).1, if_pos hk, if_pos rfl]
  | n :: ns, v :: us, m, i + 1, nd, h, hu => by
    rw [List.zip_cons_cons]; unfold bindL
    exact bindL_get hk (List.nodup_cons.mp nd).2 (by simpa using h) (by simpa using hu)
theorem bindC_get {k : Str → Option NameKind} {x : Str} {u : Value} (hk : k x ≠ some .local) : ∀ {ns : List Str} {us : List Value} {m : Str → Option Value} {i : Nat}, ns.Nodup → ns[i]? = some x → us[i]? = some u → bindC k (ns.zip us) m x = some u
  | [], _, m, i, _, h, _ => by simp at h
  | n :: ns, [], m, i, _, _, h => by simp at h
  | n :: ns, v :: us, m, 0, nd, h, hu => by
    simp at h hu; subst h hu
    rw [List.zip_cons_cons]; unfold bindC
    rw [bindC_off (List.nodup_cons.mp nd).1, if_neg hk, if_pos rfl]
  | n :: ns, v :: us, m, i + 1, nd, h, hu => by
    rw [List.zip_cons_cons]; unfold bindC
    exact bindC_get hk (List.nodup_cons.mp nd).2 (by simpa using h) (by simpa using hu)
structure CellsOk (D : Cx) (names : List (Str × NameKind)) : Prop where
  look : ∀ x, names.lookup x = some .cell → ∃ c, D.env.cells.lookup x = some c
  wr : ∀ x, names.lookup x = some .cell → D.wr x = true
  nd : (D.env.cells.map (·.1)).Nodup
section
variable {C : Cx} {names : List (Str × NameKind)} {P : Params} {ks : List Str} {l l' : List (Option V)} {μ μ' : Mem} {h₀ : Heap} {s : Shared}
theorem Fr.stoC (f : Fr C names P) (c : CellsOk C names) {x : Str} (e : names.lookup x = some .cell) (hx : (x == ("__classdict__" : Str)) = false) : Sto C x := .inr ⟨f.kind e, hx, c.look x e, c.wr x e, c.nd⟩
noncomputable def calleeC (C : Cx) (fd : FuncData) (f L : Addr) (old : List (Addr × Ob)) : Cx := { C with A := C.A.deeper (callEnvC fd L f), env := callEnvC fd L f, old := old, wr := fun x => fd.scope.names.lookup x == some .cell }
theorem call_frC {n : Nat} {f : Addr} {fd : FuncData} {body : List Stmt} {oc : Value} {od : Option Addr} {osl : Array (Option Value)} (rm : Room C P (n + 1)) (ns rest : List Str) (names : List (Str × NameKind)) {vs : List V} {Φ : V → Mem → Prop} (old : List (Addr × Ob))
    (hK : (hd.heap_1 P).lookup f = some ⟨oc, od, .func fd, osl⟩) (hbody : fd.body = .stmts body) (hcd : codeIn (hd.heap_1 P) fd.code fd.qualname = true) (hnames : fd.scope.names = names)
    (hlen : ns.length = vs.length) (hns : ns.Nodup) (hold : ∀ p ∈ old, Has C μ p.1 p.2)
    (hbind : ∀ us : List Value, us.length = vs.length → bindArgs fd ⟨us, []⟩ = pure (ns.zip us)) (hloc : ∀ x ∈ ns, names.lookup x = some .local ∨ (names.lookup x = some .cell ∧ (x == ("__classdict__" : Str)) = false))
    (hclos : fd.closure = []) (hcnd : ((cellsFrom 0 names []).map (·.1)).Nodup)
    (hco : fd.scope.isCoroutine = false) (hgen : fd.scope.isGenerator = false) (hk : fd.scope.kind = .function) (hgl : fd.globals = mainGlobals) (hbl : fd.builtins = builtinsNs)
    (hx : ∀ D : Cx, Fr D names P → CellsOk D names → Room D P n → D.old = old → EX D (ns ++ rest) (startLocs rest.length vs) [] body fun fl l' μ' => ∃ ν, List.Sublist ν μ' ∧ Φ (match fl with | .ret v => v | _ => .none) (ν ++ μ)) :
    OPK C ks l μ (.ref f) vs Φ := fun h₀ s us R y Q E q => by
  have dp := rm.depth
  have un := rm.units
  subst hnames
  have hX : C.K.In s.heap := R.inK.keeps R.keep
  have hT := R.top.keeps R.keep
  have hl : us.length = vs.length := y.length.symm
  have okc : (calleeC C fd f s.heap.objs.size old).Ok := ⟨hk, hgl, hbl, rm.ok.hand, by show C.A.depth + 1 < 800; omega, by show C.A.units + 3 < 2000; omega⟩
  have hD : Fr (calleeC C fd f s.heap.objs.size old) fd.scope.names P := ⟨okc, rfl, rm.k⟩
  have cnd : ∀ n, ((cellsFrom n fd.scope.names []).map (·.1)).Nodup := fun n => cellsFrom_names fd.scope.names 0 n [] [] rfl ▸ hcnd
  have hC : CellsOk (calleeC C fd f s.heap.objs.size old) fd.scope.names := ⟨fun x e => Option.isSome_iff_exists.mp (cf_some _ _ _ x e), fun x e => by show (fd.scope.names.lookup x == some .cell) = true; rw [e]; rfl, cnd _⟩
  refine wpAny_call (codeAny_call_cells (by show C.A.depth < 1000; omega) (hX _ _ (rm.k ▸ hK)) rfl hT.nolimit (codeRec_of hX (rm.k ▸ hcd)) hbody (hbind us hl) hclos (fun x hx => ?_) (fun s₁ x => ?_) hco hgen hk)
  · rcases hloc x.1 (List.of_mem_zip hx).1 with h | ⟨h, _⟩
    · exact .inl h
    · exact .inr ⟨h, cf_some _ _ _ _ h⟩
  obtain ⟨h₁, tk, rfl, k⟩ := x.done
  have R' : Rel (calleeC C fd f s.heap.objs.size old) (ns ++ rest) (startLocs rest.length vs) [] s.heap { s with heap := h₁, toks := tk } := by
    refine ⟨⟨_, x.toInCall.ns, fun z v hk' => ?_⟩, k, (fun p hp => nomatch hp), ?_, none_size _, ?_, R.bare, R.os, hX, hT, fun p hp => R.has (hold p hp), (fun a q => let ⟨o, e⟩ := R.off a q; ⟨o, k _ _ e⟩)⟩
    · obtain ⟨i, a, b⟩ := lk_start (ns := ns) hlen hk'
      obtain ⟨u, hu, r⟩ := y.get b
      have hm : z ∈ ns := List.mem_of_getElem? a
      rcases hloc z hm with h | ⟨h, hcd⟩
      · exact .inl ⟨h, u, bindL_get h hns a hu, r.mono (.of_keep k)⟩
      · obtain ⟨c, hc⟩ := hC.look z h
        refine .inr ⟨.inl h, hcd, c, u, hc, ?_, r.mono (.of_keep k)⟩
        have := x.cell z c hc
        rw [bindC_get (by show fd.scope.names.lookup z ≠ _; rw [h]; decide) hns a hu] at this
        exact this
    · show (s.heap.objs.size :: ((callEnvC fd s.heap.objs.size f).cells.map (·.2) ++ [])).Nodup
      rw [List.append_nil, List.nodup_cons]
      refine ⟨fun q => ?_, ?_⟩
      · obtain ⟨p, hp, e⟩ := List.mem_map.mp q
        have := x.above p.1 p.2 hp
        rw [e] at this
        exact Nat.lt_irrefl _ this
      · exact List.pairwise_map.mpr x.apart
    · intro p hp
      refine ⟨⟨_, x.cell p.1 p.2 (lookup_of_mem_nodup (cnd _) hp)⟩, fun _ => ?_⟩
      exact Heap.get?_none_of_le (Nat.le_of_lt (x.above p.1 p.2 hp))
  refine hx _ hD hC (hD.room (by show C.A.depth + 1 + n < 700; omega) (by show C.A.units + 3 + 3 * n < 1900; omega)) rfl s.heap _ R' _ _ fun fl l' μ' flw s' p t r z => ?_
  obtain ⟨ν, hν, hΦ⟩ := p
  have kp : ∀ b o, s.heap.get? b = some o → s'.heap.get? b = some o := r.keep
  have Rc := R.keepsG (s' := s') kp r.bare (r.os.trans R.os.symm)
  have Ra : Rel C ks l (ν ++ μ) h₀ s' := by
    refine Rc.adopt (fun p hp => ?_) ?_
    · obtain ⟨a, b⟩ := r.mem p (hν.subset hp)
      exact ⟨a, R.new_ne b, R.new0 b⟩
    · exact List.Nodup.sublist (hν.map _) r.ndm
  have tk : TK C.H s.heap s'.heap := .of_keep kp
  cases z with
  | next => exact q _ _ _ s' hΦ tk Ra .none
  | brk => exact q _ _ _ s' hΦ tk Ra .none
  | ret z => exact q _ _ _ s' hΦ tk Ra z
end
-- M16
/-! sorted -/
noncomputable def kasRun (sg : List Nat) {α : Type} : KasT α → Option α
  | .ret a => some a
  | .ask i j k => if i < sg.length ∧ j < sg.length ∧ sg.getD i 0 ≠ sg.getD j 0 then kasRun sg (k (decide (sg.getD i 0 < sg.getD j 0))) else none
theorem kasRun_wp {sg : List Nat} {α : Type} {cmp : Nat → Nat → (Bool → Shared → Prop) → Shared → Prop} {Q : α → Shared → Prop} {s : Shared} {a : α} (hq : Q a s)
    (hc : ∀ i j Q, i < sg.length → j < sg.length → sg.getD i 0 ≠ sg.getD j 0 → Q (decide (sg.getD i 0 < sg.getD j 0)) s → cmp i j Q s) : ∀ {t : KasT α}, kasRun sg t = some a → t.kasWp cmp Q s
  | .ret b, h => by
    obtain rfl : b = a := Option.some.inj h
    exact hq
  | .ask i j k, h => by
    rw [kasRun] at h
    split at h
    · rename_i c
      exact hc i j _ c.1 c.2.1 c.2.2 (kasRun_wp hq hc h)
    · cases h
noncomputable def kv (q : Nat × Nat) : V := .tup [.str (S [q.1]), .int q.2]
noncomputable def heapAll (h : Heap) (L : Addr) : List (Addr × Obj) := ((List.range h.objs.size).filterMap fun b => (h.get? b).map fun o => (b, o)).filter fun p => p.1 != L
theorem heapAll_mem {h : Heap} {L : Addr} {p : Addr × Obj} : p ∈ heapAll h L ↔ h.get? p.1 = some p.2 ∧ p.1 ≠ L := by
  unfold heapAll
  rw [List.mem_filter, List.mem_filterMap]
  constructor
  · rintro ⟨⟨b, _, e⟩, n⟩
    cases q : h.get? b with
    | none => rw [q] at e; simp at e
    | some o =>
      rw [q] at e
      obtain rfl : (b, o) = p := Option.some.inj e
      exact ⟨q, by simpa using n⟩
  · rintro ⟨e, n⟩
    refine ⟨⟨p.1, List.mem_range.mpr (Heap.lt_size e), by rw [e]; rfl⟩, by simpa using n⟩
theorem VRs.getD {H : Addr → Prop} {h : Heap} : ∀ {l : List V} {vs : List Value}, VRs H h l vs → ∀ i, VR H h (l.getD i .none) (vs.getD i .none)
  | _, _, .nil, i => by simpa using VR.none
  | _, _, .cons a r, 0 => a
  | _, _, .cons a r, i + 1 => by simpa using VRs.getD r i
theorem VRs.pick {H : Addr → Prop} {h : Heap} {l : List V} {vs : List Value} (r : VRs H h l vs) : ∀ (p : List Nat), VRs H h (p.map fun i => l.getD i .none) (p.map fun i => vs.getD i .none)
  | [] => .nil
  | i :: p => .cons (r.getD i) (VRs.pick r p)
section
variable {C : Cx} {ks : List Str} {l l' : List (Option V)} {μ μ' : Mem} {h₀ : Heap} {s : Shared}
theorem kids_tups {H : Addr → Prop} {h : Heap} : ∀ {kids : List (Nat × Nat)} {vs : List Value}, VRs H h (kids.map kv) vs → ∃ fs : List Value, KatTups h vs fs ∧ fs.length = kids.length ∧ ∀ v ∈ fs, ∃ x t, v = .str x t
  | [], _, .nil => ⟨[], .nil, rfl, fun _ h => nomatch h⟩
  | q :: kids, _, .cons a r => by
    obtain ⟨fs, kt, kl, kf⟩ := kids_tups r
    obtain ⟨b, vs, n, rfl, hb, r'⟩ := VR.tup_inv a
    cases r' with
    | cons y r2 =>
      obtain ⟨t, rfl⟩ := y.str_inv
      refine ⟨.str (S [q.1]) t :: fs, .cons hb rfl rfl (by simp) kt, by simp [kl], fun v hv => ?_⟩
      rcases List.mem_cons.mp hv with rfl | hv
      · exact ⟨_, _, rfl⟩
      · exact kf v hv
theorem OPK_sortedT {a : Addr} {kids : List (Nat × Nat)} {p : Array Nat} {Φ : V → Mem → Prop} (hm : Has C μ a (.lst (kids.map kv))) (h2 : 2 ≤ kids.length) (h64 : kids.length < 64) (hp : kasRun (kids.map (·.1)) (kas_sort kids.length) = some p)
    (h : ∀ D, Φ (.val (.ref D)) ((D, .lst (p.toList.map fun i => (kids.map kv).getD i .none)) :: μ)) : OPK C ks l μ (.builtin "sorted") [.val (.ref a)] Φ := fun h₀ s us R y Q E q => by
  cases y with
  | cons y r =>
    cases r; cases y
    obtain ⟨vs, n, ho, r⟩ := (R.has hm).list
    have hvl : vs.length = kids.length := by rw [← r.length, List.length_map]
    obtain ⟨m, hns, hbd⟩ := R.ns
    have F : PyProof.Rows.Fr ({} : Heap) C.env.locals s.heap m := ⟨hns, fun b o e => by simp [Heap.get?] at e, Nat.zero_le _⟩
    have N : News ({} : Heap) C.env.locals s.heap (heapAll s.heap C.env.locals) := fun p hp => ⟨(heapAll_mem.mp hp).1, (heapAll_mem.mp hp).2, by simp [Heap.get?]⟩
    refine kat_sorted F N (isList_of ho) (by omega) (by omega) fun D e1 h' F' N' hD => ?_
    have kp : ∀ b o, b ≠ C.env.locals → s.heap.get? b = some o → h'.get? b = some o := fun b o n e => (N' (b, o) (.tail _ (heapAll_mem.mpr ⟨e, n⟩))).1
    have tkL : ∀ {h'' : Heap}, (∀ b o, b ≠ C.env.locals → s.heap.get? b = some o → h''.get? b = some o) → TK C.H s.heap h'' := fun {h''} kp b ws k _ e => kp b _ (fun q => by
      subst q
      obtain ⟨o, es, ep, x, rr⟩ := hns
      rw [e] at x; cases x; simp at rr) e
    have r1 := r.mono (tkL kp)
    obtain ⟨fs, kt, kl, kf⟩ := kids_tups r1
    refine kat_kind (T := .type "str") kt (by omega) (fun v hv => by obtain ⟨x, t, rfl⟩ := kf v hv; exact Looks.of_pure rfl) (by decide) ?_
    rw [← hvl] at hp
    refine kasRun_wp ?_ (fun i j Q' hi hj hne hq => ?_) hp
    · refine KasFin.intro F' N' (.head fun q hq => Nat.ne_of_lt (hD q hq)) fun h'' c F'' N'' => ?_
      have kp2 : ∀ b o, b ≠ C.env.locals → s.heap.get? b = some o → h''.get? b = some o := fun b o n e => (N'' (b, o) (.tail _ (heapAll_mem.mpr ⟨e, n⟩))).1
      have t2 := tkL kp2
      have hDN := N'' (D, _) (.head _)
      have nD : ∀ b o, b ≠ C.env.locals → s.heap.get? b = some o → b ≠ D := fun b o n e => Nat.ne_of_lt (hD (b, o) (heapAll_mem.mpr ⟨e, n⟩))
      have nd := R.nd
      have R' : Rel C ks l μ h₀ { s with heap := h'' } := by
        refine ⟨⟨m, F''.ns, fun x v hx => (hbd x v hx).mono t2 fun c u e i => ?_⟩, fun b o e => kp2 b o (fun q => by rw [q, R.l0] at e; cases e) (R.keep b o e), fun p hp => ⟨?_, (R.mem p hp).2⟩, R.nd, R.l0, fun p hp => ⟨?_, (R.cells p hp).2⟩, R.bare, R.os, R.inK, R.top, R.old, fun a q => ?_⟩
        rotate_left 3
        · obtain ⟨o, e⟩ := R.off a q
          by_cases n : a = C.env.locals
          · subst n
            obtain ⟨o, _, _, e, _⟩ := F''.ns
            exact ⟨o, e⟩
          · exact ⟨o, kp2 a o n e⟩
        · obtain ⟨o, ho, hd⟩ := i
          exact ⟨o, kp2 _ _ (fun q => (List.nodup_cons.mp nd).1 (List.mem_append_left _ (q ▸ List.mem_map_of_mem (f := fun x : Str × Addr => x.2) (lookup_mem e)))) ho, hd⟩
        · obtain ⟨o, ho, hr⟩ := (R.mem p hp).1
          exact ⟨o, kp2 _ _ (fun q => (List.nodup_cons.mp nd).1 (List.mem_append_right _ (q ▸ List.mem_map_of_mem (f := fun x : Addr × Ob => x.1) hp))) ho, hr.mono t2⟩
        · obtain ⟨v, o, ho, hd⟩ := (R.cells p hp).1
          exact ⟨v, o, kp2 _ _ (fun q => (List.nodup_cons.mp nd).1 (List.mem_append_left _ (q ▸ List.mem_map_of_mem (f := fun x : Str × Addr => x.2) hp))) ho, hd⟩
      have R'' := R'.grow (a := D) (b := .lst (p.toList.map fun i => (kids.map kv).getD i .none)) ⟨_, hDN.1, .lst ((r.mono t2).pick _)⟩ (fun q => by
        rcases List.mem_cons.mp q with q | q
        · exact hDN.2.1 q
        · rcases List.mem_append.mp q with q | q
          · obtain ⟨p, hp, e⟩ := List.mem_map.mp q
            obtain ⟨v, o, ho, hd⟩ := (R.cells p hp).1
            exact nD _ _ (fun q => (List.nodup_cons.mp nd).1 (List.mem_append_left _ (q ▸ List.mem_map_of_mem (f := fun x : Str × Addr => x.2) hp))) ho e
          · obtain ⟨p, hp, e⟩ := List.mem_map.mp q
            obtain ⟨o, ho, hr⟩ := (R.mem p hp).1
            exact nD _ _ (fun q => (List.nodup_cons.mp nd).1 (List.mem_append_right _ (q ▸ List.mem_map_of_mem (f := fun x : Addr × Ob => x.1) hp))) ho e) (by
        cases e : h₀.get? D with
        | none => rfl
        | some o => exact absurd rfl (nD D o hDN.2.1 (R.keep _ _ e)))
      exact q _ _ _ _ (h D) t2 R'' (.val _)
    · rw [List.length_map] at hi hj
      obtain ⟨ki, hki⟩ : ∃ k, kids[i]? = some k := ⟨_, List.getElem?_eq_getElem hi⟩
      obtain ⟨kj, hkj⟩ : ∃ k, kids[j]? = some k := ⟨_, List.getElem?_eq_getElem hj⟩
      obtain ⟨v, hv, yv⟩ := r1.get (i := i) (x := kv ki) (by simp [hki])
      obtain ⟨w, hw, yw⟩ := r1.get (i := j) (x := kv kj) (by simp [hkj])
      obtain ⟨b, ws, n1, rfl, hb, r2⟩ := VR.tup_inv yv
      obtain ⟨c, ws', n2, rfl, hc, r3⟩ := VR.tup_inv yw
      have ei : (kids.map (·.1)).getD i 0 = ki.1 := by simp [List.getD, hki]
      have ej : (kids.map (·.1)).getD j 0 = kj.1 := by simp [List.getD, hkj]
      rw [ei, ej] at hne hq
      have evi : vs.getD i Value.none = .ref b := by simp [List.getD, hv]
      have evj : vs.getD j Value.none = .ref c := by simp [List.getD, hw]
      unfold kas_ask
      rw [evi, evj]
      cases r2 with
      | cons a1 r2 => cases r2 with
        | cons a2 r2 => cases r2 with
          | nil =>
            cases r3 with
            | cons b1 r3 => cases r3 with
              | cons b2 r3 => cases r3 with
                | nil =>
                  obtain ⟨t1, rfl⟩ := a1.str_inv
                  obtain ⟨t2, rfl⟩ := b1.str_inv
                  refine kat_lt hb rfl hc rfl (kat_cons (wpAny_eqBool_str ?_))
                  have : decide (S [ki.1] = S [kj.1]) = false := by
                    rw [decide_eq_false_iff_not, S_inj]
                    intro e; exact hne (by simpa using e)
                  rw [this]
                  refine kat_no ?_
                  show wpAny _ _ (oneLt' true _ _) _ _ _
                  refine oneLt_str ?_
                  have e : decide ((S [ki.1]).cps.toList < (S [kj.1]).cps.toList) = decide (ki.1 < kj.1) := by
                    rw [S_cps, S_cps, Bool.eq_iff_iff]
                    simp [List.cons_lt_cons_iff]
                  rw [e]
                  exact hq
end
-- M17
/-! a tuple that the interpreter writes on: hidden from our values -/
mutual
theorem VR.weaken {H H' : Addr → Prop} (k : ∀ a, H a → H' a) {h : Heap} : ∀ {x : V} {v : Value}, VR H h x v → VR H' h x v
  | _, _, .none => .none
  | _, _, .bool b => .bool b
  | _, _, .int i t => .int i t
  | _, _, .str x t => .str x t
  | _, _, .val v => .val v
  | _, _, .tup q e r => .tup (k _ q) e (VRs.weaken k r)
theorem VRs.weaken {H H' : Addr → Prop} (k : ∀ a, H a → H' a) {h : Heap} : ∀ {l : List V} {vs : List Value}, VRs H h l vs → VRs H' h l vs
  | _, _, .nil => .nil
  | _, _, .cons a r => .cons (VR.weaken k a) (VRs.weaken k r)
end
mutual
theorem VR.strong {H H' : Addr → Prop} {h : Heap} (k : ∀ a o, h.get? a = some o → H a → H' a) : ∀ {x : V} {v : Value}, VR H h x v → VR H' h x v
  | _, _, .none => .none
  | _, _, .bool b => .bool b
  | _, _, .int i t => .int i t
  | _, _, .str x t => .str x t
  | _, _, .val v => .val v
  | _, _, .tup q e r => .tup (k _ _ e q) e (VRs.strong k r)
theorem VRs.strong {H H' : Addr → Prop} {h : Heap} (k : ∀ a o, h.get? a = some o → H a → H' a) : ∀ {l : List V} {vs : List Value}, VRs H h l vs → VRs H' h l vs
  | _, _, .nil => .nil
  | _, _, .cons a r => .cons (VR.strong k a) (VRs.strong k r)
end
theorem OR.strong {H H' : Addr → Prop} {h : Heap} (k : ∀ a o, h.get? a = some o → H a → H' a) {b : Ob} {o : Obj} (x : OR H h b o) : OR H' h b o := by
  cases x with
  | lst r => exact .lst (r.strong k)
  | acc r => exact .acc (r.strong k)
  | exact => exact .exact _
  | prop q => exact .prop q
  | rng => exact .rng
noncomputable def Cx.hide (C : Cx) (H : Addr → Prop) : Cx := { C with H := H }
section
variable {C : Cx} {ks : List Str} {l l' : List (Option V)} {μ μ' : Mem} {h₀ : Heap} {s : Shared}
theorem Bd.strong {H : Addr → Prop} {m : Str → Option Value} {h : Heap} {x : Str} {v : V} (k : ∀ a o, h.get? a = some o → C.H a → H a) (b : Bd C m h x v) : Bd (C.hide H) m h x v := by
  rcases b with ⟨a, u, e, r⟩ | ⟨a, n, c, u, e, i, r⟩
  · exact .inl ⟨a, u, e, r.strong k⟩
  · exact .inr ⟨a, n, c, u, e, i, r.strong k⟩
/-- another set of hidden tuples, the heap the same -/
theorem Rel.hide (R : Rel C ks l μ h₀ s) {H : Addr → Prop} (k : ∀ a o, s.heap.get? a = some o → C.H a → H a) (off : ∀ a, ¬ H a → ∃ o, s.heap.get? a = some o) : Rel (C.hide H) ks l μ h₀ s where
  ns := let ⟨m, n, b⟩ := R.ns; ⟨m, n, fun x v q => (b x v q).strong k⟩
  keep := R.keep
  mem := fun p hp => ⟨let ⟨o, e, r⟩ := (R.mem p hp).1; ⟨o, e, r.strong k⟩, (R.mem p hp).2⟩
  nd := R.nd
  l0 := R.l0
  cells := R.cells
  bare := R.bare
  os := R.os
  inK := R.inK
  top := R.top
  old := fun p hp => let ⟨o, e, r⟩ := R.old p hp; ⟨o, e, r.strong fun a o e => k a o (R.keep _ _ e)⟩
  off := off
/-- the heap turned outside, one tuple hidden no more or one more -/
theorem Rel.otherH (R : Rel C ks l μ h₀ s) {H : Addr → Prop} {fp : List Addr} (hf : ∀ b ∈ fp, b ∉ C.env.locals :: (C.env.cells.map (·.2) ++ μ.map (·.1)) ∧ h₀.get? b = none) {h' : Heap} {tk : Nat} (k : ∀ b o, b ∉ fp → s.heap.get? b = some o → h'.get? b = some o) (t : TK C.H s.heap h')
    (w : ∀ a o, h'.get? a = some o → C.H a → H a) (w₀ : ∀ a o, h₀.get? a = some o → C.H a → H a) (off : ∀ a, ¬ H a → ∃ o, h'.get? a = some o) : Rel (C.hide H) ks l μ h₀ { s with heap := h', toks := tk } where
  ns := by
    obtain ⟨m, n, b⟩ := R.ns
    have hL : C.env.locals ∉ fp := fun q => (hf _ q).1 (.head _)
    refine ⟨m, n.at fun o e => k _ _ hL e, fun x v q => Bd.strong w ((b x v q).mono t fun c u e i => ?_)⟩
    obtain ⟨o, ho, hd⟩ := i
    exact ⟨o, k _ _ (fun q => (hf _ q).1 (.tail _ (List.mem_append_left _ (List.mem_map_of_mem (f := fun x : Str × Addr => x.2) (lookup_mem e))))) ho, hd⟩
  keep := fun b o e => k b o (fun q => by rw [(hf _ q).2] at e; cases e) (R.keep b o e)
  mem := fun p hp => ⟨by
    obtain ⟨o, ho, r⟩ := (R.mem p hp).1
    exact ⟨o, k _ _ (fun q => (hf _ q).1 (.tail _ (List.mem_append_right _ (List.mem_map_of_mem (f := fun x : Addr × Ob => x.1) hp)))) ho, (r.mono t).strong w⟩, (R.mem p hp).2⟩
  nd := R.nd
  l0 := R.l0
  cells := fun p hp => ⟨by
    obtain ⟨v, o, ho, hd⟩ := (R.cells p hp).1
    exact ⟨v, o, k _ _ (fun q => (hf _ q).1 (.tail _ (List.mem_append_left _ (List.mem_map_of_mem (f := fun x : Str × Addr => x.2) hp)))) ho, hd⟩, (R.cells p hp).2⟩
  bare := R.bare
  os := R.os
  inK := R.inK
  top := R.top
  old := fun p hp => let ⟨o, e, r⟩ := R.old p hp; ⟨o, e, r.strong w₀⟩
  off := off
/-- a call, what comes behind it free -/
theorem eval_callRaw {f : Expr} {e : Expr} {es : List Expr} {pos : Pos} {g : Value} {Q E : Value → Shared → Prop} (R : Rel C ks l μ h₀ s) (hf : PV C ks l μ f (.val g)) (kp : Keepy C g)
    (h : ES C ks l μ pos (e :: es) fun vs μ' => ∀ s' us, TK C.H s.heap s'.heap → Rel C ks l μ' h₀ s' → VRs C.H s'.heap vs us → wpAny (model C.prog C.w) C.A (call g us) Q E s')
    (hp : (backTo pos (starEach (e :: es) C.env)).any (·.1) = false) (he : starEach (e :: es) C.env = (false, eval e C.env) :: starEach es C.env)
    (hc : eval (.Call f (e :: es) [] pos) C.env = (do callWith pos (← eval f C.env) [] (backTo pos (starEach (e :: es) C.env)) (backToKw pos (keywordEach [] C.env)))) : wpAny (model C.prog C.w) C.A (eval (.Call f (e :: es) [] pos) C.env) Q E s := by
  rw [hc]
  refine wpAny_bind (hf h₀ s R _ E fun v μ' u s' p t r y => ?_)
  obtain ⟨rfl, rfl⟩ := p
  cases y
  refine callWith_of (P := fun h => C.K.In h) (by rw [hp]; rfl) (fun h X => kp.keeper h X) ?_
  have fin : wpAny (model C.prog C.w) C.A (spliced (backTo pos (starEach (e :: es) C.env))) (fun vs s' => C.K.In s'.heap ∧ wpAny (model C.prog C.w) C.A (call g ([] ++ vs) []) Q E s') E s' := by
    refine h h₀ s' r _ E fun vs μ' us s'' p t' r' y => ⟨r'.inK.keeps r'.keep, ?_⟩
    exact p s'' us (t.trans t') r' y
  rw [he] at fin ⊢
  exact Calls.evalArgs_plain fin
/-- for … in zip(two lists) -/
theorem E1_forZip {elts : List Expr} {kt : Nat} {tpos : Pos} {zf e₁ e₂ : Expr} {zpos : Pos} {body : List Stmt} {pos : Pos} {Ψ : Fl → List (Option V) → Mem → Prop} {xs ys : List V} {a b : Addr} (ok : C.Ok) (Inv : Nat → List (Option V) → Mem → Prop)
    (hf : PV C ks l μ zf (.val (.type "zip"))) (h1 : PV C ks l μ e₁ (.val (.ref a))) (h2 : PV C ks l μ e₂ (.val (.ref b))) (ha : Has C μ a (.lst xs)) (hb : Has C μ b (.lst ys)) (hl : xs.length = ys.length) (start : Inv 0 l μ)
    (hp : (backTo zpos (starEach [e₁, e₂] C.env)).any (·.1) = false) (he₁ : starEach [e₁, e₂] C.env = (false, eval e₁ C.env) :: starEach [e₂] C.env) (he₂ : starEach [e₂] C.env = (false, eval e₂ C.env) :: starEach [] C.env)
    (hc : eval (.Call zf [e₁, e₂] [] zpos) C.env = (do callWith zpos (← eval zf C.env) [] (backTo zpos (starEach [e₁, e₂] C.env)) (backToKw zpos (keywordEach [] C.env))))
    (turn : ∀ H i l μ x y, xs[i]? = some x → ys[i]? = some y → Inv i l μ → Has C μ a (.lst xs) ∧ Has C μ b (.lst ys) ∧ AS (C.hide H) ks l μ (.Tuple elts kt tpos) (.tup [x, y]) fun l' => EX (C.hide H) ks l' μ body (Lp (Inv (i + 1)) Ψ))
    (done : ∀ l μ, Inv xs.length l μ → Has C μ a (.lst xs) ∧ Has C μ b (.lst ys) ∧ Ψ .next l μ) (hs : ∀ x, foldedSetIterable (.Call zf [e₁, e₂] [] zpos) C.env x = pure x) :
    E1 C ks l μ (.For (.Tuple elts kt tpos) (.Call zf [e₁, e₂] [] zpos) body [] pos) Ψ := fun h₀ s R Q E q => by
  refine wpAny_For (eval_callRaw R hf (.inr (.inl ⟨_, rfl⟩)) (ES_consP h1 (ES_consP h2 (ES_nil fun s₁ us t₁ R₁ y₁ => ?_) he₂) he₁) hp he₁ hc) hs
  cases y₁ with
  | cons ya y => cases y with
    | cons yb y =>
      cases y; cases ya; cases yb
      obtain ⟨vs, n₁, ho₁, r₁⟩ := (R₁.has ha).list
      obtain ⟨ws, n₂, ho₂, r₂⟩ := (R₁.has hb).list
      refine call_zip_2 (isList_of ho₁) (isList_of ho₂) fun h' hz hTI hTO hi1 hi2 hsz hk => ?_
      have D := zipApart_new (Heap.lt_size ho₁) (Heap.lt_size ho₂)
      generalize hn : s₁.heap.objs.size = n at hz hTI hTO hi1 hi2 hsz D ⊢
      have nn : ∀ j, s₁.heap.get? (n + j) = none := fun j => Heap.get?_none_of_le (by rw [hn]; exact Nat.le_add_right _ _)
      have nn0 := nn 0
      have st0 : IsZip h' (n + 4) (n + 2) (n + 3) .none ∧ IsPair h' (n + 2) (.ref n) (.ref (n + 1)) ∧ (∃ p q, IsPair h' (n + 3) p q) ∧ h'.IsListIter n a 0 ∧ h'.IsListIter (n + 1) b 0 := ⟨hz, hTI, ⟨_, _, hTO⟩, hi1, hi2⟩
      have fpn : ∀ c ∈ [n + 4, n + 3, n, n + 1], s₁.heap.get? c = none ∧ c ∉ C.env.locals :: (C.env.cells.map (·.2) ++ μ.map (·.1)) ∧ h₀.get? c = none ∧ C.H c := fun c hc => by
        have hc' : s₁.heap.get? c = none := by
          rcases List.mem_cons.mp hc with rfl | hc
          · exact nn 4
          rcases List.mem_cons.mp hc with rfl | hc
          · exact nn 3
          rcases List.mem_cons.mp hc with rfl | hc
          · exact nn0
          rw [List.mem_singleton.mp hc]; exact nn 1
        exact ⟨hc', R₁.new_ne hc', R₁.new0 hc', R₁.H_new hc'⟩
      have fpn2 : s₁.heap.get? (n + 2) = none := nn 2
      -- the hidden tuple
      have R₂ : Rel (C.hide fun x => C.H x ∧ x ≠ (n + 3)) ks l μ h₀ { s₁ with heap := h' } := by
        have R₂ := R₁.keeps (tk := s₁.toks) hk
        have w : ∀ a o, s₁.heap.get? a = some o → C.H a → (C.H a ∧ a ≠ (n + 3)) := fun a o e h => ⟨h, fun q => by rw [q, (fpn (n + 3) (.tail _ (.head _))).1] at e; cases e⟩
        have hR : Rel (C.hide fun x => C.H x ∧ x ≠ (n + 3)) ks l μ h₀ { s₁ with heap := h' } := by
          refine ⟨?_, R₂.keep, fun p hp => ⟨?_, (R₁.mem p hp).2⟩, R₂.nd, R₂.l0, R₂.cells, R₂.bare, R₂.os, R₂.inK, R₂.top, fun p hp => ?_, fun c hc => ?_⟩
          · obtain ⟨m, n', bb⟩ := R₁.ns
            refine ⟨m, n'.keeps hk, fun x v qq => ?_⟩
            exact Bd.mono (C := C.hide fun x => C.H x ∧ x ≠ (n + 3)) ((bb x v qq).strong w) (.of_keep hk) fun c u _ i => i.keeps hk
          · obtain ⟨o, e, r⟩ := (R₁.mem p hp).1
            exact ⟨o, hk _ _ e, (r.strong w).mono (.of_keep hk)⟩
          · obtain ⟨o, e, r⟩ := R₁.old p hp
            exact ⟨o, e, r.strong fun a o e => w a o (R₁.keep _ _ e)⟩
          · by_cases e : c = (n + 3)
            · obtain ⟨p, q', e'⟩ := st0.2.2.1
              exact ⟨_, e ▸ e'⟩
            · obtain ⟨o, e'⟩ := R₁.off c fun hh => hc ⟨hh, e⟩
              exact ⟨o, hk _ _ e'⟩
        exact hR
      generalize hH : (fun x => C.H x ∧ x ≠ (n + 3)) = H at R₂
      have hH1 : ∀ x, H x → C.H x := fun x h => by rw [← hH] at h; exact h.1
      have hH2 : ∀ x, H x → x ≠ (n + 3) := fun x h => by rw [← hH] at h; exact h.2
      have hH3 : ∀ x, C.H x → x ≠ (n + 3) → H x := fun x h h' => by rw [← hH]; exact ⟨h, h'⟩
      have fp4 : ∀ {c : Addr}, c ∉ [(n + 4), (n + 3), n, (n + 1)] → c ≠ (n + 4) ∧ c ≠ (n + 3) ∧ c ≠ n ∧ c ≠ (n + 1) := fun {c} h => ⟨fun e => h (e ▸ .head _), fun e => h (e ▸ .tail _ (.head _)), fun e => h (e ▸ .tail _ (.tail _ (.head _))), fun e => h (e ▸ .tail _ (.tail _ (.tail _ (.head _))))⟩
      have un₂ : Untr (C.hide H) μ h₀ ((n + 2) :: [(n + 4), (n + 3), n, (n + 1)]) := fun c hc => by
        rcases List.mem_cons.mp hc with rfl | hc
        · exact ⟨R₁.new_ne fpn2, R₁.new0 fpn2⟩
        · exact ⟨(fpn c hc).2.1, (fpn c hc).2.2.1⟩
      have tkH : ∀ {h1 h2 : Heap}, TK C.H s.heap h1 → TK H h1 h2 → TK C.H s.heap h2 := fun {h1 h2} k1 k2 c vs m hc e => k2 c vs m (hH3 c hc fun q => by
        have := t₁ c vs m hc e
        rw [q, (fpn (n + 3) (.tail _ (.head _))).1] at this
        cases this) (k1 c vs m hc e)
      refine wpAny_pyIter_zip hz ?_
      refine codeAny_forG (fun k s' => ∃ i l μ, i ≤ xs.length ∧ k = xs.length - i ∧ Inv i l μ ∧ Rel (C.hide H) ks l μ h₀ s' ∧ TK C.H s.heap s'.heap ∧
        (IsZip s'.heap (n + 4) (n + 2) (n + 3) .none ∧ IsPair s'.heap (n + 2) (.ref n) (.ref (n + 1)) ∧ (∃ p q, IsPair s'.heap (n + 3) p q) ∧ s'.heap.IsListIter n a i ∧ s'.heap.IsListIter (n + 1) b i) ∧ Untr (C.hide H) μ h₀ ((n + 2) :: [(n + 4), (n + 3), n, (n + 1)])) ?_ xs.length
        ⟨0, l, μ, Nat.zero_le _, rfl, start, R₂, t₁.trans (.of_keep hk), st0, un₂⟩
      rintro k s₃ ⟨i, l₃, μ₃, hin, rfl, hI, R₃, t₃, st, un⟩ E₁
      obtain ⟨sz, sTI, ⟨p0, q0, sTO⟩, s1, s2⟩ := st
      have un4 : ∀ c ∈ [(n + 4), (n + 3), n, (n + 1)], c ∉ C.env.locals :: (C.env.cells.map (·.2) ++ μ₃.map (·.1)) ∧ h₀.get? c = none := fun c hc => un c (.tail _ hc)
      by_cases hlt : i < xs.length
      · obtain ⟨x, hx⟩ : ∃ x, xs[i]? = some x := ⟨_, List.getElem?_eq_getElem hlt⟩
        obtain ⟨y, hy⟩ : ∃ y, ys[i]? = some y := ⟨_, List.getElem?_eq_getElem (by omega)⟩
        obtain ⟨nda, ndb, as⟩ := turn H i l₃ μ₃ x y hx hy hI
        obtain ⟨vs, m₁, ov, rv⟩ := (Rel.has (C := C.hide H) R₃ nda).list
        obtain ⟨ws, m₂, ow, rw'⟩ := (Rel.has (C := C.hide H) R₃ ndb).list
        obtain ⟨v, hv, yv⟩ := rv.get hx
        obtain ⟨w, hw, yw⟩ := rw'.get hy
        refine wpAny_pyNext_zip_item D sz sTI sTO s1 s2 (isList_of ov) (isList_of ow) (x := v) (y := w) (by simpa using hv) (by simpa using hw) fun h₁ a1 a2 a3 a4 a5 a6 a7 => ?_
        intro E₂
        have k4 : ∀ c o, c ∉ [(n + 4), (n + 3), n, (n + 1)] → s₃.heap.get? c = some o → h₁.get? c = some o := fun c o hc e => let h := fp4 hc; a7 c o h.1 h.2.1 h.2.2.1 h.2.2.2 e
        have t4 : TK H s₃.heap h₁ := fun c vs m hc e => by
          refine a7 c _ (fun q => ?_) (hH2 c hc) (fun q => ?_) (fun q => ?_) e
          · rw [q, sz] at e; have := congrArg Obj.cls (Option.some.inj e); simp at this
          · obtain ⟨o, eo, co, _⟩ := s1
            rw [q, eo] at e; rw [Option.some.inj e] at co; simp at co
          · obtain ⟨o, eo, co, _⟩ := s2
            rw [q, eo] at e; rw [Option.some.inj e] at co; simp at co
        have R₄ : Rel (C.hide H) ks l₃ μ₃ h₀ { s₃ with heap := h₁, toks := s₃.toks } := Rel.other (C := C.hide H) R₃ (fp := [(n + 4), (n + 3), n, (n + 1)]) un4 (fun c hc => .inr (by
          rcases List.mem_cons.mp hc with rfl | hc
          · exact ⟨_, a1⟩
          rcases List.mem_cons.mp hc with rfl | hc
          · exact ⟨_, a2⟩
          rcases List.mem_cons.mp hc with rfl | hc
          · obtain ⟨o, e, _⟩ := a3; exact ⟨o, e⟩
          rw [List.mem_singleton.mp hc]; obtain ⟨o, e, _⟩ := a4; exact ⟨o, e⟩)) k4 t4
        refine wpAny_letOwnedTupleGo_zip a1 fun h₂ b1 b2 => ?_
        intro E₃
        have t5 : TK H h₁ h₂ := tk_same b2 a1 fun vs k e => by have := congrArg Obj.cls e; simp at this
        have R₅ : Rel (C.hide H) ks l₃ μ₃ h₀ { s₃ with heap := h₂, toks := s₃.toks } := Rel.other (C := C.hide H) R₄ (fp := [(n + 4)]) (fun c hc => un4 c (by rw [List.mem_singleton.mp hc]; exact .head _)) (fun c hc => .inr (by rw [List.mem_singleton.mp hc]; exact ⟨_, b1⟩))
          (fun c o hc e => (b2.2 c fun q => hc (by rw [q]; exact .head _)).trans e) t5
        have nz : ∀ {c : Addr}, c ≠ (n + 4) → ∀ o, h₁.get? c = some o → h₂.get? c = some o := fun n o e => (b2.2 _ n).trans e
        have hTz : s₃.heap.objs.size ≠ (n + 4) := fun q => by have := none_size s₃.heap; rw [q, sz] at this; cases this
        have yT : VR H h₂ (.tup [x, y]) (.ref s₃.heap.objs.size) := .tup (n := 0) (vs := [v, w]) (Rel.H_new (C := C.hide H) R₃ (none_size _)) (nz hTz _ a5) (.cons (yv.mono (t4.trans t5)) (.cons (yw.mono (t4.trans t5)) .nil))
        have hTI1 : IsPair h₁ (n + 2) (.ref n) (.ref (n + 1)) := a7 _ _ D.TIz D.TITO D.TIi1 D.TIi2 sTI
        have c1 : IsPair h₂ (n + 2) (.ref n) (.ref (n + 1)) := nz D.TIz _ hTI1
        have c2 : IsPair h₂ (n + 3) v w := nz D.TOz _ a2
        have c3 : h₂.IsListIter n a (i + 1) := a3.at fun o e => nz D.i1z o e
        have c4 : h₂.IsListIter (n + 1) b (i + 1) := a4.at fun o e => nz D.i2z o e
        have th : ∀ c ∈ (n + 2) :: [(n + 4), (n + 3), n, (n + 1)], ∃ o, h₂.get? c = some o := fun c hc => by
          rcases List.mem_cons.mp hc with rfl | hc
          · exact ⟨_, c1⟩
          rcases List.mem_cons.mp hc with rfl | hc
          · exact ⟨_, b1⟩
          rcases List.mem_cons.mp hc with rfl | hc
          · exact ⟨_, c2⟩
          rcases List.mem_cons.mp hc with rfl | hc
          · obtain ⟨o, e, _⟩ := c3; exact ⟨o, e⟩
          rw [List.mem_singleton.mp hc]; obtain ⟨o, e, _⟩ := c4; exact ⟨o, e⟩
        have big : ∀ c ∈ (n + 2) :: [(n + 4), (n + 3), n, (n + 1)], ∀ o, h₂.get? c = some o → (bigBase (C.hide H) μ₃ h₂).get? c = some o := fun c hc o e => hideAll_get _ e (held_not (C := C.hide H) (un c hc).1)
        refine as _ { s₃ with heap := h₂, toks := s₃.toks } (.ref s₃.heap.objs.size) (Rel.big (C := C.hide H) R₅) yT _ E₃ fun l₆ s₆ ex t₆ R₆ => ?_
        intro E₄
        refine ex _ s₆ R₆ _ E₄ fun f l₇ μ₇ fl s₇ p t₇ R₇ y₇ => ?_
        have kp : ∀ c ∈ (n + 2) :: [(n + 4), (n + 3), n, (n + 1)], ∀ o, h₂.get? c = some o → s₇.heap.get? c = some o := fun c hc o e => R₇.keep _ _ (big c hc o e)
        have R₇' := Rel.small (C := C.hide H) R₇ R₅ (Rel.toBig (C := C.hide H) R₅)
        have un₇ : Untr (C.hide H) μ₇ h₀ ((n + 2) :: [(n + 4), (n + 3), n, (n + 1)]) := untr_after un (fun c hc => let ⟨o, e⟩ := th c hc; ⟨o, big c hc o e⟩) R₇
        have st₇ : IsZip s₇.heap (n + 4) (n + 2) (n + 3) .none ∧ IsPair s₇.heap (n + 2) (.ref n) (.ref (n + 1)) ∧ (∃ p q, IsPair s₇.heap (n + 3) p q) ∧ s₇.heap.IsListIter n a (i + 1) ∧ s₇.heap.IsListIter (n + 1) b (i + 1) :=
          ⟨kp (n + 4) (.tail _ (.head _)) _ b1, kp (n + 2) (.head _) _ c1, ⟨v, w, kp (n + 3) (.tail _ (.tail _ (.head _))) _ c2⟩, c3.at fun o e => kp n (.tail _ (.tail _ (.tail _ (.head _)))) o e, c4.at fun o e => kp (n + 1) (.tail _ (.tail _ (.tail _ (.tail _ (.head _))))) o e⟩
        have tt := tkH t₃ (((t4.trans t5).trans t₆).trans t₇)
        have Rb : Rel C ks l₇ μ₇ h₀ s₇ := Rel.hide (C := C.hide H) R₇' (H := C.H) (fun c o _ h => hH1 c h) fun c h => R₇'.off c fun q => h (hH1 c q)
        cases y₇ with
        | next => exact ⟨xs.length - (i + 1), by omega, i + 1, l₇, μ₇, hlt, rfl, p, R₇', tt, st₇, un₇⟩
        | brk => exact q .next l₇ μ₇ .next s₇ p tt Rb .next
        | ret y => exact q (.ret _) l₇ μ₇ _ s₇ p tt Rb (.ret (y.weaken hH1))
      · obtain rfl : i = xs.length := by omega
        obtain ⟨nda, ndb, hΨ⟩ := done l₃ μ₃ hI
        obtain ⟨vs, m₁, ov, rv⟩ := (Rel.has (C := C.hide H) R₃ nda).list
        obtain ⟨ws, m₂, ow, rw'⟩ := (Rel.has (C := C.hide H) R₃ ndb).list
        refine wpAny_pyNext_zip_end ok.hand D sz sTI sTO s1 s2 (isList_of ov) (isList_of ow) (.inl (by simp [rv.length])) fun h₁ hk₁ => ?_
        intro E₂
        have k4 : ∀ c o, c ∉ [(n + 4), (n + 3), n, (n + 1)] → s₃.heap.get? c = some o → h₁.get? c = some o := fun c o hc e => let h := fp4 hc; hk₁ c o h.1 h.2.1 h.2.2.1 h.2.2.2 e
        have t4 : TK H s₃.heap h₁ := fun c vs m hc e => by
          refine hk₁ c _ (fun q => ?_) (hH2 c hc) (fun q => ?_) (fun q => ?_) e
          · rw [q, sz] at e; have := congrArg Obj.cls (Option.some.inj e); simp at this
          · obtain ⟨o, eo, co, _⟩ := s1
            rw [q, eo] at e; rw [Option.some.inj e] at co; simp at co
          · obtain ⟨o, eo, co, _⟩ := s2
            rw [q, eo] at e; rw [Option.some.inj e] at co; simp at co
        have Rb : Rel C ks l₃ μ₃ h₀ { s₃ with heap := h₁, toks := s₃.toks } := Rel.otherH (C := C.hide H) R₃ (H := C.H) (fp := [(n + 4), (n + 3), n, (n + 1)]) un4 k4 t4 (fun c o _ h => hH1 c h) (fun c o _ h => hH1 c h) fun c h => by
          obtain ⟨o, e⟩ := R₃.off c fun q => h (hH1 c q)
          exact ⟨o, k4 c o (fun q => h (fpn c q).2.2.2) e⟩
        exact wpAny_pure (q .next l₃ μ₃ .next _ hΨ (tkH t₃ t4) Rb .next)
end
-- M18
noncomputable def sv (x : List Nat) : V := .str (S x)
noncomputable def iv (n : Nat) : V := .int n
theorem strs_sv {H : Addr → Prop} {h : Heap} : ∀ {ns : List (List Nat)} {vs : List Value}, VRs H h (ns.map sv) vs → StrsAre vs (ns.map S)
  | [], _, .nil => .nil
  | n :: ns, _, .cons (.str _ t) r => .cons (S n) t (strs_sv r)
theorem carried_sv : ∀ {ss : List Str} {vs : List Value}, StrsAre vs ss → CarriedAll vs (ss.map PyData.str)
  | [], _, .nil => .nil
  | _ :: _, _, .cons x t r => .cons (.str _ t) (carried_sv r)
noncomputable def Asc (x : List Nat) : Prop := ∀ c ∈ x, c < 128
theorem ok_S {x : List Nat} (h : Asc x) : PyData.strOk (S x) = true := by
  unfold PyData.strOk
  show (x.toArray.all fun c => decide (c < 0x110000)) = true
  simp only [List.all_toArray, List.all_eq_true, decide_eq_true_eq]
  intro c hc
  have := h c hc
  omega
theorem lay_sv : ∀ ss : List (List Nat), (∀ x ∈ ss, Asc x) → PyData.canLayAll0 ((ss.map S).map PyData.str) = true
  | [], _ => by simp [PyData.canLayAll0]
  | x :: r, h => by
    simp only [List.map_cons, PyData.canLayAll0, PyData.canLay0, Bool.and_eq_true]
    exact ⟨ok_S (h x (.head _)), lay_sv r fun y hy => h y (.tail _ hy)⟩
theorem deep_sv : ∀ ss : List Str, PyData.depthAll (ss.map PyData.str) ≤ 1
  | [] => by simp [PyData.depthAll]
  | n :: r => by
    have := deep_sv r
    simp only [List.map_cons, PyData.depthAll, PyData.depth]
    omega
theorem shaped_sv (ss : List (List Nat)) (ok : ∀ x ∈ ss, Asc x) : SeqAt.shaped (.list ((ss.map S).map PyData.str)) = true := by
  have h1 := deep_sv (ss.map S)
  have h2 : PyData.depth (.list ((ss.map S).map PyData.str)) ≤ 64 := by simp only [PyData.depth]; omega
  show (PyData.canLay0 (.list ((ss.map S).map PyData.str)) && decide (PyData.depth (.list ((ss.map S).map PyData.str)) ≤ 64)) = true
  rw [Bool.and_eq_true]
  exact ⟨by simp only [PyData.canLay0]; exact lay_sv ss ok, decide_eq_true h2⟩
theorem noMix_sv : ∀ ss ts : List Str, SeqAt.noMixAll (ss.map PyData.str) (ts.map PyData.str) = true
  | [], [] => by simp [SeqAt.noMixAll]
  | [], _ :: _ => by simp [SeqAt.noMixAll]
  | _ :: _, [] => by simp [SeqAt.noMixAll]
  | _ :: r, _ :: q => by simp [SeqAt.noMixAll, SeqAt.noMix, noMix_sv r q]
theorem same_sv : ∀ ss ts : List Str, PySem.Spec.sameAll (ss.map PyData.str) (ts.map PyData.str) = decide (ss = ts)
  | [], [] => by simp [PySem.Spec.sameAll]
  | [], _ :: _ => by simp [PySem.Spec.sameAll]
  | _ :: _, [] => by simp [PySem.Spec.sameAll]
  | n :: r, k :: q => by
    simp only [List.map_cons, PySem.Spec.sameAll, PySem.Spec.same, same_sv r q]
    by_cases h : n = k <;> simp [h]
theorem S_map_inj {xs ys : List (List Nat)} : xs.map S = ys.map S ↔ xs = ys := by
  constructor
  · intro h
    induction xs generalizing ys with
    | nil => cases ys with
      | nil => rfl
      | cons y ys => simp at h
    | cons x xs ih => cases ys with
      | nil => simp at h
      | cons y ys =>
        simp only [List.map_cons, List.cons.injEq] at h
        rw [S_inj.mp h.1, ih h.2]
  · intro h; rw [h]
section
variable {C : Cx} {ks : List Str} {l l' : List (Option V)} {μ μ' : Mem} {h₀ : Heap} {s : Shared}
theorem OPC_eqL (ok : C.Ok) {a b : Addr} {xs ys : List (List Nat)} (hx' : ∀ x ∈ xs, Asc x) (hy' : ∀ x ∈ ys, Asc x) (ha : Has C μ a (.lst (xs.map sv))) (hb : Has C μ b (.lst (ys.map sv))) : OPC C ks l μ .Eq (.val (.ref a)) (.val (.ref b)) (decide (xs = ys)) := fun h₀ s x y R hx hy Q E q => by
  cases hx; cases hy
  obtain ⟨vs, n, ho, r⟩ := (R.has ha).list
  obtain ⟨ws, n2, ho2, r2⟩ := (R.has hb).list
  have un := ok.units
  refine eq_dataH_same (reads_newData (isList_of ho) (carried_sv (strs_sv r))) (reads_newData (isList_of ho2) (carried_sv (strs_sv r2))) (shaped_sv _ hx') (shaped_sv _ hy') (by show C.A.units + 64 < 9900; omega) (by simp only [SeqAt.noMix]; exact noMix_sv _ _) ?_
  have : PySem.Spec.same (.list ((xs.map S).map PyData.str)) (.list ((ys.map S).map PyData.str)) = decide (xs = ys) := by
    simp only [PySem.Spec.same]; rw [same_sv]; simp only [S_map_inj]
  rw [this]
  exact q _ _ _ _ ⟨rfl, rfl⟩ (TK.refl _) R (.bool _)
theorem OPC_neL (ok : C.Ok) {a b : Addr} {xs ys : List (List Nat)} (hx' : ∀ x ∈ xs, Asc x) (hy' : ∀ x ∈ ys, Asc x) (ha : Has C μ a (.lst (xs.map sv))) (hb : Has C μ b (.lst (ys.map sv))) : OPC C ks l μ .NotEq (.val (.ref a)) (.val (.ref b)) (!decide (xs = ys)) := fun h₀ s x y R hx hy Q E q => by
  cases hx; cases hy
  obtain ⟨vs, n, ho, r⟩ := (R.has ha).list
  obtain ⟨ws, n2, ho2, r2⟩ := (R.has hb).list
  have un := ok.units
  refine ne_dataH_same (reads_newData (isList_of ho) (carried_sv (strs_sv r))) (reads_newData (isList_of ho2) (carried_sv (strs_sv r2))) (shaped_sv _ hx') (shaped_sv _ hy') (by show C.A.units + 64 < 9900; omega) (by simp only [SeqAt.noMix]; exact noMix_sv _ _) ?_
  have : PySem.Spec.same (.list ((xs.map S).map PyData.str)) (.list ((ys.map S).map PyData.str)) = decide (xs = ys) := by
    simp only [PySem.Spec.same]; rw [same_sv]; simp only [S_map_inj]
  rw [this]
  exact q _ _ _ _ ⟨rfl, rfl⟩ (TK.refl _) R (.bool _)
theorem any_S (ys : List (List Nat)) (x : List Nat) : (ys.map S).any (· == S x) = decide (x ∈ ys) := by
  rw [Bool.eq_iff_iff]
  simp only [List.any_map, List.any_eq_true, Function.comp, S_beq, beq_iff_eq, decide_eq_true_eq]
  constructor
  · rintro ⟨y, hy, rfl⟩; exact hy
  · intro h; exact ⟨x, h, rfl⟩
theorem OPC_in {b : Addr} {x : List Nat} {ys : List (List Nat)} (hb : Has C μ b (.lst (ys.map sv))) : OPC C ks l μ .In (sv x) (.val (.ref b)) (decide (x ∈ ys)) := fun h₀ s u y R hx hy Q E q => by
  cases hx; cases hy
  obtain ⟨ws, n2, ho2, r2⟩ := (R.has hb).list
  refine in_list_strs (isList_of ho2) (strs_sv r2) ?_
  rw [any_S]
  exact q _ _ _ _ ⟨rfl, rfl⟩ (TK.refl _) R (.bool _)
theorem OPC_notIn {b : Addr} {x : List Nat} {ys : List (List Nat)} (hb : Has C μ b (.lst (ys.map sv))) : OPC C ks l μ .NotIn (sv x) (.val (.ref b)) (!decide (x ∈ ys)) := fun h₀ s u y R hx hy Q E q => by
  cases hx; cases hy
  obtain ⟨ws, n2, ho2, r2⟩ := (R.has hb).list
  refine notin_list_strs (isList_of ho2) (strs_sv r2) ?_
  rw [any_S]
  exact q _ _ _ _ ⟨rfl, rfl⟩ (TK.refl _) R (.bool _)
theorem OPB_addL {a b : Addr} {xs ys : List V} {Φ : V → Mem → Prop} (ha : Has C μ a (.lst xs)) (hb : Has C μ b (.lst ys)) (hz : xs.length + ys.length ≤ 1000) (h : ∀ d, Φ (.val (.ref d)) ((d, .lst (xs ++ ys)) :: μ)) : OPB C ks l μ .Add (.val (.ref a)) (.val (.ref b)) Φ := fun h₀ s x y R hx hy Q E q => by
  cases hx; cases hy
  obtain ⟨vs, n, ho, r⟩ := (R.has ha).list
  obtain ⟨ws, n2, ho2, r2⟩ := (R.has hb).list
  have hl1 := r.length
  have hl2 := r2.length
  refine P.add_list (items := vs.toArray) (items2 := ws.toArray) (n := n) (n2 := n2) ho ho2 ?_ (by rw [List.size_toArray, List.size_toArray, sizeLine_eq]; omega)
  have := new_obj R { cls := .type "list", data := .seq (vs.toArray ++ ws.toArray) } (.lst (xs ++ ys)) rfl
  have k : ∀ c x, s.heap.get? c = some x → (s.heap.push { cls := .type "list", data := .seq (vs.toArray ++ ws.toArray) }).get? c = some x := fun c x e => Heap.get?_push_of_some _ e
  refine q _ _ _ _ (h _) (.of_keep k) ((R.keeps (tk := s.toks) k).grow (a := s.heap.objs.size) (b := .lst (xs ++ ys)) ⟨_, Heap.get?_push_size _ rfl, ?_⟩ (R.new_ne (none_size _)) (R.new0 (none_size _))) (.val _)
  have := OR.lst (H := C.H) (n := 0) ((r.append r2).mono (.of_keep k))
  simpa using this
theorem OPK_sortedS {a : Addr} {xs : List (List Nat)} {Φ : V → Mem → Prop} (hm : Has C μ a (.lst (xs.map sv))) (h64 : xs.length < 64)
    (h : ∀ D ys, ys.Perm (xs.map S) → sortedS ys = true → Φ (.val (.ref D)) ((D, .lst (ys.map V.str)) :: μ)) : OPK C ks l μ (.builtin "sorted") [.val (.ref a)] Φ := fun h₀ s us R y Q E q => by
  cases y with
  | cons y r =>
    cases r; cases y
    obtain ⟨vs, n, ho, r⟩ := (R.has hm).list
    have hvl : vs.length = xs.length := by rw [← r.length, List.length_map]
    refine sorted_strs (isList_of ho) (strs_sv r) (by omega) fun out ss h1 h2 h3 => ?_
    obtain ⟨e, he⟩ := sortedAll_at s.heap vs out
    have kp : ∀ b o, s.heap.get? b = some o → (sortedAll s.heap vs out).get? b = some o := fun b o e => sortedAll_old e
    have nn : s.heap.get? (s.heap.objs.size + 1) = none := Heap.get?_none_of_le (Nat.le_succ _)
    have st : ∀ {ss : List Str} {vs : List Value} {h : Heap}, StrsAre vs ss → VRs C.H h (ss.map V.str) vs := fun {ss vs h} x => by
      induction x with
      | nil => exact .nil
      | cons x t _ ih => exact .cons (.str _ _) ih
    exact q _ _ _ _ (h _ ss h2 h3) (.of_keep kp) ((R.keeps (tk := s.toks) kp).grow (a := s.heap.objs.size + 1) (b := .lst (ss.map V.str)) ⟨_, he, by
      have := OR.lst (H := C.H) (h := sortedAll s.heap vs out) (n := e) (st h1)
      simpa using this⟩ (R.new_ne nn) (R.new0 nn)) (.val _)
/-- two to a small power -/
theorem pow_ii {prog : Program} {w : World} {A : Around} {E : Value → Shared → Prop} {s : Shared} {Q : Value → Shared → Prop} {b : Int} {t u : Tok} (h1 : 0 < b) (h2 : b < 100) (h : Q (.int (2 ^ b.toNat) s.toks) { s with toks := s.toks + 1 }) : wpAny (model prog w) A (binaryOp .Pow (.int 2 t) (.int b u)) Q E s := by
  refine binaryOp_gives (op := .Pow) (T := "int") (typeIs_int s 2 t) (typeIs_int s b u) F.fills_int_pow F.slot_int_pow F.entry_int_pow (F.args_int_pow_2 _ _) (AutoIntG2.int___pow___int_int_4 2 t b u (by omega) (by simp; omega) (by decide) (by decide) ?_) trivial h
  unfold Builtin.Int.intTooBig
  have : Builtin.Int.intBits 2 = 2 := by decide
  rw [this]
  have hl : (1000 : Int) ≤ bitsLine := by decide
  simp
  omega
theorem OPB_pow2 {b : Int} (h1 : 0 < b) (h2 : b < 100) : OPB C ks l μ .Pow (.int 2) (.int b) (Is (.int (2 ^ b.toNat)) μ) := fun h₀ s x y R hx hy Q E q => by
  cases hx; cases hy
  exact pow_ii h1 h2 (q _ μ _ _ ⟨rfl, rfl⟩ (TK.refl _) R.toks (.int _ _))
/-- x[i] = v in a list -/
theorem E1_setL {o i value : Expr} {p' pos : Pos} {a : Addr} {xs : List V} {k : Nat} {v : V} {Ψ : Fl → List (Option V) → Mem → Prop} (hv : PV C ks l μ value v) (ho : PV C ks l μ o (.val (.ref a))) (hi : PV C ks l μ i (.int k)) (U : Mu μ a (.lst xs) (.lst (xs.set k v)) μ') (hk : k < xs.length) (hz : xs.length ≤ 1000) (h : Ψ .next l μ')
    (hs : swapsWith value (some (.Subscript o i p')) pos.line C.env = pure false) : E1 C ks l μ (.Assign [.Subscript o i p'] value pos) Ψ := fun h₀ s R Q E q => by
  rw [exec_Assign_Subscript _ _ _ _ _ hs]
  refine wpAny_bind (wpAny_standAt (wpAny_bind (hv h₀ s R _ E fun v' μ₁ u s₁ e t₁ R₁ y₁ => ?_)))
  obtain ⟨rfl, rfl⟩ := e
  refine wpAny_bind (kas_sub (ho h₀ s₁ R₁ _ E fun v2 μ₂ u₂ s₂ e t₂ R₂ y₂ => ?_))
  obtain ⟨rfl, rfl⟩ := e
  refine hi h₀ s₂ R₂ _ E fun v3 μ₃ u₃ s₃ e t₃ R₃ y₃ => ?_
  obtain ⟨rfl, rfl⟩ := e
  cases y₂; cases y₃
  rename_i ti
  obtain ⟨vs, n, hl, r⟩ := (R₃.has (.inl U.old)).list
  have hlen := r.length
  refine ki_setAt hl (by omega) (by omega) (by rw [List.size_toArray]; omega) ?_
  have hs' := Heap.SameBut.update s₃.heap a (Obj.mapSeq (·.setIfInBounds ((k : Int)).toNat u))
  have hg := get?_update_seq (c := "list") hl (·.setIfInBounds ((k : Int)).toNat u)
  have t4 : TK C.H s₃.heap (s₃.heap.update a (Obj.mapSeq (·.setIfInBounds ((k : Int)).toNat u))) := tk_same hs' hl (fun vs k e => by have := congrArg Obj.cls e; simp at this)
  have hat : At C.H (s₃.heap.update a (Obj.mapSeq (·.setIfInBounds ((k : Int)).toNat u))) a (.lst (xs.set k v')) := ⟨_, hg, by
    have e : vs.toArray.setIfInBounds ((k : Int)).toNat u = (vs.set k u).toArray := by simp
    rw [e]
    exact .lst ((r.mono t4).set k ((y₁.mono (t₂.trans t₃)).mono t4))⟩
  have R4 := R₃.mut U (by exact trivial) (tk := s₃.toks) hs' hat
  exact wpAny_pure (q _ _ _ _ _ h ((((t₁.trans t₂).trans t₃)).trans t4) R4.1 .next)
end
-- M19
section
variable {prog : Program} {w : World} {A : Around} {E : Value → Shared → Prop} {s : Shared}
/-- sorted of a list of none or one -/
theorem sort_few {a : Addr} {vs : List Value} {n : Nat} {P : PySem.Fin → Shared → Prop} (ho : s.heap.get? a = some (seqObj "list" vs.toArray n)) (h2 : vs.length < 2)
    (h : P (.done (.ret .none)) { s with heap := sortedHeap s.heap a vs vs.toArray }) : wpAny (model prog w) A (Builtin.«list.sort» ⟨[.ref a], []⟩) P E s := by
  have ha : a < s.heap.objs.size := Heap.lt_size ho
  obtain ⟨c, ho1⟩ : ∃ c, (s.heap.update a (Obj.mapSeq fun _ => #[])).get? a = some (seqObj "list" #[] c) := ⟨_, get?_update_seq ho fun _ => #[]⟩
  have ho6 : (((s.heap.update a (Obj.mapSeq fun _ => #[])).push (seqObj "tuple" vs.toArray 0)).push (seqObj "list" #[] 0)).get? a = some (seqObj "list" #[] c) := Heap.get?_push_of_some _ (Heap.get?_push_of_some _ ho1)
  rw [list_sort_plain]
  refine wpAny_bind (listItems_at ho rfl (wpAny_bind (listUpdate_at ho rfl (wpAny_bind (seqEpoch_at ho1 rfl (wpAny_bind (wpAny_newTuple (wpAny_bind (wpAny_newList (wpAny_holding ?_) (Nat.zero_le _))) (by rw [sizeLine_eq]; show vs.length ≤ _; omega))))) (by rw [sizeLine_eq, List.size_toArray]; omega) (Nat.zero_le _))))
  show wpAny (model prog w) A _ P E { s with heap := ((s.heap.update a (Obj.mapSeq fun _ => #[])).push (seqObj "tuple" vs.toArray 0)).push (seqObj "list" #[] 0) }
  have hlt : vs.toArray.size < 2 := by rw [List.size_toArray]; exact h2
  dsimp only
  rw [if_pos hlt, if_pos hlt]
  refine wpAny_bind (wpAny_pure ?_)
  rw [StateT.run_pure]
  refine wpAny_bind (wpAny_pure ?_)
  dsimp only
  have e : (vs.toArray.zip vs.toArray).map (·.2) = vs.toArray := by
    apply Array.toList_inj.mp
    rw [Array.toList_map, Array.toList_zip, List.map_snd_zip]
    exact Nat.le_refl _
  refine wpAny_bind (seqEpoch_at ho6 rfl (wpAny_bind (listUpdate_at ho6 rfl ?_ (Nat.zero_le _) (by rw [Array.size_map, Array.size_zip, sizeLine_eq]; omega))))
  simp only [bne_self_eq_false, Bool.false_eq_true, if_false]
  show wpAny (model prog w) A (ret .none) P E { s with heap := (((s.heap.update a (Obj.mapSeq fun _ => #[])).push (seqObj "tuple" vs.toArray 0)).push (seqObj "list" #[] 0)).update a (Obj.mapSeq fun _ => (vs.toArray.zip vs.toArray).map (·.2)) }
  rw [e]
  exact wpAny_pure h
theorem sorted_few {x : Addr} {vs : List Value} {Q : Value → Shared → Prop} (hl : s.heap.IsList x vs.toArray) (h2 : vs.length < 2)
    (h : Q (.ref (s.heap.objs.size + 1)) { s with heap := sortedAll s.heap vs vs.toArray }) : wpAny (model prog w) A (call (.builtin "sorted") [.ref x]) Q E s := by
  refine Calls.call_function_entry kind_sorted plain_sorted entry_sorted (args_sorted1 _) ?_
  unfold Builtin.«sorted»
  refine wpAny_bind (m := checkCount "sorted" 1 1 _) (wpAny_pure (wpAny_bind (collect_list hl (wpAny_bind (wpAny_newList ?_ (by rw [sizeLine_eq]; omega))) (by rw [sizeLine_eq]; omega))))
  have hs : ((s.heap.push (seqObj "list" #[] 0)).update s.heap.objs.size (Obj.mapSeq (· ++ vs.toArray))).objs.size = s.heap.objs.size + 1 := by rw [Heap.size_update, size_push']
  show wpAny _ _ _ _ _ { s with heap := ((s.heap.push (seqObj "list" #[] 0)).update s.heap.objs.size (Obj.mapSeq (· ++ vs.toArray))).push (seqObj "list" vs.toArray 0) }
  have ho : (((s.heap.push (seqObj "list" #[] 0)).update s.heap.objs.size (Obj.mapSeq (· ++ vs.toArray))).push (seqObj "list" vs.toArray 0)).get? (s.heap.objs.size + 1) = some (seqObj "list" vs.toArray 0) := by rw [← hs]; exact Heap.get?_push_size _ rfl
  rw [hs]
  exact wpAny_bind (wpAny_holding (wpAny_call_entry slot_list_sort ⟨_, ho, rfl⟩ entry_list_sort (sort_few ho h2 ⟨_, rfl, wpAny_pure ⟨_, rfl, h⟩⟩) (args_list_sort _)))
end
section
variable {C : Cx} {ks : List Str} {l l' : List (Option V)} {μ μ' : Mem} {h₀ : Heap} {s : Shared}
theorem OPK_sortedFew {a : Addr} {xs : List V} {Φ : V → Mem → Prop} (hm : Has C μ a (.lst xs)) (h2 : xs.length < 2) (h : ∀ D, Φ (.val (.ref D)) ((D, .lst xs) :: μ)) : OPK C ks l μ (.builtin "sorted") [.val (.ref a)] Φ := fun h₀ s us R y Q E q => by
  cases y with
  | cons y r =>
    cases r; cases y
    obtain ⟨vs, n, ho, r⟩ := (R.has hm).list
    have hvl := r.length
    refine sorted_few (isList_of ho) (by omega) ?_
    obtain ⟨e, he⟩ := sortedAll_at s.heap vs vs.toArray
    have kp : ∀ b o, s.heap.get? b = some o → (sortedAll s.heap vs vs.toArray).get? b = some o := fun b o e => sortedAll_old e
    have nn : s.heap.get? (s.heap.objs.size + 1) = none := Heap.get?_none_of_le (Nat.le_succ _)
    exact q _ _ _ _ (h _) (.of_keep kp) ((R.keeps (tk := s.toks) kp).grow (a := s.heap.objs.size + 1) (b := .lst xs) ⟨_, he, .lst (r.mono (.of_keep kp))⟩ (R.new_ne nn) (R.new0 nn)) (.val _)
end
section
variable {C : Cx} {names : List (Str × NameKind)} {P : Params} {ks : List Str} {l l' : List (Option V)} {μ μ' : Mem}
theorem Fr.relabel (f : Fr C names P) (scope : Scope) : (PySem.relabel scope C.env).names = scope.names.map fun x => if (x.2 == NameKind.free && names.lookup x.1 == some NameKind.cell) = true then (x.1, NameKind.cell) else x := by
  show (scope.names.map fun (n, k) => if (k == NameKind.free && C.env.scope.kind == ScopeKind.function && C.env.scope.names.lookup n == some NameKind.cell) = true then (n, NameKind.cell) else (n, k)) = _
  rw [f.ok.fn, f.names]
  refine List.map_congr_left fun x _ => ?_
  simp
theorem Fr.inner (f : Fr C names P) {scope : Scope} {cl : List (Str × Addr)} {L : Addr} {old : List (Addr × Ob)} {names' : List (Str × NameKind)} (ok : (Mine.inner C scope cl L old).Ok) (h : (scope.names.map fun x => if (x.2 == NameKind.free && names.lookup x.1 == some NameKind.cell) = true then (x.1, NameKind.cell) else x) = names') : Fr (Mine.inner C scope cl L old) names' P :=
  ⟨ok, (f.relabel scope).trans h, f.k⟩
theorem Room.inner {n : Nat} (r : Room C P n) {scope : Scope} {cl : List (Str × Addr)} {L : Addr} {old : List (Addr × Ob)} (ok : (Mine.inner C scope cl L old).Ok) : Room (Mine.inner C scope cl L old) P n := ⟨ok, r.k, r.depth, r.units⟩
theorem Fr.hide (f : Fr C names P) (H : Addr → Prop) : Fr (C.hide H) names P := ⟨⟨f.ok.fn, f.ok.glob, f.ok.blt, f.ok.hand, f.ok.depth, f.ok.units⟩, f.names, f.k⟩
theorem CellsOk.hide (c : CellsOk C names) (H : Addr → Prop) : CellsOk (C.hide H) names := ⟨c.look, c.wr, c.nd⟩
theorem Room.hide {n : Nat} (r : Room C P n) (H : Addr → Prop) : Room (C.hide H) P n := ⟨⟨r.ok.fn, r.ok.glob, r.ok.blt, r.ok.hand, r.ok.depth, r.ok.units⟩, r.k, r.depth, r.units⟩
/-- the closure of a comprehension with none, one or two free names -/
theorem swaps_comp (f : Fr C names P) {elt : Expr} {gens : List Comprehension} {scope : Scope} {pos : Pos} {x : Str} {p : Pos} {line : Nat} (hx : names.lookup x = some .local) (h : (p.line == pos.line && !(scope.names.any fun (n, k) => n == x && (k == .local || k == .cell))) = true) :
    swapsWith (.ListComp elt gens scope pos) (some (.Name x p)) line C.env = pure true := by
  show (pure (C.env.blockKind == ScopeKind.function && C.env.kindOf x == some .local && p.line == pos.line && !(scope.names.any fun (n, k) => n == x && (k == .local || k == .cell))) : Sem Bool) = pure true
  have h1 : C.env.blockKind = .function := by unfold Env.blockKind; rw [f.ok.fn]; rfl
  rw [h1, f.kind hx, Bool.and_assoc, h]
  rfl
theorem EV_compF {m : Nat} (f : Fr C names P) (rm : Room C P m) {elt target iter : Expr} {ifs : List Expr} {scope : Scope} {pos : Pos} {Φ : V → Mem → Prop} (cl : List (Str × Addr)) (ks' : List Str) (l₀ : List (Option V)) (names' : List (Str × NameKind))
    (hi : EV C ks l μ iter fun v μ' => ∃ (n : Nat) (xs : Nat → V) (Need : Mem → Prop) (Inv : Nat → List V → Mem → Prop), Src C ks l μ' v n xs Need target ∧ Inv 0 [] μ' ∧ n ≤ 1000 ∧ (∀ i ys μ, i < n → Inv i ys μ → (∀ p, Need (p :: μ)) ∧ ∀ D : Cx, Fr D names' P → Room D P m → D.old = μ ++ C.old → AS D ks' l₀ [] target (xs i) fun l₁ => TS D ks' l₁ [] ifs fun b ν₁ =>
      if b = true then EV D ks' l₁ ν₁ elt fun v ν₂ => ∃ ν, List.Sublist ν ν₂ ∧ Inv (i + 1) (ys ++ [v]) (ν ++ μ) else ∃ ν, List.Sublist ν ν₁ ∧ Inv (i + 1) ys (ν ++ μ)) ∧
      (∀ ys μ, Inv n ys μ → (∀ p, Need (p :: μ)) ∧ ∀ D, Φ (.val (.ref D)) ((D, .lst ys) :: μ)))
    (hclos : closureFor scope C.env = pure cl) (In : Inside C ks l scope cl ks' l₀) (hn : (scope.names.map fun x => if (x.2 == NameKind.free && names.lookup x.1 == some NameKind.cell) = true then (x.1, NameKind.cell) else x) = names') (hcell : ∀ y ∈ scope.names, y.2 ≠ .cell) (hkind : scope.kind = .function)
    (hnames : ∀ x ∈ scope.names, x.2 = .local → scope.names.lookup x.1 = some .local) (hs : ∀ x, foldedSetIterable iter C.env x = pure x) :
    EV C ks l μ (.ListComp elt [⟨target, iter, ifs, 0⟩] scope pos) Φ :=
  EV_compE f.ok cl ks' l₀ (hi.mono fun v μ' p => by
    obtain ⟨n, xs, Need, Inv, a, b, c, d, e⟩ := p
    exact ⟨n, xs, Need, Inv, a, b, c, fun i ys μ h1 h2 => ⟨(d i ys μ h1 h2).1, fun L ok => (d i ys μ h1 h2).2 _ (f.inner ok hn) (rm.inner ok) rfl⟩, e⟩) hclos In hcell hkind hnames hs
theorem E1_compF {m : Nat} (f : Fr C names P) (rm : Room C P m) {x : Str} {px spos : Pos} {elt target iter : Expr} {ifs : List Expr} {scope : Scope} {pos : Pos} {Ψ : Fl → List (Option V) → Mem → Prop} (nk : ks.Nodup) (hx : names.lookup x = some .local) (cl : List (Str × Addr)) (ks' : List Str) (l₀ : List (Option V)) (names' : List (Str × NameKind))
    (hi : EV C ks l μ iter fun v μ' => ∃ (n : Nat) (xs : Nat → V) (Need : Mem → Prop) (Inv : Nat → List V → Mem → Prop), Src C ks l μ' v n xs Need target ∧ Inv 0 [] μ' ∧ n ≤ 1000 ∧ (∀ i ys μ, i < n → Inv i ys μ → (∀ p, Need (p :: μ)) ∧ ∀ D : Cx, Fr D names' P → Room D P m → D.old = μ ++ C.old → AS D ks' l₀ [] target (xs i) fun l₁ => TS D ks' l₁ [] ifs fun b ν₁ =>
      if b = true then EV D ks' l₁ ν₁ elt fun v ν₂ => ∃ ν, List.Sublist ν ν₂ ∧ Inv (i + 1) (ys ++ [v]) (ν ++ μ) else ∃ ν, List.Sublist ν ν₁ ∧ Inv (i + 1) ys (ν ++ μ)) ∧
      (∀ ys μ, Inv n ys μ → (∀ p, Need (p :: μ)) ∧ ∀ D, ∃ l', Up ks l x (.val (.ref D)) l' ∧ Ψ .next l' ((D, .lst ys) :: μ)))
    (hclos : closureFor scope C.env = pure cl) (In : Inside C ks l scope cl ks' l₀) (hn : (scope.names.map fun x => if (x.2 == NameKind.free && names.lookup x.1 == some NameKind.cell) = true then (x.1, NameKind.cell) else x) = names') (hcell : ∀ y ∈ scope.names, y.2 ≠ .cell) (hkind : scope.kind = .function)
    (hnames : ∀ x ∈ scope.names, x.2 = .local → scope.names.lookup x.1 = some .local) (hs : ∀ x, foldedSetIterable iter C.env x = pure x)
    (hsw : (px.line == pos.line && !(scope.names.any fun (n, k) => n == x && (k == .local || k == .cell))) = true) :
    E1 C ks l μ (.Assign [.Name x px] (.ListComp elt [⟨target, iter, ifs, 0⟩] scope pos) spos) Ψ :=
  E1_compE f.ok nk (f.sto hx) cl ks' l₀ (hi.mono fun v μ' p => by
    obtain ⟨n, xs, Need, Inv, a, b, c, d, e⟩ := p
    exact ⟨n, xs, Need, Inv, a, b, c, fun i ys μ h1 h2 => ⟨(d i ys μ h1 h2).1, fun L ok => (d i ys μ h1 h2).2 _ (f.inner ok hn) (rm.inner ok) rfl⟩, e⟩) hclos In hcell hkind hnames hs (swaps_comp f hx hsw)
/-- the free names of a comprehension, each a cell of the frame -/
theorem Inside.of (f : Fr C names P) {scope : Scope} {cl : List (Str × Addr)} {ks' : List Str} {l₀ : List (Option V)} (h1 : ∀ p ∈ cl, C.env.cells.lookup p.1 = some p.2) (h2 : (cl.map (·.1)).Nodup)
    (h3 : ∀ x v, Lk ks' l₀ x v → Lk ks l x v ∧ names.lookup x = some .cell ∧ (scope.names.map fun x => if (x.2 == NameKind.free && names.lookup x.1 == some NameKind.cell) = true then (x.1, NameKind.cell) else x).lookup x = some .cell ∧ ∃ c, (x, c) ∈ cl ∧ cl.lookup x = some c) : Inside C ks l scope cl ks' l₀ :=
  ⟨h1, h2, fun x v h => by
    obtain ⟨a, b, c, d, e, g⟩ := h3 x v h
    exact ⟨a, by rw [f.kind b]; decide, .inl (by rw [f.relabel]; exact c), by rw [g, h1 _ e]⟩⟩
end
-- M20
section
variable {C : Cx} {ks : List Str} {l l' : List (Option V)} {μ μ' : Mem} {h₀ : Heap} {s : Shared}
/-- what the caller lends is written on: behind the call the caller has what the callee left -/
theorem lend_after {D : Cx} {ks' : List Str} {l₁ : List (Option V)} {lent μr ν ν₂ : Mem} {s' : Shared} (R : Rel C ks l (lent ++ μr) h₀ s) (hH : D.H = C.H) (hos : D.os = C.os)
    (r : Rel D ks' l₁ ν₂ (hideAll s.heap (lent.map (·.1))) s') (t : TK C.H s.heap s'.heap) (hν : List.Sublist ν ν₂) : Rel C ks l (ν ++ μr) h₀ s' := by
  have nd := R.nd
  have nd2 := (List.nodup_cons.mp nd).2
  have Rr : Rel C ks l μr h₀ s := R.drop (List.sublist_append_right _ _)
  have kp : ∀ b o, b ∉ lent.map (·.1) → s.heap.get? b = some o → s'.heap.get? b = some o := fun b o n e => r.keep _ _ (hideAll_get _ e n)
  have lentOff : ∀ b ∈ lent.map (·.1), b ∉ C.env.locals :: (C.env.cells.map (·.2) ++ μr.map (·.1)) ∧ h₀.get? b = none := fun b hb => by
    obtain ⟨p, hp, rfl⟩ := List.mem_map.mp hb
    refine ⟨fun q => ?_, (R.mem p (List.mem_append_left _ hp)).2⟩
    have hp1 : p.1 ∈ (lent ++ μr).map (·.1) := List.mem_map_of_mem (f := fun x : Addr × Ob => x.1) (List.mem_append_left _ hp)
    rcases List.mem_cons.mp q with e | q
    · exact (List.nodup_cons.mp nd).1 (e ▸ List.mem_append_right _ hp1)
    · rcases List.mem_append.mp q with q | q
      · exact (List.nodup_append.mp nd2).2.2 _ q _ hp1 rfl
      · have := (List.nodup_append.mp nd2).2.1
        rw [List.map_append] at this
        exact (List.nodup_append.mp this).2.2 _ hb _ q rfl
  have Ro : Rel C ks l μr h₀ s' := Rr.otherG (fp := lent.map (·.1)) lentOff kp t r.bare (r.os.trans (hos.trans R.os.symm)) (fun b hb => by
    by_cases h : C.H b
    · exact .inl h
    · exact .inr (r.off b (hH ▸ h)))
  refine Ro.adopt (fun p hp => ?_) (List.Nodup.sublist (hν.map _) r.ndm)
  obtain ⟨a, b⟩ := r.mem p (hν.subset hp)
  refine ⟨hH ▸ a, ?_⟩
  by_cases hl : p.1 ∈ lent.map (·.1)
  · exact lentOff _ hl
  · have hn : s.heap.get? p.1 = none := by
      cases e : s.heap.get? p.1 with
      | none => rfl
      | some o => rw [hideAll_get _ e hl] at b; cases b
    exact ⟨Rr.new_ne hn, Rr.new0 hn⟩
end
-- M21
section
variable {C : Cx} {P : Params} {ks : List Str} {l l' : List (Option V)} {μ μ' : Mem} {h₀ : Heap} {s : Shared}
end
-- W1
section
variable {prog : Program} {w : World} {M : Model} {A : Around} {E : Value → Shared → Prop} {s : Shared} {K : Frag} {x C : Addr} {ox : Obj} {od : Option Obj}
theorem sub_check {id n : String} {rest : List Value} {Q : Unit → Shared → Prop} (X : K.In s.heap) (I : InstAt s.heap x ox C od) (hm : mroIn K C (.type "list") = some true) (hsplit : splitId id = some ("list", n))
    (hkind : (Manifest.find? "list").bind (·.attrs.lookup n) = some .slot ∨ (Manifest.find? "list").bind (·.attrs.lookup n) = some .method) (ha : argsOk id ⟨.ref x :: rest, []⟩) (hq : Q () s) :
    wpAny M A (checkBuiltinCall id ⟨.ref x :: rest, []⟩) Q E s := by
  have hk : builtinKind id = (Manifest.find? "list").bind (·.attrs.lookup n) := by simp only [builtinKind, hsplit]
  rcases hkind with h | h <;>
  · simp only [checkBuiltinCall, hk, h, hsplit]
    refine wpAny_bind (m := isInstance _ _) (wpAny_bind (I.type.here ((looks_mroIn X hm).here ?_)))
    simp only [Bool.not_true, Bool.false_eq_true, if_false]
    cases hsig : Manifest.signature? id with
    | none => exact wpAny_pure hq
    | some sig =>
      simp only [argsOk, hsig] at ha
      have h2 : Bind.checkArgs id sig ⟨.ref x :: rest, []⟩ = pure () := ha
      show wpAny M A (Bind.checkArgs id sig ⟨.ref x :: rest, []⟩) Q E s
      rw [h2]; exact wpAny_pure hq
theorem call_sub {id n : String} {b : Builtin} {rest : List Value} {Q : Value → Shared → Prop} (X : K.In s.heap) (I : InstAt s.heap x ox C od) (hm : mroIn K C (.type "list") = some true) (hsplit : splitId id = some ("list", n))
    (hkind : (Manifest.find? "list").bind (·.attrs.lookup n) = some .slot ∨ (Manifest.find? "list").bind (·.attrs.lookup n) = some .method) (ha : argsOk id ⟨.ref x :: rest, []⟩) (hp : plainId id = true) (hb : entryFor table id = some b)
    (hc : wpAny (model prog w) A.in1 (b ⟨.ref x :: rest, []⟩) (fun fin s' => ∃ v, fin = .done (.ret v) ∧ Q v s') E s) : wpAny (model prog w) A (call (.builtin id) (.ref x :: rest)) Q E s := by
  refine wpAny_call (codeAny_call_builtin hp hb (sub_check X I hm hsplit hkind ha (wpAny_mono hc (fun fin s' h' => ?_) fun _ _ h' => h')))
  obtain ⟨v, rfl, hv⟩ := h'
  exact hv
/-- the list's own append, on an object of a class of lists -/
theorem acc_append {dx : Addr} {its : Array Value} {n : Nat} {v : Value} {Q : Value → Shared → Prop} (X : K.In s.heap) (I : InstAt s.heap x { cls := .ref C, dict := some dx, data := .seq its n } C od) (hm : mroIn K C (.type "list") = some true)
    (h : ∀ h', Heap.SameBut x s.heap h' → h'.get? x = some { cls := .ref C, dict := some dx, data := .seq (its.push v) (n + 1) } → Q .none { s with heap := h' }) (hsz : its.size ≤ 1000) :
    wpAny (model prog w) A (call (.builtin "list.append") [.ref x, v]) Q E s := by
  have z := sizeLine_eq
  refine call_sub X I hm (n := "append") (by decide +kernel) (.inr (by decide +kernel)) (args_list_append _ _) (by decide +kernel) entry_list_append ?_
  show wpAny _ _ (updateSeq x (·.push v) >>= fun _ => ret .none) _ _ s
  refine wpAny_bind (wpAny_updateSeq I.at_ rfl (wpAny_pure ⟨_, rfl, h _ (Heap.SameBut.update ..) ?_⟩) (by omega) (by simp; omega))
  rw [Heap.get?_update_self _ I.at_ rfl]
  simp [Obj.mapSeq]
end
-- W2
theorem slot_md_get : Slot "method_descriptor" "__get__" "method_descriptor.__get__" := .of (owner := "method_descriptor") (n := "__get__") (by rw [typeLookup_type, builtinLookup_eq_fast]; kernel_rfl) (by decide +kernel) (by decide +kernel) (by decide +kernel)
  (by first | exact .inl (by decide +kernel) | exact .inr (by decide +kernel)) (by rw [isSubtype_type]; kernel_rfl)
theorem slot_wd_get : Slot "wrapper_descriptor" "__get__" "wrapper_descriptor.__get__" := .of (owner := "wrapper_descriptor") (n := "__get__") (by rw [typeLookup_type, builtinLookup_eq_fast]; kernel_rfl) (by decide +kernel) (by decide +kernel) (by decide +kernel)
  (by first | exact .inl (by decide +kernel) | exact .inr (by decide +kernel)) (by rw [isSubtype_type]; kernel_rfl)
theorem entry_md_get : entryFor table "method_descriptor.__get__" = some Builtin.«method_descriptor.__get__» := entryFor_of_tree (by kernel_rfl)
theorem entry_wd_get : entryFor table "wrapper_descriptor.__get__" = some Builtin.«wrapper_descriptor.__get__» := entryFor_of_tree (by kernel_rfl)
theorem args_md_get (a b c : Value) : argsOk "method_descriptor.__get__" ⟨[a, b, c], []⟩ := by unfold argsOk; kernel_rfl
theorem args_wd_get (a b c : Value) : argsOk "wrapper_descriptor.__get__" ⟨[a, b, c], []⟩ := by unfold argsOk; kernel_rfl
theorem type_l_pop : typeOf (.builtin "list.pop") = pure (.type "method_descriptor") := by show builtinType _ = _; rw [builtinType_eq_fast]; kernel_rfl
theorem type_l_len : typeOf (.builtin "list.__len__") = pure (.type "wrapper_descriptor") := by show builtinType _ = _; rw [builtinType_eq_fast]; kernel_rfl
theorem type_l_init : typeOf (.builtin "list.__init__") = pure (.type "wrapper_descriptor") := by show builtinType _ = _; rw [builtinType_eq_fast]; kernel_rfl
section
variable {prog : Program} {w : World} {M : Model} {A : Around} {E : Value → Shared → Prop} {K : Frag} {x C : Addr} {ox : Obj} {od : Option Obj} {h : Heap} {g : Array GenState} {d : Drawn} {t : Nat} {os : OsState}
/-- a built-in method of list is bound to an object of a class of lists -/
structure Bnd (prog : Program) (w : World) (id bt : String) (x C : Addr) (h : Heap) : Prop where
  ty : ∃ T gid B, typeOf (.builtin id) = pure (.type T) ∧ Slot T "__get__" gid ∧ entryFor table gid = some B ∧ (∀ a b c, argsOk gid ⟨[a, b, c], []⟩) ∧
    ∀ (A : Around) (Q : Fin → Shared → Prop) (E : Value → Shared → Prop) g d t os, Q (.done (.ret (.ref h.objs.size))) ⟨h.push { cls := .type bt, data := .fields #[.builtin id, .ref x] }, g, d, t, os⟩ → wpAny (model prog w) A (B ⟨[.builtin id, .ref x, .ref C], []⟩) Q E ⟨h, g, d, t, os⟩
theorem bnd_pop (X : K.In h) (I : InstAt h x ox C od) (hm : mroIn K C (.type "list") = some true) : Bnd prog w "list.pop" "builtin_function_or_method" x C h := by
  refine ⟨"method_descriptor", _, _, type_l_pop, slot_md_get, entry_md_get, args_md_get, fun A Q E g d t os hq => ?_⟩
  unfold Builtin.«method_descriptor.__get__»
  refine wpAny_bind (wpAny_of_eq (a := (.builtin "list.pop", some (.ref x), some (.ref C))) rfl ?_)
  have e : Manifest.toldItsClass.contains "list.pop" = false := by decide +kernel
  simp only [e, Bool.false_eq_true, if_false]
  refine wpAny_bind ?_
  refine wpAny_bind (wpAny_of_eq (a := (Str.ofString "pop", .type "list")) (by kernel_rfl) ?_)
  refine wpAny_bind (m := isInstance _ _) (wpAny_bind (I.type.here ((looks_mroIn X hm).here ?_)))
  simp only [Bool.not_true, Bool.false_eq_true, if_false]
  refine wpAny_pure ?_
  exact wpAny_bind (wpAny_newObj_type (wpAny_pure hq) (by size_fits))
theorem bnd_len (X : K.In h) (I : InstAt h x ox C od) (hm : mroIn K C (.type "list") = some true) : Bnd prog w "list.__len__" "method-wrapper" x C h := by
  refine ⟨"wrapper_descriptor", _, _, type_l_len, slot_wd_get, entry_wd_get, args_wd_get, fun A Q E g d t os hq => ?_⟩
  unfold Builtin.«wrapper_descriptor.__get__»
  refine wpAny_bind (wpAny_of_eq (a := (.builtin "list.__len__", some (.ref x), some (.ref C))) rfl ?_)
  refine wpAny_bind ?_
  refine wpAny_bind (wpAny_of_eq (a := (Str.ofString "__len__", .type "list")) (by kernel_rfl) ?_)
  refine wpAny_bind (m := isInstance _ _) (wpAny_bind (I.type.here ((looks_mroIn X hm).here ?_)))
  simp only [Bool.not_true, Bool.false_eq_true, if_false]
  refine wpAny_pure ?_
  exact wpAny_bind (wpAny_newObj_type (wpAny_pure hq) (by size_fits))
theorem bnd_init (X : K.In h) (I : InstAt h x ox C od) (hm : mroIn K C (.type "list") = some true) : Bnd prog w "list.__init__" "method-wrapper" x C h := by
  refine ⟨"wrapper_descriptor", _, _, type_l_init, slot_wd_get, entry_wd_get, args_wd_get, fun A Q E g d t os hq => ?_⟩
  unfold Builtin.«wrapper_descriptor.__get__»
  refine wpAny_bind (wpAny_of_eq (a := (.builtin "list.__init__", some (.ref x), some (.ref C))) rfl ?_)
  refine wpAny_bind ?_
  refine wpAny_bind (wpAny_of_eq (a := (Str.ofString "__init__", .type "list")) (by kernel_rfl) ?_)
  refine wpAny_bind (m := isInstance _ _) (wpAny_bind (I.type.here ((looks_mroIn X hm).here ?_)))
  simp only [Bool.not_true, Bool.false_eq_true, if_false]
  refine wpAny_pure ?_
  exact wpAny_bind (wpAny_newObj_type (wpAny_pure hq) (by size_fits))
theorem super_ga {so D : Addr} {id bt : String} {l₀ l : List Value} {name : Str} {tk : Tok} {Q : Fin → Shared → Prop}
    (hso : h.get? so = some { cls := .type "super", dict := none, data := .fields #[.ref D, .ref x, .ref C], slots := #[] }) (hno : Looks (model prog w) h (opaqueClassAbove (.ref C)) none)
    (hC : Looks (model prog w) h (mroOf (.ref C)) l₀) (hl : (l₀.dropWhile (· != .ref D)).drop 1 = l) (X : K.In h)
    (hf : alongIn K name l = some (some (.builtin id))) (B : Bnd prog w id bt x C h) (hxC : x ≠ C) (hn : (name == ("__class__" : Str)) = false)
    (hq : Q (.done (.ret (.ref h.objs.size))) ⟨h.push { cls := .type bt, data := .fields #[.builtin id, .ref x] }, g, d, t, os⟩) :
    wpAny (model prog w) A (Builtin.«super.__getattribute__» ⟨[.ref so, .str name tk], []⟩) Q E ⟨h, g, d, t, os⟩ := by
  obtain ⟨T, gid, Bi, hT, sl, en, ar, hB⟩ := B.ty
  have hlk := sl.lookup
  have hne : (Value.ref x == Value.ref C) = false := by simp [hxC]
  have hTf : (⟨h, g, d, t, os⟩ : Shared).TypeIs (.builtin id) T := hT
  have hdt : ({ cls := .type "super", dict := none, data := .fields #[.ref D, .ref x, .ref C], slots := #[] } : Obj).data = .fields #[.ref D, .ref x, .ref C] := rfl
  have f0 : (#[.ref D, .ref x, .ref C] : Array Value)[0]? = some (.ref D) := rfl
  have f1 : (#[.ref D, .ref x, .ref C] : Array Value)[1]? = some (.ref x) := rfl
  have f2 : (#[.ref D, .ref x, .ref C] : Array Value)[2]? = some (.ref C) := rfl
  unfold Builtin.«super.__getattribute__»
  repeat (first
    | (with_reducible refine wpAny_field hso hdt f0 ?_) | (with_reducible refine wpAny_field hso hdt f1 ?_) | (with_reducible refine wpAny_field hso hdt f2 ?_)
    | (with_reducible refine ks_wpAny_notOpaque hno ?_)
    | (with_reducible refine Looks.at hC ?_; rw [hl])
    | (refine ks_forIn_along X (fun _ _ => rfl) rfl ?_ hf)
    | (with_reducible refine wpAny_typeOf hTf ?_)
    | (with_reducible refine wpAny_call_entry sl hTf en ?_ (ar _ _ _))
    | (refine hB _ _ _ _ _ _ _ ?_)
    | (with_reducible refine ⟨_, rfl, ?_⟩)
    | (simp only [hn, hne, Bool.or_false, Bool.false_eq_true, if_false])
    | wp_step
    | dsimp only)
  all_goals exact hq
end
-- W3
section
variable {prog : Program} {w : World} {M : Model} {A : Around} {E : Value → Shared → Prop} {K : Frag} {x C : Addr} {ox : Obj} {od : Option Obj} {h : Heap} {g : Array GenState} {d : Drawn} {t : Nat} {os : OsState}
theorem getMethod_super {so D : Addr} {id bt : String} {l₀ l : List Value} {name : Str} {pl : Sem Bool} {Q : Value × List Value → Shared → Prop}
    (hso : h.get? so = some { cls := .type "super", dict := none, data := .fields #[.ref D, .ref x, .ref C], slots := #[] }) (hno : Looks (model prog w) h (opaqueClassAbove (.ref C)) none)
    (hC : Looks (model prog w) h (mroOf (.ref C)) l₀) (hl : (l₀.dropWhile (· != .ref D)).drop 1 = l) (X : K.In h)
    (hf : alongIn K name l = some (some (.builtin id))) (B : Bnd prog w id bt x C h) (hxC : x ≠ C) (hn : (name == ("__class__" : Str)) = false)
    (hq : Q (.ref h.objs.size, []) ⟨h.push { cls := .type bt, data := .fields #[.builtin id, .ref x] }, g, d, t + 1, os⟩) :
    wpAny (model prog w) A (getMethod (.ref so) name pl) Q E ⟨h, g, d, t, os⟩ := by
  have hlk := F.ks_slot_super_ga.lookup
  have hcan := F.ks_canon_super_ga
  have hT : ∀ t', (⟨h, g, d, t', os⟩ : Shared).TypeIs (.ref so) "super" := fun _ => ⟨_, hso, rfl⟩
  unfold getMethod
  refine wpAny_bind (wpAny_specialOf (hT _) hlk ?_)
  show wpAny _ _ (if (Manifest.canonical "super.__getattribute__" != "object.__getattribute__") = true then _ else _) _ _ _
  rw [if_pos hcan]
  unfold getAttr getAttrBy
  refine wpAny_bind (wpAny_bind (wpAny_mkText (wpAny_holding (wpAny_bind (wpAny_typeOf (hT _) (wpAny_bind (wpAny_of_eq hlk ?_)))))))
  show wpAny _ _ (getAttrByItsOwn (.ref so) (.str name t) (.type "super") (.builtin "super.__getattribute__") true false) _ _ _
  unfold getAttrByItsOwn hookBefore callGetattribute boundAndCalled
  refine wpAny_bind (wpAny_of_eq (show (if onTheHeap (.type "super") then typeLookup (.type "super") "__getattr__" else pure none) = pure none from rfl) ?_)
  refine wpAny_bind (wpAny_attempt (wpAny_holding ?_))
  show wpAny _ _ (bindSpecial (.builtin "super.__getattribute__") (.ref so) >>= _) _ _ _
  refine wpAny_bind (wpAny_of_eq (F.ks_slot_super_ga.bind _) ?_)
  refine wpAny_mono (Q := fun v s' => v = .ref h.objs.size ∧ s' = ⟨h.push { cls := .type bt, data := .fields #[.builtin id, .ref x] }, g, d, t + 1, os⟩) (E := fun _ _ => False)
    (wpAny_call_entry F.ks_slot_super_ga (hT _) F.ks_entry_super_ga (super_ga hso hno hC hl X hf B hxC hn ⟨_, rfl, rfl, rfl⟩) (F.ks_gaArgs_super _ _)) (fun v s' hv => ?_) fun _ _ z => z.elim
  obtain ⟨rfl, rfl⟩ := hv
  exact wpAny_pure (wpAny_pure hq)
theorem bound_keeper {b : Addr} {id bt : String} {x : Addr} (hbt : bt = "builtin_function_or_method" ∨ bt = "method-wrapper") (hb : h.get? b = some { cls := .type bt, data := .fields #[.builtin id, .ref x] }) :
    ∃ k, (k = Keeper.frame ∨ k = Keeper.machine ∨ k = Keeper.boundFrame) ∧ Looks M h (keeperOf (.ref b)) k := by
  refine ⟨.machine, .inr (.inl rfl), fun A Q E s k q => ?_⟩
  unfold keeperOf
  refine wpAny_bind (wpAny_load (k _ _ hb) ?_)
  rcases hbt with rfl | rfl <;> exact wpAny_pure q
theorem call_bound {b x : Addr} {id bt : String} {Bi : Builtin} {s : Shared} {rest : List Value} {Q : Value → Shared → Prop} (hbt : bt = "builtin_function_or_method" ∨ bt = "method-wrapper") (hb : s.heap.get? b = some { cls := .type bt, data := .fields #[.builtin id, .ref x] })
    (hp : plainId id = true) (en : entryFor table id = some Bi) (hch : ∀ (A : Around) (Q : Unit → Shared → Prop) (E : Value → Shared → Prop), Q () s → wpAny (model prog w) A (checkBoundCall id ⟨.ref x :: rest, []⟩) Q E s)
    (hc : wpAny (model prog w) A.in1 (Bi ⟨.ref x :: rest, []⟩) (fun fin s' => ∃ v, fin = .done (.ret v) ∧ Q v s') E s) : wpAny (model prog w) A (call (.ref b) rest) Q E s := by
  refine wpAny_call (codeAny_of_tree ?_)
  show wpAny _ A.in1 (callAny (.ref b) ⟨rest, []⟩) _ _ _
  unfold callAny
  refine wpAny_bind (wpAny_load hb ?_)
  have fin : codeAny (model prog w) A (.builtin id ⟨.ref x :: rest, []⟩) (wants Q E) s := by
    refine codeAny_builtin en ?_
    rw [Around.under_plainId hp _]
    refine wpAny_mono hc (fun fin s' h' => ?_) fun _ _ h' => h'
    obtain ⟨v, rfl, hv⟩ := h'
    exact hv
  rcases hbt with rfl | rfl <;> exact wpAny_bind (hch _ _ _ (wpAny_pure ⟨plainId_quiet hp _, fin⟩))
theorem check_slot {id n : String} {x : Addr} {s : Shared} {rest : List Value} (hsplit : splitId id = some ("list", n)) (hkind : (Manifest.find? "list").bind (·.attrs.lookup n) = some .slot) (ha : argsOk id ⟨.ref x :: rest, []⟩)
    (A : Around) (Q : Unit → Shared → Prop) (E : Value → Shared → Prop) (q : Q () s) : wpAny M A (checkBoundCall id ⟨.ref x :: rest, []⟩) Q E s := by
  have hk : builtinKind id = some .slot := by simp only [builtinKind, hsplit, hkind]
  unfold checkBoundCall
  unfold argsOk at ha
  cases hsig : Manifest.signature? id with
  | none => exact wpAny_pure q
  | some sig =>
    rw [hsig] at ha
    have h2 : Bind.checkArgs id sig ⟨.ref x :: rest, []⟩ = pure () := ha
    simp only [hk, h2]
    exact wpAny_pure q
end
-- W4
section
variable {prog : Program} {w : World} {M : Model} {A : Around} {E : Value → Shared → Prop} {K : Frag} {x C : Addr} {ox : Obj} {od : Option Obj} {s : Shared}
theorem pop_sig : Manifest.signature? "list.pop" = some ⟨.positional, "list.pop", "pop", .self, [⟨"index", .posOnly, false⟩]⟩ := by
  rw [signature?_of (id := "list.pop") (n := ['p', 'o', 'p']) (o := ['t', 's', 'i', 'l']) (by kernel_rfl) PySem.F.owner_list]; kernel_rfl
theorem pop_args (f : String) (hf : (f != "*") = true) (x : Addr) : Bind.checkArgs "list.pop" ⟨.positional, f, "pop", .self, [⟨"index", .posOnly, false⟩]⟩ ⟨[.ref x], []⟩ = pure () := by
  unfold Bind.checkArgs Bind.printed
  simp only [hf, if_true]
  kernel_rfl
theorem not_star (a : String) : ((toString a ++ "." ++ toString "pop") != "*") = true := by
  rw [bne_iff_ne]
  intro h
  have := congrArg String.length h
  simp at this
  have h4 : "pop".length = 3 := rfl
  have h5 : "*".length = 1 := rfl
  have h6 : ".".length = 1 := rfl
  have : (toString a).length + ".".length + (toString "pop").length = 1 := by
    have := congrArg String.length h
    rw [String.length_append, String.length_append] at this
    exact this
  have h7 : (toString "pop").length = 3 := rfl
  omega
theorem check_pop (X : K.In s.heap) (I : InstAt s.heap x ox C od) (hmod : mroIn K C (.type "module") = some false) (hty : typeIn K (.ref C) = some (.type "type")) (hcls : (clsIn K C).isSome = true)
    (A : Around) (Q : Unit → Shared → Prop) (E : Value → Shared → Prop) (q : Q () s) : wpAny M A (checkBoundCall "list.pop" ⟨[.ref x], []⟩) Q E s := by
  have hk : builtinKind "list.pop" = some .method := by decide +kernel
  have hv : Manifest.varargsMethods.contains "list.pop" = false := by decide +kernel
  obtain ⟨cd, hcd⟩ := Option.isSome_iff_exists.mp hcls
  have hno : ∀ c, ox.data ≠ .cls c := fun c e => by have := I.no; unfold notCls at this; rw [e] at this; exact Bool.noConfusion this
  unfold checkBoundCall
  simp only [hk, pop_sig]
  refine wpAny_bind (m := isInstance _ _) (wpAny_bind (I.type.here ((looks_mroIn X hmod).here ?_)))
  simp only [hv, Bool.or_false, Bool.false_eq_true, if_false]
  refine wpAny_bind (ks_wpAny_isType_inst I.at_ hno ?_)
  simp only [Bool.false_eq_true, if_false]
  refine wpAny_bind (I.type.here ?_)
  dsimp only
  refine wpAny_bind ((looks_clsIn X hcd).here ?_)
  refine wpAny_bind ((looks_typeIn X hty).here ?_)
  rw [if_pos (by decide)]
  exact wpAny_of_eq (pop_args _ (not_star _) x) q
/-- the list's own methods, on an object of a class of lists -/
theorem len_body {ox : Obj} {its : Array Value} {n : Nat} {Q : Fin → Shared → Prop} (ho : s.heap.get? x = some ox) (hd : ox.data = .seq its n) (hq : ∀ t k, Q (.done (.ret (.int its.size t))) { s with toks := k }) :
    wpAny M A (Builtin.«list.__len__» ⟨[.ref x], []⟩) Q E s := by
  unfold Builtin.«list.__len__» seqSize
  refine wpAny_bind (wpAny_pure ?_)
  refine wpAny_bind (m := loadPart x (some keysPart) >>= _) (wpAny_bind (wpAny_loadPart ho ?_))
  rw [hd]
  refine wpAny_pure ?_
  exact wpAny_bind (wpAny_mkInt (wpAny_pure (hq _ _)))
theorem pop_body {dx : Addr} {its : Array Value} {v : Value} {n : Nat} {Q : Fin → Shared → Prop} (ho : s.heap.get? x = some { cls := .ref C, dict := some dx, data := .seq (its.push v) n }) (hz : its.size ≤ 1000)
    (hq : ∀ h', Heap.SameBut x s.heap h' → h'.get? x = some { cls := .ref C, dict := some dx, data := .seq its (n + 1) } → Q (.done (.ret v)) { s with heap := h' }) :
    wpAny (model prog w) A (Builtin.«list.pop» ⟨[.ref x], []⟩) Q E s := by
  have z := sizeLine_eq
  unfold Builtin.«list.pop»
  refine wpAny_bind (wpAny_of_eq (a := (.ref x, [])) rfl ?_)
  refine wpAny_bind (wpAny_pure ?_)
  have hfit : Builtin.List.listFitsIndex (-1) = true := by decide
  simp only [hfit, Bool.not_true, Bool.false_eq_true, if_false]
  refine wpAny_bind (wpAny_listItems ho rfl ?_)
  have he : (its.push v).isEmpty = false := by simp
  have hi : (seqIndex? (-1) (its.push v).size) = some its.size := by
    unfold seqIndex?
    simp
    omega
  have hera : (its.push v).eraseIdxIfInBounds its.size = its := by
    apply Array.ext'
    simp [Array.eraseIdxIfInBounds]
    rw [← Array.length_toList, List.eraseIdx_append_of_length_le (Nat.le_refl _), Nat.sub_self]
    simp
  simp only [he, Bool.false_eq_true, if_false, hi, Option.bind_some, Array.getElem?_push_size, Option.map_some]
  refine wpAny_bind (m := updateSeq x _) (wpAny_updateSeq ho rfl (wpAny_pure (hq _ (Heap.SameBut.update ..) ?_)) (by simp; omega) (by rw [hera]; omega))
  rw [Heap.get?_update_self _ ho rfl]
  simp [Obj.mapSeq, hera]
theorem init_body {dx : Addr} {n : Nat} {Q : Fin → Shared → Prop} (ho : s.heap.get? x = some { cls := .ref C, dict := some dx, data := .seq #[] n })
    (hq : ∀ h', Heap.SameBut x s.heap h' → h'.get? x = some { cls := .ref C, dict := some dx, data := .seq #[] n } → Q (.done (.ret .none)) { s with heap := h' }) :
    wpAny (model prog w) A (Builtin.«list.__init__» ⟨[.ref x], []⟩) Q E s := by
  have z := sizeLine_eq
  unfold Builtin.«list.__init__»
  refine wpAny_bind (wpAny_listItems ho rfl ?_)
  refine wpAny_bind (m := updateSeq x _) (wpAny_updateSeq ho rfl ?_ (by simp) (by simp))
  refine wpAny_bind (wpAny_pure ?_)
  refine wpAny_pure (hq _ (Heap.SameBut.update ..) ?_)
  rw [Heap.get?_update_self _ ho rfl]
  simp [Obj.mapSeq]
end
-- W5
abbrev accNew (C dx : Addr) : Obj := { cls := .ref C, dict := some dx, data := .seq #[] }
/-- a class that list makes -/
noncomputable def makesL (K : Frag) (C : Addr) : Bool := match K.lookup C with
  | some ⟨_, _, .cls cd, sl⟩ => !cd.abstract && !cd.hasDel && (sl.toList[4]?).join == some (.builtin "list.__new__") && !cd.mro.isEmpty && cd.mro.contains (.ref C) && cd.mro.contains (.type "list") &&
      specialIn K (.ref C) "__call__" == some (some (.builtin "type.__call__")) && instIn K (.ref C) (.type "type") == some true
  | _ => false
structure MakesL (M : Model) (h : Heap) (C : Addr) : Prop where
  obj : ∃ oc od cd sl, h.get? C = some ⟨oc, od, .cls cd, sl⟩ ∧ cd.abstract = false ∧ cd.hasDel = false ∧ cd.mro.isEmpty = false
  made : Looks M h (Bind.madeBy (.ref C)) (some "list.__new__")
  base : Looks M h (Bind.staticBase (.ref C)) (.ref C)
  self : Looks M h (isSubtype (.ref C) (.ref C)) true
  top : Looks M h (isSubtype (.ref C) (.type "list")) true
  call : Looks M h (specialOf (.ref C) "__call__") (some (.builtin "type.__call__"))
  typ : Looks M h (isInstance (.ref C) (.type "type")) true
theorem makesL_of {K : Frag} {M : Model} {h : Heap} (X : K.In h) {C : Addr} (e : makesL K C = true) : MakesL M h C := by
  unfold makesL at e
  split at e
  · rename_i oc od cd sl ho
    simp only [Bool.and_eq_true, Bool.not_eq_true', beq_iff_eq] at e
    obtain ⟨⟨⟨⟨⟨⟨⟨e1, e2⟩, e3⟩, e4⟩, e5⟩, e6⟩, e7⟩, e8⟩ := e
    have hc : clsIn K C = some cd := by unfold clsIn; rw [ho]
    have hm : Looks M h (mroOf (.ref C)) cd.mro := (looks_clsIn X hc).andThen .now
    obtain ⟨c, l, hl⟩ : ∃ c l, cd.mro = c :: l := by cases q : cd.mro with | nil => rw [q] at e4; cases e4 | cons c l => exact ⟨c, l, rfl⟩
    have made : Looks M h (Bind.madeBy (.ref C)) (some "list.__new__") := by
      intro A Q E s k q
      unfold Bind.madeBy
      refine wpAny_bind (hm A _ E s k ?_)
      rw [hl, List.forIn_cons]
      refine wpAny_bind (wpAny_bind (wpAny_bind (wpAny_bind (wpAny_loadPart (k _ _ (X _ _ ho)) (wpAny_pure ?_)))))
      dsimp only
      rw [← Array.getElem?_toList, e3]
      exact wpAny_pure (wpAny_pure (wpAny_pure q))
    refine ⟨⟨oc, od, cd, sl, X _ _ ho, e1, e2, e4⟩, made, ?_, looks_mroIn X ?_, looks_mroIn X ?_, looks_specialIn X e7, looks_instIn X e8⟩
    · intro A Q E s k q
      unfold Bind.staticBase
      refine wpAny_bind (hm A _ E s k ?_)
      rw [hl, List.forIn_cons]
      exact wpAny_bind (wpAny_bind (wpAny_bind (made A _ E s k (wpAny_pure (wpAny_pure (wpAny_pure q))))))
    · unfold mroIn; rw [hc, Option.bind_some, if_neg (by rw [e4]; decide), e5]
    · unfold mroIn; rw [hc, Option.bind_some, if_neg (by rw [e4]; decide), e6]
  · cases e
theorem ln_kind : builtinKind "list.__new__" = some .builtinFn := by decide +kernel
theorem ln_split : splitId "list.__new__" = some ("list", "__new__") := by decide +kernel
theorem ln_sig : Manifest.signature? "list.__new__" = some ⟨.any, "list", "list", .cls, [⟨"args", .varPos, false⟩, ⟨"kwargs", .varKw, false⟩]⟩ := by
  rw [signature?_of (id := "list.__new__") (n := ['_', '_', 'w', 'e', 'n', '_', '_']) (o := ['t', 's', 'i', 'l']) (by kernel_rfl) PySem.F.owner_list]
  kernel_rfl
theorem ln_args (a : Value) : Bind.checkArgs "list.__new__" ⟨.any, "list", "list", .cls, [⟨"args", .varPos, false⟩, ⟨"kwargs", .varKw, false⟩]⟩ ⟨[a], []⟩ = pure () := by kernel_rfl
section
variable {prog : Program} {w : World} {A : Around} {K : Frag} {C : Addr} {R : Result → Shared → Prop} {h : Heap} {g : Array GenState} {d : Drawn} {t : Nat} {os : OsState}
theorem new_L (Y : MakesL (model prog w) h C)
    (hq : R (.ok (.ret (.ref (h.objs.size + 1)))) ⟨(h.push emptyDict).push (accNew C h.objs.size), g, d, t, os⟩) :
    codeAny (model prog w) A (.call (.builtin "list.__new__") ⟨[.ref C], []⟩) R ⟨h, g, d, t, os⟩ := by
  obtain ⟨⟨oc, od, cd, sl, hC, e1, e2, e4⟩, made, base, self, top, call, typ⟩ := Y
  refine codeAny_call_builtin_code (Code.quiet_builtin _ (by decide +kernel)) ?_
  simp only [checkBuiltinCall, ln_kind, ln_split, ln_sig, ln_args]
  have hT : Looks (model prog w) h (isType (.ref C)) true := fun A Q E s k q => by
    unfold isType loadHead
    refine wpAny_bind (wpAny_loadPart (k _ _ hC) ?_)
    exact wpAny_pure q
  rw [if_pos (by decide)]
  refine wpAny_bind (hT.at ?_)
  simp only [Bool.not_true, Bool.false_eq_true, if_false]
  refine wpAny_bind (top.at ?_)
  simp only [Bool.not_true, Bool.false_eq_true, if_false]
  refine wpAny_bind (base.at ?_)
  refine wpAny_bind (made.at ?_)
  show wpAny _ _ (if (Manifest.canonical "list.__new__" != Manifest.canonical "list.__new__") = true then _ else _) _ _ _
  rw [if_neg (by simp)]
  refine wpAny_pure ?_
  have hown := owner_list_new
  refine codeAny_builtin_stack PySem.F.entry_list_new rfl fun p st => ?_
  dsimp only
  rw [hown]
  refine wpAny_bind (hT.at ?_)
  simp only [Bool.not_true, Bool.false_eq_true, if_false]
  refine wpAny_bind (top.at ?_)
  simp only [Bool.not_true, Bool.false_eq_true, if_false]
  refine wpAny_bind (wpAny_pure ?_)
  rw [if_neg (show ¬ ((!typeHasDict (Value.ref C)) = true) from Bool.false_ne_true)]
  refine wpAny_bind (m := newObj (.type "dict") _ _) (wpAny_newObj_type ?_ (by size_fits))
  dsimp only
  refine wpAny_bind (m := newObjAsIs (.ref C) (.seq #[]) (some h.objs.size)) ?_
  unfold newObjAsIs classHasDel
  refine wpAny_bind (wpAny_alloc (wpAny_bind (wpAny_bind (wpAny_load (Heap.get?_push_of_some _ (Heap.get?_push_of_some _ hC)) (wpAny_pure ?_)))))
  rw [e2]
  refine wpAny_pure (wpAny_pure ?_)
  show R _ _
  rw [Heap.size_push]
  exact hq
end
-- W6
section
variable {prog : Program} {w : World} {A : Around} {K : Frag} {C : Addr} {R : Result → Shared → Prop} {h : Heap} {g : Array GenState} {d : Drawn} {t : Nat} {os : OsState}
theorem make_L {init : Value} (Y : MakesL (model prog w) h C) (hi : Looks (model prog w) h (typeLookup (.ref C) "__init__") (some init))
    (hb : ∀ self, Looks (model prog w) h (bindSpecial init self) (init, [self]))
    (hq : codeAny (model prog w) (A.under (.builtin "type.__call__" ⟨[.ref C], []⟩)) (.call init ⟨[.ref (h.objs.size + 1)], []⟩) (InitBack (h.objs.size + 1) R) ⟨(h.push emptyDict).push (accNew C h.objs.size), g, d, t, os⟩) :
    codeAny (model prog w) A (.call (.ref C) ⟨[], []⟩) R ⟨h, g, d, t, os⟩ := by
  have Y' := Y
  obtain ⟨⟨oc, od, cd, sl, hC, e1, e2, e4⟩, made, base, self, top, call, typ⟩ := Y
  refine codeAny_of_tree ?_
  show wpAny _ _ (callAny (.ref C) _) _ _ _
  refine nd_load hC ?_
  show wpAny _ _ (callAny.viaDunder (.ref C) _) _ _ _
  unfold callAny.viaDunder
  refine wpAny_bind (call.at ?_)
  dsimp only
  rw [tc_bind]
  refine wpAny_bind (wpAny_pure (wpAny_bind (wpAny_pure ?_)))
  refine wpAny_pure (a := Fin.again (.call (.builtin "type.__call__") ⟨[.ref C], []⟩)) (And.intro rfl ?_)
  refine codeAny_call_builtin_at (Code.quiet_builtin _ (by decide +kernel)) entry_typeCall (PySem.W.check_slot tc_kind tc_split typ (tc_args _ _ _) ?_)
  unfold Builtin.«type.__call__»
  have hm : Looks (model prog w) h (mroOf (.ref C)) cd.mro := ((Looks.ld (part := none) hC).andThen .now).andThen .now
  repeat (first | simp only [e4, Bool.false_eq_true, if_false] | with_reducible refine wpAny_call ?_ | lk)
  refine new_L Y' ?_
  have k : ∀ b o, h.get? b = some o → ((h.push emptyDict).push (accNew C h.objs.size)).get? b = some o := fun b o e => Heap.get?_push_of_some _ (Heap.get?_push_of_some _ e)
  have hx : ((h.push emptyDict).push (accNew C h.objs.size)).get? (h.objs.size + 1) = some (accNew C h.objs.size) := by heap_get
  have t1 : Looks (model prog w) ((h.push emptyDict).push (accNew C h.objs.size)) (typeOf (.ref (h.objs.size + 1))) (.ref C) := (Looks.ld hx).andThen .now
  have s1 := self.keeps k
  have i1 := hi.keeps k
  have b1 := (hb (.ref (h.objs.size + 1))).keeps k
  unfold isInstance callSpecial? specialOf
  repeat (first | with_reducible refine wpAny_call ?_ | lk)
  refine codeAny_mono hq fun r s' z => ?_
  rcases r with e | (v | _ | _ | _) <;> first | exact z | exact z.elim | skip
  obtain ⟨rfl, z⟩ := z
  exact wpAny_pure (wpAny_pure z)
end
-- W7
section
open Builtin Builtin.ObjectAttr
noncomputable def listClass (K : Frag) (C : Addr) : Bool := (clsIn K C).any fun cd => cd.mro == [.ref C, .type "list", .type "object"] && cd.hasDict
section
variable {prog : Program} {w : World} {A : Around} {K : Frag} {x C dx : Addr} {E : Value → Shared → Prop} {s : Shared}
theorem osa_L {ox : Obj} {od : Option Obj} {name : Str} {tk : Tok} {v : Value} {R : Result → Shared → Prop} (X : K.In s.heap) (I : InstAt s.heap x ox C od) (hp : listClass K C = true) (ht : findIn K (.ref C) name = some none)
    (h : ∀ b, wpAny (model prog w) A.in1 (storeInOwnDict (.ref x) (.ref C) (.str name tk) name v b)
      (fun fin s' => match fin with | .done f => R (.ok f) s' | .again c' => c'.quiet = true ∧ codeAny (model prog w) A c' R s') (fun e s' => R (.error e) s') s) :
    codeAny (model prog w) A (.call (.builtin "object.__setattr__") ⟨[.ref x, .str name tk, v], []⟩) R s := by
  have SF := PySem.F.store_object
  obtain ⟨cd, hc, ho⟩ := any_some hp
  rw [Bool.and_eq_true, beq_iff_eq] at ho
  have ne : cd.mro.isEmpty = false := by rw [ho.1]; rfl
  have sub : Looks (model prog w) s.heap (isInstance (.ref x) (.type "object")) true := I.type.andThen (looks_mroIn X (by unfold mroIn; rw [hc, Option.bind_some, if_neg (by rw [ne]; decide), ho.1]; simp))
  refine codeAny_call_builtin SF.slot.plain SF.entry (@PySem.W.check_slot (model prog w) _ _ s "object.__setattr__" "object" "__setattr__" (.ref x) [.str name tk, v] [] _ SF.kind SF.split sub (SF.args (.ref x) (.str name tk) v) ?_)
  have hm : Looks (model prog w) s.heap (mroOf (.ref C)) cd.mro := (looks_clsIn X hc).andThen .now
  have L3 : Looks (model prog w) s.heap (storeTaker? none) none := .now
  rw [osa_eq, refuse_eq]
  refine wpAny_bind (wpAny_bind (I.type.here (wpAny_bind (hm.here ?_))))
  have hr : refuseLoop (.ref x) "__setattr__" cd.mro = pure () := by
    rw [ho.1, refuseLoop_ref]
    kernel_rfl
  rw [hr]
  refine wpAny_pure (wpAny_bind (I.type.here (wpAny_bind ((looks_findIn X ht).here (wpAny_bind (L3.here ?_))))))
  exact h _
theorem set_ini {its : Array Value} {nn : Nat} {name : Str} {v : Value} {Q : Unit → Shared → Prop} (X : K.In s.heap) (hx : s.heap.get? x = some { cls := .ref C, dict := some dx, data := .seq its nn }) (hd : s.heap.get? dx = some emptyDict)
    (hs : findIn K (.ref C) "__setattr__" = some (some (.builtin "object.__setattr__"))) (hp : listClass K C = true) (ht : findIn K (.ref C) name = some none)
    (h : ∀ h' tk t hsh, Heap.SameBut dx s.heap h' → h'.get? dx = some (dictOf [⟨hsh, .str name t, v⟩] 1) → Q () { s with heap := h', toks := tk }) : wpAny (model prog w) A (setAttr (.ref x) name v) Q E s := by
  have I : InstAt s.heap x { cls := .ref C, dict := some dx, data := .seq its nn } C (some emptyDict) := ⟨hx, rfl, rfl, hd⟩
  refine set_plain X I hs (osa_L (s := { s with toks := s.toks + 1 }) X I hp ht fun b => ?_)
  obtain ⟨cd, hc, ho⟩ := any_some hp
  rw [Bool.and_eq_true] at ho
  refine wpAny_bind (wpAny_pure (wpAny_bind (wpAny_bind (wpAny_loadPart hx (wpAny_bind (looks_clsIn (M := model prog w) X hc _ _ _ _ (fun _ _ e => e) ?_))))))
  rw [ho.2]
  refine wpAny_pure (a := some dx) (wpAny_bind (wpAny_pure (wpAny_bind ?_)))
  unfold nsSet
  refine wpAny_bind (wpAny_bind (wpAny_askSetting (wpAny_pure (wpAny_bind (wpAny_mkText (wpAny_bind (wpAny_loadPart hd ?_)))))))
  dsimp only
  have c : (!(#[] : Array DictEntry).any (·.key.isStr name) && (#[] : Array DictEntry).any (·.refKey)) = false := by simp
  rw [aRefKeyMayBeTheName_at, c]
  refine wpAny_updatePart hd ?_
  have e : Obj.putName name (PyData.keyHash w.params name) (.str name (s.toks + 1)) v emptyDict = dictOf [⟨PyData.keyHash w.params name, .str name (s.toks + 1), v⟩] 1 := putName_dict name _ _ v [] 0
  have D' := Heap.get?_update_self (h := s.heap) (Obj.putName name (PyData.keyHash w.params name) (.str name (s.toks + 1)) v) hd (by rw [e]; rfl)
  rw [e] at D'
  refine wpAny_bind (wpAny_lookBehind D' (pastItsLine_dict (by simp [sizeLine_eq])) ?_)
  exact wpAny_pure (h _ _ _ _ (Heap.SameBut.update ..) D')
end
end
-- W8
section
open Builtin Builtin.ObjectAttr
section
variable {prog : Program} {w : World} {M : Model} {A : Around} {K : Frag} {x C dx : Addr} {E : Value → Shared → Prop} {s : Shared} {ox : Obj} {od : Option Obj}
/-- the acc's dict: one name alone -/
noncomputable def IniD (o : Obj) : Prop := ∃ hsh t u, o = dictOf [⟨hsh, .str (Str.ofString "_initial_size") t, .int 0 u⟩] 1
theorem IniD.shadow {o : Obj} (h : IniD o) {name : Str} (hn : ((Str.ofString "_initial_size") == name) = false) : shadowIn (some o) name = some false := by
  obtain ⟨hsh, t, u, rfl⟩ := h
  show Option.map (fun x : Option Value => x.isSome) (getL name [⟨hsh, .str (Str.ofString "_initial_size") t, .int 0 u⟩]) = some false
  unfold getL
  have e : Value.isStr (.str (Str.ofString "_initial_size") t) name = false := hn
  simp [e, DictEntry.refKey]
theorem IniD.look {o : Obj} (h : IniD o) : ∃ u, lookIn "_initial_size" o = some (some (.int 0 u)) := by
  obtain ⟨hsh, t, u, rfl⟩ := h
  exact ⟨u, rfl⟩
end
end
-- W9
/-- an object that holds items -/
noncomputable def SeqAtH (h : Heap) (a : Addr) (items : Array Value) : Prop := ∃ o n, h.get? a = some o ∧ o.data = .seq items n
theorem SeqAtH.keep {h h' : Heap} {a : Addr} {items : Array Value} (x : SeqAtH h a items) (k : ∀ o, h.get? a = some o → h'.get? a = some o) : SeqAtH h' a items := let ⟨o, n, e, d⟩ := x; ⟨o, n, k o e, d⟩
section
variable {prog : Program} {w : World} {M : Model} {A : Around} {K : Frag} {x C dx : Addr} {E : Value → Shared → Prop} {s : Shared} {ox : Obj} {od : Option Obj}
theorem slotL_iter : Slot "list" "__iter__" "list.__iter__" := slot_list_iter
theorem pyIter_acc {Q : Value → Shared → Prop} (X : K.In s.heap) (I : InstAt s.heap x ox C od) (hm : mroIn K C (.type "list") = some true) (hf : findIn K (.ref C) "__iter__" = some (some (.builtin "list.__iter__")))
    (hQ : Q (.ref s.heap.objs.size) { s with heap := s.heap.push { cls := .type "list_iterator", data := .fields #[.ref x, .int 0 0] } }) : wpAny (model prog w) A (pyIter (.ref x)) Q E s := by
  have hc : wpAny (model prog w) A (call (.builtin "list.__iter__") [.ref x]) (fun it s' => ∃ T' r, s'.TypeIs it T' ∧ typeLookup (.type T') "__next__" = pure (some r) ∧ Q it s') E s := by
    refine call_sub X I hm (n := "__iter__") (by decide +kernel) (.inl (by decide +kernel)) (args_list_iter _) (by decide +kernel) entry_list_iter ?_
    show wpAny _ _ (do ret (← newFields "list_iterator" [.ref x, rawInt 0])) _ _ s
    exact wpAny_bind (wpAny_newObj_type (wpAny_pure ⟨_, rfl, "list_iterator", _, ⟨_, Heap.get?_push_size _ rfl, rfl⟩, slot_listiter_next.lookup, hQ⟩))
  have hb : wpAny (model prog w) A (callSpecialIfBoundUnlessNone? (.ref x) "__iter__" (do rule "iter.none"; raiseError "TypeError" s!"'{← typeNameOf (.ref x)}' object is not iterable")) (fun r s' => match r with | some it => (∃ T' r, s'.TypeIs it T' ∧ typeLookup (.type T') "__next__" = pure (some r) ∧ Q it s') | none => False) E s := by
    simp only [callSpecialIfBoundUnlessNone?, bindSpecialIfBound?]
    refine wpAny_holding (wpAny_bind (wpAny_bind (wpAny_bind (I.type.here ((looks_findIn X hf).here ?_)))))
    simp only [slotL_iter.bind]
    refine wpAny_bind (wpAny_askSetting (wpAny_ite ?_))
    have fin : ∀ {refuse : Sem Value}, wpAny (model prog w) A (if (Value.builtin "list.__iter__" == Value.none) = true then (refuse >>= fun v => pure (some v)) else (call (.builtin "list.__iter__") [.ref x] >>= fun v => pure (some v))) (fun r s' => match r with | some it => (∃ T' r, s'.TypeIs it T' ∧ typeLookup (.type T') "__next__" = pure (some r) ∧ Q it s') | none => False) E s := by
      intro refuse
      rw [if_neg (by intro h; exact Bool.noConfusion h)]
      exact wpAny_bind (wpAny_mono hc (fun v s' h' => wpAny_pure h') fun _ _ h' => h')
    split
    · exact wpAny_bind (wpAny_pure (wpAny_pure fin))
    · exact wpAny_tryCatch (wpAny_bind (wpAny_pure (wpAny_pure fin)))
  unfold pyIter
  refine wpAny_bind (wpAny_bind (I.type.here ((looks_findIn X hf).here ?_)))
  refine wpAny_bind (wpAny_mono hb (fun r s' h' => ?_) fun _ _ x => x)
  cases r with
  | none => exact h'.elim
  | some it =>
    obtain ⟨T', r, hT', hl, hQ⟩ := h'
    exact wpAny_bind (wpAny_specialOf hT' hl (wpAny_pure hQ))
theorem next_item {it : Addr} {i : Nat} {items : Array Value} {v : Value} {Q : Option Value → Shared → Prop} (hit : s.heap.IsListIter it x i) (hl : SeqAtH s.heap x items) (hx : items[i]? = some v)
    (hQ : ∀ h', h'.IsListIter it x (i + 1) → Heap.SameBut it s.heap h' → Q (some v) { s with heap := h' }) : wpAny (model prog w) A (pyNext (.ref it)) Q E s := by
  obtain ⟨o, ho, hc, hd⟩ := id hit
  obtain ⟨ol, nl, hol, hdl⟩ := hl
  unfold pyNext
  refine wpAny_bind (wpAny_attempt (wpAny_callSpecial?_slot (name := Str.ofString "__next__") hit.typeIs slot_listiter_next (wpAny_call_entry slot_listiter_next hit.typeIs entry_listiter_next ?_ (args_listiter_next _))))
  show wpAny _ _ (field (.ref it) 0 >>= _) _ _ s
  refine wpAny_bind (wpAny_field ho hd (x := .ref x) rfl ?_)
  show wpAny _ _ (if (Value.ref x == Value.none) = true then _ else _) _ _ s
  rw [if_neg (show ¬ ((Value.ref x == Value.none) = true) from Bool.false_ne_true)]
  show wpAny _ _ (field (.ref it) 1 >>= _) _ _ s
  refine wpAny_bind (wpAny_field ho hd (x := .int i 0) rfl ?_)
  show wpAny _ _ (seqItems? (.ref x) >>= _) _ _ s
  refine wpAny_bind (wpAny_seqItems hol hdl ?_)
  simp only [Int.toNat_natCast, hx]
  refine wpAny_bind (wpAny_setField ho hd (by simp) (wpAny_pure ⟨v, rfl, wpAny_pure (hQ _ ?_ (Heap.SameBut.update ..))⟩))
  exact ⟨_, Heap.get?_update_self _ ho (Obj.isFreed_of_fields (Obj.data_mapFields hd _)), (Obj.cls_mapFields ..).trans hc, by rw [Obj.data_mapFields hd]; simp [rawInt]⟩
theorem next_end {it : Addr} {i : Nat} {items : Array Value} {Q : Option Value → Shared → Prop} (hh : A.handled = none) (hit : s.heap.IsListIter it x i) (hl : SeqAtH s.heap x items) (hx : items[i]? = none)
    (hQ : ∀ h', Heap.ExtBut it s.heap h' → Q none { s with heap := h' }) : wpAny (model prog w) A (pyNext (.ref it)) Q E s := by
  obtain ⟨o, ho, hc, hd⟩ := id hit
  obtain ⟨ol, nl, hol, hdl⟩ := hl
  unfold pyNext
  refine wpAny_bind (wpAny_attempt (wpAny_callSpecial?_slot (name := Str.ofString "__next__") hit.typeIs slot_listiter_next (wpAny_call_entry slot_listiter_next hit.typeIs entry_listiter_next ?_ (args_listiter_next _))))
  show wpAny _ _ (field (.ref it) 0 >>= _) _ _ s
  refine wpAny_bind (wpAny_field ho hd (x := .ref x) rfl ?_)
  show wpAny _ _ (if (Value.ref x == Value.none) = true then _ else _) _ _ s
  rw [if_neg (show ¬ ((Value.ref x == Value.none) = true) from Bool.false_ne_true)]
  show wpAny _ _ (field (.ref it) 1 >>= _) _ _ s
  refine wpAny_bind (wpAny_field ho hd (x := .int i 0) rfl ?_)
  show wpAny _ _ (seqItems? (.ref x) >>= _) _ _ s
  refine wpAny_bind (wpAny_seqItems hol hdl ?_)
  simp only [Int.toNat_natCast, hx]
  refine wpAny_bind (wpAny_rule (wpAny_bind (wpAny_setField ho hd (by simp) ?_)))
  show wpAny _ _ (newExc (.type "StopIteration") [] >>= _) _ _ _
  refine wpAny_bind ?_
  simp only [newExc, newTuple]
  refine wpAny_bind (wpAny_newObj_type ?_ (by size_fits))
  refine wpAny_bind (m := firstArgMember _ _) (wpAny_of_eq (a := Value.none) (by first | rfl | (simp only [firstArgMember]; rfl)) ?_)
  refine wpAny_newObj_type ?_ (by size_fits)
  simp only [raiseNew]
  refine wpAny_bind (wpAny_handled ?_)
  rw [show A.in1.handled = none from hh]
  refine wpAny_bind (wpAny_pure (wpAny_throw ?_))
  refine wpAny_bind (wpAny_isInstance (T := "StopIteration") (b := true) ⟨_, Heap.get?_push_size _ rfl, rfl⟩ isSubtype_stop ?_)
  exact wpAny_pure (hQ _ (((Heap.SameBut.update ..).extBut.push _).push _))
/-- pairs, all written -/
noncomputable def PairsIn (h : Heap) (items : Array Value) (Ts : Nat → Addr) (vals : Nat → Array Value) : Prop := ∀ k, k < items.size → items[k]? = some (.ref (Ts k)) ∧ IsTup h (Ts k) (vals k)
theorem acc_walks {I : Addr} {n : Nat} (hxI : x < n) (hI : I = n) {items : Array Value} {Ts : Nat → Addr} {vals : Nat → Array Value} (hT : ∀ k, k < items.size → items[k]? = some (.ref (Ts k)) ∧ Ts k < n) (hh : A.handled = none) :
    WalksU prog w A I (List.range (n + 1)) [I] items.size (fun j v => v = vals j)
      (fun j h => h.IsListIter I x j ∧ SeqAtH h x items ∧ ∀ k, k < items.size → h.IsTuple (Ts k) (vals k))
      (fun j T h => (j < items.size ∧ T = Ts j) ∧ h.IsListIter I x (j + 1) ∧ SeqAtH h x items ∧ ∀ k, k < items.size → h.IsTuple (Ts k) (vals k)) where
  sub := fun b hb => by rw [List.mem_singleton.mp hb, hI]; exact List.mem_range.mpr (Nat.lt_succ_self _)
  frame := fun _ _ _ st hk => ⟨st.1.at fun o e => hk I (by rw [hI]; exact List.mem_range.mpr (Nat.lt_succ_self _)) o e, st.2.1.keep fun o e => hk x (List.mem_range.mpr (Nat.lt_succ_of_lt hxI)) o e,
    fun k hk' => (st.2.2 k hk').at fun o e => hk (Ts k) (List.mem_range.mpr (Nat.lt_succ_of_lt (hT k hk').2)) o e⟩
  item := fun i s Q E hi st hQ => by
    refine next_item st.1 st.2.1 (hT i hi).1 fun h' hit' hs' => ?_
    have tup : ∀ k, k < items.size → h'.IsTuple (Ts k) (vals k) := fun k hk' => (st.2.2 k hk').extBut hs'.extBut (by rw [hI]; exact Nat.ne_of_lt (hT k hk').2)
    exact hQ (Ts i) (vals i) h' s.toks rfl (tup i hi) ⟨⟨hi, rfl⟩, hit', st.2.1.keep fun o e => (hs'.2 x (by rw [hI]; exact Nat.ne_of_lt hxI)).trans e, tup⟩ fun b o hb e => hs'.extBut b o (fun h => hb (by rw [h]; exact .head _)) e
  go := fun _ _ _ _ _ s Q _ hm hQ => wpAny_letOwnedTupleGo_listiter hm.2.1 (hQ s.heap hm.2 fun _ _ _ e => e)
  apart := fun j T _ hm hmem => by
    have := (hT j hm.1.1).2
    have e := List.mem_singleton.mp hmem
    rw [hm.1.2, hI] at e
    rw [e] at this
    exact Nat.lt_irrefl _ this
  done := fun s Q E st hQ => next_end hh st.1 st.2.1 (by simp) fun h' he' => hQ h' s.toks fun b o hb e => he' b o (fun h => hb (by rw [h]; exact .head _)) e
  self := fun _ _ _ _ st hQ => wpAny_pyIter_listiter st.1 hQ
end
-- W10
noncomputable def IsTab (o : Obj) : Prop := ∃ ps : Array Value, TriplesOk ps.toList ∧ o = tabObj ps
noncomputable def IsBMod (o : Obj) : Prop := o.cls = .type "module" ∧ o.dict = some builtinsNs ∧ o.data = .plain
/-- a pair of texts -/
noncomputable def pv (p : List Nat × List Nat) : V := .tup [.str (S p.1), .str (S p.2)]
theorem OR.prop_inv {H : Addr → Prop} {h : Heap} {p : Obj → Prop} {o : Obj} (r : OR H h (.prop p) o) : p o := by cases r; assumption
theorem At.prop_inv {H : Addr → Prop} {h : Heap} {p : Obj → Prop} {a : Addr} (x : At H h a (.prop p)) : ∃ o, h.get? a = some o ∧ p o := let ⟨o, e, r⟩ := x; ⟨o, e, r.prop_inv⟩
theorem At.acc_inv {H : Addr → Prop} {h : Heap} {a cA dx : Addr} {l : List V} (x : At H h a (.acc cA dx l)) : ∃ vs n, h.get? a = some { cls := .ref cA, dict := some dx, data := .seq vs.toArray n } ∧ VRs H h l vs := by
  obtain ⟨o, e, r⟩ := x
  cases r
  exact ⟨_, _, e, by assumption⟩
theorem tab_tup {H : Addr → Prop} {h : Heap} {o : Obj} (r : OR H h (.prop IsTab) o) : ∀ vs k, o ≠ tupleOf vs k := fun vs k e => by
  obtain ⟨ps, _, d⟩ := r.prop_inv
  rw [e] at d
  have := congrArg Obj.cls d
  simp at this
/-- the code of a generator expression, the first time or later -/
theorem gcode {M : Model} {A : Around} {E : Value → Shared → Prop} {s : Shared} {env : Env} {c P : Addr} {ps : Array Value} {pos : Pos} {qualname : Str} {scope : Scope} {Q : Value → Shared → Prop} (hc : env.code = .ref c) (hh : CodeHd s.heap c P) (hP : s.heap.get? P = some (tabObj ps)) (ht : TriplesOk ps.toList)
    (hQ : ∀ code h' tk ps', Heap.ExtBut P s.heap h' → h'.get? P = some (tabObj ps') → TriplesOk ps'.toList → Q code { s with heap := h', toks := tk }) : wpAny M A (genexprCode env pos qualname scope) Q E s := by
  cases hnf : codeAmong pos ps.toList with
  | none =>
    refine wpAny_genexprCodeX hc (hh.code hP ht) (hh.tab hP) hnf fun c' h' tk hx _ _ hk _ htab _ => hQ _ h' tk _ hx htab.2 ?_
    obtain ⟨_, _, _, _, _, _, _, _, _, op, _, _, _, _, _, _, _, hop, hpd, htr, _⟩ := hk
    exact htr
  | some cv =>
    obtain ⟨o, vs, file, tf, flags, tg, inF, text, tt, op, ho, hd, h11, h2, h7, h9, h10, hop, hpd, htr, hne⟩ := hh.code hP ht
    unfold genexprCode codeAt
    rw [hc, if_neg (show ¬ ((Value.ref c == Value.none) = true) from Bool.false_ne_true)]
    refine wpAny_bind (wpAny_fieldsOf ho hd ?_)
    rw [h11]
    refine wpAny_bind (wpAny_fieldsOf hop hpd ?_)
    rw [hnf]
    exact wpAny_pure (hQ cv s.heap s.toks ps (Heap.ExtBut.refl _ _) hP ht)
section
variable {C : Cx} {ks : List Str} {l l' : List (Option V)} {μ μ' : Mem} {h₀ : Heap} {s : Shared}
theorem Rel.regrow {P : Addr} {b b' : Ob} {s' : Shared} (R : Rel C ks l ((P, b) :: μ) h₀ s) (k : ∀ a o, a ≠ P → s.heap.get? a = some o → s'.heap.get? a = some o) (nt : ∀ h o, OR C.H h b o → ∀ vs n, o ≠ tupleOf vs n)
    (at' : At C.H s'.heap P b') (g : AllBare s'.gens) (os : s'.os = s.os) : Rel C ks l ((P, b') :: μ) h₀ s' ∧ TK C.H s.heap s'.heap := by
  obtain ⟨o, e, r⟩ := (R.mem _ (.head _)).1
  have t : TK C.H s.heap s'.heap := fun a vs n _ e' => by
    by_cases q : a = P
    · subst q
      rw [show s.heap.get? a = some o from e] at e'
      exact absurd (Option.some.inj e') (nt _ _ r vs n)
    · exact k a _ q e'
  have nd := R.nd
  have hf : ∀ b ∈ [P], b ∉ C.env.locals :: (C.env.cells.map (·.2) ++ μ.map (·.1)) ∧ h₀.get? b = none := fun b hb => by
    rw [List.mem_singleton.mp hb]
    refine ⟨fun q => ?_, (R.mem _ (.head _)).2⟩
    have pm : (C.env.locals :: (C.env.cells.map (·.2) ++ ((P, b') :: μ).map (·.1))).Perm (P :: C.env.locals :: (C.env.cells.map (·.2) ++ μ.map (·.1))) := by
      rw [List.map_cons]
      exact (List.Perm.cons _ List.perm_middle).trans (List.Perm.swap ..)
    exact (List.nodup_cons.mp (pm.nodup_iff.mp nd)).1 q
  have Ro : Rel C ks l μ h₀ s' := (R.drop (List.sublist_cons_self ..)).otherG (fp := [P]) hf (fun b o n e => k b o (fun q => n (by rw [q]; exact .head _)) e) t g os (fun b hb => .inr (by rw [List.mem_singleton.mp hb]; obtain ⟨o, e, _⟩ := at'; exact ⟨o, e⟩))
  exact ⟨Ro.grow at' (hf P (.head _)).1 (hf P (.head _)).2, t⟩
/-- a generator of a comprehension over the acc, made -/
theorem gen_make {P c x dx cA bm : Addr} {parts : List (List Nat × List Nat)} {elt : Expr} {xa xb y : Str} {pa pb pt py pos : Pos} {kt : Nat} {scope : Scope} {Q E : Value → Shared → Prop} (F : Nat → Value → Prop)
    (R : Rel C ks l ((P, .prop IsTab) :: μ) h₀ s) (hh : C.A.handled = none) (hroom : C.A.depth < recursionLimit) (hfn : C.env.scope.kind = .function) (hgl : C.env.globals = mainGlobals) (hcode : C.env.code = .ref c) (hcd : codeHdIn C.K c P = true)
    (hacc : Has C μ x (.acc cA dx (parts.map pv))) (hbm : Has C μ bm (.prop IsBMod)) (hbn : nsIn C.K mainGlobals "__builtins__" = some (some (.ref bm))) (hbne : bm ≠ builtinsNs)
    (hdd : Has C μ dx (.prop IniD)) (hm : mroIn C.K cA (.type "list") = some true) (hit : findIn C.K (.ref cA) "__iter__" = some (some (.builtin "list.__iter__")))
    (hy : Lk ks l y (.val (.ref x))) (hyk : C.env.kindOf y = some .local) (hyd : (y == ("__debug__" : Str)) = false)
    (hco : scope.isCoroutine = false) (hclos : closureFor scope C.env = pure []) (hcell : ∀ y ∈ scope.names, y.2 ≠ .cell) (h0 : scope.names.lookup (".0" : Str) = some NameKind.local)
    (hxa : scope.names.lookup xa = some .local) (hxb : scope.names.lookup xb = some .local) (hab : xa ≠ xb) (hkind : scope.kind = .function)
    (helt : ∀ (A' : Around) E' i (s₂ : Shared) m₂ (env' : Env) a b ta tb, env'.scope = scope → env'.globals = mainGlobals → env'.builtins = builtinsNs → parts[i]? = some (a, b) → s₂.heap.Ns env'.locals m₂ → m₂ xa = some (.str (S a) ta) → m₂ xb = some (.str (S b) tb) → C.K.In s₂.heap → TopRead C.p C.loose C.mg C.mb s₂.heap →
      wpAny (model C.prog C.w) A' (eval elt env') (fun y s₃ => F i y ∧ Keeps s₂ s₃) E' s₂)
    (hs : ∀ x, genFold (.Name y py) C.env x = pure x)
    (hQ : ∀ a fp wr g St s', WalksS C.prog C.w C.A.in4 a fp wr (GenOnlyQ g) parts.length F St → St 0 s' → (∀ i s, St i s → s.TypeIs (.ref a) "generator") → a ∈ fp → (∀ b ∈ fp, b < s'.heap.objs.size) → (∀ b ∈ wr, s.heap.get? b = none) →
      (∀ b o, b ≠ P → s.heap.get? b = some o → s'.heap.get? b = some o) → At C.H s'.heap P (.prop IsTab) → AllBare s'.gens → s'.os = s.os → Q (.ref a) s') :
    wpAny (model C.prog C.w) C.A (eval (.GeneratorExp elt [⟨.Tuple [.Name xa pa, .Name xb pb] kt pt, .Name y py, [], 0⟩] scope pos) C.env) Q E s := by
  have hP0 : h₀.get? P = none := (R.mem _ (.head _)).2
  obtain ⟨oT, hoT, psT, trT, heT⟩ := (R.mem _ (.head _)).1.prop_inv
  subst heT
  have hoT : s.heap.get? P = some (tabObj psT) := hoT
  have Rr : Rel C ks l μ h₀ s := R.drop (List.sublist_cons_self ..)
  have X : C.K.In s.heap := R.inK.keeps R.keep
  obtain ⟨vs, nA, hox, rvs⟩ := (Rr.has hacc).acc_inv
  obtain ⟨od, hod, hid⟩ := (Rr.has hdd).prop_inv
  obtain ⟨ob, hob, hb1, hb2, hb3⟩ := (Rr.has hbm).prop_inv
  have hsz : vs.length = parts.length := by rw [← rvs.length, List.length_map]
  have I : InstAt s.heap x _ cA (some od) := ⟨hox, rfl, rfl, hod⟩
  have tups : ∀ k, ∃ q : Addr × Array Value, k < vs.toArray.size → vs.toArray[k]? = some (.ref q.1) ∧ s.heap.IsTuple q.1 q.2 ∧ ∃ a b ta tb, parts[k]? = some (a, b) ∧ q.2 = #[.str (S a) ta, .str (S b) tb] := fun k => by
    by_cases hk : k < vs.toArray.size
    · have hk' : k < parts.length := by rw [← hsz]; simpa using hk
      obtain ⟨v, hv, r⟩ := rvs.get (i := k) (x := pv parts[k]) (by rw [List.getElem?_map, List.getElem?_eq_getElem hk']; rfl)
      obtain ⟨T, us, n, rfl, hT, ru⟩ := r.tup_inv
      cases ru with
      | cons r1 ru => cases ru with
        | cons r2 ru =>
          cases ru; cases r1; cases r2
          rename_i ta tb
          exact ⟨(T, _), fun _ => ⟨by simpa using hv, ⟨_, hT, rfl, n, rfl⟩, _, _, ta, tb, List.getElem?_eq_getElem hk', rfl⟩⟩
    · exact ⟨(0, #[]), fun h => absurd h hk⟩
  obtain ⟨qs, hqs⟩ := Classical.axiomOfChoice tups
  have hxlt : x < s.heap.objs.size := Heap.lt_size hox
  have hTs : ∀ k, k < vs.toArray.size → vs.toArray[k]? = some (.ref (qs k).1) ∧ (qs k).1 < s.heap.objs.size := fun k hk => ⟨(hqs k hk).1, let ⟨_, o, e, _⟩ := (hqs k hk); let ⟨_, e, _⟩ := o; Heap.lt_size e⟩
  refine wpAny_GeneratorExp_walksQT (xa := xa) (xb := xb) hh hco hclos hcell h0 hxa hxb hab hkind hroom ?_ hs
  obtain ⟨m, hmN, hmB⟩ := R.ns
  have hyv : m y = some (.ref x) := by
    rcases hmB y _ hy with ⟨_, u, e, r⟩ | ⟨kk, _⟩
    · rw [e, r.val_inv]
    · rw [hyk] at kk; rcases kk with kk | kk <;> cases kk
  refine wpAny_Name (wpAny_loadName_local hfn hyk hmN hyv ?_) hyd
  refine pyIter_acc X I hm hit ?_
  generalize hh₂ : s.heap.push { cls := .type "list_iterator", data := .fields #[.ref x, .int 0 0] } = h₂
  have k₂ : ∀ b o, s.heap.get? b = some o → h₂.get? b = some o := fun b o e => hh₂ ▸ Heap.get?_push_of_some _ e
  have hI₂ : h₂.get? s.heap.objs.size = some { cls := .type "list_iterator", data := .fields #[.ref x, .int 0 0] } := hh₂ ▸ Heap.get?_push_size _ rfl
  have k0 : ∀ b o, h₀.get? b = some o → h₂.get? b = some o := fun b o e => k₂ b o (R.keep b o e)
  have X₂ : C.K.In h₂ := R.inK.keeps k0
  refine ⟨(R.top.keeps k0).nolimit, ?_⟩
  refine gcode hcode (codeHd_of_K X₂ hcd) (k₂ _ _ hoT) trT fun code h₃ tk₃ ps' hx₃ hP₃ tr₃ => ?_
  have hx₃ : Heap.ExtBut P h₂ h₃ := hx₃
  have k3 : ∀ b o, b ≠ P → s.heap.get? b = some o → h₃.get? b = some o := fun b o n e => hx₃ b o n (k₂ b o e)
  have ne0 : ∀ b o, h₀.get? b = some o → b ≠ P := fun b o e q => by rw [q, hP0] at e; cases e
  have k03 : ∀ b o, h₀.get? b = some o → h₃.get? b = some o := fun b o e => k3 b o (ne0 b o e) (R.keep b o e)
  have T₃ := R.top.keeps k03
  have nP : ∀ {b o}, s.heap.get? b = some o → (∀ ps, o.data ≠ .fields ps) → b ≠ P := fun {b o} e d q => by
    rw [q, hoT] at e
    exact d psT (by rw [← Option.some.inj e])
  have hPI : P ≠ s.heap.objs.size := Nat.ne_of_lt (Heap.lt_size hoT)
  have hI₃ : h₃.get? s.heap.objs.size = some { cls := .type "list_iterator", data := .fields #[.ref x, .int 0 0] } := hx₃ _ _ (Ne.symm hPI) hI₂
  have hlt₃ : s.heap.objs.size < h₃.objs.size := Heap.lt_size hI₃
  refine wpAny_builtinsFor (m := C.mg) (bm := bm) (o := ob) (hgl ▸ T₃.g) (mg_of R.inK R.top.g hbn) hbne (k3 _ _ (nP hob (fun ps q => by rw [hb3] at q; cases q)) hob) hb1 hb2 hb3 ?_
  have xP : x ≠ P := nP hox (fun ps q => by cases q)
  have tupP : ∀ {T : Addr} {v : Array Value}, s.heap.IsTuple T v → h₃.IsTuple T v := fun {T v} ⟨o, e, c, n, d⟩ => ⟨o, k3 _ _ (nP e (fun ps q => by rw [d] at q; cases q)) e, c, n, d⟩
  have i0 : h₀.get? s.heap.objs.size = none := R.new0 (none_size _)
  refine ⟨s.heap.objs.size, List.range (s.heap.objs.size + 1), [s.heap.objs.size], vs.toArray.size, _, _, _, fun _ => true, F, rfl,
    fun A' hA => (acc_walks (items := vs.toArray) (Ts := fun k => (qs k).1) (vals := fun k => (qs k).2) hxlt rfl hTs hA).bound, ?_, ⟨⟨_, hI₃, rfl, rfl⟩, ⟨_, _, k3 _ _ xP hox, rfl⟩, fun k hk => tupP (hqs k hk).2.1⟩, ?_, T₃.nolimit, ?_, ?_, ?_⟩
  · rintro i vals ⟨hi, rfl⟩
    obtain ⟨_, _, a, b, ta, tb, _, e⟩ := hqs i hi
    exact ⟨_, _, e⟩
  · intro b hb
    exact Nat.lt_of_lt_of_le (List.mem_range.mp hb) hlt₃
  · intro q
    obtain ⟨mc, ⟨o, es, ep, e, _⟩, _⟩ := R.top.nolimit
    rw [List.mem_singleton.mp q, i0] at e; cases e
  · intro href hr
    have into : ∀ {s₂ : Shared}, (∀ b ∈ List.range h₃.objs.size, b ∉ [s.heap.objs.size] → ∀ o, href.get? b = some o → s₂.heap.get? b = some o) → ∀ b o, h₀.get? b = some o → s₂.heap.get? b = some o := fun {s₂} hk b o e =>
      hk b (List.mem_range.mpr (Heap.lt_size (k03 b o e))) (fun q => by rw [List.mem_singleton.mp q, i0] at e; cases e) o (hr b o (k03 b o e))
    refine ⟨fun A' E' i va vb s₂ m₂ hA hP hn ha hb hk => ?_, fun A' E' i va vb s₂ m₂ hA hP hp hn ha hb hk => ?_⟩
    · rw [List.forIn_nil]
      exact wpAny_pure ⟨rfl, s₂.heap, s₂.toks, rfl, fun _ _ e => e⟩
    · obtain ⟨hi, e⟩ := hP
      obtain ⟨_, _, a, b, ta, tb, hpk, e'⟩ := hqs i hi
      have e2 := e.trans e'
      have hva : va = .str (S a) ta := by have := congrArg (fun z : Array Value => z.toList[0]?) e2; simpa using this
      have hvb : vb = .str (S b) tb := by have := congrArg (fun z : Array Value => z.toList[1]?) e2; simpa using this
      have k0' := into hk
      exact helt A' E' i s₂ m₂ _ a b ta tb rfl hgl rfl hpk hn (hva ▸ ha) (hvb ▸ hb) (R.inK.keeps k0') (R.top.keeps k0')
  · intro a h₅ tk gs hgb hlt hsz₅ hk₅ W hat
    have hpl : (passing (fun _ => true) vs.toArray.size 0) = List.range parts.length := by
      unfold passing
      rw [List.drop_zero, List.filter_eq_self.mpr (fun _ _ => rfl), ← hsz]; simp
    rw [hpl, List.length_range] at W
    have hPr : (s.heap.objs.size : Nat) < h₃.objs.size := hlt₃
    refine hQ a _ _ _ _ _ (W.imp fun j v hv => ?_) hat (fun i s' st => st.1.typeIs) (.head _) ?_ ?_ (fun b o n e => hk₅ b o (k3 b o n e)) ?_ (R.bare.push hgb) rfl
    · obtain ⟨i, hi, hF⟩ := hv
      rw [List.getElem?_eq_some_iff] at hi
      obtain ⟨hj, e⟩ := hi
      rw [List.getElem_range] at e
      rw [e]; exact hF
    · intro b hb
      show b < h₅.objs.size
      rw [hsz₅]
      rcases List.mem_cons.mp hb with rfl | hb
      · exact Nat.lt_succ_self _
      · rcases List.mem_cons.mp hb with rfl | hb
        · exact Nat.lt_succ_of_lt hlt
        · exact Nat.lt_succ_of_lt (Nat.lt_trans (List.mem_range.mp hb) hlt)
    · intro b hb
      rcases List.mem_cons.mp hb with rfl | hb
      · exact Heap.get?_none_of_le (Nat.le_of_lt hlt₃)
      · rw [List.mem_singleton.mp hb]; exact none_size _
    · exact ⟨_, hk₅ _ _ hP₃, .prop ⟨ps', tr₃, rfl⟩⟩
end
-- W11
/-- statements of a running code (super() asks for it) -/
noncomputable def EXat (C : Cx) (ks : List Str) (l : List (Option V)) (μ : Mem) (body ss : List Stmt) (Ψ : Fl → List (Option V) → Mem → Prop) : Prop :=
  ∀ h₀ s, Rel C ks l μ h₀ s → ∀ (Q : Flow → Shared → Prop) (E : Value → Shared → Prop), (∀ f l' μ' fl s', Ψ f l' μ' → TK C.H s.heap s'.heap → Rel C ks l' μ' h₀ s' → FlR C.H s'.heap f fl → Q fl s') → _root_.PySem.wpAt (model C.prog C.w) C.A (.func body C.env) (execs ss C.env) Q E s
theorem EX.at {C : Cx} {ks : List Str} {l : List (Option V)} {μ : Mem} {body ss : List Stmt} {Ψ : Fl → List (Option V) → Mem → Prop} (h : EX C ks l μ ss Ψ) : EXat C ks l μ body ss Ψ := fun h₀ s R Q E q => wpAt_of_wpAny (h h₀ s R Q E q)
section
variable {C : Cx} {ks : List Str} {l l' : List (Option V)} {μ μ' : Mem} {h₀ : Heap} {s : Shared}
/-- a call that lends objects; the def may have a closure, and defaults -/
theorem code_lendAt {P : Params} {n : Nat} {f : Addr} {fd : FuncData} {body : List Stmt} {oc : Value} {od : Option Addr} {osl : Array (Option Value)} (rm : Room C P (n + 1)) (ns rest : List Str) (names : List (Str × NameKind)) {vs vs' : List V} {Φ : V → Mem → Prop} (lent μr : Mem) (old : List (Addr × Ob)) (hμ : μ = lent ++ μr) (hnt : ∀ p ∈ lent, ∀ h o, OR C.H h p.2 o → ∀ vs k, o ≠ tupleOf vs k)
    (hK : (hd.heap_1 P).lookup f = some ⟨oc, od, .func fd, osl⟩) (hbody : fd.body = .stmts body) (hcd : codeIn (hd.heap_1 P) fd.code fd.qualname = true) (hnames : fd.scope.names = names)
    (hlen : ns.length = vs'.length) (hns : ns.Nodup) (hold : ∀ p ∈ old, p ∈ μr ∨ p ∈ C.old)
    (hbind : ∀ h₀ s us, Rel C ks l μ h₀ s → VRs C.H s.heap vs us → ∃ us', VRs C.H s.heap vs' us' ∧ BindsTo s fd ⟨us, []⟩ (ns.zip us')) (hloc : ∀ x ∈ ns, names.lookup x = some .local)
    (hcell : ∀ x ∈ names, x.2 ≠ .cell) (hclos : ∀ p ∈ fd.closure, ∃ v oc' od' os', (hd.heap_1 P).lookup p.2 = some ⟨oc', od', .cell v, os'⟩) (hcnd : (fd.closure.map (·.2)).Nodup)
    (hco : fd.scope.isCoroutine = false) (hgen : fd.scope.isGenerator = false) (hk : fd.scope.kind = .function) (hgl : fd.globals = mainGlobals) (hbl : fd.builtins = builtinsNs)
    (hx : ∀ (D : Cx) (L : Addr), D.env = callEnv fd L f → D.H = C.H → D.prog = C.prog → Fr D names P → Room D P n → D.old = old → EXat D (ns ++ rest) (startLocs rest.length vs') lent body body fun fl l' μ' => ∃ ν, List.Sublist ν μ' ∧ Φ (match fl with | .ret v => v | _ => .none) (ν ++ μr)) :
    ∀ h₀ s us, Rel C ks l μ h₀ s → VRs C.H s.heap vs us → ∀ (Rr : Result → Shared → Prop), (∀ v μ' u s', Φ v μ' → TK C.H s.heap s'.heap → Rel C ks l μ' h₀ s' → VR C.H s'.heap v u → Rr (.ok (.ret u)) s') → codeAny (model C.prog C.w) C.A (.call (.ref f) ⟨us, []⟩) Rr s := fun h₀ s us₀ R y₀ Rr q => by
  have dp := rm.depth
  have un := rm.units
  obtain ⟨us, y, hbd⟩ := hbind h₀ s us₀ R y₀
  subst hnames hμ
  have hX : C.K.In s.heap := R.inK.keeps R.keep
  have hT := R.top.keeps R.keep
  have hl : us.length = vs'.length := y.length.symm
  have off : ∀ b o, h₀.get? b = some o → b ∉ lent.map (·.1) := fun b o e q => by
    obtain ⟨p, hp, rfl⟩ := List.mem_map.mp q
    rw [(R.mem p (List.mem_append_left _ hp)).2] at e; cases e
  have k0 : ∀ b o, h₀.get? b = some o → (hideAll s.heap (lent.map (·.1))).get? b = some o := fun b o e => hideAll_get _ (R.keep b o e) (off b o e)
  have hcl : ∀ p ∈ fd.closure, ∃ v o, h₀.get? p.2 = some o ∧ o.data = .cell v := fun p hp => by
    obtain ⟨v, a, b, c, e⟩ := hclos p hp
    exact ⟨v, _, R.inK _ _ (rm.k ▸ e), rfl⟩
  have okc : (callee C fd f s.heap.objs.size old).Ok := ⟨hk, hgl, hbl, rm.ok.hand, by show C.A.depth + 1 < 800; omega, by show C.A.units + 3 < 2000; omega⟩
  have hD : Fr (callee C fd f s.heap.objs.size old) fd.scope.names P := ⟨okc, rfl, rm.k⟩
  refine (ks_codeAny_call_defAt (by show C.A.depth < 1000; omega) (hX _ _ (rm.k ▸ hK)) rfl hT.nolimit (codeRec_of hX (rm.k ▸ hcd)) hbody hbd hcell (fun x hx => hloc x.1 (List.of_mem_zip hx).1) (fun h₁ hn k => ?_) hco hgen hk)
  have lentOld : ∀ p ∈ lent, p.1 ≠ s.heap.objs.size := fun p hp e => by
    obtain ⟨o, eo, _⟩ := (R.mem p (List.mem_append_left _ hp)).1
    rw [e, none_size] at eo; cases eo
  have R' : Rel (callee C fd f s.heap.objs.size old) (ns ++ rest) (startLocs rest.length vs') lent (hideAll s.heap (lent.map (·.1))) { s with heap := h₁, toks := s.toks + (ns.zip us).length } := by
    refine ⟨⟨_, hn, fun x v hk' => ?_⟩, fun b o e => k b o (of_hideAll _ e), fun p hp => ⟨((R.mem p (List.mem_append_left _ hp)).1).keep k, hideAll_none _ (List.mem_map_of_mem (f := fun x : Addr × Ob => x.1) hp)⟩, ?_, ?_, fun p hp => ⟨?_, fun q => ?_⟩, R.bare, R.os, R.inK.keeps k0, R.top.keeps k0, fun p hp => ?_, fun a q => let ⟨o, e⟩ := R.off a q; ⟨o, k _ _ e⟩⟩
    · obtain ⟨i, a, b⟩ := lk_start (ns := ns) hlen hk'
      obtain ⟨u, hu, r⟩ := y.get b
      exact .inl ⟨hloc x (List.mem_of_getElem? a), u, zip_rev_lookup hns a hu, r.mono (.of_keep k)⟩
    · show (s.heap.objs.size :: (fd.closure.map (·.2) ++ lent.map (·.1))).Nodup
      rw [List.nodup_cons]
      refine ⟨fun q => ?_, List.nodup_append.mpr ⟨hcnd, ?_, fun a ha b hb e => ?_⟩⟩
      · rcases List.mem_append.mp q with q | q
        · obtain ⟨p, hp, e⟩ := List.mem_map.mp q
          obtain ⟨v, o, e', d⟩ := hcl p hp
          have := R.keep _ _ e'
          rw [e, none_size] at this; cases this
        · obtain ⟨p, hp, e⟩ := List.mem_map.mp q
          exact lentOld p hp e
      · have := R.ndm
        rw [List.map_append] at this
        exact (List.nodup_append.mp this).1
      · obtain ⟨p, hp, e1⟩ := List.mem_map.mp ha
        obtain ⟨v, o, e', d⟩ := hcl p hp
        exact off _ _ e' (by rw [e1, e]; exact hb)
    · cases e : (hideAll s.heap (lent.map (·.1))).get? s.heap.objs.size with
      | none => exact e
      | some o => have := of_hideAll _ e; rw [none_size] at this; cases this
    · obtain ⟨v, o, e, d⟩ := hcl p hp
      exact ⟨v, o, k _ _ (R.keep _ _ e), d⟩
    · exact absurd rfl (hcell (p.1, .cell) (lookup_mem (by simpa [callee] using q)))
    · have tb : TK C.H s.heap (hideAll s.heap (lent.map (·.1))) := fun a vs m _ e => hideAll_get _ e fun q => by
        obtain ⟨p', hp', rfl⟩ := List.mem_map.mp q
        obtain ⟨o, eo, ro⟩ := (R.mem p' (List.mem_append_left _ hp')).1
        rw [eo] at e
        exact hnt p' hp' _ _ ro vs m (Option.some.inj e)
      rcases hold p hp with hp | hp
      · obtain ⟨o, eo, ro⟩ := (R.mem p (List.mem_append_right _ hp)).1
        refine ⟨o, hideAll_get _ eo fun q => ?_, ro.mono tb⟩
        have := R.ndm
        rw [List.map_append] at this
        exact (List.nodup_append.mp this).2.2 _ q _ (List.mem_map_of_mem (f := fun x : Addr × Ob => x.1) hp) rfl
      · exact (R.old p hp).keep k0
  refine hx (callee C fd f s.heap.objs.size old) s.heap.objs.size rfl rfl rfl hD (hD.room (by show C.A.depth + 1 + n < 700; omega) (by show C.A.units + 3 + 3 * n < 1900; omega)) rfl _ _ R' _ _ fun fl l' μ' flw s' p t r z => ?_
  obtain ⟨ν, hν, hΦ⟩ := p
  have tt : TK C.H s.heap s'.heap := (TK.of_keep k).trans t
  have Ra := lend_after (C := C) (D := callee C fd f s.heap.objs.size old) R rfl rfl r tt hν
  cases z with
  | next => exact q _ _ _ s' hΦ tt Ra .none
  | brk => exact q _ _ _ s' hΦ tt Ra .none
  | ret z => exact q _ _ _ s' hΦ tt Ra z
theorem call_lendAt {P : Params} {n : Nat} {f : Addr} {fd : FuncData} {body : List Stmt} {oc : Value} {od : Option Addr} {osl : Array (Option Value)} (rm : Room C P (n + 1)) (ns rest : List Str) (names : List (Str × NameKind)) {vs vs' : List V} {Φ : V → Mem → Prop} (lent μr : Mem) (old : List (Addr × Ob)) (hμ : μ = lent ++ μr) (hnt : ∀ p ∈ lent, ∀ h o, OR C.H h p.2 o → ∀ vs k, o ≠ tupleOf vs k)
    (hK : (hd.heap_1 P).lookup f = some ⟨oc, od, .func fd, osl⟩) (hbody : fd.body = .stmts body) (hcd : codeIn (hd.heap_1 P) fd.code fd.qualname = true) (hnames : fd.scope.names = names)
    (hlen : ns.length = vs'.length) (hns : ns.Nodup) (hold : ∀ p ∈ old, p ∈ μr ∨ p ∈ C.old)
    (hbind : ∀ h₀ s us, Rel C ks l μ h₀ s → VRs C.H s.heap vs us → ∃ us', VRs C.H s.heap vs' us' ∧ BindsTo s fd ⟨us, []⟩ (ns.zip us')) (hloc : ∀ x ∈ ns, names.lookup x = some .local)
    (hcell : ∀ x ∈ names, x.2 ≠ .cell) (hclos : ∀ p ∈ fd.closure, ∃ v oc' od' os', (hd.heap_1 P).lookup p.2 = some ⟨oc', od', .cell v, os'⟩) (hcnd : (fd.closure.map (·.2)).Nodup)
    (hco : fd.scope.isCoroutine = false) (hgen : fd.scope.isGenerator = false) (hk : fd.scope.kind = .function) (hgl : fd.globals = mainGlobals) (hbl : fd.builtins = builtinsNs)
    (hx : ∀ (D : Cx) (L : Addr), D.env = callEnv fd L f → D.H = C.H → D.prog = C.prog → Fr D names P → Room D P n → D.old = old → EXat D (ns ++ rest) (startLocs rest.length vs') lent body body fun fl l' μ' => ∃ ν, List.Sublist ν μ' ∧ Φ (match fl with | .ret v => v | _ => .none) (ν ++ μr)) :
    OPK C ks l μ (.ref f) vs Φ := fun h₀ s us R y Q E q =>
  wpAny_call (code_lendAt rm ns rest names lent μr old hμ hnt hK hbody hcd hnames hlen hns hold hbind hloc hcell hclos hcnd hco hgen hk hgl hbl hx h₀ s us R y _ q)
/-- arguments all given -/
theorem binds_all {fd : FuncData} {ns : List Str} {vs : List V} (hbind : ∀ us : List Value, us.length = vs.length → bindArgs fd ⟨us, []⟩ = pure (ns.zip us)) :
    ∀ h₀ s us, Rel C ks l μ h₀ s → VRs C.H s.heap vs us → ∃ us', VRs C.H s.heap vs us' ∧ BindsTo s fd ⟨us, []⟩ (ns.zip us') := fun h₀ s us R y => ⟨us, y, .of_eq (hbind us y.length.symm)⟩
/-- around other -/
noncomputable def Cx.under (C : Cx) (A : Around) : Cx := { C with A := A }
theorem Rel.under (R : Rel C ks l μ h₀ s) (A : Around) : Rel (C.under A) ks l μ h₀ s := ⟨R.ns, R.keep, R.mem, R.nd, R.l0, R.cells, R.bare, R.os, R.inK, R.top, R.old, R.off⟩
theorem Rel.ofUnder {A : Around} (R : Rel (C.under A) ks l μ h₀ s) : Rel C ks l μ h₀ s := ⟨R.ns, R.keep, R.mem, R.nd, R.l0, R.cells, R.bare, R.os, R.inK, R.top, R.old, R.off⟩
end
-- W12
section
open Builtin
theorem entry_lga : entryFor table "list.__getattribute__" = some Builtin.«object.__getattribute__» :=
  entryFor_alias (id' := "object.__getattribute__") (by rw [fastTable_eq_tree]; kernel_rfl) (by decide +kernel) (by decide +kernel) (by rw [fastTable_eq_tree]; kernel_rfl)
theorem canon_lga : (Manifest.canonical "list.__getattribute__" != "object.__getattribute__") = false := by decide +kernel
section
variable {prog : Program} {w : World} {M : Model} {A : Around} {K : Frag} {x C dx : Addr} {E : Value → Shared → Prop} {s : Shared} {ox : Obj} {od : Option Obj}
theorem method_fnL {f : Addr} {ga : String} {name : Str} {pl : Sem Bool} {Q : Value × List Value → Shared → Prop} (X : K.In s.heap) (I : InstAt s.heap x ox C od) (hga : findIn K (.ref C) "__getattribute__" = some (some (.builtin ga))) (hcan : (Manifest.canonical ga != "object.__getattribute__") = false) (hk : findIn K (.ref C) "__getattr__" = some none)
    (hf : findIn K (.ref C) name = some (some (.ref f))) (ht : typeIn K (.ref f) = some (.type "function")) (hs : shadowIn od name = some false) (h : Q (.ref f, [.ref x]) s) :
    wpAny (model prog w) A (getMethod (.ref x) name pl) Q E s := by
  unfold getMethod specialOf
  refine wpAny_bind (wpAny_bind (I.type.here ((looks_findIn X hga).here ?_)))
  dsimp only
  rw [hcan, if_neg (by decide)]
  refine wpAny_bind (wpAny_bind (I.type.here ((looks_findIn X hk).here ?_)))
  refine wpAny_bind (wpAny_bind (I.type.here ((looks_findIn X hf).here (wpAny_bind ((looks_typeIn X ht).here ?_)))))
  rw [if_neg (by decide +kernel)]
  refine wpAny_bind (wpAny_loadPart I.at_ ?_)
  have hd := I.dict
  cases e : ox.dict with
  | none => exact wpAny_bind (wpAny_rule (wpAny_pure h))
  | some dx =>
    cases od with
    | none => rw [e] at hd; exact hd.elim
    | some o =>
      rw [e] at hd
      obtain ⟨r, a, b⟩ := Option.map_eq_some_iff.mp hs
      refine wpAny_bind (wpAny_bind (wpAny_loadPart hd ?_))
      rw [nsLook_of a]
      refine wpAny_pure ?_
      rw [b]
      exact wpAny_bind (wpAny_rule (wpAny_pure h))
theorem method_bltL {id ga : String} {name : Str} {pl : Sem Bool} {Q : Value × List Value → Shared → Prop} (X : K.In s.heap) (I : InstAt s.heap x ox C od) (hga : findIn K (.ref C) "__getattribute__" = some (some (.builtin ga))) (hcan : (Manifest.canonical ga != "object.__getattribute__") = false) (hk : findIn K (.ref C) "__getattr__" = some none)
    (hf : findIn K (.ref C) name = some (some (.builtin id))) (ht : typeIn K (.builtin id) = some (.type "method_descriptor")) (hs : shadowIn od name = some false) (h : Q (.builtin id, [.ref x]) s) :
    wpAny (model prog w) A (getMethod (.ref x) name pl) Q E s := by
  unfold getMethod specialOf
  refine wpAny_bind (wpAny_bind (I.type.here ((looks_findIn X hga).here ?_)))
  dsimp only
  rw [hcan, if_neg (by decide)]
  refine wpAny_bind (wpAny_bind (I.type.here ((looks_findIn X hk).here ?_)))
  refine wpAny_bind (wpAny_bind (I.type.here ((looks_findIn X hf).here (wpAny_bind ((looks_typeIn X ht).here ?_)))))
  rw [if_neg (by decide +kernel)]
  refine wpAny_bind (wpAny_loadPart I.at_ ?_)
  have hd := I.dict
  cases e : ox.dict with
  | none => exact wpAny_bind (wpAny_rule (wpAny_pure h))
  | some dx =>
    cases od with
    | none => rw [e] at hd; exact hd.elim
    | some o =>
      rw [e] at hd
      obtain ⟨r, a, b⟩ := Option.map_eq_some_iff.mp hs
      refine wpAny_bind (wpAny_bind (wpAny_loadPart hd ?_))
      rw [nsLook_of a]
      refine wpAny_pure ?_
      rw [b]
      exact wpAny_bind (wpAny_rule (wpAny_pure h))
/-- a value of the object's own dict -/
theorem get_ownL {name : Str} {v : Value} {expr : Bool} {Q : Value → Shared → Prop} (X : K.In s.heap) (I : InstAt s.heap x ox C od) (hm : mroIn K C (.type "list") = some true) (hga : findIn K (.ref C) "__getattribute__" = some (some (.builtin "list.__getattribute__"))) (hk : findIn K (.ref C) "__getattr__" = some none)
    (hf : findObj K C od name = some (.value v)) (hh : handedIn v = true) (h : Q v { s with toks := s.toks + 1 }) : wpAny (model prog w) A (getAttr (.ref x) name expr) Q E s := by
  obtain ⟨hh', g, d, t, os⟩ := s
  have L0 := I.type (M := model prog w)
  have L1 := looks_findIn (M := model prog w) X hga
  have L2 := looks_findIn (M := model prog w) X hk
  have L3 := looks_find (M := model prog w) X I hf
  unfold getAttr getAttrBy
  refine wpAny_bind (wpAny_mkText (wpAny_holding (wpAny_bind (L0.at (wpAny_bind (L1.at ?_))))))
  show wpAny _ _ (getAttrByItsOwn _ _ _ _ _ _) _ _ _
  unfold getAttrByItsOwn
  refine wpAny_bind (m := hookBefore _) (L2.at ?_)
  refine wpAny_bind (wpAny_attempt (wpAny_holding ?_))
  have e : callGetattribute (.ref x) (.str name t) (.builtin "list.__getattribute__") expr = boundAndCalled (.builtin "list.__getattribute__") (.ref x) (.str name t) := by
    unfold callGetattribute
    rw [show onTheHeap (Value.builtin "list.__getattribute__") = false from rfl, Bool.and_false]
    rfl
  rw [e]
  unfold boundAndCalled
  refine wpAny_bind (wpAny_of_eq (PySem.F.slot_list_getattribute.bind _) ?_)
  refine call_sub (s := ⟨hh', g, d, t + 1, os⟩) X I hm (n := "__getattribute__") (by decide +kernel) (.inl (by decide +kernel)) (PySem.F.args_list_getattribute_2 _ _) (by decide +kernel) entry_lga ?_
  unfold Builtin.«object.__getattribute__»
  refine wpAny_bind (wpAny_pure ?_)
  refine wpAny_bind (wpAny_of_eq (a := name) rfl ?_)
  refine wpAny_bind (L0.at ?_)
  refine wpAny_bind (L3.at ?_)
  refine wpAny_pure ⟨_, rfl, ?_⟩
  show wpAny _ _ (handedOut v) _ _ _
  rw [handedOut_of hh]
  exact wpAny_pure h
end
end
-- W13
section
variable {prog : Program} {w : World} {A : Around} {E : Value → Shared → Prop} {s : Shared} {I : Addr} {fp wr : List Addr} {G : Array GenState → Array GenState → Prop} {n : Nat} {P : Nat → Value → Prop} {St : Nat → Shared → Prop}
theorem sum_args2 (a b : Value) : argsOk "sum" ⟨[a, b], []⟩ := by unfold argsOk; kernel_rfl
theorem sum_start {tk : Tok} {Q : Value → Shared → Prop} (W : WalksS prog w A.in1 I fp wr G n P St) (val : Nat → Int) (hval : ∀ i v, P i v → ∃ t, v = .int (val i) t) (hst : St 0 s) (hfp : ∀ b ∈ fp, b < s.heap.objs.size)
    (hQ : ∀ s' t', Moved wr G s s' → Q (.int (preSum val n) t') s') : wpAny (model prog w) A (call (.builtin "sum") [.ref I, .int 0 tk]) Q E s := by
  refine call_function_tree PySem.F.kind_sum PySem.F.plain_sum PySem.F.entry_sum (sum_args2 _ _) ?_
  unfold Builtin.«sum»
  simp only [List.length_cons, List.length_nil]
  rw [if_neg (by decide)]
  refine wpAny_bind (wpAny_of_eq (show Builtin.Builtins.bindParams "sum" ["start"] 0 ⟨[.int 0 tk], []⟩ = pure [some (.int 0 tk)] from rfl) ?_)
  refine wpAny_bind (W.self 0 s _ _ hst ?_)
  dsimp only
  refine wpAny_bind (wpAny_rule (wpAny_bind (wpAny_mkInt (wpAny_bind (wpAny_pure ?_)))))
  dsimp only
  simp only [List.forIn_cons, List.forIn_nil]
  refine wpAny_bind (wpAny_bind (wpAny_bind (wpAny_isInstance (T := "int") (b := false) (typeIs_int _ _ _) PySem.sub_int_str ?_)))
  simp only [Bool.false_eq_true, if_false]
  refine wpAny_pure (wpAny_bind (wpAny_bind (wpAny_isInstance (T := "int") (b := false) (typeIs_int _ _ _) PySem.sub_int_bytes ?_)))
  simp only [Bool.false_eq_true, if_false]
  refine wpAny_pure (wpAny_bind (wpAny_bind (wpAny_isInstance (T := "int") (b := false) (typeIs_int _ _ _) PySem.sub_int_bytearray ?_)))
  simp only [Bool.false_eq_true, if_false]
  refine wpAny_pure (wpAny_pure ?_)
  refine wpAny_bind (wpAny_newObj_type ?_)
  have hSf : s.heap.objs.size ∉ fp := fun hm => Nat.lt_irrefl _ (hfp _ hm)
  refine wpAny_pure ⟨plainId_quiet PySem.F.plain_sum_loop _, codeAny_sum_loopAnyS W val hval s.heap.objs.size hSf n 0 _ s.toks 0 0 (.inl rfl) rfl (Nat.zero_le _)
    (W.frame 0 s _ _ hst (by first | exact Nat.le_refl _ | exact Nat.le_succ _ | omega) fun b _ o e => Heap.get?_push_of_some _ e) (Heap.get?_push_size _ rfl) fun s' t' hm => ?_⟩
  exact hQ s' t' (hm.drop_new (by first | exact Nat.le_refl _ | exact Nat.le_succ _ | omega))
end
section
variable {prog : Program} {w : World} {A : Around} {E : Value → Shared → Prop} {s : Shared} {K : Frag} {p : Program} {loose : List Str} {mg mb m : Str → Option Value} {env : Env}
theorem len_name {x : Str} {a : Str} {ta : Tok} {p0 p1 p2 : Pos} {Q : Value → Shared → Prop} (hfn : env.scope.kind = .function) (hgl : env.globals = mainGlobals) (hbl : env.builtins = builtinsNs) (hl : env.kindOf "len" = some .globalImplicit) (hx : env.kindOf x = some .local) (hxd : (x == ("__debug__" : Str)) = false)
    (X : K.In s.heap) (T : TopRead p loose mg mb s.heap) (hns : nsIn K mainGlobals "len" = some none) (hn : s.heap.Ns env.locals m) (hm : m x = some (.str a ta)) (hz : a.length ≤ 1000) (q : ∀ t k, Q (.int a.length t) { s with toks := k })
    (he : eval (.Call (.Name "len" p0) [.Name x p1] [] p2) env = (do callWith p2 (← eval (.Name "len" p0) env) [] (backTo p2 (starEach [.Name x p1] env)) (backToKw p2 (keywordEach [] env)))) :
    wpAny (model prog w) A (eval (.Call (.Name "len" p0) [.Name x p1] [] p2) env) Q E s := by
  rw [he]
  refine wpAny_bind (Name_function_global hfn hl (loadGlobal_builtin (mg := mg) (mb := mb) (v := .builtin "len") (by rw [hgl]; exact T.g) (mg_none_of X T.g hns) (by rw [hbl]; exact T.b) ((T.builtins _ (by decide)).trans rfl) ?_) rfl)
  refine callWith_of (P := fun _ => True) rfl (fun h _ => ⟨.machine, .inr (.inl rfl), Looks.of_pure rfl⟩) ?_
  have fin : wpAny (model prog w) A (spliced (backTo p2 (starEach [.Name x p1] env))) (fun vs s' => True ∧ wpAny (model prog w) A (call (.builtin "len") ([] ++ vs) []) Q E s') E s := by
    refine Calls.spliced_cons (wpAny_Name (wpAny_loadName_local hfn hx hn hm ?_) hxd)
    refine Calls.spliced_nil ⟨trivial, ?_⟩
    exact P.len_str (by omega) (q _ _)
  exact Calls.evalArgs_plain fin
theorem elt_len {xa xb : Str} {a b : Str} {ta tb : Tok} {p0 p1 p2 p3 p4 p5 p6 : Pos} (hfn : env.scope.kind = .function) (hgl : env.globals = mainGlobals) (hbl : env.builtins = builtinsNs) (hl : env.kindOf "len" = some .globalImplicit) (hxa : env.kindOf xa = some .local) (hxb : env.kindOf xb = some .local) (hxd : (xa == ("__debug__" : Str)) = false) (hxe : (xb == ("__debug__" : Str)) = false)
    (X : K.In s.heap) (T : TopRead p loose mg mb s.heap) (hns : nsIn K mainGlobals "len" = some none) (hn : s.heap.Ns env.locals m) (ha : m xa = some (.str a ta)) (hb : m xb = some (.str b tb)) (hz : a.length ≤ 1000) (hz2 : b.length ≤ 1000)
    (he : eval (.Call (.Name "len" p0) [.Name xa p1] [] p2) env = (do callWith p2 (← eval (.Name "len" p0) env) [] (backTo p2 (starEach [.Name xa p1] env)) (backToKw p2 (keywordEach [] env))))
    (he2 : eval (.Call (.Name "len" p3) [.Name xb p4] [] p5) env = (do callWith p5 (← eval (.Name "len" p3) env) [] (backTo p5 (starEach [.Name xb p4] env)) (backToKw p5 (keywordEach [] env)))) :
    wpAny (model prog w) A (eval (.BinOp (.Call (.Name "len" p0) [.Name xa p1] [] p2) .Add (.Call (.Name "len" p3) [.Name xb p4] [] p5) p6) env) (fun y s₃ => (∃ t, y = .int ((a.length : Int) + b.length) t) ∧ Keeps s s₃) E s := by
  refine wpAny_BinOp (len_name hfn hgl hbl hl hxa hxd X T hns hn ha hz (fun t k => ?_) he)
  refine len_name (s := { s with toks := k }) hfn hgl hbl hl hxb hxe X T hns hn hb hz2 (fun t' k' => ?_) he2
  exact P.add_int ⟨⟨_, rfl⟩, _, _, rfl, fun _ _ e => e⟩
theorem elt_join {xa xb : Str} {a b : Str} {ta tb te : Tok} {p0 p1 p2 p3 p4 p5 : Pos} {kk : Nat} (hfn : env.scope.kind = .function) (hgl : env.globals = mainGlobals) (hl : env.kindOf "EMPTYSTRING" = some .globalImplicit) (hxa : env.kindOf xa = some .local) (hxb : env.kindOf xb = some .local) (hxd : (xa == ("__debug__" : Str)) = false) (hxe : (xb == ("__debug__" : Str)) = false)
    (X : K.In s.heap) (T : TopRead p loose mg mb s.heap) (hns : nsIn K mainGlobals "EMPTYSTRING" = some (some (.str "" te))) (hn : s.heap.Ns env.locals m) (ha : m xa = some (.str a ta)) (hb : m xb = some (.str b tb)) (hz : a.length ≤ 1000) (hz2 : b.length ≤ 1000) {pl : Sem Bool}
    (he : eval (.Call (.Attribute (.Name "EMPTYSTRING" p0) "join" p1) [.Tuple [.Name xa p2, .Name xb p3] kk p4] [] p5) env = (do
      let ov ← eval (.Name "EMPTYSTRING" p0) env
      standAt p1.atName
      let (f, first) ← holding [ov] (getMethod ov "join" pl)
      callWith p5 f first (backTo p5 (starEach [.Tuple [.Name xa p2, .Name xb p3] kk p4] env)) (backToKw p5 (keywordEach [] env)))) :
    wpAny (model prog w) A (eval (.Call (.Attribute (.Name "EMPTYSTRING" p0) "join" p1) [.Tuple [.Name xa p2, .Name xb p3] kk p4] [] p5) env) (fun y s₃ => (∃ t, y = .str (Txt.join "" [a, b]) t) ∧ Keeps s s₃) E s := by
  refine methodCall_KW (pl := pl) (Name_function_global hfn hl (loadGlobal_global (by rw [hgl]; exact T.g) (mg_of X T.g hns) ?_) rfl) he
  refine getMethod_builtin (typeIs_str _ _ _) PySem.F.plainAttrs_str F.slot_str_join rfl (fun a e => nomatch e) ?_
  refine callWith_of (P := fun _ => True) rfl (fun h _ => ⟨.machine, .inr (.inl rfl), Looks.of_pure rfl⟩) ?_
  have fin : wpAny (model prog w) A (spliced (backTo p5 (starEach [.Tuple [.Name xa p2, .Name xb p3] kk p4] env))) (fun vs s' => True ∧ wpAny (model prog w) A (call (.builtin "str.join") ([.str "" te] ++ vs) []) (fun y s₃ => (∃ t, y = .str (Txt.join "" [a, b]) t) ∧ Keeps s s₃) E s') E s := by
    refine Calls.spliced_cons (Tuple_ (k := kk) ?_)
    refine Calls.spliced_cons (wpAny_Name (wpAny_loadName_local hfn hxa hn ha ?_) hxd)
    refine Calls.spliced_cons (wpAny_Name (wpAny_loadName_local hfn hxb hn hb ?_) hxe)
    refine Calls.spliced_nil ?_
    refine wpAny_newTuple ?_ (by rw [sizeLine_eq]; simp)
    refine Calls.spliced_nil ⟨trivial, ?_⟩
    refine join_tuple (D := s.heap.objs.size) (items := #[.str a ta, .str b tb]) (ys := [a, b]) ⟨_, Heap.get?_push_size _ rfl, rfl, 0, rfl⟩ (.cons _ _ (.cons _ _ .nil)) ?_ fun t' k => ⟨⟨_, rfl⟩, _, _, rfl, fun b o e => Heap.get?_push_of_some _ e⟩
    have : ("" : Str).length = 0 := rfl
    rw [this]
    simp
    omega
  exact Calls.evalArgs_plain fin
end
-- W14
section
variable {C : Cx} {P : Params} {ks : List Str} {l l' : List (Option V)} {μ μ' : Mem} {h₀ : Heap} {s : Shared}
end
-- W15
section
variable {C : Cx} {P : Params} {s : Shared}
/-- the first call: no frame of ours around it -/
theorem enter_top {n : Nat} {f : Addr} {fd : FuncData} {body : List Stmt} {oc : Value} {od : Option Addr} {osl : Array (Option Value)} (rm : Room C P (n + 1)) (ns rest : List Str) (names : List (Str × NameKind)) {vs : List V} {us : List Value} (lent : Mem) (old : List (Addr × Ob))
    (hX : C.K.In (hideAll s.heap (lent.map (·.1)))) (hT : TopRead C.p C.loose C.mg C.mb (hideAll s.heap (lent.map (·.1)))) (hlent : ∀ p ∈ lent, At C.H s.heap p.1 p.2) (hlnd : (lent.map (·.1)).Nodup) (bare : AllBare s.gens) (hos : s.os = C.os) (hH : ∀ a, C.H a)
    (hK : (hd.heap_1 P).lookup f = some ⟨oc, od, .func fd, osl⟩) (hbody : fd.body = .stmts body) (hcd : codeIn (hd.heap_1 P) fd.code fd.qualname = true) (hnames : fd.scope.names = names)
    (hlen : ns.length = vs.length) (hns : ns.Nodup) (hold : ∀ p ∈ old, At C.H (hideAll s.heap (lent.map (·.1))) p.1 p.2) (y : VRs C.H s.heap vs us)
    (hbind : ∀ us : List Value, us.length = vs.length → bindArgs fd ⟨us, []⟩ = pure (ns.zip us)) (hloc : ∀ x ∈ ns, names.lookup x = some .local ∨ (names.lookup x = some .cell ∧ (x == ("__classdict__" : Str)) = false))
    (hclos : fd.closure = []) (hcnd : ((cellsFrom 0 names []).map (·.1)).Nodup)
    (hco : fd.scope.isCoroutine = false) (hgen : fd.scope.isGenerator = false) (hk : fd.scope.kind = .function) (hgl : fd.globals = mainGlobals) (hbl : fd.builtins = builtinsNs) {Ψ : Fl → List (Option V) → Mem → Prop} {Q E : Value → Shared → Prop}
    (hx : ∀ D : Cx, D.prog = C.prog → Fr D names P → CellsOk D names → Room D P n → D.old = old → EX D (ns ++ rest) (startLocs rest.length vs) lent body Ψ)
    (q : ∀ (D : Cx) ks fl l' μ' flw s', D.H = C.H → D.os = C.os → Ψ fl l' μ' → Rel D ks l' μ' (hideAll s.heap (lent.map (·.1))) s' → FlR C.H s'.heap fl flw → Q (match flw with | .ret v => v | _ => .none) s') : wpAny (model C.prog C.w) C.A (call (.ref f) us) Q E s := by
  have dp := rm.depth
  have un := rm.units
  subst hnames
  have k0 : ∀ b o, (hideAll s.heap (lent.map (·.1))).get? b = some o → s.heap.get? b = some o := fun b o e => of_hideAll _ e
  have hXs : C.K.In s.heap := hX.keeps k0
  have hTs := hT.keeps k0
  have hl : us.length = vs.length := y.length.symm
  have okc : (calleeC C fd f s.heap.objs.size old).Ok := ⟨hk, hgl, hbl, rm.ok.hand, by show C.A.depth + 1 < 800; omega, by show C.A.units + 3 < 2000; omega⟩
  have hD : Fr (calleeC C fd f s.heap.objs.size old) fd.scope.names P := ⟨okc, rfl, rm.k⟩
  have cnd : ∀ n, ((cellsFrom n fd.scope.names []).map (·.1)).Nodup := fun n => cellsFrom_names fd.scope.names 0 n [] [] rfl ▸ hcnd
  have hC : CellsOk (calleeC C fd f s.heap.objs.size old) fd.scope.names := ⟨fun x e => Option.isSome_iff_exists.mp (cf_some _ _ _ x e), fun x e => by show (fd.scope.names.lookup x == some .cell) = true; rw [e]; rfl, cnd _⟩
  refine wpAny_call (codeAny_call_cells (by show C.A.depth < 1000; omega) (hXs _ _ (rm.k ▸ hK)) rfl hTs.nolimit (codeRec_of hXs (rm.k ▸ hcd)) hbody (hbind us hl) hclos (fun x hx => ?_) (fun s₁ x => ?_) hco hgen hk)
  · rcases hloc x.1 (List.of_mem_zip hx).1 with h | ⟨h, _⟩
    · exact .inl h
    · exact .inr ⟨h, cf_some _ _ _ _ h⟩
  obtain ⟨h₁, tk, rfl, k⟩ := x.done
  have lentLt : ∀ p ∈ lent, p.1 < s.heap.objs.size := fun p hp => by
    obtain ⟨o, eo, _⟩ := hlent p hp
    exact Heap.lt_size eo
  have R' : Rel (calleeC C fd f s.heap.objs.size old) (ns ++ rest) (startLocs rest.length vs) lent (hideAll s.heap (lent.map (·.1))) { s with heap := h₁, toks := tk } := by
    refine ⟨⟨_, x.toInCall.ns, fun z v hk' => ?_⟩, fun b o e => k b o (of_hideAll _ e), fun p hp => ⟨(hlent p hp).keep k, hideAll_none _ (List.mem_map_of_mem (f := fun x : Addr × Ob => x.1) hp)⟩, ?_, ?_, ?_, bare, hos, hX, hT, hold, fun a q => absurd (hH a) q⟩
    · obtain ⟨i, a, b⟩ := lk_start (ns := ns) hlen hk'
      obtain ⟨u, hu, r⟩ := y.get b
      have hm : z ∈ ns := List.mem_of_getElem? a
      rcases hloc z hm with h | ⟨h, hcd⟩
      · exact .inl ⟨h, u, bindL_get h hns a hu, r.mono (.of_keep k)⟩
      · obtain ⟨c, hc⟩ := hC.look z h
        refine .inr ⟨.inl h, hcd, c, u, hc, ?_, r.mono (.of_keep k)⟩
        have := x.cell z c hc
        rw [bindC_get (by show fd.scope.names.lookup z ≠ _; rw [h]; decide) hns a hu] at this
        exact this
    · show (s.heap.objs.size :: ((callEnvC fd s.heap.objs.size f).cells.map (·.2) ++ lent.map (·.1))).Nodup
      rw [List.nodup_cons]
      refine ⟨fun q => ?_, List.nodup_append.mpr ⟨List.pairwise_map.mpr x.apart, hlnd, fun a ha b hb e => ?_⟩⟩
      · rcases List.mem_append.mp q with q | q
        · obtain ⟨p, hp, e⟩ := List.mem_map.mp q
          have := x.above p.1 p.2 hp
          rw [e] at this
          exact Nat.lt_irrefl _ this
        · obtain ⟨p, hp, e⟩ := List.mem_map.mp q
          have := lentLt p hp
          rw [e] at this
          exact Nat.lt_irrefl _ this
      · obtain ⟨p, hp, e1⟩ := List.mem_map.mp ha
        obtain ⟨p2, hp2, e2⟩ := List.mem_map.mp hb
        have h1 := x.above p.1 p.2 hp
        have h2 := lentLt p2 hp2
        rw [e1, e, ← e2] at h1
        exact Nat.lt_asymm h1 h2
    · cases e : (hideAll s.heap (lent.map (·.1))).get? s.heap.objs.size with
      | none => exact e
      | some o => have := of_hideAll _ e; rw [none_size] at this; cases this
    · intro p hp
      refine ⟨⟨_, x.cell p.1 p.2 (lookup_of_mem_nodup (cnd _) hp)⟩, fun _ => ?_⟩
      cases e : (hideAll s.heap (lent.map (·.1))).get? p.2 with
      | none => rfl
      | some o =>
        have := of_hideAll _ e
        rw [Heap.get?_none_of_le (Nat.le_of_lt (x.above p.1 p.2 hp))] at this
        cases this
  refine hx (calleeC C fd f s.heap.objs.size old) rfl hD hC (hD.room (by show C.A.depth + 1 + n < 700; omega) (by show C.A.units + 3 + 3 * n < 1900; omega)) rfl _ _ R' _ _ fun fl l' μ' flw s' p t r z => ?_
  exact q (calleeC C fd f s.heap.objs.size old) _ fl l' μ' flw s' rfl rfl p r z
end
theorem warm_NAME (w : World) : PySem.Challenge.rw_wu0049_01 = PySem.Challenge.rw_wu0049_01 ∧ hd.heap_1 w.params = hd.heap_1 w.params := by
  k_fill
  exact ⟨rfl, rfl⟩
-- names
local macro_rules
  | `(tactic| walk_at "lk") => `(tactic| first
      | exact Lk.head
      | exact Lk.tail Lk.head
      | exact Lk.tail (Lk.tail Lk.head)
      | exact Lk.tail (Lk.tail (Lk.tail (by walk_at "lk"))))
local macro_rules
  | `(tactic| walk_at "up") => `(tactic| first
      | exact Up.head
      | exact Up.tail Up.head
      | exact Up.tail (Up.tail Up.head)
      | exact Up.tail (Up.tail (Up.tail (by walk_at "up"))))
local macro_rules
  | `(tactic| walk_at "sd") => `(tactic| first
      | assumption
      | omega
      | (simp only [List.length_append, List.length_cons, List.length_nil]; omega)
      | decide
      | (simp; omega))
local macro_rules
  | `(tactic| walk_at "opb") => `(tactic| first
      | exact OPB_addI
      | exact OPB_subI
      | exact OPB_modI (Fr.ok (by assumption)) (by first | decide | omega)
      | exact OPB_divI (Fr.ok (by assumption)) (by first | decide | omega) (PyProof.noPylong_small (by first | decide | omega))
      | exact OPB_mulI (mulIntOk (by omega) (by omega))
      | exact OPB_addSS (by walk_at "sd"))
local macro_rules
  | `(tactic| walk_at "opc") => `(tactic| first
      | exact OPC_eqSS
      | exact OPC_neSS
      | exact OPC_ltI
      | exact OPC_leI
      | exact OPC_gtI
      | exact OPC_geI
      | exact OPC_eqI
      | exact OPC_neI)
local macro_rules
  | `(tactic| walk_at "part") => `(tactic| first
      | exact PPart_none
      | exact PPart_int (by walk_at "pv"))
local macro_rules
  | `(tactic| walk_at "glob") => `(tactic| first
      | exact Fr.len (by assumption) rfl
      | exact Fr.sum (by assumption) rfl
      | exact Fr.max (by assumption) rfl
      | exact Fr.min (by assumption) rfl
      | exact Fr.divmod (by assumption) rfl
      | exact Fr.sorted (by assumption) rfl
      | exact Fr.range (by assumption) rfl
      | exact Fr.list (by assumption) rfl
      | exact Fr.zip (by assumption) rfl
      | exact Fr.str (by assumption) rfl
      | exact Fr.super (by assumption) rfl
      | exact Fr.parse257 (by assumption) rfl
      | exact Fr.strcoll (by assumption) rfl
      | exact Fr.strxfrm (by assumption) rfl
      | exact Fr.Accumulator (by assumption) rfl
      | exact Fr.levenshtein_distance (by assumption) rfl
      | exact Fr.substitution_cost (by assumption) rfl
      | exact Fr.law_folders (by assumption) rfl
      | exact Fr.law_order (by assumption) rfl
      | exact Fr.law_pieces (by assumption) rfl
      | exact Fr.MOVE_COST (by assumption) rfl
      | exact Fr.CASE_COST (by assumption) rfl
      | exact Fr.MAX_STRING_SIZE (by assumption) rfl
      | exact Fr.EMPTYSTRING (by assumption) rfl)
local macro_rules
  | `(tactic| walk_at "kp") => `(tactic| first
      | exact .inl ⟨_, rfl⟩
      | exact .inr (.inl ⟨_, rfl⟩)
      | exact Fr.kp_parse257 (by assumption)
      | exact Fr.kp_strcoll (by assumption)
      | exact Fr.kp_strxfrm (by assumption)
      | exact Fr.kp_Accumulator (by assumption)
      | exact Fr.kp_levenshtein_distance (by assumption)
      | exact Fr.kp_substitution_cost (by assumption)
      | exact Fr.kp_law_folders (by assumption)
      | exact Fr.kp_law_order (by assumption)
      | exact Fr.kp_law_pieces (by assumption))
local macro_rules
  | `(tactic| walk_at "opk") => `(tactic| first
      | exact OPK_lenSS (by walk_at "sd"))
local macro_rules
  | `(tactic| walk_at "es") => `(tactic| first
      | (show ES _ _ _ _ _ [] _; refine ES_nil ?_; walk_at "opk")
      | (show ES _ _ _ _ _ (_ :: _) _; exact ES_consP (by walk_at "pv") (by walk_at "es") rfl))
local macro_rules
  | `(tactic| walk_at "sub") => `(tactic| first
      | (show EV _ _ _ _ (.Subscript _ (.Slice _ _ _ _) _) _; exact PV_sliceS (by walk_at "pv") (by walk_at "part") (by walk_at "part") (by walk_at "sl") (by walk_at "sd"))
      | exact PV_itemS (by walk_at "pv") (by walk_at "pv") (by walk_at "sd") (by walk_at "ix") (by walk_at "sd") trivial)
local macro_rules
  | `(tactic| walk_at "pv") => `(tactic| first
      | (show EV _ _ _ _ (.Constant _ _ _) _; first | exact PV_int | exact PV_none | exact PV_strE c_0 | exact PV_strE c_q | exact PV_strE c_257 | exact PV_strE c_spq | exact PV_strE c_257q | exact PV_strE c_00 | exact PV_strE c_m11 | exact PV_strE c_sl | exact PV_strE c_abc)
      | (show EV _ _ _ _ (.Name _ _) _; first | exact Fr.name (by assumption) (by walk_at "lk") rfl | walk_at "glob")
      | (show EV _ _ _ _ (.BinOp _ _ _ _) _; exact EV_bin (by walk_at "pv") (by walk_at "pv") (by walk_at "opb"))
      | (show EV _ _ _ _ (.UnaryOp .USub _ _) _; exact PV_neg (by walk_at "pv"))
      | (show EV _ _ _ _ (.Subscript _ _ _) _; walk_at "sub")
      | (show EV _ _ _ _ (.Call (.Name _ _) _ _ _) _; exact EV_call (by walk_at "glob") (by walk_at "kp") (by walk_at "es") rfl rfl rfl)
      | (show EV _ _ _ _ (.Compare _ _ _ _) _; exact PV_cmp (by walk_at "pv") (by walk_at "pv") (by walk_at "opc") rfl))
local macro_rules
  | `(tactic| walk_at "tv") => `(tactic| first
      | (show TV _ _ _ _ (.Compare _ _ _ _) _; exact TV_cmp (by walk_at "pv") (by walk_at "pv") (by walk_at "opc") rfl))
local macro_rules
  | `(tactic| walk_at "as") => `(tactic| refine EX_cons (E1_assignP (Fr.ok (by assumption)) (by decide) (Fr.sto (by assumption) rfl) (by walk_at "pv") (by walk_at "up") ?_ rfl))
-- F1
/-! parse257 -/
noncomputable def parseL : List Nat → List Nat
  | [] => []
  | 34 :: 34 :: r => 34 :: parseL r
  | 34 :: _ => []
  | c :: r => c :: parseL r
theorem parseL_qq {r : List Nat} : parseL (34 :: 34 :: r) = 34 :: parseL r := by rw [parseL]
theorem parseL_q {r : List Nat} (h : r.head? ≠ some 34) : parseL (34 :: r) = [] := by
  cases r with
  | nil => rw [parseL]; simp
  | cons c r => rw [parseL]; simp at h; intro r' e; simp at e; exact absurd e.1 h
theorem parseL_c {c : Nat} {r : List Nat} (h : c ≠ 34) : parseL (c :: r) = c :: parseL r := by rw [parseL] <;> intros <;> simp_all
section
variable {C : Cx} {P : Params} {ks : List Str} {l l' : List (Option V)} {μ μ' : Mem}
theorem parse257_ok (rm : Room C P 1) (xs : List Nat) (hz : xs.length ≤ 900) : OPK C ks l μ (.ref 151) [.str (S ([50,53,55,32,34] ++ xs))] (Is (.str (S (parseL xs))) μ) := by
  refine call_fr rm ["resp"] ["dirname", "i", "n", "c"] _ [] (chl (P := P) 151 (by k_is)) rfl (by k_is) rfl rfl (by decide) (fun p hp => nomatch hp) (fun us hu => ?_) (by decide) (by decide) rfl rfl rfl rfl rfl rfl (fun D fr rm' _ => ?_)
  · obtain ⟨u, rfl⟩ := len1 hu
    rfl
  dsimp only at fr
  generalize hf : [50,53,55,32,34] ++ xs = full
  have hfl : full.length = 5 + xs.length := by rw [← hf]; simp; omega
  have hd5 : full.drop 5 = xs := by rw [← hf]; rfl
  show EX D ["resp", "dirname", "i", "n", "c"] [some (.str (S full)), none, none, none, none] [] _ _
  refine EX_cons (E1_if (TV_TE (TV_cmp (PV_sliceS (by walk_at "pv") (by walk_at "part") (by walk_at "part") (slice_to (by decide)) (by omega)) (by walk_at "pv") (by walk_at "opc") rfl) ⟨fun h => ?_, fun h => ?_⟩))
  · exfalso
    rw [← hf] at h
    simp at h
  refine EX_nil ?_
  refine EX_cons (E1_if (TV_TE (TV_cmp (PV_sliceS (by walk_at "pv") (by walk_at "part") (by walk_at "part") (slice_ss (by decide) (by decide) (by omega)) (by omega)) (by walk_at "pv") (by walk_at "opc") rfl) ⟨fun h => ?_, fun h => ?_⟩))
  · exfalso
    rw [← hf] at h
    simp at h
  refine EX_nil ?_
  walk_at "as"
  walk_at "as"
  walk_at "as"
  refine EX_cons (E1_while (fun m l μ => ∃ (i : Nat) (d : List Nat) (c : Option V), l = [some (.str (S full)), some (.str (S d)), some (.int i), some (.int full.length), c] ∧ μ = [] ∧ m = full.length - i ∧ i ≤ full.length ∧ d ++ parseL (full.drop i) = parseL xs ∧ d.length ≤ i) (full.length - 5) ⟨5, [], none, rfl, rfl, rfl, by omega, by rw [hd5]; rfl, by simp⟩ ?_)
  rintro m l μ ⟨i, d, c, rfl, rfl, rfl, hi, hp, hdl⟩
  refine TV_TE (by walk_at "tv") ⟨fun h => ?_, fun h => ?_⟩
  · simp at h
    obtain ⟨a, r, har⟩ : ∃ a r, full.drop i = a :: r := by
      cases e : full.drop i with
      | nil => have := congrArg List.length e; simp at this; omega
      | cons a r => exact ⟨a, r, rfl⟩
    have hga : full[i]? = some a := by rw [← List.head?_drop, har]; rfl
    have hdr : full.drop (i + 1) = r := by rw [← List.drop_drop, har]; rfl
    refine EX_gen fun Φg hΦg => ?_
    refine EX_cons (E1_assignP (Fr.ok (by assumption)) (by decide) (Fr.sto (by assumption) rfl) (PV_itemS (by walk_at "pv") (by walk_at "pv") (by omega) (c := a) (by rw [if_neg (by omega)]; exact hga) (by omega) trivial) (by walk_at "up") ?_ rfl)
    walk_at "as"
    refine EX_cons (E1_if (TV_TE (by walk_at "tv") ⟨fun hc => ?_, fun hc => ?_⟩))
    · simp at hc
      subst hc
      refine EX_cons (E1_if (TV_TE (TV_or (b := decide ((full.length : Int) ≤ (i : Int) + 1)) (c := (!decide (r.head? = some 34)) || false) (by walk_at "tv") (fun h1 => ?_)) ⟨fun h1 => ?_, fun h1 => ?_⟩))
      · simp at h1
        obtain ⟨b, r', hbr⟩ : ∃ b r', r = b :: r' := by
          cases e : r with
          | nil => have := congrArg List.length hdr; rw [e] at this; simp at this; omega
          | cons a r => exact ⟨a, r, rfl⟩
        have hgb : full[i + 1]? = some b := by rw [← List.head?_drop, hdr, hbr]; rfl
        refine TV_or ?_ (fun _ => TV_or0)
        have e : decide (r.head? = some 34) = decide ([b] = [34]) := by rw [hbr]; simp
        rw [e]
        exact TV_cmp (PV_itemS (by walk_at "pv") (by walk_at "pv") (by omega) (c := b) (by rw [if_neg (by omega)]; exact hgb) (by omega) trivial) (by walk_at "pv") (by walk_at "opc") rfl
      · refine EX_cons (E1_brk (hΦg _ _ _ ?_))
        refine EX_cons (E1_ret (EV_of (by walk_at "pv") ?_))
        have hq : parseL (34 :: r) = [] := parseL_q (fun e => by
          rw [e] at h1
          simp at h1
          have := congrArg List.length hdr
          simp at this
          have : r.length = 0 := by omega
          rw [List.length_eq_zero_iff.mp this] at e
          simp at e)
        rw [har, hq] at hp
        simp at hp
        exact ⟨[], List.Sublist.refl _, by rw [hp]; exact ⟨rfl, rfl⟩⟩
      · refine EX_nil ?_
        walk_at "as"
        refine EX_nil ?_
        walk_at "as"
        simp at h1
        obtain ⟨h1, h2⟩ := h1
        obtain ⟨r', hr'⟩ : ∃ r', r = 34 :: r' := by
          cases r with
          | nil => simp at h2
          | cons b r' => simp at h2; exact ⟨r', by rw [h2]⟩
        refine EX_nil (hΦg _ _ _ ⟨_, ?_, i + 1 + 1, _, _, rfl, rfl, rfl, by omega, ?_, ?_⟩)
        · omega
        · rw [← hp, har, ← List.drop_drop, hdr, hr', parseL_qq]; simp
        · simp; omega
    · simp at hc
      refine EX_nil ?_
      walk_at "as"
      refine EX_nil (hΦg _ _ _ ⟨_, ?_, i + 1, _, _, rfl, rfl, rfl, by omega, ?_, ?_⟩)
      · omega
      · rw [← hp, har, hdr, parseL_c hc]; simp
      · simp; omega
  · simp at h
    refine EX_cons (E1_ret (EV_of (by walk_at "pv") ?_))
    have : full.drop i = [] := List.drop_eq_nil_of_le (by omega)
    rw [this] at hp
    simp [parseL] at hp
    exact ⟨[], List.Sublist.refl _, by rw [hp]; exact ⟨rfl, rfl⟩⟩
end
-- F2
section
variable {C : Cx} {P : Params} {ks : List Str} {l l' : List (Option V)} {μ μ' : Mem}
/-! _strcoll, _strxfrm, _substitution_cost -/
noncomputable def collL (a b : List Nat) : Int := b2i (decide (b < a)) - b2i (decide (a < b))
theorem strcoll_ok {n : Nat} (rm : Room C P (n + 1)) (a b : List Nat) : OPK C ks l μ (.ref 28) [.str (S a), .str (S b)] (Is (.int (collL a b)) μ) := by
  refine call_fr rm ["a", "b"] [] _ [] (chl (P := P) 28 (by k_is)) rfl (by k_is) rfl rfl (by decide) (fun p hp => nomatch hp) (fun us hu => ?_) (by decide) (by decide) rfl rfl rfl rfl rfl rfl (fun D fr rm' _ => ?_)
  · obtain ⟨u, v, rfl⟩ := len2 hu
    rfl
  dsimp only at fr
  show EX D ["a", "b"] [some (.str (S a)), some (.str (S b))] [] _ _
  exact EX_cons (E1_ret (EV_of (EV_bin (PV_cmp (by walk_at "pv") (by walk_at "pv") OPC_gtSS rfl) (PV_cmp (by walk_at "pv") (by walk_at "pv") OPC_ltSS rfl) OPB_subB) ⟨[], List.Sublist.refl _, rfl, rfl⟩))
theorem strxfrm_ok {n : Nat} (rm : Room C P (n + 1)) (v : V) : OPK C ks l μ (.ref 35) [v] (Is v μ) := by
  refine call_fr rm ["s"] [] _ [] (chl (P := P) 35 (by k_is)) rfl (by k_is) rfl rfl (by decide) (fun p hp => nomatch hp) (fun us hu => ?_) (by decide) (by decide) rfl rfl rfl rfl rfl rfl (fun D fr rm' _ => ?_)
  · obtain ⟨u, rfl⟩ := len1 hu
    rfl
  dsimp only at fr
  show EX D ["s"] [some v] [] _ _
  exact EX_cons (E1_ret (EV_of (by walk_at "pv") ⟨[], List.Sublist.refl _, rfl, rfl⟩))
noncomputable def lowL (a : List Nat) : List Nat := (Txt.lower (S a)).cps.toList
noncomputable def costL (a b : List Nat) : Int := if a = b then 0 else if lowL a = lowL b then 1 else 2
theorem cost_ok {n : Nat} (rm : Room C P (n + 1)) (a b : List Nat) (ha : Builtin.Str.tooLong (Txt.lower (S a)).length = false) (hb : Builtin.Str.tooLong (Txt.lower (S b)).length = false) : OPK C ks l μ (.ref 158) [.str (S a), .str (S b)] (Is (.int (costL a b)) μ) := by
  refine call_fr rm ["ch_a", "ch_b"] [] _ [] (chl (P := P) 158 (by k_is)) rfl (by k_is) rfl rfl (by decide) (fun p hp => nomatch hp) (fun us hu => ?_) (by decide) (by decide) rfl rfl rfl rfl rfl rfl (fun D fr rm' _ => ?_)
  · obtain ⟨u, v, rfl⟩ := len2 hu
    rfl
  dsimp only at fr
  show EX D ["ch_a", "ch_b"] [some (.str (S a)), some (.str (S b))] [] _ _
  have low : ∀ {x : List Nat} {e : Expr}, Builtin.Str.tooLong (Txt.lower (S x)).length = false → True := fun _ => trivial
  refine EX_cons (E1_if (TV_TE (by walk_at "tv") ⟨fun h => ?_, fun h => ?_⟩))
  · refine EX_cons (E1_ret (EV_of (by walk_at "pv") ⟨[], List.Sublist.refl _, ?_, rfl⟩))
    simp at h; simp [costL, h]
  refine EX_nil ?_
  have e1 : Txt.lower (S a) = S (lowL a) := of_S _
  have e2 : Txt.lower (S b) = S (lowL b) := of_S _
  refine EX_cons (E1_if (TV_TE (TV_cmp (va := .str (S (lowL a))) (vb := .str (S (lowL b))) (EV_meth0 (EV_of (by walk_at "pv") ⟨_, GM_lower, kb, e1 ▸ OPK_lower ha⟩) rfl) (EV_meth0 (EV_of (by walk_at "pv") ⟨_, GM_lower, kb, e2 ▸ OPK_lower hb⟩) rfl) OPC_eqSS rfl) ⟨fun h2 => ?_, fun h2 => ?_⟩))
  · refine EX_cons (E1_ret (EV_of (by walk_at "pv") ⟨[], List.Sublist.refl _, ?_, rfl⟩))
    simp at h h2; simp [costL, h, h2]
  refine EX_nil ?_
  refine EX_cons (E1_ret (EV_of (by walk_at "pv") ⟨[], List.Sublist.refl _, ?_, rfl⟩))
  simp at h h2; simp [costL, h, h2]
end
-- F3
/-! _law_pieces -/
abbrev Fo := Nat × Nat × Nat
noncomputable def fv (f : Fo) : V := .tup [.int f.1, .str (S [f.2.1]), .int f.2.2]
noncomputable def fo (fs : List Fo) (k : Nat) : Fo := fs.getD k (0, 0, 0)
noncomputable def upL (fs : List Fo) : Nat → Nat → List Nat
  | 0, k => [k]
  | n + 1, k => if k = 0 then [0] else upL fs n (fo fs k).1 ++ [k]
noncomputable def piecesL (fs : List Fo) (t p : Nat) : List Nat → List (List Nat)
  | [] => []
  | k :: r =>
    if (fo fs k).2.1 = 34 then (if 0 < (fo fs k).2.2 * t / p then [List.replicate ((fo fs k).2.2 * t / p) 34] else []) ++ (if 0 < (fo fs k).2.2 * t % p then [] else piecesL fs t p r)
    else (if 0 < (fo fs k).2.2 then [List.replicate (fo fs k).2.2 (fo fs k).2.1] else []) ++ piecesL fs t p r
structure Good (fs : List Fo) : Prop where
  len : fs.length = 6
  par : ∀ k, 0 < k → k < 6 → (fo fs k).1 < k
  run : ∀ k, k < 6 → (fo fs k).2.2 ≤ 3
theorem Good.at {fs : List Fo} (g : Good fs) {k : Nat} (h : k < 6) : (fs.map fv)[k]? = some (fv (fo fs k)) := by
  have : k < fs.length := by rw [g.len]; exact h
  simp [fo, List.getD, this]
theorem upL_lt {fs : List Fo} (g : Good fs) : ∀ (n k : Nat), k < 6 → ∀ c ∈ upL fs n k, c < 6
  | 0, k, h, c, hc => by rw [upL, List.mem_singleton] at hc; omega
  | n + 1, k, h, c, hc => by
    rw [upL] at hc
    by_cases hk : k = 0
    · rw [if_pos hk, List.mem_singleton] at hc; omega
    · rw [if_neg hk] at hc
      rcases List.mem_append.mp hc with hc | hc
      · exact upL_lt g n _ (by have := g.par k (by omega) h; omega) c hc
      · rw [List.mem_singleton] at hc; omega
section
variable {C : Cx} {P : Params} {ks : List Str} {l l' : List (Option V)} {μ μ' : Mem}
theorem pieces_ok {n : Nat} (rm : Room C P (n + 1)) {F : Addr} {fs : List Fo} (g : Good fs) (hF : Has C μ F (.lst (fs.map fv))) {node t p : Nat} (hn : node < 6) (ht : t ≤ 100) (hp0 : 0 < p) (hp : p ≤ 100) {Φ : V → Mem → Prop}
    (hΦ : ∀ a, Φ (.val (.ref a)) ((a, .lst ((piecesL fs t p (upL fs 6 node)).map sv)) :: μ)) : OPK C ks l μ (.ref 184) [.val (.ref F), .int node, .int t, .int p] Φ := by
  refine call_fr rm ["folders", "node", "times", "parts"] ["way", "pieces", "k", "sign", "run", "rest"] _ [(F, .lst (fs.map fv))] (chl (P := P) 184 (by k_is)) rfl (by k_is) rfl rfl (by decide) (fun p hp => by rw [List.mem_singleton.mp hp]; exact hF) (fun us hu => ?_) (by decide) (by decide) rfl rfl rfl rfl rfl rfl (fun D fr rm' hold => ?_)
  · obtain ⟨a, b, c, d, rfl⟩ := len4 hu
    rfl
  dsimp only at fr
  have hFD : ∀ {μ : Mem}, Has D μ F (.lst (fs.map fv)) := .inr (by rw [hold]; exact .head _)
  have hlen : (fs.map fv).length ≤ 1000 := by rw [List.length_map, g.len]; omega
  show EX D ["folders", "node", "times", "parts", "way", "pieces", "k", "sign", "run", "rest"] [some (.val (.ref F)), some (.int node), some (.int t), some (.int p), none, none, none, none, none, none] [] _ _
  refine EX_cons (E1_assign fr.ok (by decide) (fr.sto rfl) (EV_list (ES_consP (by walk_at "pv") (ES_nil ⟨by simp, fun W => ⟨_, by walk_at "up", ?_⟩⟩) rfl)) rfl)
  refine EX_cons (E1_while (fun m l μ => ∃ (k : Nat) (r : List Nat), l = [some (.val (.ref F)), some (.int node), some (.int t), some (.int p), some (.val (.ref W)), none, none, none, none, none] ∧ μ = [(W, .lst ((k :: r).map iv))] ∧ m ≤ 6 ∧ k ≤ m ∧ k < 6 ∧ r.length ≤ 6 - m ∧ upL fs m k ++ r = upL fs 6 node) 6
    ⟨node, [], rfl, rfl, by omega, by omega, hn, by simp, by simp⟩ ?_)
  rintro m l μ ⟨k, r, rfl, rfl, hm, hkm, hk6, hr, hw⟩
  have hWl : ((k :: r).map iv).length ≤ 1000 := by simp; omega
  refine TV_TE (TV_cmp (va := .int k) (PV_itemL (by walk_at "pv") (by walk_at "pv") (.inl (.head _)) (by decide) rfl hWl trivial) (by walk_at "pv") OPC_neI rfl) ⟨fun h => ?_, fun h => ?_⟩
  · simp at h
    obtain ⟨m, rfl⟩ : ∃ m', m = m' + 1 := ⟨m - 1, by omega⟩
    have hp := g.par k (by omega) hk6
    refine EX_cons (E1_expr (EV_meth (EV_of (by walk_at "pv") ⟨_, GM_insert (.inl (.head _)), kb, ES_consP (by walk_at "pv") (ES_consP (v := .int (fo fs k).1) (PV_itemT (PV_itemL (i := k) (by walk_at "pv") (PV_itemL (by walk_at "pv") (by walk_at "pv") (.inl (.head _)) (by decide) rfl hWl trivial) hFD (by omega) (g.at hk6) hlen trivial) (by walk_at "pv") (by decide) rfl (by simp) trivial) (ES_nil (OPK_insert0 .head hWl ?_)) rfl) rfl⟩) rfl rfl rfl) fr.inter rfl)
    refine EX_nil ⟨m, by omega, (fo fs k).1, k :: r, rfl, rfl, by omega, by omega, by omega, by simp; omega, ?_⟩
    rw [← hw, upL, if_neg h]
    simp
  · simp at h
    subst h
    have hw0 : 0 :: r = upL fs 6 node := by
      rw [← hw]
      cases m <;> rfl
    generalize hws : 0 :: r = ws at hw0 hWl
    have hwl : ws.length ≤ 7 := by rw [← hws]; simp; omega
    have hws6 : ∀ c ∈ ws, c < 6 := by rw [hw0]; exact upL_lt g 6 node hn
    refine EX_cons (E1_assign fr.ok (by decide) (fr.sto rfl) (EV_list (ES_nil ⟨by simp, fun Pc => ⟨_, by walk_at "up", ?_⟩⟩)) rfl)
    refine EX_cons (E1_for (n := (ws.map iv).length) (xs := fun i => (ws.map iv).getD i .none) (Need := fun μ => Has D μ W (.lst (ws.map iv))) (fun i l μ => ∃ (acc : List (List Nat)) (k sg rn rs : Option V), l = [some (.val (.ref F)), some (.int node), some (.int t), some (.int p), some (.val (.ref W)), some (.val (.ref Pc)), k, sg, rn, rs] ∧ μ = [(Pc, .lst (acc.map sv)), (W, .lst (ws.map iv))] ∧ acc.length ≤ i ∧ acc ++ piecesL fs t p (ws.drop i) = piecesL fs t p ws)
      (EV_of (by walk_at "pv") ⟨src_list fr.ok (.inl (.tail _ (.head _))), [], none, none, none, none, rfl, rfl, by simp, by simp⟩) ?_ ?_ (fun x => rfl))
    · rintro i l μ hi ⟨acc, k, sg, rn, rs, rfl, rfl, hacc, hpc⟩
      rw [List.length_map] at hi
      obtain ⟨c, hc⟩ : ∃ c, ws[i]? = some c := ⟨_, List.getElem?_eq_getElem hi⟩
      have hc6 : c < 6 := hws6 c (List.mem_of_getElem? hc)
      have e : (ws.map iv).getD i .none = .int c := by simp [List.getD, hc, iv]
      have hdr : ws.drop i = c :: ws.drop (i + 1) := by
        have := List.getElem?_eq_some_iff.mp hc
        rw [List.drop_eq_getElem_cons hi, this.2]
      refine ⟨.inl (.tail _ (.head _)), ?_⟩
      show AS _ _ _ _ _ ((ws.map iv).getD i .none) _
      rw [e]
      refine AS_name fr.ok (by decide) (fr.sto rfl) (by walk_at "up") ?_
      have hat : (fs.map fv)[((c : Nat) : Int).toNat]? = some (fv (fo fs c)) := g.at hc6
      have hrun := g.run c hc6
      generalize hf : fo fs c = f at hrun hat
      obtain ⟨fp, fc, fr'⟩ := f
      have hrun : fr' ≤ 3 := hrun
      refine EX_cons (E1_tuple (EV_of (PV_sliceT (i := 1) (PV_itemL (i := c) (by walk_at "pv") (by walk_at "pv") hFD (by omega) hat hlen trivial) (by walk_at "pv") (by decide) (by simp) (by simp)) (AS_tup2 fr.ok (by decide) (fr.sto rfl) (fr.sto rfl) (by walk_at "up") (by walk_at "up") ?_)) rfl rfl)
      walk_at "as"
      refine EX_cut (fun l μ => ∃ R q : Nat, l = [some (.val (.ref F)), some (.int node), some (.int t), some (.int p), some (.val (.ref W)), some (.val (.ref Pc)), some (.int c), some (.str (S [fc])), some (.int R), some (.int q)] ∧ μ = [(Pc, .lst (acc.map sv)), (W, .lst (ws.map iv))] ∧ R ≤ 300 ∧
        piecesL fs t p (ws.drop i) = (if 0 < R then [List.replicate R fc] else []) ++ (if 0 < q then [] else piecesL fs t p (ws.drop (i + 1)))) ?_ ?_
      · refine E1_if (TV_TE (by walk_at "tv") ⟨fun h => ?_, fun h => ?_⟩)
        · simp at h
          subst h
          have hm : fr' * t ≤ 300 := Nat.le_trans (Nat.mul_le_mul hrun ht) (by omega)
          refine EX_cons (E1_tuple (EV_of (EV_call (by walk_at "glob") kb (ES_consP (EV_bin (by walk_at "pv") (by walk_at "pv") (OPB_mulI (mulIntOk (by omega) (by have := hrun; omega)))) (ES_consP (by walk_at "pv") (ES_nil (OPK_divmod (by omega) (PyProof.noPylong_small (by omega)))) rfl) rfl) rfl rfl rfl) (AS_tup2 fr.ok (by decide) (fr.sto rfl) (fr.sto rfl) (by walk_at "up") (by walk_at "up") ?_)) rfl rfl)
          refine EX_nil ⟨rfl, fr' * t / p, fr' * t % p, by simp, rfl, Nat.le_trans (Nat.div_le_self _ _) hm, ?_⟩
          rw [hdr, piecesL, hf]
          simp
        · simp at h
          refine EX_nil ⟨rfl, fr', 0, rfl, rfl, by have h3 : fr' ≤ 3 := hrun; omega, ?_⟩
          rw [hdr, piecesL, hf]
          simp [h]
      · rintro l μ ⟨R, q, rfl, rfl, hR, hpl⟩
        refine EX_cut (fun l μ => ∃ acc' : List (List Nat), l = [some (.val (.ref F)), some (.int node), some (.int t), some (.int p), some (.val (.ref W)), some (.val (.ref Pc)), some (.int c), some (.str (S [fc])), some (.int R), some (.int q)] ∧ μ = [(Pc, .lst (acc'.map sv)), (W, .lst (ws.map iv))] ∧ acc' = acc ++ (if 0 < R then [List.replicate R fc] else [])) ?_ ?_
        · refine E1_if (TV_TE (by walk_at "tv") ⟨fun h => ?_, fun h => ?_⟩)
          · simp at h
            refine EX_cons (E1_expr (EV_meth (EV_of (by walk_at "pv") ⟨_, GM_append (.inl (.head _)), kb, ES_consP (v := sv (List.replicate R fc)) (by rw [sv, ← mul_S]; exact EV_bin (by walk_at "pv") (by walk_at "pv") (OPB_mulS (mulOk_S (by omega)))) (ES_nil (OPK_append .head (by simp; omega) ?_)) rfl⟩) rfl rfl rfl) fr.inter rfl)
            exact EX_nil ⟨rfl, acc ++ [List.replicate R fc], rfl, by simp, by rw [if_pos h]⟩
          · simp at h
            exact EX_nil ⟨rfl, acc, rfl, rfl, by simp [h]⟩
        · rintro l μ ⟨acc', rfl, rfl, hacc'⟩
          have hal : acc'.length ≤ i + 1 := by rw [hacc']; split <;> simp <;> omega
          refine EX_cons (E1_if (TV_TE (by walk_at "tv") ⟨fun h => ?_, fun h => ?_⟩))
          · simp at h
            refine EX_cons (E1_brk ?_)
            refine EX_cons (E1_ret (EV_of (by walk_at "pv") ⟨[(Pc, .lst (acc'.map sv))], by simp, ?_⟩))
            rw [hpl, if_pos h, ← List.append_assoc, ← hacc', List.append_nil] at hpc
            rw [hpc, hw0]
            exact hΦ Pc
          · simp at h
            refine EX_nil (EX_nil ⟨acc', _, _, _, _, rfl, rfl, hal, ?_⟩)
            have hq : ¬ 0 < q := by omega
            rw [hpl, if_neg hq, ← List.append_assoc, ← hacc'] at hpc
            exact hpc
    · rintro l μ ⟨acc, k, sg, rn, rs, rfl, rfl, hacc, hpc⟩
      refine ⟨.inl (.tail _ (.head _)), ?_⟩
      refine EX_cons (E1_ret (EV_of (by walk_at "pv") ⟨[(Pc, .lst (acc.map sv))], by simp, ?_⟩))
      rw [List.length_map, List.drop_length, piecesL, List.append_nil] at hpc
      rw [hpc, hw0]
      exact hΦ Pc
end
-- F4
/-! _law_folders -/
noncomputable def signL (total k : Nat) : Nat := if k = 1 + total % 5 then 34 else 97 + k * (1 + total / 5 % 4) % 5
noncomputable def foldL (cells : List Nat) (total k : Nat) : Fo := (cells.getD (k - 1) 0 % k, signL total k, 1 + cells.getD (k - 1) 0 / k % 3)
noncomputable def foldersL (cells : List Nat) (total : Nat) : Nat → List Fo
  | 0 => [(0, 47, 1)]
  | n + 1 => foldersL cells total n ++ [foldL cells total (n + 1)]
theorem foldersL_len (cells : List Nat) (total : Nat) : ∀ n, (foldersL cells total n).length = n + 1
  | 0 => rfl
  | n + 1 => by rw [foldersL, List.length_append, foldersL_len cells total n]; rfl
theorem abc_at : ∀ j : Nat, j < 5 → [97, 98, 99, 100, 101][j]? = some (97 + j) := by decide
section
variable {C : Cx} {P : Params} {ks : List Str} {l l' : List (Option V)} {μ μ' : Mem}
theorem folders_ok {n : Nat} (rm : Room C P (n + 1)) {A : Addr} {cells : List Nat} (hA : Has C μ A (.lst (cells.map iv))) (hc5 : cells.length = 5) {total : Nat} {Φ : V → Mem → Prop}
    (hΦ : ∀ a, Φ (.val (.ref a)) ((a, .lst ((foldersL cells total 5).map fv)) :: μ)) : OPK C ks l μ (.ref 172) [.val (.ref A), .int total] Φ := by
  refine call_fr rm ["cells", "total"] ["folders", "k", "sign"] _ [(A, .lst (cells.map iv))] (chl (P := P) 172 (by k_is)) rfl (by k_is) rfl rfl (by decide) (fun p hp => by rw [List.mem_singleton.mp hp]; exact hA) (fun us hu => ?_) (by decide) (by decide) rfl rfl rfl rfl rfl rfl (fun D fr rm' hold => ?_)
  · obtain ⟨a, b, rfl⟩ := len2 hu
    rfl
  dsimp only at fr
  have hAD : ∀ {μ : Mem}, Has D μ A (.lst (cells.map iv)) := .inr (by rw [hold]; exact .head _)
  have hlen : (cells.map iv).length ≤ 1000 := by rw [List.length_map, hc5]; omega
  show EX D ["cells", "total", "folders", "k", "sign"] [some (.val (.ref A)), some (.int total), none, none, none] [] _ _
  refine EX_cons (E1_assign fr.ok (by decide) (fr.sto rfl) (EV_list (ES_cons (EV_tuple (ES_consP (by walk_at "pv") (ES_consP (by walk_at "pv") (ES_consP (by walk_at "pv") (ES_nil ⟨by simp, ES_nil ⟨by simp, fun F => ⟨_, by walk_at "up", ?_⟩⟩⟩) rfl) rfl) rfl)) rfl)) rfl)
  refine EX_cons (E1_for (n := 5) (xs := fun i => .int (1 + (i : Int))) (Need := fun _ => True) (fun i l μ => ∃ (r : Addr) (k sg : Option V), l = [some (.val (.ref A)), some (.int total), some (.val (.ref F)), k, sg] ∧ μ = [(r, .rng 1 6 1), (F, .lst ((foldersL cells total i).map fv))])
      (EV_call (by walk_at "glob") (by walk_at "kp") (ES_consP (by walk_at "pv") (ES_consP (by walk_at "pv") (ES_nil (OPK_range2 fun r => ⟨src_range fr.ok (.inl (.head _)) rfl rfl, r, none, none, rfl, rfl⟩)) rfl) rfl) rfl rfl rfl) ?_ ?_ (fun x => rfl))
  · rintro i l μ hi ⟨r, k, sg, rfl, rfl⟩
    refine ⟨trivial, AS_name fr.ok (by decide) (fr.sto rfl) (by walk_at "up") ?_⟩
    have e1 : ((1 : Int) + (i : Int)) * (1 + (total : Int) / 5 % 4) % 5 = (((i + 1) * (1 + total / 5 % 4) % 5 : Nat) : Int) := by
      rw [show (1 : Int) + (i : Int) = ((i + 1 : Nat) : Int) by omega]; norm_cast
    have hj : (i + 1) * (1 + total / 5 % 4) % 5 < 5 := Nat.mod_lt _ (by omega)
    refine EX_cons (E1_assignP fr.ok (by decide) (fr.sto rfl) (PV_itemS (c := 97 + (i + 1) * (1 + total / 5 % 4) % 5) (by walk_at "pv") (i := (((i + 1) * (1 + total / 5 % 4) % 5 : Nat) : Int)) (by rw [← e1]; walk_at "pv") (by simp; omega) (by rw [if_neg (by omega)]; exact abc_at _ hj) (by simp) trivial) (by walk_at "up") ?_ rfl)
    refine EX_cut (fun l μ => l = [some (.val (.ref A)), some (.int total), some (.val (.ref F)), some (.int (1 + (i : Int))), some (.str (S [signL total (i + 1)]))] ∧ μ = [(r, .rng 1 6 1), (F, .lst ((foldersL cells total i).map fv))]) ?_ ?_
    · refine E1_if (TV_TE (by walk_at "tv") ⟨fun h => ?_, fun h => ?_⟩)
      · simp at h
        walk_at "as"
        refine EX_nil ⟨rfl, ?_, rfl⟩
        rw [signL, if_pos (by omega)]
      · simp at h
        refine EX_nil ⟨rfl, ?_, rfl⟩
        rw [signL, if_neg (by omega)]
    · rintro l μ ⟨rfl, rfl⟩
      obtain ⟨c, hc⟩ : ∃ c, cells[i]? = some c := ⟨_, List.getElem?_eq_getElem (by omega)⟩
      have hcx : (cells.map iv)[((1 : Int) + (i : Int) - 1).toNat]? = some (.int c) := by
        rw [show ((1 : Int) + (i : Int) - 1).toNat = i by omega]; simp [hc, iv]
      have hfl : foldersL cells total (i + 1) = foldersL cells total i ++ [(c % (i + 1), signL total (i + 1), 1 + c / (i + 1) % 3)] := by
        rw [foldersL, foldL]; simp [List.getD, hc]
      refine EX_cons (E1_expr (EV_meth (EV_of (by walk_at "pv") ⟨_, GM_append (.inl (.tail _ (.head _))), kb, ES_cons (EV_tuple (ES_consP (EV_bin (PV_itemL (by walk_at "pv") (by walk_at "pv") hAD (by omega) hcx hlen trivial) (by walk_at "pv") (OPB_modI fr.ok (by omega))) (ES_consP (by walk_at "pv")
        (ES_consP (EV_bin (by walk_at "pv") (EV_bin (EV_bin (PV_itemL (by walk_at "pv") (by walk_at "pv") hAD (by omega) hcx hlen trivial) (by walk_at "pv") (OPB_divI fr.ok (by omega) (PyProof.noPylong_small (by omega)))) (by walk_at "pv") (OPB_modI fr.ok (by omega))) OPB_addI) (ES_nil ⟨by simp, ES_nil (OPK_append (.tail .head) (by rw [List.length_map, foldersL_len]; omega) ?_)⟩) rfl) rfl) rfl)) rfl⟩) rfl rfl rfl) fr.inter rfl)
      refine EX_nil ⟨r, _, _, rfl, ?_⟩
      rw [hfl, List.map_append]
      have e2 : (1 : Int) + (i : Int) = ((i + 1 : Nat) : Int) := by omega
      simp only [List.map_cons, List.map_nil, fv, e2]
      norm_cast
  · rintro l μ ⟨r, k, sg, rfl, rfl⟩
    refine ⟨trivial, EX_cons (E1_ret (EV_of (by walk_at "pv") ⟨[(F, .lst ((foldersL cells total 5).map fv))], by simp, hΦ F⟩))⟩
end
-- F5
/-! _law_order -/
noncomputable def kidsL (fs : List Fo) (node : Nat) : Nat → List (Nat × Nat)
  | 0 => []
  | n + 1 => kidsL fs node n ++ (if (fo fs (n + 1)).1 = node then [((fo fs (n + 1)).2.1, n + 1)] else [])
noncomputable def sortKids (kids : List (Nat × Nat)) : Option (List (Nat × Nat)) :=
  if kids.length < 2 then some kids else (kasRun (kids.map (·.1)) (kas_sort kids.length)).bind fun p => if p.toList.all (fun i => decide (i < kids.length)) = true then some (p.toList.map fun i => kids.getD i (0, 0)) else none
noncomputable def ordersL (f : Nat → Option (List Nat)) : List (Nat × Nat) → List Nat → Option (List Nat)
  | [], acc => some acc
  | q :: r, acc => (f q.2).bind fun l => ordersL f r (acc ++ l)
noncomputable def orderL (fs : List Fo) : Nat → Nat → Option (List Nat)
  | 0, _ => none
  | n + 1, node => (sortKids (kidsL fs node 5)).bind fun kids => ordersL (orderL fs n) kids [node]
theorem ordersL_len {f : Nat → Option (List Nat)} : ∀ {kids : List (Nat × Nat)} {acc out : List Nat}, ordersL f kids acc = some out → acc.length ≤ out.length
  | [], acc, out, h => by obtain rfl := Option.some.inj h; exact Nat.le_refl _
  | q :: r, acc, out, h => by
    rw [ordersL] at h
    obtain ⟨l, _, h⟩ := Option.bind_eq_some_iff.mp h
    have := ordersL_len h
    rw [List.length_append] at this
    omega
theorem kidsL_len (fs : List Fo) (node : Nat) : ∀ n, (kidsL fs node n).length ≤ n
  | 0 => Nat.le_refl _
  | n + 1 => by
    rw [kidsL, List.length_append]
    have := kidsL_len fs node n
    split <;> simp <;> omega
theorem kidsL_lt (fs : List Fo) (node : Nat) : ∀ n, ∀ q ∈ kidsL fs node n, 0 < q.2 ∧ q.2 ≤ n
  | 0, q, h => by cases h
  | n + 1, q, h => by
    rw [kidsL] at h
    rcases List.mem_append.mp h with h | h
    · have := kidsL_lt fs node n q h; omega
    · split at h
      · rw [List.mem_singleton.mp h]; simp
      · cases h
theorem sortKids_mem {kids out : List (Nat × Nat)} (h : sortKids kids = some out) : ∀ q ∈ out, q ∈ kids := by
  unfold sortKids at h
  split at h
  · obtain rfl := Option.some.inj h; exact fun q h => h
  · obtain ⟨p, _, h⟩ := Option.bind_eq_some_iff.mp h
    split at h
    · rename_i hp
      obtain rfl := Option.some.inj h
      intro q hq
      obtain ⟨i, hi, rfl⟩ := List.mem_map.mp hq
      have := List.all_eq_true.mp hp i hi
      have hi' : i < kids.length := by simpa using this
      simp [List.getD, hi']
    · cases h
theorem Mu.app {a : Addr} {b b' : Ob} {μ μ' : Mem} : ∀ (ν : Mem), Mu μ a b b' μ' → Mu (ν ++ μ) a b b' (ν ++ μ')
  | [], h => h
  | _ :: ν, h => .tail (Mu.app ν h)
section
variable {C : Cx} {P : Params} {ks : List Str} {l l' : List (Option V)} {μ μ' : Mem}
theorem sortKids_ok {a : Addr} {kids out : List (Nat × Nat)} {Φ : V → Mem → Prop} (hm : Has C μ a (.lst (kids.map kv))) (h64 : kids.length < 64) (hs : sortKids kids = some out) (h : ∀ D, Φ (.val (.ref D)) ((D, .lst (out.map kv)) :: μ)) : OPK C ks l μ (.builtin "sorted") [.val (.ref a)] Φ := by
  unfold sortKids at hs
  split at hs
  · obtain rfl := Option.some.inj hs
    exact OPK_sortedFew hm (by rw [List.length_map]; assumption) h
  · obtain ⟨p, hp, hs⟩ := Option.bind_eq_some_iff.mp hs
    split at hs
    · rename_i hall
      obtain rfl := Option.some.inj hs
      refine OPK_sortedT hm (by omega) h64 hp fun D => ?_
      have e : (p.toList.map fun i => (kids.map kv).getD i .none) = (p.toList.map fun i => kids.getD i (0, 0)).map kv := by
        rw [List.map_map]
        refine List.map_congr_left fun i hi => ?_
        have := List.all_eq_true.mp hall i hi
        have hi' : i < kids.length := by simpa using this
        simp [List.getD, hi']
      rw [e]
      exact h D
    · cases hs
theorem order_ok {fs : List Fo} (g : Good fs) : ∀ (n : Nat) {C : Cx} {ks : List Str} {l : List (Option V)} {μ : Mem}, Room C P n → ∀ {F : Addr}, Has C μ F (.lst (fs.map fv)) → ∀ {node : Nat}, node < 6 → ∀ {out : List Nat}, orderL fs n node = some out → out.length ≤ 900 → ∀ {Φ : V → Mem → Prop},
    (∀ a, Φ (.val (.ref a)) ((a, .lst (out.map iv)) :: μ)) → OPK C ks l μ (.ref 177) [.val (.ref F), .int node] Φ
  | 0, _, _, _, _, _, _, _, _, _, _, ho, _, _, _ => by rw [orderL] at ho; cases ho
  | n + 1, C, ks, l, μ, rm, F, hF, node, hn, out, ho, hlen, Φ, hΦ => by
    rw [orderL] at ho
    obtain ⟨kids, hk, ho⟩ := Option.bind_eq_some_iff.mp ho
    refine call_frC rm ["folders", "node"] ["order", "kids", "sign", "kid"] _ [(F, .lst (fs.map fv))] (chl (P := P) 177 (by k_is)) rfl (by k_is) rfl rfl (by decide) (fun p hp => by rw [List.mem_singleton.mp hp]; exact hF) (fun us hu => ?_) (by decide) rfl (by decide) rfl rfl rfl rfl rfl (fun D fr cok rm' hold => ?_)
    · match us, hu with
      | [a, b], _ => rfl
    dsimp only at fr cok
    have hFD : ∀ {μ : Mem}, Has D μ F (.lst (fs.map fv)) := .inr (by rw [hold]; exact .head _)
    have hfl : (fs.map fv).length ≤ 1000 := by rw [List.length_map, g.len]; omega
    obtain ⟨cF, hcF⟩ := cok.look (Str.ofString "folders") rfl
    obtain ⟨cN, hcN⟩ := cok.look (Str.ofString "node") rfl
    show EX D ["folders", "node", "order", "kids", "sign", "kid"] [some (.val (.ref F)), some (.int node), none, none, none, none] [] _ _
    refine EX_cons (E1_assign fr.ok (by decide) (fr.sto rfl) (EV_list (ES_consP (by walk_at "pv") (ES_nil ⟨by simp, fun O => ⟨_, by walk_at "up", ?_⟩⟩) rfl)) rfl)
    refine EX_cons (E1_compF fr rm' (by decide) rfl [("node", cN), ("folders", cF)] ["k", "folders", "node"] [none, some (.val (.ref F)), some (.int node)] [(".0", .local), ("k", .local), ("folders", .cell), ("node", .cell)]
      (EV_call (by walk_at "glob") (by walk_at "kp") (ES_consP (by walk_at "pv") (ES_consP (by walk_at "pv") (ES_nil (OPK_range2 fun r => ⟨5, fun i => .int (1 + (i : Int)), fun _ => True, fun i ys μ => ys = (kidsL fs node i).map kv ∧ μ = [(r, .rng 1 6 1), (O, .lst [.int node])], src_range fr.ok (.inl (.head _)) rfl rfl, ⟨rfl, rfl⟩, by omega, ?_, ?_⟩)) rfl) rfl) rfl rfl rfl) ?_ (Inside.of fr ?_ ?_ ?_) rfl (by decide) rfl (by decide) (fun x => rfl) rfl)
    rotate_left 2
    · simp [closureFor, cellOf, hcF, hcN]
    · intro p hp
      rcases List.mem_cons.mp hp with rfl | hp
      · exact hcN
      · rw [List.mem_singleton.mp hp]; exact hcF
    · show (["node", "folders"] : List Str).Nodup
      decide
    · intro x v h
      cases h with
      | tail h => cases h with
        | head => exact ⟨by walk_at "lk", rfl, rfl, cF, .tail _ (.head _), rfl⟩
        | tail h => cases h with
          | head => exact ⟨by walk_at "lk", rfl, rfl, cN, .head _, rfl⟩
          | tail h => cases h
    · rintro i ys μ hi ⟨rfl, rfl⟩
      refine ⟨fun _ => trivial, fun G fi rmG holdG => ?_⟩
      have hFI : ∀ {μ' : Mem}, Has G μ' F (.lst (fs.map fv)) := .inr (by rw [holdG, hold]; exact .tail _ (.tail _ (.head _)))
      refine AS_name fi.ok (by decide) (fi.sto rfl) (by walk_at "up") ?_
      have hat : (fs.map fv)[((1 : Int) + (i : Int)).toNat]? = some (fv (fo fs (i + 1))) := by
        rw [show ((1 : Int) + (i : Int)).toNat = i + 1 by omega]; exact g.at (by omega)
      generalize hf : fo fs (i + 1) = f at hat
      obtain ⟨fp, fc, fr'⟩ := f
      refine TS_one (TV_TE (TV_cmp (va := .int fp) (PV_itemT (PV_itemL (by walk_at "pv") (by walk_at "pv") hFI (by omega) hat hfl trivial) (by walk_at "pv") (by decide) rfl (by simp) trivial) (by walk_at "pv") OPC_eqI rfl) ?_)
      by_cases hpn : fp = node
      · subst hpn
        rw [show decide ((fp : Int) = (fp : Int)) = true by simp]
        rw [if_pos rfl]
        refine EV_tuple (ES_consP (v := .str (S [fc])) (PV_itemT (PV_itemL (by walk_at "pv") (by walk_at "pv") hFI (by omega) hat hfl trivial) (by walk_at "pv") (by decide) rfl (by simp) trivial) (ES_consP (by walk_at "pv") (ES_nil ⟨by simp, [], List.Sublist.refl _, ?_, rfl⟩) rfl) rfl)
        rw [kidsL, List.map_append, hf]
        simp only [if_true, List.map_cons, List.map_nil, kv]
        rw [show (1 : Int) + (i : Int) = ((i + 1 : Nat) : Int) by omega]
      · have : decide ((fp : Int) = (node : Int)) = false := by simp; omega
        rw [this, if_neg (by simp)]
        refine ⟨[], List.Sublist.refl _, ?_, rfl⟩
        rw [kidsL, hf]
        simp [hpn]
    · rintro ys μ ⟨rfl, rfl⟩
      refine ⟨fun _ => trivial, fun K => ⟨_, by walk_at "up", ?_⟩⟩
      have hkl := kidsL_len fs node 5
      refine EX_cons (E1_forE (EV_call (by walk_at "glob") kb (ES_consP (by walk_at "pv") (ES_nil (sortKids_ok (.inl (.head _)) (by omega) hk fun K2 => ⟨(kids.map kv).length, fun i => (kids.map kv).getD i .none, fun μ => Has D μ K2 (.lst (kids.map kv)),
        fun i l μ => ∃ (acc : List Nat) (sg kd : Option V), l = [some (.val (.ref F)), some (.int node), some (.val (.ref O)), some (.val (.ref K)), sg, kd] ∧ (∃ ν, μ = ν ++ [(K2, .lst (kids.map kv)), (K, .lst ((kidsL fs node 5).map kv)), (r, .rng 1 6 1), (O, .lst (acc.map iv))]) ∧ ordersL (orderL fs n) (kids.drop i) acc = some out,
        src_list fr.ok (.inl (.head _)), ⟨[node], none, none, rfl, ⟨[], rfl⟩, ho⟩, ?_, ?_⟩)) rfl) rfl rfl rfl) (fun x => rfl))
      · rintro i l μ hi ⟨acc, sg, kd, rfl, ⟨ν, rfl⟩, hacc⟩
        have hK2 : ∀ {ν : Mem}, Has D (ν ++ [(K2, .lst (kids.map kv)), (K, .lst ((kidsL fs node 5).map kv)), (r, .rng 1 6 1), (O, .lst (acc.map iv))]) K2 (.lst (kids.map kv)) := .inl (List.mem_append_right _ (.head _))
        refine ⟨hK2, ?_⟩
        rw [List.length_map] at hi
        obtain ⟨c, hc⟩ : ∃ c, kids[i]? = some c := ⟨_, List.getElem?_eq_getElem hi⟩
        have e : (kids.map kv).getD i .none = kv c := by simp [List.getD, hc]
        have hdr : kids.drop i = c :: kids.drop (i + 1) := by
          have := List.getElem?_eq_some_iff.mp hc
          rw [List.drop_eq_getElem_cons hi, this.2]
        have hcm := kidsL_lt fs node 5 c (sortKids_mem hk c (List.mem_of_getElem? hc))
        rw [hdr, ordersL] at hacc
        obtain ⟨lo, hlo, hacc2⟩ := Option.bind_eq_some_iff.mp hacc
        have hal := ordersL_len hacc2
        rw [List.length_append] at hal
        show AS _ _ _ _ _ ((kids.map kv).getD i .none) _
        rw [e]
        obtain ⟨cs, ck⟩ := c
        refine AS_tup2 fr.ok (by decide) (fr.sto rfl) (fr.sto rfl) (by walk_at "up") (by walk_at "up") ?_
        refine EX_cons (E1_expr (EV_meth (EV_of (by walk_at "pv") ⟨_, GM_extend (.inl (List.mem_append_right _ (.tail _ (.tail _ (.tail _ (.head _)))))), kb, ES_cons (EV_call (by walk_at "glob") (by walk_at "kp") (ES_consP (by walk_at "pv") (ES_consP (by walk_at "pv") (ES_nil (order_ok g n rm' hFD (node := ck) (by simp only at hcm; omega) hlo (by omega) fun A => ES_nil (OPK_extend (b := A) (ys := lo.map iv) (.tail (Mu.app _ (.tail (.tail (.tail .head))))) (.inl (.head _)) (by simp; omega) ?_))) rfl) rfl) rfl rfl rfl) rfl⟩) rfl rfl rfl) fr.inter rfl)
        refine EX_nil ⟨acc ++ lo, _, _, rfl, ⟨(A, .lst (lo.map iv)) :: ν, by simp⟩, hacc2⟩
      · rintro l μ ⟨acc, sg, kd, rfl, ⟨ν, rfl⟩, hacc⟩
        refine ⟨.inl (List.mem_append_right _ (.head _)), EX_cons (E1_ret (EV_of (by walk_at "pv") ⟨[(O, .lst (acc.map iv))], ?_, ?_⟩))⟩
        · exact List.Sublist.trans (by simp) (List.sublist_append_right _ _)
        · rw [List.length_map, List.drop_length, ordersL] at hacc
          rw [Option.some.inj hacc]
          exact hΦ O
end
-- F6
/-! _levenshtein_distance -/
noncomputable def Al : List Nat := [34, 47, 97, 98, 99, 100, 101]
theorem low_fit : ∀ c ∈ Al, Builtin.Str.tooLong (Txt.lower (S [c])).length = false := by decide +kernel
theorem low_ne : ∀ c ∈ Al, ∀ d ∈ Al, c ≠ d → lowL [c] ≠ lowL [d] := by decide +kernel
theorem cost_Al {c d : Nat} (hc : c ∈ Al) (hd : d ∈ Al) (h : c ≠ d) : costL [c] [d] = 2 := by
  have := low_ne c hc d hd h
  simp [costL, h, this]
noncomputable def levL (x y : List Nat) (m : Int) : Int := if x = [] ∨ y = [] then 2 * (x.length + y.length) else min (2 * max (x.length : Int) y.length) (m + 1)
noncomputable def rowL (n i : Nat) : List V := (List.range n).map fun j : Nat => V.int (2 * max (i : Int) ((j : Int) + 1))
noncomputable def midL (n i k : Nat) : List V := (List.range n).map fun j : Nat => V.int (if j < k then 2 * max ((i : Int) + 1) ((j : Int) + 1) else 2 * max (i : Int) ((j : Int) + 1))
theorem rs2 : ∀ k : Nat, k ≤ 40 → Builtin.Range.rangeSize 2 (2 * ((k : Int) + 1)) 2 = k ∧ Builtin.Range.small 2 (2 * ((k : Int) + 1)) 2 = true := by decide
theorem rs1 : ∀ k : Nat, k ≤ 40 → Builtin.Range.rangeSize 0 (k : Int) 1 = k ∧ Builtin.Range.small 0 (k : Int) 1 = true := by decide
theorem midL_len (n i k : Nat) : (midL n i k).length = n := by simp [midL]
theorem midL_0 (n i : Nat) : midL n i 0 = rowL n i := by simp [midL, rowL]
theorem midL_n (n i : Nat) : midL n i n = rowL n (i + 1) := by
  unfold midL rowL
  refine List.map_congr_left fun j hj => ?_
  rw [if_pos (List.mem_range.mp hj)]
  congr 1
theorem midL_at {n i k : Nat} (h : k < n) : (midL n i k)[k]? = some (.int (2 * max (i : Int) ((k : Int) + 1))) := by
  simp [midL, h]
theorem midL_set {n i k : Nat} (h : k < n) : (midL n i k).set k (.int (2 * max ((i : Int) + 1) ((k : Int) + 1))) = midL n i (k + 1) := by
  apply List.ext_getElem?
  intro j
  rw [List.getElem?_set]
  by_cases hj : k = j
  · subst hj
    simp [midL, h]
  · rw [if_neg hj]
    by_cases hjn : j < n
    · simp only [midL, List.getElem?_map, List.getElem?_range hjn, Option.map_some]
      congr 2
      by_cases hjk : j < k
      · rw [if_pos hjk, if_pos (by omega)]
      · rw [if_neg hjk, if_neg (by omega)]
    · simp [midL, hjn]
section
variable {C : Cx} {P : Params} {names : List (Str × NameKind)} {ks : List Str} {l l' : List (Option V)} {μ μ' : Mem}
theorem swaps_two (f : Fr C names P) {x y : Str} {px py p1 p2 : Pos} {k1 k2 : Nat} {n1 n2 : Str} {q1 q2 : Pos} (hx : names.lookup x = some .local) (hy : names.lookup y = some .local) (hl1 : (px.line == py.line) = true) (hne : (x == y) = false) (hnd : (n1 == ("__debug__" : Str)) = false) :
    swappedStores [.Tuple [.Name x px, .Name y py] k1 p1] (.Tuple [.Name n1 q1, .Name n2 q2] k2 p2) C.env = pure (some [x, y]) := by
  have h1 : C.env.blockKind = .function := by unfold Env.blockKind; rw [f.ok.fn]; rfl
  have hne' : x ≠ y := fun e => by rw [e] at hne; simp at hne
  have e1 : (py.line == px.line) = true := by rw [beq_iff_eq] at hl1 ⊢; exact hl1.symm
  have k1 := f.kind hx
  have k2 := f.kind hy
  unfold swappedStores
  have e2 : py.line = px.line := by simpa using e1
  have e3 : (y == x) = false := by rw [beq_eq_false_iff_ne]; exact hne'.symm
  have hnd' : n1 ≠ Str.ofString "__debug__" := fun e => by rw [e] at hnd; revert hnd; decide
  have g1 : ∀ n q, foldedForSure 8 (.Name n q) = false := fun _ _ => rfl
  have g2 : ∀ n q, constantsAlone 8 (.Name n q) = (n == ("__debug__" : Str)) := fun _ _ => rfl
  simp [h1, k1, k2, e2, hne', hne'.symm, pos_name, pos_const, pos_call, pos_list, pos_tuple, g1, g2, List.eraseDups, List.eraseDupsBy, List.eraseDupsBy.loop, List.filterMap, hnd', e3]
theorem lev_ok {n : Nat} (rm : Room C P (n + 2)) (p x y : List Nat) (hx : p.length + x.length ≤ 40) (hy : p.length + y.length ≤ 40) (hxy : ∀ c ∈ x, c ∉ y) (hxA : ∀ c ∈ x, c ∈ Al) (hyA : ∀ c ∈ y, c ∈ Al) (m : Nat) (hm : m ≤ 100) :
    OPK C ks l μ (.ref 165) [.str (S (p ++ x)), .str (S (p ++ y)), .int m] (Is (.int (levL x y m)) μ) := by
  refine call_fr rm ["a", "b", "max_cost"] ["pre", "post", "row", "result", "bindex", "bchar", "distance", "minimum", "index", "substitute", "insert_delete"] _ [] (chl (P := P) 165 (by k_is)) rfl (by k_is) rfl rfl (by decide) (fun p hp => nomatch hp) (fun us hu => ?_) (by decide) (by decide) rfl rfl rfl rfl rfl rfl (fun D fr rm' hold => ?_)
  · obtain ⟨a, b, c, rfl⟩ := len3 hu
    rfl
  dsimp only at fr
  have hA : (p ++ x).length ≤ 40 := by rw [List.length_append]; exact hx
  have hB : (p ++ y).length ≤ 40 := by rw [List.length_append]; exact hy
  have hdA : (p ++ x).drop p.length = x := by simp
  have hdB : (p ++ y).drop p.length = y := by simp
  have hgA : ∀ k, k < p.length → (p ++ x)[k]? = p[k]? := fun k h => List.getElem?_append_left h
  have hgB : ∀ k, k < p.length → (p ++ y)[k]? = p[k]? := fun k h => List.getElem?_append_left h
  generalize hAe : p ++ x = A at *
  generalize hBe : p ++ y = B at *
  show EX D ["a", "b", "max_cost", "pre", "post", "row", "result", "bindex", "bchar", "distance", "minimum", "index", "substitute", "insert_delete"] [some (.str (S A)), some (.str (S B)), some (.int m), none, none, none, none, none, none, none, none, none, none, none] [] _ _
  refine EX_cons (E1_if (TV_TE (by walk_at "tv") ⟨fun h => ?_, fun h => ?_⟩))
  · simp at h
    have hxy' : x = y := by rw [← hdA, ← hdB, h]
    have hx0 : x = [] := by
      cases x with
      | nil => rfl
      | cons c r => exact absurd (hxy' ▸ List.mem_cons_self) (hxy c List.mem_cons_self)
    refine EX_cons (E1_ret (EV_of (by walk_at "pv") ⟨[], List.Sublist.refl _, ?_, rfl⟩))
    rw [← hxy', hx0]; rfl
  simp at h
  refine EX_nil ?_
  walk_at "as"
  refine EX_cons (E1_while (fun k l μ => ∃ i : Nat, l = [some (.str (S A)), some (.str (S B)), some (.int m), some (.int i), none, none, none, none, none, none, none, none, none, none] ∧ μ = [] ∧ i ≤ p.length ∧ k = p.length - i) p.length ⟨0, rfl, rfl, by omega, by omega⟩ ?_)
  rintro k l μ ⟨i, rfl, rfl, hi, rfl⟩
  have sa : ∀ (X : List Nat), Txt.slice (S X) (some (i : Int)) none = S (X.drop i) := fun X => by rw [slice_from (by omega)]; simp
  refine TV_TE (TV_and (b := decide ((A.drop i).length ≠ 0)) (c := decide ((B.drop i).length ≠ 0) && (decide (A[i]? = B[i]?) && true)) (TV_strS (PV_sliceS (by walk_at "pv") (by walk_at "part") (by walk_at "part") (sa A) (by omega)) (by simp; omega) (fun _ => rfl)) fun h1 => TV_and (TV_strS (PV_sliceS (by walk_at "pv") (by walk_at "part") (by walk_at "part") (sa B) (by omega)) (by simp; omega) (fun _ => rfl)) fun h2 => TV_and ?_ fun _ => TV_and0) ⟨fun h3 => ?_, fun h3 => ?_⟩
  · simp at h1 h2
    obtain ⟨c, hc⟩ : ∃ c, A[i]? = some c := ⟨_, List.getElem?_eq_getElem (by omega)⟩
    obtain ⟨d, hd⟩ : ∃ d, B[i]? = some d := ⟨_, List.getElem?_eq_getElem (by omega)⟩
    rw [hc, hd, show decide (some c = some d) = decide ([c] = [d]) by simp]
    exact TV_cmp (PV_itemS (by walk_at "pv") (by walk_at "pv") (by omega) (c := c) (by rw [if_neg (by omega)]; exact hc) (by omega) trivial) (PV_itemS (by walk_at "pv") (by walk_at "pv") (by omega) (c := d) (by rw [if_neg (by omega)]; exact hd) (by omega) trivial) OPC_eqSS rfl
  · simp at h3
    have hlt : i < p.length := by
      rcases Nat.lt_or_ge i p.length with h | h
      · exact h
      · obtain rfl : i = p.length := by omega
        exfalso
        obtain ⟨g1, g2, g3⟩ := h3
        have e1 : A[p.length]? = x[0]? := by rw [← hdA]; simp
        have e2 : B[p.length]? = y[0]? := by rw [← hdB]; simp
        rw [e1, e2] at g3
        cases x with
        | nil => have := congrArg List.length hdA; simp at this; omega
        | cons c r => cases y with
          | nil => simp at g3
          | cons d r' =>
            simp at g3
            exact hxy c List.mem_cons_self (g3 ▸ List.mem_cons_self)
    refine EX_gen fun Φ hΦ => ?_
    refine EX_cons (E1_augI fr.ok (by decide) (fr.sto rfl) (i := (i : Int)) (j := 1) (r := ((i + 1 : Nat) : Int)) (by walk_at "lk") (EV_of (by walk_at "pv") ⟨rfl, _, by walk_at "up", EX_nil (hΦ _ _ _ ⟨p.length - (i + 1), by omega, i + 1, rfl, rfl, by omega, rfl⟩)⟩) (.inl ⟨rfl, by omega⟩))
  have hie : i = p.length := by
    rcases Nat.lt_or_ge i p.length with h | h
    · exfalso
      have a1 := hgA i h
      have a2 := hgB i h
      have l1 := congrArg List.length hAe
      have l2 := congrArg List.length hBe
      rw [List.length_append] at l1 l2
      simp at h3
      have := h3 (by omega) (by omega)
      exact this (a1.trans a2.symm)
    · omega
  subst hie
  refine EX_cons (E1_assignP fr.ok (by decide) (fr.sto rfl) (PV_sliceS (y := S x) (by walk_at "pv") (by walk_at "part") (by walk_at "part") (by rw [sa, hdA]) (by omega)) (by walk_at "up") ?_ rfl)
  refine EX_cons (E1_assignP fr.ok (by decide) (fr.sto rfl) (PV_sliceS (y := S y) (by walk_at "pv") (by walk_at "part") (by walk_at "part") (by rw [sa, hdB]) (by omega)) (by walk_at "up") ?_ rfl)
  walk_at "as"
  have hxl : x.length ≤ 40 := by omega
  have hyl : y.length ≤ 40 := by omega
  -- the loop from behind: its test is false at once
  have pn : ∀ {ks : List Str} {l : List (Option V)} {e e' : Expr} {pos : Pos}, PV D ks l [] e (.int 0) → PV D ks l [] e' .none → PPart D ks l [] (some (.BoolOp .Or [e, e'] pos)) none := fun h h' => PPart_some (PV_orI h (fun q => absurd rfl q) fun _ => h')
  refine EX_cons (E1_while (fun k l μ => l = [some (.str (S x)), some (.str (S y)), some (.int m), some (.int p.length), some (.int 0), none, none, none, none, none, none, none, none, none] ∧ μ = []) 0 ⟨rfl, rfl⟩ ?_)
  rintro k l μ ⟨rfl, rfl⟩
  refine TV_TE (b := false) ?_ ⟨fun h => (by cases h), fun _ => ?_⟩
  · have e : false = (decide (x.length ≠ 0) && (decide (y.length ≠ 0) && (decide (x.getLast? = y.getLast?) && true))) := by
      rw [Bool.eq_iff_iff]
      simp
      intro a b c
      cases hx' : x.getLast? with
      | none => rw [List.getLast?_eq_none_iff] at hx'; exact a hx'
      | some v =>
        rw [hx'] at c
        exact hxy v (List.mem_of_getLast? hx') (List.mem_of_getLast? c.symm)
    rw [e]
    refine TV_and (TV_strS (PV_sliceS (y := S x) (by walk_at "pv") PPart_none (pn (by walk_at "pv") (by walk_at "pv")) slice_all (by omega)) (by omega) (fun _ => rfl)) fun h1 => TV_and (TV_strS (PV_sliceS (y := S y) (by walk_at "pv") PPart_none (pn (by walk_at "pv") (by walk_at "pv")) slice_all (by omega)) (by omega) (fun _ => rfl)) fun h2 => TV_and ?_ fun _ => TV_and0
    simp only [ne_eq, decide_not, Bool.not_eq_true', decide_eq_false_iff_not] at h1 h2
    obtain ⟨c, hc⟩ : ∃ c, x.getLast? = some c := by
      cases hx' : x.getLast? with
      | none => rw [List.getLast?_eq_none_iff] at hx'; exact absurd (by rw [hx']; rfl) h1
      | some v => exact ⟨v, rfl⟩
    obtain ⟨d, hd⟩ : ∃ d, y.getLast? = some d := by
      cases hx' : y.getLast? with
      | none => rw [List.getLast?_eq_none_iff] at hx'; exact absurd (by rw [hx']; rfl) h2
      | some v => exact ⟨v, rfl⟩
    rw [hc, hd, show decide (some c = some d) = decide ([c] = [d]) by simp]
    rw [List.getLast?_eq_getElem?] at hc hd
    exact TV_cmp (PV_itemS (c := c) (i := -1) (by walk_at "pv") (by walk_at "pv") (by omega) (by rw [if_pos (by omega), show (-1 + (x.length : Int)).toNat = x.length - 1 by omega]; exact hc) (by omega) trivial)
      (PV_itemS (c := d) (i := -1) (by walk_at "pv") (by walk_at "pv") (by omega) (by rw [if_pos (by omega), show (-1 + (y.length : Int)).toNat = y.length - 1 by omega]; exact hd) (by omega) trivial) OPC_eqSS rfl
  refine EX_cons (E1_assignP fr.ok (by decide) (fr.sto rfl) (PV_sliceS (y := S x) (by walk_at "pv") PPart_none (pn (by walk_at "pv") (by walk_at "pv")) slice_all (by omega)) (by walk_at "up") ?_ rfl)
  refine EX_cons (E1_assignP fr.ok (by decide) (fr.sto rfl) (PV_sliceS (y := S y) (by walk_at "pv") PPart_none (pn (by walk_at "pv") (by walk_at "pv")) slice_all (by omega)) (by walk_at "up") ?_ rfl)
  refine EX_cons (E1_if (TV_TE (TV_or (b := !decide (x.length ≠ 0)) (c := (!decide (y.length ≠ 0)) || false) (TV_not (TV_strS (by walk_at "pv") (by omega) (fun _ => rfl))) fun _ => TV_or (TV_not (TV_strS (by walk_at "pv") (by omega) (fun _ => rfl))) fun _ => TV_or0) ⟨fun h4 => ?_, fun h4 => ?_⟩))
  · simp at h4
    refine EX_cons (E1_ret (EV_of (by walk_at "pv") ⟨[], List.Sublist.refl _, ?_, rfl⟩))
    rw [levL, if_pos (by simpa using h4)]
  simp at h4
  refine EX_nil ?_
  refine EX_cons (E1_if (TV_TE (TV_or (by walk_at "tv") fun _ => TV_or (by walk_at "tv") fun _ => TV_or0) ⟨fun h5 => ?_, fun h5 => ?_⟩))
  · exfalso; simp at h5; omega
  refine EX_nil ?_
  refine EX_cut (fun l μ => ∃ u v : List Nat, l = [some (.str (S u)), some (.str (S v)), some (.int m), some (.int p.length), some (.int 0), none, none, none, none, none, none, none, none, none] ∧ μ = [] ∧ u ≠ [] ∧ u.length ≤ v.length ∧ v.length ≤ 40 ∧ (∀ c ∈ u, c ∉ v) ∧ (∀ c ∈ u, c ∈ Al) ∧ (∀ c ∈ v, c ∈ Al) ∧ levL x y m = min (2 * (v.length : Int)) (m + 1)) ?_ ?_
  · have hl1 : levL x y m = min (2 * max (x.length : Int) y.length) (m + 1) := by rw [levL, if_neg (by simp [h4.1, h4.2])]
    refine E1_if (TV_TE (by walk_at "tv") ⟨fun h6 => ?_, fun h6 => ?_⟩)
    · simp at h6
      refine EX_cons (E1_tupleS fr.ok (by decide) (names := ["a", "b"]) (EV_tuple (ES_consP (by walk_at "pv") (ES_consP (by walk_at "pv") (ES_nil ⟨by simp, _, rfl, rfl, _, Ups.cons (by walk_at "up") (Ups.cons (by walk_at "up") .nil), EX_nil ⟨rfl, y, x, rfl, rfl, h4.2, by omega, hxl, fun c hc hc' => hxy c hc' hc, hyA, hxA, by rw [hl1]; congr 1; omega⟩⟩) rfl) rfl)) (by intro z hz; rcases List.mem_cons.mp hz with rfl | hz; exact fr.sto rfl; rw [List.mem_singleton.mp hz]; exact fr.sto rfl) rfl (swaps_two fr rfl rfl rfl rfl rfl))
    · simp at h6
      exact EX_nil ⟨rfl, x, y, rfl, rfl, h4.1, h6, hyl, hxy, hxA, hyA, by rw [hl1]; congr 1; omega⟩
  rintro l μ ⟨u, v, rfl, rfl, hu0, huv, hv40, huv', huA, hvA, hlev⟩
  rw [hlev]
  have hul : 0 < u.length := List.length_pos_iff.mpr hu0
  refine EX_cons (E1_if (TV_TE (by walk_at "tv") ⟨fun h7 => ?_, fun h7 => ?_⟩))
  · simp at h7
    refine EX_cons (E1_ret (EV_of (by walk_at "pv") ⟨[], List.Sublist.refl _, ?_, rfl⟩))
    rw [Int.min_eq_right (by omega)]
  simp at h7
  refine EX_nil ?_
  have rs := rs2 u.length (by omega)
  have rv := rs1 v.length hv40
  have ru := rs1 u.length (by omega)
  refine EX_cons (E1_assign fr.ok (by decide) (fr.sto rfl) (EV_call (by walk_at "glob") (by walk_at "kp") (ES_cons (EV_call (by walk_at "glob") (by walk_at "kp") (ES_consP (by walk_at "pv") (ES_consP (by walk_at "pv") (ES_consP (by walk_at "pv") (ES_nil (OPK_range3 (by decide) (PyProof.noPylong_small (by decide)) fun r0 => ES_nil (OPK_listRange fr.ok (.inl (.head _)) rs.1 rs.2 (by omega) fun d => ⟨_, by walk_at "up", ?_⟩))) rfl) rfl) rfl) rfl rfl rfl) rfl) rfl rfl rfl) rfl)
  have hr0 : ((List.range u.length).map fun i : Nat => V.int (2 + (i : Int) * 2)) = rowL u.length 0 := by
    refine List.map_congr_left fun j _ => ?_
    congr 1
    omega
  rw [hr0]
  walk_at "as"
  refine EX_cons (E1_for (n := v.length) (xs := fun i => .int (0 + (i : Int))) (Need := fun _ => True) (fun i l μ => ∃ (ν : Mem) (w1 w2 w3 w4 w5 w6 w7 : Option V), l = [some (.str (S u)), some (.str (S v)), some (.int m), some (.int p.length), some (.int 0), some (.val (.ref d)), some (.int (if i = 0 then 0 else 2 * max (i : Int) u.length)), w1, w2, w3, w4, w5, w6, w7] ∧ μ = ν ++ [(d, .lst (rowL u.length i)), (r0, .rng 2 (2 * ((u.length : Int) + 1)) 2)] ∧ 2 * (i : Int) ≤ m)
      (EV_call (by walk_at "glob") (by walk_at "kp") (ES_consP (by walk_at "pv") (ES_nil (OPK_range1 fun r => ⟨src_range fr.ok (.inl (.head _)) rv.1 rv.2, [(r, .rng 0 v.length 1)], none, none, none, none, none, none, none, rfl, rfl, by omega⟩)) rfl) rfl rfl rfl) ?_ ?_ (fun x => rfl))
  · rintro i l μ hi ⟨ν, w1, w2, w3, w4, w5, w6, w7, rfl, rfl, him⟩
    refine ⟨trivial, ?_⟩
    show AS _ _ _ _ _ (.int (0 + (i : Int))) _
    rw [Int.zero_add]
    refine AS_name fr.ok (by decide) (fr.sto rfl) (by walk_at "up") ?_
    obtain ⟨cb, hcb⟩ : ∃ c, v[i]? = some c := ⟨_, List.getElem?_eq_getElem hi⟩
    refine EX_gen fun Φ hΦ => ?_
    refine EX_cons (E1_assignP fr.ok (by decide) (fr.sto rfl) (PV_itemS (c := cb) (by walk_at "pv") (by walk_at "pv") (by omega) (by rw [if_neg (by omega), Int.toNat_natCast]; exact hcb) (by omega) trivial) (by walk_at "up") ?_ rfl)
    refine EX_cons (E1_two (EV_of (v := .int ((i : Int) * 2)) (by walk_at "pv") (AS_name fr.ok (by decide) (fr.sto rfl) (by walk_at "up") (AS_name fr.ok (by decide) (fr.sto rfl) (by walk_at "up") ?_))) rfl rfl)
    rw [show (i : Int) * 2 = 2 * (i : Int) by omega]
    walk_at "as"
    refine EX_cons (E1_for (n := u.length) (xs := fun j => .int (0 + (j : Int))) (Need := fun _ => True) (fun j l μ => ∃ (ν : Mem) (w1 w2 w3 : Option V), l = [some (.str (S u)), some (.str (S v)), some (.int m), some (.int p.length), some (.int 0), some (.val (.ref d)), some (.int (if j = 0 then 2 * (i : Int) else 2 * max ((i : Int) + 1) j)), some (.int (i : Int)), some (.str (S [cb])), some (.int (2 * max (i : Int) j)), some (.int (if j = 0 then 9223372036854775807 else 2 * ((i : Int) + 1))), w1, w2, w3] ∧ μ = ν ++ [(d, .lst (midL u.length i j)), (r0, .rng 2 (2 * ((u.length : Int) + 1)) 2)])
        (EV_call (by walk_at "glob") (by walk_at "kp") (ES_consP (by walk_at "pv") (ES_nil (OPK_range1 fun r => ⟨src_range fr.ok (.inl (.head _)) ru.1 ru.2, (r, .rng 0 u.length 1) :: ν, _, _, _, by rw [if_pos rfl, if_pos rfl, Int.max_eq_left (by omega)], by rw [midL_0]; rfl⟩)) rfl) rfl rfl rfl) ?_ ?_ (fun x => rfl))
    · rintro j l μ hj ⟨ν, w1, w2, w3, rfl, rfl⟩
      refine ⟨trivial, ?_⟩
      show AS _ _ _ _ _ (.int (0 + (j : Int))) _
      rw [Int.zero_add]
      refine AS_name fr.ok (by decide) (fr.sto rfl) (by walk_at "up") ?_
      obtain ⟨ca, hca⟩ : ∃ c, u[j]? = some c := ⟨_, List.getElem?_eq_getElem hj⟩
      have hcu := List.mem_of_getElem? hca
      have hcv := List.mem_of_getElem? hcb
      have hne : cb ≠ ca := fun e => huv' ca hcu (e ▸ hcv)
      have hc2 := cost_Al (hvA cb hcv) (huA ca hcu) hne
      have hml : (midL u.length i j).length ≤ 1000 := by rw [midL_len]; omega
      have hmd : ∀ {ν : Mem}, Has D (ν ++ [(d, .lst (midL u.length i j)), (r0, .rng 2 (2 * ((u.length : Int) + 1)) 2)]) d (.lst (midL u.length i j)) := .inl (List.mem_append_right _ (.head _))
      refine EX_gen fun Φ2 hΦ2 => ?_
      refine EX_cons (E1_assignP fr.ok (by decide) (fr.sto rfl) (v := .int (2 * max (i : Int) j + 2)) (EV_bin (by walk_at "pv") (EV_call (by walk_at "glob") (by walk_at "kp") (ES_consP (by walk_at "pv") (ES_consP (PV_itemS (c := ca) (by walk_at "pv") (by walk_at "pv") (by omega) (by rw [if_neg (by omega), Int.toNat_natCast]; exact hca) (by omega) trivial) (ES_nil (hc2 ▸ cost_ok rm' [cb] [ca] (low_fit _ (hvA cb hcv)) (low_fit _ (huA ca hcu)))) rfl) rfl) rfl rfl rfl) OPB_addI) (by walk_at "up") ?_ rfl)
      refine EX_cons (E1_assignP fr.ok (by decide) (fr.sto rfl) (PV_itemL (by walk_at "pv") (by walk_at "pv") hmd (by omega) (by rw [Int.toNat_natCast]; exact midL_at hj) hml trivial) (by walk_at "up") ?_ rfl)
      refine EX_cons (E1_assignP fr.ok (by decide) (fr.sto rfl) (EV_bin (EV_call (by walk_at "glob") (by walk_at "kp") (ES_consP (by walk_at "pv") (ES_consP (by walk_at "pv") (ES_nil (OPK_min fr.ok)) rfl) rfl) rfl rfl rfl) (by walk_at "pv") OPB_addI) (by walk_at "up") ?_ rfl)
      refine EX_cons (E1_assignP fr.ok (by decide) (fr.sto rfl) (EV_call (by walk_at "glob") (by walk_at "kp") (ES_consP (by walk_at "pv") (ES_consP (by walk_at "pv") (ES_nil (OPK_min fr.ok)) rfl) rfl) rfl rfl rfl) (by walk_at "up") ?_ rfl)
      have hres : min (min (if j = 0 then 2 * (i : Int) else 2 * max ((i : Int) + 1) j) (2 * max (i : Int) ((j : Int) + 1)) + 2) (2 * max (i : Int) j + 2) = 2 * max ((i : Int) + 1) ((j : Int) + 1) := by
        have hM : max ((i : Int) + 1) ((j : Int) + 1) = max (i : Int) j + 1 := by omega
        have hA1 : 2 * max (i : Int) j ≤ (if j = 0 then 2 * (i : Int) else 2 * max ((i : Int) + 1) j) := by split <;> omega
        have hB1 : 2 * max (i : Int) j ≤ 2 * max (i : Int) ((j : Int) + 1) := by omega
        have hC1 := Int.add_le_add_right (Int.le_min.mpr ⟨hA1, hB1⟩) 2
        rw [hM, Int.min_eq_right hC1, Int.mul_add]
        rfl
      rw [hres]
      refine EX_cons (E1_setL (k := j) (by walk_at "pv") (by walk_at "pv") (by walk_at "pv") (Mu.app _ .head) (by rw [midL_len]; exact hj) hml ?_ rfl)
      rw [midL_set hj]
      have ej : ((j + 1 : Nat) : Int) = (j : Int) + 1 := by omega
      refine EX_cons (E1_if (TV_TE (by walk_at "tv") ⟨fun h8 => ?_, fun h8 => ?_⟩))
      · walk_at "as"
        simp only [decide_eq_true_eq] at h8
        refine EX_nil (EX_nil (hΦ2 _ _ _ ⟨ν, some (.int j), some (.int (2 * max (i : Int) j + 2)), some (.int (min (if j = 0 then 2 * (i : Int) else 2 * max ((i : Int) + 1) j) (2 * max (i : Int) ((j : Int) + 1)) + 2)), ?_, rfl⟩))
        have e2 : 2 * max ((i : Int) + 1) ((j : Int) + 1) = 2 * ((i : Int) + 1) := by
          split at h8 <;> omega
        rw [if_neg (Nat.succ_ne_zero j), if_neg (Nat.succ_ne_zero j), ej, e2]
      · simp only [decide_eq_false_iff_not] at h8
        refine EX_nil (EX_nil (hΦ2 _ _ _ ⟨ν, some (.int j), some (.int (2 * max (i : Int) j + 2)), some (.int (min (if j = 0 then 2 * (i : Int) else 2 * max ((i : Int) + 1) j) (2 * max (i : Int) ((j : Int) + 1)) + 2)), ?_, rfl⟩))
        have e2 : (if j = 0 then (9223372036854775807 : Int) else 2 * ((i : Int) + 1)) = 2 * ((i : Int) + 1) := by
          split at h8
          · omega
          · rename_i hj0
            rw [if_neg hj0]
        rw [if_neg (Nat.succ_ne_zero j), if_neg (Nat.succ_ne_zero j), ej, e2]
    · rintro l μ ⟨ν, w1, w2, w3, rfl, rfl⟩
      refine ⟨trivial, ?_⟩
      rw [if_neg (by omega), if_neg (by omega), midL_n]
      refine EX_cons (E1_if (TV_TE (by walk_at "tv") ⟨fun h9 => ?_, fun h9 => ?_⟩))
      · simp at h9
        refine EX_cons (E1_ret (EV_of (by walk_at "pv") (hΦ _ _ _ ⟨[], by simp, ?_, rfl⟩)))
        rw [Int.min_eq_right (by omega)]
      · refine EX_nil (EX_nil (hΦ _ _ _ ⟨ν, some (.int i), some (.str (S [cb])), some (.int (2 * max (i : Int) u.length)), some (.int (2 * ((i : Int) + 1))), w1, w2, w3, ?_, rfl, ?_⟩))
        · rw [if_neg (Nat.succ_ne_zero i)]
          rfl
        · simp at h9; omega
  · rintro l μ ⟨ν, w1, w2, w3, w4, w5, w6, w7, rfl, rfl, him⟩
    refine ⟨trivial, EX_cons (E1_ret (EV_of (by walk_at "pv") ⟨[], by simp, ?_, rfl⟩))⟩
    rw [if_neg (by omega), Int.max_eq_left (by omega), Int.min_eq_left (by omega)]
end
-- F7
/-! _Accumulator: push, part_count -/
section
variable {C : Cx} {P : Params} {ks : List Str} {l l' : List (Option V)} {μ μ' : Mem} {h₀ : Heap} {s : Shared}
theorem OPK_perm {f : Value} {vs : List V} {Φ : V → Mem → Prop} (p : List.Perm μ' μ) (h : OPK C ks l μ' f vs (fun v ν => ∃ ν', List.Perm ν' ν ∧ Φ v ν')) : OPK C ks l μ f vs Φ := fun h₀ s us R y Q E q =>
  h h₀ s us (R.perm p) y Q E fun v ν u s' ⟨ν', pp, hΦ⟩ t r z => q v ν' u s' hΦ t (r.perm pp) z
theorem Room.under {n : Nat} (rm : Room C P (n + 1)) {A : Around} (hd : A.depth = C.A.depth) (hu : A.units ≤ C.A.units + 3) (hh : A.handled = C.A.handled) : Room (C.under A) P n :=
  ⟨⟨rm.ok.fn, rm.ok.glob, rm.ok.blt, hh.trans rm.ok.hand, by have := rm.depth; show A.depth < 800; omega, by have := rm.units; show A.units < 2000; omega⟩, rm.k, by have := rm.depth; show A.depth + n < 700; omega, by have := rm.units; show A.units + 3 * n < 1900; omega⟩
noncomputable abbrev accM (x dx : Addr) (parts : List (List Nat × List Nat)) (μ : Mem) : Mem := (x, .acc 115 dx (parts.map pv)) :: (dx, .prop IniD) :: (77, .prop IsTab) :: (84, .prop IsTab) :: μ
theorem acc_tup {H : Addr → Prop} {h : Heap} {o : Obj} {c d : Addr} {l : List V} (r : OR H h (.acc c d l) o) : ∀ vs k, o ≠ tupleOf vs k := fun vs k e => by
  cases r
  have := congrArg Obj.cls e
  cases this
theorem ini_tup {H : Addr → Prop} {h : Heap} {o : Obj} (r : OR H h (.prop IniD) o) : ∀ vs k, o ≠ tupleOf vs k := fun vs k e => by
  obtain ⟨a, b, c, d⟩ := r.prop_inv
  rw [d] at e
  have := congrArg Obj.cls e
  simp at this
-- the class
theorem chf {v : Option Value} {t : Value} {name : Str} (h : findIn (hd.heap_1 P) t name = some v) : findIn (hd.heap_1 P) t name = some v := h
theorem a_mro : mroIn (hd.heap_1 P) 115 (.type "list") = some true := by k_is
theorem a_mod : mroIn (hd.heap_1 P) 115 (.type "module") = some false := by k_is
theorem a_ty : typeIn (hd.heap_1 P) (.ref 115) = some (.type "type") := by k_is
theorem a_ga : findIn (hd.heap_1 P) (.ref 115) "__getattribute__" = some (some (.builtin "list.__getattribute__")) := by k_is
theorem a_gattr : findIn (hd.heap_1 P) (.ref 115) "__getattr__" = some none := by k_is
theorem a_sattr : findIn (hd.heap_1 P) (.ref 115) "__setattr__" = some (some (.builtin "object.__setattr__")) := by k_is
theorem a_size : findIn (hd.heap_1 P) (.ref 115) "_initial_size" = some none := by k_is
theorem a_append : findIn (hd.heap_1 P) (.ref 115) "append" = some (some (.builtin "list.append")) := by k_is
theorem a_iter : findIn (hd.heap_1 P) (.ref 115) "__iter__" = some (some (.builtin "list.__iter__")) := by k_is
theorem a_push : findIn (hd.heap_1 P) (.ref 115) "push" = some (some (.ref 59)) := by k_is
theorem a_pop : findIn (hd.heap_1 P) (.ref 115) "pop" = some (some (.ref 75)) := by k_is
theorem a_count : findIn (hd.heap_1 P) (.ref 115) "part_count" = some (some (.ref 112)) := by k_is
theorem a_len : findIn (hd.heap_1 P) (.ref 115) "__len__" = some (some (.ref 82)) := by k_is
theorem a_str : findIn (hd.heap_1 P) (.ref 115) "__str__" = some (some (.ref 89)) := by k_is
theorem a_init : findIn (hd.heap_1 P) (.ref 115) "__init__" = some (some (.ref 52)) := by k_is
theorem a_fn59 : typeIn (hd.heap_1 P) (.ref 59) = some (.type "function") := by k_is
theorem a_fn75 : typeIn (hd.heap_1 P) (.ref 75) = some (.type "function") := by k_is
theorem a_fn112 : typeIn (hd.heap_1 P) (.ref 112) = some (.type "function") := by k_is
theorem a_fn82 : isFn (hd.heap_1 P) (.ref 82) = true := by k_is
theorem a_fn89 : isFn (hd.heap_1 P) (.ref 89) = true := by k_is
theorem a_fn52 : typeIn (hd.heap_1 P) (.ref 52) = some (.type "function") := by k_is
theorem a_dict : hasDictIn (hd.heap_1 P) 115 = true := by k_is
theorem a_bm : nsIn (hd.heap_1 P) mainGlobals "__builtins__" = some (some (.ref 4)) := by k_is
theorem chc {c : Addr} {v : Option ClassData} (h : clsIn (hd.heap_1 P) c = v) : clsIn (hd.heap_1 P) c = v := h
theorem a_cls : (clsIn (hd.heap_1 P) 115).isSome = true := by
  have h := chc (P := P) (c := 115) (by k_is)
  rw [h]; rfl
theorem a_list : listClass (hd.heap_1 P) 115 = true := by
  have h := chc (P := P) (c := 115) (by k_is)
  unfold listClass
  rw [h]; rfl
theorem a_mroL : ∃ cd, clsIn (hd.heap_1 P) 115 = some cd ∧ cd.mro = [.ref 115, .type "list", .type "object"] := ⟨_, chc (P := P) (c := 115) (by k_is), rfl⟩
theorem a_call : specialIn (hd.heap_1 P) (.ref 115) "__call__" = some (some (.builtin "type.__call__")) := by k_is
theorem a_self : mroIn (hd.heap_1 P) 115 (.ref 115) = some true := by
  obtain ⟨cd, h, e⟩ := a_mroL (P := P)
  unfold mroIn
  rw [h, Option.bind_some, e]
  rfl
theorem a_inst : instIn (hd.heap_1 P) (.ref 115) (.type "type") = some true := by k_is
theorem a_makes : makesL (hd.heap_1 P) 115 = true := by
  unfold makesL
  rw [chl (P := P) 115 (by k_is)]
  dsimp only
  rw [a_call, a_inst]
  rfl
theorem a_tab81 : codeHdIn (hd.heap_1 P) 81 77 = true := by
  unfold codeHdIn
  rw [chl (P := P) 81 (by k_is)]
  rfl
theorem a_tab88 : codeHdIn (hd.heap_1 P) 88 84 = true := by
  unfold codeHdIn
  rw [chl (P := P) 88 (by k_is)]
  rfl
theorem a_superP : alongIn (hd.heap_1 P) "pop" [.type "list", .type "object"] = some (some (.builtin "list.pop")) := by kernel_rfl
theorem a_superL : alongIn (hd.heap_1 P) "__len__" [.type "list", .type "object"] = some (some (.builtin "list.__len__")) := by kernel_rfl
theorem a_superI : alongIn (hd.heap_1 P) "__init__" [.type "list", .type "object"] = some (some (.builtin "list.__init__")) := by kernel_rfl
theorem acc_at {H : Addr → Prop} {h : Heap} {x dx : Addr} {xs : List V} (a : At H h x (.acc 115 dx xs)) (b : At H h dx (.prop IniD)) : ∃ vs n d, InstAt h x { cls := .ref 115, dict := some dx, data := .seq (List.toArray vs) n } 115 (some d) ∧ IniD d ∧ VRs H h xs vs := by
  obtain ⟨vs, n, e, r⟩ := a.acc_inv
  obtain ⟨d, e', i⟩ := b.prop_inv
  exact ⟨vs, n, d, ⟨e, rfl, rfl, e'⟩, i, r⟩
theorem GM_accF {x dx f : Addr} {xs : List V} {name : Str} (hk : C.K = hd.heap_1 P) (hm : Has C μ x (.acc 115 dx xs)) (hdd : Has C μ dx (.prop IniD)) (hf : findIn (hd.heap_1 P) (.ref 115) name = some (some (.ref f))) (ht : typeIn (hd.heap_1 P) (.ref f) = some (.type "function")) (hn : ((Str.ofString "_initial_size") == name) = false) :
    GM C ks l μ (.val (.ref x)) name (.ref f) := fun h₀ s u R y pl Q E q => by
  cases y
  obtain ⟨vs, n, d, I, i, r⟩ := acc_at (R.has hm) (R.has hdd)
  exact method_fnL (K := hd.heap_1 P) (hk ▸ R.inK.keeps R.keep) I a_ga canon_lga a_gattr hf ht (i.shadow hn) q
theorem GM_accAppend {x dx : Addr} {xs : List V} (hk : C.K = hd.heap_1 P) (hm : Has C μ x (.acc 115 dx xs)) (hdd : Has C μ dx (.prop IniD)) : GM C ks l μ (.val (.ref x)) (Str.ofString "append") (.builtin "list.append") := fun h₀ s u R y pl Q E q => by
  cases y
  obtain ⟨vs, n, d, I, i, r⟩ := acc_at (R.has hm) (R.has hdd)
  exact method_bltL (K := hd.heap_1 P) (hk ▸ R.inK.keeps R.keep) I a_ga canon_lga a_gattr a_append rfl (i.shadow (by decide)) q
theorem OPK_accAppend {x dx : Addr} {xs : List V} {v : V} {Φ : V → Mem → Prop} (hk : C.K = hd.heap_1 P) (U : Mu μ x (.acc 115 dx xs) (.acc 115 dx (xs ++ [v])) μ') (hdd : Has C μ dx (.prop IniD)) (hz : xs.length ≤ 1000) (h : Φ .none μ') :
    OPK C ks l μ (.builtin "list.append") [.val (.ref x), v] Φ := fun h₀ s us R y Q E q => by
  cases y with
  | cons y r => cases r with
    | cons y2 r =>
      cases r; cases y
      obtain ⟨vs, n, d, I, i, r⟩ := acc_at (R.at U.old) (R.has hdd)
      refine acc_append (K := hd.heap_1 P) (hk ▸ R.inK.keeps R.keep) I a_mro (fun h' hs ho' => ?_) (by simp [← r.length]; omega)
      have t : TK C.H s.heap h' := tk_same hs I.at_ fun vs k e => by have := congrArg Obj.cls e; simp at this
      have at' : At C.H h' x (.acc 115 dx (xs ++ [v])) := ⟨_, ho', by have := OR.acc (C := 115) (dx := dx) (n := n + 1) ((r.mono t).append (.one (y2.mono t))); simpa using this⟩
      obtain ⟨R', t'⟩ := R.mut (tk := s.toks) U trivial hs at'
      exact q _ _ _ _ h t' R' .none
theorem push_ok {n : Nat} (rm : Room C P (n + 1)) {x dx : Addr} {parts : List (List Nat × List Nat)} {a b : List Nat} (hz : parts.length ≤ 1000) {Φ : V → Mem → Prop} (hΦ : Φ .none (accM x dx (parts ++ [(a, b)]) μ)) :
    OPK C ks l (accM x dx parts μ) (.ref 59) [.val (.ref x), .str (S a), .str (S b)] Φ := by
  refine call_lendAt rm ["self", "fws", "string"] [] _ [(x, .acc 115 dx (parts.map pv))] ((dx, .prop IniD) :: (77, .prop IsTab) :: (84, .prop IsTab) :: μ) [(dx, .prop IniD)] rfl (fun p hp h o r => by rw [List.mem_singleton.mp hp] at r; exact acc_tup r) (chl (P := P) 59 (by k_is)) rfl (by k_is) rfl rfl (by decide) (fun p hp => by rw [List.mem_singleton.mp hp]; exact .inl (.head _)) (binds_all fun us hu => ?_) (by decide) (by decide) (by intro p hp; cases hp) (by decide) rfl rfl rfl rfl rfl (fun D L hL hH hpg fr rm' hold => EX.at ?_)
  · obtain ⟨a, b, c, rfl⟩ := len3 hu
    rfl
  dsimp only at fr
  have hdD : ∀ {μ : Mem}, Has D μ dx (.prop IniD) := .inr (by rw [hold]; exact .head _)
  show EX D ["self", "fws", "string"] [some (.val (.ref x)), some (.str (S a)), some (.str (S b))] _ _ _
  refine EX_cons (E1_expr (EV_meth (EV_of (by walk_at "pv") ⟨_, GM_accAppend fr.k (.inl (.head _)) hdD, kb, ES_cons (EV_tuple (ES_consP (by walk_at "pv") (ES_consP (by walk_at "pv") (ES_nil ⟨by simp, ES_nil (OPK_accAppend fr.k .head hdD (by rw [List.length_map]; exact hz) ?_)⟩) rfl) rfl)) rfl⟩) rfl rfl rfl) fr.inter rfl)
  refine EX_nil ⟨_, List.Sublist.refl _, ?_⟩
  have e : parts.map pv ++ [V.tup [.str (S a), .str (S b)]] = (parts ++ [(a, b)]).map pv := by simp [pv]
  rw [e]
  exact hΦ
end
-- F8
/-! _Accumulator: super() -/
structure PgOk (prog : Program) : Prop where
  file : ((prog.main.file : Str) == Str.ofString "/claim/cut.py") = true
  top : (prog.main.scope.names.lookup ("super" : Str)).isSome = false
section
variable {C : Cx} {P : Params} {ks : List Str} {l l' : List (Option V)} {μ μ' : Mem} {h₀ : Heap} {s : Shared}
theorem a_cell : ∃ oc od osl, (hd.heap_1 P).lookup 39 = some ⟨oc, od, .cell (some (.ref 115)), osl⟩ := ⟨_, _, _, chl (P := P) 39 (by k_is)⟩
theorem a_opq : nsIn (hd.heap_1 P) cStatics "thirdparty.any" = some none := by k_is
theorem super_meth {fd : FuncData} {f L x dx cc : Addr} {xs : List V} {body : List Stmt} {vs : Array Value} {tf : Tok} {oc occ : Value} {od ocd : Option Addr} {osl ocs : Array (Option Value)} {name : Str} {id bt : String} {p0 p1 apos pos : Pos} {names : List (Str × NameKind)} {Q E : Value → Shared → Prop} (pg : PgOk C.prog) (fr : Fr C names P) (hL : C.env = callEnv fd L f)
    (hK : (hd.heap_1 P).lookup f = some ⟨oc, od, .func fd, osl⟩) (hp : ∃ ar, (fd.params.posonlyargs ++ fd.params.args).head? = some ar ∧ ar.arg = Str.ofString "self") (hco : fd.code = .ref cc) (hcl : fd.closure = [(("__class__" : Str), 39)])
    (hcc : (hd.heap_1 P).lookup cc = some ⟨occ, ocd, .fields vs, ocs⟩) (hvs : vs[2]? = some (.str (Str.ofString "/claim/cut.py") tf))
    (hn1 : names.lookup ("super" : Str) = some .globalImplicit) (hn2 : names.lookup ("__class__" : Str) = some .free) (hn3 : names.lookup ("self" : Str) = some .local) (hat : (name == ("__class__" : Str)) = false)
    (R : Rel C ks l μ h₀ s) (hself : Lk ks l "self" (.val (.ref x))) (hm : Has C μ x (.acc 115 dx xs)) (hdd : Has C μ dx (.prop IniD))
    (hal : alongIn (hd.heap_1 P) name [.type "list", .type "object"] = some (some (.builtin id))) (hbt : bt = "builtin_function_or_method" ∨ bt = "method-wrapper")
    (hB : ∀ {h : Heap} {ox : Obj} {od : Option Obj}, (hd.heap_1 P).In h → InstAt h x ox 115 od → Bnd C.prog C.w id bt x 115 h)
    (h : ∀ b s', s'.heap.get? b = some { cls := .type bt, data := .fields #[.builtin id, .ref x] } → TK C.H s.heap s'.heap → (∀ c o, s.heap.get? c = some o → s'.heap.get? c = some o) → Rel C ks l μ h₀ s' → wpAny (model C.prog C.w) C.A (call (.ref b) []) Q E s')
    (he : eval (.Call (.Attribute (.Call (.Name "super" p0) [] [] p1) name apos) [] [] pos) C.env = (do
      let ov ← attributeBase (.Call (.Name "super" p0) [] [] p1) name C.env (eval (.Call (.Name "super" p0) [] [] p1) C.env)
      standAt apos.atName
      let (f, first) ← holding [ov] (getMethod ov name (pure false))
      callWith pos f first (backTo pos (starEach [] C.env)) [])) :
    _root_.PySem.wpAt (model C.prog C.w) C.A (.func body C.env) (eval (.Call (.Attribute (.Call (.Name "super" p0) [] [] p1) name apos) [] [] pos) C.env) Q E s := by
  have X : (hd.heap_1 P).In s.heap := fr.k ▸ R.inK.keeps R.keep
  obtain ⟨ar, hp1, hp2⟩ := hp
  obtain ⟨its, n, d, I, iD, r⟩ := acc_at (R.has hm) (R.has hdd)
  obtain ⟨c1, c2, c3, hcell⟩ := a_cell (P := P)
  obtain ⟨cd, hcd, hmro⟩ := a_mroL (P := P)
  obtain ⟨oC, hC1, hC2⟩ : ∃ oD, s.heap.get? 115 = some oD ∧ oD.data = .cls cd := by
    unfold clsIn at hcd
    split at hcd
    · rename_i c d cd' sl ho
      cases hcd
      exact ⟨_, X _ _ ho, rfl⟩
    · cases hcd
  have hfu : C.env.func = some f := by rw [hL]; rfl
  have hec : C.env.code = .ref cc := by rw [hL]; exact hco
  have hcells : C.env.cells.lookup ("__class__" : Str) = some 39 := by rw [hL]; show fd.closure.lookup _ = _; rw [hcl]; rfl
  refine ks_wpAt_MethodCall (pl := pure false) ?_ he
  refine ks_wpAt_super_base (fr.kind hn1) (fr.kind hn2) hat hfu (X _ _ hK) rfl hp1 hec (X _ _ hcc) rfl hvs pg.file pg.top ?_
  have T := R.top.keeps R.keep
  refine ks_loadName_global fr.ok.fn (fr.kind hn1) (loadGlobal_builtin (mg := C.mg) (mb := C.mb) (by rw [fr.ok.glob]; exact T.g) (mg_none_of R.inK R.top.g (fr.k ▸ g_super)) (by rw [fr.ok.blt]; exact T.b) ((R.top.builtins _ (by decide +kernel)).trans rfl) ⟨rfl, ?_⟩)
  refine wpAny_loadName_free fr.ok.fn (fr.kind hn2) hcells ⟨_, X _ _ hcell, rfl⟩ ?_
  rw [hp2]
  obtain ⟨m, hmN, hmB⟩ := R.ns
  have hv : m "self" = some (.ref x) := by
    rcases hmB _ _ hself with ⟨_, u, e, r⟩ | ⟨kk, _⟩
    · rw [e, r.val_inv]
    · rw [fr.kind hn3] at kk; rcases kk with kk | kk <;> cases kk
  refine wpAny_loadName_local fr.ok.fn (fr.kind hn3) hmN hv ?_
  obtain ⟨hh, g, dr, t, os⟩ := s
  refine ks_wpAny_isType_cls hC1 hC2 ⟨rfl, ?_⟩
  refine ks_wpAny_call_super hC1 hC2 I.at_ rfl (fun c e => nomatch e) (looks_mroIn X a_self) (fun h' e k => ?_)
  have X' : (hd.heap_1 P).In h' := X.keeps k
  have I' : InstAt h' x _ 115 (some d) := ⟨k _ _ I.at_, rfl, rfl, k _ _ I.dict⟩
  have hxC : x ≠ 115 := fun q => by
    have h1 := I.at_
    rw [q] at h1
    have h2 : hh.get? 115 = some oC := hC1
    rw [h2] at h1
    have := Option.some.inj h1
    rw [this] at hC2; cases hC2
  refine getMethod_super (pl := pure false) e (looks_opaque X' a_opq) (l₀ := cd.mro) (fun A Q E s k q => wpAny_bind ((looks_clsIn X' hcd) A _ E s k (wpAny_pure q))) (by rw [hmro]; rfl) X' hal (hB X' I') hxC hat ?_
  have k2 : ∀ c o, hh.get? c = some o → (h'.push { cls := .type bt, data := .fields #[.builtin id, .ref x] }).get? c = some o := fun c o e => Heap.get?_push_of_some _ (k c o e)
  have R2 := R.keeps (tk := t + 1) (h' := h'.push { cls := .type bt, data := .fields #[.builtin id, .ref x] }) k2
  have hb2 : (h'.push { cls := .type bt, data := .fields #[.builtin id, .ref x] }).get? h'.objs.size = some { cls := .type bt, data := .fields #[.builtin id, .ref x] } := Heap.get?_push_size _ rfl
  refine callWith_of (P := fun h => h.get? h'.objs.size = some { cls := .type bt, data := .fields #[.builtin id, .ref x] }) rfl (fun h X => bound_keeper hbt X) (evalArgs_nil3 ⟨hb2, ?_⟩)
  exact h _ _ hb2 (.of_keep k2) k2 R2
end
-- F9
/-! _Accumulator: part_count, pop -/
section
variable {C : Cx} {P : Params} {ks : List Str} {l l' : List (Option V)} {μ μ' : Mem} {h₀ : Heap} {s : Shared}
theorem a_keep112 : keepIn (hd.heap_1 P) (.ref 112) = true := by k_is
theorem a_keep75 : keepIn (hd.heap_1 P) (.ref 75) = true := by k_is
theorem a_keep59 : keepIn (hd.heap_1 P) (.ref 59) = true := by k_is
theorem OPK.mono {f : Value} {vs : List V} {Φ Φ' : V → Mem → Prop} (h : OPK C ks l μ f vs Φ) (k : ∀ v μ', Φ v μ' → Φ' v μ') : OPK C ks l μ f vs Φ' := fun h₀ s us R y Q E q => h h₀ s us R y Q E fun v μ' u s' p t r z => q v μ' u s' (k v μ' p) t r z
theorem E1.go {st : Stmt} {Ψ : Fl → List (Option V) → Mem → Prop} {Q : Flow → Shared → Prop} {E : Value → Shared → Prop} (h : E1 C ks l μ st Ψ) (R : Rel C ks l μ h₀ s) (q : ∀ f l' μ' fl s', Ψ f l' μ' → TK C.H s.heap s'.heap → Rel C ks l' μ' h₀ s' → FlR C.H s'.heap f fl → Q fl s') : wpAny (model C.prog C.w) C.A (exec st C.env) Q E s := h h₀ s R Q E q
theorem vrs_snoc {H : Addr → Prop} {h : Heap} : ∀ {xs : List V} {v : V} {us : List Value}, VRs H h (xs ++ [v]) us → ∃ vs u, us = vs ++ [u] ∧ VRs H h xs vs ∧ VR H h v u
  | [], v, us, r => by
    cases r with
    | cons r r2 => cases r2; exact ⟨[], _, rfl, .nil, r⟩
  | x :: xs, v, us, r => by
    cases r with
    | cons r1 r2 =>
      obtain ⟨vs, u, rfl, a, b⟩ := vrs_snoc r2
      exact ⟨_ :: vs, u, rfl, .cons r1 a, b⟩
theorem count_ok {n : Nat} (rm : Room C P (n + 1)) (pg : PgOk C.prog) {x dx : Addr} {xs : List V} (hm : Has C μ x (.acc 115 dx xs)) (hdd : Has C μ dx (.prop IniD)) : OPK C ks l μ (.ref 112) [.val (.ref x)] (Is (.int xs.length) μ) := by
  have hK := chl (P := P) 112 (by k_is)
  refine call_lendAt rm ["self"] [] _ [] μ [(x, .acc 115 dx xs), (dx, .prop IniD)] rfl (fun p hp => nomatch hp) hK rfl (by k_is) rfl rfl (by decide) (fun p hp => ?_) (binds_all fun us hu => ?_) (by decide) (by decide) (fun p hp => ?_) (by decide) rfl rfl rfl rfl rfl (fun D L hL hH hpg fr rm' hold => ?_)
  · rcases List.mem_cons.mp hp with rfl | hp
    · exact hm
    · rw [List.mem_singleton.mp hp]; exact hdd
  · obtain ⟨a, rfl⟩ := len1 hu
    rfl
  · rw [List.mem_singleton.mp hp]
    obtain ⟨a, b, c, e⟩ := a_cell (P := P)
    exact ⟨_, _, _, _, e⟩
  dsimp only at fr
  have hmD : ∀ {μ : Mem}, Has D μ x (.acc 115 dx xs) := .inr (by rw [hold]; exact .head _)
  have hdD : ∀ {μ : Mem}, Has D μ dx (.prop IniD) := .inr (by rw [hold]; exact .tail _ (.head _))
  show EXat D ["self"] [some (.val (.ref x))] _ _ _ _
  intro h₀ s R Q E q
  refine ks_wpAt_execs_cons (ks_wpAt_Return_some ?_)
  refine super_meth (vs := _) (tf := _) (hpg ▸ pg) fr hL hK ⟨_, rfl, rfl⟩ rfl rfl (chl (P := P) 111 (by k_is)) rfl rfl rfl rfl rfl R .head hmD hdD a_superL (.inr rfl) (fun X I => bnd_len X I a_mro) (fun b s' hb t k R' => ?_) rfl
  obtain ⟨vs, na, d, I, iD, r⟩ := acc_at (R'.has hmD) (R'.has hdD)
  refine call_bound (.inr rfl) hb (by decide +kernel) PySem.F.entry_list_len (check_slot (n := "__len__") (by decide +kernel) (by decide +kernel) (PySem.F.args_list_len_1 _)) ?_
  refine len_body I.at_ rfl fun tt kk => ⟨_, rfl, ?_⟩
  have e : ((vs.toArray.size : Nat) : Int) = xs.length := by simp [r.length]
  rw [e]
  exact q (.ret (.int xs.length)) _ _ _ _ ⟨[], List.Sublist.refl _, rfl, rfl⟩ t (R'.toks) (.ret (.int _ _))
theorem pop_ok {n : Nat} (rm : Room C P (n + 2)) (pg : PgOk C.prog) {x dx : Addr} {parts : List (List Nat × List Nat)} {p : List Nat × List Nat} (hz : parts.length ≤ 900) {Φ : V → Mem → Prop} (hΦ : Φ (pv p) (accM x dx parts μ)) :
    OPK C ks l (accM x dx (parts ++ [p]) μ) (.ref 75) [.val (.ref x)] Φ := by
  have hK := chl (P := P) 75 (by k_is)
  refine call_lendAt (n := n + 1) rm ["self"] [] _ [(x, .acc 115 dx ((parts ++ [p]).map pv))] ((dx, .prop IniD) :: (77, .prop IsTab) :: (84, .prop IsTab) :: μ) [(dx, .prop IniD)] rfl (fun p hp h o r => by rw [List.mem_singleton.mp hp] at r; exact acc_tup r) hK rfl (by k_is) rfl rfl (by decide) (fun p hp => by rw [List.mem_singleton.mp hp]; exact .inl (.head _)) (binds_all fun us hu => ?_) (by decide) (by decide) (fun p hp => ?_) (by decide) rfl rfl rfl rfl rfl (fun D L hL hH hpg fr rm' hold => ?_)
  · obtain ⟨a, rfl⟩ := len1 hu
    rfl
  · rw [List.mem_singleton.mp hp]
    obtain ⟨a, b, c, e⟩ := a_cell (P := P)
    exact ⟨_, _, _, _, e⟩
  dsimp only at fr
  have hdD : ∀ {μ : Mem}, Has D μ dx (.prop IniD) := .inr (by rw [hold]; exact .head _)
  show EXat D ["self"] [some (.val (.ref x))] _ _ _ _
  intro h₀ s R Q E q
  have e0 : decide (((((parts ++ [p]).map pv).length : Nat) : Int) = 0) = false := by simp; omega
  refine ks_wpAt_execs_cons (wpAt_of_wpAny (E1.go (Ψ := fun f l' μ' => f = .next ∧ l' = [some (.val (.ref x))] ∧ μ' = [(x, .acc 115 dx ((parts ++ [p]).map pv))]) ?_ R fun f l' μ' fl s' k t r z => ?_))
  · refine E1_if (TE_cmp (EV_meth0 (EV_of (by walk_at "pv") ⟨_, GM_accF fr.k (.inl (.head _)) hdD a_count a_fn112 (by decide), .inr (.inr (fr.k ▸ a_keep112)), OPK.mono (count_ok rm' (hpg ▸ pg) (.inl (.head _)) hdD) fun v μ' k => ?_⟩) rfl) rfl)
    obtain ⟨rfl, rfl⟩ := k
    refine EV_of (by walk_at "pv") ⟨_, OPC_eqI, fun h => ?_, fun h => EX_nil ⟨rfl, rfl, rfl⟩⟩
    rw [e0] at h; cases h
  obtain ⟨rfl, rfl, rfl⟩ := k
  cases z
  refine ks_wpAt_execs_cons (ks_wpAt_Return_some ?_)
  refine super_meth (vs := _) (tf := _) (hpg ▸ pg) fr hL hK ⟨_, rfl, rfl⟩ rfl rfl (chl (P := P) 74 (by k_is)) rfl rfl rfl rfl rfl r .head (.inl (.head _)) hdD a_superP (.inl rfl) (fun X I => bnd_pop X I a_mro) (fun b s' hb t' k R' => ?_) rfl
  obtain ⟨vs, na, d, I, iD, rv⟩ := acc_at (R'.at (.head _)) (R'.has hdD)
  refine call_bound (.inl rfl) hb (by decide +kernel) PySem.F.entry_list_pop (check_pop (fr.k ▸ R'.inK.keeps R'.keep) I a_mod a_ty a_cls) ?_
  rw [List.map_append] at rv
  obtain ⟨ws, u, rfl, r1, r2⟩ := vrs_snoc rv
  have ea : (ws ++ [u]).toArray = ws.toArray.push u := by simp
  have I2 := I.at_
  rw [ea] at I2
  refine pop_body I2 (by simp [← r1.length]; omega) fun h' hs ho => ⟨_, rfl, ?_⟩
  have t2 : TK D.H s'.heap h' := tk_same hs I.at_ fun vs k e => by have := congrArg Obj.cls e; simp at this
  have at' : At D.H h' x (.acc 115 dx (parts.map pv)) := ⟨_, ho, .acc (r1.mono t2)⟩
  obtain ⟨R3, _⟩ := R'.mut (tk := s'.toks) (b' := .acc 115 dx (parts.map pv)) .head trivial hs at'
  exact q (.ret (pv p)) _ _ _ _ ⟨_, List.Sublist.refl _, hΦ⟩ ((t.trans t').trans t2) R3 (.ret (r2.mono t2))
end
-- F10
/-! _Accumulator: __len__ -/
noncomputable def lenP (p : List Nat × List Nat) : Nat := p.1.length + p.2.length
noncomputable def totalP (parts : List (List Nat × List Nat)) : Nat := (parts.map lenP).sum
noncomputable def valP (parts : List (List Nat × List Nat)) (i : Nat) : Int := lenP (parts.getD i ([], []))
theorem preSum_val (parts : List (List Nat × List Nat)) : ∀ k, k ≤ parts.length → preSum (valP parts) k = totalP (parts.take k)
  | 0, _ => rfl
  | k + 1, h => by
    have ih := preSum_val parts k (by omega)
    have e : parts[k]? = some parts[k] := List.getElem?_eq_getElem (by omega)
    have e2 : parts.take (k + 1) = parts.take k ++ [parts[k]] := by rw [List.take_add_one, e]; rfl
    show preSum (valP parts) k + valP parts k = _
    rw [ih, e2, totalP, totalP, List.map_append, List.sum_append, valP, List.getD_eq_getElem?_getD, e]
    simp
section
variable {C : Cx} {P : Params} {ks : List Str} {l l' : List (Option V)} {μ μ' : Mem} {h₀ : Heap} {s : Shared}
theorem mlen_ok {n : Nat} (rm : Room C P (n + 1)) {x dx : Addr} {parts : List (List Nat × List Nat)} (hbm : ((4 : Addr), Ob.prop IsBMod) ∈ C.old) (hz : ∀ p ∈ parts, p.1.length ≤ 1000 ∧ p.2.length ≤ 1000) :
    OPK C ks l (accM x dx parts μ) (.ref 82) [.val (.ref x)] (Is (.int (totalP parts)) (accM x dx parts μ)) := by
  have hK := chl (P := P) 82 (by k_is)
  have pm : List.Perm ((77, Ob.prop IsTab) :: (x, .acc 115 dx (parts.map pv)) :: (dx, .prop IniD) :: (84, .prop IsTab) :: μ) (accM x dx parts μ) := by
    refine List.Perm.trans ?_ (List.Perm.cons _ (List.Perm.swap ..))
    exact List.Perm.swap ..
  refine OPK_perm pm ?_
  refine call_lendAt rm ["self"] [] _ [(77, .prop IsTab)] ((x, .acc 115 dx (parts.map pv)) :: (dx, .prop IniD) :: (84, .prop IsTab) :: μ) [(x, .acc 115 dx (parts.map pv)), (dx, .prop IniD), (4, .prop IsBMod)] rfl (fun p hp h o r => by rw [List.mem_singleton.mp hp] at r; exact tab_tup r) hK rfl (by k_is) rfl rfl (by decide) (fun p hp => ?_) (binds_all fun us hu => ?_) (by decide) (by decide) (by intro p hp; cases hp) (by decide) rfl rfl rfl rfl rfl (fun D L hL hH hpg fr rm' hold => EX.at ?_)
  · rcases List.mem_cons.mp hp with rfl | hp
    · exact .inl (.head _)
    rcases List.mem_cons.mp hp with rfl | hp
    · exact .inl (.tail _ (.head _))
    rw [List.mem_singleton.mp hp]; exact .inr hbm
  · obtain ⟨a, rfl⟩ := len1 hu
    rfl
  dsimp only at fr
  have hmD : ∀ {μ : Mem}, Has D μ x (.acc 115 dx (parts.map pv)) := .inr (by rw [hold]; exact .head _)
  have hdD : ∀ {μ : Mem}, Has D μ dx (.prop IniD) := .inr (by rw [hold]; exact .tail _ (.head _))
  have hbD : ∀ {μ : Mem}, Has D μ 4 (.prop IsBMod) := .inr (by rw [hold]; exact .tail _ (.tail _ (.head _)))
  show EX D ["self"] [some (.val (.ref x))] _ _ _
  refine EX_cons (E1_ret fun h₀ s R Q E q => ?_)
  refine wpAny_bind (Fr.sum fr rfl h₀ s R _ E fun v μ' u s' p t r y => ?_)
  obtain ⟨rfl, rfl⟩ := p
  cases y
  refine callWith_of (P := fun _ => True) rfl (fun h _ => ⟨.machine, .inr (.inl rfl), Looks.of_pure rfl⟩) (Calls.evalArgs_plain ?_)
  refine Calls.spliced_cons ?_
  refine gen_make (fun i y => ∃ t, y = .int (valP parts i) t) r fr.ok.hand (by have := rm'.depth; show D.A.depth < 1000; omega) fr.ok.fn fr.ok.glob (by rw [hL]; rfl) (fr.k ▸ a_tab81) hmD hbD (fr.k ▸ a_bm) (by decide) hdD (fr.k ▸ a_mro) (fr.k ▸ a_iter) .head (fr.kind rfl) rfl rfl rfl (by decide) rfl rfl rfl (by decide) rfl ?_ (fun _ => rfl) ?_
  · intro A' E' i s₂ m₂ env' a b ta tb hsc hg hb hi hn ha hb' X T
    have hv : valP parts i = (a.length : Int) + b.length := by
      rw [valP, List.getD_eq_getElem?_getD, hi]; simp [lenP]
    have hzz := hz _ (List.mem_of_getElem? hi)
    rw [hv, ← S_len a, ← S_len b]
    exact elt_len (by rw [hsc]) hg hb (by show env'.scope.names.lookup _ = _; rw [hsc]; rfl) (by show env'.scope.names.lookup _ = _; rw [hsc]; rfl) (by show env'.scope.names.lookup _ = _; rw [hsc]; rfl) rfl rfl X T (fr.k ▸ g_len) hn ha hb' (by rw [S_len]; exact hzz.1) (by rw [S_len]; exact hzz.2) rfl rfl
  · intro a fp wr g St s₁ W hst hT ha hfp hwr hk hat hbare hos
    obtain ⟨R₁, t₁⟩ := Rel.regrow (s' := s₁) r hk (fun h o r => tab_tup r) hat hbare hos
    obtain ⟨vs, nA, dd, I, iD, rv⟩ := acc_at (R₁.has hmD) (R₁.has hdD)
    obtain ⟨u0, hu0⟩ := iD.look
    obtain ⟨m, hmN, hmB⟩ := R₁.ns
    have hself : m "self" = some (.ref x) := by
      rcases hmB "self" (.val (.ref x)) .head with ⟨_, u, e, r⟩ | ⟨kk, _⟩
      · rw [e, r.val_inv]
      · rw [fr.kind (x := "self") (k := .local) rfl] at kk; rcases kk with kk | kk <;> cases kk
    refine Calls.spliced_cons ?_
    refine wpAny_bind (wpAny_Name (wpAny_loadName_local fr.ok.fn (fr.kind rfl) hmN hself ?_) rfl)
    refine wpAny_bind (wpAny_standAt (wpAny_bind (wpAny_holding ?_)))
    refine get_ownL (K := hd.heap_1 P) (fr.k ▸ R₁.inK.keeps R₁.keep) I a_mro a_ga a_gattr (findObj_own (v := .int 0 u0) a_dict a_size rfl hu0) rfl ?_
    refine wpAny_bind (wpAny_pure (wpAny_pure ?_))
    refine Calls.spliced_nil ⟨trivial, ?_⟩
    refine sum_start (A := D.A) (s := { s₁ with toks := s₁.toks + 1 }) W.in4_1 (valP parts) (fun i v h => h) (W.frame 0 s₁ _ _ hst (Nat.le_succ _) fun b _ o e => e) hfp fun s₂ t' hm => ?_
    have k77 : ∀ b o, s'.heap.get? b = some o → b ∉ wr := fun b o e q => by rw [hwr b q] at e; cases e
    obtain ⟨oT, hoT, hT2⟩ := hat
    have h77 : (77 : Addr) ∉ wr := by
      obtain ⟨o, e, _⟩ := (r.mem _ (.head _)).1
      exact k77 _ _ e
    obtain ⟨R₂, t₂⟩ := Rel.regrow (s' := s₂) (b' := .prop IsTab) r (fun b o n e => hm.heap b o (k77 b o e) (hk b o n e)) (fun h o r => tab_tup r) ⟨oT, hm.heap _ _ h77 hoT, .prop hT2.prop_inv⟩ (AllBare.movedS (s := { s₁ with toks := s₁.toks + 1 }) hbare hm) (hm.os.trans hos)
    refine q _ _ _ _ ?_ (t.trans t₂) R₂ (.int _ t')
    refine ⟨_, List.Sublist.refl _, _, pm.symm, ?_⟩
    refine ⟨?_, rfl⟩
    have e := preSum_val parts parts.length (Nat.le_refl _)
    rw [List.take_length] at e
    rw [e]
end
-- F11
/-! _Accumulator: __str__ -/
noncomputable def glueP (p : List Nat × List Nat) : List Nat := p.1 ++ p.2
noncomputable def textP (parts : List (List Nat × List Nat)) : List Nat := (parts.map glueP).flatten
theorem items_text {parts : List (List Nat × List Nat)} {l : List (Str × Tok)} (h : ItemsOf (fun i y => ∃ t, y = .str (S (glueP (parts.getD i ([], [])))) t) (strValues l).toArray parts.length) : l.map (·.1) = (parts.map glueP).map S := by
  obtain ⟨h1, h2⟩ := h
  have hl : l.length = parts.length := by
    have : (strValues l).length = parts.length := by simpa using h1
    unfold strValues at this
    rw [List.length_map] at this
    exact this
  apply List.ext_getElem?
  intro j
  by_cases hj : j < parts.length
  · have e : parts[j]? = some parts[j] := List.getElem?_eq_getElem hj
    have e1 : l[j]? = some l[j] := List.getElem?_eq_getElem (by omega)
    have e2 : (strValues l).toArray[j]? = some (.str l[j].1 l[j].2) := by
      rw [List.getElem?_toArray]
      unfold strValues
      rw [List.getElem?_map, e1]; rfl
    obtain ⟨t, ht⟩ := h2 j _ e2
    have e3 : l[j].1 = S (glueP (parts.getD j ([], []))) := by
      injection ht
    rw [List.getElem?_map, List.getElem?_map, List.getElem?_map, e1, e]
    simp only [Option.map_some]
    rw [e3, List.getD_eq_getElem?_getD, e]
    rfl
  · rw [List.getElem?_eq_none (by rw [List.length_map]; omega), List.getElem?_eq_none (by simp; omega)]
theorem glue_sum : ∀ (L : List (List Nat × List Nat)), (∀ p ∈ L, p.1.length ≤ 1000 ∧ p.2.length ≤ 1000) → ((L.map glueP).map (fun x => (S x).length)).sum ≤ 2000 * L.length
  | [], _ => by simp
  | p :: r, h => by
    have h1 := h p (.head _)
    have h2 := glue_sum r fun p hp => h p (.tail _ hp)
    rw [List.map_cons, List.map_cons, List.sum_cons, S_len, glueP, List.length_append, List.length_cons]
    omega
theorem text_len (parts : List (List Nat × List Nat)) : (textP parts).length = totalP parts := by
  induction parts with
  | nil => rfl
  | cons p r ih =>
    have e1 : textP (p :: r) = glueP p ++ textP r := rfl
    have e2 : totalP (p :: r) = lenP p + totalP r := by simp [totalP]
    rw [e1, e2, List.length_append, ih, glueP, lenP, List.length_append]
section
variable {C : Cx} {P : Params} {ks : List Str} {l l' : List (Option V)} {μ μ' : Mem} {h₀ : Heap} {s : Shared}
theorem mstr_ok {n : Nat} (rm : Room C P (n + 1)) {x dx : Addr} {parts : List (List Nat × List Nat)} (hbm : ((4 : Addr), Ob.prop IsBMod) ∈ C.old) (hz : ∀ p ∈ parts, p.1.length ≤ 1000 ∧ p.2.length ≤ 1000) (hpl : parts.length ≤ 1000) :
    OPK C ks l (accM x dx parts μ) (.ref 89) [.val (.ref x)] (Is (.str (S (textP parts))) (accM x dx parts μ)) := by
  have hK := chl (P := P) 89 (by k_is)
  have pm : List.Perm ((84, Ob.prop IsTab) :: (x, .acc 115 dx (parts.map pv)) :: (dx, .prop IniD) :: (77, .prop IsTab) :: μ) (accM x dx parts μ) := by
    refine List.Perm.trans (List.Perm.swap ..) (List.Perm.cons _ ?_)
    refine List.Perm.trans (List.Perm.swap ..) (List.Perm.cons _ ?_)
    exact List.Perm.swap ..
  refine OPK_perm pm ?_
  refine call_lendAt rm ["self"] [] _ [(84, .prop IsTab)] ((x, .acc 115 dx (parts.map pv)) :: (dx, .prop IniD) :: (77, .prop IsTab) :: μ) [(x, .acc 115 dx (parts.map pv)), (dx, .prop IniD), (4, .prop IsBMod)] rfl (fun p hp h o r => by rw [List.mem_singleton.mp hp] at r; exact tab_tup r) hK rfl (by k_is) rfl rfl (by decide) (fun p hp => ?_) (binds_all fun us hu => ?_) (by decide) (by decide) (by intro p hp; cases hp) (by decide) rfl rfl rfl rfl rfl (fun D L hL hH hpg fr rm' hold => EX.at ?_)
  · rcases List.mem_cons.mp hp with rfl | hp
    · exact .inl (.head _)
    rcases List.mem_cons.mp hp with rfl | hp
    · exact .inl (.tail _ (.head _))
    rw [List.mem_singleton.mp hp]; exact .inr hbm
  · obtain ⟨a, rfl⟩ := len1 hu
    rfl
  dsimp only at fr
  have hmD : ∀ {μ : Mem}, Has D μ x (.acc 115 dx (parts.map pv)) := .inr (by rw [hold]; exact .head _)
  have hdD : ∀ {μ : Mem}, Has D μ dx (.prop IniD) := .inr (by rw [hold]; exact .tail _ (.head _))
  have hbD : ∀ {μ : Mem}, Has D μ 4 (.prop IsBMod) := .inr (by rw [hold]; exact .tail _ (.tail _ (.head _)))
  show EX D ["self"] [some (.val (.ref x))] _ _ _
  refine EX_cons (E1_ret fun h₀ s R Q E q => ?_)
  refine methodCall_KW (Fr.EMPTYSTRING fr rfl h₀ s R _ E fun v μ' u s' p t r y => ?_) rfl
  obtain ⟨rfl, rfl⟩ := p
  obtain ⟨te, rfl⟩ := y.str_inv
  refine getMethod_builtin (typeIs_str _ _ _) PySem.F.plainAttrs_str F.slot_str_join rfl (fun a e => nomatch e) ?_
  refine callWith_of (P := fun _ => True) rfl (fun h _ => ⟨.machine, .inr (.inl rfl), Looks.of_pure rfl⟩) (Calls.evalArgs_plain ?_)
  refine Calls.spliced_cons ?_
  refine gen_make (fun i y => ∃ t, y = .str (S (glueP (parts.getD i ([], [])))) t) r fr.ok.hand (by have := rm'.depth; show D.A.depth < 1000; omega) fr.ok.fn fr.ok.glob (by rw [hL]; rfl) (fr.k ▸ a_tab88) hmD hbD (fr.k ▸ a_bm) (by decide) hdD (fr.k ▸ a_mro) (fr.k ▸ a_iter) .head (fr.kind rfl) rfl rfl rfl (by decide) rfl rfl rfl (by decide) rfl ?_ (fun _ => rfl) ?_
  · intro A' E' i s₂ m₂ env' a b ta tb hsc hg hb hi hn ha hb' X T
    have hv : S (glueP (parts.getD i ([], []))) = Txt.join (Str.ofString "") [S a, S b] := by
      rw [List.getD_eq_getElem?_getD, hi, c_0, show [S a, S b] = [a, b].map S from rfl, join_S]; simp [glueP]
    have hzz := hz _ (List.mem_of_getElem? hi)
    rw [hv]
    exact elt_join (by rw [hsc]) hg (by show env'.scope.names.lookup _ = _; rw [hsc]; rfl) (by show env'.scope.names.lookup _ = _; rw [hsc]; rfl) (by show env'.scope.names.lookup _ = _; rw [hsc]; rfl) rfl rfl X T (fr.k ▸ g_EMPTYSTRING) hn ha hb' (by rw [S_len]; exact hzz.1) (by rw [S_len]; exact hzz.2) rfl
  · intro a fp wr g St s₁ W hst hT ha hfp hwr hk hat hbare hos
    refine Calls.spliced_nil ⟨trivial, ?_⟩
    refine SC.joinGen (A := D.A) W.in4_2 hT hst hfp ha (fun i v h => let ⟨t, e⟩ := h; ⟨_, t, e⟩) (fun s₂ l hm hitems => ?_) (by rw [sizeLine_eq]; omega)
    have hl := items_text hitems
    have hj : JoinOk (S []) (l.map (·.1)) = true := by
      refine joinOk_of ?_
      have e1 : (S []).length = 0 := S_len []
      rw [hl, e1, Nat.mul_zero, Nat.add_zero, List.map_map]
      exact Nat.le_trans (glue_sum parts hz) (by omega)
    refine ⟨hj, fun t' k => ?_⟩
    have k77 : ∀ b o, s'.heap.get? b = some o → b ∉ wr := fun b o e q => by rw [hwr b q] at e; cases e
    obtain ⟨oT, hoT, hT2⟩ := hat
    have h84 : (84 : Addr) ∉ wr := by
      obtain ⟨o, e, _⟩ := (r.mem _ (.head _)).1
      exact k77 _ _ e
    obtain ⟨R₂, t₂⟩ := Rel.regrow (s' := s₂) (b' := .prop IsTab) r (fun b o n e => hm.heap b o (k77 b o e) (hk b o n e)) (fun h o r => tab_tup r) ⟨oT, hm.heap _ _ h84 hoT, .prop hT2.prop_inv⟩ (AllBare.movedS hbare hm) (hm.os.trans hos)
    rw [hl, join_S]
    exact q _ _ _ _ ⟨_, List.Sublist.refl _, _, pm.symm, rfl, rfl⟩ (t.trans t₂) (R₂.toks) (.str _ t')
end
-- F12
/-! _Accumulator: len(..), str(..), made -/
section
variable {C : Cx} {P : Params} {ks : List Str} {l l' : List (Option V)} {μ μ' : Mem} {h₀ : Heap} {s : Shared}
theorem OPK.under {A : Around} {f : Value} {vs : List V} {Φ : V → Mem → Prop} (h : OPK (C.under A) ks l μ f vs Φ) (R : Rel C ks l μ h₀ s) {us : List Value} (y : VRs C.H s.heap vs us) {Q E : Value → Shared → Prop}
    (q : ∀ v μ' u s', Φ v μ' → TK C.H s.heap s'.heap → Rel C ks l μ' h₀ s' → VR C.H s'.heap v u → Q u s') : wpAny (model C.prog C.w) A (call f us) Q E s := h h₀ s us (R.under A) y Q E fun v μ' u s' p t r z => q v μ' u s' p t (r.ofUnder) z
theorem len_ok {n : Nat} (rm : Room C P (n + 2)) {x dx : Addr} {parts : List (List Nat × List Nat)} (hbm : ((4 : Addr), Ob.prop IsBMod) ∈ C.old) (hz : ∀ p ∈ parts, p.1.length ≤ 1000 ∧ p.2.length ≤ 1000) (hpl : parts.length ≤ 1000) :
    OPK C ks l (accM x dx parts μ) (.builtin "len") [.val (.ref x)] (Is (.int (totalP parts)) (accM x dx parts μ)) := fun h₀ s us R y Q E q => by
  cases y with
  | cons y r =>
    cases r; cases y
    obtain ⟨vs, nA, d, I, iD, rv⟩ := acc_at (R.at (.head _)) (R.at (.tail _ (.head _)))
    refine Calls.call_function_entry kind_len plain_len entry_len (args_len1 _) ?_
    unfold Builtin.«len»
    refine wpAny_bind (m := oneArg "len" _) (wpAny_pure ?_)
    have X : (hd.heap_1 P).In s.heap := rm.k ▸ R.inK.keeps R.keep
    have hb : totalP parts < 2 ^ 63 := by
      have : totalP parts ≤ 2000 * parts.length := by
        clear q R rv hpl
        induction parts with
        | nil => simp [totalP]
        | cons p r ih =>
          have h1 := hz p (.head _)
          have h2 := ih fun p hp => hz p (.tail _ hp)
          have e : totalP (p :: r) = lenP p + totalP r := by simp [totalP]
          rw [e, lenP, List.length_cons]
          omega
      omega
    refine wpAny_bind (m := callSpecial? (.ref x) (Str.ofString "__len__")) (special_fn X I a_len (beq_iff_eq.mp a_fn82) ?_)
    refine (mlen_ok (C := C.under C.A.in1) (n := n) ((rm.under rfl (by show C.A.units + 1 ≤ C.A.units + 3; omega) rfl)) hbm hz).under R (.one (.val _)) fun v μ' u s' p t r z => ?_
    obtain ⟨rfl, rfl⟩ := p
    obtain ⟨tk, rfl⟩ := z.int_inv
    refine wpAny_bind (wpAny_holding (wpAny_pure ?_))
    refine wpAny_bind (wpAny_letGo ?_)
    show wpAny _ _ (if ((totalP parts : Nat) : Int) < 0 then _ else _) _ _ _
    rw [if_neg (by omega)]
    show wpAny _ _ (if ((totalP parts : Nat) : Int) ≥ 2 ^ 63 then _ else _) _ _ _
    rw [if_neg (by omega)]
    exact wpAny_bind (wpAny_mkInt (wpAny_pure ⟨_, rfl, q _ _ _ _ ⟨rfl, rfl⟩ t (r.toks) (.int _ _)⟩))
theorem str_ok {n : Nat} (rm : Room C P (n + 2)) {x dx : Addr} {parts : List (List Nat × List Nat)} (hbm : ((4 : Addr), Ob.prop IsBMod) ∈ C.old) (hz : ∀ p ∈ parts, p.1.length ≤ 1000 ∧ p.2.length ≤ 1000) (hpl : parts.length ≤ 1000) :
    OPK C ks l (accM x dx parts μ) (.type "str") [.val (.ref x)] (Is (.str (S (textP parts))) (accM x dx parts μ)) := fun h₀ s us R y Q E q => by
  cases y with
  | cons y r =>
    cases r; cases y
    obtain ⟨vs, nA, d, I, iD, rv⟩ := acc_at (R.at (.head _)) (R.at (.tail _ (.head _)))
    have X : (hd.heap_1 P).In s.heap := rm.k ▸ R.inK.keeps R.keep
    refine kso_call (by have := rm.units; show C.A.units + 1 + 1 < 9900; omega) X I a_str a_fn89 ?_
    refine (mstr_ok (C := C.under C.A.in1.in1) (n := n) ((rm.under rfl (by show C.A.units + 1 + 1 ≤ C.A.units + 3; omega) rfl)) hbm hz hpl).under R (.one (.val _)) fun v μ' u s' p t r z => ?_
    obtain ⟨rfl, rfl⟩ := p
    obtain ⟨tk, rfl⟩ := z.str_inv
    exact q _ _ _ _ ⟨rfl, rfl⟩ t r (.str _ _)
end
-- F13
/-! _Accumulator: made -/
noncomputable def IsEmptyD (o : Obj) : Prop := o = emptyDict
theorem empty_tup {H : Addr → Prop} {h : Heap} {o : Obj} (r : OR H h (.prop IsEmptyD) o) : ∀ vs k, o ≠ tupleOf vs k := fun vs k e => by
  have := r.prop_inv
  unfold IsEmptyD at this
  rw [this] at e
  have := congrArg Obj.cls e
  simp at this
section
variable {C : Cx} {P : Params} {ks : List Str} {l l' : List (Option V)} {μ μ' : Mem} {h₀ : Heap} {s : Shared}
/-- super() on an acc whose dict is any -/
theorem init_ok {n : Nat} (rm : Room C P (n + 1)) (pg : PgOk C.prog) {x dx : Addr} (hμ : μ = (dx, .prop IsEmptyD) :: (x, .acc 115 dx []) :: μ') (R : Rel C ks l μ h₀ s) {Rr : Result → Shared → Prop}
    (q : ∀ s', TK C.H s.heap s'.heap → Rel C ks l ((x, .acc 115 dx []) :: (dx, .prop IniD) :: μ') h₀ s' → Rr (.ok (.ret .none)) s') : codeAny (model C.prog C.w) C.A (.call (.ref 52) ⟨[.ref x], []⟩) Rr s := by
  have hK := chl (P := P) 52 (by k_is)
  subst hμ
  refine code_lendAt (Φ := fun v ν => v = .none ∧ ν = (dx, .prop IniD) :: (x, .acc 115 dx []) :: μ') (vs := [.val (.ref x)]) (vs' := [.val (.ref x), .int 0]) rm ["self", "initial_size"] [] _ [(dx, .prop IsEmptyD), (x, .acc 115 dx [])] μ' [] rfl (fun p hp h o r => ?_) hK rfl (by k_is) rfl rfl (by decide) (fun p hp => nomatch hp) (fun h₀ s us R y => ?_) (by decide) (by decide) (fun p hp => ?_) (by decide) rfl rfl rfl rfl rfl (fun D L hL hH hpg fr rm' hold => ?_) h₀ s _ R (.one (.val _)) Rr ?_
  · rcases List.mem_cons.mp hp with rfl | hp
    · exact empty_tup r
    · rw [List.mem_singleton.mp hp] at r; exact acc_tup r
  · cases y with
    | cons y r =>
      cases r; cases y
      exact ⟨[.ref x, .int 0 227], .cons (.val _) (.cons (.int _ _) .nil), BindsTo.of_defaults (T := 44) rfl (R.inK.keeps R.keep _ _ (rm.k ▸ chl (P := P) 44 (by k_is))) rfl rfl rfl⟩
  · rw [List.mem_singleton.mp hp]
    obtain ⟨a, b, c, e⟩ := a_cell (P := P)
    exact ⟨_, _, _, _, e⟩
  · dsimp only at fr
    show EXat D ["self", "initial_size"] [some (.val (.ref x)), some (.int 0)] _ _ _ _
    intro h₀ s R Q E q
    obtain ⟨m, hmN, hmB⟩ := R.ns
    have hself : m "self" = some (.ref x) := by
      rcases hmB "self" (.val (.ref x)) .head with ⟨_, u, e, r⟩ | ⟨kk, _⟩
      · rw [e, r.val_inv]
      · rw [fr.kind (x := "self") (k := .local) rfl] at kk; rcases kk with kk | kk <;> cases kk
    have hsize : ∃ u, m "initial_size" = some (.int 0 u) := by
      rcases hmB "initial_size" (.int 0) (.tail .head) with ⟨_, u, e, r⟩ | ⟨kk, _⟩
      · obtain ⟨t, rfl⟩ := r.int_inv
        exact ⟨t, e⟩
      · rw [fr.kind (x := "initial_size") (k := .local) rfl] at kk; rcases kk with kk | kk <;> cases kk
    obtain ⟨u0, hu0⟩ := hsize
    have X : (hd.heap_1 P).In s.heap := fr.k ▸ R.inK.keeps R.keep
    obtain ⟨od, hod, hode⟩ := (R.at (.head _)).prop_inv
    unfold IsEmptyD at hode
    subst hode
    obtain ⟨vs, nA, hox, rv⟩ := (R.at (.tail _ (.head _))).acc_inv
    cases rv
    refine ks_wpAt_execs_cons (ks_wpAt_Assign_Attr (wpAt_of_wpAny (wpAny_Name (wpAny_loadName_local fr.ok.fn (fr.kind rfl) hmN hu0 ?_) rfl)) rfl)
    refine wpAny_Name (wpAny_loadName_local fr.ok.fn (fr.kind rfl) hmN hself ?_) rfl
    refine set_ini (K := hd.heap_1 P) X hox hod a_sattr a_list a_size fun h' tk t hsh hs ho => ?_
    obtain ⟨R1, t1⟩ := Rel.regrow (s' := { s with heap := h', toks := tk }) (b' := .prop IniD) R (fun b o n e => (hs.2 b n).trans e) (fun h o r => empty_tup r) ⟨_, ho, .prop ⟨hsh, t, u0, rfl⟩⟩ R.bare rfl
    refine ks_wpAt_execs_cons (ks_wpAt_Expr_any ?_ fr.inter rfl)
    refine super_meth (vs := _) (tf := _) (hpg ▸ pg) fr hL hK ⟨_, rfl, rfl⟩ rfl rfl (chl (P := P) 51 (by k_is)) rfl rfl rfl rfl rfl R1 .head (.inl (.tail _ (.head _))) (.inl (.head _)) a_superI (.inr rfl) (fun X I => bnd_init X I a_mro) (fun b s' hb t' k R' => ?_) rfl
    obtain ⟨vs, na, d, I, iD, rv⟩ := acc_at (R'.at (.tail _ (.head _))) (R'.at (.head _))
    cases rv
    refine call_bound (.inr rfl) hb (by decide +kernel) PySem.F.entry_list_init (check_slot (n := "__init__") (by decide +kernel) (by decide +kernel) (PySem.F.args_list_init_1 _)) ?_
    refine init_body I.at_ fun h'' hs'' ho'' => ⟨_, rfl, ?_⟩
    have t2 : TK D.H s'.heap h'' := tk_same hs'' I.at_ fun vs k e => by have := congrArg Obj.cls e; simp at this
    obtain ⟨R3, _⟩ := R'.mut (tk := s'.toks) (b' := .acc 115 dx []) (.tail .head) trivial hs'' ⟨_, ho'', .acc (n := na) .nil⟩
    exact wpAt_of_wpAny (wpAny_pure (q .next _ _ _ _ ⟨_, List.Sublist.refl _, rfl, rfl⟩ ((t1.trans t').trans t2) R3 .next))
  · rintro v ν u s' ⟨rfl, rfl⟩ t r z
    rw [z.none_inv]
    exact q s' t (r.perm (List.Perm.swap ..))
/-- «_Accumulator()» -/
theorem make_ok {n : Nat} (rm : Room C P (n + 3)) (pg : PgOk C.prog) {Φ : V → Mem → Prop} (hΦ : ∀ x dx, Φ (.val (.ref x)) (accM x dx [] μ)) : OPK C ks l ((77, .prop IsTab) :: (84, .prop IsTab) :: μ) (.ref 115) [] Φ := fun h₀ s us R y Q E q => by
  cases y
  obtain ⟨hh, g, dr, t, os⟩ := s
  have X : (hd.heap_1 P).In hh := rm.k ▸ R.inK.keeps R.keep
  refine wpAny_call (make_L (makesL_of X a_makes) (looks_findIn X a_init) (fun self => bind_fn X self a_fn52) ?_)
  have k : ∀ b o, hh.get? b = some o → ((hh.push emptyDict).push (accNew 115 hh.objs.size)).get? b = some o := fun b o e => Heap.get?_push_of_some _ (Heap.get?_push_of_some _ e)
  have e1 : (hh.push emptyDict).get? hh.objs.size = some emptyDict := Heap.get?_push_size _ rfl
  have e1' : ((hh.push emptyDict).push (accNew 115 hh.objs.size)).get? hh.objs.size = some emptyDict := Heap.get?_push_of_some _ e1
  have e2 : ((hh.push emptyDict).push (accNew 115 hh.objs.size)).get? (hh.objs.size + 1) = some (accNew 115 hh.objs.size) := by heap_get
  have R1 := (R.keeps (tk := t) k)
  have n1 : hh.get? hh.objs.size = none := none_size _
  have n2 : hh.get? (hh.objs.size + 1) = none := Heap.get?_none_of_le (Nat.le_succ _)
  have R2 : Rel C ks l ((hh.objs.size + 1, .acc 115 hh.objs.size []) :: (77, .prop IsTab) :: (84, .prop IsTab) :: μ) h₀ ⟨(hh.push emptyDict).push (accNew 115 hh.objs.size), g, dr, t, os⟩ := R1.grow ⟨_, e2, .acc (n := 0) .nil⟩ (R.new_ne n2) (R.new0 n2)
  have R3 : Rel C ks l ((hh.objs.size, .prop IsEmptyD) :: (hh.objs.size + 1, .acc 115 hh.objs.size []) :: (77, .prop IsTab) :: (84, .prop IsTab) :: μ) h₀ ⟨(hh.push emptyDict).push (accNew 115 hh.objs.size), g, dr, t, os⟩ := by
    refine R2.grow ⟨_, e1', .prop rfl⟩ (fun q => ?_) (R.new0 n1)
    rcases List.mem_cons.mp q with q | q
    · exact R.new_ne n1 (q ▸ .head _)
    rcases List.mem_append.mp q with q | q
    · exact R.new_ne n1 (.tail _ (List.mem_append_left _ q))
    rw [List.map_cons] at q
    rcases List.mem_cons.mp q with q | q
    · exact Nat.succ_ne_self _ q.symm
    · exact R.new_ne n1 (.tail _ (List.mem_append_right _ q))
  have hw : (Code.builtin "type.__call__" ⟨[.ref 115], []⟩).weight = 1 := by decide +kernel
  have hu : (Code.builtin "type.__call__" ⟨[.ref 115], []⟩).cUnits = 1 := by decide +kernel
  have rm' : Room (C.under (C.A.under (.builtin "type.__call__" ⟨[.ref 115], []⟩))) P (n + 1) := by
    have d := rm.depth
    have u := rm.units
    refine ⟨⟨rm.ok.fn, rm.ok.glob, rm.ok.blt, rm.ok.hand, ?_, ?_⟩, rm.k, ?_, ?_⟩
    · show C.A.depth + Code.weight _ < 800; rw [hw]; omega
    · show C.A.units + Code.cUnits _ < 2000; rw [hu]; omega
    · show C.A.depth + Code.weight _ + (n + 1) < 700; rw [hw]; omega
    · show C.A.units + Code.cUnits _ + 3 * (n + 1) < 1900; rw [hu]; omega
  refine init_ok (C := C.under (C.A.under (.builtin "type.__call__" ⟨[.ref 115], []⟩))) rm' pg (x := hh.objs.size + 1) (dx := hh.objs.size) rfl (R3.under _) fun s' t' R' => ⟨rfl, ?_⟩
  exact q _ _ _ _ (hΦ (hh.objs.size + 1) hh.objs.size) ((TK.of_keep k).trans t') R'.ofUnder (.val _)
end
-- F14
/-! plain facts of one turn -/
abbrev Pc := Nat × Nat
noncomputable def pc (q : Pc) : List Nat := List.replicate q.2 q.1
noncomputable def pt (q : Pc) : List Nat × List Nat := ([q.1], List.replicate (q.2 - 1) q.1)
noncomputable def spc (q : Pc) : V := sv (pc q)
noncomputable def txt (ps : List Pc) : List Nat := (ps.map pc).flatten
theorem txt_app (a b : List Pc) : txt (a ++ b) = txt a ++ txt b := by simp [txt]
theorem txt_one (q : Pc) : txt [q] = pc q := by simp [txt]
theorem txt_cons (q : Pc) (b : List Pc) : txt (q :: b) = pc q ++ txt b := by simp [txt]
theorem glue_pt {q : Pc} (h : 0 < q.2) : glueP (pt q) = pc q := by
  obtain ⟨c, n⟩ := q
  cases n with
  | zero => simp at h
  | succ n => simp [glueP, pt, pc, List.replicate_succ]
theorem textP_pt : ∀ {ps : List Pc}, (∀ q ∈ ps, 0 < q.2) → textP (ps.map pt) = txt ps
  | [], _ => rfl
  | q :: r, h => by
    rw [List.map_cons, txt_cons, ← textP_pt (ps := r) fun q hq => h q (.tail _ hq), ← glue_pt (h q (.head _))]
    rfl
theorem totalP_pt {ps : List Pc} (h : ∀ q ∈ ps, 0 < q.2) : totalP (ps.map pt) = (txt ps).length := by rw [← text_len, textP_pt h]
/-- what is laid: signs all different -/
structure Fit (last laid : List Pc) : Prop where
  sub : ∀ q ∈ last, q ∈ laid
  pos : ∀ q ∈ laid, 0 < q.2 ∧ q.1 ∈ Al
  ndl : (last.map (·.1)).Nodup
  len : last.length ≤ 7
  txt : (txt last).length ≤ 40
theorem Fit.posL {last laid : List Pc} (f : Fit last laid) : ∀ q ∈ last, 0 < q.2 := fun q h => (f.pos q (f.sub q h)).1
theorem Fit.al {last laid : List Pc} (f : Fit last laid) : ∀ {q : Pc}, q ∈ last → q.1 ∈ Al := fun {q} h => (f.pos q (f.sub q h)).2
inductive StepP (last laid : List Pc) : List Pc → List Pc → Prop
  | same : last ≠ [] → StepP last laid last laid
  | next (j : Nat) (c n : Nat) : j ≤ last.length → 0 < n → c ∈ Al → (∀ q ∈ laid, q.1 ≠ c) → (∀ q, last[j]? = some q → q.1 < c) → StepP last laid (last.take j ++ [(c, n)]) (laid ++ [(c, n)])
theorem mem_txt {ps : List Pc} {c : Nat} : c ∈ txt ps ↔ ∃ q ∈ ps, 0 < q.2 ∧ q.1 = c := by
  simp only [txt, List.mem_flatten, List.mem_map]
  constructor
  · rintro ⟨l, ⟨q, hq, rfl⟩, h⟩
    unfold pc at h
    rw [List.mem_replicate] at h
    exact ⟨q, hq, by omega, h.2.symm⟩
  · rintro ⟨q, hq, h, rfl⟩
    exact ⟨pc q, ⟨q, hq, rfl⟩, by unfold pc; rw [List.mem_replicate]; exact ⟨by omega, rfl⟩⟩
/-- one form for both: kept j, new ones nw -/
structure Parts (last laid pieces laid' : List Pc) (j : Nat) (nw : List Pc) : Prop where
  jl : j ≤ last.length
  peq : pieces = last.take j ++ nw
  leq : laid' = laid ++ nw
  kind : (nw = [] ∧ j = last.length ∧ last ≠ []) ∨ ∃ c n, nw = [(c, n)] ∧ 0 < n ∧ c ∈ Al ∧ (∀ q ∈ laid, q.1 ≠ c) ∧ (∀ q, last[j]? = some q → q.1 < c)
theorem StepP.parts {last laid pieces laid' : List Pc} (s : StepP last laid pieces laid') : ∃ j nw, Parts last laid pieces laid' j nw := by
  cases s with
  | same h => exact ⟨last.length, [], Nat.le_refl _, by simp, by simp, .inl ⟨rfl, rfl, h⟩⟩
  | next j c n h1 h2 h3 h4 h5 => exact ⟨j, [(c, n)], h1, rfl, rfl, .inr ⟨c, n, rfl, h2, h3, h4, h5⟩⟩
theorem txt_pos {ps : List Pc} {q : Pc} (h : q ∈ ps) (hq : 0 < q.2) : 0 < (txt ps).length := by
  rw [List.length_pos_iff]
  intro e
  have : q.1 ∈ txt ps := mem_txt.mpr ⟨q, h, hq, rfl⟩
  rw [e] at this
  cases this
/-- the text of more than what is kept is no beginning -/
theorem not_prefix {last laid pieces laid' : List Pc} {j : Nat} {nw : List Pc} (f : Fit last laid) (p : Parts last laid pieces laid' j nw) {k : Nat} (hk : j < k) (hl : k ≤ last.length) : (txt (last.take k)).isPrefixOf (txt pieces) = false := by
  rcases p.kind with ⟨_, e, _⟩ | ⟨c, n, rfl, hn, _, hc, hlt⟩
  · omega
  · rw [p.peq, txt_app, txt_one]
    have hj : last[j]? = some last[j] := List.getElem?_eq_getElem (by omega)
    have e : last.take k = last.take j ++ (last[j] :: (last.take k).drop (j + 1)) := by
      have h1 : last.take k = (last.take k).take j ++ (last.take k).drop j := (List.take_append_drop j _).symm
      rw [List.take_take, Nat.min_eq_left (by omega)] at h1
      have h2 : (last.take k).drop j = last[j] :: (last.take k).drop (j + 1) := by
        rw [List.drop_eq_getElem_cons (by rw [List.length_take]; omega)]
        rw [List.getElem_take]
      rw [h2] at h1
      exact h1
    rw [e, txt_app, txt_cons]
    have hq := hlt _ hj
    have hp := f.posL last[j] (List.getElem_mem _)
    rw [Bool.eq_false_iff]
    intro h
    have h := List.isPrefixOf_iff_prefix.mp h
    rw [List.prefix_append_right_inj] at h
    obtain ⟨t, ht⟩ := h
    have : (pc last[j])[0]? = some last[j].1 := by
      unfold pc
      rw [List.getElem?_replicate, if_pos hp]
    have h2 : (pc last[j] ++ txt ((last.take k).drop (j + 1)) ++ t)[0]? = (pc (c, n))[0]? := congrArg (fun l : List Nat => l[0]?) ht
    rw [List.append_assoc, List.getElem?_append_left (by unfold pc; rw [List.length_replicate]; exact hp), this] at h2
    unfold pc at h2
    rw [List.getElem?_replicate, if_pos hn] at h2
    have := Option.some.inj h2
    omega
theorem is_prefix {last laid pieces laid' : List Pc} {j : Nat} {nw : List Pc} (p : Parts last laid pieces laid' j nw) : (txt (last.take j)).isPrefixOf (txt pieces) = true := by
  rw [p.peq, txt_app]
  exact List.isPrefixOf_iff_prefix.mpr (List.prefix_append _ _)
theorem Parts.before {last laid pieces laid' : List Pc} {j : Nat} {nw : List Pc} (p : Parts last laid pieces laid' j nw) : txt last = txt (last.take j) ++ txt (last.drop j) := by rw [← txt_app, List.take_append_drop]
theorem Parts.name {last laid pieces laid' : List Pc} {j : Nat} {nw : List Pc} (p : Parts last laid pieces laid' j nw) : txt pieces = txt (last.take j) ++ txt nw := by rw [p.peq, txt_app]
theorem Parts.nwpos {last laid pieces laid' : List Pc} {j : Nat} {nw : List Pc} (p : Parts last laid pieces laid' j nw) : ∀ q ∈ nw, 0 < q.2 ∧ q.1 ∈ Al := by
  rcases p.kind with ⟨rfl, _⟩ | ⟨c, n, rfl, h1, h2, _⟩
  · intro q h; cases h
  · intro q h; rw [List.mem_singleton.mp h]; exact ⟨h1, h2⟩
theorem Parts.fit {last laid pieces laid' : List Pc} {j : Nat} {nw : List Pc} (p : Parts last laid pieces laid' j nw) (f : Fit last laid) (h7 : pieces.length ≤ 7) (h40 : (txt pieces).length ≤ 40) : Fit pieces laid' where
  sub := fun q h => by
    rw [p.peq] at h
    rw [p.leq]
    rcases List.mem_append.mp h with h | h
    · exact List.mem_append_left _ (f.sub q (List.mem_of_mem_take h))
    · exact List.mem_append_right _ h
  pos := fun q h => by
    rw [p.leq] at h
    rcases List.mem_append.mp h with h | h
    · exact f.pos q h
    · exact p.nwpos q h
  ndl := by
    rw [p.peq, List.map_append, List.nodup_append]
    refine ⟨(f.ndl.sublist ((List.take_sublist _ _).map _)), ?_, ?_⟩
    · rcases p.kind with ⟨rfl, _⟩ | ⟨c, n, rfl, _⟩ <;> simp
    · rcases p.kind with ⟨rfl, _⟩ | ⟨c, n, rfl, _, _, hc, _⟩
      · intro a _ b hb; cases hb
      · intro a ha b hb e
        obtain ⟨q, hq, rfl⟩ := List.mem_map.mp ha
        rw [List.map_cons, List.map_nil, List.mem_singleton] at hb
        exact hc q (f.sub q (List.mem_of_mem_take hq)) (e.trans hb)
  len := h7
  txt := h40
/-- no sign of what goes in what comes -/
theorem Parts.apart {last laid pieces laid' : List Pc} {j : Nat} {nw : List Pc} (p : Parts last laid pieces laid' j nw) (f : Fit last laid) : ∀ c ∈ txt (last.drop j), c ∉ txt nw := by
  intro c h h2
  obtain ⟨q, hq, _, rfl⟩ := mem_txt.mp h
  obtain ⟨q2, hq2, _, e⟩ := mem_txt.mp h2
  rcases p.kind with ⟨rfl, _⟩ | ⟨c, n, rfl, _, _, hc, _⟩
  · cases hq2
  · rw [List.mem_singleton.mp hq2] at e
    exact hc q (f.sub q (List.mem_of_mem_drop hq)) e.symm
theorem Parts.xA {last laid pieces laid' : List Pc} {j : Nat} {nw : List Pc} (p : Parts last laid pieces laid' j nw) (f : Fit last laid) : (∀ c ∈ txt (last.drop j), c ∈ Al) ∧ ∀ c ∈ txt nw, c ∈ Al := by
  refine ⟨fun c h => ?_, fun c h => ?_⟩
  · obtain ⟨q, hq, _, rfl⟩ := mem_txt.mp h
    exact f.al (List.mem_of_mem_drop hq)
  · obtain ⟨q, hq, _, rfl⟩ := mem_txt.mp h
    exact (p.nwpos q hq).2
/-- a piece is told by its sign -/
theorem pc_inj {a b : Pc} (ha : 0 < a.2) (h : pc a = pc b) : a = b := by
  obtain ⟨c, n⟩ := a
  obtain ⟨d, m⟩ := b
  unfold pc at h
  simp only at h ha
  have e1 : n = m := by have := congrArg List.length h; simpa using this
  subst e1
  have e2 := congrArg (fun l : List Nat => l[0]?) h
  simp only [List.getElem?_replicate, if_pos ha] at e2
  rw [Option.some.inj e2]
theorem pc_mem {ps : List Pc} {q : Pc} (hq : 0 < q.2) : pc q ∈ ps.map pc ↔ q ∈ ps := by
  constructor
  · intro h
    obtain ⟨q2, h2, e⟩ := List.mem_map.mp h
    rw [pc_inj hq e.symm]
    exact h2
  · exact fun h => List.mem_map_of_mem h
/-- the sum over those that both have -/
noncomputable def comL (last : List Pc) : List Pc → List Nat
  | [] => []
  | q :: r => (if q ∈ last then [(pc q).length] else []) ++ comL last r
theorem comL_app (last a b : List Pc) : comL last (a ++ b) = comL last a ++ comL last b := by
  induction a with
  | nil => rfl
  | cons q r ih => rw [List.cons_append, comL, comL, ih, List.append_assoc]
theorem comL_all {last a : List Pc} (h : ∀ q ∈ a, q ∈ last) : (comL last a).sum = (txt a).length := by
  induction a with
  | nil => rfl
  | cons q r ih =>
    rw [comL, if_pos (h q (.head _)), List.sum_append, ih fun q hq => h q (.tail _ hq), txt_cons, List.length_append]
    simp
theorem comL_len (last : List Pc) : ∀ a, (comL last a).length ≤ a.length
  | [] => Nat.le_refl _
  | q :: r => by
    rw [comL, List.length_append, List.length_cons]
    have := comL_len last r
    split <;> simp <;> omega
theorem Parts.com {last laid pieces laid' : List Pc} {j : Nat} {nw : List Pc} (p : Parts last laid pieces laid' j nw) (f : Fit last laid) : (comL last pieces).sum = (txt (last.take j)).length := by
  rw [p.peq, comL_app, List.sum_append, comL_all fun q h => List.mem_of_mem_take h]
  have : comL last nw = [] := by
    rcases p.kind with ⟨rfl, _⟩ | ⟨c, n, rfl, _, _, hc, _⟩
    · rfl
    · rw [comL, if_neg (fun h => hc _ (f.sub _ h) rfl)]; rfl
  rw [this]; rfl
/-- the two ways of the order -/
theorem collL_self (a : List Nat) : collL a a = 0 := by simp [collL, b2i, List.lt_irrefl]
theorem lt_app {p x y : List Nat} (h : x < y) : p ++ x < p ++ y := by
  induction p with
  | nil => exact h
  | cons c p ih => exact List.cons_lt_cons_self.mpr ih
theorem Parts.lt {last laid pieces laid' : List Pc} {j : Nat} {nw : List Pc} (p : Parts last laid pieces laid' j nw) (f : Fit last laid) (h : nw ≠ []) : txt last < txt pieces := by
  rw [p.before, p.name]
  apply lt_app
  rcases p.kind with ⟨rfl, _⟩ | ⟨c, n, rfl, hn, _, hc, hlt⟩
  · exact absurd rfl h
  · obtain ⟨n, rfl⟩ : ∃ m, n = m + 1 := ⟨n - 1, by omega⟩
    rw [txt_one]
    show _ < List.replicate (n + 1) c
    rw [List.replicate_succ]
    by_cases hj : j < last.length
    · have hj' : last[j]? = some last[j] := List.getElem?_eq_getElem hj
      rw [List.drop_eq_getElem_cons hj, txt_cons]
      have hp := f.posL last[j] (List.getElem_mem _)
      obtain ⟨m, hm⟩ : ∃ m, last[j].2 = m + 1 := ⟨last[j].2 - 1, by omega⟩
      have : pc last[j] = last[j].1 :: List.replicate m last[j].1 := by unfold pc; rw [hm, List.replicate_succ]
      rw [this, List.cons_append]
      exact List.cons_lt_cons_iff.mpr (.inl (hlt _ hj'))
    · rw [List.drop_eq_nil_of_le (by omega)]
      exact List.nil_lt_cons _ _
theorem collL_lt {a b : List Nat} (h : a < b) : collL a b = -1 ∧ collL b a = 1 := by
  have h2 : ¬ b < a := List.lt_asymm h
  constructor
  · simp [collL, b2i, h, h2]
  · simp [collL, b2i, h, h2]
-- F15
/-! one turn of law's last loop -/
noncomputable def bodyOf {K : Frag} {f : Addr} {oc : Value} {od : Option Addr} {fd : FuncData} {osl : Array (Option Value)} (_ : K.lookup f = some ⟨oc, od, .func fd, osl⟩) : List Stmt := match fd.body with | .stmts b => b | _ => []
noncomputable def namesOf {K : Frag} {f : Addr} {oc : Value} {od : Option Addr} {fd : FuncData} {osl : Array (Option Value)} (_ : K.lookup f = some ⟨oc, od, .func fd, osl⟩) : List (Str × NameKind) := fd.scope.names
noncomputable def lawBody (P : Params) : List Stmt := bodyOf (chl (P := P) 189 (by k_is))
noncomputable def lawNames (P : Params) : List (Str × NameKind) := namesOf (chl (P := P) 189 (by k_is))
noncomputable def forBody (P : Params) : List Stmt := match (lawBody P).drop 16 with | .For _ _ b _ _ :: _ => b | _ => []
abbrev KS : List Str := ["script", "cells", "total", "folders", "times", "readings", "bound", "names", "k", "name", "turn", "order", "due", "pieces", "ranked", "line", "last", "laid", "ways", "before", "up", "down", "head", "tail", "further", "run", "sides", "price"]
section
variable {C : Cx} {P : Params} {ks : List Str} {l l' : List (Option V)} {μ μ' : Mem} {h₀ : Heap} {s : Shared} {names : List (Str × NameKind)}
theorem EX_drop {ss : List Stmt} {Ψ : Fl → List (Option V) → Mem → Prop} (hs : List.Sublist μ' μ) (h : EX C ks l μ' ss Ψ) : EX C ks l μ ss Ψ := fun h₀ s R Q E q => h h₀ s (R.drop hs) Q E q
theorem EX_perm {ss : List Stmt} {Ψ : Fl → List (Option V) → Mem → Prop} (p : List.Perm μ' μ) (h : EX C ks l μ' ss Ψ) : EX C ks l μ ss Ψ := fun h₀ s R Q E q => h h₀ s (R.perm p) Q E q
theorem swaps_three (f : Fr C names P) {x y z : Str} {px py pz p1 p2 : Pos} {k1 k2 : Nat} {fn : Expr} {args : List Expr} {kw : List Keyword} {q1 q2 q3 : Pos} {c2 c3 : Const} {j2 j3 : Nat} (hx : names.lookup x = some .local) (hy : names.lookup y = some .local) (hz : names.lookup z = some .local) (hl1 : (px.line == py.line) = true) (hl2 : (px.line == pz.line) = true) (hne : (x == y) = false) (hne2 : (x == z) = false) (hne3 : (y == z) = false) :
    swappedStores [.Tuple [.Name x px, .Name y py, .Name z pz] k1 p1] (.Tuple [.Call fn args kw q1, .Constant c2 j2 q2, .Constant c3 j3 q3] k2 p2) C.env = pure (some [x, y, z]) := by
  have h1 : C.env.blockKind = .function := by unfold Env.blockKind; rw [f.ok.fn]; rfl
  have n1 : x ≠ y := fun e => by rw [e] at hne; simp at hne
  have n2 : x ≠ z := fun e => by rw [e] at hne2; simp at hne2
  have n3 : y ≠ z := fun e => by rw [e] at hne3; simp at hne3
  have k1 := f.kind hx
  have k2 := f.kind hy
  have k3 := f.kind hz
  have e2 : py.line = px.line := by simpa using (beq_iff_eq.mp hl1).symm
  have e3 : pz.line = px.line := by simpa using (beq_iff_eq.mp hl2).symm
  have b1 : (y == x) = false := by rw [beq_eq_false_iff_ne]; exact n1.symm
  have b2 : (z == x) = false := by rw [beq_eq_false_iff_ne]; exact n2.symm
  have b3 : (z == y) = false := by rw [beq_eq_false_iff_ne]; exact n3.symm
  unfold swappedStores
  have g1 : ∀ fn args kw q, foldedForSure 8 (.Call fn args kw q) = false := fun _ _ _ _ => rfl
  have g2 : ∀ fn args kw q, constantsAlone 8 (.Call fn args kw q) = false := fun _ _ _ _ => rfl
  simp [h1, k1, k2, k3, e2, e3, pos_name, pos_const, pos_call, pos_list, pos_tuple, g1, g2, List.eraseDups, List.eraseDupsBy, List.eraseDupsBy.loop, List.filterMap, b1, b2, b3]
theorem pc_le_txt : ∀ {ps : List Pc} {q : Pc}, q ∈ ps → (pc q).length ≤ (txt ps).length
  | p :: r, q, h => by
    rw [txt_cons, List.length_append]
    rcases List.mem_cons.mp h with rfl | h
    · omega
    · have := pc_le_txt h; omega
theorem OPB.mono {op : Operator} {a b : V} {Φ Φ' : V → Mem → Prop} (h : OPB C ks l μ op a b Φ) (k : ∀ v μ', Φ v μ' → Φ' v μ') : OPB C ks l μ op a b Φ' := fun h₀ s x y R hx hy Q E q => h h₀ s x y R hx hy Q E fun v μ' u s' p t r z => q v μ' u s' (k v μ' p) t r z
theorem sum_cast : ∀ L : List Nat, (L.map fun n : Nat => (n : Int)).sum = ((L.sum : Nat) : Int)
  | [] => rfl
  | a :: r => by rw [List.map_cons, List.sum_cons, List.sum_cons, sum_cast r]; omega
theorem Parts.lastz {last laid pieces laid' : List Pc} {j : Nat} {nw : List Pc} (p : Parts last laid pieces laid' j nw) {z : Pc} (hz : pieces[pieces.length - 1]? = some z) : nw = [] ∨ nw = [z] := by
  rcases p.kind with ⟨e, _⟩ | ⟨c, n, e, _⟩
  · exact .inl e
  · right
    have hl : pieces.length = (last.take j).length + 1 := by rw [p.peq, e, List.length_append]; rfl
    rw [hl, p.peq, e, Nat.add_sub_cancel, List.getElem?_append_right (Nat.le_refl _), Nat.sub_self] at hz
    rw [e, ← Option.some.inj hz]
theorem map_pc_inj : ∀ {a b : List Pc}, (∀ q ∈ a, 0 < q.2) → a.map pc = b.map pc → a = b
  | [], [], _, _ => rfl
  | [], _ :: _, _, h => by simp at h
  | _ :: _, [], _, h => by simp at h
  | x :: a, y :: b, hp, h => by
    rw [List.map_cons, List.map_cons, List.cons.injEq] at h
    rw [pc_inj (hp x (.head _)) h.1, map_pc_inj (fun q hq => hp q (.tail _ hq)) h.2]
theorem asc_pc {ps : List Pc} (h : ∀ q ∈ ps, q.1 ∈ Al) : ∀ x ∈ ps.map pc, Asc x := fun x hx => by
  obtain ⟨q, hq, rfl⟩ := List.mem_map.mp hx
  intro c hc
  unfold pc at hc
  rw [(List.mem_replicate.mp hc).2]
  have : ∀ c ∈ Al, c < 128 := by decide
  exact this _ (h q hq)
theorem hz_pt : ∀ (ps : List Pc), (txt ps).length ≤ 40 → (∀ q ∈ ps, 0 < q.2) → (∀ q ∈ ps.map pt, q.1.length ≤ 1000 ∧ q.2.length ≤ 1000) := fun ps h hp q hq => by
  obtain ⟨q0, h0, rfl⟩ := List.mem_map.mp hq
  have : (pc q0).length ≤ (txt ps).length := pc_le_txt h0
  have e : (pc q0).length = q0.2 := by simp [pc]
  refine ⟨by simp [pt], ?_⟩
  simp [pt]; omega
theorem turnB_ok {n : Nat} (fr : Fr C (lawNames P) P) (cok : CellsOk C (lawNames P)) (rm : Room C P (n + 4)) (pg : PgOk C.prog) (hbm : ((4 : Addr), Ob.prop IsBMod) ∈ C.old) {last laid pieces laid' : List Pc} {j : Nat} {nw : List Pc} (p : Parts last laid pieces laid' j nw) (f : Fit last laid) (h7 : pieces.length ≤ 7) (h40 : (txt pieces).length ≤ 40) (hll : laid.length ≤ 100)
    {bd : Nat} (hbd : bd ≤ 100) {x dx aL aP aD aW : Addr} {μc : Mem} (hL : (aL, Ob.lst (last.map spc)) ∈ μc) (hP : (aP, Ob.lst (pieces.map spc)) ∈ μc) {v0 v1 v2 v3 v4 v5 v7 v8 v10 v11 v12 v14 v22 v23 v24 v25 v26 v27 : Option V}
    {Ψ : Fl → List (Option V) → Mem → Prop} (hΨ : ∀ v19 v20 v21 v22 v23 v24 v25 v26 v27 : Option V, Ψ .next [v0, v1, v2, v3, v4, v5, some (.int bd), v7, v8, some (.str (S (txt pieces))), v10, v11, v12, some (.val (.ref aP)), v14, some (.val (.ref x)), some (.val (.ref aP)), some (.val (.ref aD)), some (.val (.ref aW)), v19, v20, v21, v22, v23, v24, v25, v26, v27]
      (accM x dx (pieces.map pt) ((aD, .lst (laid'.map spc)) :: (aW, .lst (laid'.map spc)) :: μc))) :
    EX C KS [v0, v1, v2, v3, v4, v5, some (.int bd), v7, v8, some (.str (S (txt pieces))), v10, v11, v12, some (.val (.ref aP)), v14, some (.val (.ref x)), some (.val (.ref aL)), some (.val (.ref aD)), some (.val (.ref aW)), some (.str (S (txt last))), some (.int ((txt (last.drop j)).length : Nat)), some (.int ((txt nw).length : Nat)), v22, v23, v24, v25, v26, v27]
      (accM x dx (pieces.map pt) ((aD, .lst (laid'.map spc)) :: (aW, .lst (laid.map spc)) :: μc)) ((forBody P).drop 3) Ψ := by
  unfold lawNames namesOf at fr cok
  dsimp only at fr cok
  have hpp : ∀ q ∈ pieces, 0 < q.2 := (p.fit f h7 h40).posL
  have strV : OPK C KS [v0, v1, v2, v3, v4, v5, some (.int bd), v7, v8, some (.str (S (txt pieces))), v10, v11, v12, some (.val (.ref aP)), v14, some (.val (.ref x)), some (.val (.ref aL)), some (.val (.ref aD)), some (.val (.ref aW)), some (.str (S (txt last))), some (.int ((txt (last.drop j)).length : Nat)), some (.int ((txt nw).length : Nat)), v22, v23, v24, v25, v26, v27]
      (accM x dx (pieces.map pt) ((aD, .lst (laid'.map spc)) :: (aW, .lst (laid.map spc)) :: μc)) (.type "str") [.val (.ref x)] (Is (.str (S (txt pieces))) (accM x dx (pieces.map pt) ((aD, .lst (laid'.map spc)) :: (aW, .lst (laid.map spc)) :: μc))) := by
    have := str_ok (C := C) (ks := KS) (l := [v0, v1, v2, v3, v4, v5, some (.int bd), v7, v8, some (.str (S (txt pieces))), v10, v11, v12, some (.val (.ref aP)), v14, some (.val (.ref x)), some (.val (.ref aL)), some (.val (.ref aD)), some (.val (.ref aW)), some (.str (S (txt last))), some (.int ((txt (last.drop j)).length : Nat)), some (.int ((txt nw).length : Nat)), v22, v23, v24, v25, v26, v27]) (μ := ((aD, .lst (laid'.map spc)) :: (aW, .lst (laid.map spc)) :: μc)) (n := n) (rm.less (by omega)) (x := x) (dx := dx) hbm (hz_pt pieces h40 hpp) (by rw [List.length_map]; omega)
    rw [textP_pt hpp] at this
    exact this
  -- the acc tells the path
  refine EX_cons (E1_if (TV_TE (b := (!decide (txt pieces = txt pieces)) || ((!decide ((((pieces.map pt).map pv).length : Int) = ((pieces.map spc).length : Int))) || false)) (TV_or (TV_cmp (EV_call (by walk_at "glob") (by walk_at "kp") (ES_consP (by walk_at "pv") (ES_nil strV) rfl) rfl rfl rfl) (by walk_at "pv") OPC_neSS rfl) fun _ =>
    TV_or (TV_cmp (EV_meth0 (EV_of (by walk_at "pv") ⟨_, GM_accF fr.k (.inl (.head _)) (.inl (.tail _ (.head _))) a_count a_fn112 (by decide), .inr (.inr (fr.k ▸ a_keep112)), count_ok (n := n) (rm.less (by omega)) pg (.inl (.head _)) (.inl (.tail _ (.head _)))⟩) rfl)
      (EV_call (by walk_at "glob") (by walk_at "kp") (ES_consP (by walk_at "pv") (ES_nil (OPK_lenL (.inl (.tail _ (.tail _ (.tail _ (.tail _ (.tail _ (.tail _ hP))))))) (by rw [List.length_map]; omega))) rfl) rfl rfl rfl) OPC_neI rfl) fun _ => TV_or0) ⟨fun h => ?_, fun _ => ?_⟩))
  · exfalso; simp at h
  refine EX_nil ?_
  -- as many signs went as are missing
  have hft := f.txt
  obtain ⟨cL, hcL⟩ := cok.look (Str.ofString "last") rfl
  have hLm : last.map spc = (last.map pc).map sv := by rw [List.map_map]; rfl
  generalize hM : accM x dx (pieces.map pt) ((aD, .lst (laid'.map spc)) :: (aW, .lst (laid.map spc)) :: μc) = M
  have hMc : ∀ q ∈ μc, q ∈ M := fun q h => by rw [← hM]; exact .tail _ (.tail _ (.tail _ (.tail _ (.tail _ (.tail _ h)))))
  refine EX_cons (E1_if (TE_cmp (EV_of (by walk_at "pv") (EV_binA (by walk_at "pv") (EV_call (by walk_at "glob") (by walk_at "kp") (ES_cons (EV_compF fr rm [("last", cL)] ["one", "last"] [none, some (.val (.ref aL))] _
    (EV_of (by walk_at "pv") ⟨_, _, _, fun i ys μ => ys = ((comL last (pieces.take i)).map fun n : Nat => (n : Int)).map V.int ∧ μ = M, src_list (ys := pieces.map spc) fr.ok (.inl (hMc _ hP)), ⟨rfl, rfl⟩, by rw [List.length_map]; omega, ?_, ?_⟩) ?_ (Inside.of fr ?_ ?_ ?_) rfl (by decide) rfl (by decide) (fun x => rfl)) rfl) rfl rfl rfl))) rfl))
  rotate_left 2
  · simp [closureFor, cellOf, hcL]
  · intro p hp
    rw [List.mem_singleton.mp hp]; exact hcL
  · show (["last"] : List Str).Nodup
    decide
  · intro x v h
    cases h with
    | tail h => cases h with
      | head => exact ⟨by walk_at "lk", rfl, rfl, cL, .head _, rfl⟩
      | tail h => cases h
  · rintro i ys μ hi ⟨rfl, rfl⟩
    rw [List.length_map] at hi
    refine ⟨fun q => .inl (.tail _ (hMc _ hP)), fun G fi rmG holdG => ?_⟩
    have hi' : pieces[i]? = some pieces[i] := List.getElem?_eq_getElem hi
    generalize hq : pieces[i] = q at hi'
    have hqm : q ∈ pieces := hq ▸ List.getElem_mem _
    have e : (pieces.map spc).getD i .none = .str (S (pc q)) := by rw [List.getD_eq_getElem?_getD, List.getElem?_map, hi']; rfl
    rw [e]
    refine AS_name fi.ok (by decide) (fi.sto rfl) (by walk_at "up") ?_
    refine TS_one (TV_TE (TV_cmp (va := sv (pc q)) (vb := .val (.ref aL)) (fi.name .head rfl) (fi.name (.tail .head) rfl) (OPC_in (x := pc q) (ys := last.map pc) (.inr (by rw [holdG, ← hLm]; exact List.mem_append_left _ (hMc _ hL)))) rfl) ?_)
    have e3 : pieces.take (i + 1) = pieces.take i ++ [q] := by rw [List.take_add_one, hi']; rfl
    have hqp := pc_le_txt hqm
    by_cases hb : pc q ∈ last.map pc
    · rw [decide_eq_true hb, if_pos rfl]
      have hb' := (pc_mem (hpp q hqm)).mp hb
      refine EV_call (by walk_at "glob") (by walk_at "kp") (ES_consP (by walk_at "pv") (ES_nil (OPK.mono (OPK_lenSS (by omega)) fun v μ' k => ?_)) rfl) rfl rfl rfl
      obtain ⟨rfl, rfl⟩ := k
      refine ⟨[], List.Sublist.refl _, ?_, rfl⟩
      rw [e3, comL_app, comL, comL, if_pos hb']
      simp
    · rw [decide_eq_false hb, if_neg (by simp)]
      have hb' : ¬ q ∈ last := fun h => hb ((pc_mem (hpp q hqm)).mpr h)
      refine ⟨[], List.Sublist.refl _, ?_, rfl⟩
      rw [e3, comL_app, comL, comL, if_neg hb']
      simp
  · rintro ys ν ⟨rfl, rfl⟩
    refine ⟨fun q => .inl (.tail _ (hMc _ hP)), fun Dr => ES_nil (OPK.mono (OPK_sumI fr.ok (.inl (.head _))) fun v μ' k => ?_)⟩
    obtain ⟨rfl, rfl⟩ := k
    refine OPB.mono OPB_subI fun v μ' k => ?_
    obtain ⟨rfl, rfl⟩ := k
    refine ⟨_, OPC_neI, fun h => ?_, fun _ => ?_⟩
    · exfalso
      rw [List.length_map, List.take_length, sum_cast, p.com f] at h
      have e := congrArg List.length p.before
      rw [List.length_append] at e
      simp at h
      omega
    · refine EX_nil (EX_drop (List.sublist_cons_self ..) ?_)
      subst hM
      -- the two ways of the order
      have hpl : nw = [] → pieces = last := fun e => by
        rcases p.kind with ⟨_, e2, _⟩ | ⟨c, n, e2, _⟩
        · rw [p.peq, e, e2, List.take_length, List.append_nil]
        · rw [e] at e2; cases e2
      have hlp : pieces = last → nw = [] := fun e => by
        by_cases h : nw = []
        · exact h
        · have := p.lt f h
          rw [e] at this
          exact absurd this (List.lt_irrefl _)
      have h1 : Str.ofString (toString (collL (txt last) (txt pieces))) = S (if nw = [] then [48] else [45, 49]) := by
        by_cases e : nw = []
        · rw [if_pos e, hpl e, collL_self]; decide
        · rw [if_neg e, (collL_lt (p.lt f e)).1]; decide
      have h2 : Str.ofString (toString (collL (txt pieces) (txt last))) = S (if nw = [] then [48] else [49]) := by
        by_cases e : nw = []
        · rw [if_pos e, hpl e, collL_self]; decide
        · rw [if_neg e, (collL_lt (p.lt f e)).2]; decide
      have hb1 : (collL (txt last) (txt pieces)).natAbs.log2 < 1920 := by
        by_cases e : nw = []
        · rw [hpl e, collL_self]; decide
        · rw [(collL_lt (p.lt f e)).1]; decide
      have hb2 : (collL (txt pieces) (txt last)).natAbs.log2 < 1920 := by
        by_cases e : nw = []
        · rw [hpl e, collL_self]; decide
        · rw [(collL_lt (p.lt f e)).2]; decide
      have hsd : (if nw = [] then [48] else [45, 49]) ++ (if nw = [] then [48] else [49]) = (if nw = [] then [48, 48] else [45, 49, 49]) := by split <;> rfl
      generalize hg1 : (if nw = [] then [48] else [45, 49]) = s1 at h1 hsd
      generalize hg2 : (if nw = [] then [48] else [49]) = s2 at h2 hsd
      have hl1 : s1.length ≤ 2 := by rw [← hg1]; split <;> decide
      have hl2 : s2.length ≤ 2 := by rw [← hg2]; split <;> decide
      refine EX_cons (E1_assignP fr.ok (by decide) (fr.sto rfl) (v := .str (S (if nw = [] then [48, 48] else [45, 49, 49]))) (hsd ▸ EV_bin (va := .str (S s1)) (vb := .str (S s2)) (EV_call (by walk_at "glob") (by walk_at "kp") (ES_consP (v := .int (collL (txt last) (txt pieces))) (EV_call (by walk_at "glob") (by walk_at "kp") (ES_consP (by walk_at "pv") (ES_consP (by walk_at "pv") (ES_nil (strcoll_ok (n := n) (rm.less (by omega)) _ _)) rfl) rfl) rfl rfl rfl) (ES_nil (h1 ▸ OPK_strI hb1)) rfl) rfl rfl rfl)
        (EV_call (by walk_at "glob") (by walk_at "kp") (ES_consP (v := .int (collL (txt pieces) (txt last))) (EV_call (by walk_at "glob") (by walk_at "kp") (ES_consP (by walk_at "pv") (ES_consP (by walk_at "pv") (ES_nil (strcoll_ok (n := n) (rm.less (by omega)) _ _)) rfl) rfl) rfl rfl rfl) (ES_nil (h2 ▸ OPK_strI hb2)) rfl) rfl rfl rfl) (OPB_addSS (by omega))) (by walk_at "up") ?_ rfl)
      have hPm : pieces.map spc = (pieces.map pc).map sv := by rw [List.map_map]; rfl
      have hDm : laid'.map spc = (laid'.map pc).map sv := by rw [List.map_map]; rfl
      have hWm : laid.map spc = (laid.map pc).map sv := by rw [List.map_map]; rfl
      have hMP : ∀ {q : Addr × Ob}, q ∈ μc → q ∈ accM x dx (pieces.map pt) ((aD, .lst (laid'.map spc)) :: (aW, .lst (laid.map spc)) :: μc) := fun h => .tail _ (.tail _ (.tail _ (.tail _ (.tail _ (.tail _ h)))))
      have hfp := p.fit f h7 h40
      have hPH : Has C (accM x dx (pieces.map pt) ((aD, .lst (laid'.map spc)) :: (aW, .lst (laid.map spc)) :: μc)) aP (.lst ((pieces.map pc).map sv)) := .inl (by rw [← hPm]; exact hMP hP)
      have hLH : Has C (accM x dx (pieces.map pt) ((aD, .lst (laid'.map spc)) :: (aW, .lst (laid.map spc)) :: μc)) aL (.lst ((last.map pc).map sv)) := .inl (by rw [← hLm]; exact hMP hL)
      refine EX_cons (E1_if (TV_TE (b := !decide ((if nw = [] then [48, 48] else [45, 49, 49]) = (if nw = [] then [48, 48] else [45, 49, 49]))) (TV_cmp (by walk_at "pv") (PV_if (c := decide (pieces.map pc = last.map pc)) (TV_cmp (va := .val (.ref aP)) (vb := .val (.ref aL)) (by walk_at "pv") (by walk_at "pv") (OPC_eqL fr.ok (asc_pc fun q h => hfp.al h) (asc_pc fun q h => f.al h) hPH hLH) rfl) (fun h => ?_) (fun h => ?_)) OPC_neSS rfl) ⟨fun h => ?_, fun _ => ?_⟩))
      · have e : nw = [] := hlp (map_pc_inj hpp (of_decide_eq_true h))
        rw [if_pos e]
        walk_at "pv"
      · have e : nw ≠ [] := fun e => by rw [hpl e] at h; simp at h
        rw [if_neg e]
        walk_at "pv"
      · exfalso; simp at h
      refine EX_nil ?_
      -- the price
      have hxl : (txt (last.drop j)).length ≤ 40 := by have e := congrArg List.length p.before; rw [List.length_append] at e; omega
      have hyl : (txt nw).length ≤ 40 := by have e := congrArg List.length p.name; rw [List.length_append] at e; omega
      refine EX_cons (E1_assignP fr.ok (by decide) (fr.sto rfl) (v := .int (2 * max (((txt (last.drop j)).length : Nat) : Int) ((txt nw).length : Nat))) (EV_bin (by walk_at "pv") (EV_call (by walk_at "glob") (by walk_at "kp") (ES_consP (by walk_at "pv") (ES_consP (by walk_at "pv") (ES_nil (OPK_max fr.ok)) rfl) rfl) rfl rfl rfl) (OPB_mulI (mulIntOk (by omega) (by omega)))) (by walk_at "up") ?_ rfl)
      have hlev : ∀ (m : Int), levL (txt (last.drop j)) (txt nw) m = if 0 < (txt (last.drop j)).length ∧ 0 < (txt nw).length then min (2 * max (((txt (last.drop j)).length : Nat) : Int) ((txt nw).length : Nat)) (m + 1) else 2 * max (((txt (last.drop j)).length : Nat) : Int) ((txt nw).length : Nat) := by
        intro m
        unfold levL
        by_cases h1 : txt (last.drop j) = []
        · rw [if_pos (.inl h1), if_neg (by rw [h1]; simp), h1]
          simp only [List.length_nil]
          omega
        · by_cases h2 : txt nw = []
          · rw [if_pos (.inr h2), if_neg (by rw [h2]; simp), h2]
            simp only [List.length_nil]
            omega
          · rw [if_neg (by simp [h1, h2]), if_pos ⟨List.length_pos_iff.mpr h1, List.length_pos_iff.mpr h2⟩]
      refine EX_cut (fun l' μ' => l' = [v0, v1, v2, v3, v4, v5, some (.int bd), v7, v8, some (.str (S (txt pieces))), v10, v11, v12, some (.val (.ref aP)), v14, some (.val (.ref x)), some (.val (.ref aL)), some (.val (.ref aD)), some (.val (.ref aW)), some (.str (S (txt last))), some (.int ((txt (last.drop j)).length : Nat)), some (.int ((txt nw).length : Nat)), v22, v23, v24, v25, some (.str (S (if nw = [] then [48, 48] else [45, 49, 49]))), some (.int (levL (txt (last.drop j)) (txt nw) bd))] ∧
        μ' = accM x dx (pieces.map pt) ((aD, .lst (laid'.map spc)) :: (aW, .lst (laid.map spc)) :: μc)) ?_ ?_
      · refine E1_if (TV_TE (b := decide (((0 : Int) < (((txt (last.drop j)).length : Nat) : Int))) && (decide ((0 : Int) < (((txt nw).length : Nat) : Int)) && true)) (TV_and (TV_cmp (by walk_at "pv") (by walk_at "pv") OPC_gtI rfl) fun _ => TV_and (TV_cmp (by walk_at "pv") (by walk_at "pv") OPC_gtI rfl) fun _ => TV_and0) ⟨fun h => ?_, fun h => ?_⟩)
        · rw [Bool.and_true, Bool.and_eq_true, decide_eq_true_eq, decide_eq_true_eq] at h
          refine EX_cons (E1_assignP fr.ok (by decide) (fr.sto rfl) (v := .int (min (2 * max (((txt (last.drop j)).length : Nat) : Int) ((txt nw).length : Nat)) ((bd : Int) + 1))) (EV_call (by walk_at "glob") (by walk_at "kp") (ES_consP (by walk_at "pv") (ES_consP (by walk_at "pv") (ES_nil (OPK_min fr.ok)) rfl) rfl) rfl rfl rfl) (by walk_at "up") ?_ rfl)
          refine EX_nil ⟨rfl, ?_, rfl⟩
          rw [hlev, if_pos (show 0 < (txt (last.drop j)).length ∧ 0 < (txt nw).length from ⟨by omega, by omega⟩)]
        · refine EX_nil ⟨rfl, ?_, rfl⟩
          rw [hlev, if_neg (fun hh : 0 < (txt (last.drop j)).length ∧ 0 < (txt nw).length => by
            rw [decide_eq_true (show (0 : Int) < (((txt (last.drop j)).length : Nat) : Int) by omega), decide_eq_true (show (0 : Int) < (((txt nw).length : Nat) : Int) by omega)] at h
            cases h)]
      · rintro l' μ' ⟨rfl, rfl⟩
        refine EX_cons (E1_if (TV_TE (b := !decide (levL (txt (last.drop j)) (txt nw) bd = levL (txt (last.drop j)) (txt nw) bd)) (TV_cmp (EV_call (by walk_at "glob") (by walk_at "kp") (ES_consP (v := .str (S (txt (last.take j) ++ txt (last.drop j)))) (by rw [← p.before]; walk_at "pv") (ES_consP (v := .str (S (txt (last.take j) ++ txt nw))) (by rw [← p.name]; walk_at "pv") (ES_consP (by walk_at "pv")
          (ES_nil (lev_ok (n := n + 2) rm _ _ _ (by have e := congrArg List.length p.before; rw [List.length_append] at e; omega) (by have e := congrArg List.length p.name; rw [List.length_append] at e; omega) (p.apart f) (p.xA f).1 (p.xA f).2 bd hbd)) rfl) rfl) rfl) rfl rfl rfl) (by walk_at "pv") OPC_neI rfl) ⟨fun h => ?_, fun _ => ?_⟩))
        · exfalso; simp at h
        refine EX_nil ?_
        -- what is new
        have hpn : pieces ≠ [] := by
          rcases p.kind with ⟨e, _, e2⟩ | ⟨c, n, e, _⟩
          · rw [hpl e]; exact e2
          · rw [p.peq, e]; simp
        have hpl0 : 0 < pieces.length := List.length_pos_iff.mpr hpn
        obtain ⟨z, hz⟩ : ∃ z, pieces[pieces.length - 1]? = some z := ⟨_, List.getElem?_eq_getElem (by omega)⟩
        have hzm : z ∈ pieces := List.mem_of_getElem? hz
        have hzi : (pieces.map spc)[((-1 : Int) + ((pieces.map spc).length : Nat)).toNat]? = some (spc z) := by
          rw [List.length_map, show ((-1 : Int) + (pieces.length : Nat)).toNat = pieces.length - 1 by omega, List.getElem?_map, hz]; rfl
        have hPS : Has C (accM x dx (pieces.map pt) ((aD, .lst (laid'.map spc)) :: (aW, .lst (laid.map spc)) :: μc)) aP (.lst (pieces.map spc)) := .inl (hMP hP)
        have hWH : Has C (accM x dx (pieces.map pt) ((aD, .lst (laid'.map spc)) :: (aW, .lst (laid.map spc)) :: μc)) aW (.lst ((laid.map pc).map sv)) := .inl (by rw [← hWm]; exact .tail _ (.tail _ (.tail _ (.tail _ (.tail _ (.head _))))))
        refine EX_cut (fun l' μ' => l' = [v0, v1, v2, v3, v4, v5, some (.int bd), v7, v8, some (.str (S (txt pieces))), v10, v11, v12, some (.val (.ref aP)), v14, some (.val (.ref x)), some (.val (.ref aL)), some (.val (.ref aD)), some (.val (.ref aW)), some (.str (S (txt last))), some (.int ((txt (last.drop j)).length : Nat)), some (.int ((txt nw).length : Nat)), v22, v23, v24, v25, some (.str (S (if nw = [] then [48, 48] else [45, 49, 49]))), some (.int (levL (txt (last.drop j)) (txt nw) bd))] ∧
          μ' = accM x dx (pieces.map pt) ((aD, .lst (laid'.map spc)) :: (aW, .lst (laid'.map spc)) :: μc)) ?_ ?_
        · refine E1_if (TV_TE (b := !decide (pc z ∈ laid.map pc)) (TV_cmp (va := sv (pc z)) (vb := .val (.ref aW)) (PV_itemLneg (i := -1) (by walk_at "pv") (by walk_at "pv") hPS (by decide) (by rw [List.length_map]; omega) hzi (by rw [List.length_map]; omega) trivial) (by walk_at "pv") (OPC_notIn hWH) rfl) ⟨fun h => ?_, fun h => ?_⟩)
          · have hni : z ∉ laid := fun hh => by rw [decide_eq_true ((pc_mem (hpp z hzm)).mpr hh)] at h; cases h
            have hnz : nw = [z] := by
              rcases p.lastz hz with e | e
              · exact absurd (f.sub z (hpl e ▸ hzm)) hni
              · exact e
            refine EX_cons (E1_expr (EV_meth (EV_of (by walk_at "pv") ⟨_, GM_append (.inl (.tail _ (.tail _ (.tail _ (.tail _ (.tail _ (.head _))))))), kb, ES_consP (v := spc z) (PV_itemLneg (i := -1) (by walk_at "pv") (by walk_at "pv") hPS (by decide) (by rw [List.length_map]; omega) hzi (by rw [List.length_map]; omega) trivial) (ES_nil (OPK_append (.tail (.tail (.tail (.tail (.tail .head))))) (by rw [List.length_map]; omega) ?_)) rfl⟩) rfl rfl rfl) fr.inter rfl)
            refine EX_nil ⟨rfl, rfl, ?_⟩
            have e2 : laid.map spc ++ [spc z] = laid'.map spc := by rw [p.leq, hnz, List.map_append]; rfl
            rw [e2]
          · have hi : z ∈ laid := by
              have : decide (pc z ∈ laid.map pc) = true := by simpa using h
              exact (pc_mem (hpp z hzm)).mp (of_decide_eq_true this)
            have hnw : nw = [] := by
              rcases p.kind with ⟨e, _⟩ | ⟨c, n, e, h1, h2, h3, _⟩
              · exact e
              · exfalso
                rcases p.lastz hz with e2 | e2
                · rw [e] at e2; cases e2
                · rw [e] at e2
                  have := List.singleton_inj.mp e2
                  exact h3 z hi (by rw [← this])
            refine EX_nil ⟨rfl, rfl, ?_⟩
            have e2 : laid' = laid := by rw [p.leq, hnw, List.append_nil]
            rw [e2]
        · rintro l' μ' ⟨rfl, rfl⟩
          refine EX_cons (E1_assignP fr.ok (by decide) (fr.stoC cok rfl rfl) (by walk_at "pv") (by walk_at "up") ?_ rfl)
          exact EX_nil (hΨ _ _ _ _ _ _ _ _ _)
end
-- F16
/-! one turn: the first part -/
section
variable {C : Cx} {P : Params} {ks : List Str} {l l' : List (Option V)} {μ μ' : Mem} {h₀ : Heap} {s : Shared} {names : List (Str × NameKind)}
theorem turn_ok {n : Nat} (fr : Fr C (lawNames P) P) (cok : CellsOk C (lawNames P)) (rm : Room C P (n + 4)) (pg : PgOk C.prog) (hbm : ((4 : Addr), Ob.prop IsBMod) ∈ C.old) {last laid pieces laid' : List Pc} (sp : StepP last laid pieces laid') (f : Fit last laid) (h7 : pieces.length ≤ 7) (h40 : (txt pieces).length ≤ 40) (hll : laid.length ≤ 100)
    {bd : Nat} (hbd : bd ≤ 100) {x dx aL aP aD aW : Addr} {μc : Mem} (hL : (aL, Ob.lst (last.map spc)) ∈ μc) (hP : (aP, Ob.lst (pieces.map spc)) ∈ μc) {v0 v1 v2 v3 v4 v5 v7 v8 v10 v11 v12 v14 v19 v20 v21 v22 v23 v24 v25 v26 v27 : Option V}
    {Ψ : Fl → List (Option V) → Mem → Prop} (hΨ : ∀ v19 v20 v21 v22 v23 v24 v25 v26 v27 : Option V, Ψ .next [v0, v1, v2, v3, v4, v5, some (.int bd), v7, v8, some (.str (S (txt pieces))), v10, v11, v12, some (.val (.ref aP)), v14, some (.val (.ref x)), some (.val (.ref aP)), some (.val (.ref aD)), some (.val (.ref aW)), v19, v20, v21, v22, v23, v24, v25, v26, v27]
      (accM x dx (pieces.map pt) ((aD, .lst (laid'.map spc)) :: (aW, .lst (laid'.map spc)) :: μc))) :
    EX C KS [v0, v1, v2, v3, v4, v5, some (.int bd), v7, v8, some (.str (S (txt pieces))), v10, v11, v12, some (.val (.ref aP)), v14, some (.val (.ref x)), some (.val (.ref aL)), some (.val (.ref aD)), some (.val (.ref aW)), v19, v20, v21, v22, v23, v24, v25, v26, v27]
      (accM x dx (last.map pt) ((aD, .lst (laid.map spc)) :: (aW, .lst (laid.map spc)) :: μc)) (forBody P) Ψ := by
  unfold lawNames namesOf at fr cok
  obtain ⟨j, nw, p⟩ := sp.parts
  have hz : ∀ (ps : List Pc), (txt ps).length ≤ 40 → (∀ q ∈ ps, 0 < q.2) → (∀ q ∈ ps.map pt, q.1.length ≤ 1000 ∧ q.2.length ≤ 1000) := fun ps h hp q hq => by
    obtain ⟨q0, h0, rfl⟩ := List.mem_map.mp hq
    have : (pc q0).length ≤ (txt ps).length := pc_le_txt h0
    have e : (pc q0).length = q0.2 := by simp [pc]
    refine ⟨by simp [pt], ?_⟩
    simp [pt]; omega
  have strV : ∀ {l : List (Option V)} {μ : Mem} {ps : List Pc}, (txt ps).length ≤ 40 → (∀ q ∈ ps, 0 < q.2) → ps.length ≤ 100 → OPK C KS l (accM x dx (ps.map pt) μ) (.type "str") [.val (.ref x)] (Is (.str (S (txt ps))) (accM x dx (ps.map pt) μ)) := fun {l μ ps} h1 h2 h3 => by
    have := str_ok (ks := KS) (l := l) (μ := μ) (n := n) (rm.less (by omega)) (x := x) (dx := dx) hbm (hz ps h1 h2) (by rw [List.length_map]; omega)
    rw [textP_pt h2] at this
    exact this
  have lenV : ∀ {l : List (Option V)} {μ : Mem} {ps : List Pc}, (txt ps).length ≤ 40 → (∀ q ∈ ps, 0 < q.2) → ps.length ≤ 100 → OPK C KS l (accM x dx (ps.map pt) μ) (.builtin "len") [.val (.ref x)] (Is (.int ((txt ps).length : Nat)) (accM x dx (ps.map pt) μ)) := fun {l μ ps} h1 h2 h3 => by
    have := len_ok (ks := KS) (l := l) (μ := μ) (n := n) (rm.less (by omega)) (x := x) (dx := dx) hbm (hz ps h1 h2) (by rw [List.length_map]; omega)
    rw [totalP_pt h2] at this
    exact this
  have hpp : ∀ q ∈ pieces, 0 < q.2 := (p.fit f h7 h40).posL
  have htk : ∀ k, (txt (last.take k)).length ≤ 40 := fun k => by
    have : (txt last).length = (txt (last.take k)).length + (txt (last.drop k)).length := by rw [← List.length_append, ← txt_app, List.take_append_drop]
    have := f.txt
    omega
  have hps : ∀ k, ∀ q ∈ last.take k, 0 < q.2 := fun k q h => f.posL q (List.mem_of_mem_take h)
  -- before, up, down
  refine EX_cons (E1_tupleS fr.ok (by decide) (names := ["before", "up", "down"]) (EV_tuple (ES_consP (v := .str (S (txt last))) (EV_call (by walk_at "glob") (by walk_at "kp") (ES_consP (by walk_at "pv") (ES_nil (strV f.txt f.posL (by have := f.len; omega))) rfl) rfl rfl rfl) (ES_consP (by walk_at "pv") (ES_consP (by walk_at "pv") (ES_nil ⟨by simp, _, rfl, rfl, _, Ups.cons (by walk_at "up") (Ups.cons (by walk_at "up") (Ups.cons (by walk_at "up") .nil)), ?_⟩) rfl) rfl) rfl))
    (by intro z hz; rcases List.mem_cons.mp hz with rfl | hz; exact fr.sto rfl; rcases List.mem_cons.mp hz with rfl | hz; exact fr.sto rfl; rw [List.mem_singleton.mp hz]; exact fr.sto rfl) rfl (swaps_three fr rfl rfl rfl rfl rfl rfl rfl rfl))
  -- what is no beginning goes
  refine EX_cons (E1_while (fun m l μ => ∃ v22 v23 : Option V, l = [v0, v1, v2, v3, v4, v5, some (.int bd), v7, v8, some (.str (S (txt pieces))), v10, v11, v12, some (.val (.ref aP)), v14, some (.val (.ref x)), some (.val (.ref aL)), some (.val (.ref aD)), some (.val (.ref aW)), some (.str (S (txt last))), some (.int ((txt (last.drop (j + m))).length : Nat)), some (.int 0), v22, v23, v24, v25, v26, v27] ∧
    μ = accM x dx ((last.take (j + m)).map pt) ((aD, .lst (laid.map spc)) :: (aW, .lst (laid.map spc)) :: μc) ∧ j + m ≤ last.length) (last.length - j) ⟨v22, v23, ?_, ?_, ?_⟩ ?_)
  · rw [show j + (last.length - j) = last.length by have := p.jl; omega, List.drop_length]
    rfl
  · rw [show j + (last.length - j) = last.length by have := p.jl; omega, List.take_length]
  · have := p.jl; omega
  · rintro m l μ ⟨v22, v23, rfl, rfl, hm⟩
    have hmem : (last.take (j + m)).length ≤ 100 := by rw [List.length_take]; have := f.len; omega
    refine TV_TE (b := !(txt (last.take (j + m))).isPrefixOf (txt pieces)) (TV_not (TV_bool ?_ (fun _ => rfl))) ⟨fun h => ?_, fun h => ?_⟩
    · rw [← startswith_S]
      exact EV_meth (EV_of (by walk_at "pv") ⟨_, GM_startswith, kb, ES_consP (EV_call (by walk_at "glob") (by walk_at "kp") (ES_consP (by walk_at "pv") (ES_nil (strV (htk _) (hps _) hmem)) rfl) rfl rfl rfl) (ES_nil OPK_startswith) rfl⟩) rfl rfl rfl
    · obtain ⟨m, rfl⟩ : ∃ m', m = m' + 1 := by
        cases m with
        | zero => rw [Nat.add_zero, is_prefix p] at h; cases h
        | succ m => exact ⟨m, rfl⟩
      have hj' : last[j + m]? = some last[j + m] := List.getElem?_eq_getElem (by omega)
      generalize hq : last[j + m] = q at hj'
      have hqm : q ∈ last := hq ▸ List.getElem_mem _
      have e1 : (last.take (j + (m + 1))).map pt = (last.take (j + m)).map pt ++ [pt q] := by
        rw [← Nat.add_assoc, List.take_add_one, hj', List.map_append]; rfl
      have e2 : (txt (last.drop (j + m))).length = (txt (last.drop (j + (m + 1)))).length + (pc q).length := by
        rw [List.drop_eq_getElem_cons (by omega), hq, txt_cons, List.length_append, ← Nat.add_assoc, Nat.add_comm]
      have e3 : [q.1] ++ List.replicate (q.2 - 1) q.1 = pc q := glue_pt (f.posL q hqm)
      have hpl := pc_le_txt hqm
      have ht := f.txt
      have e4 : (List.replicate (q.2 - 1) q.1).length + 1 = (pc q).length := by rw [← e3]; simp
      rw [e1]
      refine EX_cons (E1_tuple (EV_meth0 (EV_of (by walk_at "pv") ⟨_, GM_accF fr.k (.inl (.head _)) (.inl (.tail _ (.head _))) a_pop a_fn75 (by decide), .inr (.inr (fr.k ▸ a_keep75)), pop_ok (n := n + 2) rm pg (by rw [List.length_map, List.length_take]; have := f.len; omega)
        (AS_tup2 fr.ok (by decide) (fr.sto rfl) (fr.sto rfl) (by walk_at "up") (by walk_at "up") ?_)⟩) rfl) rfl rfl)
      refine EX_cons (E1_augI fr.ok (by decide) (fr.sto rfl) (i := ((txt (last.drop (j + (m + 1)))).length : Nat)) (j := ((pc q).length : Nat)) (r := ((txt (last.drop (j + m))).length : Nat)) (by walk_at "lk") (EV_call (by walk_at "glob") (by walk_at "kp") (ES_consP (v := .str (S (pc q))) ?_ (ES_nil ?_) rfl) rfl rfl rfl) (.inl ⟨rfl, by rw [e2]; omega⟩))
      · rw [← e3]
        exact EV_bin (by walk_at "pv") (by walk_at "pv") (OPB_addSS (by simp only [List.length_singleton]; omega))
      · refine OPK.mono (OPK_lenSS (by omega)) fun v μ' k => ?_
        obtain ⟨rfl, rfl⟩ := k
        exact ⟨rfl, _, by walk_at "up", EX_nil ⟨m, by omega, _, _, rfl, rfl, by omega⟩⟩
    · obtain rfl : m = 0 := by
        cases m with
        | zero => rfl
        | succ m => rw [not_prefix f p (k := j + (m + 1)) (by omega) hm] at h; cases h
      rw [Nat.add_zero]
      -- what comes is laid
      have hnw0 : (txt pieces).length = (txt (last.take j)).length + (txt nw).length := by rw [p.name, List.length_append]
      refine EX_cons (E1_while (fun m l μ => ∃ v22 v23 v24 v25 : Option V, l = [v0, v1, v2, v3, v4, v5, some (.int bd), v7, v8, some (.str (S (txt pieces))), v10, v11, v12, some (.val (.ref aP)), v14, some (.val (.ref x)), some (.val (.ref aL)), some (.val (.ref aD)), some (.val (.ref aW)), some (.str (S (txt last))), some (.int ((txt (last.drop j)).length : Nat)), some (.int (if m = 0 then (((txt nw).length : Nat) : Int) else 0)), v22, v23, v24, v25, v26, v27] ∧
        ((m = 1 ∧ nw ≠ [] ∧ μ = accM x dx ((last.take j).map pt) ((aD, .lst (laid.map spc)) :: (aW, .lst (laid.map spc)) :: μc)) ∨ (m = 0 ∧ μ = accM x dx (pieces.map pt) ((aD, .lst (laid'.map spc)) :: (aW, .lst (laid.map spc)) :: μc)))) (if nw = [] then 0 else 1) ⟨v22, v23, v24, v25, ?_, ?_⟩ ?_)
      · by_cases hn : nw = []
        · subst hn; rfl
        · rw [if_neg hn]; rfl
      · by_cases hn : nw = []
        · right
          rw [if_pos hn]
          refine ⟨rfl, ?_⟩
          have e1 : pieces = last.take j := by rw [p.peq, hn, List.append_nil]
          have e2 : laid' = laid := by rw [p.leq, hn, List.append_nil]
          rw [e1, e2]
        · left
          rw [if_neg hn]
          exact ⟨rfl, hn, rfl⟩
      · rintro m l μ ⟨v22, v23, v24, v25, rfl, hm⟩
        rcases hm with ⟨rfl, hn, rfl⟩ | ⟨rfl, rfl⟩
        · obtain ⟨c, n0, rfl, hn0, hcA, hcl, hclt⟩ : ∃ c n, nw = [(c, n)] ∧ 0 < n ∧ c ∈ Al ∧ (∀ q ∈ laid, q.1 ≠ c) ∧ (∀ q, last[j]? = some q → q.1 < c) := by
            rcases p.kind with ⟨e, _⟩ | h
            · exact absurd e hn
            · exact h
          rw [txt_one] at hnw0
          have hpc : (pc (c, n0)).length = n0 := by simp [pc]
          have hdrop : (txt pieces).drop (txt (last.take j)).length = pc (c, n0) := by rw [p.name, txt_one, List.drop_left]
          have hc0 : (pc (c, n0))[0]? = some c := by unfold pc; rw [List.getElem?_replicate, if_pos hn0]
          have hsp : pc (c, n0) = c :: List.replicate (n0 - 1) c := by
            obtain ⟨k, rfl⟩ : ∃ k, n0 = k + 1 := ⟨n0 - 1, by omega⟩
            simp [pc, List.replicate_succ]
          refine TV_TE (b := decide ((((txt (last.take j)).length : Nat) : Int) < ((txt pieces).length : Nat))) (TV_cmp (EV_call (by walk_at "glob") (by walk_at "kp") (ES_consP (by walk_at "pv") (ES_nil (lenV (htk _) (hps _) (by rw [List.length_take]; have := f.len; omega))) rfl) rfl rfl rfl) (by walk_at "pv") OPC_ltI rfl) ⟨fun h => ?_, fun h => ?_⟩
          · refine EX_cons (E1_assignP fr.ok (by decide) (fr.sto rfl) (PV_sliceS (y := S (pc (c, n0))) (by walk_at "pv") (PPart_int (EV_call (by walk_at "glob") (by walk_at "kp") (ES_consP (by walk_at "pv") (ES_nil (lenV (htk _) (hps _) (by rw [List.length_take]; have := f.len; omega))) rfl) rfl rfl rfl)) PPart_none (by rw [slice_from (by omega)]; congr 1) (by omega)) (by walk_at "up") ?_ rfl)
            refine EX_cons (E1_assignP fr.ok (by decide) (fr.sto rfl) (PV_sliceS (y := S (pc (c, n0))) (i := none) (j := some ((n0 : Nat) : Int)) (by walk_at "pv") PPart_none (PPart_int ?_) (by rw [slice_to (by omega)]; congr 1; rw [List.take_of_length_le (by rw [hpc]; omega)]) (by omega)) (by walk_at "up") ?_ rfl)
            · have e0 : ((n0 : Nat) : Int) = (((pc (c, n0)).length : Nat) : Int) - ((([] : List Nat).length : Nat) : Int) := by rw [hpc]; simp
              rw [e0]
              refine EV_bin (by walk_at "pv") (EV_call (by walk_at "glob") (by walk_at "kp") (ES_consP (v := .str (S [])) ?_ (ES_nil (OPK_lenSS (by decide))) rfl) rfl rfl rfl) OPB_subI
              refine EV_meth (EV_of (by walk_at "pv") ⟨_, GM_lstrip, kb, ES_consP (v := .str (S [c])) (PV_itemS (c := c) (i := 0) (by walk_at "pv") (by walk_at "pv") (by omega) (by rw [if_neg (by omega)]; exact hc0) (by omega) trivial) (ES_nil ?_) rfl⟩) rfl rfl rfl
              have := OPK_lstrip (C := C) (ks := KS) (l := [v0, v1, v2, v3, v4, v5, some (.int bd), v7, v8, some (.str (S (txt pieces))), v10, v11, v12, some (.val (.ref aP)), v14, some (.val (.ref x)), some (.val (.ref aL)), some (.val (.ref aD)), some (.val (.ref aW)), some (.str (S (txt last))), some (.int ((txt (last.drop j)).length : Nat)), some (.int (if 1 = 0 then (((txt [(c, n0)]).length : Nat) : Int) else 0)), v22, v23, some (.str (S (pc (c, n0)))), v25, v26, v27]) (μ := accM x dx ((last.take j).map pt) ((aD, .lst (laid.map spc)) :: (aW, .lst (laid.map spc)) :: μc)) (x := S (pc (c, n0))) (y := S [c]) (by rw [S_len, hpc]; omega)
              rw [lstrip_S, show (pc (c, n0)).dropWhile (· == c) = [] by unfold pc; simp] at this
              exact this
            refine EX_cons (E1_expr (EV_meth (EV_of (by walk_at "pv") ⟨_, GM_accF fr.k (.inl (.head _)) (.inl (.tail _ (.head _))) a_push a_fn59 (by decide), .inr (.inr (fr.k ▸ a_keep59)), ES_consP (v := .str (S [c])) (PV_itemS (c := c) (i := 0) (by walk_at "pv") (by walk_at "pv") (by omega) (by rw [if_neg (by omega)]; exact hc0) (by omega) trivial)
              (ES_consP (v := .str (S (List.replicate (n0 - 1) c))) (PV_sliceS (y := S (List.replicate (n0 - 1) c)) (by walk_at "pv") (PPart_int (by walk_at "pv")) PPart_none (by rw [slice_from (by omega)]; congr 1; rw [hsp]; rfl) (by omega)) (ES_nil (push_ok (n := n) (rm.less (by omega)) (by rw [List.length_map, List.length_take]; have := f.len; omega) ?_)) rfl) rfl⟩) rfl rfl rfl) fr.inter rfl)
            have e1 : (last.take j).map pt ++ [([c], List.replicate (n0 - 1) c)] = pieces.map pt := by rw [p.peq, List.map_append]; rfl
            rw [e1]
            refine EX_cons (E1_expr (EV_meth (EV_of (by walk_at "pv") ⟨_, GM_append (.inl (.tail _ (.tail _ (.tail _ (.tail _ (.head _)))))), kb, ES_consP (v := spc (c, n0)) (by unfold spc; walk_at "pv") (ES_nil (OPK_append (.tail (.tail (.tail (.tail .head)))) (by rw [List.length_map]; omega) ?_)) rfl⟩) rfl rfl rfl) fr.inter rfl)
            have e2 : laid.map spc ++ [spc (c, n0)] = laid'.map spc := by rw [p.leq, List.map_append]; rfl
            rw [e2]
            refine EX_cons (E1_augI fr.ok (by decide) (fr.sto rfl) (i := 0) (j := ((pc (c, n0)).length : Nat)) (r := (((txt [(c, n0)]).length : Nat) : Int)) (by rw [if_neg (by decide)]; walk_at "lk") (EV_call (by walk_at "glob") (by walk_at "kp") (ES_consP (by walk_at "pv") (ES_nil (OPK.mono (OPK_lenSS (by omega)) fun v μ' k => ?_)) rfl) rfl rfl rfl) (.inl ⟨rfl, by rw [txt_one]; omega⟩))
            obtain ⟨rfl, rfl⟩ := k
            exact ⟨rfl, _, by walk_at "up", EX_nil ⟨0, by omega, _, _, _, _, rfl, .inr ⟨rfl, rfl⟩⟩⟩
          · exfalso; simp at h; omega
        · rw [if_pos rfl]
          refine TV_TE (b := decide ((((txt pieces).length : Nat) : Int) < ((txt pieces).length : Nat))) (TV_cmp (EV_call (by walk_at "glob") (by walk_at "kp") (ES_consP (by walk_at "pv") (ES_nil (lenV h40 hpp (by omega))) rfl) rfl rfl rfl) (by walk_at "pv") OPC_ltI rfl) ⟨fun h => ?_, fun _ => ?_⟩
          · exfalso; simp at h
          exact turnB_ok fr cok rm pg hbm p f h7 h40 hll hbd hL hP hΨ
end
-- F17
/-! law: the last loop -/
inductive WalkP : List Pc → List Pc → List (List Pc) → Prop
  | nil {last laid : List Pc} : WalkP last laid []
  | cons {last laid pieces laid' : List Pc} {rest : List (List Pc)} : StepP last laid pieces laid' → pieces.length ≤ 7 → (txt pieces).length ≤ 40 → WalkP pieces laid' rest → WalkP last laid (pieces :: rest)
theorem StepP.grow {last laid pieces laid' : List Pc} (s : StepP last laid pieces laid') : laid'.length ≤ laid.length + 1 := by
  cases s with
  | same => omega
  | next => simp
theorem fit_nil : Fit [] [] := ⟨by simp, by simp, by simp, by simp, by simp [Mine.txt]⟩
noncomputable def rv (a : Addr) : V := .val (.ref a)
noncomputable def tv (ps : List Pc) : V := .str (S (txt ps))
section
variable {C : Cx} {P : Params} {ks : List Str} {l l' : List (Option V)} {μ μ' : Mem} {h₀ : Heap} {s : Shared} {names : List (Str × NameKind)}
theorem lawD_ok {n : Nat} (fr : Fr C (lawNames P) P) (cok : CellsOk C (lawNames P)) (rm : Room C P (n + 4)) (pg : PgOk C.prog) (hbm : ((4 : Addr), Ob.prop IsBMod) ∈ C.old) {D : List (List Pc)} (hw : WalkP [] [] D) (hD : D.length ≤ 6) {bd : Nat} (hbd : bd ≤ 100) {aDue aR : Addr} {as : List Addr} {μ1 : Mem} (has : as.length = D.length)
    (hDue : (aDue, Ob.lst (as.map rv)) ∈ μ1) (hR : (aR, Ob.lst (D.map tv)) ∈ μ1) (hEach : ∀ (i : Nat) (a : Addr) (ps : List Pc), as[i]? = some a → D[i]? = some ps → (a, Ob.lst (ps.map spc)) ∈ μ1) {v0 v1 v2 v3 v4 v5 v7 v8 v9 v10 v11 v13 : Option V}
    {Ψ : Fl → List (Option V) → Mem → Prop} (hΨ : ∀ l' μ', List.Sublist [((77 : Addr), Ob.prop IsTab), ((84 : Addr), Ob.prop IsTab)] μ' → Ψ (.ret (.bool true)) l' μ') :
    EX C KS [v0, v1, v2, v3, v4, v5, some (.int bd), v7, v8, v9, v10, v11, some (.val (.ref aDue)), v13, some (.val (.ref aR)), none, none, none, none, none, none, none, none, none, none, none, none, none] ((77, .prop IsTab) :: (84, .prop IsTab) :: μ1) ((lawBody P).drop 14) Ψ := by
  have fr0 := fr
  have cok0 := cok
  unfold lawNames namesOf at fr cok
  dsimp only at fr cok
  refine EX_cons (E1_assign fr.ok (by decide) (fr.sto rfl) (EV_call0 (by walk_at "glob") (by walk_at "kp") (make_ok (n := n) (rm.less (by omega)) pg fun x dx => ⟨_, by walk_at "up", ?_⟩) rfl) rfl)
  refine EX_cons (E1_tuple (EV_tuple (ES_cons (EV_list (ES_nil ⟨by decide, fun aL => ES_cons (EV_list (ES_nil ⟨by decide, fun aD => ES_cons (EV_list (ES_nil ⟨by decide, fun aW => ES_nil ⟨by simp, AS_tup3 fr.ok (by decide) (fr.stoC cok rfl rfl) (fr.sto rfl) (fr.sto rfl) (by walk_at "up") (by walk_at "up") (by walk_at "up") ?_⟩⟩)) rfl⟩)) rfl⟩)) rfl)) rfl (by
    unfold swappedStores
    have h1 : C.env.blockKind = .function := by unfold Env.blockKind; rw [fr.ok.fn]; rfl
    have k1 : C.env.kindOf (Str.ofString "last") = some .cell := fr.kind rfl
    have k2 : C.env.kindOf (Str.ofString "laid") = some .local := fr.kind rfl
    have k3 : C.env.kindOf (Str.ofString "ways") = some .local := fr.kind rfl
    simp [h1, k1, k2, k3, pos_name, pos_const, pos_call, pos_list, pos_tuple]))
  have pm : List.Perm (accM x dx ([].map pt) ((aD, Ob.lst ([].map spc)) :: (aW, Ob.lst ([].map spc)) :: (aL, Ob.lst []) :: μ1)) ((aW, Ob.lst []) :: (aD, Ob.lst []) :: (aL, Ob.lst []) :: accM x dx [] μ1) := by
    have h1 : List.Perm ([(x, Ob.acc 115 dx []), (dx, .prop IniD), (77, .prop IsTab), (84, .prop IsTab)] ++ [(aD, Ob.lst []), (aW, Ob.lst []), (aL, Ob.lst [])]) ([(aW, Ob.lst []), (aD, Ob.lst []), (aL, Ob.lst [])] ++ [(x, Ob.acc 115 dx []), (dx, .prop IniD), (77, .prop IsTab), (84, .prop IsTab)]) :=
      List.Perm.trans List.perm_append_comm (List.Perm.append_right _ (List.Perm.swap ..))
    exact List.Perm.append_right μ1 h1
  refine EX_perm pm ?_
  have hDl : (as.map rv).length = D.length := by rw [List.length_map, has]
  refine EX_cons (E1_forZip fr.ok (fun i l μ => ∃ (last laid : List Pc) (aL' : Addr) (v9 v13 v19 v20 v21 v22 v23 v24 v25 v26 v27 : Option V), l = [v0, v1, v2, v3, v4, v5, some (.int bd), v7, v8, v9, v10, v11, some (.val (.ref aDue)), v13, some (.val (.ref aR)), some (.val (.ref x)), some (.val (.ref aL')), some (.val (.ref aD)), some (.val (.ref aW)), v19, v20, v21, v22, v23, v24, v25, v26, v27] ∧
    μ = accM x dx (last.map pt) ((aD, .lst (laid.map spc)) :: (aW, .lst (laid.map spc)) :: (aL, .lst []) :: μ1) ∧ WalkP last laid (D.drop i) ∧ Fit last laid ∧ laid.length ≤ i ∧ (aL', Ob.lst (last.map spc)) ∈ (aL, Ob.lst []) :: μ1)
    (by walk_at "glob") (by walk_at "pv") (by walk_at "pv") (xs := D.map tv) (ys := as.map rv) ?_ ?_ (by rw [List.length_map, hDl]) ⟨[], [], aL, _, _, none, none, none, none, none, none, none, none, none, rfl, rfl, hw, fit_nil, by simp, .head _⟩ rfl rfl rfl rfl ?_ ?_ (fun x => rfl))
  · exact .inl (.tail _ (.tail _ (.tail _ (.tail _ (.tail _ (.tail _ (.tail _ hR)))))))
  · exact .inl (.tail _ (.tail _ (.tail _ (.tail _ (.tail _ (.tail _ (.tail _ hDue)))))))
  · rintro H i l μ u v hu hv ⟨last, laid, aL', v9, v13, v19, v20, v21, v22, v23, v24, v25, v26, v27, rfl, rfl, hwi, hf, hll, hL⟩
    refine ⟨.inl (.tail _ (.tail _ (.tail _ (.tail _ (.tail _ (.tail _ (.tail _ hR))))))), .inl (.tail _ (.tail _ (.tail _ (.tail _ (.tail _ (.tail _ (.tail _ hDue))))))), ?_⟩
    rw [List.getElem?_map] at hu hv
    obtain ⟨ps, hps, rfl⟩ := Option.map_eq_some_iff.mp hu
    obtain ⟨a, ha, rfl⟩ := Option.map_eq_some_iff.mp hv
    have hi := (List.getElem?_eq_some_iff.mp hps).1
    have hdr : D.drop i = ps :: D.drop (i + 1) := by
      have := List.getElem?_eq_some_iff.mp hps
      rw [List.drop_eq_getElem_cons hi, this.2]
    rw [hdr] at hwi
    cases hwi with
    | cons sp h7 h40 hrest =>
      rename_i laid'
      obtain ⟨j, nw, p⟩ := sp.parts
      refine AS_tup2 (fr.hide H).ok (by decide) ((fr.hide H).sto rfl) ((fr.hide H).sto rfl) (by walk_at "up") (by walk_at "up") ?_
      refine turn_ok (C := C.hide H) (n := n) (fr0.hide H) (cok0.hide H) (rm.hide H) pg hbm sp hf h7 h40 (by omega) hbd hL (.tail _ (hEach i a ps ha hps)) (fun w19 w20 w21 w22 w23 w24 w25 w26 w27 => ?_)
      exact ⟨ps, laid', a, _, _, w19, w20, w21, w22, w23, w24, w25, w26, w27, rfl, rfl, hrest, p.fit hf h7 h40, by have := sp.grow; omega, .tail _ (hEach i a ps ha hps)⟩
  · rintro l μ ⟨last, laid, aL', v9, v13, v19, v20, v21, v22, v23, v24, v25, v26, v27, rfl, rfl, hwi, hf, hll, hL⟩
    refine ⟨.inl (.tail _ (.tail _ (.tail _ (.tail _ (.tail _ (.tail _ (.tail _ hR))))))), .inl (.tail _ (.tail _ (.tail _ (.tail _ (.tail _ (.tail _ (.tail _ hDue))))))), ?_⟩
    have hDm : laid.map spc = (laid.map pc).map sv := by rw [List.map_map]; rfl
    have e : decide (laid.map pc = laid.map pc) = true := decide_eq_true rfl
    refine EX_cons (E1_ret (EV_of (PV_cmp (va := .val (.ref aD)) (vb := .val (.ref aW)) (by walk_at "pv") (by walk_at "pv") (OPC_eqL fr.ok (xs := laid.map pc) (ys := laid.map pc) (asc_pc fun q h => (hf.pos q h).2) (asc_pc fun q h => (hf.pos q h).2) (.inl (by rw [← hDm]; exact .tail _ (.tail _ (.tail _ (.tail _ (.head _)))))) (.inl (by rw [← hDm]; exact .tail _ (.tail _ (.tail _ (.tail _ (.tail _ (.head _)))))))) rfl) ?_))
    rw [e]
    refine hΨ _ _ (.cons _ (.cons _ (.cons_cons _ (.cons_cons _ (List.nil_sublist _)))))
end
-- F18
/-! law: the order, what is due, what is told -/
theorem pc_texts (ps : List Pc) : (ps.map spc) = ((ps.map pc).map S).map V.str := by
  rw [List.map_map, List.map_map]; rfl
theorem join_pc (ps : List Pc) : Txt.join (S []) ((ps.map pc).map S) = S (txt ps) := by rw [join_S]; rfl
theorem sum_pc (ps : List Pc) : (((ps.map pc).map S).map (·.length)).sum = (txt ps).length := by
  induction ps with
  | nil => rfl
  | cons q r ih => rw [List.map_cons, List.map_cons, List.map_cons, List.sum_cons, ih, S_len, txt_cons, List.length_append]
section
variable {C : Cx} {P : Params} {ks : List Str} {l l' : List (Option V)} {μ μ' : Mem} {h₀ : Heap} {s : Shared} {names : List (Str × NameKind)}
theorem lawC_ok {n : Nat} (fr : Fr C (lawNames P) P) (cok : CellsOk C (lawNames P)) (rm : Room C P (n + 8)) (pg : PgOk C.prog) (hbm : ((4 : Addr), Ob.prop IsBMod) ∈ C.old)
    {fs : List Fo} (g : Good fs) {t r bd : Nat} (ht : t ≤ 100) (hr0 : 0 < r) (hr : r ≤ 6) (hbd : bd ≤ 100) {order : List Nat} (ho : orderL fs 7 0 = some order) (hol : order.length = 6) (hok : ∀ k ∈ order, k < 6) {nameF : Nat → List Nat} {dP : Nat → List Pc}
    (hd : ∀ k ∈ order, (dP k).map pc = piecesL fs t (2 ^ r) (upL fs 6 k)) (hname : ∀ k ∈ order, nameF k = txt (dP k)) (hasc : ∀ k ∈ order, Asc (nameF k)) (h7 : ∀ k ∈ order, (dP k).length ≤ 7 ∧ (txt (dP k)).length ≤ 40)
    (hsort : ∀ ys : List Str, ys.Perm (((List.range 6).map nameF).map S) → sortedS ys = true → ys = order.map fun k => S (txt (dP k))) (hw : WalkP [] [] (order.map dP))
    {aF aN : Addr} {μ0 : Mem} (hF : (aF, Ob.lst (fs.map fv)) ∈ μ0) (hN : (aN, Ob.lst (((List.range 6).map nameF).map sv)) ∈ μ0) {v0 v1 v2 v8 v9 v10 : Option V}
    {Ψ : Fl → List (Option V) → Mem → Prop} (hΨ : ∀ l' μ', List.Sublist [((77 : Addr), Ob.prop IsTab), ((84 : Addr), Ob.prop IsTab)] μ' → Ψ (.ret (.bool true)) l' μ') :
    EX C KS [v0, v1, v2, some (.val (.ref aF)), some (.int t), some (.int r), some (.int bd), some (.val (.ref aN)), v8, v9, v10, none, none, none, none, none, none, none, none, none, none, none, none, none, none, none, none, none] ((77, .prop IsTab) :: (84, .prop IsTab) :: μ0) ((lawBody P).drop 9) Ψ := by
  have fr0 := fr
  have cok0 := cok
  unfold lawNames namesOf at fr cok
  dsimp only at fr cok
  obtain ⟨cF, hcF⟩ := cok.look (Str.ofString "folders") rfl
  obtain ⟨cT, hcT⟩ := cok.look (Str.ofString "times") rfl
  obtain ⟨cR, hcR⟩ := cok.look (Str.ofString "readings") rfl
  obtain ⟨cN, hcN⟩ := cok.look (Str.ofString "names") rfl
  generalize hM0 : ((77 : Addr), Ob.prop IsTab) :: ((84 : Addr), Ob.prop IsTab) :: μ0 = M0
  have inM0 : ∀ {q : Addr × Ob}, q ∈ μ0 → q ∈ M0 := fun h => by rw [← hM0]; exact .tail _ (.tail _ h)
  refine EX_cons (E1_assign fr.ok (by decide) (fr.sto rfl) (EV_call (by walk_at "glob") (by walk_at "kp") (ES_consP (by walk_at "pv") (ES_consP (v := .int (0 : Nat)) (by walk_at "pv") (ES_nil (order_ok g 7 (rm.less (by omega)) (.inl (inM0 hF)) (by omega) ho (by omega) fun aO => ⟨_, by walk_at "up", ?_⟩)) rfl) rfl) rfl rfl rfl) rfl)
  have hat : ∀ {i : Nat}, i < 6 → ∃ k, order[i]? = some k ∧ k ∈ order := fun {i} h => ⟨_, List.getElem?_eq_getElem (by omega), List.getElem_mem _⟩
  have hOl : (order.map iv).length ≤ 1000 := by rw [List.length_map]; omega
  refine EX_cons (E1_compF fr (rm.less (m := n + 7) (by omega)) (by decide) rfl [("times", cT), ("readings", cR), ("folders", cF)] ["k", "folders", "readings", "times"] [none, some (.val (.ref aF)), some (.int r), some (.int t)] _
    (EV_of (by walk_at "pv") ⟨_, _, _, fun i ys μ => ∃ as : List Addr, ys = as.map rv ∧ as.length = i ∧ (∀ (j : Nat) (a : Addr) (k : Nat), as[j]? = some a → order[j]? = some k → (a, Ob.lst ((dP k).map spc)) ∈ μ) ∧ ∃ ν, μ = ν ++ (aO, Ob.lst (order.map iv)) :: M0, src_list (ys := order.map iv) fr.ok (.inl (.head _)), ⟨[], rfl, rfl, fun j a k h => by simp at h, [], rfl⟩, hOl, ?_, ?_⟩) ?_ (Inside.of fr ?_ ?_ ?_) rfl (by decide) rfl (by decide) (fun x => rfl) rfl)
  rotate_left 2
  · simp [closureFor, cellOf, hcF, hcT, hcR]
  · intro p hp
    rcases List.mem_cons.mp hp with rfl | hp
    · exact hcT
    rcases List.mem_cons.mp hp with rfl | hp
    · exact hcR
    rw [List.mem_singleton.mp hp]; exact hcF
  · show (["times", "readings", "folders"] : List Str).Nodup
    decide
  · intro x v h
    cases h with
    | tail h => cases h with
      | head => exact ⟨by walk_at "lk", rfl, rfl, cF, .tail _ (.tail _ (.head _)), rfl⟩
      | tail h => cases h with
        | head => exact ⟨by walk_at "lk", rfl, rfl, cR, .tail _ (.head _), rfl⟩
        | tail h => cases h with
          | head => exact ⟨by walk_at "lk", rfl, rfl, cT, .head _, rfl⟩
          | tail h => cases h
  · rintro i ys μ hi ⟨as, rfl, hal, has, ν, rfl⟩
    rw [List.length_map] at hi
    refine ⟨fun q => .inl (.tail _ (List.mem_append_right _ (.head _))), fun G fi rmG holdG => ?_⟩
    obtain ⟨k, hk, hkm⟩ := hat (i := i) (by omega)
    have e : (order.map iv).getD i .none = .int (k : Nat) := by rw [List.getD_eq_getElem?_getD, List.getElem?_map, hk]; rfl
    rw [e]
    refine AS_name fi.ok (by decide) (fi.sto rfl) (by walk_at "up") ?_
    refine TS_nil ?_
    rw [if_pos rfl]
    have hFG : ∀ {μ : Mem}, Has G μ aF (.lst (fs.map fv)) := .inr (by rw [holdG]; exact List.mem_append_left _ (List.mem_append_right _ (.tail _ (inM0 hF))))
    have e2 : (2 : Int) ^ ((r : Int).toNat) = ((2 ^ r : Nat) : Int) := by simp
    refine EV_call (by walk_at "glob") (by walk_at "kp") (ES_consP (by walk_at "pv") (ES_consP (by walk_at "pv") (ES_consP (by walk_at "pv") (ES_consP (v := .int ((2 ^ r : Nat) : Int)) (e2 ▸ EV_bin (by walk_at "pv") (by walk_at "pv") (OPB_pow2 (by omega) (by omega))) (ES_nil (pieces_ok (n := n) (rmG.less (by omega)) g hFG (hok k hkm) ht (Nat.pos_of_ne_zero (by simp)) (by have : 2 ^ r ≤ 2 ^ 6 := Nat.pow_le_pow_right (by omega) hr; omega) fun a => ?_)) rfl) rfl) rfl) rfl) rfl rfl rfl
    refine ⟨_, List.Sublist.refl _, as ++ [a], by rw [List.map_append]; rfl, by rw [List.length_append, hal]; rfl, ?_, (a, Ob.lst ((piecesL fs t (2 ^ r) (upL fs 6 k)).map sv)) :: ν, rfl⟩
    intro j b k' hb hk'
    by_cases hj : j < as.length
    · rw [List.getElem?_append_left hj] at hb
      exact .tail _ (has j b k' hb hk')
    · have hj2 : j = i := by
        have := (List.getElem?_eq_some_iff.mp hb).1
        rw [List.length_append, List.length_singleton] at this
        omega
      subst hj2
      rw [hk] at hk'
      obtain rfl := Option.some.inj hk'
      rw [List.getElem?_append_right (by omega), hal, Nat.sub_self] at hb
      obtain rfl := Option.some.inj hb
      have e3 : (piecesL fs t (2 ^ r) (upL fs 6 k)).map sv = (dP k).map spc := by rw [← hd k hkm, List.map_map]; rfl
      rw [← e3]
      exact .head _
  · rintro ys μ ⟨as, rfl, hal, has, ν, rfl⟩
    refine ⟨fun q => .inl (.tail _ (List.mem_append_right _ (.head _))), fun aDue => ⟨_, by walk_at "up", ?_⟩⟩
    have hol2 : as.length = 6 := by rw [hal, List.length_map]; exact hol
    generalize hM1 : (aDue, Ob.lst (as.map rv)) :: (ν ++ (aO, Ob.lst (order.map iv)) :: M0) = M1
    have inM1 : ∀ {q : Addr × Ob}, q ∈ ν ++ (aO, Ob.lst (order.map iv)) :: M0 → q ∈ M1 := fun h => by rw [← hM1]; exact .tail _ h
    have hDue : (aDue, Ob.lst (as.map rv)) ∈ M1 := by rw [← hM1]; exact .head _
    have hNM : (aN, Ob.lst (((List.range 6).map nameF).map sv)) ∈ M1 := inM1 (List.mem_append_right _ (.tail _ (inM0 hN)))
    have hOM : (aO, Ob.lst (order.map iv)) ∈ M1 := inM1 (List.mem_append_right _ (.head _))
    -- what is told is what is due
    refine EX_cons (E1_if (TE_cmp (EV_compF fr (rm.less (m := n + 7) (by omega)) [("names", cN)] ["k", "names"] [none, some (.val (.ref aN))] _ (EV_of (by walk_at "pv") ⟨_, _, _, fun i ys μ => ys = (order.take i).map (fun k => sv (nameF k)) ∧ M1 = μ, src_list (ys := order.map iv) fr.ok (.inl hOM), ⟨rfl, rfl⟩, hOl, ?_, ?_⟩) ?_ (Inside.of fr ?_ ?_ ?_) rfl (by decide) rfl (by decide) (fun x => rfl)) rfl))
    rotate_left 2
    · simp [closureFor, cellOf, hcN]
    · intro p hp
      rw [List.mem_singleton.mp hp]; exact hcN
    · show (["names"] : List Str).Nodup
      decide
    · intro x v h
      cases h with
      | tail h => cases h with
        | head => exact ⟨by walk_at "lk", rfl, rfl, cN, .head _, rfl⟩
        | tail h => cases h
    · rintro i ys μ hi ⟨rfl, rfl⟩
      rw [List.length_map] at hi
      refine ⟨fun q => .inl (.tail _ hOM), fun G fi rmG holdG => ?_⟩
      obtain ⟨k, hk, hkm⟩ := hat (i := i) (by omega)
      have hk6 := hok k hkm
      have e : (order.map iv).getD i .none = .int (k : Nat) := by rw [List.getD_eq_getElem?_getD, List.getElem?_map, hk]; rfl
      rw [e]
      refine AS_name fi.ok (by decide) (fi.sto rfl) (by walk_at "up") ?_
      refine TS_nil ?_
      rw [if_pos rfl]
      have hNG : ∀ {μ : Mem}, Has G μ aN (.lst (((List.range 6).map nameF).map sv)) := .inr (by rw [holdG]; exact List.mem_append_left _ hNM)
      have e2 : (((List.range 6).map nameF).map sv)[((k : Nat) : Int).toNat]? = some (sv (nameF k)) := by
        rw [Int.toNat_natCast, List.getElem?_map, List.getElem?_map, List.getElem?_range hk6]; rfl
      refine EV_of (PV_itemL (i := (k : Nat)) (by walk_at "pv") (by walk_at "pv") hNG (by omega) e2 (by simp) trivial) ⟨[], List.Sublist.refl _, ?_, rfl⟩
      have e3 : order.take (i + 1) = order.take i ++ [k] := by rw [List.take_add_one, hk]; rfl
      rw [e3, List.map_append]
      rfl
    · rintro ys μ ⟨rfl, rfl⟩
      have e4 : (order.take (order.map iv).length).map (fun k => sv (nameF k)) = (order.map nameF).map sv := by rw [List.length_map, List.take_length, List.map_map]; rfl
      refine ⟨fun q => .inl (.tail _ hOM), fun Dn => ?_⟩
      rw [e4]
      refine (EV_compF fr (rm.less (m := n + 7) (by omega)) [] ["pieces"] [none] _ (EV_of (by walk_at "pv") ⟨_, _, _, fun i ys μ => ys = (order.take i).map (fun k => sv (txt (dP k))) ∧ (Dn, Ob.lst ((order.map nameF).map sv)) :: M1 = μ, src_list (ys := as.map rv) fr.ok (.inl (.tail _ hDue)), ⟨rfl, rfl⟩, by rw [List.length_map]; omega, ?_, ?_⟩) ?_ (Inside.of fr ?_ ?_ ?_) rfl (by decide) rfl (by decide) (fun x => rfl))
      rotate_left 2
      · simp [closureFor, cellOf]
      · intro p hp; cases hp
      · show ([] : List Str).Nodup
        exact List.nodup_nil
      · intro x v h
        cases h with
        | tail h => cases h
      · rintro i ys μ hi ⟨rfl, rfl⟩
        rw [List.length_map] at hi
        refine ⟨fun q => .inl (.tail _ (.tail _ hDue)), fun G fi rmG holdG => ?_⟩
        obtain ⟨k, hk, hkm⟩ := hat (i := i) (by omega)
        obtain ⟨a, ha⟩ : ∃ a, as[i]? = some a := ⟨_, List.getElem?_eq_getElem (by omega)⟩
        have e : (as.map rv).getD i .none = .val (.ref a) := by rw [List.getD_eq_getElem?_getD, List.getElem?_map, ha]; rfl
        rw [e]
        refine AS_name fi.ok (by decide) (fi.sto rfl) (by walk_at "up") ?_
        refine TS_nil ?_
        rw [if_pos rfl]
        have hG : ∀ {μ : Mem}, Has G μ a (.lst ((((dP k).map pc).map S).map V.str)) := .inr (by rw [holdG, ← pc_texts]; exact List.mem_append_left _ (.tail _ (inM1 (has i a k ha hk))))
        have hsz := (h7 k hkm).2
        have hlz := (h7 k hkm).1
        refine EV_meth (EV_of (by walk_at "pv") ⟨_, GM_join, kb, ES_consP (by walk_at "pv") (ES_nil (OPK.mono (OPK_join hG (by rw [sum_pc, S_len]; simp; omega)) fun v μ' kk => ?_)) rfl⟩) rfl rfl rfl
        obtain ⟨rfl, rfl⟩ := kk
        refine ⟨[], List.Sublist.refl _, ?_, rfl⟩
        have e3 : order.take (i + 1) = order.take i ++ [k] := by rw [List.take_add_one, hk]; rfl
        rw [e3, List.map_append, join_pc]
        rfl
      · rintro ys μ ⟨rfl, rfl⟩
        have e4 : (order.take (as.map rv).length).map (fun k => sv (txt (dP k))) = (order.map fun k => txt (dP k)).map sv := by
          rw [List.length_map, show as.length = order.length by omega, List.take_length, List.map_map]; rfl
        refine ⟨fun q => .inl (.tail _ (.tail _ hDue)), fun Dt => ?_⟩
        rw [e4]
        have e5 : (order.map nameF) = (order.map fun k => txt (dP k)) := List.map_congr_left fun k hk => hname k hk
        have hA1 : ∀ x ∈ order.map nameF, Asc x := fun x hx => by
          obtain ⟨k, hk, rfl⟩ := List.mem_map.mp hx
          exact hasc k hk
        refine ⟨_, OPC_neL fr.ok hA1 (e5 ▸ hA1) (.inl (.tail _ (.head _))) (.inl (.head _)), fun h => ?_, fun _ => ?_⟩
        · exfalso
          rw [decide_eq_true e5] at h; cases h
        refine EX_nil (EX_drop (.cons _ (.cons _ (List.Sublist.refl _))) ?_)
        -- put in order
        refine EX_cons (E1_assign fr.ok (by decide) (fr.sto rfl) (EV_call (by walk_at "glob") (by walk_at "kp") (ES_cons (EV_compF fr (rm.less (m := n + 7) (by omega)) [] ["name"] [none] _ (EV_of (by walk_at "pv") ⟨_, _, _, fun i ys μ => ys = (((List.range 6).map nameF).take i).map sv ∧ M1 = μ, src_list (ys := ((List.range 6).map nameF).map sv) fr.ok (.inl hNM), ⟨rfl, rfl⟩, by simp, ?_, ?_⟩) ?_ (Inside.of fr ?_ ?_ ?_) rfl (by decide) rfl (by decide) (fun x => rfl)) rfl) rfl rfl rfl) rfl)
        rotate_left 2
        · simp [closureFor, cellOf]
        · intro p hp; cases hp
        · show ([] : List Str).Nodup
          exact List.nodup_nil
        · intro x v h
          cases h with
          | tail h => cases h
        · rintro i ys μ hi ⟨rfl, rfl⟩
          rw [List.length_map] at hi
          refine ⟨fun q => .inl (.tail _ hNM), fun G fi rmG holdG => ?_⟩
          have hxi : ((List.range 6).map nameF)[i]? = some ((List.range 6).map nameF)[i] := List.getElem?_eq_getElem hi
          generalize ((List.range 6).map nameF)[i] = xi at hxi
          have e : (((List.range 6).map nameF).map sv).getD i .none = sv xi := by rw [List.getD_eq_getElem?_getD, List.getElem?_map, hxi]; rfl
          rw [e]
          refine AS_name fi.ok (by decide) (fi.sto rfl) (by walk_at "up") ?_
          refine TS_nil ?_
          rw [if_pos rfl]
          refine EV_call (by walk_at "glob") (by walk_at "kp") (ES_consP (by walk_at "pv") (ES_nil (OPK.mono (strxfrm_ok (n := n) (rmG.less (by omega)) _) fun v μ' kk => ?_)) rfl) rfl rfl rfl
          obtain ⟨rfl, rfl⟩ := kk
          refine ⟨[], List.Sublist.refl _, ?_, rfl⟩
          have e3 : ((List.range 6).map nameF).take (i + 1) = ((List.range 6).map nameF).take i ++ [xi] := by rw [List.take_add_one, hxi]; rfl
          rw [e3, List.map_append]
          rfl
        · rintro ys μ ⟨rfl, rfl⟩
          have e4 : (((List.range 6).map nameF).take (((List.range 6).map nameF).map sv).length).map sv = ((List.range 6).map nameF).map sv := by rw [List.length_map, List.take_length]
          refine ⟨fun q => .inl (.tail _ hNM), fun Dx => ?_⟩
          rw [e4]
          refine ES_nil (OPK_sortedS (xs := (List.range 6).map nameF) (.inl (.head _)) (by simp) fun aR ys hp hs => ⟨_, by walk_at "up", ?_⟩)
          have e6 : ys.map V.str = (order.map fun k => txt (dP k)).map sv := by rw [hsort ys hp hs, List.map_map, List.map_map]; rfl
          rw [e6]
          refine EX_drop (.cons_cons _ (.cons _ (List.Sublist.refl _))) ?_
          refine EX_cons (E1_if (TE_cmp (EV_of (by walk_at "pv") (EV_compF fr (rm.less (m := n + 7) (by omega)) [] ["pieces"] [none] _ (EV_of (by walk_at "pv") ⟨_, _, _, fun i ys μ => ys = (order.take i).map (fun k => sv (txt (dP k))) ∧ (aR, Ob.lst ((order.map fun k => txt (dP k)).map sv)) :: M1 = μ, src_list (ys := as.map rv) fr.ok (.inl (.tail _ hDue)), ⟨rfl, rfl⟩, by rw [List.length_map]; omega, ?_, ?_⟩) ?_ (Inside.of fr ?_ ?_ ?_) rfl (by decide) rfl (by decide) (fun x => rfl))) rfl))
          rotate_left 2
          · simp [closureFor, cellOf]
          · intro p hp; cases hp
          · show ([] : List Str).Nodup
            exact List.nodup_nil
          · intro x v h
            cases h with
            | tail h => cases h
          · rintro i ys μ hi ⟨rfl, rfl⟩
            rw [List.length_map] at hi
            refine ⟨fun q => .inl (.tail _ (.tail _ hDue)), fun G fi rmG holdG => ?_⟩
            obtain ⟨k, hk, hkm⟩ := hat (i := i) (by omega)
            obtain ⟨a, ha⟩ : ∃ a, as[i]? = some a := ⟨_, List.getElem?_eq_getElem (by omega)⟩
            have e : (as.map rv).getD i .none = .val (.ref a) := by rw [List.getD_eq_getElem?_getD, List.getElem?_map, ha]; rfl
            rw [e]
            refine AS_name fi.ok (by decide) (fi.sto rfl) (by walk_at "up") ?_
            refine TS_nil ?_
            rw [if_pos rfl]
            have hG : ∀ {μ : Mem}, Has G μ a (.lst ((((dP k).map pc).map S).map V.str)) := .inr (by rw [holdG, ← pc_texts]; exact List.mem_append_left _ (.tail _ (inM1 (has i a k ha hk))))
            have hsz := (h7 k hkm).2
            have hlz := (h7 k hkm).1
            refine EV_meth (EV_of (by walk_at "pv") ⟨_, GM_join, kb, ES_consP (by walk_at "pv") (ES_nil (OPK.mono (OPK_join hG (by rw [sum_pc, S_len]; simp; omega)) fun v μ' kk => ?_)) rfl⟩) rfl rfl rfl
            obtain ⟨rfl, rfl⟩ := kk
            refine ⟨[], List.Sublist.refl _, ?_, rfl⟩
            have e3 : order.take (i + 1) = order.take i ++ [k] := by rw [List.take_add_one, hk]; rfl
            rw [e3, List.map_append, join_pc]
            rfl
          · rintro ys μ ⟨rfl, rfl⟩
            have e4 : (order.take (as.map rv).length).map (fun k => sv (txt (dP k))) = (order.map fun k => txt (dP k)).map sv := by
              rw [List.length_map, show as.length = order.length by omega, List.take_length, List.map_map]; rfl
            refine ⟨fun q => .inl (.tail _ (.tail _ hDue)), fun Dt => ?_⟩
            rw [e4]
            have hA1 : ∀ x ∈ (order.map fun k => txt (dP k)), Asc x := fun x hx => by
              obtain ⟨k, hk, rfl⟩ := List.mem_map.mp hx
              rw [← hname k hk]
              exact hasc k hk
            refine ⟨_, OPC_neL fr.ok hA1 hA1 (.inl (.tail _ (.head _))) (.inl (.head _)), fun h => ?_, fun _ => ?_⟩
            · exfalso
              simp at h
            refine EX_nil (EX_drop (.cons _ (List.Sublist.refl _)) ?_)
            have pm : List.Perm (((77 : Addr), Ob.prop IsTab) :: ((84 : Addr), Ob.prop IsTab) :: (((aR, Ob.lst ((order.map fun k => txt (dP k)).map sv)) :: (aDue, Ob.lst (as.map rv)) :: (ν ++ [(aO, Ob.lst (order.map iv))])) ++ μ0)) ((aR, Ob.lst ((order.map fun k => txt (dP k)).map sv)) :: M1) := by
              rw [← hM1, ← hM0]
              have e7 : (aR, Ob.lst ((order.map fun k => txt (dP k)).map sv)) :: (aDue, Ob.lst (as.map rv)) :: (ν ++ (aO, Ob.lst (order.map iv)) :: ((77 : Addr), Ob.prop IsTab) :: ((84 : Addr), Ob.prop IsTab) :: μ0) = ((aR, Ob.lst ((order.map fun k => txt (dP k)).map sv)) :: (aDue, Ob.lst (as.map rv)) :: (ν ++ [(aO, Ob.lst (order.map iv))])) ++ ([((77 : Addr), Ob.prop IsTab), ((84 : Addr), Ob.prop IsTab)] ++ μ0) := by simp
              rw [e7]
              exact List.perm_append_comm_assoc [((77 : Addr), Ob.prop IsTab), ((84 : Addr), Ob.prop IsTab)] ((aR, Ob.lst ((order.map fun k => txt (dP k)).map sv)) :: (aDue, Ob.lst (as.map rv)) :: (ν ++ [(aO, Ob.lst (order.map iv))])) μ0
            refine EX_perm pm ?_
            refine lawD_ok (n := n + 4) fr0 cok0 rm pg hbm hw (by rw [List.length_map]; omega) hbd (as := as) (aDue := aDue) (aR := aR) (by rw [List.length_map]; omega) ?_ ?_ ?_ hΨ
            · exact .tail _ (.head _)
            · have e8 : (order.map dP).map tv = (order.map fun k => txt (dP k)).map sv := by rw [List.map_map, List.map_map]; rfl
              rw [e8]
              exact .head _
            · intro j a ps ha hps
              rw [List.getElem?_map] at hps
              obtain ⟨k, hk, rfl⟩ := Option.map_eq_some_iff.mp hps
              have h1 := has j a k ha hk
              rw [← hM0] at h1
              refine .tail _ (.tail _ ?_)
              rcases List.mem_append.mp h1 with h1 | h1
              · exact List.mem_append_left _ (List.mem_append_left _ h1)
              rcases List.mem_cons.mp h1 with h1 | h1
              · exact List.mem_append_left _ (List.mem_append_right _ (by rw [h1]; exact .head _))
              rcases List.mem_cons.mp h1 with h1 | h1
              · cases h1
              rcases List.mem_cons.mp h1 with h1 | h1
              · cases h1
              exact List.mem_append_right _ h1
end
-- F19
/-! law: the names -/
noncomputable def readN : Nat → List Nat → List Nat
  | 0, x => x
  | n + 1, x => parseL (readN n x)
theorem parseL_len : ∀ (n : Nat) (x : List Nat), x.length ≤ n → (parseL x).length ≤ x.length
  | 0, x, h => by
    obtain rfl : x = [] := List.length_eq_zero_iff.mp (by omega)
    exact Nat.le_refl _
  | n + 1, x, h => by
    cases x with
    | nil => exact Nat.le_refl _
    | cons c r =>
      rw [List.length_cons] at h
      by_cases hc : c = 34
      · subst hc
        cases r with
        | nil => rw [parseL_q (by simp)]; simp
        | cons d r =>
          by_cases hd : d = 34
          · subst hd
            rw [List.length_cons] at h
            rw [parseL_qq, List.length_cons, List.length_cons, List.length_cons]
            have := parseL_len n r (by omega)
            omega
          · rw [parseL_q (by simp [hd])]; simp
      · rw [parseL_c hc, List.length_cons, List.length_cons]
        have := parseL_len n r (by omega)
        omega
theorem readN_len (n : Nat) (x : List Nat) : (readN n x).length ≤ x.length := by
  induction n with
  | zero => exact Nat.le_refl _
  | succ n ih => exact Nat.le_trans (parseL_len _ _ (Nat.le_refl _)) ih
noncomputable def nameL (fs : List Fo) (t r k : Nat) : List Nat := readN r (piecesL fs t 1 (upL fs 6 k)).flatten
section
variable {C : Cx} {P : Params} {ks : List Str} {l l' : List (Option V)} {μ μ' : Mem} {h₀ : Heap} {s : Shared} {names : List (Str × NameKind)}
theorem lawB_ok {n : Nat} (fr : Fr C (lawNames P) P) (cok : CellsOk C (lawNames P)) (rm : Room C P (n + 8)) (pg : PgOk C.prog) (hbm : ((4 : Addr), Ob.prop IsBMod) ∈ C.old)
    {fs : List Fo} (g : Good fs) {t r bd : Nat} (ht : t ≤ 100) (hr : r = 1 ∨ r = 2) (hbd : bd ≤ 100) {order : List Nat} (ho : orderL fs 7 0 = some order) (hol : order.length = 6) (hok : ∀ k ∈ order, k < 6) {dP : Nat → List Pc}
    (hd : ∀ k ∈ order, (dP k).map pc = piecesL fs t (2 ^ r) (upL fs 6 k)) (hname : ∀ k ∈ order, nameL fs t r k = txt (dP k)) (hasc : ∀ k ∈ order, Asc (nameL fs t r k)) (h7 : ∀ k ∈ order, (dP k).length ≤ 7 ∧ (txt (dP k)).length ≤ 40) (h8 : ∀ k < 6, (piecesL fs t 1 (upL fs 6 k)).length ≤ 7 ∧ (piecesL fs t 1 (upL fs 6 k)).flatten.length ≤ 400)
    (hsort : ∀ ys : List Str, ys.Perm (((List.range 6).map (nameL fs t r)).map S) → sortedS ys = true → ys = order.map fun k => S (txt (dP k))) (hw : WalkP [] [] (order.map dP))
    {aF : Addr} {μ0 : Mem} (hF : (aF, Ob.lst (fs.map fv)) ∈ μ0) {v0 v1 v2 : Option V}
    {Ψ : Fl → List (Option V) → Mem → Prop} (hΨ : ∀ l' μ', List.Sublist [((77 : Addr), Ob.prop IsTab), ((84 : Addr), Ob.prop IsTab)] μ' → Ψ (.ret (.bool true)) l' μ') :
    EX C KS [v0, v1, v2, some (.val (.ref aF)), some (.int t), some (.int r), some (.int bd), none, none, none, none, none, none, none, none, none, none, none, none, none, none, none, none, none, none, none, none, none] ((77, .prop IsTab) :: (84, .prop IsTab) :: μ0) ((lawBody P).drop 7) Ψ := by
  have fr0 := fr
  have cok0 := cok
  unfold lawNames namesOf at fr cok
  dsimp only at fr cok
  generalize hM0 : ((77 : Addr), Ob.prop IsTab) :: ((84 : Addr), Ob.prop IsTab) :: μ0 = M0
  have inM0 : ∀ {q : Addr × Ob}, q ∈ μ0 → q ∈ M0 := fun h => by rw [← hM0]; exact .tail _ (.tail _ h)
  refine EX_cons (E1_assign fr.ok (by decide) (fr.stoC cok rfl rfl) (EV_list (ES_nil ⟨by decide, fun aN => ⟨_, by walk_at "up", ?_⟩⟩)) rfl)
  refine EX_cons (E1_for (n := 6) (xs := fun i => .int (0 + (i : Int))) (Need := fun _ => True) (fun i l μ => ∃ (q : Addr) (v8 v9 v10 : Option V), l = [v0, v1, v2, some (.val (.ref aF)), some (.int t), some (.int r), some (.int bd), some (.val (.ref aN)), v8, v9, v10, none, none, none, none, none, none, none, none, none, none, none, none, none, none, none, none, none] ∧ μ = (q, .rng 0 6 1) :: (aN, .lst (((List.range i).map (nameL fs t r)).map sv)) :: M0)
    (EV_call (by walk_at "glob") (by walk_at "kp") (ES_consP (by walk_at "pv") (ES_nil (OPK_range1 fun q => ⟨src_range fr.ok (.inl (.head _)) rfl rfl, q, none, none, none, rfl, rfl⟩)) rfl) rfl rfl rfl) ?_ ?_ (fun x => rfl))
  · rintro i l μ hi ⟨q, v8, v9, v10, rfl, rfl⟩
    refine ⟨trivial, ?_⟩
    show AS _ _ _ _ _ (.int (0 + (i : Int))) _
    rw [Int.zero_add]
    refine AS_name fr.ok (by decide) (fr.sto rfl) (by walk_at "up") ?_
    have h8i := h8 i hi
    generalize hx : (piecesL fs t 1 (upL fs 6 i)).flatten = x0 at h8i
    have hJ : Txt.join (S []) ((piecesL fs t 1 (upL fs 6 i)).map S) = S x0 := by rw [join_S, hx]
    have hjj : (piecesL fs t 1 (upL fs 6 i)).map sv = ((piecesL fs t 1 (upL fs 6 i)).map S).map V.str := by rw [List.map_map]; rfl
    have hsum : (((piecesL fs t 1 (upL fs 6 i)).map S).map (·.length)).sum = x0.length := by
      rw [← hx]
      generalize piecesL fs t 1 (upL fs 6 i) = L
      induction L with
      | nil => rfl
      | cons a L ih => rw [List.map_cons, List.map_cons, List.sum_cons, ih, S_len, List.flatten_cons, List.length_append]
    refine EX_cons (E1_assign fr.ok (by decide) (fr.sto rfl) (EV_meth (EV_of (by walk_at "pv") ⟨_, GM_join, kb, ES_cons (EV_call (by walk_at "glob") (by walk_at "kp") (ES_consP (by walk_at "pv") (ES_consP (by walk_at "pv") (ES_consP (by walk_at "pv") (ES_consP (v := .int (1 : Nat)) (by walk_at "pv") (ES_nil (pieces_ok (n := n) (rm.less (by omega)) g (.inl (.tail _ (.tail _ (inM0 hF)))) hi ht (by omega) (by omega) fun a => ES_nil (OPK.mono (OPK_join (ys := (piecesL fs t 1 (upL fs 6 i)).map S) (.inl (by rw [← hjj]; exact .head _)) (by rw [hsum, S_len]; simp; omega)) fun v μ' kk => ?_))) rfl) rfl) rfl) rfl) rfl rfl rfl) rfl⟩) rfl rfl rfl) rfl)
    obtain ⟨rfl, rfl⟩ := kk
    rw [hJ]
    refine ⟨_, by walk_at "up", ?_⟩
    refine EX_drop (.cons _ (List.Sublist.refl _)) ?_
    refine EX_cons (E1_for (n := r) (xs := fun i => .int (0 + (i : Int))) (Need := fun _ => True) (fun j l μ => ∃ (q2 : Addr) (v10 : Option V), l = [v0, v1, v2, some (.val (.ref aF)), some (.int t), some (.int r), some (.int bd), some (.val (.ref aN)), some (.int i), some (.str (S (readN j x0))), v10, none, none, none, none, none, none, none, none, none, none, none, none, none, none, none, none, none] ∧ μ = (q2, .rng 0 r 1) :: (q, .rng 0 6 1) :: (aN, .lst (((List.range i).map (nameL fs t r)).map sv)) :: M0)
      (EV_call (by walk_at "glob") (by walk_at "kp") (ES_consP (by walk_at "pv") (ES_nil (OPK_range1 fun q2 => ⟨src_range fr.ok (.inl (.head _)) (by rcases hr with rfl | rfl <;> rfl) (by rcases hr with rfl | rfl <;> rfl), q2, _, rfl, rfl⟩)) rfl) rfl rfl rfl) ?_ ?_ (fun x => rfl))
    · rintro j l μ hj ⟨q2, v10, rfl, rfl⟩
      refine ⟨trivial, AS_name fr.ok (by decide) (fr.sto rfl) (by walk_at "up") ?_⟩
      have hrl := readN_len j x0
      refine EX_cons (E1_assign fr.ok (by decide) (fr.sto rfl) (EV_call (by walk_at "glob") (by walk_at "kp") (ES_consP (by walk_at "pv") (ES_nil (OPK.mono (parse257_ok (rm.less (by omega)) (readN j x0) (by omega)) fun v μ' kk => ?_)) rfl) rfl rfl rfl) rfl)
      obtain ⟨rfl, rfl⟩ := kk
      exact ⟨_, by walk_at "up", EX_nil ⟨q2, _, rfl, rfl⟩⟩
    · rintro l μ ⟨q2, v10, rfl, rfl⟩
      refine ⟨trivial, ?_⟩
      refine EX_cons (E1_expr (EV_meth (EV_of (by walk_at "pv") ⟨_, GM_append (.inl (.tail _ (.tail _ (.head _)))), kb, ES_consP (v := sv (readN r x0)) (by walk_at "pv") (ES_nil (OPK_append (.tail (.tail .head)) (by simp; omega) ?_)) rfl⟩) rfl rfl rfl) fr.inter rfl)
      refine EX_drop (.cons _ (List.Sublist.refl _)) (EX_nil ⟨q, _, _, _, rfl, ?_⟩)
      have e : nameL fs t r i = readN r x0 := by rw [nameL, hx]
      rw [List.range_succ, List.map_append, List.map_append, List.map_cons, List.map_nil, e]
      rfl
  · rintro l μ ⟨q, v8, v9, v10, rfl, rfl⟩
    refine ⟨trivial, ?_⟩
    rw [← hM0]
    have pm : List.Perm (((77 : Addr), Ob.prop IsTab) :: ((84 : Addr), Ob.prop IsTab) :: ((q, Ob.rng 0 6 1) :: (aN, Ob.lst (((List.range 6).map (nameL fs t r)).map sv)) :: μ0)) ((q, Ob.rng 0 6 1) :: (aN, Ob.lst (((List.range 6).map (nameL fs t r)).map sv)) :: ((77 : Addr), Ob.prop IsTab) :: ((84 : Addr), Ob.prop IsTab) :: μ0) :=
      List.perm_append_comm_assoc [((77 : Addr), Ob.prop IsTab), ((84 : Addr), Ob.prop IsTab)] [(q, Ob.rng 0 6 1), (aN, Ob.lst (((List.range 6).map (nameL fs t r)).map sv))] μ0
    refine EX_perm pm ?_
    exact lawC_ok (n := n) fr0 cok0 rm pg hbm g ht (by omega) (by omega) hbd ho hol hok hd hname hasc h7 hsort hw (.tail _ (.tail _ hF)) (.tail _ (.head _)) hΨ
end
-- F20
/-! law, whole -/
noncomputable def restL : List Nat := [305, 290, 286, 275, 316]
noncomputable def cellsL (sc : List Int) : List Nat := (sc.take 5).map (fun x => (x % 1000000).toNat) ++ restL.drop (sc.take 5).length
/-- all that is said of the cells, in plain words -/
structure LawFacts (cells : List Nat) : Prop where
  facts : ∃ (order : List Nat) (dP : Nat → List Pc), Good (foldersL cells cells.sum 5) ∧ orderL (foldersL cells cells.sum 5) 7 0 = some order ∧ order.length = 6 ∧ (∀ k ∈ order, k < 6) ∧
    (∀ k ∈ order, (dP k).map pc = piecesL (foldersL cells cells.sum 5) (1 + cells.sum / 20 % 4) (2 ^ (1 + cells.sum / 80 % 2)) (upL (foldersL cells cells.sum 5) 6 k)) ∧
    (∀ k ∈ order, nameL (foldersL cells cells.sum 5) (1 + cells.sum / 20 % 4) (1 + cells.sum / 80 % 2) k = txt (dP k)) ∧ (∀ k ∈ order, Asc (nameL (foldersL cells cells.sum 5) (1 + cells.sum / 20 % 4) (1 + cells.sum / 80 % 2) k)) ∧
    (∀ k ∈ order, (dP k).length ≤ 7 ∧ (txt (dP k)).length ≤ 40) ∧ (∀ k < 6, (piecesL (foldersL cells cells.sum 5) (1 + cells.sum / 20 % 4) 1 (upL (foldersL cells cells.sum 5) 6 k)).length ≤ 7 ∧ (piecesL (foldersL cells cells.sum 5) (1 + cells.sum / 20 % 4) 1 (upL (foldersL cells cells.sum 5) 6 k)).flatten.length ≤ 400) ∧
    (∀ ys : List Str, ys.Perm (((List.range 6).map (nameL (foldersL cells cells.sum 5) (1 + cells.sum / 20 % 4) (1 + cells.sum / 80 % 2))).map S) → sortedS ys = true → ys = order.map fun k => S (txt (dP k))) ∧ WalkP [] [] (order.map dP)
section
variable {C : Cx} {P : Params} {ks : List Str} {l l' : List (Option V)} {μ μ' : Mem} {h₀ : Heap} {s : Shared} {names : List (Str × NameKind)}
theorem pick_rest : ∀ m : Nat, m ≤ 5 → (sliceRange (sliceBounds (some (m : Int)) none none 5).1 (sliceBounds (some (m : Int)) none none 5).2.1 (sliceBounds (some (m : Int)) none none 5).2.2).filterMap ((restL.map iv)[·]?) = (restL.drop m).map iv := by
  intro m h
  have : m = 0 ∨ m = 1 ∨ m = 2 ∨ m = 3 ∨ m = 4 ∨ m = 5 := by omega
  rcases this with rfl | rfl | rfl | rfl | rfl | rfl <;> rfl
theorem cells_len (sc : List Int) : (cellsL sc).length = 5 := by
  have h : (sc.take 5).length ≤ 5 := by rw [List.length_take]; omega
  rw [cellsL, List.length_append, List.length_map, List.length_drop]
  have : restL.length = 5 := rfl
  omega
theorem lawA_ok {n : Nat} (fr : Fr C (lawNames P) P) (cok : CellsOk C (lawNames P)) (rm : Room C P (n + 8)) (pg : PgOk C.prog) (hbm : ((4 : Addr), Ob.prop IsBMod) ∈ C.old) {sc : List Int} (hsc : sc.length ≤ 1000) (lf : LawFacts (cellsL sc)) {aS : Addr} (hS : (aS, Ob.lst (sc.map V.int)) ∈ C.old)
    {Ψ : Fl → List (Option V) → Mem → Prop} (hΨ : ∀ l' μ', List.Sublist [((77 : Addr), Ob.prop IsTab), ((84 : Addr), Ob.prop IsTab)] μ' → Ψ (.ret (.bool true)) l' μ') :
    EX C KS [some (.val (.ref aS)), none, none, none, none, none, none, none, none, none, none, none, none, none, none, none, none, none, none, none, none, none, none, none, none, none, none, none] [((77 : Addr), Ob.prop IsTab), ((84 : Addr), Ob.prop IsTab)] (lawBody P) Ψ := by
  have fr0 := fr
  have cok0 := cok
  unfold lawNames namesOf at fr cok
  dsimp only at fr cok
  have hm5 : (sc.take 5).length ≤ 5 := by rw [List.length_take]; omega
  generalize hM0 : [((77 : Addr), Ob.prop IsTab), ((84 : Addr), Ob.prop IsTab)] = M0
  refine EX_cons (E1_compF fr (rm.less (m := n + 7) (by omega)) (by decide) rfl [] ["x"] [none] _ (EV_sliceL (i := none) (j := some ((5 : Nat) : Int)) (by walk_at "pv") PPart_none (PPart_int (by walk_at "pv")) (.inr hS) (by rw [List.length_map]; exact hsc) pick_to fun b => ⟨_, _, _, fun i ys μ => ys = (((sc.take 5).take i).map fun x => V.int (x % 1000000)) ∧ (b, Ob.lst ((sc.map V.int).take 5)) :: M0 = μ, src_list (ys := (sc.map V.int).take 5) fr.ok (.inl (.head _)), ⟨rfl, rfl⟩, by rw [List.length_take]; omega, ?_, ?_⟩) ?_ (Inside.of fr ?_ ?_ ?_) rfl (by decide) rfl (by decide) (fun x => rfl) rfl)
  rotate_left 2
  · simp [closureFor, cellOf]
  · intro p hp; cases hp
  · show ([] : List Str).Nodup
    exact List.nodup_nil
  · intro x v h
    cases h with
    | tail h => cases h
  · rintro i ys μ hi ⟨rfl, rfl⟩
    refine ⟨fun q => .inl (.tail _ (.head _)), fun G fi rmG holdG => ?_⟩
    rw [← List.map_take, List.length_map] at hi
    have hxi : (sc.take 5)[i]? = some (sc.take 5)[i] := List.getElem?_eq_getElem hi
    generalize (sc.take 5)[i] = z at hxi
    have e : ((sc.map V.int).take 5).getD i .none = .int z := by rw [← List.map_take, List.getD_eq_getElem?_getD, List.getElem?_map, hxi]; rfl
    rw [e]
    refine AS_name fi.ok (by decide) (fi.sto rfl) (by walk_at "up") ?_
    refine TS_nil ?_
    rw [if_pos rfl]
    refine EV_bin (by walk_at "pv") (by walk_at "pv") (fun h₀ s x y R hx hy Q E q => OPB_modI fi.ok (by decide) h₀ s x y R hx hy Q E fun v μ' u s' kk t r zz => q v μ' u s' (by
      obtain ⟨rfl, rfl⟩ := kk
      refine ⟨[], List.Sublist.refl _, ?_, rfl⟩
      have e3 : (sc.take 5).take (i + 1) = (sc.take 5).take i ++ [z] := by rw [List.take_add_one, hxi]; rfl
      rw [e3, List.map_append]
      rfl) t r zz)
  · rintro ys μ ⟨rfl, rfl⟩
    refine ⟨fun q => .inl (.tail _ (.head _)), fun aC => ⟨_, by walk_at "up", ?_⟩⟩
    have e4 : (((sc.take 5).take ((sc.map V.int).take 5).length).map fun x => V.int (x % 1000000)) = ((sc.take 5).map fun x => (x % 1000000).toNat).map iv := by
      rw [← List.map_take, List.length_map, List.take_length, List.map_map]
      refine List.map_congr_left fun x _ => ?_
      have : (((x % 1000000).toNat : Nat) : Int) = x % 1000000 := Int.toNat_of_nonneg (Int.emod_nonneg _ (by decide))
      show V.int (x % 1000000) = V.int (((x % 1000000).toNat : Nat) : Int)
      rw [this]
    rw [e4]
    have hcl : (((sc.take 5).map fun x => (x % 1000000).toNat).map iv).length = (sc.take 5).length := by rw [List.length_map, List.length_map]
    refine EX_cons (E1_assign fr.ok (by decide) (fr.sto rfl) (EV_binA (by walk_at "pv") (EV_sliceLA (ys := (restL.drop (sc.take 5).length).map iv) (EV_list (ES_consP (by walk_at "pv") (ES_consP (by walk_at "pv") (ES_consP (by walk_at "pv") (ES_consP (by walk_at "pv") (ES_consP (by walk_at "pv") (ES_nil ⟨by decide, fun a1 => ⟨a1, restL.map iv, some (((sc.take 5).length : Nat) : Int), none, rfl, .inl (.head _), by decide, PPart_int (hcl ▸ EV_call (by walk_at "glob") (by walk_at "kp") (ES_consP (by walk_at "pv") (ES_nil (OPK_lenL (.inl (.tail _ (.head _))) (by rw [hcl]; omega))) rfl) rfl rfl rfl), PPart_none, pick_rest _ hm5, fun a2 => ?_⟩⟩) rfl) rfl) rfl) rfl) rfl)))) rfl)
    have hcc : ((sc.take 5).map fun x => (x % 1000000).toNat).map iv ++ (restL.drop (sc.take 5).length).map iv = (cellsL sc).map iv := by rw [cellsL, List.map_append]
    have hrl : ((restL.drop (sc.take 5).length).map iv).length ≤ 5 := by
      rw [List.length_map, List.length_drop]
      have : restL.length = 5 := rfl
      omega
    refine OPB_addL (.inl (.tail _ (.tail _ (.head _)))) (.inl (.head _)) (by rw [hcl]; omega) fun aX => ⟨_, by walk_at "up", ?_⟩
    rw [hcc]
    have hcell := cells_len sc
    generalize cellsL sc = cells at lf hcell hcc
    have hci : cells.map iv = (cells.map fun n : Nat => (n : Int)).map V.int := by rw [List.map_map]; rfl
    refine EX_drop (.cons_cons _ (.cons _ (.cons _ (.cons _ (.cons _ (List.Sublist.refl _)))))) ?_
    refine EX_cons (E1_assignP fr.ok (by decide) (fr.sto rfl) (v := .int (cells.sum : Nat)) (EV_call (by walk_at "glob") (by walk_at "kp") (ES_consP (by walk_at "pv") (ES_nil (sum_cast cells ▸ OPK_sumI fr.ok (.inl (by rw [← hci]; exact .head _)))) rfl) rfl rfl rfl) (by walk_at "up") ?_ rfl)
    obtain ⟨order, dP, g, ho, hol, hok, hd, hname, hasc, h7, h8, hsort, hw⟩ := lf.facts
    generalize cells.sum = total at g ho hd hname hasc h8 hsort
    refine EX_cons (E1_assign fr.ok (by decide) (fr.stoC cok rfl rfl) (EV_call (by walk_at "glob") (by walk_at "kp") (ES_consP (by walk_at "pv") (ES_consP (by walk_at "pv") (ES_nil (folders_ok (n := n + 7) (rm.less (by omega)) (.inl (.head _)) hcell fun aF => ⟨_, by walk_at "up", ?_⟩)) rfl) rfl) rfl rfl rfl) rfl)
    have ev : ∀ {l : List (Option V)} {μ : Mem} {a b : Nat} {p1 p2 p3 p4 p5 : Pos} {k1 k2 : Nat}, 0 < a → a < 1000 → 0 < b → Lk KS l "total" (.int (total : Nat)) → PV C KS l μ (.BinOp (.BinOp (.Name "total" p1) .FloorDiv (.Constant (.int a) k1 p2) p3) .Mod (.Constant (.int b) k2 p4) p5) (.int ((total / a % b : Nat) : Int)) := fun {l μ a b p1 p2 p3 p4 p5 k1 k2} ha ha2 hb hl => by
      have e : ((total / a % b : Nat) : Int) = (total : Int) / (a : Int) % (b : Int) := by norm_cast
      rw [e]
      exact EV_bin (EV_bin (fr.name hl rfl) PV_int (OPB_divI fr.ok (by omega) (PyProof.noPylong_small (by omega)))) PV_int (OPB_modI fr.ok (by omega))
    have e1 : ((1 + total / 20 % 4 : Nat) : Int) = 1 + ((total / 20 % 4 : Nat) : Int) := by norm_cast
    have e2 : ((1 + total / 80 % 2 : Nat) : Int) = 1 + ((total / 80 % 2 : Nat) : Int) := by norm_cast
    refine EX_cons (E1_assignP fr.ok (by decide) (fr.stoC cok rfl rfl) (v := .int ((1 + total / 20 % 4 : Nat) : Int)) (e1 ▸ EV_bin (by walk_at "pv") (ev (a := 20) (b := 4) (by decide) (by decide) (by decide) (by walk_at "lk")) OPB_addI) (by walk_at "up") ?_ rfl)
    refine EX_cons (E1_assignP fr.ok (by decide) (fr.stoC cok rfl rfl) (v := .int ((1 + total / 80 % 2 : Nat) : Int)) (e2 ▸ EV_bin (by walk_at "pv") (ev (a := 80) (b := 2) (by decide) (by decide) (by decide) (by walk_at "lk")) OPB_addI) (by walk_at "up") ?_ rfl)
    refine EX_cons (E1_assignP fr.ok (by decide) (fr.sto rfl) (v := .int ((total / 160 % 13 : Nat) : Int)) (ev (a := 160) (b := 13) (by decide) (by decide) (by decide) (by walk_at "lk")) (by walk_at "up") ?_ rfl)
    rw [← hM0]
    have pm : List.Perm (((77 : Addr), Ob.prop IsTab) :: ((84 : Addr), Ob.prop IsTab) :: [(aF, Ob.lst ((foldersL cells total 5).map fv)), (aX, Ob.lst (cells.map iv))]) ((aF, Ob.lst ((foldersL cells total 5).map fv)) :: (aX, Ob.lst (cells.map iv)) :: [((77 : Addr), Ob.prop IsTab), ((84 : Addr), Ob.prop IsTab)]) :=
      List.perm_append_comm (l₁ := [((77 : Addr), Ob.prop IsTab), ((84 : Addr), Ob.prop IsTab)]) (l₂ := [(aF, Ob.lst ((foldersL cells total 5).map fv)), (aX, Ob.lst (cells.map iv))])
    refine EX_perm pm ?_
    have ht : 1 + total / 20 % 4 ≤ 100 := by have := Nat.mod_lt (total / 20) (show 4 > 0 by decide); omega
    have hr : 1 + total / 80 % 2 = 1 ∨ 1 + total / 80 % 2 = 2 := by have := Nat.mod_lt (total / 80) (show 2 > 0 by decide); omega
    have hb : total / 160 % 13 ≤ 100 := by have := Nat.mod_lt (total / 160) (show 13 > 0 by decide); omega
    generalize 1 + total / 20 % 4 = t at ht hd hname hasc h8 hsort
    generalize 1 + total / 80 % 2 = r at hr hd hname hasc hsort
    generalize total / 160 % 13 = bd at hb
    exact lawB_ok (n := n) fr0 cok0 rm pg hbm g ht hr hb ho hol hok hd hname hasc h7 h8 hsort hw (.head _) hΨ
end
-- L1.lean
/-! the plain law -/
noncomputable def sg (fs : List Fo) (k : Nat) : Nat := (fo fs k).2.1
noncomputable def rn (fs : List Fo) (k : Nat) : Nat := (fo fs k).2.2
noncomputable def stepB (fs : List Fo) (a b : Nat) : Bool :=
  decide (upL fs 6 b = (upL fs 6 b).dropLast ++ [b]) && decide (upL fs 6 a = (upL fs 6 b).dropLast ++ (upL fs 6 a).drop (upL fs 6 b).dropLast.length) && ((upL fs 6 a).drop (upL fs 6 b).dropLast.length).head?.all fun n => decide (sg fs n < sg fs b)
noncomputable def chainB (f : Nat → Nat → Bool) : List Nat → Bool
  | a :: b :: r => f a b && chainB f (b :: r)
  | _ => true
noncomputable def piecesP (fs : List Fo) (t p : Nat) : List Nat → List Pc
  | [] => []
  | k :: r => if sg fs k = 34 then (if 0 < rn fs k * t / p then [(34, rn fs k * t / p)] else []) ++ (if 0 < rn fs k * t % p then [] else piecesP fs t p r)
    else (if 0 < rn fs k then [(sg fs k, rn fs k)] else []) ++ piecesP fs t p r
theorem piecesP_pc (fs : List Fo) (t p : Nat) : ∀ w, (piecesP fs t p w).map pc = piecesL fs t p w
  | [] => rfl
  | k :: r => by
    have ih := piecesP_pc fs t p r
    rw [piecesP, piecesL, sg, rn]
    by_cases h : (fo fs k).2.1 = 34
    · rw [if_pos h, if_pos h, List.map_append]
      congr 1
      · split <;> rfl
      · split
        · rfl
        · exact ih
    · rw [if_neg h, if_neg h, List.map_append]
      congr 1
      split <;> rfl
noncomputable def cutB (fs : List Fo) (t p : Nat) (w : List Nat) : Bool := w.any fun k => decide (sg fs k = 34) && decide (0 < rn fs k * t % p)
theorem piecesP_app (fs : List Fo) (t p : Nat) (v : List Nat) : ∀ w, piecesP fs t p (w ++ v) = piecesP fs t p w ++ (if cutB fs t p w = true then [] else piecesP fs t p v)
  | [] => by simp [piecesP, cutB]
  | k :: r => by
    have ih := piecesP_app fs t p v r
    rw [List.cons_append, piecesP, piecesP]
    by_cases h : sg fs k = 34
    · rw [if_pos h, if_pos h]
      by_cases h2 : 0 < rn fs k * t % p
      · rw [if_pos h2, if_pos h2]
        have : cutB fs t p (k :: r) = true := by simp [cutB, h, h2]
        rw [if_pos this, List.append_nil, List.append_nil]
      · rw [if_neg h2, if_neg h2]
        have : cutB fs t p (k :: r) = cutB fs t p r := by simp [cutB, h, h2]
        rw [this, ih, List.append_assoc]
    · rw [if_neg h, if_neg h]
      have : cutB fs t p (k :: r) = cutB fs t p r := by simp [cutB, h]
      rw [this, ih, List.append_assoc]
theorem piecesP_head {fs : List Fo} {t p n : Nat} {r : List Nat} (hr : 0 < rn fs n) (ht : 0 < t) (hp : 0 < p) {q : Pc} (h : (piecesP fs t p (n :: r))[0]? = some q) : q.1 = sg fs n := by
  rw [piecesP] at h
  by_cases e : sg fs n = 34
  · rw [if_pos e] at h
    by_cases e2 : 0 < rn fs n * t / p
    · rw [if_pos e2] at h
      have := Option.some.inj h
      rw [← this, e]
    · rw [if_neg e2] at h
      have h0 : 0 < rn fs n * t := Nat.mul_pos hr ht
      have h1 : rn fs n * t < p := by
        rcases Nat.lt_or_ge (rn fs n * t) p with h | h
        · exact h
        · exact absurd (Nat.div_pos h hp) e2
      rw [Nat.mod_eq_of_lt h1, if_pos h0] at h
      cases h
  · rw [if_neg e, if_pos hr] at h
    have := Option.some.inj h
    rw [← this]
theorem piecesP_mem {fs : List Fo} {t p B : Nat} : ∀ {w : List Nat}, (∀ k ∈ w, rn fs k ≤ B ∧ rn fs k * t / p ≤ B) → ∀ q ∈ piecesP fs t p w, q.2 ≤ B ∧ 0 < q.2
  | [], _, q, h => by cases h
  | k :: r, hb, q, h => by
    have ih := piecesP_mem (fs := fs) (t := t) (p := p) (w := r) fun k hk => hb k (.tail _ hk)
    have h0 := hb k (.head _)
    rw [piecesP] at h
    by_cases e : sg fs k = 34
    · rw [if_pos e] at h
      rcases List.mem_append.mp h with h | h
      · split at h
        · rw [List.mem_singleton.mp h]; exact ⟨h0.2, by assumption⟩
        · cases h
      · split at h
        · cases h
        · exact ih q h
    · rw [if_neg e] at h
      rcases List.mem_append.mp h with h | h
      · split at h
        · rw [List.mem_singleton.mp h]; exact ⟨h0.1, by assumption⟩
        · cases h
      · exact ih q h
theorem piecesP_len {fs : List Fo} {t p : Nat} : ∀ w : List Nat, (piecesP fs t p w).length ≤ w.length
  | [] => Nat.le_refl _
  | k :: r => by
    have ih := piecesP_len (fs := fs) (t := t) (p := p) r
    rw [piecesP, List.length_cons]
    split <;> rw [List.length_append]
    · split <;> split <;> simp <;> omega
    · split <;> simp <;> omega
theorem txt_len {B : Nat} : ∀ {ps : List Pc}, (∀ q ∈ ps, q.2 ≤ B) → (txt ps).length ≤ ps.length * B
  | [], _ => by simp [txt]
  | q :: r, h => by
    have ih := txt_len (B := B) (ps := r) fun q hq => h q (.tail _ hq)
    have h0 := h q (.head _)
    rw [txt_cons, List.length_append, List.length_cons, Nat.add_mul]
    have : (pc q).length = q.2 := by simp [pc]
    omega
theorem parse_rep {c : Nat} (hc : c ≠ 34) (x : List Nat) : ∀ n, parseL (List.replicate n c ++ x) = List.replicate n c ++ parseL x
  | 0 => rfl
  | n + 1 => by rw [List.replicate_succ, List.cons_append, parseL_c hc, parse_rep hc x n]; rfl
theorem parse_id : ∀ {x : List Nat}, (∀ c ∈ x, c ≠ 34) → parseL x = x
  | [], _ => rfl
  | c :: r, h => by rw [parseL_c (h c (.head _)), parse_id fun c hc => h c (.tail _ hc)]
theorem parse_q {x : List Nat} (hx : ∀ c ∈ x, c ≠ 34) : ∀ n, parseL (List.replicate n 34 ++ x) = List.replicate (n / 2) 34 ++ (if n % 2 = 0 then x else [])
  | 0 => by simp [parse_id hx]
  | 1 => by
    show parseL (34 :: x) = _
    rw [parseL_q (fun e => hx 34 (List.mem_of_mem_head? (by rw [e]; rfl)) rfl)]
    simp
  | n + 2 => by
    have ih := parse_q hx n
    rw [List.replicate_succ, List.replicate_succ, List.cons_append, List.cons_append, parseL_qq, ih]
    have h1 : (n + 2) / 2 = n / 2 + 1 := by omega
    have h2 : (n + 2) % 2 = n % 2 := by omega
    rw [h1, h2, List.replicate_succ, List.cons_append]
theorem txt_if {n c : Nat} : txt (if 0 < n then [(c, n)] else []) = List.replicate n c := by
  split
  · rw [txt_one]; rfl
  · rw [show n = 0 by omega]; rfl
theorem no_quote {fs : List Fo} {t p : Nat} : ∀ {w : List Nat}, 34 ∉ w.map (sg fs) → (∀ c ∈ txt (piecesP fs t p w), c ≠ 34) ∧ ∀ p', piecesP fs t p w = piecesP fs t p' w
  | [], _ => ⟨fun c h => (by cases h), fun _ => rfl⟩
  | k :: r, h => by
    rw [List.map_cons, List.mem_cons, not_or] at h
    have ih := no_quote (fs := fs) (t := t) (p := p) (w := r) h.2
    have e : sg fs k ≠ 34 := fun e => h.1 e.symm
    refine ⟨fun c hc => ?_, fun p' => ?_⟩
    · rw [piecesP, if_neg e, txt_app, txt_if] at hc
      rcases List.mem_append.mp hc with hc | hc
      · rw [(List.mem_replicate.mp hc).2]; exact e
      · exact ih.1 c hc
    · rw [piecesP, piecesP, if_neg e, if_neg e, ih.2 p']
theorem half_ok {fs : List Fo} {t p : Nat} (hp : 0 < p) : ∀ {w : List Nat}, (w.map (sg fs)).Nodup → parseL (txt (piecesP fs t p w)) = txt (piecesP fs t (p * 2) w)
  | [], _ => rfl
  | k :: r, h => by
    rw [List.map_cons, List.nodup_cons] at h
    rw [piecesP, piecesP]
    by_cases e : sg fs k = 34
    · rw [e] at h
      obtain ⟨h1, h2⟩ := no_quote (t := t) (p := p) h.1
      rw [if_pos e, if_pos e, txt_app, txt_app, txt_if, txt_if, ← h2 (p * 2), ← Nat.div_div_eq_div_mul, Nat.mod_mul]
      generalize rn fs k * t = N
      rw [parse_q (by split; (intro c hc; cases hc); exact h1)]
      congr 1
      by_cases a : 0 < N % p
      · rw [if_pos a, if_pos (Nat.lt_of_lt_of_le a (Nat.le_add_right _ _))]
        split <;> rfl
      · rw [if_neg a]
        have a0 : N % p = 0 := by omega
        rw [a0, Nat.zero_add]
        by_cases b : N / p % 2 = 0
        · rw [if_pos b, b, Nat.mul_zero, if_neg (by omega)]
        · rw [if_neg b]
          have b1 : N / p % 2 = 1 := by omega
          rw [b1, Nat.mul_one, if_pos hp]
          rfl
    · rw [if_neg e, if_neg e, txt_app, txt_app, txt_if, parse_rep e, half_ok hp h.2]
theorem name_due {fs : List Fo} {t : Nat} {w : List Nat} (h : (w.map (sg fs)).Nodup) : ∀ r, readN r (txt (piecesP fs t 1 w)) = txt (piecesP fs t (2 ^ r) w)
  | 0 => rfl
  | r + 1 => by rw [readN, name_due h r, half_ok (Nat.two_pow_pos r) h, Nat.pow_succ]
/-! the sort -/
theorem risingS_pw : ∀ {r : List Str} {p : Str}, risingS p r = true → (p :: r).Pairwise fun a b => a.cps.toList ≤ b.cps.toList
  | [], p, _ => by simp
  | x :: r, p, h => by
    rw [risingS, Bool.and_eq_true, ltCps_eq] at h
    have ih := risingS_pw h.2
    have h1 : p.cps.toList ≤ x.cps.toList := by
      have := h.1
      simp only [Bool.not_eq_true', decide_eq_false_iff_not] at this
      exact this
    rw [List.pairwise_cons]
    refine ⟨fun a ha => ?_, ih⟩
    rcases List.mem_cons.mp ha with rfl | ha
    · exact h1
    · exact List.le_trans h1 ((List.pairwise_cons.mp ih).1 a ha)
theorem sort_uniq {ys : List Str} {zs : List (List Nat)} (hp : ys.Perm (zs.map S)) (hs : sortedS ys = true) (hz : zs.Pairwise (· ≤ ·)) : ys = zs.map S := by
  have h1 : ys.Pairwise fun a b => a.cps.toList ≤ b.cps.toList := by
    cases ys with
    | nil => exact .nil
    | cons y r => exact risingS_pw hs
  have h2 : (zs.map S).Pairwise fun a b => a.cps.toList ≤ b.cps.toList := by
    rw [List.pairwise_map]
    exact hz.imp fun h => by show (S _).cps.toList ≤ (S _).cps.toList; simp only [S]; exact h
  refine List.Perm.eq_of_pairwise (le := fun a b : Str => a.cps.toList ≤ b.cps.toList) (fun a b _ _ x y => ?_) h1 h2 hp
  obtain ⟨⟨a⟩⟩ := a
  obtain ⟨⟨b⟩⟩ := b
  have : a = b := List.le_antisymm x y
  rw [this]
-- L2.lean
/-! the walk over the order -/
theorem walk_sorted : ∀ {D : List (List Pc)} {last laid : List Pc}, WalkP last laid D → Fit last laid → (txt last :: D.map txt).Pairwise (· ≤ ·)
  | [], last, laid, _, _ => by simp
  | pieces :: rest, last, laid, w, f => by
    cases w with
    | cons sp h7 h40 hr =>
      obtain ⟨j, nw, p⟩ := sp.parts
      have ih := walk_sorted hr (p.fit f h7 h40)
      have h1 : txt last ≤ txt pieces := by
        by_cases e : nw = []
        · have : pieces = last := by
            rcases p.kind with ⟨_, hj, _⟩ | ⟨c, n, rfl, _⟩
            · rw [p.peq, e, hj, List.take_length, List.append_nil]
            · cases e
          rw [this]
          exact List.le_refl _
        · exact List.le_of_lt (p.lt f e)
      rw [List.map_cons, List.pairwise_cons]
      refine ⟨fun a ha => ?_, ih⟩
      rcases List.mem_cons.mp ha with rfl | ha
      · exact h1
      · exact List.le_trans h1 ((List.pairwise_cons.mp ih).1 a ha)
structure Way (fs : List Fo) (k : Nat) : Prop where
  len : (upL fs 6 k).length ≤ 6
  head : (upL fs 6 k).head? = some 0
  nd : ((upL fs 6 k).map (sg fs)).Nodup
  lt : ∀ c ∈ upL fs 6 k, c < 6
structure Cfg (fs : List Fo) : Prop where
  way : ∀ {k : Nat}, k < 6 → Way fs k
  sg0 : sg fs 0 = 47
  al : ∀ {k : Nat}, k < 6 → sg fs k ∈ Al
  order : ∃ o, orderL fs 7 0 = some o ∧ o.length = 6 ∧ (∀ k ∈ o, k < 6) ∧ (o.map (sg fs)).Nodup ∧ o.head? = some 0 ∧ chainB (stepB fs) o = true
  run : ∀ k, k < 6 → 0 < rn fs k ∧ rn fs k ≤ 3
  run0 : rn fs 0 = 1
section
variable {fs : List Fo} (c : Cfg fs)
include c
variable {t p : Nat}
theorem Cfg.step (ht : 0 < t) (hp : 0 < p) {a b : Nat} (ha : a < 6) (hb : b < 6) (h : stepB fs a b = true) {laid : List Pc} (hl : ∀ q ∈ laid, q.1 ≠ sg fs b) : ∃ laid', StepP (piecesP fs t p (upL fs 6 a)) laid (piecesP fs t p (upL fs 6 b)) laid' ∧ ∀ q ∈ laid', q ∈ laid ∨ q.1 = sg fs b := by
  unfold stepB at h
  simp only [Bool.and_eq_true, decide_eq_true_eq] at h
  obtain ⟨⟨h1, h2⟩, h3⟩ := h
  have wa := c.way ha
  have hA := wa.lt
  have hne : piecesP fs t p (upL fs 6 a) ≠ [] := by
    have := wa.head
    cases e : upL fs 6 a with
    | nil => rw [e] at this; cases this
    | cons x r =>
      rw [e] at this
      obtain rfl := Option.some.inj this
      rw [piecesP, c.sg0, if_neg (by decide), c.run0]
      simp
  generalize (upL fs 6 b).dropLast = pre at h1 h2 h3
  generalize (upL fs 6 a).drop pre.length = rest at h2 h3
  generalize upL fs 6 a = wa' at h2 hA hne
  subst h2
  rw [h1]
  rw [piecesP_app fs t p [b] pre]
  have ea := piecesP_app fs t p rest pre
  by_cases hc : cutB fs t p pre = true
  · rw [if_pos hc] at ea ⊢
    rw [ea] at hne ⊢
    exact ⟨laid, .same hne, fun q h => .inl h⟩
  · rw [if_neg hc] at ea ⊢
    rw [ea] at hne ⊢
    have hrb := (c.run b hb).1
    have hB : piecesP fs t p [b] = [] ∧ sg fs b = 34 ∨ ∃ n, 0 < n ∧ piecesP fs t p [b] = [(sg fs b, n)] := by
      rw [piecesP]
      by_cases e : sg fs b = 34
      · rw [if_pos e]
        by_cases e2 : 0 < rn fs b * t / p
        · refine .inr ⟨_, e2, ?_⟩
          rw [if_pos e2, e]
          split <;> rfl
        · refine .inl ⟨?_, e⟩
          rw [if_neg e2]
          split <;> rfl
      · rw [if_neg e, if_pos hrb]
        exact .inr ⟨_, hrb, rfl⟩
    rcases hB with ⟨hB, e⟩ | ⟨n, hn, hB⟩
    · have : rest = [] := by
        cases rest with
        | nil => rfl
        | cons n r =>
          have hn := hA n (List.mem_append_right _ (.head _))
          have h4 : sg fs n < sg fs b := by simpa using h3
          have h5 := c.al hn
          rw [e] at h4
          simp [Al] at h5
          omega
      subst this
      rw [hB]
      rw [piecesP] at hne ⊢
      exact ⟨laid, .same hne, fun q h => .inl h⟩
    · rw [hB]
      have e1 : (piecesP fs t p pre ++ piecesP fs t p rest).take (piecesP fs t p pre).length = piecesP fs t p pre := List.take_left
      have := StepP.next (last := piecesP fs t p pre ++ piecesP fs t p rest) (laid := laid) (piecesP fs t p pre).length (sg fs b) n (by rw [List.length_append]; omega) hn (c.al hb) hl (fun q hq => ?_)
      · rw [e1] at this
        refine ⟨_, this, fun q hq => ?_⟩
        rcases List.mem_append.mp hq with hq | hq
        · exact .inl hq
        · rw [List.mem_singleton.mp hq]; exact .inr rfl
      · rw [List.getElem?_append_right (Nat.le_refl _), Nat.sub_self] at hq
        cases rest with
        | nil => cases hq
        | cons m r =>
          have hm := hA m (List.mem_append_right _ (.head _))
          have h4 : sg fs m < sg fs b := by simpa using h3
          rw [piecesP_head (c.run m hm).1 ht hp hq]
          exact h4
theorem Cfg.sizes {B : Nat} (hB : 3 ≤ B) (hb : 3 * t / p ≤ B) {k : Nat} (hk : k < 6) : (piecesP fs t p (upL fs 6 k)).length ≤ 6 ∧ (txt (piecesP fs t p (upL fs 6 k))).length ≤ 6 * B := by
  have w := c.way hk
  have h1 := Nat.le_trans (piecesP_len (fs := fs) (t := t) (p := p) (upL fs 6 k)) w.len
  have h2 := txt_len (B := B) (ps := piecesP fs t p (upL fs 6 k)) fun q hq => (piecesP_mem (fun k hk => by
    have := c.run k (w.lt k hk)
    refine ⟨by omega, Nat.le_trans (Nat.div_le_div_right (Nat.mul_le_mul_right t this.2)) hb⟩) q hq).1
  exact ⟨h1, Nat.le_trans h2 (Nat.mul_le_mul_right B h1)⟩
omit c in
theorem walk_chain (c : Cfg fs) (ht : 0 < t) (hp : 0 < p) (hb : 3 * t / p ≤ 6) : ∀ (o : List Nat) (a : Nat) (laid : List Pc), a < 6 → (∀ k ∈ o, k < 6) → chainB (stepB fs) (a :: o) = true → (o.map (sg fs)).Nodup → (∀ q ∈ laid, ∀ b ∈ o, q.1 ≠ sg fs b) → WalkP (piecesP fs t p (upL fs 6 a)) laid (o.map fun k => piecesP fs t p (upL fs 6 k))
  | [], a, laid, _, _, _, _, _ => .nil
  | b :: o, a, laid, ha, ho, hc, hn, hl => by
    rw [chainB, Bool.and_eq_true] at hc
    rw [List.map_cons, List.nodup_cons] at hn
    have hb6 := ho b (.head _)
    obtain ⟨laid', s, k⟩ := c.step ht hp ha hb6 hc.1 (laid := laid) fun q hq => hl q hq b (.head _)
    have hz := c.sizes (t := t) (p := p) (B := 6) (by decide) hb hb6
    refine WalkP.cons s (Nat.le_trans hz.1 (by decide)) (Nat.le_trans hz.2 (by decide)) (walk_chain c ht hp hb o b laid' hb6 (fun k hk => ho k (.tail _ hk)) hc.2 hn.2 fun q hq d hd => ?_)
    rcases k q hq with h | h
    · exact hl q h d (.tail _ hd)
    · rw [h]
      exact fun e => hn.1 (e ▸ List.mem_map_of_mem hd)
end
-- L3.lean
/-! all trees -/
noncomputable def sgq (m q k : Nat) : Nat := if k = 1 + q then 34 else 97 + k * (1 + m) % 5
noncomputable def kidsB (σ : Nat → Nat) (b : Nat → Bool) : Nat → List (Nat × Nat)
  | 0 => []
  | n + 1 => kidsB σ b n ++ (if b (n + 1) = true then [(σ (n + 1), n + 1)] else [])
noncomputable def sortB (σ : Nat → Nat) (b : Nat → Bool) : Bool := match sortKids (kidsB σ b 5) with
  | none => false
  | some ks => decide ((ks.map fun q : Nat × Nat => q.2).Pairwise fun x y => σ x < σ y) && decide (∀ k ∈ ks.map fun q : Nat × Nat => q.2, 0 < k ∧ k < 6 ∧ b k = true) && [1, 2, 3, 4, 5].all fun k => !b k || decide (k ∈ ks.map fun q : Nat × Nat => q.2)
noncomputable def bsel (b1 b2 b3 b4 b5 : Bool) : Nat → Bool
  | 1 => b1
  | 2 => b2
  | 3 => b3
  | 4 => b4
  | 5 => b5
  | _ => false
theorem sort_sg : ∀ m ∈ [0, 1, 2, 3], ∀ q ∈ [0, 1, 2, 3, 4], ∀ b1 b2 b3 b4 b5, sortB (sgq m q) (bsel b1 b2 b3 b4 b5) = true := by decide +kernel
theorem kidsB_eq {σ τ : Nat → Nat} {b c : Nat → Bool} : ∀ n, (∀ k, 0 < k → k ≤ n → σ k = τ k ∧ b k = c k) → kidsB σ b n = kidsB τ c n
  | 0, _ => rfl
  | n + 1, h => by
    have h1 := h (n + 1) (by omega) (by omega)
    rw [kidsB, kidsB, kidsB_eq n fun k a b => h k a (by omega), h1.1, h1.2]
theorem kidsL_B {fs : List Fo} {node : Nat} : ∀ n, kidsL fs node n = kidsB (sg fs) (fun k => decide ((fo fs k).1 = node)) n
  | 0 => rfl
  | n + 1 => by
    rw [kidsL, kidsB, kidsL_B n]
    congr 1
    by_cases h : (fo fs (n + 1)).1 = node
    · rw [if_pos h, if_pos (decide_eq_true h)]; rfl
    · rw [if_neg h, if_neg (by simp [h])]
structure Tree (fs : List Fo) : Prop where
  par : ∀ k, 0 < k → k < 6 → (fo fs k).1 < k
  kids : ∀ node, ∃ ks, sortKids (kidsL fs node 5) = some ks ∧ (ks.map (·.2)).Pairwise (fun x y => sg fs x < sg fs y) ∧ (∀ k ∈ ks.map (·.2), 0 < k ∧ k < 6 ∧ (fo fs k).1 = node) ∧ ∀ k, 0 < k → k < 6 → (fo fs k).1 = node → k ∈ ks.map (·.2)
theorem five {p : Nat → Prop} (h1 : p 1) (h2 : p 2) (h3 : p 3) (h4 : p 4) (h5 : p 5) : ∀ k, 0 < k → k ≤ 5 → p k := by
  intro k h0 h
  have : k = 1 ∨ k = 2 ∨ k = 3 ∨ k = 4 ∨ k = 5 := by omega
  rcases this with rfl | rfl | rfl | rfl | rfl <;> assumption
theorem kids_all {fs : List Fo} {m q : Nat} (hm : m < 4) (hq : q < 5) (hs : ∀ k, 0 < k → k < 6 → sg fs k = sgq m q k) (node : Nat) : ∃ ks, sortKids (kidsL fs node 5) = some ks ∧ (ks.map (·.2)).Pairwise (fun x y => sg fs x < sg fs y) ∧ (∀ k ∈ ks.map (·.2), 0 < k ∧ k < 6 ∧ (fo fs k).1 = node) ∧ ∀ k, 0 < k → k < 6 → (fo fs k).1 = node → k ∈ ks.map (·.2) := by
  have e : kidsL fs node 5 = kidsB (sgq m q) (bsel (decide ((fo fs 1).1 = node)) (decide ((fo fs 2).1 = node)) (decide ((fo fs 3).1 = node)) (decide ((fo fs 4).1 = node)) (decide ((fo fs 5).1 = node))) 5 := by
    rw [kidsL_B]
    exact kidsB_eq 5 (five ⟨hs 1 (by decide) (by decide), rfl⟩ ⟨hs 2 (by decide) (by decide), rfl⟩ ⟨hs 3 (by decide) (by decide), rfl⟩ ⟨hs 4 (by decide) (by decide), rfl⟩ ⟨hs 5 (by decide) (by decide), rfl⟩)
  have h := sort_sg m (by simp; omega) q (by simp; omega) (decide ((fo fs 1).1 = node)) (decide ((fo fs 2).1 = node)) (decide ((fo fs 3).1 = node)) (decide ((fo fs 4).1 = node)) (decide ((fo fs 5).1 = node))
  have hb : ∀ k, 0 < k → k ≤ 5 → bsel (decide ((fo fs 1).1 = node)) (decide ((fo fs 2).1 = node)) (decide ((fo fs 3).1 = node)) (decide ((fo fs 4).1 = node)) (decide ((fo fs 5).1 = node)) k = decide ((fo fs k).1 = node) := five rfl rfl rfl rfl rfl
  generalize bsel (decide ((fo fs 1).1 = node)) (decide ((fo fs 2).1 = node)) (decide ((fo fs 3).1 = node)) (decide ((fo fs 4).1 = node)) (decide ((fo fs 5).1 = node)) = b at e h hb
  rw [e]
  unfold sortB at h
  split at h
  · cases h
  · rename_i ks hk
    simp only [Bool.and_eq_true, decide_eq_true_eq] at h
    obtain ⟨⟨h1, h2⟩, h3⟩ := h
    refine ⟨ks, hk, h1.imp_of_mem fun {x y} hx hy l => ?_, fun k hk => ?_, fun k a c d => ?_⟩
    · have hx := h2 x hx
      have hy := h2 y hy
      rw [hs x hx.1 hx.2.1, hs y hy.1 hy.2.1]
      exact l
    · obtain ⟨a, c, d⟩ := h2 k hk
      rw [hb k a (by omega)] at d
      exact ⟨a, c, of_decide_eq_true d⟩
    · have := List.all_eq_true.mp h3 k (by simp; omega)
      rw [hb k a (by omega), decide_eq_true d] at this
      exact of_decide_eq_true this
section
variable {fs : List Fo} (T : Tree fs)
include T
theorem up_fuel : ∀ n k, k ≤ n → k < 6 → upL fs (n + 1) k = upL fs n k
  | 0, k, h, _ => by
    obtain rfl : k = 0 := by omega
    rfl
  | n + 1, k, h, h6 => by
    by_cases e : k = 0
    · subst e; rfl
    · have := T.par k (by omega) h6
      rw [upL, if_neg e, up_fuel n _ (by omega) (by omega)]
      conv => rhs; rw [upL, if_neg e]
theorem up_par {k : Nat} (h0 : 0 < k) (h6 : k < 6) : upL fs 6 k = upL fs 6 (fo fs k).1 ++ [k] := by
  have := T.par k h0 h6
  rw [up_fuel T 5 k (by omega) h6, upL, if_neg (by omega), up_fuel T 5 _ (by omega) (by omega), up_fuel T 4 _ (by omega) (by omega)]
theorem up_pw : ∀ n k, k ≤ n → k < 6 → (upL fs 6 k).Pairwise (· < ·) ∧ (∀ x ∈ upL fs 6 k, x ≤ k) ∧ (upL fs 6 k).head? = some 0
  | 0, k, h, _ => by
    obtain rfl : k = 0 := by omega
    have : upL fs 6 0 = [0] := rfl
    rw [this]
    simp
  | n + 1, k, h, h6 => by
    by_cases e : k = 0
    · exact up_pw n k (by omega) h6
    · have hp := T.par k (by omega) h6
      obtain ⟨a, b, c⟩ := up_pw n (fo fs k).1 (by omega) (by omega)
      rw [up_par T (by omega) h6]
      refine ⟨List.pairwise_append.mpr ⟨a, List.pairwise_singleton _ _, fun x hx y hy => ?_⟩, fun x hx => ?_, ?_⟩
      · rw [List.mem_singleton.mp hy]
        have := b x hx
        omega
      · rcases List.mem_append.mp hx with hx | hx
        · have := b x hx
          omega
        · rw [List.mem_singleton.mp hx]; exact Nat.le_refl _
      · rw [List.head?_append, c]; rfl
theorem up_ne {k : Nat} (h : k < 6) : upL fs 6 k ≠ [] := by
  have := (up_pw T k k (Nat.le_refl _) h).2.2
  intro e
  rw [e] at this
  cases this
theorem up_last {k : Nat} (h : k < 6) : ∃ i, upL fs 6 k = i ++ [k] := by
  by_cases e : k = 0
  · subst e; exact ⟨[], rfl⟩
  · exact ⟨_, up_par T (by omega) h⟩
theorem up_inj {a b : Nat} (ha : a < 6) (hb : b < 6) (h : upL fs 6 a = upL fs 6 b) : a = b := by
  obtain ⟨i, e⟩ := up_last T ha
  obtain ⟨j, f⟩ := up_last T hb
  rw [e, f] at h
  exact List.singleton_inj.mp (List.append_inj' h rfl).2
theorem up_cut : ∀ n a {x k : Nat} {r : List Nat}, a ≤ n → a < 6 → x < 6 → upL fs 6 a = upL fs 6 x ++ k :: r → 0 < k ∧ k < 6 ∧ (fo fs k).1 = x ∧ ∃ r', upL fs 6 a = upL fs 6 k ++ r'
  | n, a, x, k, r, hn, ha, hx, h => by
    by_cases e : a = 0
    · subst e
      have h0 : upL fs 6 0 = [0] := rfl
      have hl := congrArg List.length h
      have := List.length_pos_iff.mpr (up_ne T hx)
      rw [h0, List.length_append, List.length_cons, List.length_cons, List.length_nil] at hl
      omega
    · have hp := T.par a (by omega) ha
      have hu := up_par T (by omega : 0 < a) ha
      rcases List.eq_nil_or_concat r with rfl | ⟨r', y, rfl⟩
      · rw [hu] at h
        have h2 := List.append_inj' h rfl
        obtain rfl : a = k := List.singleton_inj.mp h2.2
        refine ⟨by omega, ha, up_inj T (by omega) hx h2.1, [], by rw [List.append_nil]⟩
      · rw [hu, List.concat_eq_append, ← List.cons_append, ← List.append_assoc] at h
        have h2 := List.append_inj' h rfl
        match n, hn with
        | 0, hn => omega
        | n + 1, hn =>
          obtain ⟨p, q, s, t, u⟩ := up_cut n (fo fs a).1 (by omega) (by omega) hx h2.1
          exact ⟨p, q, s, t ++ [a], by rw [hu, u, List.append_assoc]⟩
end
/-- k stands on the way to a -/
noncomputable def On (fs : List Fo) (k a : Nat) : Prop := ∃ r, upL fs 6 a = upL fs 6 k ++ r
structure Sub (fs : List Fo) (node : Nat) (o : List Nat) : Prop where
  mem : ∀ a, a ∈ o ↔ a < 6 ∧ On fs node a
  nd : o.Nodup
  chain : chainB (stepB fs) o = true
theorem chain_app {f : Nat → Nat → Bool} {b : Nat} {m : List Nat} : ∀ {l : List Nat}, chainB f l = true → chainB f (b :: m) = true → (∀ a, l.getLast? = some a → f a b = true) → chainB f (l ++ b :: m) = true
  | [], _, h, _ => h
  | [a], _, h, g => by
    rw [List.cons_append, List.nil_append, chainB, g a rfl, h]; rfl
  | a :: c :: l, h1, h, g => by
    rw [chainB, Bool.and_eq_true] at h1
    rw [List.cons_append, List.cons_append, chainB, h1.1, Bool.true_and, ← List.cons_append]
    exact chain_app (l := c :: l) h1.2 h fun a e => g a (by rw [List.getLast?_cons_cons]; exact e)
structure Acc (fs : List Fo) (node : Nat) (acc c : List Nat) : Prop where
  nd : acc.Nodup
  chain : chainB (stepB fs) acc = true
  out : ∀ a ∈ acc, ∀ k ∈ c, ¬ On fs k a
  last : ∀ a, acc.getLast? = some a → a < 6 ∧ ∃ rest, upL fs 6 a = upL fs 6 node ++ rest ∧ ∀ x, rest.head? = some x → ∀ k ∈ c, sg fs x < sg fs k
theorem dfs_in {fs : List Fo} (T : Tree fs) {n node : Nat} (ih : ∀ k, 0 < k → k < 6 → (fo fs k).1 = node → ∃ o, orderL fs n k = some (k :: o) ∧ Sub fs k (k :: o)) : ∀ (ks : List (Nat × Nat)) (acc : List Nat),
    (∀ k ∈ ks.map (·.2), 0 < k ∧ k < 6 ∧ (fo fs k).1 = node) → (ks.map (·.2)).Pairwise (fun x y => sg fs x < sg fs y) → Acc fs node acc (ks.map (·.2)) →
    ∃ t, ordersL (orderL fs n) ks acc = some (acc ++ t) ∧ (acc ++ t).Nodup ∧ chainB (stepB fs) (acc ++ t) = true ∧ ∀ a, a ∈ t ↔ ∃ k ∈ ks.map (·.2), a < 6 ∧ On fs k a
  | [], acc, _, _, A => ⟨[], by rw [List.append_nil]; rfl, by rw [List.append_nil]; exact A.nd, by rw [List.append_nil]; exact A.chain, by simp⟩
  | q :: ks, acc, hk, pw, A => by
    obtain ⟨k1, k2, k3⟩ := hk q.2 (.head _)
    obtain ⟨o, ho, so⟩ := ih q.2 k1 k2 k3
    rw [List.map_cons, List.pairwise_cons] at pw
    have hu := up_par T k1 k2
    rw [k3] at hu
    have A' : Acc fs node (acc ++ q.2 :: o) (ks.map (·.2)) := by
      refine ⟨List.nodup_append.mpr ⟨A.nd, so.nd, fun a ha b hb e => ?_⟩, chain_app A.chain so.chain fun a ha => ?_, fun a ha k hk2 => ?_, fun a ha => ?_⟩
      · exact A.out a ha q.2 (.head _) (e ▸ (so.mem b).mp hb).2
      · obtain ⟨a6, rest, r1, r2⟩ := A.last a ha
        rw [stepB, hu, List.dropLast_concat, r1, List.drop_left]
        simp only [decide_true, Bool.true_and, Option.all_eq_true_iff_get]
        intro h
        exact decide_eq_true (r2 _ (Option.some_get h).symm q.2 (.head _))
      · rcases List.mem_append.mp ha with ha | ha
        · exact A.out a ha k (.tail _ hk2)
        · rintro ⟨r, e⟩
          obtain ⟨_, r', e'⟩ := (so.mem a).mp ha
          obtain ⟨j1, j2, j3⟩ := hk k (.tail _ hk2)
          have hv := up_par T j1 j2
          rw [j3] at hv
          rw [e', hu, hv, List.append_assoc, List.append_assoc] at e
          have := (List.cons.inj (List.append_cancel_left e)).1
          have := pw.1 k hk2
          rw [← ‹q.2 = k›] at this
          omega
      · have hm : a ∈ q.2 :: o := by
          rw [List.getLast?_append] at ha
          cases hl : (q.2 :: o).getLast? with
          | none => rw [List.getLast?_eq_none_iff] at hl; cases hl
          | some b =>
            rw [hl] at ha
            obtain rfl : b = a := Option.some.inj ha
            exact List.mem_of_getLast? hl
        obtain ⟨a6, r, e⟩ := (so.mem a).mp hm
        refine ⟨a6, q.2 :: r, by rw [e, hu, List.append_assoc]; rfl, fun x hx k hk2 => ?_⟩
        obtain rfl : q.2 = x := Option.some.inj hx
        exact pw.1 k hk2
    obtain ⟨t, t1, t2, t3, t4⟩ := dfs_in T ih ks (acc ++ q.2 :: o) (fun k h => hk k (.tail _ h)) pw.2 A'
    refine ⟨q.2 :: o ++ t, ?_, by rw [← List.append_assoc]; exact t2, by rw [← List.append_assoc]; exact t3, fun a => ?_⟩
    · rw [ordersL, ho, Option.bind_some, t1, List.append_assoc]
    · rw [List.mem_append, t4, so.mem, List.map_cons]
      simp only [List.mem_cons, exists_eq_or_imp]
theorem dfs {fs : List Fo} (T : Tree fs) : ∀ n node, node < 6 → 7 ≤ n + node → ∃ o, orderL fs n node = some (node :: o) ∧ Sub fs node (node :: o)
  | 0, node, h, h7 => by omega
  | n + 1, node, h, h7 => by
    obtain ⟨ks, hs, pw, hk, hall⟩ := T.kids node
    have nil : On fs node node := ⟨[], by rw [List.append_nil]⟩
    have A : Acc fs node [node] (ks.map (·.2)) := by
      refine ⟨by simp, rfl, fun a ha k hk2 => ?_, fun a ha => ?_⟩
      · rintro ⟨r, e⟩
        obtain ⟨j1, j2, j3⟩ := hk k hk2
        have hv := up_par T j1 j2
        rw [List.mem_singleton.mp ha, hv, j3] at e
        have := congrArg List.length e
        simp at this
      · obtain rfl : node = a := Option.some.inj ha
        exact ⟨h, [], by rw [List.append_nil], fun x hx => by cases hx⟩
    obtain ⟨t, t1, t2, t3, t4⟩ := dfs_in T (fun k a b c => dfs T n k b (by have := T.par k a b; omega)) ks [node] hk pw A
    refine ⟨t, ?_, fun a => ?_, t2, t3⟩
    · rw [orderL, hs, Option.bind_some, t1]; rfl
    · rw [List.mem_cons, t4]
      constructor
      · rintro (rfl | ⟨k, hk2, a6, r, e⟩)
        · exact ⟨h, nil⟩
        · obtain ⟨j1, j2, j3⟩ := hk k hk2
          exact ⟨a6, k :: r, by rw [e, up_par T j1 j2, j3, List.append_assoc]; rfl⟩
      · rintro ⟨a6, r, e⟩
        cases r with
        | nil => rw [List.append_nil] at e; exact .inl (up_inj T a6 h e)
        | cons k r =>
          obtain ⟨p, q, s, u⟩ := up_cut T a a (Nat.le_refl _) a6 h e
          exact .inr ⟨k, hall k p q s, a6, u⟩
theorem nd_len : ∀ (l m : List Nat), l.Nodup → (∀ x ∈ l, x ∈ m) → l.length ≤ m.length
  | [], m, _, _ => Nat.zero_le _
  | a :: l, m, h, s => by
    rw [List.nodup_cons] at h
    have h1 := nd_len l (m.erase a) h.2 fun x hx => (List.mem_erase_of_ne (a := x) (b := a) (fun e : x = a => h.1 (by rw [← e]; exact hx))).mpr (s x (.tail _ hx))
    have h2 := s a (.head _)
    have h3 := List.length_erase_of_mem h2
    have h4 := List.length_pos_of_mem h2
    rw [List.length_cons]
    omega
theorem nd_sg {fs : List Fo} (inj : ∀ a b, a < 6 → b < 6 → sg fs a = sg fs b → a = b) {o : List Nat} (hn : o.Nodup) (h6 : ∀ k ∈ o, k < 6) : (o.map (sg fs)).Nodup := by
  refine List.pairwise_map.mpr (hn.imp_of_mem fun {a b} ha hb ne e => ne (inj a b (h6 a ha) (h6 b hb) e))
theorem tree_way {fs : List Fo} (T : Tree fs) (inj : ∀ a b, a < 6 → b < 6 → sg fs a = sg fs b → a = b) {k : Nat} (h : k < 6) : Way fs k := by
  obtain ⟨a, b, c⟩ := up_pw T k k (Nat.le_refl _) h
  have lt : ∀ x ∈ upL fs 6 k, x < 6 := fun x hx => by have := b x hx; omega
  have nd : (upL fs 6 k).Nodup := a.imp fun h => Nat.ne_of_lt h
  exact ⟨nd_len _ (List.range 6) nd fun x hx => List.mem_range.mpr (lt x hx), c, nd_sg inj nd lt, lt⟩
theorem tree_order {fs : List Fo} (T : Tree fs) (inj : ∀ a b, a < 6 → b < 6 → sg fs a = sg fs b → a = b) : ∃ o, orderL fs 7 0 = some o ∧ o.length = 6 ∧ (∀ k ∈ o, k < 6) ∧ (o.map (sg fs)).Nodup ∧ o.head? = some 0 ∧ chainB (stepB fs) o = true := by
  obtain ⟨o, h, s⟩ := dfs T 7 0 (by decide) (by decide)
  have h6 : ∀ k ∈ 0 :: o, k < 6 := fun k hk => ((s.mem k).mp hk).1
  have all : ∀ k ∈ List.range 6, k ∈ 0 :: o := fun k hk => by
    have k6 := List.mem_range.mp hk
    refine (s.mem k).mpr ⟨k6, ?_⟩
    have hh := (up_pw T k k (Nat.le_refl _) k6).2.2
    have h0 : upL fs 6 0 = [0] := rfl
    rw [On, h0]
    cases e : upL fs 6 k with
    | nil => rw [e] at hh; cases hh
    | cons x r =>
      rw [e] at hh
      obtain rfl := Option.some.inj hh
      exact ⟨r, rfl⟩
  have l1 := nd_len _ _ s.nd fun k hk => List.mem_range.mpr (h6 k hk)
  have l2 := nd_len _ _ List.nodup_range all
  rw [List.length_range] at l1 l2
  exact ⟨0 :: o, h, by omega, h6, nd_sg inj s.nd h6, rfl, s.chain⟩
-- L4.lean
theorem foldersL_eq (cells : List Nat) (total : Nat) : foldersL cells total 5 = [(0, 47, 1), foldL cells total 1, foldL cells total 2, foldL cells total 3, foldL cells total 4, foldL cells total 5] := rfl
theorem six {p : Nat → Prop} (h0 : p 0) (h1 : p 1) (h2 : p 2) (h3 : p 3) (h4 : p 4) (h5 : p 5) : ∀ k, k < 6 → p k := by
  intro k h
  have : k = 0 ∨ k = 1 ∨ k = 2 ∨ k = 3 ∨ k = 4 ∨ k = 5 := by omega
  rcases this with rfl | rfl | rfl | rfl | rfl | rfl <;> assumption
theorem fold_run (cells : List Nat) (total k : Nat) : 0 < (foldL cells total k).2.2 ∧ (foldL cells total k).2.2 ≤ 3 := by
  show 0 < 1 + cells.getD (k - 1) 0 / k % 3 ∧ 1 + cells.getD (k - 1) 0 / k % 3 ≤ 3
  have := Nat.mod_lt (cells.getD (k - 1) 0 / k) (show 3 > 0 by decide)
  omega
theorem fold_par (cells : List Nat) (total k : Nat) (h : 0 < k) : (foldL cells total k).1 < k := Nat.mod_lt _ h
theorem good_all (cells : List Nat) (total : Nat) : Good (foldersL cells total 5) where
  len := rfl
  par := fun k h0 h => six (p := fun k => 0 < k → (fo (foldersL cells total 5) k).1 < k) (by omega) (fold_par cells total 1) (fold_par cells total 2) (fold_par cells total 3) (fold_par cells total 4) (fold_par cells total 5) k h h0
  run := fun k h => six (p := fun k => (fo (foldersL cells total 5) k).2.2 ≤ 3) (show (1 : Nat) ≤ 3 by decide) (fold_run cells total 1).2 (fold_run cells total 2).2 (fold_run cells total 3).2 (fold_run cells total 4).2 (fold_run cells total 5).2 k h
theorem sg_fold (cells : List Nat) (total : Nat) : ∀ k, 0 < k → k < 6 → sg (foldersL cells total 5) k = sgq (total / 5 % 4) (total % 5) k := fun k a b => five (p := fun k => sg (foldersL cells total 5) k = sgq (total / 5 % 4) (total % 5) k) rfl rfl rfl rfl rfl k a (by omega)
noncomputable def sg1 (m q k : Nat) : Nat := if k = 0 then 47 else sgq m q k
theorem sg1_inj : ∀ m ∈ [0, 1, 2, 3], ∀ q ∈ [0, 1, 2, 3, 4], ((List.range 6).all fun a => decide (sg1 m q a ∈ Al) && (List.range 6).all fun b => !(sg1 m q a == sg1 m q b) || a == b) = true := by decide +kernel
theorem cfg_all (cells : List Nat) (total : Nat) : Cfg (foldersL cells total 5) := by
  have hm : total / 5 % 4 < 4 := Nat.mod_lt _ (by decide)
  have hq : total % 5 < 5 := Nat.mod_lt _ (by decide)
  have hs := sg_fold cells total
  have h0 : sg (foldersL cells total 5) 0 = 47 := rfl
  have g := good_all cells total
  have T : Tree (foldersL cells total 5) := ⟨g.par, kids_all hm hq hs⟩
  have e : ∀ k, k < 6 → sg (foldersL cells total 5) k = sg1 (total / 5 % 4) (total % 5) k := fun k h => by
    by_cases e : k = 0
    · subst e; rfl
    · rw [sg1, if_neg e, hs k (by omega) h]
  have J := sg1_inj (total / 5 % 4) (by simp; omega) (total % 5) (by simp; omega)
  have inj : ∀ a b, a < 6 → b < 6 → sg (foldersL cells total 5) a = sg (foldersL cells total 5) b → a = b := fun a b ha hb h => by
    have := (Bool.and_eq_true_iff.mp (List.all_eq_true.mp J a (List.mem_range.mpr ha))).2
    have := List.all_eq_true.mp this b (List.mem_range.mpr hb)
    rw [← e a ha, ← e b hb, h] at this
    simpa using this
  exact ⟨tree_way T inj, h0, fun {k} h => by
    have := (Bool.and_eq_true_iff.mp (List.all_eq_true.mp J k (List.mem_range.mpr h))).1
    rw [e k h]
    exact of_decide_eq_true this, tree_order T inj, six (p := fun k => 0 < rn (foldersL cells total 5) k ∧ rn (foldersL cells total 5) k ≤ 3) (show 0 < (1 : Nat) ∧ (1 : Nat) ≤ 3 by decide) (fold_run cells total 1) (fold_run cells total 2) (fold_run cells total 3) (fold_run cells total 4) (fold_run cells total 5), rfl⟩
theorem perm_six {o : List Nat} (hn : o.Nodup) (hl : o.length = 6) (h : ∀ k ∈ o, k < 6) : o.Perm (List.range 6) := by
  have hsub : ∀ k ∈ o, k ∈ List.range 6 := fun k hk => List.mem_range.mpr (h k hk)
  rw [List.perm_iff_count]
  intro a
  rw [hn.count, (List.nodup_range (n := 6)).count]
  by_cases ha : a ∈ List.range 6
  · by_cases hb : a ∈ o
    · rw [if_pos ha, if_pos hb]
    · have := nd_len (a :: o) (List.range 6) (List.nodup_cons.mpr ⟨hb, hn⟩) (fun x hx => by
        rcases List.mem_cons.mp hx with rfl | hx
        · exact ha
        · exact hsub x hx)
      rw [List.length_cons, hl, List.length_range] at this
      omega
  · rw [if_neg ha, if_neg fun hb => ha (hsub a hb)]
theorem facts_all (cells : List Nat) : LawFacts cells := by
  constructor
  generalize cells.sum = total
  have g := good_all cells total
  have c := cfg_all cells total
  generalize foldersL cells total 5 = fs at g c
  have ht : 0 < 1 + total / 20 % 4 ∧ 1 + total / 20 % 4 ≤ 4 := by have := Nat.mod_lt (total / 20) (show 4 > 0 by decide); omega
  have hr : 1 + total / 80 % 2 = 1 ∨ 1 + total / 80 % 2 = 2 := by have := Nat.mod_lt (total / 80) (show 2 > 0 by decide); omega
  generalize 1 + total / 20 % 4 = t at ht
  generalize 1 + total / 80 % 2 = r at hr
  obtain ⟨o, ho, hl, hlt, hnd, hh, hc⟩ := c.order
  have hp : 0 < 2 ^ r := Nat.two_pow_pos r
  have hb : 3 * t / 2 ^ r ≤ 6 := by rcases hr with rfl | rfl <;> omega
  have hz : ∀ k, k < 6 → _ := fun k hk => c.sizes (t := t) (p := 2 ^ r) (B := 6) (by decide) hb (k := k) hk
  have hz1 : ∀ k, k < 6 → _ := fun k hk => c.sizes (t := t) (p := 1) (B := 12) (by decide) (by omega) (k := k) hk
  have nm : ∀ k, k < 6 → nameL fs t r k = txt (piecesP fs t (2 ^ r) (upL fs 6 k)) := fun k hk => by
    rw [nameL, ← piecesP_pc]
    exact name_due (c.way hk).nd r
  have hw : WalkP [] [] (o.map fun k => piecesP fs t (2 ^ r) (upL fs 6 k)) := by
    cases o with
    | nil => cases hl
    | cons a o =>
      obtain rfl := Option.some.inj hh
      rw [List.map_cons, List.nodup_cons] at hnd
      have e : upL fs 6 0 = [0] := rfl
      have ep : piecesP fs t (2 ^ r) (upL fs 6 0) = [(47, 1)] := by
        rw [e, piecesP, c.sg0, if_neg (by decide), c.run0]
        rfl
      rw [List.map_cons]
      refine WalkP.cons (laid' := [(47, 1)]) ?_ (by rw [ep]; decide) (by rw [ep]; decide) (walk_chain c ht.1 hp hb o 0 [(47, 1)] (by decide) (fun k hk => hlt k (.tail _ hk)) hc hnd.2 fun q hq b hb => ?_)
      · rw [ep]
        exact StepP.next (last := []) (laid := []) 0 47 1 (Nat.le_refl _) (by decide) (by decide) (fun q hq => by cases hq) (fun q hq => by cases hq)
      · rw [List.mem_singleton.mp hq]
        intro e
        exact hnd.1 (by rw [c.sg0, show (47 : Nat) = sg fs b from e]; exact List.mem_map_of_mem hb)
  refine ⟨o, fun k => piecesP fs t (2 ^ r) (upL fs 6 k), g, ho, hl, hlt, fun k _ => piecesP_pc _ _ _ _, fun k hk => nm k (hlt k hk), fun k hk => ?_, fun k hk => ⟨Nat.le_trans (hz k (hlt k hk)).1 (by decide), Nat.le_trans (hz k (hlt k hk)).2 (by decide)⟩, fun k hk => ?_, fun ys hys hs => ?_, hw⟩
  · rw [nm k (hlt k hk)]
    intro x hx
    have hx2 : x ∈ Al := by
      have key : ∀ w : List Nat, (∀ k ∈ w, k < 6) → ∀ q ∈ piecesP fs t (2 ^ r) w, q.1 ∈ Al := by
        intro w
        induction w with
        | nil => intro _ q hq; cases hq
        | cons k w ih =>
          intro hw q hq
          have ih := ih fun k hk => hw k (.tail _ hk)
          rw [piecesP] at hq
          split at hq <;> rcases List.mem_append.mp hq with hq | hq
          · split at hq
            · rw [List.mem_singleton.mp hq]; exact (show (34 : Nat) ∈ Al by decide)
            · cases hq
          · split at hq
            · cases hq
            · exact ih q hq
          · split at hq
            · rw [List.mem_singleton.mp hq]; exact c.al (hw k (.head _))
            · cases hq
          · exact ih q hq
      obtain ⟨q, hq, _, rfl⟩ := mem_txt.mp hx
      exact key _ (c.way (hlt k hk)).lt q hq
    have : ∀ x ∈ Al, x < 128 := by decide
    exact this x hx2
  · rw [← piecesP_pc]
    have := hz1 k hk
    refine ⟨by rw [List.length_map]; exact Nat.le_trans this.1 (by decide), Nat.le_trans this.2 (by decide)⟩
  · have hpo : o.Perm (List.range 6) := by
      have hno : o.Nodup := List.Pairwise.of_map (sg fs) (fun a b h e => h (congrArg _ e)) hnd
      exact perm_six hno hl hlt
    have e : (o.map fun k => S (txt (piecesP fs t (2 ^ r) (upL fs 6 k)))) = (o.map fun k => txt (piecesP fs t (2 ^ r) (upL fs 6 k))).map S := by rw [List.map_map]; rfl
    rw [e]
    refine sort_uniq (hys.trans ?_) hs ?_
    · refine List.Perm.map S ?_
      have e2 : (List.range 6).map (nameL fs t r) = (List.range 6).map fun k => txt (piecesP fs t (2 ^ r) (upL fs 6 k)) := List.map_congr_left fun k hk => nm k (List.mem_range.mp hk)
      rw [e2]
      exact (hpo.map _).symm
    · have := walk_sorted hw fit_nil
      rw [List.map_map] at this
      exact (List.pairwise_cons.mp this).2
-- J3.lean
/-! the call from the top -/
theorem ints_vrs {H : Addr → Prop} {h : Heap} : ∀ {vs : List Value} {ns : List Int}, IntsAre vs ns → VRs H h (ns.map V.int) vs
  | _, _, .nil => .nil
  | _, _, .cons n t r => .cons (.int n t) (ints_vrs r)
theorem well_at {P : Params} {h : Heap} {a : Addr} {vs : List Value} {ns : List Int} (w : Well P h (.ref a) (ofPy (.list (ns.map PyData.int)))) (hL : h.IsList a vs.toArray) : ∃ n, h.get? a = some (W.listOf vs.toArray n) := by
  have e : ofPy (.list (ns.map PyData.int)) = .list (ofPys (ns.map PyData.int)) := by simp [ofPy]
  rw [e] at w
  generalize hv : Value.ref a = v at w
  cases w with
  | list e2 r =>
    obtain rfl := Value.ref.inj hv
    obtain ⟨o, e3, hcls, n, e4⟩ := hL
    obtain rfl := Option.some.inj (e2.symm.trans e3)
    rename_i vs'
    have e5 : vs'.toArray = vs.toArray := by
      have := e4
      simp only [Data.seq.injEq] at this
      exact this.1
    rw [e5] at e2
    exact ⟨_, e2⟩
noncomputable def envTop : Env := { (default : Env) with globals := mainGlobals, builtins := builtinsNs, scope := { (default : Scope) with kind := .function } }
theorem noTabs_K (P : Params) : noTabs (hd.heap_1 P) = true := by kernel_rfl
section
variable {p : Program} {loose : List Str} {mean : ExcName → Option Value} {mg mb : Str → Option Value} {w : World} {s : Shared} {prog : Program}
theorem top_ok {l : Addr} {vs : List Value} {script : List Int} (pg : PgOk prog) (KX : (hd.heap_1 w.params).In s.heap) (TX : ∀ P ∈ ([77, 84] : List Addr), s.heap.get? P = some (tabObj #[])) (T : Top p loose mean mg mb s.heap) (hg : s.gens = #[])
    (wl : Well w.params s.heap (.ref l) (ofPy (.list (script.map PyData.int)))) (hL : s.heap.IsList l vs.toArray) (hI : IntsAre vs script) (hn : script.length ≤ 1000) (lf : LawFacts (cellsL script)) {Q E : Value → Shared → Prop}
    (q : ∀ s', OldK s.heap s'.heap → s'.os = s.os → AllBare s'.gens → Q (.bool true) s') : wpAny (model prog w) callerA (call (.ref 189) [.ref l]) Q E s := by
  have hT : TabsAt [((81 : Addr), (77 : Addr)), ((88 : Addr), (84 : Addr))] s.heap := by
    intro q hq
    rcases List.mem_cons.mp hq with rfl | hq
    · exact ⟨codeHd_of_K KX a_tab81, TX 77 (by decide)⟩
    · rw [List.mem_singleton.mp hq]
      exact ⟨codeHd_of_K KX a_tab88, TX 84 (by decide)⟩
  have tn : TriplesOk (#[] : Array Value).toList := trivial
  have lentAt : ∀ p ∈ [((77 : Addr), Ob.prop IsTab), ((84 : Addr), Ob.prop IsTab)], At (fun _ => True) s.heap p.1 p.2 := by
    intro p hp
    rcases List.mem_cons.mp hp with rfl | hp
    · exact ⟨_, TX 77 (by decide), .prop ⟨#[], tn, rfl⟩⟩
    · rw [List.mem_singleton.mp hp]
      exact ⟨_, TX 84 (by decide), .prop ⟨#[], tn, rfl⟩⟩
  have hX : (hd.heap_1 w.params).In (hideAll s.heap [77, 84]) := ghost_K hT KX (noTabs_K _)
  have hTR : TopRead p loose mg mb (hideAll s.heap [77, 84]) := ⟨ghost_ns hT T.g, ghost_ns hT T.b, let ⟨mc, a, r⟩ := T.nolimit; ⟨mc, ghost_ns hT a, r⟩, T.builtins, T.free⟩
  have hbm : At (fun _ => True) (hideAll s.heap [77, 84]) 4 (.prop IsBMod) := by
    obtain ⟨bm, ob, a1, a2, a3, a4, a5, a6⟩ := T.bmain
    have h4 := mg_of KX T.g a_bm
    obtain rfl : bm = 4 := Value.ref.inj (Option.some.inj (a1.symm.trans h4))
    exact ⟨ob, ghost_get hT a3 (fun q => by rw [q] at a4; cases a4), .prop ⟨a4, a5, a6⟩⟩
  have hls : At (fun _ => True) (hideAll s.heap [77, 84]) l (.lst (script.map V.int)) := by
    obtain ⟨n, e⟩ := well_at wl hL
    exact ⟨_, ghost_get hT e (fun q => by have := congrArg Obj.cls q; cases this), .lst (ints_vrs hI)⟩
  have ok : Cx.Ok (Cx.mk prog w callerA envTop (hd.heap_1 w.params) p loose mg mb [] s.os (fun _ => false) (fun _ => True)) := ⟨rfl, rfl, rfl, rfl, by show callerA.depth < 800; decide, by show callerA.units < 2000; decide⟩
  have rm : Room (Cx.mk prog w callerA envTop (hd.heap_1 w.params) p loose mg mb [] s.os (fun _ => false) (fun _ => True)) w.params (8 + 1) := ⟨ok, rfl, by show callerA.depth + 9 < 700; decide, by show callerA.units + 27 < 1900; decide⟩
  refine enter_top (C := Cx.mk prog w callerA envTop (hd.heap_1 w.params) p loose mg mb [] s.os (fun _ => false) (fun _ => True)) rm ["script"] ["cells", "total", "folders", "times", "readings", "bound", "names", "k", "name", "turn", "order", "due", "pieces", "ranked", "line", "last", "laid", "ways", "before", "up", "down", "head", "tail", "further", "run", "sides", "price"] _ (vs := [.val (.ref l)]) [((77 : Addr), Ob.prop IsTab), ((84 : Addr), Ob.prop IsTab)] [(l, Ob.lst (script.map V.int)), (4, .prop IsBMod)]
    hX hTR lentAt (by decide) (.of_eq hg) rfl (fun _ => trivial) (chl (P := w.params) 189 (by k_is)) rfl (by k_is) rfl rfl (by decide) (fun p hp => ?_) (.cons (.val _) .nil) (fun us hu => ?_) (by decide) rfl (by decide) rfl rfl rfl rfl rfl
    (Ψ := fun fl l' μ' => fl = .ret (.bool true) ∧ List.Sublist [((77 : Addr), Ob.prop IsTab), ((84 : Addr), Ob.prop IsTab)] μ') (fun D hpg fr cok rm' hold => ?_) (fun D ks fl l' μ' flw s' dH dos hΨ R f => ?_)
  · rcases List.mem_cons.mp hp with rfl | hp
    · exact hls
    · rw [List.mem_singleton.mp hp]; exact hbm
  · obtain ⟨a, rfl⟩ := len1 hu
    rfl
  · exact lawA_ok (C := D) (P := w.params) (n := 0) fr cok rm' (hpg ▸ pg) (by rw [hold]; exact .tail _ (.head _)) hn lf (aS := l) (by rw [hold]; exact .head _) (fun l' μ' hs => ⟨rfl, hs⟩)
  · obtain ⟨rfl, hs⟩ := hΨ
    cases f with
    | ret r =>
      cases r
      have tab : ∀ P, P = 77 ∨ P = 84 → ∃ ps : Array Value, s'.heap.get? P = some (tabObj ps) := fun P hP => by
        have hm : (P, Ob.prop IsTab) ∈ μ' := hs.subset (by rcases hP with rfl | rfl; exact .head _; exact .tail _ (.head _))
        obtain ⟨o, e, ps, _, rfl⟩ := (R.mem _ hm).1.prop_inv
        exact ⟨ps, e⟩
      have old : ∀ b o, s.heap.get? b = some o → asItWas s.heap s'.heap b o := fun b o e => by
        by_cases hb : b = 77 ∨ b = 84
        · obtain ⟨ps, e2⟩ := tab b hb
          have e3 := TX b (by rcases hb with rfl | rfl <;> decide)
          obtain rfl := Option.some.inj (e.symm.trans e3)
          have hc : ∃ c, CodeHd s.heap c b := by
            rcases hb with rfl | rfl
            · exact ⟨81, (hT _ (.head _)).1⟩
            · exact ⟨88, (hT _ (.tail _ (.head _))).1⟩
          obtain ⟨c, o', vs', file, tf, flags, tg, inF, text, tt, e5, e6, e7, e8, _⟩ := hc
          refine .inr (.inl ⟨⟨c, o', vs', e5, e6, e7, e8⟩, rfl, #[], ps, rfl, ?_⟩)
          rw [e2]
          simp [tabObj]
        · refine .inl (R.keep b o (hideAll_get _ e fun q => hb ?_))
          simpa using q
      refine q s' ⟨old, fun b o e => ?_⟩ (R.os.trans dos) R.bare
      by_cases hb : b = 77 ∨ b = 84
      · obtain ⟨ps, e2⟩ := tab b hb
        exact ⟨_, e2⟩
      · exact ⟨o, R.keep b o (hideAll_get _ e fun q => hb (by simpa using q))⟩
end
end Mine
set_option maxHeartbeats 4000000 in
theorem PySem.Challenge.cw_wu0049_01_holds : PySem.Challenge.rw_wu0049_01.Holds := by
  refine Mine.hd ?_
  k_fill
  intro w s₀ s₁ mg mb G Y fa o pm cd doc dV kV ho hd hcd hD hmg hg args vals as hpre hlay hrd hwl hlo
  have KX := km_in_of Y
  have TX := km_tabs_of Y
  have T := G.T
  clear hcd hD hd ho Y
  have e9 : fa = 189 := by
    have h1 := mg_of (n := "law") (v := .ref 189) KX T.g (by k_is)
    exact Value.ref.inj (Option.some.inj (hmg.symm.trans h1))
  clear hmg
  subst e9
  wrow_args hpre hlay hrd hwl hlo
  rename_i hL _ wl _ hI _ hn _
  refine Mine.top_ok (prog := PySem.Challenge.rw_wu0049_01.row.prog) ⟨by decide, by decide⟩ KX TX T hg wl hL hI (by omega) (Mine.facts_all _) fun s' k os b => ?_
  exact ⟨.inl ⟨.bool true, .bool true, [], rfl, fun cls => rfl, .bool true, (by wrow_post), fun _ => ⟨.nil, fun a h => nomatch h⟩⟩, k, os, b⟩
