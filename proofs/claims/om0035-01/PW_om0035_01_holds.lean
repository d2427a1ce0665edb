import PyProof.Rows.All
import Wide.All
import OpenK.AllK
import Wide.FinOn
import Lean
import PySem.Challenge.RW_om0035_01
set_option Elab.async false
set_option linter.unusedVariables false
set_option compiler.extract_closed false

/- Top35 -/
section
open PySem PySem.W PyProof.Rows
set_option maxRecDepth 100000
set_option maxHeartbeats 8000000
namespace Mine
open_top hd35 for PySem.Challenge.rw_om0035_01
end Mine
end

local macro_rules | `(tactic| walk_at "pick") => `(tactic| first | assumption | (apply And.left; (iterate 10 (first | done | assumption | apply And.right)); done) | (apply And.right; (iterate 10 (first | done | assumption | apply And.right)); done))
local macro_rules | `(tactic| omega) => `(tactic| first | (with_reducible walk_at "pick"; done) | (with_reducible (apply Nat.ne_of_lt; walk_at "pick"); done) | (with_reducible (apply Nat.ne_of_gt; walk_at "pick"); done) | (law_clear; lia) | lia)

/- Eps -/
section
namespace Mine
/-- a counterexample, where there is one -/
theorem eps_ex {α : Type} (h : Nonempty α) (P : α → Prop) : ∃ c, P c → ∀ x, P x := by
  by_cases q : ∀ x, P x
  · exact h.elim fun c => ⟨c, fun _ => q⟩
  · obtain ⟨c, hc⟩ := Classical.not_forall.mp q
    exact ⟨c, fun p => absurd p hc⟩
@[irreducible] noncomputable def eps {α : Type} (h : Nonempty α) (P : α → Prop) : α := Classical.choose (eps_ex h P)
theorem eps_all {α : Type} {e : Nonempty α} {P : α → Prop} (h : P (eps e P)) : ∀ x, P x := by
  unfold eps at h
  exact Classical.choose_spec (eps_ex e P) h
theorem neW : Nonempty PySem.World := ⟨PySem.W.aWorld 1⟩
theorem neP {α β : Type} (a : Nonempty α) (b : Nonempty β) : Nonempty (α × β) := a.elim fun x => b.elim fun y => ⟨(x, y)⟩
theorem neA : Nonempty PySem.Around := ⟨{}⟩
theorem neS : Nonempty PySem.Shared := ⟨{}⟩
end Mine
end

/- X0 -/
section
namespace Mine
inductive Pk1 {a1 : Type} (P : a1 → Prop) : Prop
  | mk (x1 : a1) (h : P x1)
inductive Pk2 {a1 a2 : Type} (P : a1 → a2 → Prop) : Prop
  | mk (x1 : a1) (x2 : a2) (h : P x1 x2)
inductive Pk3 {a1 a2 a3 : Type} (P : a1 → a2 → a3 → Prop) : Prop
  | mk (x1 : a1) (x2 : a2) (x3 : a3) (h : P x1 x2 x3)
inductive Pk5 {a1 a2 a3 a4 a5 : Type} (P : a1 → a2 → a3 → a4 → a5 → Prop) : Prop
  | mk (x1 : a1) (x2 : a2) (x3 : a3) (x4 : a4) (x5 : a5) (h : P x1 x2 x3 x4 x5)
inductive Pk6 {a1 a2 a3 a4 a5 a6 : Type} (P : a1 → a2 → a3 → a4 → a5 → a6 → Prop) : Prop
  | mk (x1 : a1) (x2 : a2) (x3 : a3) (x4 : a4) (x5 : a5) (x6 : a6) (h : P x1 x2 x3 x4 x5 x6)
inductive Pk7 {a1 a2 a3 a4 a5 a6 a7 : Type} (P : a1 → a2 → a3 → a4 → a5 → a6 → a7 → Prop) : Prop
  | mk (x1 : a1) (x2 : a2) (x3 : a3) (x4 : a4) (x5 : a5) (x6 : a6) (x7 : a7) (h : P x1 x2 x3 x4 x5 x6 x7)
inductive Pk8 {a1 a2 a3 a4 a5 a6 a7 a8 : Type} (P : a1 → a2 → a3 → a4 → a5 → a6 → a7 → a8 → Prop) : Prop
  | mk (x1 : a1) (x2 : a2) (x3 : a3) (x4 : a4) (x5 : a5) (x6 : a6) (x7 : a7) (x8 : a8) (h : P x1 x2 x3 x4 x5 x6 x7 x8)
inductive Pk9 {a1 a2 a3 a4 a5 a6 a7 a8 a9 : Type} (P : a1 → a2 → a3 → a4 → a5 → a6 → a7 → a8 → a9 → Prop) : Prop
  | mk (x1 : a1) (x2 : a2) (x3 : a3) (x4 : a4) (x5 : a5) (x6 : a6) (x7 : a7) (x8 : a8) (x9 : a9) (h : P x1 x2 x3 x4 x5 x6 x7 x8 x9)
inductive Pk10 {a1 a2 a3 a4 a5 a6 a7 a8 a9 a10 : Type} (P : a1 → a2 → a3 → a4 → a5 → a6 → a7 → a8 → a9 → a10 → Prop) : Prop
  | mk (x1 : a1) (x2 : a2) (x3 : a3) (x4 : a4) (x5 : a5) (x6 : a6) (x7 : a7) (x8 : a8) (x9 : a9) (x10 : a10) (h : P x1 x2 x3 x4 x5 x6 x7 x8 x9 x10)
inductive Pk11 {a1 a2 a3 a4 a5 a6 a7 a8 a9 a10 a11 : Type} (P : a1 → a2 → a3 → a4 → a5 → a6 → a7 → a8 → a9 → a10 → a11 → Prop) : Prop
  | mk (x1 : a1) (x2 : a2) (x3 : a3) (x4 : a4) (x5 : a5) (x6 : a6) (x7 : a7) (x8 : a8) (x9 : a9) (x10 : a10) (x11 : a11) (h : P x1 x2 x3 x4 x5 x6 x7 x8 x9 x10 x11)
inductive Pk16 {a1 a2 a3 a4 a5 a6 a7 a8 a9 a10 a11 a12 a13 a14 a15 a16 : Type} (P : a1 → a2 → a3 → a4 → a5 → a6 → a7 → a8 → a9 → a10 → a11 → a12 → a13 → a14 → a15 → a16 → Prop) : Prop
  | mk (x1 : a1) (x2 : a2) (x3 : a3) (x4 : a4) (x5 : a5) (x6 : a6) (x7 : a7) (x8 : a8) (x9 : a9) (x10 : a10) (x11 : a11) (x12 : a12) (x13 : a13) (x14 : a14) (x15 : a15) (x16 : a16) (h : P x1 x2 x3 x4 x5 x6 x7 x8 x9 x10 x11 x12 x13 x14 x15 x16)
inductive Al2 (p1 p2 : Prop) : Prop
  | mk (h1 : p1) (h2 : p2)
inductive Al3 (p1 p2 p3 : Prop) : Prop
  | mk (h1 : p1) (h2 : p2) (h3 : p3)
inductive Al4 (p1 p2 p3 p4 : Prop) : Prop
  | mk (h1 : p1) (h2 : p2) (h3 : p3) (h4 : p4)
inductive Al5 (p1 p2 p3 p4 p5 : Prop) : Prop
  | mk (h1 : p1) (h2 : p2) (h3 : p3) (h4 : p4) (h5 : p5)
inductive Al6 (p1 p2 p3 p4 p5 p6 : Prop) : Prop
  | mk (h1 : p1) (h2 : p2) (h3 : p3) (h4 : p4) (h5 : p5) (h6 : p6)
inductive Al7 (p1 p2 p3 p4 p5 p6 p7 : Prop) : Prop
  | mk (h1 : p1) (h2 : p2) (h3 : p3) (h4 : p4) (h5 : p5) (h6 : p6) (h7 : p7)
inductive Al8 (p1 p2 p3 p4 p5 p6 p7 p8 : Prop) : Prop
  | mk (h1 : p1) (h2 : p2) (h3 : p3) (h4 : p4) (h5 : p5) (h6 : p6) (h7 : p7) (h8 : p8)
inductive Al9 (p1 p2 p3 p4 p5 p6 p7 p8 p9 : Prop) : Prop
  | mk (h1 : p1) (h2 : p2) (h3 : p3) (h4 : p4) (h5 : p5) (h6 : p6) (h7 : p7) (h8 : p8) (h9 : p9)
inductive Al11 (p1 p2 p3 p4 p5 p6 p7 p8 p9 p10 p11 : Prop) : Prop
  | mk (h1 : p1) (h2 : p2) (h3 : p3) (h4 : p4) (h5 : p5) (h6 : p6) (h7 : p7) (h8 : p8) (h9 : p9) (h10 : p10) (h11 : p11)
inductive Al12 (p1 p2 p3 p4 p5 p6 p7 p8 p9 p10 p11 p12 : Prop) : Prop
  | mk (h1 : p1) (h2 : p2) (h3 : p3) (h4 : p4) (h5 : p5) (h6 : p6) (h7 : p7) (h8 : p8) (h9 : p9) (h10 : p10) (h11 : p11) (h12 : p12)
inductive Al13 (p1 p2 p3 p4 p5 p6 p7 p8 p9 p10 p11 p12 p13 : Prop) : Prop
  | mk (h1 : p1) (h2 : p2) (h3 : p3) (h4 : p4) (h5 : p5) (h6 : p6) (h7 : p7) (h8 : p8) (h9 : p9) (h10 : p10) (h11 : p11) (h12 : p12) (h13 : p13)
inductive Al18 (p1 p2 p3 p4 p5 p6 p7 p8 p9 p10 p11 p12 p13 p14 p15 p16 p17 p18 : Prop) : Prop
  | mk (h1 : p1) (h2 : p2) (h3 : p3) (h4 : p4) (h5 : p5) (h6 : p6) (h7 : p7) (h8 : p8) (h9 : p9) (h10 : p10) (h11 : p11) (h12 : p12) (h13 : p13) (h14 : p14) (h15 : p15) (h16 : p16) (h17 : p17) (h18 : p18)
end Mine
end

/- A1 -/
section
open PySem PySem.W PyProof.Rows PySem.SeqAt PySem.MeetsSeq
set_option maxRecDepth 100000
set_option maxHeartbeats 4000000
namespace Mine
/-- an entry of the heap: (end, begin, the word's place) -/
noncomputable abbrev Ent := Int × Int × Int
noncomputable def entLt (x y : Ent) : Bool := decide (x.1 < y.1 ∨ (x.1 = y.1 ∧ (x.2.1 < y.2.1 ∨ (x.2.1 = y.2.1 ∧ x.2.2 < y.2.2))))
noncomputable abbrev tupOf (vs : List Value) : Obj := { cls := .type "tuple", data := .seq vs.toArray }
noncomputable def TupAt (h : Heap) (v : Value) (d : Ent) : Prop := ∃ a t1 t2 t3, v = .ref a ∧ h.get? a = some (tupOf [.int d.1 t1, .int d.2.1 t2, .int d.2.2 t3])

theorem wp_forIn_cons {M : Model} {A : Around} {E : Value → Shared → Prop} {s : Shared} {α β : Type} (f : α → β → Sem (ForInStep β)) (x : α) (l : List α) (b : β) (Q : β → Shared → Prop)
    (h : wpAny M A (f x b) (fun r s' => match r with | .yield b' => wpAny M A (forIn l b' f) Q E s' | .done b' => Q b' s') E s) : wpAny M A (forIn (x :: l) b f) Q E s := by
  rw [List.forIn_cons]
  refine wpAny_bind (wpAny_mono h (fun r s' hr => ?_) fun _ _ h' => h')
  cases r with
  | done b' => exact wpAny_pure hr
  | yield b' => exact hr
theorem wp_forIn_nil {M : Model} {A : Around} {E : Value → Shared → Prop} {s : Shared} {α β : Type} (f : α → β → Sem (ForInStep β)) (b : β) (Q : β → Shared → Prop)
    (h : Q b s) : wpAny M A (forIn ([] : List α) b f) Q E s := by
  rw [List.forIn_nil]; exact wpAny_pure h

theorem rc_lt_int {prog : Program} {w : World} {A : Around} {E : Value → Shared → Prop} {s : Shared} {a b : Int} {t u : Tok} {Q : Value → Shared → Prop} (h : Q (.bool (decide (a < b))) s) : wpAny (model prog w) A (richCompare .Lt (.int a t) (.int b u)) Q E s := PyProof.Rows.lt_int h
theorem eqB_int {prog : Program} {w : World} {A : Around} {E : Value → Shared → Prop} {s : Shared} {a b : Int} {t u : Tok} {Q : Bool → Shared → Prop} (h : Q (a == b) s) : wpAny (model prog w) A (eqBool (.int a t) (.int b u)) Q E s := wpAny_eqBool_int h
theorem ite_not {c : Bool} {α : Type} {M : Model} {A : Around} {E : Value → Shared → Prop} {s : Shared} {m n : Sem α} {Q : α → Shared → Prop} (h1 : c = false → wpAny M A m Q E s) (h2 : c = true → wpAny M A n Q E s) : wpAny M A (if (!c) = true then m else n) Q E s := by
  cases c
  · exact h1 rfl
  · exact h2 rfl
theorem tuple_ltAt (l b : Addr) (x y : Ent) (t1 t2 t3 u1 u2 u3 : Tok) :
    Meets (Builtin.«tuple.__lt__» ⟨[.ref l, .ref b], []⟩)
      (fun A R s => s.heap.get? l = some (tupOf [.int x.1 t1, .int x.2.1 t2, .int x.2.2 t3]) ∧ s.heap.get? b = some (tupOf [.int y.1 u1, .int y.2.1 u2, .int y.2.2 u3]) ∧
        R (.ok (.ret (.bool (entLt x y)))) s) :=
  .of_wp fun prog w A R s h => by
    obtain ⟨hp, g, d, tk, os⟩ := s; obtain ⟨hl, hb, h⟩ := h
    obtain ⟨x1, x2, x3⟩ := x
    obtain ⟨y1, y2, y3⟩ := y
    dsimp only at hl hb
    have f2 := AutoSeq1.sub_tuple_tuple
    wp_walk using wpAny_loadPart' hl, wpAny_loadPart' hb, eqB_int
    refine ite_not (fun e1 => ?_) fun e1 => ?_
    · have e1 : x1 ≠ y1 := by simpa using e1
      have : entLt (x1, x2, x3) (y1, y2, y3) = decide (x1 < y1) := by simp [entLt, e1]
      rw [this] at h
      clear hl hb f2
      wp_walk using rc_lt_int
      exact ⟨_, rfl, h⟩
    have e1 : x1 = y1 := by simpa using e1
    wp_walk using eqB_int
    refine ite_not (fun e2 => ?_) fun e2 => ?_
    · have e2 : x2 ≠ y2 := by simpa using e2
      have : entLt (x1, x2, x3) (y1, y2, y3) = decide (x2 < y2) := by simp [entLt, e1, e2]
      rw [this] at h
      clear hl hb f2
      wp_walk using rc_lt_int
      exact ⟨_, rfl, h⟩
    have e2 : x2 = y2 := by simpa using e2
    wp_walk using eqB_int
    refine ite_not (fun e3 => ?_) fun e3 => ?_
    · have e3 : x3 ≠ y3 := by simpa using e3
      have : entLt (x1, x2, x3) (y1, y2, y3) = decide (x3 < y3) := by simp [entLt, e1, e2]
      rw [this] at h
      clear hl hb f2
      wp_walk using rc_lt_int
      exact ⟨_, rfl, h⟩
    have e3 : x3 = y3 := by simpa using e3
    have : entLt (x1, x2, x3) (y1, y2, y3) = false := by simp [entLt, e1, e2, e3]
    rw [this] at h
    clear hl hb f2
    wp_walk
    exact ⟨_, rfl, h⟩
theorem lt_ent {prog : Program} {w : World} {A : Around} {E : Value → Shared → Prop} {s : Shared} {v u : Value} {x y : Ent} {Q : Value → Shared → Prop} (hv : TupAt s.heap v x) (hu : TupAt s.heap u y) (hA : A.units < cLine)
    (h : Q (.bool (entLt x y)) s) : wpAny (model prog w) A (compareOp .Lt v u) Q E s := by
  obtain ⟨a, t1, t2, t3, rfl, ha⟩ := hv
  obtain ⟨b, u1, u2, u3, rfl, hb⟩ := hu
  exact richCompare_meets_room (op := .Lt) ⟨_, ha, rfl⟩ ⟨_, hb, rfl⟩ F.slot_tuple_lt F.entry_tuple_lt (F.args_tuple_lt_2 _ _) (tuple_ltAt a b x y t1 t2 t3 u1 u2 u3)
    ⟨ha, hb, show Value.bool (entLt x y) ≠ Value.notImplemented ∧ Q (.bool (entLt x y)) s from ⟨(fun x => nomatch x), h⟩⟩ hA
end Mine
end

/- A2 -/
section
open PySem PySem.W PyProof.Rows
set_option maxRecDepth 100000
set_option maxHeartbeats 4000000
namespace Mine
section
variable {prog : Program} {w : World} {A : Around} {E : Value → Shared → Prop} {s : Shared} {env : Env} {h₀ : Heap} {x : Str} {body : List Stmt} {Q : Flow → Shared → Prop}
theorem iter_rangeIt {I : Addr} {a c : Int} {n : Nat} {m₀ : Str → Option Value} {news : List (Addr × Obj)} (J : Nat → (Str → Option Value) → List (Addr × Obj) → Prop)
    (hh : A.handled = none) (hit : IsRangeIter s.heap I a n c) (hI : h₀.get? I = none) (hIL : I ≠ env.locals) (F : Fr h₀ env.locals s.heap m₀) (N : News h₀ env.locals s.heap news) (hnI : ∀ p ∈ news, p.1 ≠ I) (hj : J 0 m₀ news)
    (turn : ∀ i t m₁ news₁ h tk own, i < n → (∀ p ∈ news₁, p.1 ≠ I) → (∀ p ∈ own, p.1 = I) → J i m₁ news₁ → Fr h₀ env.locals h (fun y => if y = x then some (.int (a + i * c) t) else m₁ y) → News h₀ env.locals h (own ++ news₁) →
      wpAny (model prog w) A (execs body env) (LoopStepV h₀ env.locals [I] own (J (i + 1)) { s with heap := h, toks := tk } (fun v s' => Q (.ret v) s') fun s' => Q .next s') E { s with heap := h, toks := tk })
    (done : ∀ m₁ news₁ h tk, J n m₁ news₁ → Fr h₀ env.locals h m₁ → News h₀ env.locals h news₁ → Q .next { s with heap := h, toks := tk }) :
    wpAny (model prog w) A (pyIter (.ref I)) (fun it s₂ => LoopAtV prog w A h₀ env x body Q E it s₂) E s := by
  refine wpAny_pyIter_rangeiter hit ?_
  refine ⟨I, [I], [I], n, _, _, m₀, news, J, rfl, Walks.range (prog := prog) (w := w) hh I a c n, ?_, ?_, ?_, ?_, F, N, hj, ?_, ?_⟩
  · intro hm
    exact hIL (List.mem_singleton.mp hm).symm
  · intro b hb
    rw [List.mem_singleton.mp hb]
    exact hI
  · intro p hp hm
    exact hnI p hp (List.mem_singleton.mp hm)
  · simpa using hit
  · rintro i v m₁ news₁ s₁ own ⟨h, tk, rfl⟩ hin ⟨t, rfl⟩ hJ hoff hown _ _ _ F₁ N₁
    exact turn i t m₁ news₁ h tk own hin (fun p hp q => hoff p hp (by rw [q]; exact .head _)) (fun p hp => List.mem_singleton.mp (hown p hp)) hJ F₁ N₁
  · intro h' tk m' news' F' N' _ hJ
    exact done m' news' h' tk hJ F' N'
end
section
variable {prog : Program} {w : World} {A : Around} {E : Value → Shared → Prop} {s : Shared}
noncomputable abbrev rIter (x left step : Int) : Obj := { cls := .type "range_iterator", data := .fields #[rawInt x, rawInt left, rawInt step] }
theorem sub_ri_reversed : isSubtype (.type "range_iterator") (.type "reversed") = pure false := by rw [isSubtype_type]; kernel_rfl
theorem call_range_reversed {r : Addr} {k : Int} {t u v : Tok} {Q : Value → Shared → Prop} (hr : IsRange s.heap r 0 k 1 t u v) (h0 : 0 ≤ k) (h1 : k ≤ 1000)
    (h : Q (.ref s.heap.objs.size) { s with heap := s.heap.push (rIter (k - 1) k (-1)) }) : wpAny (model prog w) A (call (.builtin "range.__reversed__") [.ref r]) Q E s := by
  have hT : s.TypeIs (.ref r) "range" := ⟨_, hr, rfl⟩
  refine wpAny_call_entry F.slot_range_reversed hT F.entry_range_reversed ?_ (F.args_range_reversed_1 _)
  unfold Builtin.«range.__reversed__»
  have hsz : Builtin.Range.rangeSize 0 k 1 = k := by rw [rangeSize_one]; split <;> omega
  have hc : (Builtin.Range.rangeFitsLong 0 && Builtin.Range.rangeFitsLong k && Builtin.Range.rangeFitsLong 1 && Builtin.Range.rangeFitsLong (-1) && Builtin.Range.rangeFitsLong (0 - 1) && Builtin.Range.rangeFitsLong k) = true := by
    have e : ∀ i : Int, -(2 ^ 20) ≤ i → i ≤ 2 ^ 20 → Builtin.Range.rangeFitsLong i = true := by
      intro i h h'
      unfold Builtin.Range.rangeFitsLong
      simp only [Bool.and_eq_true, decide_eq_true_eq]
      omega
    simp only [e 0 (by omega) (by omega), e k (by omega) (by omega), e 1 (by omega) (by omega), e (-1) (by omega) (by omega), e (0 - 1) (by omega) (by omega), Bool.and_self]
  wp_walk
  simp only [hsz, hc]
  wp_walk
  rw [show (0 + (k - 1) * 1 : Int) = k - 1 by omega]
  refine ⟨_, rfl, ?_⟩
  simpa only [if_true] using h
theorem code_reversed_range {r : Addr} {k : Int} {t u v : Tok} {Q₁ : Value → Shared → Prop} (hr : IsRange s.heap r 0 k 1 t u v) (h0 : 0 ≤ k) (h1 : k ≤ 1000)
    (h : Q₁ (.ref s.heap.objs.size) { s with heap := s.heap.push (rIter (k - 1) k (-1)) }) :
    codeAny (model prog w) A (.call (.builtin "reversed.__new__") ⟨[.type "reversed", .ref r], []⟩) (wants Q₁ E) s := by
  have hT : s.TypeIs (.ref r) "range" := ⟨_, hr, rfl⟩
  refine codeAny_of_tree ?_
  show wpAny _ A.in1 (do checkBuiltinCall "reversed.__new__" ⟨[.type "reversed", .ref r], []⟩; again (.builtin "reversed.__new__" ⟨[.type "reversed", .ref r], []⟩)) _ _ s
  refine wpAny_bind (wpAny_of_eq (F.newCall_reversed_1 _) (wpAny_pure ⟨plainId_quiet F.plain_reversed_new _, codeAny_builtin F.entry_reversed_new ?_⟩))
  rw [Around.under_plainId F.plain_reversed_new _]
  unfold Builtin.«reversed.__new__»
  refine wpAny_bind (wpAny_of_eq (newClass_reversed _) ?_)
  try dsimp only
  refine wpAny_bind (wpAny_of_eq (a := ()) (by first | rfl | kernel_rfl) ?_)
  refine wpAny_bind (wpAny_of_eq (a := ()) (by first | rfl | kernel_rfl) ?_)
  try dsimp only
  refine wpAny_bind (wpAny_specialOf hT F.slot_range_reversed.lookup ?_)
  try dsimp only
  refine wpAny_bind (wpAny_of_eq (F.slot_range_reversed.bind _) ?_)
  try dsimp only
  first
  | rw [if_neg (show ¬ ((Value.builtin "range.__reversed__" == Value.none) = true) from Bool.false_ne_true)]
  | (show wpAny _ _ (if (Value.builtin "range.__reversed__" == Value.none) = true then _ else _) _ _ _; rw [if_neg (show ¬ ((Value.builtin "range.__reversed__" == Value.none) = true) from Bool.false_ne_true)])
  refine wpAny_bind (wpAny_rule ?_)
  refine wpAny_bind (m := runValue (.call (.builtin "range.__reversed__") ⟨[.ref r], []⟩)) (show wpAny _ _ (call (.builtin "range.__reversed__") [.ref r]) _ _ _ from call_range_reversed hr h0 h1 ?_)
  first
  | exact wpAny_pure h
  | exact wpAny_bind (wpAny_pure (wpAny_pure h))
theorem call_reversed_range {r : Addr} {k : Int} {t u v : Tok} {Q : Value → Shared → Prop} (hr : IsRange s.heap r 0 k 1 t u v) (h0 : 0 ≤ k) (h1 : k ≤ 1000)
    (h : Q (.ref s.heap.objs.size) { s with heap := s.heap.push (rIter (k - 1) k (-1)) }) : wpAny (model prog w) A (call (.type "reversed") [.ref r]) Q E s := by
  refine callType_other (U := "range_iterator") (Q₁ := fun obj s₁ => obj = .ref s.heap.objs.size ∧ s₁ = { s with heap := s.heap.push (rIter (k - 1) k (-1)) }) (by decide +kernel) F.create_reversed ⟨_, _, F.mro_reversed⟩ F.made_reversed sub_ri_reversed (F.typeCall_reversed_1 _) (code_reversed_range hr h0 h1 ⟨rfl, rfl⟩) ?_
  rintro obj s₁ ⟨rfl, rfl⟩
  exact ⟨⟨_, Heap.get?_push_size _ rfl, rfl⟩, h⟩
end
end Mine
end

/- B1 -/
section
open PySem PySem.W PyProof.Rows PySem.SeqAt PySem.MeetsSeq
set_option maxRecDepth 100000
set_option maxHeartbeats 4000000
namespace Mine
noncomputable abbrev MTop (hd : Option Value) (dp un : Nat) (gd : Option (List Code)) (cn : Str) (cs : Scope) (L a : Addr) (ccd : Value) (cl : List (Str × Addr)) (outer : List Env) : Around :=
  { handled := hd, depth := dp, frames := some (envX cn cs L a ccd cl :: outer), guards := gd, units := un }
noncomputable def Pres (hp : Addr) (h h' : Heap) : Prop := ∀ b o, b ≠ hp → h.get? b = some o → h'.get? b = some o
noncomputable def KeepT (h h' : Heap) : Prop := ∀ b o, h.get? b = some o → o.cls = .type "tuple" → h'.get? b = some o
noncomputable def Tups (h : Heap) (vs : List Value) (ds : List Ent) : Prop := vs.length = ds.length ∧ ∀ (i : Nat) (d : Ent), ds[i]? = some d → ∃ v, vs[i]? = some v ∧ TupAt h v d

noncomputable def downGo (ds : List Ent) (st : Nat) (x : Ent) (pos : Nat) : List Ent :=
  if h : st < pos then
    if entLt x (ds.getD ((pos - 1) / 2) (0, 0, 0)) then downGo (ds.set pos (ds.getD ((pos - 1) / 2) (0, 0, 0))) st x ((pos - 1) / 2)
    else ds.set pos x
  else ds.set pos x
termination_by pos
decreasing_by omega
noncomputable def downF (ds : List Ent) (st pos : Nat) : List Ent := downGo ds st (ds.getD pos (0, 0, 0)) pos

section
variable {prog : Program} {w : World} {A : Around} {E : Value → Shared → Prop} {s : Shared} {h₀ : Heap} {L D : Addr} {m : Str → Option Value} {news news' : List (Addr × Obj)} {vs : List Value} {n : Nat} {k : Int} {t : Tok} {v : Value}
theorem sub_at {value slice : PySem.Expr} {Q : Value → Shared → Prop} (j : Nat) (N : News h₀ L s.heap news) (hm : (D, listOf vs.toArray n) ∈ news) (hj : k = (j : Int)) (hx : vs[j]? = some v) (hfit : vs.length < 2 ^ 20) (h : Q v s)
    (hs : subscripted slice false (.ref D) (.int k t) = operate [.ref D, .int k t] (getItem (.ref D) (.int k t)) := by with_unfolding_all rfl) :
    wpAny (model prog w) A (subscriptTail value slice (.ref D) (.int k t)) Q E s := by
  have hl : s.heap.IsList D vs.toArray := PySem.IsL.isList (n := n) (N _ hm).1
  have hlt : j < vs.length := by
    rcases Nat.lt_or_ge j vs.length with q | q
    · exact q
    · rw [List.getElem?_eq_none q] at hx; cases hx
  subst hj
  exact tail_any hl.typeIs slot_list_getitem.lookup (wpAny_getItem_list hl (by omega) (by omega) (by simpa using hx) h) hs
theorem set_at {Q : Unit → Shared → Prop} (j : Nat) (F : Fr h₀ L s.heap m) (N : News h₀ L s.heap news) (U : Upd D (listOf vs.toArray n) (listOf (vs.set j v).toArray n) news news') (hj : k = (j : Int)) (hlt : j < vs.length) (hfit : vs.length < 2 ^ 20)
    (h : ∀ h', Fr h₀ L h' m → News h₀ L h' news' → Q () { s with heap := h' }) :
    wpAny (model prog w) A (setItem (.ref D) (.int k t) v) Q E s := by
  obtain ⟨pre, post, rfl, rfl, a, b⟩ := U.split
  have z := N (D, listOf vs.toArray n) (List.mem_append.mpr (.inr (.head _)))
  have hs : vs.toArray.size = vs.length := by rw [List.size_toArray]
  subst hj
  refine ki_setAt z.1 (by omega) (by omega) (by omega) (h _ (F.change (Heap.SameBut.update ..) z.2.1 z.2.2) (ki_turn _ N a b ?_ ?_))
  · show vs.toArray.setIfInBounds (Int.toNat (j : Int)) v = (vs.set j v).toArray
    apply Array.toList_inj.mp
    simp
  · simp
end
noncomputable def Halt (P : Prop) : Prop := P
theorem Halt.mk {P : Prop} (h : Halt P) : P := h
theorem Halt.out {P : Prop} (h : P) : Halt P := h
theorem fill0 (w : World) (h : Heap) : (hd35.heap_39 w.params).In h → model PySem.Challenge.rw_om0035_01.row.prog w = model PySem.Challenge.rw_om0035_01.row.prog w := by
  k_fill
  intro _
  rfl
theorem ws2_next {h₀ h' : Heap} {L : Addr} {s : Shared} {J : Nat → (Str → Option Value) → List (Addr × Obj) → Prop} {Q : Flow → Shared → Prop} {n : Nat} (n' : Nat) {tk : Nat} {m₂ : Str → Option Value} {news₂ : List (Addr × Obj)}
    (F : Fr h₀ L h' m₂) (N : News h₀ L h' news₂) (hn : n' < n) (hJ : J n' m₂ news₂) : WhileStep2 h₀ L s J Q n .next { s with heap := h', toks := tk } := ⟨h', tk, m₂, news₂, n', rfl, F, N, hn, hJ⟩
theorem ws2_cont {h₀ h' : Heap} {L : Addr} {s : Shared} {J : Nat → (Str → Option Value) → List (Addr × Obj) → Prop} {Q : Flow → Shared → Prop} {n : Nat} (n' : Nat) {tk : Nat} {m₂ : Str → Option Value} {news₂ : List (Addr × Obj)}
    (F : Fr h₀ L h' m₂) (N : News h₀ L h' news₂) (hn : n' < n) (hJ : J n' m₂ news₂) : WhileStep2 h₀ L s J Q n .cont { s with heap := h', toks := tk } := ⟨h', tk, m₂, news₂, n', rfl, F, N, hn, hJ⟩
noncomputable def IntIs (o : Option Value) (k : Int) : Prop := ∃ t, o = some (.int k t)
theorem IntIs.of {o : Option Value} {i k : Int} {t : Tok} (h : o = some (.int i t)) (e : i = k) : IntIs o k := ⟨t, e ▸ h⟩
theorem half_eq {k : Nat} (h : 0 < k) : ((k : Int) - 1).fdiv (2 ^ Int.toNat 1) = (((k - 1) / 2 : Nat) : Int) := by
  have : (2 : Int) ^ Int.toNat 1 = 2 := rfl
  rw [this, Int.fdiv_eq_ediv_of_nonneg _ (by omega)]
  omega
theorem Tups.at {h : Heap} {vs : List Value} {ds : List Ent} (T : Tups h vs ds) {i : Nat} (hi : i < vs.length) : ∃ v, vs[i]? = some v ∧ TupAt h v (ds.getD i (0, 0, 0)) := by
  have hd : ds[i]? = some (ds.getD i (0, 0, 0)) := by rw [List.getD_eq_getElem?_getD]; simp [T.1 ▸ hi]
  exact T.2 i _ hd
theorem Tups.set {h : Heap} {vs : List Value} {ds : List Ent} (T : Tups h vs ds) (i : Nat) {v : Value} {d : Ent} (hv : TupAt h v d) : Tups h (vs.set i v) (ds.set i d) := by
  refine ⟨by simp [T.1], fun j e he => ?_⟩
  by_cases hj : i = j
  · subst hj
    by_cases hlt : i < ds.length
    · rw [List.getElem?_set_self hlt] at he
      cases he
      exact ⟨v, by rw [List.getElem?_set_self (T.1 ▸ hlt)], hv⟩
    · rw [List.getElem?_eq_none (by simpa using hlt)] at he; cases he
  · rw [List.getElem?_set_ne hj] at he
    obtain ⟨u, hu, hT⟩ := T.2 j e he
    exact ⟨u, by rw [List.getElem?_set_ne hj]; exact hu, hT⟩
theorem TupAt.keep {h h' : Heap} {v : Value} {d : Ent} (T : TupAt h v d) (k : ∀ b o, h.get? b = some o → o.cls = .type "tuple" → h'.get? b = some o) : TupAt h' v d := by
  obtain ⟨a, t1, t2, t3, rfl, ha⟩ := T
  exact ⟨a, t1, t2, t3, rfl, k _ _ ha rfl⟩
section
local macro_rules | `(tactic| walk_at "subscriptTail Name Name ref int") => `(tactic| refine Mine.Halt.mk ?_)
end
end Mine
end
local macro_rules | `(tactic| walk_at "exec While Compare cons nil") => `(tactic| refine Mine.Halt.mk ?_)
local macro_rules | `(tactic| walk_at "eval Name") => `(tactic| k_dflt refine PySem.W.nameX_L (by k_asm) (by repeat first | rfl | assumption | refine (if_neg (by decide)).trans ?_) ?_)
section
open PySem PySem.W PyProof.Rows PySem.SeqAt PySem.MeetsSeq
set_option maxRecDepth 100000
set_option maxHeartbeats 4000000
namespace Mine
section
namespace siftdown_c_k
noncomputable def PP (w : World) (p : Program) (loose : List Str) (mean : ExcName → Option Value) (mg : Str → Option Value) (mb : Str → Option Value) (hd : Option Value) (dp : Nat) (un : Nat) (gd : Option (List Code)) (cn : Str) (cs : Scope) (L : Addr) (a : Addr) (ccd : Value) (cl : List (Str × Addr)) (outer : List Env) (A₀ : Around) (base : Heap) (h₀ : Heap) (m : Str → Option Value) (s : Shared) (Q : Value → Shared → Prop) (E : Value → Shared → Prop) (hp : Addr) (n : Nat) (vs : List Value) (ds : List Ent) (st : Nat) (pos : Nat) (t : Tok) (t' : Tok) (hr : Heap) : Prop := ∀ (B : Below A₀ base outer h₀) (F : Fr h₀ L s.heap m) (X : (hd35.heap_39 w.params).In h₀) (T : Top p loose mean mg mb h₀) (hk : cs.kind = .function) (N : News h₀ L s.heap [(hp, listOf vs.toArray n)]) (hkr : KeepT hr s.heap) (hT : Tups hr vs ds) (hpos : pos < vs.length) (hlen : vs.length < 2 ^ 20) (hdp : dp + 1 < recursionLimit) (hu : un + 8 < cLine) (hret : ∀ vs' h' tk', Pres hp s.heap h' → h'.get? hp = some (listOf vs'.toArray n) → Tups hr vs' (downF ds st pos) → vs'.length = vs.length → Q .none { s with heap := h', toks := tk' }), wpAny (model PySem.Challenge.rw_om0035_01.row.prog w) (MTop hd dp un gd cn cs L a ccd cl outer) (call (.ref 42) [.ref hp, .int st t, .int pos t']) Q E s
noncomputable def QQ (cc : (World) × (Program) × (List Str) × (ExcName → Option Value) × (Str → Option Value) × (Str → Option Value) × (Option Value) × (Nat) × (Nat) × (Option (List Code)) × (Str) × (Scope) × (Addr) × (Addr) × (Value) × (List (Str × Addr)) × (List Env) × (Around) × (Heap) × (Heap) × (Str → Option Value) × (Shared) × (Value → Shared → Prop) × (Value → Shared → Prop) × (Addr) × (Nat) × (List Value) × (List Ent) × (Nat) × (Nat) × (Tok) × (Tok) × (Heap)) : Prop := PP (cc.1) (cc.2.1) (cc.2.2.1) (cc.2.2.2.1) (cc.2.2.2.2.1) (cc.2.2.2.2.2.1) (cc.2.2.2.2.2.2.1) (cc.2.2.2.2.2.2.2.1) (cc.2.2.2.2.2.2.2.2.1) (cc.2.2.2.2.2.2.2.2.2.1) (cc.2.2.2.2.2.2.2.2.2.2.1) (cc.2.2.2.2.2.2.2.2.2.2.2.1) (cc.2.2.2.2.2.2.2.2.2.2.2.2.1) (cc.2.2.2.2.2.2.2.2.2.2.2.2.2.1) (cc.2.2.2.2.2.2.2.2.2.2.2.2.2.2.1) (cc.2.2.2.2.2.2.2.2.2.2.2.2.2.2.2.1) (cc.2.2.2.2.2.2.2.2.2.2.2.2.2.2.2.2.1) (cc.2.2.2.2.2.2.2.2.2.2.2.2.2.2.2.2.2.1) (cc.2.2.2.2.2.2.2.2.2.2.2.2.2.2.2.2.2.2.1) (cc.2.2.2.2.2.2.2.2.2.2.2.2.2.2.2.2.2.2.2.1) (cc.2.2.2.2.2.2.2.2.2.2.2.2.2.2.2.2.2.2.2.2.1) (cc.2.2.2.2.2.2.2.2.2.2.2.2.2.2.2.2.2.2.2.2.2.1) (cc.2.2.2.2.2.2.2.2.2.2.2.2.2.2.2.2.2.2.2.2.2.2.1) (cc.2.2.2.2.2.2.2.2.2.2.2.2.2.2.2.2.2.2.2.2.2.2.2.1) (cc.2.2.2.2.2.2.2.2.2.2.2.2.2.2.2.2.2.2.2.2.2.2.2.2.1) (cc.2.2.2.2.2.2.2.2.2.2.2.2.2.2.2.2.2.2.2.2.2.2.2.2.2.1) (cc.2.2.2.2.2.2.2.2.2.2.2.2.2.2.2.2.2.2.2.2.2.2.2.2.2.2.1) (cc.2.2.2.2.2.2.2.2.2.2.2.2.2.2.2.2.2.2.2.2.2.2.2.2.2.2.2.1) (cc.2.2.2.2.2.2.2.2.2.2.2.2.2.2.2.2.2.2.2.2.2.2.2.2.2.2.2.2.1) (cc.2.2.2.2.2.2.2.2.2.2.2.2.2.2.2.2.2.2.2.2.2.2.2.2.2.2.2.2.2.1) (cc.2.2.2.2.2.2.2.2.2.2.2.2.2.2.2.2.2.2.2.2.2.2.2.2.2.2.2.2.2.2.1) (cc.2.2.2.2.2.2.2.2.2.2.2.2.2.2.2.2.2.2.2.2.2.2.2.2.2.2.2.2.2.2.2.1) (cc.2.2.2.2.2.2.2.2.2.2.2.2.2.2.2.2.2.2.2.2.2.2.2.2.2.2.2.2.2.2.2.2)
@[irreducible] noncomputable def cc : (World) × (Program) × (List Str) × (ExcName → Option Value) × (Str → Option Value) × (Str → Option Value) × (Option Value) × (Nat) × (Nat) × (Option (List Code)) × (Str) × (Scope) × (Addr) × (Addr) × (Value) × (List (Str × Addr)) × (List Env) × (Around) × (Heap) × (Heap) × (Str → Option Value) × (Shared) × (Value → Shared → Prop) × (Value → Shared → Prop) × (Addr) × (Nat) × (List Value) × (List Ent) × (Nat) × (Nat) × (Tok) × (Tok) × (Heap) := eps (by (repeat' first | exact neW | exact neA | exact neS | refine neP ?_ ?_ | infer_instance)) QQ
@[irreducible] noncomputable def s : Shared := cc.2.2.2.2.2.2.2.2.2.2.2.2.2.2.2.2.2.2.2.2.2.1
@[irreducible] noncomputable def hp : Addr := cc.2.2.2.2.2.2.2.2.2.2.2.2.2.2.2.2.2.2.2.2.2.2.2.2.1
@[irreducible] noncomputable def n : Nat := cc.2.2.2.2.2.2.2.2.2.2.2.2.2.2.2.2.2.2.2.2.2.2.2.2.2.1
@[irreducible] noncomputable def vs : List Value := cc.2.2.2.2.2.2.2.2.2.2.2.2.2.2.2.2.2.2.2.2.2.2.2.2.2.2.1
@[irreducible] noncomputable def ds : List Ent := cc.2.2.2.2.2.2.2.2.2.2.2.2.2.2.2.2.2.2.2.2.2.2.2.2.2.2.2.1
@[irreducible] noncomputable def st : Nat := cc.2.2.2.2.2.2.2.2.2.2.2.2.2.2.2.2.2.2.2.2.2.2.2.2.2.2.2.2.1
@[irreducible] noncomputable def pos : Nat := cc.2.2.2.2.2.2.2.2.2.2.2.2.2.2.2.2.2.2.2.2.2.2.2.2.2.2.2.2.2.1
@[irreducible] noncomputable def t : Tok := cc.2.2.2.2.2.2.2.2.2.2.2.2.2.2.2.2.2.2.2.2.2.2.2.2.2.2.2.2.2.2.1
@[irreducible] noncomputable def t' : Tok := cc.2.2.2.2.2.2.2.2.2.2.2.2.2.2.2.2.2.2.2.2.2.2.2.2.2.2.2.2.2.2.2.1
@[irreducible] noncomputable def hr : Heap := cc.2.2.2.2.2.2.2.2.2.2.2.2.2.2.2.2.2.2.2.2.2.2.2.2.2.2.2.2.2.2.2.2
noncomputable def stg : PSigma fun R : (Heap) → (Addr) → (Heap) → Prop => (∀ g L' h₁, R g L' h₁) → PP (cc.1) (cc.2.1) (cc.2.2.1) (cc.2.2.2.1) (cc.2.2.2.2.1) (cc.2.2.2.2.2.1) (cc.2.2.2.2.2.2.1) (cc.2.2.2.2.2.2.2.1) (cc.2.2.2.2.2.2.2.2.1) (cc.2.2.2.2.2.2.2.2.2.1) (cc.2.2.2.2.2.2.2.2.2.2.1) (cc.2.2.2.2.2.2.2.2.2.2.2.1) (cc.2.2.2.2.2.2.2.2.2.2.2.2.1) (cc.2.2.2.2.2.2.2.2.2.2.2.2.2.1) (cc.2.2.2.2.2.2.2.2.2.2.2.2.2.2.1) (cc.2.2.2.2.2.2.2.2.2.2.2.2.2.2.2.1) (cc.2.2.2.2.2.2.2.2.2.2.2.2.2.2.2.2.1) (cc.2.2.2.2.2.2.2.2.2.2.2.2.2.2.2.2.2.1) (cc.2.2.2.2.2.2.2.2.2.2.2.2.2.2.2.2.2.2.1) (cc.2.2.2.2.2.2.2.2.2.2.2.2.2.2.2.2.2.2.2.1) (cc.2.2.2.2.2.2.2.2.2.2.2.2.2.2.2.2.2.2.2.2.1) s (cc.2.2.2.2.2.2.2.2.2.2.2.2.2.2.2.2.2.2.2.2.2.2.1) (cc.2.2.2.2.2.2.2.2.2.2.2.2.2.2.2.2.2.2.2.2.2.2.2.1) hp n vs ds st pos t t' hr := by
  refine' PSigma.mk _ (fun hR => ?_)
  rotate_left
  unfold PP
  intro B F X T hk N hkr hT hpos hlen hdp hu hret
  w_on
  refine wpAny_call ?_
  k_dflt (refine' code_defG B F X N T rfl rfl hk ?k6 ?k7 ?k8 ?k9 ?kB ?_ ?c2 ?c3 ?c4 ?c5; (case k6 => k_is); (case k7 => k_is); (case k8 => ktr_room); (case k9 => exact BindsTo.of_eq rfl); (case c5 => decide); (case kB => exact locs rfl); (case c2 => exact rfl); (case c3 => exact rfl); (case c4 => exact rfl))
  intro g L' h₁
  revert B F X T hk N hkr hT hpos hlen hdp hu hret
  exact hR g L' h₁
noncomputable def Q2 (cd : (Heap) × (Addr) × (Heap)) : Prop := stg.1  (cd.1) (cd.2.1) (cd.2.2)
@[irreducible] noncomputable def cd : (Heap) × (Addr) × (Heap) := eps (by (repeat' first | exact neW | exact neA | exact neS | refine neP ?_ ?_ | infer_instance)) Q2
@[irreducible] noncomputable def g : Heap := cd.1
@[irreducible] noncomputable def L' : Addr := cd.2.1
@[irreducible] noncomputable def h₁ : Heap := cd.2.2
theorem walk2 : stg.1 g L' h₁ := by
  intro B F X T hk N hkr hT hpos hlen hdp hu hret FG F' N' B' X' T' GS
  clear FG
  have hNe : ∀ {b : Addr} {o : Obj}, s.heap.get? b = some o → o.cls = .type "tuple" → g.get? b = some o := by
    intro b o hb ho
    refine GS b o hb ?_
    intro hm
    rw [List.map_cons, List.map_nil, List.mem_singleton] at hm
    subst hm
    rw [(N _ (.head _)).1] at hb
    cases hb
    exact absurd (show Value.type "list" = Value.type "tuple" from ho) (by decide)
  have up : ∀ {h' : Heap} {m' : Str → Option Value}, Fr g L' h' m' → ∀ {v : Value} {d : Ent}, TupAt hr v d → TupAt h' v d := fun F _ _ T => T.keep fun b o hb ho => F.keep _ _ (hNe (hkr b o hb ho) ho)
  obtain ⟨xv, hxv, hxT⟩ := hT.at hpos
  k_steps
  refine Halt.out ?_
  refine sub_at pos (by k_asm) (by k_mem) rfl hxv hlen ?_
  k_steps
  refine Halt.out ?_
  refine While_inv2 (fun k m₁ news₁ => Pk2 fun (vs₁ : List Value) (ds₁ : List Ent) => Al9 (IntIs (m₁ (Str.ofString "pos")) k) (m₁ (Str.ofString "newitem") = some xv) (m₁ (Str.ofString "heap") = some (.ref hp)) (m₁ (Str.ofString "startpos") = some (.int st t)) (news₁ = [(hp, listOf vs₁.toArray n)]) (Tups hr vs₁ ds₁) (k < vs₁.length) (vs₁.length = vs.length) (downGo ds₁ st (ds.getD pos (0, 0, 0)) k = downF ds st pos)) (n₀ := pos) (by k_asm) (by k_asm) ?_ ?_
  · exact ⟨vs, ds, ⟨t', rfl⟩, rfl, rfl, rfl, rfl, hT, hpos, rfl, rfl⟩
  rintro k m₁ news₁ h₂ tk₂ F₂ N₂ ⟨vs₁, ds₁, ⟨t₁, hm1⟩, hm2, hm3, hm4, rfl, hT₁, hp₁, hl₁, hres⟩
  have hlen₁ : vs₁.length < 2 ^ 20 := by omega
  k_steps
  · rename_i hlt _ _ _
    have hlt' : st < k := by omega
    have hpp : (k - 1) / 2 < vs₁.length := by omega
    obtain ⟨pv, hpv, hpT⟩ := hT₁.at hpp
    refine Halt.out ?_
    refine sub_at ((k - 1) / 2) (by k_asm) (by k_mem) (half_eq (by omega)) hpv hlen₁ ?_
    k_steps
    refine lt_ent (up (by k_asm) hxT) (up (by k_asm) hpT) (by ktr_units) ?_
    k_steps
    · rename_i hcmp
      refine set_at k (by k_asm) (by k_asm) (by k_upd) rfl hp₁ hlen₁ ?_
      intro h5 F5 N5
      k_steps
      refine ws2_cont ((k - 1) / 2) (by k_asm) (by k_asm) (by omega) ?_
      refine ⟨vs₁.set k pv, ds₁.set k (ds₁.getD ((k - 1) / 2) (0, 0, 0)), .of rfl (half_eq (by omega)), hm2, hm3, hm4, rfl, hT₁.set k hpT, by simpa using hpp, by simpa using hl₁, ?_⟩
      rw [downGo, dif_pos hlt', if_pos hcmp] at hres
      exact hres
    · rename_i hcmp
      show WhileStep2 _ _ _ _ _ _ _ _
      dsimp only [WhileStep2]
      k_steps
      refine set_at k (by k_asm) (by k_asm) (by k_upd) rfl hp₁ hlen₁ ?_
      intro h5 F5 N5
      k_steps
      rw [downGo, dif_pos hlt', if_neg (by simpa using hcmp)] at hres
      exact hret (vs₁.set k xv) _ _ (fun b o hb hx => F5.keep b o (GS b o hx (by simpa using hb))) (N5 _ (.head _)).1 (hres ▸ hT₁.set k hxT) (by simpa using hl₁)
  · rename_i hge
    refine set_at k (by k_asm) (by k_asm) (by k_upd) rfl hp₁ hlen₁ ?_
    intro h5 F5 N5
    k_steps
    rw [downGo, dif_neg (by omega)] at hres
    exact hret (vs₁.set k xv) _ _ (fun b o hb hx => F5.keep b o (GS b o hx (by simpa using hb))) (N5 _ (.head _)).1 (hres ▸ hT₁.set k hxT) (by simpa using hl₁)
theorem q2 : Q2 cd := by
  have h := walk2
  unfold g L' h₁ at h
  exact h
theorem all2 : ∀ x, Q2 x := by
  have h := q2
  unfold cd at h
  exact eps_all h
theorem walk : PP (cc.1) (cc.2.1) (cc.2.2.1) (cc.2.2.2.1) (cc.2.2.2.2.1) (cc.2.2.2.2.2.1) (cc.2.2.2.2.2.2.1) (cc.2.2.2.2.2.2.2.1) (cc.2.2.2.2.2.2.2.2.1) (cc.2.2.2.2.2.2.2.2.2.1) (cc.2.2.2.2.2.2.2.2.2.2.1) (cc.2.2.2.2.2.2.2.2.2.2.2.1) (cc.2.2.2.2.2.2.2.2.2.2.2.2.1) (cc.2.2.2.2.2.2.2.2.2.2.2.2.2.1) (cc.2.2.2.2.2.2.2.2.2.2.2.2.2.2.1) (cc.2.2.2.2.2.2.2.2.2.2.2.2.2.2.2.1) (cc.2.2.2.2.2.2.2.2.2.2.2.2.2.2.2.2.1) (cc.2.2.2.2.2.2.2.2.2.2.2.2.2.2.2.2.2.1) (cc.2.2.2.2.2.2.2.2.2.2.2.2.2.2.2.2.2.2.1) (cc.2.2.2.2.2.2.2.2.2.2.2.2.2.2.2.2.2.2.2.1) (cc.2.2.2.2.2.2.2.2.2.2.2.2.2.2.2.2.2.2.2.2.1) s (cc.2.2.2.2.2.2.2.2.2.2.2.2.2.2.2.2.2.2.2.2.2.2.1) (cc.2.2.2.2.2.2.2.2.2.2.2.2.2.2.2.2.2.2.2.2.2.2.2.1) hp n vs ds st pos t t' hr := stg.2 fun g L' h₁ => all2 (g, L', h₁) 
theorem q : QQ cc := by
  have h := walk
  unfold s hp n vs ds st pos t t' hr at h
  exact h
theorem all : ∀ x, QQ x := by
  have h := q
  unfold cc at h
  exact eps_all h
end siftdown_c_k
theorem siftdown_c {w : World} {p : Program} {loose : List Str} {mean : ExcName → Option Value} {mg : Str → Option Value} {mb : Str → Option Value} {hd : Option Value} {dp : Nat} {un : Nat} {gd : Option (List Code)} {cn : Str} {cs : Scope} {L : Addr} {a : Addr} {ccd : Value} {cl : List (Str × Addr)} {outer : List Env} {A₀ : Around} {base : Heap} {h₀ : Heap} {m : Str → Option Value} {s : Shared} {Q : Value → Shared → Prop} {E : Value → Shared → Prop} {hp : Addr} {n : Nat} {vs : List Value} {ds : List Ent} {st : Nat} {pos : Nat} {t : Tok} {t' : Tok} {hr : Heap} (B : Below A₀ base outer h₀) (F : Fr h₀ L s.heap m) (X : (hd35.heap_39 w.params).In h₀) (T : Top p loose mean mg mb h₀) (hk : cs.kind = .function) (N : News h₀ L s.heap [(hp, listOf vs.toArray n)]) (hkr : KeepT hr s.heap) (hT : Tups hr vs ds) (hpos : pos < vs.length) (hlen : vs.length < 2 ^ 20) (hdp : dp + 1 < recursionLimit) (hu : un + 8 < cLine) (hret : ∀ vs' h' tk', Pres hp s.heap h' → h'.get? hp = some (listOf vs'.toArray n) → Tups hr vs' (downF ds st pos) → vs'.length = vs.length → Q .none { s with heap := h', toks := tk' }) : wpAny (model PySem.Challenge.rw_om0035_01.row.prog w) (MTop hd dp un gd cn cs L a ccd cl outer) (call (.ref 42) [.ref hp, .int st t, .int pos t']) Q E s :=
  siftdown_c_k.all (w, p, loose, mean, mg, mb, hd, dp, un, gd, cn, cs, L, a, ccd, cl, outer, A₀, base, h₀, m, s, Q, E, hp, n, vs, ds, st, pos, t, t', hr) B F X T hk N hkr hT hpos hlen hdp hu hret
end
end Mine
end

/- C0 -/
section
open PySem PySem.W PyProof.Rows PySem.Calls PySem.Spec
set_option maxRecDepth 100000
set_option maxHeartbeats 4000000
namespace Mine
theorem all6 {α : Type} {P : α → Prop} {a b c d e f : α} (h1 : P a) (h2 : P b) (h3 : P c) (h4 : P d) (h5 : P e) (h6 : P f) : ∀ q ∈ [a, b, c, d, e, f], P q :=
  List.forall_mem_cons.2 ⟨h1, List.forall_mem_cons.2 ⟨h2, List.forall_mem_cons.2 ⟨h3, List.forall_mem_cons.2 ⟨h4, List.forall_mem_cons.2 ⟨h5, List.forall_mem_cons.2 ⟨h6, fun _ h => nomatch h⟩⟩⟩⟩⟩⟩
theorem all3 {α : Type} {P : α → Prop} {a b c : α} (h1 : P a) (h2 : P b) (h3 : P c) : ∀ q ∈ [a, b, c], P q :=
  List.forall_mem_cons.2 ⟨h1, List.forall_mem_cons.2 ⟨h2, List.forall_mem_cons.2 ⟨h3, fun _ h => nomatch h⟩⟩⟩
theorem all4 {α : Type} {P : α → Prop} {a b c d : α} (h1 : P a) (h2 : P b) (h3 : P c) (h4 : P d) : ∀ q ∈ [a, b, c, d], P q := List.forall_mem_cons.2 ⟨h1, all3 h2 h3 h4⟩
theorem all5 {α : Type} {P : α → Prop} {a b c d e : α} (h1 : P a) (h2 : P b) (h3 : P c) (h4 : P d) (h5 : P e) : ∀ q ∈ [a, b, c, d, e], P q := List.forall_mem_cons.2 ⟨h1, all4 h2 h3 h4 h5⟩
theorem all8 {α : Type} {P : α → Prop} {a b c d e f g h : α} (h1 : P a) (h2 : P b) (h3 : P c) (h4 : P d) (h5 : P e) (h6 : P f) (h7 : P g) (h8 : P h) : ∀ q ∈ [a, b, c, d, e, f, g, h], P q :=
  List.forall_mem_cons.2 ⟨h1, List.forall_mem_cons.2 ⟨h2, all6 h3 h4 h5 h6 h7 h8⟩⟩
noncomputable abbrev frs (l : List Env) : List Addr := l.filterMap (·.frame)
/-- all is kept but the objects X, and the frames fs up to their slots -/
structure PresF (fs X : List Addr) (h h' : Heap) : Prop where
  other : ∀ b o, h.get? b = some o → b ∉ X → b ∉ fs → h'.get? b = some o
  frame : ∀ b o, h.get? b = some o → b ∉ X → b ∈ fs → ∃ sl, h'.get? b = some { o with slots := sl }
theorem PresF.trans {fs X : List Addr} {h h' h'' : Heap} (a : PresF fs X h h') (b : PresF fs X h' h'') : PresF fs X h h'' :=
  ⟨fun x o e m n => b.other x o (a.other x o e m n) m n, fun x o e m n => by
    obtain ⟨s1, h1⟩ := a.frame x o e m n
    obtain ⟨s2, h2⟩ := b.frame x _ h1 m n
    exact ⟨s2, h2⟩⟩
theorem PresF.up {fs X : List Addr} {h h' : Heap} (a : PresF fs X h h') {b : Addr} {o : Obj} (e : h.get? b = some o) (m : b ∉ X) : ∃ sl, h'.get? b = some { o with slots := sl } := by
  by_cases q : b ∈ fs
  · exact a.frame b o e m q
  · exact ⟨o.slots, a.other b o e m q⟩
theorem PresF.of_keep {fs X : List Addr} {h h' : Heap} (k : ∀ b o, h.get? b = some o → h'.get? b = some o) : PresF fs X h h' := ⟨fun b o e _ _ => k b o e, fun b o e _ _ => ⟨o.slots, k b o e⟩⟩
/-- from a ground turned in its frames' slots -/
theorem PresF.of_turn {fs X : List Addr} {h g g' h' : Heap} {L : Addr} {m : Str → Option Value} (GS : GSub h g X) (T : KtsTurn fs g g') (F : Fr g' L h' m) : PresF fs X h h' :=
  ⟨fun b o e mx nf => F.keep b o (T.other b o (GS b o e mx) nf), fun b o e mx hf => by
    obtain ⟨sl, hs⟩ := T.frame b o (GS b o e mx) hf
    exact ⟨sl, F.keep _ _ hs⟩⟩

section
variable {prog : Program} {w : World} {A₀ A : Around} {s : Shared} {base h₀ : Heap} {outer : List Env} {env : Env} {L : Addr} {m : Str → Option Value} {news : List (Addr × Obj)} {K : Frag} {p : Program} {loose : List Str} {mean : ExcName → Option Value} {mg mb : Str → Option Value}
    {R : Result → Shared → Prop} {name qual : Str} {params : Arguments} {body : List Stmt} {scope : Scope} {dV kV doc pm cdv ct oc : Value} {an od : Option Addr} {osl : Array (Option Value)} {f : Addr} {args : Args} {binds : List (Str × Value)}
theorem dicts_push (B : Below A₀ base outer h₀) (F : Fr h₀ L s.heap m) (N : News h₀ L s.heap news) (hf : env.frame = some L) (D : KtsDicts (frs outer) h₀) : KtsDicts (frs (env :: outer)) (hideAll s.heap (news.map (·.1))) := by
  have nm : ∀ b o, h₀.get? b = some o → b ∉ news.map (·.1) := fun b o e q => by
    obtain ⟨p, hp, rfl⟩ := List.mem_map.mp q
    rw [(N p hp).2.2] at e; cases e
  intro b hb
  obtain ⟨env', he, hfe⟩ := List.mem_filterMap.mp hb
  rcases List.mem_cons.mp he with rfl | he
  · obtain rfl : L = b := Option.some.inj (hf.symm.trans hfe)
    obtain ⟨oL, es, ep, hL, hLd, hLk, hLf⟩ := F.ns
    have nL : L ∉ news.map (·.1) := fun q => by
      obtain ⟨p, hp, e⟩ := List.mem_map.mp q
      exact (N p hp).2.1 e
    exact ⟨oL, es, ep, hideAll_get _ hL nL, hLd⟩
  · obtain ⟨o, es, n, ho, hd⟩ := D b (List.mem_filterMap.mpr ⟨env', he, hfe⟩)
    exact ⟨o, es, n, hideAll_get _ (F.keep _ _ ho) (nm _ _ ho), hd⟩
theorem enterM (B : Below A₀ base outer h₀) (F : Fr h₀ L s.heap m) (XB : K.In base) (TB : Top p loose mean mg mb base) (D : KtsDicts (frs outer) h₀) (N : News h₀ L s.heap news)
    (hA : A.frames = some (env :: outer)) (hf : env.frame = some L) (hke : env.scope.kind = .function)
    (ho : K.lookup f = some ⟨oc, od, .func (fnOf name qual params body scope dV kV doc pm an cdv ct), osl⟩) (hcd : codeIn K cdv qual = true) (hroom : A.depth < recursionLimit)
    (hbind : BindsTo s (fnOf name qual params body scope dV kV doc pm an cdv ct) args binds) (hloc : ∀ y ∈ binds, scope.names.lookup y.1 = some .local)
    (h : ∀ g L' h₁, Fr g L' h₁ (fun y => binds.reverse.lookup y) → News g L' h₁ news → Below A base (env :: outer) g → K.In g → Top p loose mean mg mb g → GSub s.heap g (news.map (·.1)) → KtsDicts (frs (env :: outer)) g →
      wpAny (model prog w) (A.deeper (envOf qual scope L' f cdv)) (execs body (envOf qual scope L' f cdv))
        (fun fl s' => R (.ok (.ret (match fl with | .ret v => v | _ => .none))) s')
        (fun e s' => wpAny (model prog w) (A.deeper (envOf qual scope L' f cdv)) (leaving (envOf qual scope L' f cdv) e) (fun _ s'' => R (.error e) s'') (fun e' s'' => R (.error e') s'') s')
        { s with heap := h₁, toks := s.toks + binds.length })
    (hco : scope.isCoroutine = false) (hgen : scope.isGenerator = false) (hk : scope.kind = .function)
    (hcell : ∀ x ∈ scope.names, x.2 ≠ .cell) : codeAny (model prog w) A (.call (.ref f) args) R s := by
  have X₀ := XB.keeps B.stays
  have T := TB.keeps B.stays
  obtain ⟨FG, BG, st, lv⟩ := groundX (R := R) B F N hA hf hke
  refine codeAny_call_def (fd := fnX name qual params body scope [] dV kV doc pm an cdv ct) (body := body) (binds := binds) hroom ((X₀.keeps F.keep) _ _ ho) rfl (T.nolimit.keeps F.keep) (codeRec_of (X₀.keeps F.keep) hcd) rfl hbind hcell hloc (fun h₁ hns hk₁ => ?_) hco hgen hk
  exact h _ s.heap.objs.size h₁ ⟨hns, fun b o e => hk₁ b o (of_hideAll _ e), Nat.le_of_eq (hideAll_size _ _)⟩
    (fun p hp => ⟨hk₁ _ _ (N p hp).1, Nat.ne_of_lt (Heap.lt_size (N p hp).1), hideAll_none _ (List.mem_map_of_mem hp)⟩) BG (X₀.keeps st) (T.keeps st) (fun b o e n => hideAll_get _ e n) (dicts_push B F N hf D)
end
/-- the caller behind a call that turned frames -/
theorem turn_ground {A₀ : Around} {base h₀ h h' : Heap} {outer : List Env} {L : Addr} {env : Env} {m : Str → Option Value} {news : List (Addr × Obj)} {X : List Addr}
    (B : Below A₀ base outer h₀) (F : Fr h₀ L h m) (N : News h₀ L h news) (D : KtsDicts (frs outer) h₀) (hf : env.frame = some L) (P : PresF (frs (env :: outer)) X h h') (hX : ∀ a ∈ X, h₀.get? a = none ∧ a ≠ L) :
    Pk1 fun g' => Al5 (KtsTurn (frs outer) h₀ g') (Fr g' L h' m) (Below A₀ base outer g') (KtsDicts (frs outer) g') ((∀ q ∈ news, q.1 ∉ X → q.1 ∉ frs (env :: outer) → h'.get? q.1 = some q.2 ∧ q.1 ≠ L ∧ g'.get? q.1 = none)) := by
  have hL0 : h₀.get? L = none := kts_self F
  have nX : ∀ b o, h₀.get? b = some o → b ∉ X := fun b o e q => by rw [(hX b q).1] at e; cases e
  have nfs : ∀ b, b ∈ frs (env :: outer) → b = L ∨ b ∈ frs outer := fun b hb => by
    obtain ⟨env', he, hfe⟩ := List.mem_filterMap.mp hb
    rcases List.mem_cons.mp he with rfl | he
    · exact .inl (Option.some.inj (hf.symm.trans hfe)).symm
    · exact .inr (List.mem_filterMap.mpr ⟨env', he, hfe⟩)
  obtain ⟨T, S⟩ := kts_turn_at (h := h') (fs := frs outer) (g := h₀)
    (fun b hb => by
      obtain ⟨_, o, ho, _⟩ := B.frames.mem hb
      exact ⟨o, ho⟩)
    (fun b o e nm => P.other b o (F.keep b o e) (nX b o e) (fun hm => by
      rcases nfs b hm with z | z
      · rw [z, hL0] at e
        cases e
      · exact nm z))
    (fun b o e hm => P.up (F.keep b o e) (nX b o e))
  obtain ⟨oL, es, ep, hL, hLd, hLk, hLf⟩ := F.ns
  obtain ⟨sl, hs⟩ := P.up hL (fun q => (hX _ q).2 rfl)
  refine ⟨_, T, ⟨⟨_, es, ep, hs, hLd, hLk, hLf⟩, S, by rw [T.size]; exact F.above⟩, ⟨B.stack, fun b o e => T.other b o (B.stays b o e) (fun hm => by
    rw [(B.frames.mem hm).1] at e
    cases e), B.frames.of_keeps fun b o e _ => by
    obtain ⟨sl', hs'⟩ := T.up e
    exact ⟨_, hs', rfl⟩⟩, D.turn T, fun q hq nx nf => ⟨P.other _ _ (N q hq).1 nx nf, (N q hq).2.1, T.none_ _ (N q hq).2.2⟩⟩
end Mine
end

/- A3 -/
section
open PySem PySem.W PyProof.Rows PySem.Builtin PySem.Builtin.Str
set_option maxRecDepth 100000
set_option maxHeartbeats 4000000
namespace Mine
section
variable {prog : Program} {w : World} {A : Around} {E : Value → Shared → Prop} {s : Shared} {x y : Str} {t u v : Tok} {i : Int} {Q : Value → Shared → Prop}
theorem raises_index3 (x y : Str) (i : Int) (t u v : Tok) (h : occurrences x y (fromIndex x.length i) x.length 1 = []) : Meets («str.index» ⟨[.str x t, .str y u, .int i v], []⟩) (raisesNew "ValueError") := by
  intro prog w A R s hS
  show wpAny _ _ (match occurrences x y (fromIndex x.length i) (min x.length x.length) 1 with | i :: _ => retInt i | [] => _) _ _ s
  rw [Nat.min_self, h]
  first
    | exact wpAny_bind (wpAny_rule (by exact_raiseError plainExc_ValueError hS.1 hS.2))
    | exact wpAny_bind (wpAny_rule (wpAny_bind (by exact_raiseError plainExc_ValueError hS.1 hS.2)))
theorem gives_index3 (x y : Str) (i : Int) (t u v : Tok) (k : Nat) (rest : List Nat) (h : occurrences x y (fromIndex x.length i) x.length 1 = k :: rest) : Gives («str.index» ⟨[.str x t, .str y u, .int i v], []⟩) (.int k) := by
  show Gives (match occurrences x y (fromIndex x.length i) (min x.length x.length) 1 with | i :: _ => retInt i | [] => (do rule "str.index.not-found"; raiseError "ValueError" "substring not found")) _
  rw [Nat.min_self, h]
  exact .of_eq rfl
theorem index3_or (hA : A.handled = none)
    (h0 : occurrences x y (fromIndex x.length i) x.length 1 = [] → ∀ h' tk e, Heap.NewExc s.heap h' e "ValueError" → E (.ref e) { s with heap := h', toks := tk })
    (h1 : ∀ k r, occurrences x y (fromIndex x.length i) x.length 1 = k :: r → Q (.int k s.toks) { s with toks := s.toks + 1 }) :
    wpAny (model prog w) A (call (.builtin "str.index") [.str x t, .str y u, .int i v]) Q E s := by
  cases ho : occurrences x y (fromIndex x.length i) x.length 1 with
  | nil => exact call_meets F.slot_str_index (typeIs_str _ _ _) F.entry_str_index (F.args_str_index_3 _ _ _) (raises_index3 x y i t u v ho) ⟨hA, h0 ho⟩
  | cons k rest => exact call_gives F.slot_str_index (typeIs_str _ _ _) F.entry_str_index (F.args_str_index_3 _ _ _) (gives_index3 x y i t u v k rest ho) (h1 k rest ho)
end
section
variable {prog : Program} {w : World} {A : Around} {E : Value → Shared → Prop} {s : Shared} {t : Tok}
/-- a frozenset that holds the full stop alone -/
noncomputable def FzObj (o : Obj) : Prop := ∃ hsh t ep tbl, o = { cls := .type "frozenset", data := .set #[(hsh, .str (Str.ofString ".") t)] ep tbl } ∧ SetTable.fits tbl 1 = true
theorem mro_frozenset : mroOf (.type "frozenset") = pure [.type "frozenset", .type "object"] := by rw [mroOf_type]; kernel_rfl
theorem lookup_frozenset_new : typeLookup (.type "frozenset") "__new__" = pure (some (.builtin "frozenset.__new__")) := by rw [typeLookup_type, builtinLookup_eq_fast]; kernel_rfl
theorem lookup_frozenset_init : typeLookup (.type "frozenset") "__init__" = pure (some (.builtin "object.__init__")) := by rw [typeLookup_type, builtinLookup_eq_fast]; kernel_rfl
theorem typeCall_frozenset_1 (a : Value) : checkTypeCall "frozenset" ⟨[a], []⟩ = pure () := by kernel_rfl
theorem newCall_frozenset_1 (a : Value) : checkBuiltinCall "frozenset.__new__" ⟨[.type "frozenset", a], []⟩ = pure () := by kernel_rfl
theorem entry_frozenset_new : entryFor table "frozenset.__new__" = some Builtin.«frozenset.__new__» := entryFor_of_tree (by kernel_rfl)
theorem sub_frozenset_self : isSubtype (.type "frozenset") (.type "frozenset") = pure true := by rw [isSubtype_type]; kernel_rfl
theorem sub_str_frozenset : isSubtype (.type "str") (.type "frozenset") = pure false := by rw [isSubtype_type]; kernel_rfl
theorem sub_str_set : isSubtype (.type "str") (.type "set") = pure false := by rw [isSubtype_type]; kernel_rfl
theorem entry_update_loop : entryFor table "set.update.loop" = some Builtin.«set.update.loop» := entryFor_of_tree (by kernel_rfl)
theorem plain_update_loop : plainId "set.update.loop" = true := by decide +kernel

theorem layNew_first (led : Bool) (h : Int) (x : Value) : layNew (.fresh 0 0 led) #[] h x = (#[(h, x)], { mask := 7, place := #[SetTable.bits h % 8], dummies := #[], finger := 0, led := led, moves := 0, plain := true }, false, false) := by
  kernel_rfl
/-- adding the full stop to an empty set -/
theorem add_first {a : Addr} {ep : Nat} {led : Bool} {cls : Value} {Q : Bool → Shared → Prop} (ho : s.heap.get? a = some { cls := cls, data := .set #[] ep (.fresh 0 0 led) })
    (h : ∀ hsh tbl h' tk, SetTable.fits tbl 1 = true → h'.get? a = some { cls := cls, data := .set #[(hsh, .str (Str.ofString ".") t)] (ep + 1) tbl } → Heap.SameBut a s.heap h' → Q true { s with heap := h', toks := tk }) :
    wpAny (model prog w) A (setAdd a (.str (Str.ofString ".") t)) Q E s := by
  unfold setAdd
  refine wpAny_holding (wpAny_bind (wpAny_pyHash_str ?_))
  generalize hashStr w (Str.ofString ".") = hsh
  unfold setAddHashed setAddHashedIn
  refine wpAny_holding (wpAny_bind (wpAny_setState_of ho rfl rfl ?_))
  dsimp only
  rw [show byScan (.str (Str.ofString ".") t) #[] = true from by simp [byScan, Value.scannable, scanBound]]
  simp only [↓reduceIte]
  unfold setAddByScan
  refine wpAny_bind ?_
  refine wpAny_bind (wpAny_rule ?_)
  refine wpAny_bind (m := setScan a (.str (Str.ofString ".") t) hsh true #[]) (wpAny_of_eq (a := ScanMet.absent) (by simp [setScan, setScanStrs, setScanFrom]) ?_)
  rw [layNew_first]
  dsimp only
  refine wpAny_bind (wpAny_pure ?_)
  simp only [↓reduceIte]
  refine wpAny_bind (wpAny_of_eq (a := false) (by simp [hashByValue]) ?_)
  refine wpAny_bind (wpAny_storeSet_of ho rfl ?_ (by simp [sizeLine]))
  simp only [Bool.false_eq_true, ↓reduceIte]
  rw [show (!false && SetTable.tooFull { mask := 7, place := #[SetTable.bits hsh % 8], dummies := #[], finger := 0, led := led, moves := 0, plain := false }) = false from rfl]
  simp only [Bool.false_eq_true, ↓reduceIte]
  refine wpAny_pure (wpAny_pure ?_)
  exact h hsh { mask := 7, place := #[SetTable.bits hsh % 8], dummies := #[], finger := 0, led := led, moves := 0, plain := false } _ _ rfl (Heap.get?_update_self _ ho rfl) (Heap.SameBut.update ..)
theorem dot_ascii : (Str.ofString ".").cps.all (· < 128) = true := by decide +kernel
theorem dot_cps : (Str.ofString ".").cps = #[46] := by decide +kernel
theorem dot_is : Str.ofString "." = ⟨#[46]⟩ := by decide +kernel
/-- the loop that fills the set from the text '.' -/
theorem update_dot {a it : Addr} {led : Bool} {cls : Value} {t : Tok} {R : Result → Shared → Prop} (hA : A.handled = none) (hne : it ≠ a)
    (ho : s.heap.get? a = some { cls := cls, data := .set #[] 0 (.fresh 0 0 led) }) (hit : s.heap.IsStrIter it "str_ascii_iterator" (Str.ofString ".") t 0)
    (h : ∀ hsh t tbl h' tk, SetTable.fits tbl 1 = true → h'.get? a = some { cls := cls, data := .set #[(hsh, .str (Str.ofString ".") t)] 1 tbl } → (∀ b o, b ≠ a → b ≠ it → s.heap.get? b = some o → h'.get? b = some o) → R (.ok (.ret .none)) { s with heap := h', toks := tk }) :
    codeAny (model prog w) A (.builtin "set.update.loop" ⟨[.ref a, .ref it], []⟩) R s := by
  refine codeAny_builtin entry_update_loop ?_
  rw [Around.under_plainId plain_update_loop _]
  unfold Builtin.«set.update.loop»
  dsimp only
  refine wpAny_bind (wpAny_pyNext_ascii_item (c := 46) hit (by rw [dot_cps]; rfl) fun h₁ hit₁ hs₁ => ?_)
  dsimp only
  rw [← dot_is]
  refine wpAny_bind (wpAny_holding (add_first (ep := 0) (led := led) (cls := cls) (by rw [hs₁.2 _ (Ne.symm hne)]; exact ho) fun hsh tbl h₂ tk₂ hf₂ ho₂ hs₂ => ?_))
  refine wpAny_pure ⟨plainId_quiet plain_update_loop _, codeAny_builtin entry_update_loop ?_⟩
  rw [Around.under_plainId plain_update_loop _]
  unfold Builtin.«set.update.loop»
  dsimp only
  have hit₂ : h₂.IsStrIter it "str_ascii_iterator" (Str.ofString ".") t 1 := hit₁.extBut hs₂.extBut hne
  refine wpAny_bind (wpAny_pyNext_ascii_end (s := { s with heap := h₂, toks := tk₂ }) hA hit₂ (by rw [dot_cps]; rfl) fun h₃ he₃ => ?_)
  dsimp only
  refine wpAny_pure ?_
  exact h hsh _ tbl h₃ _ hf₂ (he₃ _ _ (Ne.symm hne) ho₂) fun b o hb hb' e => he₃ b o hb' ((hs₂.2 b hb).trans ((hs₁.2 b hb').trans e))
theorem frozen_new (t : Tok) : Meets (Builtin.«frozenset.__new__» ⟨[.type "frozenset", .str (Str.ofString ".") t], []⟩)
   (fun A R s => A.handled = none ∧ ∀ o h' tk, FzObj o → h'.get? s.heap.objs.size = some o → (∀ b o, s.heap.get? b = some o → h'.get? b = some o) → R (.ok (.ret (.ref s.heap.objs.size))) { s with heap := h', toks := tk }) :=
  .of_wp fun prog w A R s h => by
    obtain ⟨hA, h⟩ := h
    obtain ⟨hp, g, d, tk, os⟩ := s
    have f1 := sub_frozenset_self
    have f2 := sub_str_frozenset
    have f3 := sub_str_set
    have f4 := lookup_frozenset_init
    unfold Builtin.«frozenset.__new__» Builtin.Frozenset.newClass
    dsimp only
    wp_walk
    refine wpAny_askSetting (wpAny_pure ?_)
    dsimp only
    simp only [newObj]
    refine wpAny_bind (wpAny_alloc (wpAny_pure ?_))
    unfold Builtin.Frozenset.updateFrom Builtin.Frozenset.isAnySet Builtin.Frozenset.addrOf
    dsimp only
    wp_walk using wpAny_pyIter_ascii dot_ascii
    refine update_dot (A := A.in1) (led := !w.params.followText "set-order") (cls := .type "frozenset") (t := t) hA ?_ ?_ ?_ fun hsh t tbl h' tk hf ho hk => ?_
    · simp [Heap.size_push]
    · exact Heap.get?_push_of_some _ (Heap.get?_push_size _ rfl)
    · exact ⟨_, Heap.get?_push_size _ rfl, rfl, rfl⟩
    refine wpAny_pure (wpAny_pure (wpAny_pure ⟨_, rfl, h _ h' tk ⟨hsh, t, 1, tbl, rfl, hf⟩ ho fun b o e => ?_⟩))
    have hlt := Heap.lt_size e
    exact hk b o (Nat.ne_of_lt hlt) (by rw [Heap.size_push]; exact Nat.ne_of_lt (Nat.lt_succ_of_lt hlt)) (Heap.get?_push_of_some _ (Heap.get?_push_of_some _ e))
end
end Mine
end

/- A4 -/
section
open PySem PySem.W PyProof.Rows PySem.Builtin PySem.Builtin.Str
set_option maxRecDepth 100000
set_option maxHeartbeats 4000000
namespace Mine
theorem owner_fz : Manifest.owners.lookup (String.ofList ['t', 'e', 's', 'n', 'e', 'z', 'o', 'r', 'f'].reverse) = some Manifest.sig_frozenset := by kernel_rfl
theorem slot_fz_init : Slot "frozenset" "__init__" "object.__init__" :=
  .of (owner := "object") (n := "__init__") (by rw [typeLookup_type, builtinLookup_eq_fast]; kernel_rfl) (by decide +kernel) (by decide +kernel) (by decide +kernel)
    (by first | exact .inl (by decide +kernel) | exact .inr (by decide +kernel)) (by rw [isSubtype_type]; kernel_rfl)
theorem slot_fz_contains : Slot "frozenset" "__contains__" "frozenset.__contains__" :=
  .of (owner := "frozenset") (n := "__contains__") (by rw [typeLookup_type, builtinLookup_eq_fast]; kernel_rfl) (by decide +kernel) (by decide +kernel) (by decide +kernel)
    (by first | exact .inl (by decide +kernel) | exact .inr (by decide +kernel)) (by rw [isSubtype_type]; kernel_rfl)
theorem args_fz_contains (a b : Value) : argsOk "frozenset.__contains__" ⟨[a, b], []⟩ := by
  unfold argsOk; rw [signature?_of (id := "frozenset.__contains__") (n := ['_', '_', 's', 'n', 'i', 'a', 't', 'n', 'o', 'c', '_', '_']) (o := ['t', 'e', 's', 'n', 'e', 'z', 'o', 'r', 'f']) (by kernel_rfl) owner_fz]; kernel_rfl
theorem entry_fz_contains : entryFor table "frozenset.__contains__" = some Builtin.«frozenset.__contains__» := entryFor_of_tree (by kernel_rfl)
theorem slot_fz_isdisjoint : Slot "frozenset" "isdisjoint" "frozenset.isdisjoint" :=
  .of (owner := "frozenset") (n := "isdisjoint") (by rw [typeLookup_type, builtinLookup_eq_fast]; kernel_rfl) (by decide +kernel) (by decide +kernel) (by decide +kernel)
    (by first | exact .inl (by decide +kernel) | exact .inr (by decide +kernel)) (by rw [isSubtype_type]; kernel_rfl)
theorem type_fz_isdisjoint : typeOf (.builtin "frozenset.isdisjoint") = pure (.type "method_descriptor") := by show builtinType _ = _; rw [builtinType_eq_fast]; kernel_rfl
theorem args_fz_isdisjoint (a b : Value) : argsOk "frozenset.isdisjoint" ⟨[a, b], []⟩ := by
  unfold argsOk; rw [signature?_of (id := "frozenset.isdisjoint") (n := ['t', 'n', 'i', 'o', 'j', 's', 'i', 'd', 's', 'i']) (o := ['t', 'e', 's', 'n', 'e', 'z', 'o', 'r', 'f']) (by kernel_rfl) owner_fz]; kernel_rfl
theorem entry_fz_isdisjoint : entryFor table "frozenset.isdisjoint" = some Builtin.«frozenset.isdisjoint» := entryFor_of_tree (by kernel_rfl)
theorem entry_fz_disloop : entryFor table "frozenset.isdisjoint.loop" = some Builtin.«frozenset.isdisjoint.loop» := entryFor_of_tree (by kernel_rfl)
theorem plain_fz_disloop : plainId "frozenset.isdisjoint.loop" = true := by decide +kernel
theorem called_fz : TypeCalled "frozenset" "frozenset.__new__" "object.__init__" :=
  ⟨by decide +kernel, by decide +kernel, ⟨_, _, mro_frozenset⟩, madeBy_type mro_frozenset lookup_frozenset_new (by decide +kernel), by decide +kernel, sub_frozenset_self, slot_fz_init⟩
section
variable {prog : Program} {w : World} {A : Around} {E : Value → Shared → Prop} {s : Shared} {t : Tok}
theorem call_frozen {Q : Value → Shared → Prop} (hA : A.handled = none)
    (h : ∀ o h' tk, FzObj o → h'.get? s.heap.objs.size = some o → (∀ b o, s.heap.get? b = some o → h'.get? b = some o) → Q (.ref s.heap.objs.size) { s with heap := h', toks := tk }) :
    wpAny (model prog w) A (call (.type "frozenset") [.str (Str.ofString ".") t]) Q E s :=
  callType_new called_fz (by decide) (typeCall_frozenset_1 _) (newCall_frozenset_1 _) (fun obj => F.initArgs_range_1 obj _) entry_frozenset_new (frozen_new t)
    ⟨hA, fun o h' tk hf ho hk => by
      obtain ⟨hsh, t', ep, tbl, rfl, hfit⟩ := id hf
      exact ⟨⟨_, ho, rfl⟩, h _ h' tk hf ho hk⟩⟩
/-- membership in the set that holds the full stop -/
theorem fz_contains {a : Addr} {o : Obj} {c : Str} {Q : Bool → Shared → Prop} (ho : s.heap.get? a = some o) (hf : FzObj o)
    (h : Q (decide (c = Str.ofString ".")) { s with toks := s.toks + 1 }) : wpAny (model prog w) A (setContains a (.str c t)) Q E s := by
  obtain ⟨hsh, t', ep, tbl, rfl, hfit⟩ := hf
  unfold setContains
  refine wpAny_holding (wpAny_bind (wpAny_pyHash_str ?_))
  generalize hashStr w c = hc
  unfold setFind setFindIn
  refine wpAny_bind (wpAny_bind (wpAny_setState_of (s := { s with toks := s.toks + 1 }) ho rfl hfit ?_))
  dsimp only
  rw [show byScan (.str c t) #[(hsh, Value.str (Str.ofString ".") t')] = true from by simp [byScan, Value.scannable, scanBound]]
  simp only [↓reduceIte]
  refine wpAny_bind (wpAny_rule ?_)
  refine wpAny_bind ?_
  unfold setScan
  dsimp only
  rw [if_pos (by simp [isExactStrKey])]
  unfold setScanStrs
  by_cases hcd : c = Str.ofString "."
  · subst hcd
    rw [decide_eq_true rfl] at h
    rw [show Array.findIdx? (fun x => x.snd.isStr (Str.ofString ".")) #[(hsh, Value.str (Str.ofString ".") t')] = some 0 from by simp [Value.isStr]]
    dsimp only
    refine wpAny_bind (wpAny_setEpoch_of (s := { s with toks := s.toks + 1 }) ho rfl hfit ?_)
    refine wpAny_bind (wpAny_eqBool_str ?_)
    simp only [decide_true, Bool.false_and, Bool.false_eq_true, ↓reduceIte]
    refine wpAny_bind (wpAny_setEpoch_of (s := { s with toks := s.toks + 1 }) ho rfl hfit ?_)
    simp only [bne_self_eq_false, Bool.false_eq_true, ↓reduceIte]
    exact wpAny_pure (wpAny_pure (wpAny_pure h))
  · rw [decide_eq_false hcd] at h
    have hne : (Str.ofString "." == c) = false := by simpa using fun q => hcd q.symm
    have hne' : (c == Str.ofString ".") = false := by simpa using hcd
    rw [show Array.findIdx? (fun x => x.snd.isStr c) #[(hsh, Value.str (Str.ofString ".") t')] = none from by simp [Value.isStr, hne, hne']]
    dsimp only
    exact wpAny_pure (wpAny_pure (wpAny_pure h))
theorem fz_notIn {a : Addr} {o : Obj} {c : Str} {Q : Value → Shared → Prop} (ho : s.heap.get? a = some o) (hf : FzObj o)
    (h : Q (.bool (!decide (c = Str.ofString "."))) { s with toks := s.toks + 1 }) : wpAny (model prog w) A (compareOp .NotIn (.str c t) (.ref a)) Q E s := by
  have hT : s.TypeIs (.ref a) "frozenset" := by
    obtain ⟨hsh, t', ep, tbl, rfl, hfit⟩ := hf
    exact ⟨_, ho, rfl⟩
  show wpAny _ _ (do return .bool (!(← contains (.ref a) (.str c t)))) Q E s
  refine wpAny_bind ?_
  unfold contains
  try with_reducible refine wpAny_holding ?_
  refine wpAny_bind (wpAny_specialOf hT slot_fz_contains.lookup ?_)
  show wpAny _ _ (if (some (Value.builtin "frozenset.__contains__") == some Value.none) = true then _ else _) _ E s
  rw [if_neg (by rw [beq_builtin_none]; exact Bool.false_ne_true)]
  refine wpAny_bind (wpAny_callSpecialUnlessNone?_slot (name := Str.ofString "__contains__") hT slot_fz_contains
    (wpAny_call_entry slot_fz_contains hT entry_fz_contains ?_ (args_fz_contains _ _)))
  unfold Builtin.«frozenset.__contains__» Builtin.Frozenset.oneOther
  simp only [List.isEmpty_nil, bind_assoc]
  unfold Builtin.Frozenset.addrOf Builtin.Frozenset.withSetAsKey
  refine wpAny_bind (wpAny_pure ?_)
  try dsimp only
  refine wpAny_bind (wpAny_pure ?_)
  try dsimp only
  refine wpAny_bind (wpAny_tryCatch ?_)
  refine fz_contains ho hf ?_
  exact wpAny_pure ⟨_, rfl, wpAny_truthy_bool (wpAny_pure h)⟩
/-- the loop of isdisjoint over a text's signs, from place i on -/
theorem fz_disloop {a it : Addr} {o : Obj} {y : Str} {ty : Tok} (hA : A.handled = none) (ho0 : FzObj o) (hne : it ≠ a) :
    ∀ (k i : Nat) (s : Shared) (R : Result → Shared → Prop), y.cps.size - i = k → i ≤ y.cps.size → s.heap.get? a = some o → s.heap.IsStrIter it "str_ascii_iterator" y ty i →
    (∀ h' tk, (∀ b o, b ≠ it → s.heap.get? b = some o → h'.get? b = some o) → R (.ok (.ret (.bool (!(y.cps.toList.drop i).contains 46)))) { s with heap := h', toks := tk }) →
    codeAny (model prog w) A (.builtin "frozenset.isdisjoint.loop" ⟨[.ref a, .ref it], []⟩) R s := by
  intro k
  induction k with
  | zero =>
    intro i s R hk hi ho hit h
    refine codeAny_builtin entry_fz_disloop ?_
    rw [Around.under_plainId plain_fz_disloop _]
    unfold Builtin.«frozenset.isdisjoint.loop»
    dsimp only
    refine wpAny_bind (wpAny_pyNext_ascii_end hA hit (by simp; omega) fun h₃ he₃ => ?_)
    dsimp only
    have := h h₃ s.toks he₃
    rw [List.drop_of_length_le (by simp; omega)] at this
    exact wpAny_pure this
  | succ k ih =>
    intro i s R hk hi ho hit h
    have hlt : i < y.cps.size := by omega
    refine codeAny_builtin entry_fz_disloop ?_
    rw [Around.under_plainId plain_fz_disloop _]
    unfold Builtin.«frozenset.isdisjoint.loop»
    dsimp only
    refine wpAny_bind (wpAny_pyNext_ascii_item (c := y.cps[i]) hit (by simp [hlt]) fun h₁ hit₁ hs₁ => ?_)
    dsimp only
    have ho₁ : h₁.get? a = some o := (hs₁.2 _ (Ne.symm hne)).trans ho
    refine wpAny_bind (wpAny_holding (fz_contains (s := { s with heap := h₁, toks := s.toks + 1 }) ho₁ ho0 ?_))
    have hd : y.cps.toList.drop i = y.cps[i] :: y.cps.toList.drop (i + 1) := by
      rw [List.drop_eq_getElem_cons (by simpa using hlt)]; simp
    rw [hd, List.contains_cons] at h
    by_cases hc : y.cps[i] = 46
    · rw [decide_eq_true (by rw [dot_is, hc])]
      simp only [↓reduceIte]
      have := h h₁ (s.toks + 1 + 1) (fun b o hb e => (hs₁.2 b hb).trans e)
      rw [hc] at this
      exact wpAny_pure (by simpa using this)
    · rw [decide_eq_false (by rw [dot_is]; intro q; apply hc; have := congrArg (fun z : Str => z.cps[0]?) q; simpa using this)]
      simp only [Bool.false_eq_true, ↓reduceIte]
      refine wpAny_pure ⟨plainId_quiet plain_fz_disloop _, ih (i + 1) _ R (by omega) (by omega) ho₁ hit₁ fun h' tk hk' => ?_⟩
      have := h h' tk (fun b o hb e => hk' b o hb ((hs₁.2 b hb).trans e))
      rw [show (46 == y.cps[i]) = false by simpa using fun q => hc q.symm, Bool.false_or] at this
      exact this
theorem meets_isdisjoint {a : Addr} {o : Obj} {y : Str} {t : Tok} (hf : FzObj o) (ha : y.cps.all (· < 128) = true) : Meets (Builtin.«frozenset.isdisjoint» ⟨[.ref a, .str y t], []⟩)
    (fun A R s => A.handled = none ∧ s.heap.get? a = some o ∧ ∀ h' tk, (∀ b o, s.heap.get? b = some o → h'.get? b = some o) → R (.ok (.ret (.bool (!y.cps.toList.contains 46)))) { s with heap := h', toks := tk }) := by
  intro prog w A R s hS
  obtain ⟨hA, ho, h⟩ := hS
  unfold Builtin.«frozenset.isdisjoint» Builtin.Frozenset.oneOther Builtin.Frozenset.addrOf
  dsimp only
  refine wpAny_bind (wpAny_of_eq (a := (a, Value.str y t)) rfl ?_)
  dsimp only
  rw [if_neg (by intro q; cases eq_of_beq q)]
  refine wpAny_bind (wpAny_of_eq (a := Value.type "str") rfl ?_)
  rw [if_neg (by decide)]
  refine wpAny_bind (wpAny_pyIter_ascii ha ?_)
  refine wpAny_pure ⟨plainId_quiet plain_fz_disloop _, ?_⟩
  have hlt := Heap.lt_size ho
  refine fz_disloop hA hf (Nat.ne_of_gt hlt) y.cps.size 0 _ R rfl (Nat.zero_le _) (Heap.get?_push_of_some _ ho) ⟨_, Heap.get?_push_size _ rfl, rfl, rfl⟩ fun h' tk hk => ?_
  exact h h' tk fun b o e => hk b o (Nat.ne_of_lt (Heap.lt_size e)) (Heap.get?_push_of_some _ e)
theorem fz_isdisjoint {a : Addr} {o : Obj} {y : Str} {Q : Value → Shared → Prop} (hA : A.handled = none) (ho : s.heap.get? a = some o) (hf : FzObj o) (ha : y.cps.all (· < 128) = true)
    (h : ∀ h' tk, (∀ b o, s.heap.get? b = some o → h'.get? b = some o) → Q (.bool (!y.cps.toList.contains 46)) { s with heap := h', toks := tk }) :
    wpAny (model prog w) A (call (.builtin "frozenset.isdisjoint") [.ref a, .str y t]) Q E s := by
  have hT : s.TypeIs (.ref a) "frozenset" := by
    obtain ⟨hsh, t', ep, tbl, rfl, hfit⟩ := hf
    exact ⟨_, ho, rfl⟩
  exact call_meets slot_fz_isdisjoint hT entry_fz_isdisjoint (args_fz_isdisjoint _ _) (meets_isdisjoint hf ha) ⟨hA, ho, h⟩
end
end Mine
end

/- A5 -/
section
open PySem PySem.W PyProof.Rows PySem.Builtin PySem.Builtin.Str
set_option maxRecDepth 100000
set_option maxHeartbeats 4000000
namespace Mine
theorem nl_is : Str.ofString "\n" = ⟨#[10]⟩ := by decide +kernel
theorem occ_none (x y : Str) (lo hi limit : Nat) (hl : 1 ≤ limit) (hn : ∀ i, ¬ StrLaws.At x y hi i) : occurrences x y lo hi limit = [] := by
  rw [StrLaws.occ_eq]
  rcases StrLaws.occ_first x y hi limit hl (List.range' lo (hi + 1 - lo)) lo (fun i h => by have := List.mem_range'_1.mp h; omega) with ⟨h0, _⟩ | ⟨_, a, _, _, _, ha, _⟩
  · rw [h0]
  · exact absurd ha (hn a)
theorem no_nl {x : Str} (hx : 10 ∉ x.cps.toList) (hi i : Nat) : ¬ StrLaws.At x ⟨#[10]⟩ hi i := by
  rintro ⟨_, h⟩
  rw [StrLaws.subAt_eq] at h
  have e := eq_of_beq h
  have hm : 10 ∈ (x.cps.toList.drop i).take (Str.length ⟨#[10]⟩) := by rw [e]; simp
  exact hx (List.mem_of_mem_drop (List.mem_of_mem_take hm))
section
variable {prog : Program} {w : World} {A : Around} {E : Value → Shared → Prop} {s : Shared} {x y : Str} {t u v v' : Tok} {i j : Int} {Q : Value → Shared → Prop}
theorem gives_count4 (x y : Str) (i j : Int) (t u v v' : Tok) : Gives («str.count» ⟨[.str x t, .str y u, .int i v, .int j v'], []⟩) (.int (occurrences x y (fromIndex x.length i) (min (fromIndex x.length j) x.length) (x.length + 1)).length) := by
  show Gives (retInt (occurrences x y (fromIndex x.length i) (min (fromIndex x.length j) x.length) (x.length + 1)).length) _
  exact .of_eq rfl
theorem count_nl (hx : 10 ∉ x.cps.toList) (hq : Q (.int 0 s.toks) { s with toks := s.toks + 1 }) : wpAny (model prog w) A (call (.builtin "str.count") [.str x t, .str (Str.ofString "\n") u, .int i v, .int j v']) Q E s := by
  refine call_gives F.slot_str_count (typeIs_str _ _ _) F.entry_str_count (F.args_str_count_4 _ _ _ _) (gives_count4 x _ i j t u v v') ?_
  rw [nl_is, occ_none _ _ _ _ _ (by omega) (no_nl hx _)]
  exact hq
end
theorem join_str {M : Model} {A : Around} {E : Value → Shared → Prop} {s : Shared} {g : Heap} {L : Addr} {m : Str → Option Value} {news : List (Addr × Obj)} {t : Sem Value} {Q : Value → Shared → Prop} (n : Nat) (F : Fr g L s.heap m) (N : News g L s.heap news)
    (h1 : ∀ Q' : Value → Shared → Prop, (∀ (r : Str) u h' tk', r.length ≤ n → Fr g L h' m → News g L h' news → Q' (.str r u) { s with heap := h', toks := tk' }) → wpAny M A t Q' E s)
    (h2 : ∀ (r : Str) u h' tk', r.length ≤ n → Fr g L h' m → News g L h' news → Q (.str r u) { s with heap := h', toks := tk' }) : wpAny M A t Q E s := h1 Q h2
end Mine
end

local macro_rules | `(tactic| walk_at "call ref") => `(tactic| refine Mine.Halt.mk ?_)
/- D1 -/
section
open PySem PySem.W PyProof.Rows PySem.Calls PySem.Spec
set_option maxRecDepth 100000
set_option maxHeartbeats 4000000
namespace Mine
theorem fillD1 (w : World) (h : Heap) : (hd35.heap_39 w.params).In h → model PySem.Challenge.rw_om0035_01.row.prog w = model PySem.Challenge.rw_om0035_01.row.prog w := by
  k_fill
  intro _
  rfl
theorem codeHd80 {w : World} {h : Heap} (X : (hd35.heap_39 w.params).In h) : CodeHd h 84 80 := by
  have := X 84
  refine ⟨_, _, _, _, _, _, _, _, _, X 84 _ (by k_is), rfl, rfl, rfl, rfl, rfl, rfl, rfl, rfl, by decide⟩
noncomputable def qCoord : Str := Str.ofString "suffixed_err" ++ ".<locals>." ++ Str.ofString "coord_repr"
/-- the table of suffixed_err's codes: empty, or with coord_repr's -/
noncomputable def TabPs (h : Heap) (ps : Array Value) : Prop := ps = #[] ∨ ∃ c' oc vs t, ps = #[rawInt 75, rawInt 4, .ref c'] ∧ h.get? c' = some oc ∧ oc.data = .fields vs ∧ vs[1]? = some (.str qCoord t) ∧ c' ≠ 80
noncomputable def Tab80 (h : Heap) : Prop := ∃ ps, h.get? 80 = some (tabObj ps) ∧ TabPs h ps
noncomputable abbrev excO (t : Addr) : Obj := { cls := .ref 68, data := .fields #[.ref t, .none, .none, .none, .bool false, .none] }
section
theorem haltJ {M : Model} {A : Around} {E Q : Value → Shared → Prop} {s : Shared} {x} {y} (h : Halt (wpAny M A (joinParts x (evalEach [] y)) Q E s)) : wpAny M A (joinParts x (evalEach [] y)) Q E s := h
local macro_rules | `(tactic| walk_at "joinParts") => `(tactic| with_reducible refine Mine.haltJ ?_)
local macro_rules | `(tactic| k_room) => `(tactic| ktr_room)
namespace suff_c_k
noncomputable def PP (w : World) (p : Program) (loose : List Str) (mean : ExcName → Option Value) (mg : Str → Option Value) (mb : Str → Option Value) (hd : Option Value) (dp : Nat) (un : Nat) (gd : Option (List Code)) (cn : Str) (cs : Scope) (L : Addr) (a : Addr) (ccd : Value) (cl : List (Str × Addr)) (outer : List Env) (A₀ : Around) (base : Heap) (h₀ : Heap) (m : Str → Option Value) (s : Shared) (Q : Value → Shared → Prop) (E : Value → Shared → Prop) (text : Str) (msg : Str) (place : Int) (t0 : Tok) (t1 : Tok) (t2 : Tok) : Prop := ∀ (ps : Array Value) (B : Below A₀ base outer h₀) (F : Fr h₀ L s.heap m) (X : (hd35.heap_39 w.params).In h₀) (T : Top p loose mean mg mb h₀) (hk : cs.kind = .function) (N : News h₀ L s.heap [(80, tabObj ps)]) (hps : TabPs s.heap ps) (hlt : text.length ≤ 9) (hnl : 10 ∉ text.cps.toList) (hlw : msg.length ≤ 100) (hp0 : 0 ≤ place) (hp1 : place ≤ text.length) (hdp : dp + 3 < recursionLimit) (hu : un + 24 < cLine) (hret : ∀ e t u r h' tk', h'.get? e = some (excO t) → h'.get? t = some (tupOf [.str r u]) → s.heap.get? e = none → s.heap.get? t = none → Pres 80 s.heap h' → Tab80 h' → Q (.ref e) { s with heap := h', toks := tk' }), wpAny (model PySem.Challenge.rw_om0035_01.row.prog w) (MTop hd dp un gd cn cs L a ccd cl outer) (call (.ref 85) [.str text t0, .int place t1, .str msg t2]) Q E s
noncomputable def QQ (cc : (World) × (Program) × (List Str) × (ExcName → Option Value) × (Str → Option Value) × (Str → Option Value) × (Option Value) × (Nat) × (Nat) × (Option (List Code)) × (Str) × (Scope) × (Addr) × (Addr) × (Value) × (List (Str × Addr)) × (List Env) × (Around) × (Heap) × (Heap) × (Str → Option Value) × (Shared) × (Value → Shared → Prop) × (Value → Shared → Prop) × (Str) × (Str) × (Int) × (Tok) × (Tok) × (Tok)) : Prop := PP (cc.1) (cc.2.1) (cc.2.2.1) (cc.2.2.2.1) (cc.2.2.2.2.1) (cc.2.2.2.2.2.1) (cc.2.2.2.2.2.2.1) (cc.2.2.2.2.2.2.2.1) (cc.2.2.2.2.2.2.2.2.1) (cc.2.2.2.2.2.2.2.2.2.1) (cc.2.2.2.2.2.2.2.2.2.2.1) (cc.2.2.2.2.2.2.2.2.2.2.2.1) (cc.2.2.2.2.2.2.2.2.2.2.2.2.1) (cc.2.2.2.2.2.2.2.2.2.2.2.2.2.1) (cc.2.2.2.2.2.2.2.2.2.2.2.2.2.2.1) (cc.2.2.2.2.2.2.2.2.2.2.2.2.2.2.2.1) (cc.2.2.2.2.2.2.2.2.2.2.2.2.2.2.2.2.1) (cc.2.2.2.2.2.2.2.2.2.2.2.2.2.2.2.2.2.1) (cc.2.2.2.2.2.2.2.2.2.2.2.2.2.2.2.2.2.2.1) (cc.2.2.2.2.2.2.2.2.2.2.2.2.2.2.2.2.2.2.2.1) (cc.2.2.2.2.2.2.2.2.2.2.2.2.2.2.2.2.2.2.2.2.1) (cc.2.2.2.2.2.2.2.2.2.2.2.2.2.2.2.2.2.2.2.2.2.1) (cc.2.2.2.2.2.2.2.2.2.2.2.2.2.2.2.2.2.2.2.2.2.2.1) (cc.2.2.2.2.2.2.2.2.2.2.2.2.2.2.2.2.2.2.2.2.2.2.2.1) (cc.2.2.2.2.2.2.2.2.2.2.2.2.2.2.2.2.2.2.2.2.2.2.2.2.1) (cc.2.2.2.2.2.2.2.2.2.2.2.2.2.2.2.2.2.2.2.2.2.2.2.2.2.1) (cc.2.2.2.2.2.2.2.2.2.2.2.2.2.2.2.2.2.2.2.2.2.2.2.2.2.2.1) (cc.2.2.2.2.2.2.2.2.2.2.2.2.2.2.2.2.2.2.2.2.2.2.2.2.2.2.2.1) (cc.2.2.2.2.2.2.2.2.2.2.2.2.2.2.2.2.2.2.2.2.2.2.2.2.2.2.2.2.1) (cc.2.2.2.2.2.2.2.2.2.2.2.2.2.2.2.2.2.2.2.2.2.2.2.2.2.2.2.2.2)
@[irreducible] noncomputable def cc : (World) × (Program) × (List Str) × (ExcName → Option Value) × (Str → Option Value) × (Str → Option Value) × (Option Value) × (Nat) × (Nat) × (Option (List Code)) × (Str) × (Scope) × (Addr) × (Addr) × (Value) × (List (Str × Addr)) × (List Env) × (Around) × (Heap) × (Heap) × (Str → Option Value) × (Shared) × (Value → Shared → Prop) × (Value → Shared → Prop) × (Str) × (Str) × (Int) × (Tok) × (Tok) × (Tok) := eps (by (repeat' first | exact neW | exact neA | exact neS | refine neP ?_ ?_ | infer_instance)) QQ
@[irreducible] noncomputable def p : Program := cc.2.1
@[irreducible] noncomputable def mg : Str → Option Value := cc.2.2.2.2.1
@[irreducible] noncomputable def hd : Option Value := cc.2.2.2.2.2.2.1
@[irreducible] noncomputable def a : Addr := cc.2.2.2.2.2.2.2.2.2.2.2.2.2.1
@[irreducible] noncomputable def m : Str → Option Value := cc.2.2.2.2.2.2.2.2.2.2.2.2.2.2.2.2.2.2.2.2.1
@[irreducible] noncomputable def s : Shared := cc.2.2.2.2.2.2.2.2.2.2.2.2.2.2.2.2.2.2.2.2.2.1
@[irreducible] noncomputable def place : Int := cc.2.2.2.2.2.2.2.2.2.2.2.2.2.2.2.2.2.2.2.2.2.2.2.2.2.2.1
noncomputable def stg : PSigma fun R : (Array Value) → (Heap) → (Addr) → (Heap) → Prop => (∀ ps g L' h₁, R ps g L' h₁) → PP (cc.1) p (cc.2.2.1) (cc.2.2.2.1) mg (cc.2.2.2.2.2.1) hd (cc.2.2.2.2.2.2.2.1) (cc.2.2.2.2.2.2.2.2.1) (cc.2.2.2.2.2.2.2.2.2.1) (cc.2.2.2.2.2.2.2.2.2.2.1) (cc.2.2.2.2.2.2.2.2.2.2.2.1) (cc.2.2.2.2.2.2.2.2.2.2.2.2.1) a (cc.2.2.2.2.2.2.2.2.2.2.2.2.2.2.1) (cc.2.2.2.2.2.2.2.2.2.2.2.2.2.2.2.1) (cc.2.2.2.2.2.2.2.2.2.2.2.2.2.2.2.2.1) (cc.2.2.2.2.2.2.2.2.2.2.2.2.2.2.2.2.2.1) (cc.2.2.2.2.2.2.2.2.2.2.2.2.2.2.2.2.2.2.1) (cc.2.2.2.2.2.2.2.2.2.2.2.2.2.2.2.2.2.2.2.1) m s (cc.2.2.2.2.2.2.2.2.2.2.2.2.2.2.2.2.2.2.2.2.2.2.1) (cc.2.2.2.2.2.2.2.2.2.2.2.2.2.2.2.2.2.2.2.2.2.2.2.1) (cc.2.2.2.2.2.2.2.2.2.2.2.2.2.2.2.2.2.2.2.2.2.2.2.2.1) (cc.2.2.2.2.2.2.2.2.2.2.2.2.2.2.2.2.2.2.2.2.2.2.2.2.2.1) place (cc.2.2.2.2.2.2.2.2.2.2.2.2.2.2.2.2.2.2.2.2.2.2.2.2.2.2.2.1) (cc.2.2.2.2.2.2.2.2.2.2.2.2.2.2.2.2.2.2.2.2.2.2.2.2.2.2.2.2.1) (cc.2.2.2.2.2.2.2.2.2.2.2.2.2.2.2.2.2.2.2.2.2.2.2.2.2.2.2.2.2) := by
  refine' PSigma.mk _ (fun hR => ?_)
  rotate_left
  unfold PP
  intro ps B F X T hk N hps hlt hnl hlw hp0 hp1 hdp hu hret
  w_on
  refine wpAny_call ?_
  k_dflt (refine' code_defG B F X N T rfl rfl hk ?k6 ?k7 ?k8 ?k9 ?kB ?_ ?c2 ?c3 ?c4 ?c5; (case k6 => k_is); (case k7 => k_is); (case k8 => ktr_room); (case k9 => exact BindsTo.of_eq rfl); (case c5 => decide); (case kB => exact locs rfl); (case c2 => exact rfl); (case c3 => exact rfl); (case c4 => exact rfl))
  intro g L' h₁
  revert B F X T hk N hps hlt hnl hlw hp0 hp1 hdp hu hret
  exact hR ps g L' h₁
noncomputable def Q2 (cd : (Heap) × (Addr) × (Heap)) : Prop := ∀ (ps : Array Value), stg.1 ps (cd.1) (cd.2.1) (cd.2.2)
@[irreducible] noncomputable def cd : (Heap) × (Addr) × (Heap) := eps (by (repeat' first | exact neW | exact neA | exact neS | refine neP ?_ ?_ | infer_instance)) Q2
@[irreducible] noncomputable def g : Heap := cd.1
@[irreducible] noncomputable def L' : Addr := cd.2.1
@[irreducible] noncomputable def h₁ : Heap := cd.2.2
theorem walk2 : ∀ (ps : Array Value), stg.1 ps g L' h₁ := by
  intro ps B F X T hk N hps hlt hnl hlw hp0 hp1 hdp hu hret FG F' N' B' X' T' GS
  clear FG
  have hCH := codeHd80 X'
  have hCR : ∀ c', codeAmong ⟨75, 4, 82, 48⟩ ps.toList = some (.ref c') → ∀ {h : Heap} {m : Str → Option Value}, Fr g L' h m → h.CodeRec (.ref c') qCoord := by
    intro c' hc h m F9
    rcases hps with rfl | ⟨c9, oc, vs, t, rfl, hoc, hd, hv, hne⟩
    · simp [codeAmong] at hc
    · have : c9 = c' := by simpa [codeAmong, rawInt] using hc
      subst this
      exact ⟨c9, oc, vs, t, rfl, F9.keep _ _ (GS _ _ hoc (by simpa using hne)), hd, hv⟩
  clear hCR
  rcases hps with rfl | ⟨c9, oc, vs, t, rfl, hoc, hd, hv, hne⟩
  all_goals (
    k_steps
    refine Halt.out ?_
    refine join_str 60 (by k_asm) (by k_asm) ?_ ?_
    · intro Q' hQ'
      k_dflt (refine wpAny_call ?_; refine' code_nest ?k1 ?k2 ?k3 ?k4 ?k5 ?kA ?kF ?kK ?k6 ?k7 ?k8 ?k9 ?kB ?_ ?c2 ?c3 ?c4 ?c5; (case kA => exact rfl); (case kF => exact rfl); (case kK => exact rfl); (case k1 => k_asm); (case k2 => k_asm); (case k3 => k_asm); (case k4 => k_asm); (case k5 => k_asm); (case k6 => k_mem); (case k7 => first | exact codeRec_news (by k_asm) (by k_mem) (by assumption) (by assumption) | exact ⟨c9, oc, vs, t, rfl, Fr.keep (by k_asm) _ _ (GS _ _ hoc (by simpa using hne)), hd, hv⟩); (case k8 => ktr_room); (case k9 => exact BindsTo.of_eq rfl); (case c5 => decide); (case kB => exact locs rfl); (case c2 => exact rfl); (case c3 => exact rfl); (case c4 => exact rfl); k_whole; intro g' L' h' FG' F' N' B' X' T'; (try dsimp only); (try k_lift B'); (try k_fold))
      k_steps
      · exact hQ' _ _ _ _ (by decide +kernel) (by k_asm) (by k_asm)
      · k_dflt (refine count_nl hnl ?_)
        k_steps
        have hi : (Str.ofString (toString (place + 1))).length ≤ 10 := by
          have hpl : place + 1 = 1 ∨ place + 1 = 2 ∨ place + 1 = 3 ∨ place + 1 = 4 ∨ place + 1 = 5 ∨ place + 1 = 6 ∨ place + 1 = 7 ∨ place + 1 = 8 ∨ place + 1 = 9 ∨ place + 1 = 10 := by omega
          rcases hpl with e | e | e | e | e | e | e | e | e | e <;> rw [e] <;> decide +kernel
        have e1 : (Str.ofString "line ").length = 5 := by decide +kernel
        have e2 : (Str.ofString (toString ((0 : Int) + 1))).length = 1 := by decide +kernel
        have e3 : (Str.ofString ", column ").length = 9 := by decide +kernel
        have e4 : Str.empty.length = 0 := rfl
        refine Halt.out (joinParts_nil ?_ ?_)
        · k_steps
          refine hQ' _ _ _ _ ?_ (by k_asm) (by k_asm)
          simp only [Str.length_append]
          rw [e1, e2, e3, e4]
          omega
        · simp only [Str.length_append]
          rw [e1, e2, e3, e4, sizeLine_eq]
          omega
    · intro r u h' tk' hr F9 N9
      k_steps
      refine Halt.out (joinParts_nil ?_ ?_)
      · k_steps
        refine Halt.out ?_
        have O : OwnCls (Str.ofString "TOMLDecodeError") 68 [.type "ValueError", .type "Exception", .type "BaseException", .type "object"] "ValueError.__new__" mg g := own_of_in X' (topRead_of T') (by k_is) (by k_exc)
        obtain ⟨tl, N5, nm, q, bs, hdct, sn, sub, ab, col, dd, k0, k1, k2, k3, k5, mN, hC, hN, hni, TT⟩ := O.obj
        k_dflt (refine wpAny_call_exc_subT PySem.F.excBase_ValueError (TT.keeps (Fr.keep F9)) (Fr.keep F9 _ _ hC) (hN.keeps (Fr.keep F9)) hni ?_ ?_)
        · intro h8 e8 hM
          obtain ⟨t8, he8, htn, ht8⟩ := hM.there
          have hold : ∀ b, h'.get? b = none → s.heap.get? b = none := by
            intro b hb
            cases hq : s.heap.get? b with
            | none => rfl
            | some o =>
              by_cases h80 : b = 80
              · subst h80
                have := N9.get (a := 80) (by k_mem)
                rw [hb] at this
                cases this
              · have := F9.keep _ _ (GS _ _ hq (by simpa using h80))
                rw [hb] at this
                cases this
          have F10 : Fr g L' h8 _ := ⟨F9.ns.keeps hM.keeps, fun b o e => hM.keeps _ _ (F9.keep b o e), F9.above⟩
          have N10 : News g L' h8 _ := fun p hp => ⟨hM.keeps _ _ (N9 p hp).1, (N9 p hp).2⟩
          k_steps
          refine hret e8 t8 _ _ h8 _ he8 ht8 (hold _ hM.new) (hold _ htn) (fun b o hb hx => hM.keeps _ _ (F9.keep b o (GS b o hx (by simpa using hb)))) ?_
          first
          | exact ⟨_, N10.get (a := 80) (by k_mem), .inr ⟨c9, oc, vs, t, rfl, F10.keep _ _ (GS _ _ hoc (by simpa using hne)), hd, hv, hne⟩⟩
          | exact ⟨_, N10.get (a := 80) (by k_mem), .inr ⟨_, _, _, _, rfl, N10.get (by exact .tail _ (.head _)), by assumption, by assumption, Nat.ne_of_gt (by assumption)⟩⟩
        · exact Nat.le_of_ble_eq_true rfl
      · simp only [Str.length_append]
        have e1 : (Str.ofString " (at ").length = 5 := by decide +kernel
        have e2 : (Str.ofString ")").length = 1 := by decide +kernel
        have e3 : Str.empty.length = 0 := rfl
        rw [e1, e2, e3, sizeLine_eq]
        omega)
theorem q2 : Q2 cd := by
  have h := walk2
  unfold g L' h₁ at h
  exact h
theorem all2 : ∀ x, Q2 x := by
  have h := q2
  unfold cd at h
  exact eps_all h
theorem walk : PP (cc.1) p (cc.2.2.1) (cc.2.2.2.1) mg (cc.2.2.2.2.2.1) hd (cc.2.2.2.2.2.2.2.1) (cc.2.2.2.2.2.2.2.2.1) (cc.2.2.2.2.2.2.2.2.2.1) (cc.2.2.2.2.2.2.2.2.2.2.1) (cc.2.2.2.2.2.2.2.2.2.2.2.1) (cc.2.2.2.2.2.2.2.2.2.2.2.2.1) a (cc.2.2.2.2.2.2.2.2.2.2.2.2.2.2.1) (cc.2.2.2.2.2.2.2.2.2.2.2.2.2.2.2.1) (cc.2.2.2.2.2.2.2.2.2.2.2.2.2.2.2.2.1) (cc.2.2.2.2.2.2.2.2.2.2.2.2.2.2.2.2.2.1) (cc.2.2.2.2.2.2.2.2.2.2.2.2.2.2.2.2.2.2.1) (cc.2.2.2.2.2.2.2.2.2.2.2.2.2.2.2.2.2.2.2.1) m s (cc.2.2.2.2.2.2.2.2.2.2.2.2.2.2.2.2.2.2.2.2.2.2.1) (cc.2.2.2.2.2.2.2.2.2.2.2.2.2.2.2.2.2.2.2.2.2.2.2.1) (cc.2.2.2.2.2.2.2.2.2.2.2.2.2.2.2.2.2.2.2.2.2.2.2.2.1) (cc.2.2.2.2.2.2.2.2.2.2.2.2.2.2.2.2.2.2.2.2.2.2.2.2.2.1) place (cc.2.2.2.2.2.2.2.2.2.2.2.2.2.2.2.2.2.2.2.2.2.2.2.2.2.2.2.1) (cc.2.2.2.2.2.2.2.2.2.2.2.2.2.2.2.2.2.2.2.2.2.2.2.2.2.2.2.2.1) (cc.2.2.2.2.2.2.2.2.2.2.2.2.2.2.2.2.2.2.2.2.2.2.2.2.2.2.2.2.2) := stg.2 fun ps g L' h₁ => all2 (g, L', h₁) ps
theorem q : QQ cc := by
  have h := walk
  unfold p mg hd a m s place at h
  exact h
theorem all : ∀ x, QQ x := by
  have h := q
  unfold cc at h
  exact eps_all h
end suff_c_k
theorem suff_c {w : World} {p : Program} {loose : List Str} {mean : ExcName → Option Value} {mg : Str → Option Value} {mb : Str → Option Value} {hd : Option Value} {dp : Nat} {un : Nat} {gd : Option (List Code)} {cn : Str} {cs : Scope} {L : Addr} {a : Addr} {ccd : Value} {cl : List (Str × Addr)} {outer : List Env} {A₀ : Around} {base : Heap} {h₀ : Heap} {m : Str → Option Value} {s : Shared} {Q : Value → Shared → Prop} {E : Value → Shared → Prop} {text : Str} {msg : Str} {place : Int} {t0 : Tok} {t1 : Tok} {t2 : Tok} {ps : Array Value} (B : Below A₀ base outer h₀) (F : Fr h₀ L s.heap m) (X : (hd35.heap_39 w.params).In h₀) (T : Top p loose mean mg mb h₀) (hk : cs.kind = .function) (N : News h₀ L s.heap [(80, tabObj ps)]) (hps : TabPs s.heap ps) (hlt : text.length ≤ 9) (hnl : 10 ∉ text.cps.toList) (hlw : msg.length ≤ 100) (hp0 : 0 ≤ place) (hp1 : place ≤ text.length) (hdp : dp + 3 < recursionLimit) (hu : un + 24 < cLine) (hret : ∀ e t u r h' tk', h'.get? e = some (excO t) → h'.get? t = some (tupOf [.str r u]) → s.heap.get? e = none → s.heap.get? t = none → Pres 80 s.heap h' → Tab80 h' → Q (.ref e) { s with heap := h', toks := tk' }) : wpAny (model PySem.Challenge.rw_om0035_01.row.prog w) (MTop hd dp un gd cn cs L a ccd cl outer) (call (.ref 85) [.str text t0, .int place t1, .str msg t2]) Q E s :=
  suff_c_k.all (w, p, loose, mean, mg, mb, hd, dp, un, gd, cn, cs, L, a, ccd, cl, outer, A₀, base, h₀, m, s, Q, E, text, msg, place, t0, t1, t2) ps B F X T hk N hps hlt hnl hlw hp0 hp1 hdp hu hret
end
end Mine
end

/- E0 -/
section
open PySem PySem.W PyProof.Rows PySem.Calls PySem.Spec
set_option maxRecDepth 100000
set_option maxHeartbeats 4000000
namespace Mine
/-- all of H is there but X, the frames up to their slots; nothing of H is gone -/
structure PresX (fs X : List Addr) (H h : Heap) : Prop where
  pres : PresF fs X H h
  sub : ∀ b, h.get? b = none → H.get? b = none
theorem PresX.refl {fs X : List Addr} {H : Heap} : PresX fs X H H := ⟨PresF.of_keep fun _ _ e => e, fun _ e => e⟩
theorem PresX.of_keep {fs X : List Addr} {H h h' : Heap} (p : PresX fs X H h) (k : ∀ b o, h.get? b = some o → h'.get? b = some o) : PresX fs X H h' :=
  ⟨p.pres.trans (PresF.of_keep k), fun b e => p.sub b (kts_none k e)⟩
/-- an exception in the heap, new against H, its traceback's first entry in flight as fl -/
noncomputable def Exc (H h : Heap) (e : Addr) (cls v2 fl : Value) : Prop :=
  Pk5 fun oe vs T oT ts => Al13 (h.get? e = some oe) (oe.cls = cls) (oe.data = .fields vs) (4 < vs.size) (vs[2]? = some v2) (vs[1]? = some (.ref T)) (T ≠ e) (h.get? T = some oT) (oT.data = .fields ts) (ts[3]? = some fl) (H.get? e = none) (H.get? T = none) (∀ z u, ts[1]? ≠ some (.str z u))
noncomputable def Exc0 (H h : Heap) (e : Addr) (cls v2 : Value) : Prop :=
  Pk2 fun oe vs => Al7 (h.get? e = some oe) (oe.cls = cls) (oe.data = .fields vs) (4 < vs.size) (vs[2]? = some v2) (vs[1]? = some .none) (H.get? e = none)
section
variable {M : Model} {A : Around} {E : Value → Shared → Prop} {s : Shared} {X : List Addr} {H base : Heap} {env : Env} {outer : List Env} {L e : Addr} {cls v2 fl : Value}
theorem presX_update {fs : List Addr} {h : Heap} {b : Addr} {ob : Obj} {f : Obj → Obj} (P : PresX fs X H h) (hb : H.get? b = none) (_ : h.get? b = some ob) (_ : (f ob).isFreed = false) : PresX fs X H (h.update b f) := by
  refine ⟨⟨fun x o q m n => ?_, fun x o q m n => ?_⟩, fun x q => ?_⟩
  · rw [Heap.get?_update_other _ _ (fun z => by rw [z, q] at hb; cases hb)]
    exact P.pres.other x o q m n
  · rw [Heap.get?_update_other _ _ (fun z => by rw [z, q] at hb; cases hb)]
    exact P.pres.frame x o q m n
  · by_cases z : b = x
    · subst z; exact hb
    · rw [Heap.get?_update_other _ _ z] at q
      exact P.sub x q
theorem presX_slots {h h' : Heap} {fs : List Addr} (P : PresX fs X H h) (S : Heap.SlotsOnly fs h h') : PresX fs X H h' := by
  refine ⟨⟨fun b o e m n => (S.2.1 b n).trans (P.pres.other b o e m n), fun b o e m n => ?_⟩, fun b e => P.sub b ?_⟩
  · obtain ⟨s1, h1⟩ := P.pres.frame b o e m n
    obtain ⟨s2, h2⟩ := S.2.2 b _ h1
    exact ⟨s2, h2⟩
  · cases q : h.get? b with
    | none => rfl
    | some o =>
      obtain ⟨s2, h2⟩ := S.2.2 b _ q
      rw [e] at h2; cases h2
theorem entry_new {oe : Obj} {vs : Array Value} {head : Value} {hadNext : Bool} {Q : Unit → Shared → Prop}
    (hfr : A.frames = some (env :: outer)) (hl : s.heap.FunFrames base (env :: outer)) (hf : env.frame = some L) (P : PresX (frs (env :: outer)) X H s.heap)
    (he : s.heap.get? e = some oe) (hcls : oe.cls = cls) (hd : oe.data = .fields vs) (hsz : 4 < vs.size) (h2 : vs[2]? = some v2) (hen : H.get? e = none)
    (h : ∀ h', PresX (frs (env :: outer)) X H h' → Exc H h' e cls v2 (rawInt L) → h'.FunFrames base (env :: outer) → Q () { s with heap := h' }) :
    wpAny M A (do let a ← frameOf env; let pl ← entryPlaceOf L hadNext; let b ← EntryCells.newEntry head a .none (rawInt L) .none pl; setField (.ref e) 1 b) Q E s := by
  have hene : e ∉ (env :: outer).filterMap (·.frame) := fun hm => by
    obtain ⟨_, o, ho, hnf⟩ := hl.mem hm
    rw [he] at ho; injection ho with ho; subst ho; exact hnf vs hd
  refine wpAny_bind (wpAny_frameOf_fun hfr hl hf fun h₁ hs₁ => ?_)
  refine wpAny_bind (wpAny_entryPlaceOf fun pl hpl => ?_)
  unfold EntryCells.newEntry newFields
  refine wpAny_bind (wpAny_newObj_type ?_ (hpl.sizeOk5 _ _ _ _ _))
  have he₁ : h₁.get? e = some oe := (hs₁.2.1 e hene).trans he
  have he₂ := Heap.get?_push_of_some (h := h₁) { cls := .type "traceback", dict := none, data := .fields ([head, .ref L, .none, rawInt L, .none] ++ (if pl.isEmpty then List.replicate 6 Value.none else pl)).toArray } he₁
  refine wpAny_setField he₂ hd (by omega) ?_
  have hTe : h₁.objs.size ≠ e := Nat.ne_of_gt (Heap.lt_size he₁)
  have hd₃ := Obj.data_mapFields hd (·.setIfInBounds 1 (Value.ref h₁.objs.size))
  have he₃ := Heap.get?_update_self (Obj.mapFields (·.setIfInBounds 1 (Value.ref h₁.objs.size))) he₂ (Obj.isFreed_of_fields hd₃)
  have hT₃ := (Heap.get?_update_other (h₁.push { cls := .type "traceback", dict := none, data := .fields ([head, .ref L, .none, rawInt L, .none] ++ (if pl.isEmpty then List.replicate 6 Value.none else pl)).toArray })
    (Obj.mapFields (·.setIfInBounds 1 (Value.ref h₁.objs.size))) (Ne.symm hTe)).trans (Heap.get?_push_size h₁ rfl)
  have P₁ := presX_slots P hs₁
  have P₂ := P₁.of_keep (fun b o q => Heap.get?_push_of_some (h := h₁) { cls := .type "traceback", dict := none, data := .fields ([head, .ref L, .none, rawInt L, .none] ++ (if pl.isEmpty then List.replicate 6 Value.none else pl)).toArray } q)
  have hfresh : h₁.get? h₁.objs.size = none := by
    cases q : h₁.get? h₁.objs.size with
    | none => rfl
    | some o => exact absurd (Heap.lt_size q) (Nat.lt_irrefl _)
  refine h _ (presX_update P₂ hen he₂ (Obj.isFreed_of_fields hd₃)) ⟨_, _, h₁.objs.size, _, _, he₃, (Obj.cls_mapFields _ _).trans hcls, hd₃, by simpa using hsz, by rw [Array.getElem?_setIfInBounds_ne (by decide)]; exact h2, by rw [Array.getElem?_setIfInBounds_self]; rw [if_pos (by omega)], hTe, hT₃, rfl, by first | (simp; done) | (rcases hpl with rfl | ⟨_, _, _, _, _, _, _, rfl⟩ <;> simp), hen, P₁.sub _ hfresh, fun z u => by simp⟩ ?_
  refine hl.of_keeps fun b o hb hnf => ?_
  have hbe : b ≠ e := fun q => by
    rw [q, he] at hb; injection hb with hb; subst hb; exact hnf vs hd
  obtain ⟨sl, hs⟩ := hs₁.2.2 b o hb
  refine ⟨{ o with slots := sl }, ?_, rfl⟩
  rw [Heap.get?_update_other _ _ (Ne.symm hbe)]
  exact Heap.get?_push_of_some _ hs
theorem note_first {Q : Unit → Shared → Prop}
    (hfr : A.frames = some (env :: outer)) (hl : s.heap.FunFrames base (env :: outer)) (hf : env.frame = some L) (P : PresX (frs (env :: outer)) X H s.heap) (x : Exc0 H s.heap e cls v2)
    (h : ∀ h', PresX (frs (env :: outer)) X H h' → Exc H h' e cls v2 (rawInt L) → h'.FunFrames base (env :: outer) → Q () { s with heap := h' }) : wpAny M A (noteFrame (.ref e) env) Q E s := by
  obtain ⟨oe, vs, he, hcls, hd, hsz, h2, h1, hen⟩ := x
  unfold noteFrame
  simp only [hf]
  refine wpAny_bind (wpAny_field he hd h1 ?_)
  rw [if_neg (by decide)]
  exact entry_new hfr hl hf P he hcls hd hsz h2 hen h
theorem note_next {Q : Unit → Shared → Prop}
    (hfr : A.frames = some (env :: outer)) (hl : s.heap.FunFrames base (env :: outer)) (hf : env.frame = some L) (P : PresX (frs (env :: outer)) X H s.heap) (x : Exc H s.heap e cls v2 .none)
    (h : ∀ h', PresX (frs (env :: outer)) X H h' → Exc H h' e cls v2 (rawInt L) → h'.FunFrames base (env :: outer) → Q () { s with heap := h' }) : wpAny M A (noteFrame (.ref e) env) Q E s := by
  obtain ⟨oe, vs, T, oT, ts, he, hcls, hd, hsz, h2, h1, hTe, hT, hdT, h3, hen, hTn, hT1⟩ := x
  unfold noteFrame
  simp only [hf]
  refine wpAny_bind (wpAny_field he hd h1 ?_)
  rw [if_pos (show (Value.ref T != Value.none) = true from by simp)]
  refine wpAny_bind (wpAny_field hT hdT h3 ?_)
  rw [if_neg (show ¬ ((Value.none == rawInt L) = true) from by simp [rawInt])]
  refine wpAny_bind (wpAny_setField hT hdT (Array.getElem?_eq_some_iff.mp h3).1 ?_)
  have other : ∀ b, b ≠ T → (s.heap.update T (Obj.mapFields (·.setIfInBounds 3 Value.none))).get? b = s.heap.get? b := fun b hb => Heap.get?_update_other _ _ (Ne.symm hb)
  have noRecord : ∀ b o, s.heap.get? b = some o → (∀ vs, o.data ≠ .fields vs) → b ≠ T := fun b o hb hnf q => by
    rw [q, hT] at hb; injection hb with hb; subst hb; exact hnf ts hdT
  exact entry_new hfr (hl.of_keeps fun b o hb hnf => ⟨o, (other b (noRecord b o hb hnf)).trans hb, rfl⟩) hf (presX_update P hTn hT (Obj.isFreed_of_fields (Obj.data_mapFields hdT _))) ((other e (Ne.symm hTe)).trans he) hcls hd hsz h2 hen h
theorem land {fs : List Addr} {l : List Env} {Q : Unit → Shared → Prop} (P : PresX fs X H s.heap) (hl : s.heap.FunFrames base l) (x : Exc H s.heap e cls v2 fl)
    (h : ∀ h', PresX fs X H h' → Exc H h' e cls v2 .none → h'.FunFrames base l → (∀ b o, H.get? b = none → s.heap.get? b = some o → (∀ vs, o.data ≠ .fields vs) → h'.get? b = some o) → Q () { s with heap := h' }) : wpAny M A (setFlight (.ref e) none) Q E s := by
  obtain ⟨oe, vs, T, oT, ts, he, hcls, hd, hsz, h2, h1, hTe, hT, hdT, h3, hen, hTn, hT1⟩ := x
  have hsz3 : 3 < ts.size := (Array.getElem?_eq_some_iff.mp h3).1
  have other : ∀ b, b ≠ T → (s.heap.update T (Obj.mapFields (·.setIfInBounds 3 ((none : Option Addr).elim Value.none fun f => rawInt f)))).get? b = s.heap.get? b :=
    fun b hb => Heap.get?_update_other _ _ (Ne.symm hb)
  have noRecord : ∀ b o, s.heap.get? b = some o → (∀ vs, o.data ≠ .fields vs) → b ≠ T := fun b o hb hnf q => by
    rw [q, hT] at hb; injection hb with hb; subst hb; exact hnf ts hdT
  unfold setFlight
  refine wpAny_bind (wpAny_field he hd h1 ?_)
  rw [if_pos (show (Value.ref T != Value.none) = true from by simp)]
  refine wpAny_setField hT hdT hsz3 (h _ (presX_update P hTn hT (Obj.isFreed_of_fields (Obj.data_mapFields hdT _))) ?_ (hl.of_keeps fun b o hb hnf => ⟨o, (other b (noRecord b o hb hnf)).trans hb, rfl⟩) fun b o _ hb hnf => (other b (noRecord b o hb hnf)).trans hb)
  exact ⟨oe, vs, T, _, _, (other e (Ne.symm hTe)).trans he, hcls, hd, hsz, h2, h1, hTe, Heap.get?_update_self _ hT (Obj.isFreed_of_fields (Obj.data_mapFields hdT _)), Obj.data_mapFields hdT _, by simp [hsz3], hen, hTn, fun z u => by rw [Array.getElem?_setIfInBounds_ne (by decide)]; exact hT1 z u⟩
theorem args_unchain (a b c d : Value) : argsOk "proto.unchain" ⟨[a, b, c, d], []⟩ := by unfold argsOk; kernel_rfl
theorem entry_unchain : entryFor table "proto.unchain" = some Builtin.«proto.unchain» := entryFor_of_tree (by kernel_rfl)
end
section
variable {prog : Program} {w : World} {A : Around} {E : Value → Shared → Prop} {s : Shared} {env : Env} {e : Addr}
/-- raise ... from None of an exception just made, under a handled one without context -/
theorem raise_fromNone {x c : Sem Value} (hc : ∀ (P : Value → Shared → Prop) s, P .none s → wpAny (model prog w) A c P E s) {Q : Flow → Shared → Prop}
    {nm q : Str} {C N : Addr} {bs bm : List Value} {hdct : Bool} {sn : List Str} {sub : List Value} {ab : Bool} {col : Option Bool} {dd : Option Addr} {k0 k1 k2 k3 k5 : Option Value} {newId : String}
    (hbase : bm.contains (.type "BaseException") = true) (hh : A.handled = some (.ref e))
    (h : wpAny (model prog w) A x (fun v s₁ => ∃ e' t ov ve, v = .ref e' ∧ s₁.heap.get? C = some (excClassObj nm q C N bs bm hdct sn sub ab col dd k0 k1 k2 k3 k5 newId) ∧
      s₁.heap.get? e' = some { cls := .ref C, data := .fields #[.ref t, .none, .none, .none, .bool false, .none] } ∧ e' ≠ e ∧ s₁.heap.get? e = some ov ∧ ov.data = .fields ve ∧ ve[2]? = some .none ∧
      ∀ h', (∀ b, b ≠ e' → h'.get? b = s₁.heap.get? b) → h'.get? e' = some { cls := .ref C, data := .fields #[.ref t, .none, .ref e, .none, .bool true, .none] } → E (.ref e') { s₁ with heap := h' }) E s) :
    wpAny (model prog w) A (raiseStmt env (some x) (some c)) Q E s := by
  have hcB : (Value.ref C :: bm).contains (.type "BaseException") = true := by rw [List.contains_cons, hbase, Bool.or_true]
  unfold raiseStmt
  refine wpAny_bind (wpAny_mono h (fun v s₁ h₁ => ?_) fun _ _ x => x)
  obtain ⟨e', t, ov, ve, rfl, hC, he, hne, hv, hvd, hv2, hE⟩ := h₁
  obtain ⟨hp, g, d, tk, os⟩ := s₁
  dsimp only at hC he hv hE
  have hCe : C ≠ e' := fun q => by rw [q, he] at hC; cases hC
  refine wpAny_bind (wpAny_holding (hc _ _ ?_))
  repeat (first | with_reducible refine wpAny_loadPart_at he ?_ | with_reducible refine wpAny_loadPart_at hC ?_ | (with_reducible refine wpAny_isSubtype_exc hC ?_; rw [hcB]) | wp_step)
  have he₁ : (hp.update e' (Obj.mapFields fun x => x.setIfInBounds 3 Value.none)).get? e' = some { cls := .ref C, data := .fields #[.ref t, .none, .none, .none, .bool false, .none] } := Heap.get?_update_self _ he rfl
  have he₂ : ((hp.update e' (Obj.mapFields fun x => x.setIfInBounds 3 Value.none)).update e' (Obj.mapFields fun x => x.setIfInBounds 4 (Value.bool true))).get? e' = some { cls := .ref C, data := .fields #[.ref t, .none, .none, .none, .bool true, .none] } := Heap.get?_update_self _ he₁ rfl
  have hv' : ((hp.update e' (Obj.mapFields fun x => x.setIfInBounds 3 Value.none)).update e' (Obj.mapFields fun x => x.setIfInBounds 4 (Value.bool true))).get? e = some ov := by
    rw [Heap.get?_update_other _ _ hne, Heap.get?_update_other _ _ hne]; exact hv
  have hoth : ∀ b, b ≠ e' → ((hp.update e' (Obj.mapFields fun x => x.setIfInBounds 3 Value.none)).update e' (Obj.mapFields fun x => x.setIfInBounds 4 (Value.bool true))).get? b = hp.get? b := fun b hb => by
    rw [Heap.get?_update_other _ _ (Ne.symm hb), Heap.get?_update_other _ _ (Ne.symm hb)]
  generalize ((hp.update e' (Obj.mapFields fun x => x.setIfInBounds 3 Value.none)).update e' (Obj.mapFields fun x => x.setIfInBounds 4 (Value.bool true))) = hp₂ at he₂ hv' hoth ⊢
  unfold raiseNew
  refine wpAny_bind (wpAny_bind (wpAny_handled ?_))
  rw [hh]
  refine wpAny_pure ?_
  dsimp only
  rw [if_pos (by simpa using Ne.symm hne)]
  refine wpAny_bind (wpAny_holding (wpAny_runValue (codeAny_builtin entry_unchain ?_)))
  unfold Builtin.«proto.unchain»
  dsimp only
  refine wpAny_bind (wpAny_field hv' hvd hv2 ?_)
  rw [if_pos (by decide)]
  refine wpAny_pure ?_
  dsimp only
  have hsf : updateField e' 2 (Value.ref e) = setField (.ref e') 2 (.ref e) := rfl
  rw [hsf]
  refine wpAny_bind (wpAny_setField he₂ rfl (by simp) ?_)
  refine wpAny_throw ?_
  exact hE _ (fun b hb => (Heap.get?_update_other _ _ (Ne.symm hb)).trans (hoth b hb)) (Heap.get?_update_self _ he₂ rfl)
theorem evo_some {x : PySem.Expr} {e : Env} : evalOpt (some x) e = some (eval x e) := rfl
theorem evo_none {e : Env} : evalOpt none e = none := rfl
theorem exec_raise_from {x : Expr} {pos p' : Pos} {k' : Nat} {Q : Flow → Shared → Prop} {g0 : Heap}
    {nm q : Str} {C N : Addr} {bs bm : List Value} {hdct : Bool} {sn : List Str} {sub : List Value} {ab : Bool} {col : Option Bool} {dd : Option Addr} {k0 k1 k2 k3 k5 : Option Value} {newId : String}
    (_ : g0.get? C = some (excClassObj nm q C N bs bm hdct sn sub ab col dd k0 k1 k2 k3 k5 newId)) (hbase : bm.contains (.type "BaseException") = true) (hh : A.handled = some (.ref e))
    (h : wpAny (model prog w) A (eval x env) (fun v s₁ => ∃ e' t ov ve, v = .ref e' ∧ s₁.heap.get? C = some (excClassObj nm q C N bs bm hdct sn sub ab col dd k0 k1 k2 k3 k5 newId) ∧
      s₁.heap.get? e' = some { cls := .ref C, data := .fields #[.ref t, .none, .none, .none, .bool false, .none] } ∧ e' ≠ e ∧ s₁.heap.get? e = some ov ∧ ov.data = .fields ve ∧ ve[2]? = some .none ∧
      ∀ h', (∀ b, b ≠ e' → h'.get? b = s₁.heap.get? b) → h'.get? e' = some { cls := .ref C, data := .fields #[.ref t, .none, .ref e, .none, .bool true, .none] } → E (.ref e') { s₁ with heap := h' }) E s) :
    wpAny (model prog w) A (exec (.Raise (some x) (some (.Constant .none k' p')) pos) env) Q E s := by
  rw [arm_exec_Raise]
  simp only [evo_some, evo_none, Option.map]
  refine wpAny_bind (wpAny_standAt (raise_fromNone ?_ hbase hh (wpAny_bind (wpAny_mono h (fun v s₃ h₃ => wpAny_bind (wpAny_standAt (wpAny_pure h₃))) fun _ _ x => x))))
  intro P s hP
  rw [arm_eval_Constant]
  refine wpAny_bind ?_
  simp only [constValue]
  exact wpAny_pure (wpAny_bind (wpAny_standAt (wpAny_pure hP)))
theorem exec_raise {x : Expr} {pos : Pos} {Q : Flow → Shared → Prop} {g0 : Heap}
    {nm q : Str} {C N : Addr} {bs bm : List Value} {hdct : Bool} {sn : List Str} {sub : List Value} {ab : Bool} {col : Option Bool} {dd : Option Addr} {k0 k1 k2 k3 k5 : Option Value} {newId : String}
    (_ : g0.get? C = some (excClassObj nm q C N bs bm hdct sn sub ab col dd k0 k1 k2 k3 k5 newId)) (hbase : bm.contains (.type "BaseException") = true) (hh : A.handled = none)
    (h : wpAny (model prog w) A (eval x env) (fun v s₁ => ∃ e t, v = .ref e ∧ s₁.heap.get? C = some (excClassObj nm q C N bs bm hdct sn sub ab col dd k0 k1 k2 k3 k5 newId) ∧
      s₁.heap.get? e = some { cls := .ref C, data := .fields #[.ref t, .none, .none, .none, .bool false, .none] } ∧ E (.ref e) s₁) E s) :
    wpAny (model prog w) A (exec (.Raise (some x) none pos) env) Q E s := by
  rw [arm_exec_Raise]
  simp only [evo_some, evo_none, Option.map]
  exact wpAny_bind (wpAny_standAt (wpAny_raiseStmt_made_sub hbase hh (wpAny_bind (wpAny_mono h (fun v s₃ h₃ => wpAny_bind (wpAny_standAt (wpAny_pure h₃))) fun _ _ x => x))))
end
end Mine
end

/- E1 -/
section
open PySem PySem.W PyProof.Rows PySem.Calls PySem.Spec
set_option maxRecDepth 100000
set_option maxHeartbeats 4000000
namespace Mine
theorem funFrames_at {H h base : Heap} : ∀ {l : List Env}, H.FunFrames base l → (∀ b ∈ frs l, ∀ o, H.get? b = some o → ∃ sl, h.get? b = some { o with slots := sl }) → h.FunFrames base l
  | [], _, _ => trivial
  | env :: rest, ⟨hk, ⟨L, o, hf, hn, ho, hd⟩, hr⟩, k => by
    obtain ⟨sl, hs⟩ := k L (List.mem_filterMap.mpr ⟨env, List.mem_cons_self, hf⟩) o ho
    refine ⟨hk, ⟨L, _, hf, hn, hs, hd⟩, funFrames_at hr fun b hb => k b ?_⟩
    obtain ⟨env', he, hfe⟩ := List.mem_filterMap.mp hb
    exact List.mem_filterMap.mpr ⟨env', List.mem_cons_of_mem _ he, hfe⟩
section
variable {prog : Program} {w : World} {A₀ : Around} {E : Value → Shared → Prop} {s : Shared} {base g H : Heap} {outer : List Env} {L a e C : Addr} {m : Str → Option Value} {name : Str} {scope : Scope} {cd : Value}
  {b₀ : Stmt} {suite : List Stmt} {pos np : Pos} {rest : List ExceptHandler} {Q : Flow → Shared → Prop} {news : List (Addr × Obj)} {KF : Frag} {Y : List Addr} {v2 cls : Value}
  {p : Program} {loose : List Str} {mean : ExcName → Option Value} {mg mb : Str → Option Value} {x : Str} {X T' : String}
theorem frames_now (B : Below A₀ base outer g) (F : Fr g L H m) {h : Heap} (P : PresX (frs (envOf name scope L a cd :: outer)) Y H h) (hY : ∀ b ∈ Y, g.get? b = none ∧ b ≠ L) (hk : scope.kind = .function := by rfl) :
    h.FunFrames base (envOf name scope L a cd :: outer) := by
  have K' := B.push (name := name) (a := a) (cd := cd) F hk
  refine funFrames_at K'.frames fun b hb o ho => P.pres.frame b o ho (fun q => ?_) hb
  rcases kts_mem hb with z | z
  · exact (hY b q).2 z
  · obtain ⟨o', ho', _⟩ := (B.frames.mem z).2
    rw [(hY b q).1] at ho'; cases ho'
theorem note_any {A : Around} {M : Model} {env : Env} {Q : Unit → Shared → Prop}
    (hfr : A.frames = some (env :: outer)) (hl : s.heap.FunFrames base (env :: outer)) (hf : env.frame = some L) (P : PresX (frs (env :: outer)) Y H s.heap) (x : Exc0 H s.heap e cls v2 ∨ Exc H s.heap e cls v2 .none)
    (h : ∀ h', PresX (frs (env :: outer)) Y H h' → Exc H h' e cls v2 (rawInt L) → h'.FunFrames base (env :: outer) → Q () { s with heap := h' }) : wpAny M A (noteFrame (.ref e) env) Q E s := by
  rcases x with x | x
  · exact note_first hfr hl hf P x h
  · exact note_next hfr hl hf P x h
theorem exc_there {h : Heap} {fl : Value} (x : Exc H h e cls v2 fl) : ∃ ob, h.get? e = some ob ∧ ob.cls = cls := by
  obtain ⟨oe, vs, T, oT, ts, he, hcls, _⟩ := x
  exact ⟨oe, he, hcls⟩
/-- leaving the own frame with an exception -/
theorem leave_own {A : Around} {M : Model} {Q : Unit → Shared → Prop} {env : Env}
    (hfr : A.frames = some (env :: outer)) (hf : env.frame = some L) (hl : s.heap.FunFrames base (env :: outer)) (P : PresX (frs (env :: outer)) Y H s.heap) (x : Exc0 H s.heap e cls v2 ∨ Exc H s.heap e cls v2 .none)
    (h : ∀ h', PresX (frs (env :: outer)) Y H h' → Exc H h' e cls v2 .none → h'.FunFrames base (env :: outer) → Q () { s with heap := h' }) : wpAny M A (leaving env (.ref e)) Q E s := by
  unfold leaving
  refine wpAny_bind (note_any hfr hl hf P x fun h₁ P₁ x₁ l₁ => ?_)
  exact land P₁ l₁ x₁ fun h' P₂ x₂ l₂ _ => h h' P₂ x₂ l₂
theorem catch_ground (B : Below A₀ base outer g) (F : Fr g L H m) (N : News g L H news) (D : KtsDicts (frs outer) g) (XB : KF.In base) (TB : Top p loose mean mg mb base)
    {h : Heap} (P : PresX (frs (envOf name scope L a cd :: outer)) Y H h) (hY : ∀ b ∈ Y, g.get? b = none ∧ b ≠ L) :
    Pk1 fun g' => Al7 (KtsTurn (frs outer) g g') (Fr g' L h m) (Below A₀ base outer g') (KtsDicts (frs outer) g') (KF.In g') (Top p loose mean mg mb g') ((∀ q ∈ news, q.1 ∉ Y → h.get? q.1 = some q.2 ∧ q.1 ≠ L ∧ g'.get? q.1 = none)) := by
  obtain ⟨g', T, F', B', D', nn⟩ := turn_ground (env := envOf name scope L a cd) B F N D rfl P.pres hY
  refine ⟨g', T, F', B', D', XB.keeps B'.stays, TB.keeps B'.stays, fun q hq nq => nn q hq nq fun hm => ?_⟩
  rcases kts_mem hm with z | z
  · exact (N q hq).2.1 z
  · obtain ⟨o', ho', _⟩ := (B.frames.mem z).2
    rw [(N q hq).2.2] at ho'; cases ho'
theorem catch_B (B : Below A₀ base outer g) (F : Fr g L H m) (N : News g L H news) (D : KtsDicts (frs outer) g) (XB : KF.In base) (TB : Top p loose mean mg mb base)
    (P : PresX (frs (envOf name scope L a cd :: outer)) Y H s.heap) (hY : ∀ b ∈ Y, g.get? b = none ∧ b ≠ L) (x0 : Exc0 H s.heap e (.type X) v2 ∨ Exc H s.heap e (.type X) v2 .none)
    (ex : nsIn KF mainGlobals x = some none) (hv : bootBuiltins x = some (.type T')) (hn' : x ≠ "__name__")
    (hexc : isSubtype (.type T') (.type "BaseException") = pure true) (hnt : isSubtype (.type ((Manifest.find? T').elim "type" fun y => y.metatype)) (.type "tuple") = pure false) (hsub : isSubtype (.type X) (.type T') = pure true)
    (k : ∀ h' g', PresX (frs (envOf name scope L a cd :: outer)) Y H h' → Exc H h' e (.type X) v2 .none → KtsTurn (frs outer) g g' → Fr g' L h' m → Below A₀ base outer g' → KtsDicts (frs outer) g' → KF.In g' → Top p loose mean mg mb g' → (∀ q ∈ news, q.1 ∉ Y → h'.get? q.1 = some q.2 ∧ q.1 ≠ L ∧ g'.get? q.1 = none) →
      wpAny (model prog w) ((A₀.deeper (envOf name scope L a cd)).mark (some (.ref e))) (execs (b₀ :: suite) (envOf name scope L a cd)) Q E { s with heap := h' })
    (hk : scope.kind = .function := by rfl) (hx : (envOf name scope L a cd).kindOf x = some .globalImplicit := by rfl) (hd : (x == ("__debug__" : Str)) = false := by decide)
    (hE : PassesOwnAt (model prog w) ((A₀.deeper (envOf name scope L a cd)).mark (some (.ref e))) (A₀.deeper (envOf name scope L a cd)) (envOf name scope L a cd) E := by passes_own) :
    wpAny (model prog w) (A₀.deeper (envOf name scope L a cd)) (noteFrame (.ref e) (envOf name scope L a cd))
      (fun _ s₂ => wpAny (model prog w) (A₀.deeper (envOf name scope L a cd)) (setFlight (.ref e) none) (fun _ s₃ =>
        wpAny (model prog w) (A₀.deeper (envOf name scope L a cd)) (handleBy (.ref e) (envOf name scope L a cd) (.ExceptHandler (some (.Name x np)) none (b₀ :: suite) pos :: rest)) Q E s₃) E s₂) E s := by
  refine note_any (Around.frames_deeper B.stack) (frames_now B F P hY hk) rfl P x0 fun h₄ P₄ x₄ l₄ => ?_
  refine land P₄ l₄ x₄ fun h₅ P₅ x₅ l₅ _ => ?_
  obtain ⟨g₅, T₅, F₅, B₅, D₅, X₅, TP₅, N₅⟩ := catch_ground B F N D XB TB P₅ hY
  obtain ⟨ob, hob, hobc⟩ := exc_there x₅
  refine wpAny_handleBy_builtin (X := X) (T := T') (b := true) hexc hnt hsub (name_B F₅ X₅ (topRead_of TP₅) ex hv hn' ⟨rfl, ⟨ob, hob, hobc⟩, ?_⟩ hk hx hd)
  refine land P₅ l₅ x₅ fun h₆ P₆ x₆ l₆ _ => ?_
  obtain ⟨g₆, T₆, F₆, B₆, D₆, X₆, TP₆, N₆⟩ := catch_ground B F N D XB TB P₆ hY
  exact wpAny_passesOwnAt hE (k h₆ g₆ P₆ x₆ T₆ F₆ B₆ D₆ X₆ TP₆ N₆)
theorem catch_O (B : Below A₀ base outer g) (F : Fr g L H m) (N : News g L H news) (D : KtsDicts (frs outer) g) (XB : KF.In base) (TB : Top p loose mean mg mb base)
    (P : PresX (frs (envOf name scope L a cd :: outer)) Y H s.heap) (hY : ∀ b ∈ Y, g.get? b = none ∧ b ≠ L) (x0 : Exc0 H s.heap e (.ref C) v2 ∨ Exc H s.heap e (.ref C) v2 .none)
    (ex : nsIn KF mainGlobals x = some (some (.ref C))) (q : ktsIn KF C "BaseException" = true)
    (k : ∀ h' g', PresX (frs (envOf name scope L a cd :: outer)) Y H h' → Exc H h' e (.ref C) v2 .none → KtsTurn (frs outer) g g' → Fr g' L h' m → Below A₀ base outer g' → KtsDicts (frs outer) g' → KF.In g' → Top p loose mean mg mb g' → (∀ q ∈ news, q.1 ∉ Y → h'.get? q.1 = some q.2 ∧ q.1 ≠ L ∧ g'.get? q.1 = none) →
      wpAny (model prog w) ((A₀.deeper (envOf name scope L a cd)).mark (some (.ref e))) (execs (b₀ :: suite) (envOf name scope L a cd)) Q E { s with heap := h' })
    (hk : scope.kind = .function := by rfl) (hx : (envOf name scope L a cd).kindOf x = some .globalImplicit := by rfl) (hd : (x == ("__debug__" : Str)) = false := by decide)
    (hE : PassesOwnAt (model prog w) ((A₀.deeper (envOf name scope L a cd)).mark (some (.ref e))) (A₀.deeper (envOf name scope L a cd)) (envOf name scope L a cd) E := by passes_own) :
    wpAny (model prog w) (A₀.deeper (envOf name scope L a cd)) (noteFrame (.ref e) (envOf name scope L a cd))
      (fun _ s₂ => wpAny (model prog w) (A₀.deeper (envOf name scope L a cd)) (setFlight (.ref e) none) (fun _ s₃ =>
        wpAny (model prog w) (A₀.deeper (envOf name scope L a cd)) (handleBy (.ref e) (envOf name scope L a cd) (.ExceptHandler (some (.Name x np)) none (b₀ :: suite) pos :: rest)) Q E s₃) E s₂) E s := by
  refine note_any (Around.frames_deeper B.stack) (frames_now B F P hY hk) rfl P x0 fun h₄ P₄ x₄ l₄ => ?_
  refine land P₄ l₄ x₄ fun h₅ P₅ x₅ l₅ _ => ?_
  obtain ⟨g₅, T₅, F₅, B₅, D₅, X₅, TP₅, N₅⟩ := catch_ground B F N D XB TB P₅ hY
  obtain ⟨ob, hob, hobc⟩ := exc_there x₅
  obtain ⟨nm, q', N', bs, bm, hdct, sn, sub, ab, col, dd, k0, k1, k2, k3, k5, newId, hC, hbase, hbT⟩ := kts_cls X₅ q
  have hC₅ := F₅.keep _ _ hC
  refine wpAny_handleBy_cons (codeAny_handlers_test (name_K F₅ X₅ (topRead_of TP₅) ex ?_ hk hx hd)) (by intro q; cases q)
  refine wpAny_excMatches_sub_self hC₅ hob hobc hbase (codeAny_handlers_suite ?_)
  refine land P₅ l₅ x₅ fun h₆ P₆ x₆ l₆ _ => ?_
  obtain ⟨g₆, T₆, F₆, B₆, D₆, X₆, TP₆, N₆⟩ := catch_ground B F N D XB TB P₆ hY
  exact wpAny_passesOwnAt hE (k h₆ g₆ P₆ x₆ T₆ F₆ B₆ D₆ X₆ TP₆ N₆)
end
end Mine
end

/- D2 -/
section
open PySem PySem.W PyProof.Rows PySem.Calls PySem.Spec
set_option maxRecDepth 100000
set_option maxHeartbeats 4000000
namespace Mine
theorem fillD2 (w : World) (h : Heap) : (hd35.heap_39 w.params).In h → model PySem.Challenge.rw_om0035_01.row.prog w = model PySem.Challenge.rw_om0035_01.row.prog w := by
  k_fill
  intro _
  rfl
/-- where the word stands next, or -1 -/
noncomputable def nextF (text : Str) (place : Nat) (word : Str) : Int :=
  match Builtin.Str.occurrences text word (fromIndex text.length place) text.length 1 with
  | [] => -1
  | k :: _ => if (Txt.slice text (some (place : Int)) (some (k : Int))).cps.toList.contains 46 then -1 else k
theorem fromIndex_nat (n k : Nat) : fromIndex n (k : Int) = k := by unfold fromIndex; rw [if_neg (by omega)]; omega
/-- what occurrences finds -/
theorem occ_cons {x y : Str} {lo k : Nat} {r : List Nat} (h : Builtin.Str.occurrences x y (fromIndex x.length (lo : Int)) x.length 1 = k :: r) : lo ≤ k ∧ k + y.length ≤ x.length := by
  rw [fromIndex_nat] at h
  rcases StrLaws.occ_head_from x y lo 1 (Nat.le_refl _) with ⟨h0, _⟩ | ⟨i, r', h0, hi, ha, _⟩
  · rw [h0] at h; cases h
  · rw [h0] at h; cases h
    exact ⟨hi, ha.1⟩
theorem slice_nat (x : Str) {a b : Nat} (hab : a ≤ b) (hb : b ≤ x.length) : Txt.slice x (some (a : Int)) (some (b : Int)) = ⟨((x.cps.toList.drop a).take (b - a)).toArray⟩ := StrLaws.sliceText_nat x hab hb
theorem slice_ascii {x : Str} {a b : Nat} (hx : x.cps.all (· < 128) = true) (hab : a ≤ b) (hb : b ≤ x.length) : (Txt.slice x (some (a : Int)) (some (b : Int))).cps.all (· < 128) = true := by
  rw [slice_nat x hab hb]
  rw [Array.all_eq_true'] at hx ⊢
  intro c hc
  have : c ∈ (x.cps.toList.drop a).take (b - a) := by simpa using hc
  exact hx c (by simpa using List.mem_of_mem_drop (List.mem_of_mem_take this))
theorem slice_dot {x : Str} {a b : Nat} (hab : a ≤ b) (hb : b ≤ x.length) (h : (Txt.slice x (some (a : Int)) (some (b : Int))).cps.toList.contains 46 = true) : ∃ i, a ≤ i ∧ i < x.length ∧ x.cps[i]? = some 46 := by
  rw [slice_nat x hab hb] at h
  have h' : 46 ∈ (x.cps.toList.drop a).take (b - a) := by simpa using h
  obtain ⟨i, hi⟩ := List.getElem?_of_mem h'
  rw [List.getElem?_take] at hi
  split at hi
  · rw [List.getElem?_drop] at hi
    refine ⟨a + i, by omega, by have := (List.getElem?_eq_some_iff.mp hi).1; simpa [Str.length] using this, by simpa using hi⟩
  · cases hi
theorem fz_method {prog : Program} {w : World} {A : Around} {E : Value → Shared → Prop} {s : Shared} {fz : Addr} {fo : Obj} {pl : Sem Bool} {Q : Value × List Value → Shared → Prop} (ho : s.heap.get? fz = some fo) (hf : FzObj fo)
    (h : Q (.builtin "frozenset.isdisjoint", [.ref fz]) s) : wpAny (model prog w) A (getMethod (.ref fz) (Str.ofString "isdisjoint") pl) Q E s := by
  obtain ⟨hsh, t', ep, tbl, rfl, hfit⟩ := id hf
  exact getMethod_builtin ⟨_, ho, rfl⟩ ⟨⟨"object.__getattribute__", by rw [typeLookup_type, builtinLookup_eq_fast]; kernel_rfl, by decide +kernel⟩, by rw [typeLookup_type, builtinLookup_eq_fast]; kernel_rfl⟩ slot_fz_isdisjoint type_fz_isdisjoint (fun a e => by cases e; exact ⟨_, ho, rfl⟩) h
theorem exc0_of {H h : Heap} {e : Addr} (x : Heap.NewExc H h e "ValueError") : Exc0 H h e (.type "ValueError") .none := by
  obtain ⟨ob, t, ht, hc, hd⟩ := x.there
  exact ⟨_, _, ht, hc, hd, by simp, rfl, rfl, x.new⟩
theorem presX_turn {fs : List Addr} {H g g' h : Heap} {L : Addr} {m : Str → Option Value} {news : List (Addr × Obj)} {o o' : Obj} (GS : GSub H g ([(80, o)].map (·.1))) (TT : KtsTurn fs g g') (F : Fr g' L h m) (N : News g' L h news) (hm : (80, o') ∈ news) : PresX fs [80] H h := by
  refine ⟨⟨fun b o e m n => F.keep _ _ (TT.other _ _ (GS b o e (by simpa using m)) n), fun b o e m n => ?_⟩, fun b q => ?_⟩
  · obtain ⟨sl, hs⟩ := TT.up (GS b o e (by simpa using m))
    exact ⟨sl, F.keep _ _ hs⟩
  cases hh : H.get? b with
  | none => rfl
  | some o2 =>
    by_cases h8 : b = 80
    · subst h8; have := (N _ hm).1; rw [q] at this; cases this
    · obtain ⟨sl, hs⟩ := TT.up (GS b o2 hh (by simpa using h8))
      have := F.keep _ _ hs; rw [q] at this; cases this
theorem tabPs_up {fs : List Addr} {H h : Heap} {ps : Array Value} (x : TabPs H ps) (P : PresX fs [80] H h) : TabPs h ps := by
  rcases x with rfl | ⟨c9, oc, vs, t, rfl, hoc, hd, hv, hne⟩
  · exact .inl rfl
  · obtain ⟨sl, hs⟩ := P.pres.up hoc (by simpa using hne)
    exact .inr ⟨c9, _, vs, t, rfl, hs, hd, hv, hne⟩
/-- the end of a raise in the own frame -/
theorem presX_pres {fs : List Addr} {H h h' : Heap} (P : PresX fs [80] H h) (k : Pres 80 h h') (T : Tab80 h') : PresX fs [80] H h' := by
  refine ⟨⟨fun b o e m n => k b o (by simpa using m) (P.pres.other b o e m n), fun b o e m n => ?_⟩, fun b q => ?_⟩
  · obtain ⟨sl, hs⟩ := P.pres.frame b o e m n
    exact ⟨sl, k b _ (by simpa using m) hs⟩
  · by_cases h8 : b = 80
    · subst h8; obtain ⟨_, hT, _⟩ := T; rw [q] at hT; cases hT
    · refine P.sub b ?_
      cases hh : h.get? b with
      | none => rfl
      | some o => have := k b o h8 hh; rw [q] at this; cases this
theorem raise_end {M : Model} {A₀ : Around} {base g h h9 H0 : Heap} {outer : List Env} {L a e t : Addr} {m : Str → Option Value} {name : Str} {scope : Scope} {cd cls v2 : Value} {news : List (Addr × Obj)} {o8 oe : Obj} {vs : Array Value} {Q : Unit → Shared → Prop} {E : Value → Shared → Prop} {s1 : Shared}
    (B : Below A₀ base outer g) (F : Fr g L h m) (N : News g L h news) (h8 : (80, o8) ∈ news) (P0 : PresX (frs outer) [80] H0 h) (hL0 : H0.get? L = none) (hp : Pres 80 h h9) (T : Tab80 h9) (hne : h.get? e = none) (he9 : h9.get? e = some (excO t))
    (hoth : ∀ b, b ≠ e → s1.heap.get? b = h9.get? b) (heo : s1.heap.get? e = some oe) (hcls : oe.cls = cls) (hd : oe.data = .fields vs) (hsz : 4 < vs.size) (hv2 : vs[2]? = some v2) (hv1 : vs[1]? = some .none)
    (k : ∀ h'', PresX (frs outer) [80] H0 h'' → Exc H0 h'' e cls v2 .none → Tab80 h'' → Q () { s1 with heap := h'' }) (hk : scope.kind = .function := by rfl) :
    wpAny M (A₀.deeper (envOf name scope L a cd)) (leaving (envOf name scope L a cd) (.ref e)) Q E s1 := by
  have K' := B.push (name := name) (a := a) (cd := cd) F hk
  have n8 : (80 : Addr) ∉ frs (envOf name scope L a cd :: outer) := fun hm => by
    rcases kts_mem hm with z | z
    · exact (N _ h8).2.1 z
    · obtain ⟨o, ho, _⟩ := (B.frames.mem z).2
      rw [(N _ h8).2.2] at ho; cases ho
  have e8 : (80 : Addr) ≠ e := fun z => by
    have := (N _ h8).1
    rw [z, hne] at this; cases this
  have hHg : ∀ b o, (hideAll h9 [e]).get? b = some o → b ≠ e ∧ h9.get? b = some o := fun b o q => ⟨fun z => (by rw [z, hideAll_none _ (.head _)] at q; cases q), of_hideAll _ q⟩
  have hgH : ∀ b o, b ≠ e → h9.get? b = some o → (hideAll h9 [e]).get? b = some o := fun b o z q => hideAll_get _ q (by simpa using z)
  have hnone : ∀ b, (hideAll h9 [e]).get? b = none → H0.get? b = none := fun b q => by
    by_cases z : b = e
    · subst z; exact P0.sub _ hne
    · refine P0.sub b ?_
      cases hh : h.get? b with
      | none => rfl
      | some o =>
        exfalso
        by_cases z8 : b = 80
        · subst z8
          obtain ⟨ps, hT, _⟩ := T
          rw [hgH _ _ z hT] at q; cases q
        · rw [hgH _ _ z (hp b o z8 hh)] at q; cases q
  have P : PresX (frs (envOf name scope L a cd :: outer)) [] (hideAll h9 [e]) s1.heap := by
    refine ⟨PresF.of_keep fun b o q => (hoth b (hHg b o q).1).trans (hHg b o q).2, fun b q => ?_⟩
    by_cases z : b = e
    · subst z; exact hideAll_none _ (.head _)
    · rw [hoth b z] at q
      cases hh : (hideAll h9 [e]).get? b with
      | none => rfl
      | some o => rw [(hHg b o hh).2] at q; cases q
  have hl : s1.heap.FunFrames base (envOf name scope L a cd :: outer) := funFrames_at K'.frames fun b hb o ho => ⟨o.slots, by
    have z8 : b ≠ 80 := fun z => n8 (z ▸ hb)
    have ze : b ≠ e := fun z => by rw [z, hne] at ho; cases ho
    exact (hoth b ze).trans (hp b o z8 ho)⟩
  refine leave_own (Around.frames_deeper B.stack) rfl hl P (.inl ⟨oe, vs, heo, hcls, hd, hsz, hv2, hv1, hideAll_none _ (.head _)⟩) fun h'' P' x' _ => ?_
  refine k h'' ⟨⟨fun b o q m8 nf => ?_, fun b o q m8 nf => ?_⟩, fun b q => hnone b (P'.sub b q)⟩ ?_ ?_
  · have z8 : b ≠ 80 := by simpa using m8
    have hb := P0.pres.other b o q m8 nf
    have ze : b ≠ e := fun z => by rw [z, hne] at hb; cases hb
    have nf' : b ∉ frs (envOf name scope L a cd :: outer) := fun hm => by
      rcases kts_mem hm with z | z
      · rw [z, hL0] at q; cases q
      · exact nf z
    exact P'.pres.other b o (hgH b o ze (hp b o z8 hb)) (fun z => nomatch z) nf'
  · have z8 : b ≠ 80 := by simpa using m8
    obtain ⟨sl, hb⟩ := P0.pres.frame b o q m8 nf
    have ze : b ≠ e := fun z => by rw [z, hne] at hb; cases hb
    obtain ⟨sl', hs'⟩ := P'.pres.up (hgH b _ ze (hp b _ z8 hb)) (fun z => nomatch z)
    exact ⟨sl', hs'⟩
  · obtain ⟨oe', vs', Tb, oT, ts, x1, x2, x3, x4, x5, x6, x7, x8, x9, x10, x11, x12, x13⟩ := x'
    exact ⟨oe', vs', Tb, oT, ts, x1, x2, x3, x4, x5, x6, x7, x8, x9, x10, hnone _ x11, hnone _ x12, x13⟩
  · obtain ⟨ps, hT, hps⟩ := T
    refine ⟨ps, P'.pres.other _ _ (hgH _ _ e8 hT) (fun z => nomatch z) n8, ?_⟩
    rcases hps with rfl | ⟨c9, oc, vs9, t9, rfl, hoc, hd9, hv9, hne9⟩
    · exact .inl rfl
    · have ze : c9 ≠ e := fun z => by
        rw [z, he9] at hoc; cases hoc
        simp only [Data.fields.injEq] at hd9
        subst hd9
        simp at hv9
      obtain ⟨sl, hs⟩ := P'.pres.up (hgH _ _ ze hoc) (fun z => nomatch z)
      exact .inr ⟨c9, _, vs9, t9, rfl, hs, hd9, hv9, hne9⟩
theorem loadX_L {M : Model} {A : Around} {E : Value → Shared → Prop} {s : Shared} {h₀ : Heap} {L a : Addr} {m : Str → Option Value} {cn : Str} {cs : Scope} {ccd : Value} {cl : List (Str × Addr)} {x : Str} {v : Value} {Q : Value → Shared → Prop} (F : Fr h₀ L s.heap m) (hv : m x = some v) (h : Q v s)
    (hk : cs.kind = .function := by rfl) (hx : (envX cn cs L a ccd cl).kindOf x = some .local := by rfl) : wpAny M A (loadName (envX cn cs L a ccd cl) x) Q E s := wpAny_loadName_local hk hx F.ns hv h
theorem news_head {g h : Heap} {L : Addr} {q : Addr × Obj} {r : List (Addr × Obj)} (N : News g L h (q :: r)) : News g L h [q] := fun p hp => N p (by rw [List.mem_singleton.mp hp]; exact .head _)
theorem fr_keep {g h h' : Heap} {L : Addr} {m : Str → Option Value} (F : Fr g L h m) (k : ∀ b o, h.get? b = some o → h'.get? b = some o) : Fr g L h' m := ⟨F.ns.keeps k, fun b o e => k _ _ (F.keep b o e), F.above⟩
theorem news_keep {g h h' : Heap} {L : Addr} {news : List (Addr × Obj)} (N : News g L h news) (k : ∀ b o, h.get? b = some o → h'.get? b = some o) : News g L h' news := fun p hp => ⟨k _ _ (N p hp).1, (N p hp).2⟩
section
local macro_rules | `(tactic| walk_at "exec Raise some none") => `(tactic| refine Mine.Halt.mk ?_)
local macro_rules | `(tactic| walk_at "loadName") => `(tactic| k_dflt refine Mine.loadX_L (by k_asm) (by first | rfl | assumption) ?_)
namespace skip_c_k
noncomputable def PP (w : World) (p : Program) (loose : List Str) (mean : ExcName → Option Value) (mg : Str → Option Value) (mb : Str → Option Value) (dp : Nat) (un : Nat) (gd : Option (List Code)) (cn : Str) (cs : Scope) (L : Addr) (a : Addr) (ccd : Value) (cl : List (Str × Addr)) (outer : List Env) (A₀ : Around) (base : Heap) (h₀ : Heap) (m : Str → Option Value) (s : Shared) (Q : Value → Shared → Prop) (E : Value → Shared → Prop) (text : Str) (word : Str) (place : Nat) (t0 : Tok) (t1 : Tok) (t2 : Tok) (fz : Addr) (fo : Obj) (ps : Array Value) : Prop := ∀ (B : Below A₀ base outer h₀) (F : Fr h₀ L s.heap m) (XB : (hd35.heap_39 w.params).In base) (TB : Top p loose mean mg mb base) (D : KtsDicts (frs outer) h₀) (hk : cs.kind = .function) (N : News h₀ L s.heap [(80, tabObj ps)]) (hps : TabPs s.heap ps) (hfz : s.heap.get? fz = some fo) (hfo : FzObj fo) (hfz8 : fz ≠ 80) (hasc : text.cps.all (· < 128) = true) (hlt : text.length ≤ 9) (hnl : 10 ∉ text.cps.toList) (hrw : (reprText word).length ≤ 40) (hp1 : place ≤ text.length) (hdp : dp + 6 < recursionLimit) (hu : un + 48 < cLine) (hret : ∀ (k : Nat) t h' tk', nextF text place word = k → (∀ b o, s.heap.get? b = some o → h'.get? b = some o) → Q (.int k t) { s with heap := h', toks := tk' }) (hexc : ∀ e v2 h' tk', nextF text place word = -1 → PresX (frs (envX cn cs L a ccd cl :: outer)) [80] s.heap h' → Exc s.heap h' e (.ref 68) v2 .none → Tab80 h' → E (.ref e) { s with heap := h', toks := tk' }), wpAny (model PySem.Challenge.rw_om0035_01.row.prog w) (MTop none dp un gd cn cs L a ccd cl outer) (call (.ref 78) [.str text t0, .int place t1, .str word t2] [(Str.ofString "error_on", .ref fz), (Str.ofString "error_on_eof", .bool true)]) Q E s
noncomputable def QQ (cc : (World) × (Program) × (List Str) × (ExcName → Option Value) × (Str → Option Value) × (Str → Option Value) × (Nat) × (Nat) × (Option (List Code)) × (Str) × (Scope) × (Addr) × (Addr) × (Value) × (List (Str × Addr)) × (List Env) × (Around) × (Heap) × (Heap) × (Str → Option Value) × (Shared) × (Value → Shared → Prop) × (Value → Shared → Prop) × (Str) × (Str) × (Nat) × (Tok) × (Tok) × (Tok) × (Addr) × (Obj) × (Array Value)) : Prop := PP (cc.1) (cc.2.1) (cc.2.2.1) (cc.2.2.2.1) (cc.2.2.2.2.1) (cc.2.2.2.2.2.1) (cc.2.2.2.2.2.2.1) (cc.2.2.2.2.2.2.2.1) (cc.2.2.2.2.2.2.2.2.1) (cc.2.2.2.2.2.2.2.2.2.1) (cc.2.2.2.2.2.2.2.2.2.2.1) (cc.2.2.2.2.2.2.2.2.2.2.2.1) (cc.2.2.2.2.2.2.2.2.2.2.2.2.1) (cc.2.2.2.2.2.2.2.2.2.2.2.2.2.1) (cc.2.2.2.2.2.2.2.2.2.2.2.2.2.2.1) (cc.2.2.2.2.2.2.2.2.2.2.2.2.2.2.2.1) (cc.2.2.2.2.2.2.2.2.2.2.2.2.2.2.2.2.1) (cc.2.2.2.2.2.2.2.2.2.2.2.2.2.2.2.2.2.1) (cc.2.2.2.2.2.2.2.2.2.2.2.2.2.2.2.2.2.2.1) (cc.2.2.2.2.2.2.2.2.2.2.2.2.2.2.2.2.2.2.2.1) (cc.2.2.2.2.2.2.2.2.2.2.2.2.2.2.2.2.2.2.2.2.1) (cc.2.2.2.2.2.2.2.2.2.2.2.2.2.2.2.2.2.2.2.2.2.1) (cc.2.2.2.2.2.2.2.2.2.2.2.2.2.2.2.2.2.2.2.2.2.2.1) (cc.2.2.2.2.2.2.2.2.2.2.2.2.2.2.2.2.2.2.2.2.2.2.2.1) (cc.2.2.2.2.2.2.2.2.2.2.2.2.2.2.2.2.2.2.2.2.2.2.2.2.1) (cc.2.2.2.2.2.2.2.2.2.2.2.2.2.2.2.2.2.2.2.2.2.2.2.2.2.1) (cc.2.2.2.2.2.2.2.2.2.2.2.2.2.2.2.2.2.2.2.2.2.2.2.2.2.2.1) (cc.2.2.2.2.2.2.2.2.2.2.2.2.2.2.2.2.2.2.2.2.2.2.2.2.2.2.2.1) (cc.2.2.2.2.2.2.2.2.2.2.2.2.2.2.2.2.2.2.2.2.2.2.2.2.2.2.2.2.1) (cc.2.2.2.2.2.2.2.2.2.2.2.2.2.2.2.2.2.2.2.2.2.2.2.2.2.2.2.2.2.1) (cc.2.2.2.2.2.2.2.2.2.2.2.2.2.2.2.2.2.2.2.2.2.2.2.2.2.2.2.2.2.2.1) (cc.2.2.2.2.2.2.2.2.2.2.2.2.2.2.2.2.2.2.2.2.2.2.2.2.2.2.2.2.2.2.2)
@[irreducible] noncomputable def cc : (World) × (Program) × (List Str) × (ExcName → Option Value) × (Str → Option Value) × (Str → Option Value) × (Nat) × (Nat) × (Option (List Code)) × (Str) × (Scope) × (Addr) × (Addr) × (Value) × (List (Str × Addr)) × (List Env) × (Around) × (Heap) × (Heap) × (Str → Option Value) × (Shared) × (Value → Shared → Prop) × (Value → Shared → Prop) × (Str) × (Str) × (Nat) × (Tok) × (Tok) × (Tok) × (Addr) × (Obj) × (Array Value) := eps (by (repeat' first | exact neW | exact neA | exact neS | refine neP ?_ ?_ | infer_instance)) QQ
@[irreducible] noncomputable def mg : Str → Option Value := cc.2.2.2.2.1
@[irreducible] noncomputable def cn : Str := cc.2.2.2.2.2.2.2.2.2.1
@[irreducible] noncomputable def cs : Scope := cc.2.2.2.2.2.2.2.2.2.2.1
@[irreducible] noncomputable def L : Addr := cc.2.2.2.2.2.2.2.2.2.2.2.1
@[irreducible] noncomputable def a : Addr := cc.2.2.2.2.2.2.2.2.2.2.2.2.1
@[irreducible] noncomputable def ccd : Value := cc.2.2.2.2.2.2.2.2.2.2.2.2.2.1
@[irreducible] noncomputable def cl : List (Str × Addr) := cc.2.2.2.2.2.2.2.2.2.2.2.2.2.2.1
@[irreducible] noncomputable def outer : List Env := cc.2.2.2.2.2.2.2.2.2.2.2.2.2.2.2.1
@[irreducible] noncomputable def s : Shared := cc.2.2.2.2.2.2.2.2.2.2.2.2.2.2.2.2.2.2.2.2.1
@[irreducible] noncomputable def text : Str := cc.2.2.2.2.2.2.2.2.2.2.2.2.2.2.2.2.2.2.2.2.2.2.2.1
@[irreducible] noncomputable def word : Str := cc.2.2.2.2.2.2.2.2.2.2.2.2.2.2.2.2.2.2.2.2.2.2.2.2.1
@[irreducible] noncomputable def place : Nat := cc.2.2.2.2.2.2.2.2.2.2.2.2.2.2.2.2.2.2.2.2.2.2.2.2.2.1
@[irreducible] noncomputable def t0 : Tok := cc.2.2.2.2.2.2.2.2.2.2.2.2.2.2.2.2.2.2.2.2.2.2.2.2.2.2.1
@[irreducible] noncomputable def t1 : Tok := cc.2.2.2.2.2.2.2.2.2.2.2.2.2.2.2.2.2.2.2.2.2.2.2.2.2.2.2.1
@[irreducible] noncomputable def fz : Addr := cc.2.2.2.2.2.2.2.2.2.2.2.2.2.2.2.2.2.2.2.2.2.2.2.2.2.2.2.2.2.1
@[irreducible] noncomputable def fo : Obj := cc.2.2.2.2.2.2.2.2.2.2.2.2.2.2.2.2.2.2.2.2.2.2.2.2.2.2.2.2.2.2.1
@[irreducible] noncomputable def ps : Array Value := cc.2.2.2.2.2.2.2.2.2.2.2.2.2.2.2.2.2.2.2.2.2.2.2.2.2.2.2.2.2.2.2
noncomputable def stg : PSigma fun R : (Heap) → (Addr) → (Heap) → Prop => (∀ g L' h₁, R g L' h₁) → PP (cc.1) (cc.2.1) (cc.2.2.1) (cc.2.2.2.1) mg (cc.2.2.2.2.2.1) (cc.2.2.2.2.2.2.1) (cc.2.2.2.2.2.2.2.1) (cc.2.2.2.2.2.2.2.2.1) cn cs L a ccd cl outer (cc.2.2.2.2.2.2.2.2.2.2.2.2.2.2.2.2.1) (cc.2.2.2.2.2.2.2.2.2.2.2.2.2.2.2.2.2.1) (cc.2.2.2.2.2.2.2.2.2.2.2.2.2.2.2.2.2.2.1) (cc.2.2.2.2.2.2.2.2.2.2.2.2.2.2.2.2.2.2.2.1) s (cc.2.2.2.2.2.2.2.2.2.2.2.2.2.2.2.2.2.2.2.2.2.1) (cc.2.2.2.2.2.2.2.2.2.2.2.2.2.2.2.2.2.2.2.2.2.2.1) text word place t0 t1 (cc.2.2.2.2.2.2.2.2.2.2.2.2.2.2.2.2.2.2.2.2.2.2.2.2.2.2.2.2.1) fz fo ps := by
  refine' PSigma.mk _ (fun hR => ?_)
  rotate_left
  unfold PP
  intro B F XB TB D hk N hps hfz hfo hfz8 hasc hlt hnl hrw hp1 hdp hu hret hexc
  w_on
  refine wpAny_call ?_
  k_dflt (refine' enterM B F XB TB D N rfl rfl hk ?k6 ?k7 ?k8 ?k9 ?kB ?_ ?c2 ?c3 ?c4 ?c5; (case k6 => k_is); (case k7 => k_is); (case k8 => ktr_room); (case k9 => exact BindsTo.of_eq rfl); (case c5 => decide); (case kB => exact locs rfl); (case c2 => exact rfl); (case c3 => exact rfl); (case c4 => exact rfl))
  intro g L' h₁
  revert B F XB TB D hk N hps hfz hfo hfz8 hasc hlt hnl hrw hp1 hdp hu hret hexc
  exact hR g L' h₁
noncomputable def Q2 (cd : (Heap) × (Addr) × (Heap)) : Prop := stg.1  (cd.1) (cd.2.1) (cd.2.2)
@[irreducible] noncomputable def cd : (Heap) × (Addr) × (Heap) := eps (by (repeat' first | exact neW | exact neA | exact neS | refine neP ?_ ?_ | infer_instance)) Q2
@[irreducible] noncomputable def g : Heap := cd.1
@[irreducible] noncomputable def L' : Addr := cd.2.1
@[irreducible] noncomputable def h₁ : Heap := cd.2.2
theorem walk2 : stg.1 g L' h₁ := by
  intro B F XB TB D hk N hps hfz hfo hfz8 hasc hlt hnl hrw hp1 hdp hu hret hexc F' N' B' X' T' GS D'
  have hL0 : s.heap.get? L' = none := by
    cases hq : s.heap.get? L' with
    | none => rfl
    | some o =>
      have := GS _ _ hq (by simpa using fun z => (N' _ (.head _)).2.1 z.symm)
      rw [kts_self F'] at this; cases this
  have hgfz : g.get? fz = some fo := GS _ _ hfz (by simpa using hfz8)
  k_steps
  k_dflt (refine index3_or rfl ?_ ?_)
  · intro hocc h' tk e hx
    k_dflt (refine catch_B (X := "ValueError") (T' := "ValueError") B' F' N' D' XB TB (PresX.refl.of_keep hx.keeps) (Y := []) (fun b q => nomatch q) (.inl (exc0_of hx)) ?c1 ?c2 ?c3 ?c4 ?c5 ?c6 ?_; (case c1 => k_is); (case c2 => decide +kernel); (case c3 => decide +kernel); (case c4 => rw [isSubtype_type]; kernel_rfl); (case c5 => rw [isSubtype_type]; kernel_rfl); (case c6 => rw [isSubtype_type]; kernel_rfl))
    have he8 : e ≠ 80 := fun z => by
      have := hx.new
      have h8 := (N' _ (.head _)).1
      rw [z] at this; rw [this] at h8; cases h8
    have hge : g.get? e = none := kts_none F'.keep hx.new
    have heL : e ≠ L' := fun z => by
      obtain ⟨o, es, n, ho, _⟩ := F'.ns
      have := hx.new
      rw [z] at this; rw [this] at ho; cases ho
    clear F' N'
    intro h2 g2 P2 x2 TT F2 B2 D2 X2 T2 NN2
    obtain ⟨oe, ve, Tb, oT, ts, heo, hecls, hed, hesz, hev2, hev1, hTe, hTo, hTd, hts3, hen, hTn, hT1⟩ := id x2
    have N2 : News g2 L' h2 [(80, tabObj ps), (e, oe)] := by
      intro q hq
      rcases List.mem_cons.mp hq with rfl | hq
      · exact NN2 _ (.head _) (fun z => nomatch z)
      · obtain rfl := List.mem_singleton.mp hq
        exact ⟨heo, heL, TT.none_ _ hge⟩
    clear NN2 x2 P2
    k_steps
    have O : OwnCls (Str.ofString "TOMLDecodeError") 68 [.type "ValueError", .type "Exception", .type "BaseException", .type "object"] "ValueError.__new__" mg g2 := own_of_in X2 (topRead_of T2) (by k_is) (by k_exc)
    obtain ⟨tl, N5, nm, q, bs, hdct, sn, sub, ab, col, dd, k0, k1, k2, k3, k5, mN, hC, hN, hni, TT5⟩ := O.obj
    k_dflt (refine exec_raise_from hC (TT5.hasType PySem.F.excBase_ValueError.hasBase) rfl ?_)
    k_steps
    refine Halt.out ?_
    have P3 := presX_turn GS TT (by k_asm) (by k_asm) (.head _)
    have hl : (Str.empty ++ Str.ofString "Expected " ++ reprText word).length ≤ 100 := by
      have e1 : (Str.ofString "Expected ").length = 9 := by decide +kernel
      have e3 : Str.empty.length = 0 := rfl
      simp only [Str.length_append]
      omega
    k_dflt (refine suff_c B2 (by k_asm) X2 T2 rfl (news_head (by k_asm)) (tabPs_up hps P3) hlt hnl hl (by omega) (by omega) (by ktr_room) (by ktr_units) ?_)
    intro e9 t9 u9 r9 h9 tk9 he9 ht9 hne9 hnt9 hp9 hT9
    refine ⟨e9, t9, oe, ve, rfl, hp9 68 _ (by decide) (Fr.keep (by k_asm) _ _ hC), he9, ?_, hp9 e _ ?_ (News.get (by k_asm) (a := e) (by exact .tail _ (.head _))), hed, hev2, ?_⟩
    · intro z
      have := News.get (by k_asm) (a := e) (by exact .tail _ (.head _))
      rw [z, this] at hne9; cases hne9
    · exact he8
    intro h10 hoth hne10
    k_dflt (refine raise_end B2 (by k_asm) (by k_asm) (.head _) P3 ?_ hp9 hT9 hne9 he9 hoth hne10 rfl rfl ?_ rfl rfl ?_)
    · exact hL0
    · simp
    · intro h11 P11 x11 T11
      exact hexc _ _ _ _ (by unfold nextF; rw [hocc]) P11 x11 T11
  · intro k r hocc
    k_steps
    refine fz_method (Fr.keep (by k_asm) _ _ hgfz) hfo ?_
    k_steps
    refine fz_isdisjoint rfl (Fr.keep (by k_asm) _ _ hgfz) hfo ?_ ?_
    · exact slice_ascii hasc (occ_cons hocc).1 (by have := (occ_cons hocc).2; omega)
    intro h3 tk3 k3
    have F3 := fr_keep (by k_asm) k3
    have N3 := news_keep (by k_asm) k3
    clear k3
    dsimp only at F3 N3
    k_steps
    · refine Halt.out ?_
      rename_i hdis
      have hdot : ∃ i, place ≤ i ∧ i < text.length ∧ text.cps[i]? = some 46 := by
        exact slice_dot (occ_cons hocc).1 (by have := (occ_cons hocc).2; omega) hdis
      have hpl : place < text.length := by
        obtain ⟨i, h1, h2, _⟩ := hdot
        omega
      refine While_inv2 (fun k₁ m₁ news₁ => Pk1 fun (j : Nat) => Al7 (IntIs (m₁ (Str.ofString "pos")) j) (m₁ (Str.ofString "src") = some (.str text t0)) (m₁ (Str.ofString "error_on") = some (.ref fz)) (news₁ = [(80, tabObj ps)]) (j < text.length) ((∃ i, j ≤ i ∧ i < text.length ∧ text.cps[i]? = some 46)) (k₁ = text.length - j)) (n₀ := text.length - place) (by k_asm) (by k_asm) ?_ ?_
      · exact ⟨place, ⟨t1, rfl⟩, rfl, rfl, rfl, hpl, hdot, rfl⟩
      rintro k₁ m₁ news₁ h₂ tk₂ F₂ N₂ ⟨j, ⟨t₁, hm1⟩, hm2, hm3, rfl, hj, hd, hk1⟩
      k_steps
      refine fz_notIn (Fr.keep (by k_asm) _ _ hgfz) hfo ?_
      k_steps
      · refine Halt.out ?_
        have P3 := presX_turn (fs := frs (envX cn cs L a ccd cl :: outer)) GS KtsTurn.refl (by k_asm) (by k_asm) (.head _)
        have O : OwnCls (Str.ofString "TOMLDecodeError") 68 [.type "ValueError", .type "Exception", .type "BaseException", .type "object"] "ValueError.__new__" mg g := own_of_in X' (topRead_of T') (by k_is) (by k_exc)
        obtain ⟨tl, N5, nm, q, bs, hdct, sn, sub, ab, col, dd, k0, k1, k2, k3, k5, mN, hC, hN, hni, TT5⟩ := O.obj
        have hit : Txt.item text (j : Int) = Str.ofString "." := by assumption
        have hrl : (reprText (Txt.item text (j : Int))).length ≤ 40 := by rw [hit]; decide +kernel
        k_dflt (refine exec_raise hC (TT5.hasType PySem.F.excBase_ValueError.hasBase) rfl ?_)
        k_steps
        refine Halt.out ?_
        have hl : (Str.empty ++ Str.ofString "Found invalid character " ++ reprText (Txt.item text (j : Int))).length ≤ 100 := by
          have e1 : (Str.ofString "Found invalid character ").length = 24 := by decide +kernel
          have e3 : Str.empty.length = 0 := rfl
          simp only [Str.length_append]
          omega
        k_dflt (refine suff_c B' (by k_asm) X' T' rfl (by k_asm) (tabPs_up hps P3) hlt hnl hl (by omega) (by omega) (by ktr_room) (by ktr_units) ?_)
        intro e9 t9 u9 r9 h9 tk9 he9 ht9 hne9 hnt9 hp9 hT9
        refine ⟨e9, t9, rfl, hp9 68 _ (by decide) (Fr.keep (by k_asm) _ _ hC), he9, ?_⟩
        k_dflt (refine raise_end B' (by k_asm) (by k_asm) (.head _) P3 hL0 hp9 hT9 hne9 he9 (fun _ _ => rfl) he9 rfl rfl ?_ rfl rfl ?_)
        · simp
        · intro h11 P11 x11 T11
          exact hexc _ _ _ _ (by unfold nextF; rw [hocc]; dsimp only; rw [if_pos hdis]) P11 x11 T11
      · have hno : ¬ Txt.item text (j : Int) = Str.ofString "." := by assumption
        have hd' : ∃ i, j + 1 ≤ i ∧ i < text.length ∧ text.cps[i]? = some 46 := by
          obtain ⟨i, h1, h2, h3⟩ := hd
          refine ⟨i, ?_, h2, h3⟩
          rcases Nat.lt_or_ge j i with z | z
          · exact z
          · have : i = j := by omega
            subst this
            exact absurd (by rw [dot_is]; exact PyProof.Rows.item_meets (by omega) (by simpa using h3)) hno
        have hj' : j + 1 < text.length := by
          obtain ⟨i, h1, h2, _⟩ := hd'
          omega
        k_steps
        refine ws2_next (text.length - (j + 1)) (by k_asm) (by k_asm) (by omega) ?_
        exact ⟨j + 1, .of rfl (by omega), hm2, hm3, rfl, hj', hd', rfl⟩
    · refine hret k _ _ _ ?_ ?_
      · unfold nextF
        rw [hocc]
        rename_i hdis
        dsimp only
        rw [if_neg (by rw [hdis]; exact Bool.false_ne_true)]
      · intro b o hb
        by_cases h8 : b = 80
        · subst h8
          rw [(N _ (.head _)).1] at hb
          cases hb
          exact (N3 _ (.head _)).1
        · exact F3.keep _ _ (GS _ _ hb (by simpa using h8))
theorem q2 : Q2 cd := by
  have h := walk2
  unfold g L' h₁ at h
  exact h
theorem all2 : ∀ x, Q2 x := by
  have h := q2
  unfold cd at h
  exact eps_all h
theorem walk : PP (cc.1) (cc.2.1) (cc.2.2.1) (cc.2.2.2.1) mg (cc.2.2.2.2.2.1) (cc.2.2.2.2.2.2.1) (cc.2.2.2.2.2.2.2.1) (cc.2.2.2.2.2.2.2.2.1) cn cs L a ccd cl outer (cc.2.2.2.2.2.2.2.2.2.2.2.2.2.2.2.2.1) (cc.2.2.2.2.2.2.2.2.2.2.2.2.2.2.2.2.2.1) (cc.2.2.2.2.2.2.2.2.2.2.2.2.2.2.2.2.2.2.1) (cc.2.2.2.2.2.2.2.2.2.2.2.2.2.2.2.2.2.2.2.1) s (cc.2.2.2.2.2.2.2.2.2.2.2.2.2.2.2.2.2.2.2.2.2.1) (cc.2.2.2.2.2.2.2.2.2.2.2.2.2.2.2.2.2.2.2.2.2.2.1) text word place t0 t1 (cc.2.2.2.2.2.2.2.2.2.2.2.2.2.2.2.2.2.2.2.2.2.2.2.2.2.2.2.2.1) fz fo ps := stg.2 fun g L' h₁ => all2 (g, L', h₁) 
theorem q : QQ cc := by
  have h := walk
  unfold mg cn cs L a ccd cl outer s text word place t0 t1 fz fo ps at h
  exact h
theorem all : ∀ x, QQ x := by
  have h := q
  unfold cc at h
  exact eps_all h
end skip_c_k
theorem skip_c {w : World} {p : Program} {loose : List Str} {mean : ExcName → Option Value} {mg : Str → Option Value} {mb : Str → Option Value} {dp : Nat} {un : Nat} {gd : Option (List Code)} {cn : Str} {cs : Scope} {L : Addr} {a : Addr} {ccd : Value} {cl : List (Str × Addr)} {outer : List Env} {A₀ : Around} {base : Heap} {h₀ : Heap} {m : Str → Option Value} {s : Shared} {Q : Value → Shared → Prop} {E : Value → Shared → Prop} {text : Str} {word : Str} {place : Nat} {t0 : Tok} {t1 : Tok} {t2 : Tok} {fz : Addr} {fo : Obj} {ps : Array Value} (B : Below A₀ base outer h₀) (F : Fr h₀ L s.heap m) (XB : (hd35.heap_39 w.params).In base) (TB : Top p loose mean mg mb base) (D : KtsDicts (frs outer) h₀) (hk : cs.kind = .function) (N : News h₀ L s.heap [(80, tabObj ps)]) (hps : TabPs s.heap ps) (hfz : s.heap.get? fz = some fo) (hfo : FzObj fo) (hfz8 : fz ≠ 80) (hasc : text.cps.all (· < 128) = true) (hlt : text.length ≤ 9) (hnl : 10 ∉ text.cps.toList) (hrw : (reprText word).length ≤ 40) (hp1 : place ≤ text.length) (hdp : dp + 6 < recursionLimit) (hu : un + 48 < cLine) (hret : ∀ (k : Nat) t h' tk', nextF text place word = k → (∀ b o, s.heap.get? b = some o → h'.get? b = some o) → Q (.int k t) { s with heap := h', toks := tk' }) (hexc : ∀ e v2 h' tk', nextF text place word = -1 → PresX (frs (envX cn cs L a ccd cl :: outer)) [80] s.heap h' → Exc s.heap h' e (.ref 68) v2 .none → Tab80 h' → E (.ref e) { s with heap := h', toks := tk' }) : wpAny (model PySem.Challenge.rw_om0035_01.row.prog w) (MTop none dp un gd cn cs L a ccd cl outer) (call (.ref 78) [.str text t0, .int place t1, .str word t2] [(Str.ofString "error_on", .ref fz), (Str.ofString "error_on_eof", .bool true)]) Q E s :=
  skip_c_k.all (w, p, loose, mean, mg, mb, dp, un, gd, cn, cs, L, a, ccd, cl, outer, A₀, base, h₀, m, s, Q, E, text, word, place, t0, t1, t2, fz, fo, ps) B F XB TB D hk N hps hfz hfo hfz8 hasc hlt hnl hrw hp1 hdp hu hret hexc
end
end Mine
end

/- D3 -/
section
open PySem PySem.W PyProof.Rows PySem.Calls PySem.Spec
set_option maxRecDepth 100000
set_option maxHeartbeats 4000000
namespace Mine
theorem fillD3 (w : World) (h : Heap) : (hd35.heap_39 w.params).In h → model PySem.Challenge.rw_om0035_01.row.prog w = model PySem.Challenge.rw_om0035_01.row.prog w := by
  k_fill
  intro _
  rfl
theorem fr_hide {g h : Heap} {L : Addr} {m : Str → Option Value} {X : List Addr} (F : Fr g L h m) (hX : ∀ b ∈ X, g.get? b = none ∧ b ≠ L) : Fr g L (hideAll h X) m := by
  obtain ⟨oL, es, ep, hL, hLr⟩ := F.ns
  refine ⟨⟨oL, es, ep, hideAll_get _ hL (fun q => (hX _ q).2 rfl), hLr⟩, fun b o e => hideAll_get _ (F.keep b o e) (fun q => by rw [(hX _ q).1] at e; cases e), F.above⟩
theorem tabPs_up0 {fs : List Addr} {H h : Heap} {ps : Array Value} (x : TabPs H ps) (P : PresX fs [] H h) : TabPs h ps := by
  rcases x with rfl | ⟨c9, oc, vs, t, rfl, hoc, hd, hv, hne⟩
  · exact .inl rfl
  · obtain ⟨sl, hs⟩ := P.pres.up hoc (fun z => nomatch z)
    exact .inr ⟨c9, _, vs, t, rfl, hs, hd, hv, hne⟩
theorem presX_hide {fs X : List Addr} {h : Heap} : PresX fs [] (hideAll h X) h :=
  ⟨PresF.of_keep fun b o q => of_hideAll _ q, fun b q => by
    cases hh : (hideAll h X).get? b with
    | none => rfl
    | some o => rw [of_hideAll _ hh] at q; cases q⟩
/-- the ground for a catch of what a call raised that went by the table 80 -/
theorem catch_80 {K : Frag} {p : Program} {loose : List Str} {mean : ExcName → Option Value} {mg mb : Str → Option Value} {A₀ : Around} {base g H h : Heap} {outer : List Env} {L a e : Addr} {m : Str → Option Value} {name : Str} {scope : Scope} {cd cls v2 : Value} {ps : Array Value}
    (B : Below A₀ base outer g) (F : Fr g L H m) (N : News g L H [(80, tabObj ps)]) (D : KtsDicts (frs outer) g) (XB : K.In base) (TB : Top p loose mean mg mb base)
    (P : PresX (frs (envOf name scope L a cd :: outer)) [80] H h) (x : Exc H h e cls v2 .none) (T : Tab80 h) :
    Pk3 fun g1 H2 ps' => Al8 (KtsTurn (frs outer) g g1) (Fr g1 L H2 m) (Below A₀ base outer g1) (KtsDicts (frs outer) g1) (News g1 L H2 [(80, tabObj ps')]) (TabPs H2 ps') (PresX (frs (envOf name scope L a cd :: outer)) [] H2 h) (Exc H2 h e cls v2 .none) := by
  have hY : ∀ b ∈ [(80 : Addr)], g.get? b = none ∧ b ≠ L := fun b hb => by
    obtain rfl := List.mem_singleton.mp hb
    exact ⟨(N _ (.head _)).2.2, (N _ (.head _)).2.1⟩
  obtain ⟨g1, TT1, F1, B1, D1, X1, T1, _⟩ := catch_ground (KF := K) B F N D XB TB P hY
  obtain ⟨oe, vs, Tb, oT, ts, x1, x2, x3, x4, x5, x6, x7, x8, x9, x10, x11, x12, x13⟩ := x
  have hgn : ∀ b, H.get? b = none → g1.get? b = none ∧ b ≠ L := fun b q => ⟨TT1.none_ _ (kts_none F.keep q), fun z => by
    obtain ⟨oL, es, ep, hL, _⟩ := F.ns
    rw [z, hL] at q; cases q⟩
  have n8 : ∀ b, H.get? b = none → (80 : Addr) ≠ b := fun b q z => by
    have := (N _ (.head _)).1
    rw [z, q] at this; cases this
  have hX : ∀ b ∈ [e, Tb], g1.get? b = none ∧ b ≠ L := fun b hb => by
    rcases List.mem_cons.mp hb with rfl | hb
    · exact hgn _ x11
    · obtain rfl := List.mem_singleton.mp hb
      exact hgn _ x12
  obtain ⟨ps', h8, hps'⟩ := T
  refine ⟨g1, hideAll h [e, Tb], ps', TT1, fr_hide F1 hX, B1, D1, fun q hq => ?_, ?_, presX_hide, ⟨oe, vs, Tb, oT, ts, x1, x2, x3, x4, x5, x6, x7, x8, x9, x10, hideAll_none _ (.head _), hideAll_none _ (.tail _ (.head _)), x13⟩⟩
  · obtain rfl := List.mem_singleton.mp hq
    exact ⟨hideAll_get _ h8 (by simpa using ⟨n8 _ x11, n8 _ x12⟩), (N _ (.head _)).2.1, TT1.none_ _ (N _ (.head _)).2.2⟩
  · rcases hps' with rfl | ⟨c9, oc, vs9, t9, rfl, hoc, hd9, hv9, hne9⟩
    · exact .inl rfl
    · refine .inr ⟨c9, oc, vs9, t9, rfl, hideAll_get _ hoc ?_, hd9, hv9, hne9⟩
      intro hm
      rcases List.mem_cons.mp hm with rfl | hm
      · rw [x1] at hoc; cases hoc
        rw [x3] at hd9; cases hd9
        rw [x6] at hv9; cases hv9
      · obtain rfl := List.mem_singleton.mp hm
        rw [x8] at hoc; cases hoc
        rw [x9] at hd9; cases hd9
        exact x13 _ _ hv9
section
namespace next_c_k
noncomputable def PP (w : World) (p : Program) (loose : List Str) (mean : ExcName → Option Value) (mg : Str → Option Value) (mb : Str → Option Value) (dp : Nat) (un : Nat) (gd : Option (List Code)) (cn : Str) (cs : Scope) (L : Addr) (a : Addr) (ccd : Value) (cl : List (Str × Addr)) (outer : List Env) (A₀ : Around) (base : Heap) (h₀ : Heap) (m : Str → Option Value) (s : Shared) (Q : Value → Shared → Prop) (E : Value → Shared → Prop) (text : Str) (word : Str) (place : Nat) (t0 : Tok) (t1 : Tok) (t2 : Tok) (ps : Array Value) : Prop := ∀ (B : Below A₀ base outer h₀) (F : Fr h₀ L s.heap m) (XB : (hd35.heap_39 w.params).In base) (TB : Top p loose mean mg mb base) (D : KtsDicts (frs outer) h₀) (hk : cs.kind = .function) (N : News h₀ L s.heap [(80, tabObj ps)]) (hps : TabPs s.heap ps) (hasc : text.cps.all (· < 128) = true) (hlt : text.length ≤ 9) (hnl : 10 ∉ text.cps.toList) (hrw : (reprText word).length ≤ 40) (hp1 : place ≤ text.length) (hdp : dp + 7 < recursionLimit) (hu : un + 56 < cLine) (hret : ∀ t h' tk', PresX (frs (envX cn cs L a ccd cl :: outer)) [80] s.heap h' → Tab80 h' → Q (.int (nextF text place word) t) { s with heap := h', toks := tk' }), wpAny (model PySem.Challenge.rw_om0035_01.row.prog w) (MTop none dp un gd cn cs L a ccd cl outer) (call (.ref 109) [.str text t0, .int place t1, .str word t2]) Q E s
noncomputable def QQ (cc : (World) × (Program) × (List Str) × (ExcName → Option Value) × (Str → Option Value) × (Str → Option Value) × (Nat) × (Nat) × (Option (List Code)) × (Str) × (Scope) × (Addr) × (Addr) × (Value) × (List (Str × Addr)) × (List Env) × (Around) × (Heap) × (Heap) × (Str → Option Value) × (Shared) × (Value → Shared → Prop) × (Value → Shared → Prop) × (Str) × (Str) × (Nat) × (Tok) × (Tok) × (Tok) × (Array Value)) : Prop := PP (cc.1) (cc.2.1) (cc.2.2.1) (cc.2.2.2.1) (cc.2.2.2.2.1) (cc.2.2.2.2.2.1) (cc.2.2.2.2.2.2.1) (cc.2.2.2.2.2.2.2.1) (cc.2.2.2.2.2.2.2.2.1) (cc.2.2.2.2.2.2.2.2.2.1) (cc.2.2.2.2.2.2.2.2.2.2.1) (cc.2.2.2.2.2.2.2.2.2.2.2.1) (cc.2.2.2.2.2.2.2.2.2.2.2.2.1) (cc.2.2.2.2.2.2.2.2.2.2.2.2.2.1) (cc.2.2.2.2.2.2.2.2.2.2.2.2.2.2.1) (cc.2.2.2.2.2.2.2.2.2.2.2.2.2.2.2.1) (cc.2.2.2.2.2.2.2.2.2.2.2.2.2.2.2.2.1) (cc.2.2.2.2.2.2.2.2.2.2.2.2.2.2.2.2.2.1) (cc.2.2.2.2.2.2.2.2.2.2.2.2.2.2.2.2.2.2.1) (cc.2.2.2.2.2.2.2.2.2.2.2.2.2.2.2.2.2.2.2.1) (cc.2.2.2.2.2.2.2.2.2.2.2.2.2.2.2.2.2.2.2.2.1) (cc.2.2.2.2.2.2.2.2.2.2.2.2.2.2.2.2.2.2.2.2.2.1) (cc.2.2.2.2.2.2.2.2.2.2.2.2.2.2.2.2.2.2.2.2.2.2.1) (cc.2.2.2.2.2.2.2.2.2.2.2.2.2.2.2.2.2.2.2.2.2.2.2.1) (cc.2.2.2.2.2.2.2.2.2.2.2.2.2.2.2.2.2.2.2.2.2.2.2.2.1) (cc.2.2.2.2.2.2.2.2.2.2.2.2.2.2.2.2.2.2.2.2.2.2.2.2.2.1) (cc.2.2.2.2.2.2.2.2.2.2.2.2.2.2.2.2.2.2.2.2.2.2.2.2.2.2.1) (cc.2.2.2.2.2.2.2.2.2.2.2.2.2.2.2.2.2.2.2.2.2.2.2.2.2.2.2.1) (cc.2.2.2.2.2.2.2.2.2.2.2.2.2.2.2.2.2.2.2.2.2.2.2.2.2.2.2.2.1) (cc.2.2.2.2.2.2.2.2.2.2.2.2.2.2.2.2.2.2.2.2.2.2.2.2.2.2.2.2.2)
@[irreducible] noncomputable def cc : (World) × (Program) × (List Str) × (ExcName → Option Value) × (Str → Option Value) × (Str → Option Value) × (Nat) × (Nat) × (Option (List Code)) × (Str) × (Scope) × (Addr) × (Addr) × (Value) × (List (Str × Addr)) × (List Env) × (Around) × (Heap) × (Heap) × (Str → Option Value) × (Shared) × (Value → Shared → Prop) × (Value → Shared → Prop) × (Str) × (Str) × (Nat) × (Tok) × (Tok) × (Tok) × (Array Value) := eps (by (repeat' first | exact neW | exact neA | exact neS | refine neP ?_ ?_ | infer_instance)) QQ
@[irreducible] noncomputable def w : World := cc.1
@[irreducible] noncomputable def cn : Str := cc.2.2.2.2.2.2.2.2.2.1
@[irreducible] noncomputable def cs : Scope := cc.2.2.2.2.2.2.2.2.2.2.1
@[irreducible] noncomputable def L : Addr := cc.2.2.2.2.2.2.2.2.2.2.2.1
@[irreducible] noncomputable def a : Addr := cc.2.2.2.2.2.2.2.2.2.2.2.2.1
@[irreducible] noncomputable def ccd : Value := cc.2.2.2.2.2.2.2.2.2.2.2.2.2.1
@[irreducible] noncomputable def cl : List (Str × Addr) := cc.2.2.2.2.2.2.2.2.2.2.2.2.2.2.1
@[irreducible] noncomputable def outer : List Env := cc.2.2.2.2.2.2.2.2.2.2.2.2.2.2.2.1
@[irreducible] noncomputable def ps : Array Value := cc.2.2.2.2.2.2.2.2.2.2.2.2.2.2.2.2.2.2.2.2.2.2.2.2.2.2.2.2.2
noncomputable def stg : PSigma fun R : (Heap) → (Addr) → (Heap) → Prop => (∀ g L' h₁, R g L' h₁) → PP w (cc.2.1) (cc.2.2.1) (cc.2.2.2.1) (cc.2.2.2.2.1) (cc.2.2.2.2.2.1) (cc.2.2.2.2.2.2.1) (cc.2.2.2.2.2.2.2.1) (cc.2.2.2.2.2.2.2.2.1) cn cs L a ccd cl outer (cc.2.2.2.2.2.2.2.2.2.2.2.2.2.2.2.2.1) (cc.2.2.2.2.2.2.2.2.2.2.2.2.2.2.2.2.2.1) (cc.2.2.2.2.2.2.2.2.2.2.2.2.2.2.2.2.2.2.1) (cc.2.2.2.2.2.2.2.2.2.2.2.2.2.2.2.2.2.2.2.1) (cc.2.2.2.2.2.2.2.2.2.2.2.2.2.2.2.2.2.2.2.2.1) (cc.2.2.2.2.2.2.2.2.2.2.2.2.2.2.2.2.2.2.2.2.2.1) (cc.2.2.2.2.2.2.2.2.2.2.2.2.2.2.2.2.2.2.2.2.2.2.1) (cc.2.2.2.2.2.2.2.2.2.2.2.2.2.2.2.2.2.2.2.2.2.2.2.1) (cc.2.2.2.2.2.2.2.2.2.2.2.2.2.2.2.2.2.2.2.2.2.2.2.2.1) (cc.2.2.2.2.2.2.2.2.2.2.2.2.2.2.2.2.2.2.2.2.2.2.2.2.2.1) (cc.2.2.2.2.2.2.2.2.2.2.2.2.2.2.2.2.2.2.2.2.2.2.2.2.2.2.1) (cc.2.2.2.2.2.2.2.2.2.2.2.2.2.2.2.2.2.2.2.2.2.2.2.2.2.2.2.1) (cc.2.2.2.2.2.2.2.2.2.2.2.2.2.2.2.2.2.2.2.2.2.2.2.2.2.2.2.2.1) ps := by
  refine' PSigma.mk _ (fun hR => ?_)
  rotate_left
  unfold PP
  intro B F XB TB D hk N hps hasc hlt hnl hrw hp1 hdp hu hret
  w_on
  refine wpAny_call ?_
  k_dflt (refine' enterM B F XB TB D N rfl rfl hk ?k6 ?k7 ?k8 ?k9 ?kB ?_ ?c2 ?c3 ?c4 ?c5; (case k6 => k_is); (case k7 => k_is); (case k8 => ktr_room); (case k9 => exact BindsTo.of_eq rfl); (case c5 => decide); (case kB => exact locs rfl); (case c2 => exact rfl); (case c3 => exact rfl); (case c4 => exact rfl))
  intro g L' h₁
  revert B F XB TB D hk N hps hasc hlt hnl hrw hp1 hdp hu hret
  exact hR g L' h₁
noncomputable def Q2 (cd : (Heap) × (Addr) × (Heap)) : Prop := stg.1  (cd.1) (cd.2.1) (cd.2.2)
@[irreducible] noncomputable def cd : (Heap) × (Addr) × (Heap) := eps (by (repeat' first | exact neW | exact neA | exact neS | refine neP ?_ ?_ | infer_instance)) Q2
@[irreducible] noncomputable def g : Heap := cd.1
@[irreducible] noncomputable def L' : Addr := cd.2.1
@[irreducible] noncomputable def h₁ : Heap := cd.2.2
theorem walk2 : stg.1 g L' h₁ := by
  intro B F XB TB D hk N hps hasc hlt hnl hrw hp1 hdp hu hret F' N' B' X' T' GS D'
  k_steps
  k_dflt (refine call_frozen rfl ?_)
  intro fo h2 tk2 hfo hfz k2
  have F2 := fr_keep (by k_asm) k2
  have N2 := news_keep (by k_asm) k2
  dsimp only at F2 N2 hfz
  clear k2
  k_steps
  refine Halt.out ?_
  have hf8 : h₁.objs.size ≠ 80 := Nat.ne_of_gt (Heap.lt_size (N' _ (.head _)).1)
  have P2 := presX_turn (fs := frs (envX cn cs L a ccd cl :: outer)) GS KtsTurn.refl F2 N2 (.head _)
  k_dflt (refine skip_c B' F2 XB TB D' rfl N2 (tabPs_up hps P2) hfz hfo hf8 hasc hlt hnl hrw hp1 (by ktr_room) (by ktr_units) ?_ ?_)
  · intro k t h3 tk3 hk3 keep3
    have F3 := fr_keep F2 keep3
    have N3 := news_keep N2 keep3
    clear F2 N2 keep3
    k_steps
    have P3 := presX_turn (fs := frs (envX cn cs L a ccd cl :: outer)) GS KtsTurn.refl F3 N3 (.head _)
    have := hret t _ tk3 P3 ⟨ps, (N3 _ (.head _)).1, tabPs_up hps P3⟩
    rw [hk3] at this
    exact this
  · intro e v2 h3 tk3 hn3 P3 x3 T3
    obtain ⟨g1, H2, ps', TT1, F1, B1, D1, N1, hps1, P1, x1⟩ := catch_80 (K := hd35.heap_39 w.params) B' F2 N2 D' XB TB P3 x3 T3
    clear F2 N2
    k_dflt (refine catch_O B1 F1 N1 D1 XB TB P1 (fun b q => nomatch q) (.inr x1) ?c1 ?c2 ?_; (case c1 => k_is); (case c2 => kts_isx))
    intro h5 g5 P5 x5 TT5 F5 B5 D5 X5 T5 NN5
    have N5 : News g5 L' h5 [(80, tabObj ps')] := fun q hq => NN5 q hq (fun z => nomatch z)
    clear NN5 F1 N1
    k_steps
    have P6 := presX_turn GS (TT1.trans TT5) F5 N5 (.head _)
    have hh := fun t tk => hret t h5 tk P6 ⟨ps', (N5 _ (.head _)).1, tabPs_up0 hps1 P5⟩
    rw [hn3] at hh
    exact hh _ _
theorem q2 : Q2 cd := by
  have h := walk2
  unfold g L' h₁ at h
  exact h
theorem all2 : ∀ x, Q2 x := by
  have h := q2
  unfold cd at h
  exact eps_all h
theorem walk : PP w (cc.2.1) (cc.2.2.1) (cc.2.2.2.1) (cc.2.2.2.2.1) (cc.2.2.2.2.2.1) (cc.2.2.2.2.2.2.1) (cc.2.2.2.2.2.2.2.1) (cc.2.2.2.2.2.2.2.2.1) cn cs L a ccd cl outer (cc.2.2.2.2.2.2.2.2.2.2.2.2.2.2.2.2.1) (cc.2.2.2.2.2.2.2.2.2.2.2.2.2.2.2.2.2.1) (cc.2.2.2.2.2.2.2.2.2.2.2.2.2.2.2.2.2.2.1) (cc.2.2.2.2.2.2.2.2.2.2.2.2.2.2.2.2.2.2.2.1) (cc.2.2.2.2.2.2.2.2.2.2.2.2.2.2.2.2.2.2.2.2.1) (cc.2.2.2.2.2.2.2.2.2.2.2.2.2.2.2.2.2.2.2.2.2.1) (cc.2.2.2.2.2.2.2.2.2.2.2.2.2.2.2.2.2.2.2.2.2.2.1) (cc.2.2.2.2.2.2.2.2.2.2.2.2.2.2.2.2.2.2.2.2.2.2.2.1) (cc.2.2.2.2.2.2.2.2.2.2.2.2.2.2.2.2.2.2.2.2.2.2.2.2.1) (cc.2.2.2.2.2.2.2.2.2.2.2.2.2.2.2.2.2.2.2.2.2.2.2.2.2.1) (cc.2.2.2.2.2.2.2.2.2.2.2.2.2.2.2.2.2.2.2.2.2.2.2.2.2.2.1) (cc.2.2.2.2.2.2.2.2.2.2.2.2.2.2.2.2.2.2.2.2.2.2.2.2.2.2.2.1) (cc.2.2.2.2.2.2.2.2.2.2.2.2.2.2.2.2.2.2.2.2.2.2.2.2.2.2.2.2.1) ps := stg.2 fun g L' h₁ => all2 (g, L', h₁) 
theorem q : QQ cc := by
  have h := walk
  unfold w cn cs L a ccd cl outer ps at h
  exact h
theorem all : ∀ x, QQ x := by
  have h := q
  unfold cc at h
  exact eps_all h
end next_c_k
theorem next_c {w : World} {p : Program} {loose : List Str} {mean : ExcName → Option Value} {mg : Str → Option Value} {mb : Str → Option Value} {dp : Nat} {un : Nat} {gd : Option (List Code)} {cn : Str} {cs : Scope} {L : Addr} {a : Addr} {ccd : Value} {cl : List (Str × Addr)} {outer : List Env} {A₀ : Around} {base : Heap} {h₀ : Heap} {m : Str → Option Value} {s : Shared} {Q : Value → Shared → Prop} {E : Value → Shared → Prop} {text : Str} {word : Str} {place : Nat} {t0 : Tok} {t1 : Tok} {t2 : Tok} {ps : Array Value} (B : Below A₀ base outer h₀) (F : Fr h₀ L s.heap m) (XB : (hd35.heap_39 w.params).In base) (TB : Top p loose mean mg mb base) (D : KtsDicts (frs outer) h₀) (hk : cs.kind = .function) (N : News h₀ L s.heap [(80, tabObj ps)]) (hps : TabPs s.heap ps) (hasc : text.cps.all (· < 128) = true) (hlt : text.length ≤ 9) (hnl : 10 ∉ text.cps.toList) (hrw : (reprText word).length ≤ 40) (hp1 : place ≤ text.length) (hdp : dp + 7 < recursionLimit) (hu : un + 56 < cLine) (hret : ∀ t h' tk', PresX (frs (envX cn cs L a ccd cl :: outer)) [80] s.heap h' → Tab80 h' → Q (.int (nextF text place word) t) { s with heap := h', toks := tk' }) : wpAny (model PySem.Challenge.rw_om0035_01.row.prog w) (MTop none dp un gd cn cs L a ccd cl outer) (call (.ref 109) [.str text t0, .int place t1, .str word t2]) Q E s :=
  next_c_k.all (w, p, loose, mean, mg, mb, dp, un, gd, cn, cs, L, a, ccd, cl, outer, A₀, base, h₀, m, s, Q, E, text, word, place, t0, t1, t2, ps) B F XB TB D hk N hps hasc hlt hnl hrw hp1 hdp hu hret
end
end Mine
end

/- B2 -/
section
open PySem PySem.W PyProof.Rows PySem.SeqAt PySem.MeetsSeq
set_option maxRecDepth 100000
set_option maxHeartbeats 4000000
namespace Mine
theorem fillB2 (w : World) (h : Heap) : (hd35.heap_39 w.params).In h → model PySem.Challenge.rw_om0035_01.row.prog w = model PySem.Challenge.rw_om0035_01.row.prog w := by
  k_fill
  intro _
  rfl
noncomputable def kid (ds : List Ent) (c : Nat) : Nat := if c + 1 < ds.length ∧ entLt (ds.getD c (0, 0, 0)) (ds.getD (c + 1) (0, 0, 0)) = false then c + 1 else c
noncomputable def upGo (ds : List Ent) (pos : Nat) : List Ent × Nat :=
  if h : 2 * pos + 1 < ds.length then upGo (ds.set pos (ds.getD (kid ds (2 * pos + 1)) (0, 0, 0))) (kid ds (2 * pos + 1)) else (ds, pos)
termination_by ds.length - pos
decreasing_by
  simp only [List.length_set]
  unfold kid
  split <;> omega
noncomputable def upF (ds : List Ent) (pos : Nat) : List Ent := downF ((upGo ds pos).1.set (upGo ds pos).2 (ds.getD pos (0, 0, 0))) pos (upGo ds pos).2

theorem pres_fr {h₀ h h' : Heap} {L hp : Addr} {m : Str → Option Value} {o : Obj} (F : Fr h₀ L h m) (N : News h₀ L h [(hp, o)]) (P : Pres hp h h') : Fr h₀ L h' m := by
  have z := N _ (.head _)
  obtain ⟨oL, a1, a2, hL, a3⟩ := F.ns
  refine ⟨⟨oL, a1, a2, P _ _ (Ne.symm z.2.1) hL, a3⟩, fun b x e => P _ _ (fun q => ?_) (F.keep b x e), F.above⟩
  have := z.2.2
  dsimp only at this
  rw [← q, e] at this
  cases this
theorem pres_news {h₀ h h' : Heap} {L hp : Addr} {o o' : Obj} (N : News h₀ L h [(hp, o)]) (e : h'.get? hp = some o') : News h₀ L h' [(hp, o')] := by
  have z := N _ (.head _)
  intro p hp'
  rw [List.mem_singleton] at hp'
  subst hp'
  exact ⟨e, z.2⟩
theorem kid_lt {ds : List Ent} {c : Nat} (h : c < ds.length) : kid ds c < ds.length := by unfold kid; split <;> omega
theorem kid_ge {ds : List Ent} {c : Nat} : c ≤ kid ds c := by unfold kid; split <;> omega
section
variable {prog : Program} {w : World} {A : Around} {E : Value → Shared → Prop} {s : Shared} {h₀ : Heap} {L D : Addr} {m : Str → Option Value} {news news' : List (Addr × Obj)} {vs : List Value} {n : Nat}
theorem len_at {Q : Value → Shared → Prop} (N : News h₀ L s.heap news) (hm : (D, listOf vs.toArray n) ∈ news) (hfit : vs.length < 2 ^ 20)
    (h : Q (.int vs.length (s.toks + 1)) { s with toks := s.toks + 1 + 1 }) : wpAny (model prog w) A (call (.builtin "len") [.ref D]) Q E s := by
  have hl : s.heap.IsList D vs.toArray := PySem.IsL.isList (n := n) (N _ hm).1
  exact PyProof.Rows.len_list hl (by rw [List.size_toArray]; omega) (by rw [List.size_toArray]; exact h)
theorem truthy_at {Q : Bool → Shared → Prop} (N : News h₀ L s.heap news) (hm : (D, listOf vs.toArray n) ∈ news) (hfit : vs.length < 2 ^ 20)
    (h : Q (decide (0 < vs.length)) { s with toks := s.toks + 1 + 1 }) : wpAny (model prog w) A (truthy (.ref D)) Q E s := by
  have hl : s.heap.IsList D vs.toArray := PySem.IsL.isList (n := n) (N _ hm).1
  refine wpAny_truthy_list hl (by rw [List.size_toArray]; omega) ?_
  have e : (!vs.toArray.isEmpty) = decide (0 < vs.length) := by
    cases vs with
    | nil => rfl
    | cons _ _ => simp
  rw [e]; exact h
end
section
local macro_rules | `(tactic| walk_at "subscriptTail Name Name ref int") => `(tactic| refine Mine.Halt.mk ?_)
namespace siftup_c_k
noncomputable def PP (w : World) (p : Program) (loose : List Str) (mean : ExcName → Option Value) (mg : Str → Option Value) (mb : Str → Option Value) (hd : Option Value) (dp : Nat) (un : Nat) (gd : Option (List Code)) (cn : Str) (cs : Scope) (L : Addr) (a : Addr) (ccd : Value) (cl : List (Str × Addr)) (outer : List Env) (A₀ : Around) (base : Heap) (h₀ : Heap) (m : Str → Option Value) (s : Shared) (Q : Value → Shared → Prop) (E : Value → Shared → Prop) (hp : Addr) (n : Nat) (vs : List Value) (ds : List Ent) (pos : Nat) (t : Tok) (hr : Heap) : Prop := ∀ (B : Below A₀ base outer h₀) (F : Fr h₀ L s.heap m) (X : (hd35.heap_39 w.params).In h₀) (T : Top p loose mean mg mb h₀) (hk : cs.kind = .function) (N : News h₀ L s.heap [(hp, listOf vs.toArray n)]) (hkr : KeepT hr s.heap) (hT : Tups hr vs ds) (hpos : pos < vs.length) (hlen : vs.length < 2 ^ 20) (hdp : dp + 2 < recursionLimit) (hu : un + 16 < cLine) (hret : ∀ vs' h' tk', Pres hp s.heap h' → h'.get? hp = some (listOf vs'.toArray n) → Tups hr vs' (upF ds pos) → vs'.length = vs.length → Q .none { s with heap := h', toks := tk' }), wpAny (model PySem.Challenge.rw_om0035_01.row.prog w) (MTop hd dp un gd cn cs L a ccd cl outer) (call (.ref 49) [.ref hp, .int pos t]) Q E s
noncomputable def QQ (cc : (World) × (Program) × (List Str) × (ExcName → Option Value) × (Str → Option Value) × (Str → Option Value) × (Option Value) × (Nat) × (Nat) × (Option (List Code)) × (Str) × (Scope) × (Addr) × (Addr) × (Value) × (List (Str × Addr)) × (List Env) × (Around) × (Heap) × (Heap) × (Str → Option Value) × (Shared) × (Value → Shared → Prop) × (Value → Shared → Prop) × (Addr) × (Nat) × (List Value) × (List Ent) × (Nat) × (Tok) × (Heap)) : Prop := PP (cc.1) (cc.2.1) (cc.2.2.1) (cc.2.2.2.1) (cc.2.2.2.2.1) (cc.2.2.2.2.2.1) (cc.2.2.2.2.2.2.1) (cc.2.2.2.2.2.2.2.1) (cc.2.2.2.2.2.2.2.2.1) (cc.2.2.2.2.2.2.2.2.2.1) (cc.2.2.2.2.2.2.2.2.2.2.1) (cc.2.2.2.2.2.2.2.2.2.2.2.1) (cc.2.2.2.2.2.2.2.2.2.2.2.2.1) (cc.2.2.2.2.2.2.2.2.2.2.2.2.2.1) (cc.2.2.2.2.2.2.2.2.2.2.2.2.2.2.1) (cc.2.2.2.2.2.2.2.2.2.2.2.2.2.2.2.1) (cc.2.2.2.2.2.2.2.2.2.2.2.2.2.2.2.2.1) (cc.2.2.2.2.2.2.2.2.2.2.2.2.2.2.2.2.2.1) (cc.2.2.2.2.2.2.2.2.2.2.2.2.2.2.2.2.2.2.1) (cc.2.2.2.2.2.2.2.2.2.2.2.2.2.2.2.2.2.2.2.1) (cc.2.2.2.2.2.2.2.2.2.2.2.2.2.2.2.2.2.2.2.2.1) (cc.2.2.2.2.2.2.2.2.2.2.2.2.2.2.2.2.2.2.2.2.2.1) (cc.2.2.2.2.2.2.2.2.2.2.2.2.2.2.2.2.2.2.2.2.2.2.1) (cc.2.2.2.2.2.2.2.2.2.2.2.2.2.2.2.2.2.2.2.2.2.2.2.1) (cc.2.2.2.2.2.2.2.2.2.2.2.2.2.2.2.2.2.2.2.2.2.2.2.2.1) (cc.2.2.2.2.2.2.2.2.2.2.2.2.2.2.2.2.2.2.2.2.2.2.2.2.2.1) (cc.2.2.2.2.2.2.2.2.2.2.2.2.2.2.2.2.2.2.2.2.2.2.2.2.2.2.1) (cc.2.2.2.2.2.2.2.2.2.2.2.2.2.2.2.2.2.2.2.2.2.2.2.2.2.2.2.1) (cc.2.2.2.2.2.2.2.2.2.2.2.2.2.2.2.2.2.2.2.2.2.2.2.2.2.2.2.2.1) (cc.2.2.2.2.2.2.2.2.2.2.2.2.2.2.2.2.2.2.2.2.2.2.2.2.2.2.2.2.2.1) (cc.2.2.2.2.2.2.2.2.2.2.2.2.2.2.2.2.2.2.2.2.2.2.2.2.2.2.2.2.2.2)
@[irreducible] noncomputable def cc : (World) × (Program) × (List Str) × (ExcName → Option Value) × (Str → Option Value) × (Str → Option Value) × (Option Value) × (Nat) × (Nat) × (Option (List Code)) × (Str) × (Scope) × (Addr) × (Addr) × (Value) × (List (Str × Addr)) × (List Env) × (Around) × (Heap) × (Heap) × (Str → Option Value) × (Shared) × (Value → Shared → Prop) × (Value → Shared → Prop) × (Addr) × (Nat) × (List Value) × (List Ent) × (Nat) × (Tok) × (Heap) := eps (by (repeat' first | exact neW | exact neA | exact neS | refine neP ?_ ?_ | infer_instance)) QQ
@[irreducible] noncomputable def s : Shared := cc.2.2.2.2.2.2.2.2.2.2.2.2.2.2.2.2.2.2.2.2.2.1
@[irreducible] noncomputable def hp : Addr := cc.2.2.2.2.2.2.2.2.2.2.2.2.2.2.2.2.2.2.2.2.2.2.2.2.1
@[irreducible] noncomputable def n : Nat := cc.2.2.2.2.2.2.2.2.2.2.2.2.2.2.2.2.2.2.2.2.2.2.2.2.2.1
@[irreducible] noncomputable def vs : List Value := cc.2.2.2.2.2.2.2.2.2.2.2.2.2.2.2.2.2.2.2.2.2.2.2.2.2.2.1
@[irreducible] noncomputable def ds : List Ent := cc.2.2.2.2.2.2.2.2.2.2.2.2.2.2.2.2.2.2.2.2.2.2.2.2.2.2.2.1
@[irreducible] noncomputable def pos : Nat := cc.2.2.2.2.2.2.2.2.2.2.2.2.2.2.2.2.2.2.2.2.2.2.2.2.2.2.2.2.1
@[irreducible] noncomputable def hr : Heap := cc.2.2.2.2.2.2.2.2.2.2.2.2.2.2.2.2.2.2.2.2.2.2.2.2.2.2.2.2.2.2
noncomputable def stg : PSigma fun R : (Heap) → (Addr) → (Heap) → Prop => (∀ g L' h₁, R g L' h₁) → PP (cc.1) (cc.2.1) (cc.2.2.1) (cc.2.2.2.1) (cc.2.2.2.2.1) (cc.2.2.2.2.2.1) (cc.2.2.2.2.2.2.1) (cc.2.2.2.2.2.2.2.1) (cc.2.2.2.2.2.2.2.2.1) (cc.2.2.2.2.2.2.2.2.2.1) (cc.2.2.2.2.2.2.2.2.2.2.1) (cc.2.2.2.2.2.2.2.2.2.2.2.1) (cc.2.2.2.2.2.2.2.2.2.2.2.2.1) (cc.2.2.2.2.2.2.2.2.2.2.2.2.2.1) (cc.2.2.2.2.2.2.2.2.2.2.2.2.2.2.1) (cc.2.2.2.2.2.2.2.2.2.2.2.2.2.2.2.1) (cc.2.2.2.2.2.2.2.2.2.2.2.2.2.2.2.2.1) (cc.2.2.2.2.2.2.2.2.2.2.2.2.2.2.2.2.2.1) (cc.2.2.2.2.2.2.2.2.2.2.2.2.2.2.2.2.2.2.1) (cc.2.2.2.2.2.2.2.2.2.2.2.2.2.2.2.2.2.2.2.1) (cc.2.2.2.2.2.2.2.2.2.2.2.2.2.2.2.2.2.2.2.2.1) s (cc.2.2.2.2.2.2.2.2.2.2.2.2.2.2.2.2.2.2.2.2.2.2.1) (cc.2.2.2.2.2.2.2.2.2.2.2.2.2.2.2.2.2.2.2.2.2.2.2.1) hp n vs ds pos (cc.2.2.2.2.2.2.2.2.2.2.2.2.2.2.2.2.2.2.2.2.2.2.2.2.2.2.2.2.2.1) hr := by
  refine' PSigma.mk _ (fun hR => ?_)
  rotate_left
  unfold PP
  intro B F X T hk N hkr hT hpos hlen hdp hu hret
  w_on
  refine wpAny_call ?_
  k_dflt (refine' code_defG B F X N T rfl rfl hk ?k6 ?k7 ?k8 ?k9 ?kB ?_ ?c2 ?c3 ?c4 ?c5; (case k6 => k_is); (case k7 => k_is); (case k8 => ktr_room); (case k9 => exact BindsTo.of_eq rfl); (case c5 => decide); (case kB => exact locs rfl); (case c2 => exact rfl); (case c3 => exact rfl); (case c4 => exact rfl))
  intro g L' h₁
  revert B F X T hk N hkr hT hpos hlen hdp hu hret
  exact hR g L' h₁
noncomputable def Q2 (cd : (Heap) × (Addr) × (Heap)) : Prop := stg.1  (cd.1) (cd.2.1) (cd.2.2)
@[irreducible] noncomputable def cd : (Heap) × (Addr) × (Heap) := eps (by (repeat' first | exact neW | exact neA | exact neS | refine neP ?_ ?_ | infer_instance)) Q2
@[irreducible] noncomputable def g : Heap := cd.1
@[irreducible] noncomputable def L' : Addr := cd.2.1
@[irreducible] noncomputable def h₁ : Heap := cd.2.2
theorem walk2 : stg.1 g L' h₁ := by
  intro B F X T hk N hkr hT hpos hlen hdp hu hret FG F' N' B' X' T' GS
  clear FG
  have hNe : ∀ {b : Addr} {o : Obj}, s.heap.get? b = some o → o.cls = .type "tuple" → g.get? b = some o := by
    intro b o hb ho
    refine GS b o hb ?_
    intro hm
    rw [List.map_cons, List.map_nil, List.mem_singleton] at hm
    subst hm
    rw [(N _ (.head _)).1] at hb
    cases hb
    exact absurd (show Value.type "list" = Value.type "tuple" from ho) (by decide)
  have up : ∀ {h' : Heap} {m' : Str → Option Value}, Fr g L' h' m' → ∀ {v : Value} {d : Ent}, TupAt hr v d → TupAt h' v d := fun F _ _ T => T.keep fun b o hb ho => F.keep _ _ (hNe (hkr b o hb ho) ho)
  obtain ⟨xv, hxv, hxT⟩ := hT.at hpos
  k_steps
  refine len_at (by k_asm) (by k_mem) hlen ?_
  k_steps
  refine Halt.out ?_
  refine sub_at pos (by k_asm) (by k_mem) rfl hxv hlen ?_
  k_steps
  refine Halt.out ?_
  refine While_inv2 (fun k m₁ news₁ => Pk3 fun (vs₁ : List Value) (ds₁ : List Ent) (pos₁ : Nat) => Al12 (IntIs (m₁ (Str.ofString "pos")) pos₁) (IntIs (m₁ (Str.ofString "childpos")) (2 * pos₁ + 1)) (m₁ (Str.ofString "newitem") = some xv) (m₁ (Str.ofString "heap") = some (.ref hp)) (IntIs (m₁ (Str.ofString "startpos")) pos) (IntIs (m₁ (Str.ofString "endpos")) vs.length) (news₁ = [(hp, listOf vs₁.toArray n)]) (Tups hr vs₁ ds₁) (pos₁ < vs₁.length) (vs₁.length = vs.length) (k = vs.length - pos₁) (upGo ds₁ pos₁ = upGo ds pos)) (n₀ := vs.length - pos) (by k_asm) (by k_asm) ?_ ?_
  · exact ⟨vs, ds, pos, ⟨_, rfl⟩, ⟨_, rfl⟩, rfl, rfl, ⟨_, rfl⟩, ⟨_, rfl⟩, rfl, hT, hpos, rfl, rfl, rfl⟩
  rintro k m₁ news₁ h₂ tk₂ F₂ N₂ ⟨vs₁, ds₁, pos₁, ⟨t₁, hm1⟩, ⟨t₂, hm2⟩, hm3, hm4, ⟨t₃, hm5⟩, ⟨t₄, hm6⟩, rfl, hT₁, hp₁, hl₁, hkk, hres⟩
  have hlen₁ : vs₁.length < 2 ^ 20 := by omega
  have hd₁ : ds₁.length = vs.length := by rw [← hT₁.1, hl₁]
  k_steps
  · have hlt1 : 2 * pos₁ + 1 + 1 < vs.length := by omega
    obtain ⟨lv, hlv, hlT⟩ := hT₁.at (i := 2 * pos₁ + 1) (by omega)
    obtain ⟨rv, hrv, hrT⟩ := hT₁.at (i := 2 * pos₁ + 1 + 1) (by omega)
    refine Halt.out ?_
    refine sub_at (2 * pos₁ + 1) (by k_asm) (by k_mem) (by omega) hlv hlen₁ ?_
    k_steps
    refine Halt.out ?_
    refine sub_at (2 * pos₁ + 1 + 1) (by k_asm) (by k_mem) (by omega) hrv hlen₁ ?_
    k_steps
    refine lt_ent (up (by k_asm) hlT) (up (by k_asm) hrT) (by ktr_units) ?_
    k_steps
    · rename_i hcmp
      have hkid : kid ds₁ (2 * pos₁ + 1) = 2 * pos₁ + 1 := by unfold kid; rw [if_neg (by rw [hcmp]; simp)]
      refine Halt.out ?_
      refine sub_at (2 * pos₁ + 1) (by k_asm) (by k_mem) (by omega) hlv hlen₁ ?_
      k_steps
      refine set_at pos₁ (by k_asm) (by k_asm) (by k_upd) rfl hp₁ hlen₁ ?_
      intro h5 F5 N5
      k_steps
      refine ws2_next (vs.length - (2 * pos₁ + 1)) (by k_asm) (by k_asm) (by omega) ?_
      refine ⟨vs₁.set pos₁ lv, ds₁.set pos₁ (ds₁.getD (2 * pos₁ + 1) (0, 0, 0)), 2 * pos₁ + 1, .of rfl (by omega), .of rfl (by omega), hm3, hm4, ⟨_, hm5⟩, ⟨_, hm6⟩, rfl, hT₁.set pos₁ hlT, by simp; omega, by simpa using hl₁, rfl, ?_⟩
      rw [upGo, dif_pos (by omega), hkid] at hres
      exact hres
    · have hcmp : entLt (ds₁.getD (2 * pos₁ + 1) (0, 0, 0)) (ds₁.getD (2 * pos₁ + 1 + 1) (0, 0, 0)) = false := by assumption
      have hkid : kid ds₁ (2 * pos₁ + 1) = 2 * pos₁ + 1 + 1 := by unfold kid; rw [if_pos ⟨by omega, hcmp⟩]
      refine Halt.out ?_
      refine sub_at (2 * pos₁ + 1 + 1) (by k_asm) (by k_mem) (by omega) hrv hlen₁ ?_
      k_steps
      refine set_at pos₁ (by k_asm) (by k_asm) (by k_upd) rfl hp₁ hlen₁ ?_
      intro h5 F5 N5
      k_steps
      refine ws2_next (vs.length - (2 * pos₁ + 1 + 1)) (by k_asm) (by k_asm) (by omega) ?_
      refine ⟨vs₁.set pos₁ rv, ds₁.set pos₁ (ds₁.getD (2 * pos₁ + 1 + 1) (0, 0, 0)), 2 * pos₁ + 1 + 1, .of rfl (by omega), .of rfl (by omega), hm3, hm4, ⟨_, hm5⟩, ⟨_, hm6⟩, rfl, hT₁.set pos₁ hrT, by simp; omega, by simpa using hl₁, rfl, ?_⟩
      rw [upGo, dif_pos (by omega), hkid] at hres
      exact hres
  · obtain ⟨lv, hlv, hlT⟩ := hT₁.at (i := 2 * pos₁ + 1) (by omega)
    have hkid : kid ds₁ (2 * pos₁ + 1) = 2 * pos₁ + 1 := by unfold kid; rw [if_neg (by omega)]
    refine Halt.out ?_
    refine sub_at (2 * pos₁ + 1) (by k_asm) (by k_mem) (by omega) hlv hlen₁ ?_
    k_steps
    refine set_at pos₁ (by k_asm) (by k_asm) (by k_upd) rfl hp₁ hlen₁ ?_
    intro h5 F5 N5
    k_steps
    refine ws2_next (vs.length - (2 * pos₁ + 1)) (by k_asm) (by k_asm) (by omega) ?_
    refine ⟨vs₁.set pos₁ lv, ds₁.set pos₁ (ds₁.getD (2 * pos₁ + 1) (0, 0, 0)), 2 * pos₁ + 1, .of rfl (by omega), .of rfl (by omega), hm3, hm4, ⟨_, hm5⟩, ⟨_, hm6⟩, rfl, hT₁.set pos₁ hlT, by simp; omega, by simpa using hl₁, rfl, ?_⟩
    rw [upGo, dif_pos (by omega), hkid] at hres
    exact hres
  · refine set_at pos₁ (by k_asm) (by k_asm) (by k_upd) rfl hp₁ hlen₁ ?_
    intro h5 F5 N5
    k_steps
    refine Halt.out ?_
    have hkr5 : KeepT hr h5 := fun b o hb ho => F5.keep _ _ (hNe (hkr b o hb ho) ho)
    k_dflt (refine siftdown_c B' F5 X' T' rfl N5 hkr5 (hT₁.set pos₁ hxT) (by simpa using hp₁) (by simpa using hlen₁) (by ktr_room) (by ktr_units) ?_)
    intro vs' h' tk' P hg hT' hl'
    have F6 := pres_fr F5 N5 P
    have N6 := pres_news N5 hg
    k_steps
    rw [upGo, dif_neg (by omega)] at hres
    refine hret vs' _ _ (fun b o hb hx => F6.keep b o (GS b o hx (by simpa using hb))) hg ?_ (by simpa [hl₁] using hl')
    unfold upF
    rw [← hres]
    exact hT'
theorem q2 : Q2 cd := by
  have h := walk2
  unfold g L' h₁ at h
  exact h
theorem all2 : ∀ x, Q2 x := by
  have h := q2
  unfold cd at h
  exact eps_all h
theorem walk : PP (cc.1) (cc.2.1) (cc.2.2.1) (cc.2.2.2.1) (cc.2.2.2.2.1) (cc.2.2.2.2.2.1) (cc.2.2.2.2.2.2.1) (cc.2.2.2.2.2.2.2.1) (cc.2.2.2.2.2.2.2.2.1) (cc.2.2.2.2.2.2.2.2.2.1) (cc.2.2.2.2.2.2.2.2.2.2.1) (cc.2.2.2.2.2.2.2.2.2.2.2.1) (cc.2.2.2.2.2.2.2.2.2.2.2.2.1) (cc.2.2.2.2.2.2.2.2.2.2.2.2.2.1) (cc.2.2.2.2.2.2.2.2.2.2.2.2.2.2.1) (cc.2.2.2.2.2.2.2.2.2.2.2.2.2.2.2.1) (cc.2.2.2.2.2.2.2.2.2.2.2.2.2.2.2.2.1) (cc.2.2.2.2.2.2.2.2.2.2.2.2.2.2.2.2.2.1) (cc.2.2.2.2.2.2.2.2.2.2.2.2.2.2.2.2.2.2.1) (cc.2.2.2.2.2.2.2.2.2.2.2.2.2.2.2.2.2.2.2.1) (cc.2.2.2.2.2.2.2.2.2.2.2.2.2.2.2.2.2.2.2.2.1) s (cc.2.2.2.2.2.2.2.2.2.2.2.2.2.2.2.2.2.2.2.2.2.2.1) (cc.2.2.2.2.2.2.2.2.2.2.2.2.2.2.2.2.2.2.2.2.2.2.2.1) hp n vs ds pos (cc.2.2.2.2.2.2.2.2.2.2.2.2.2.2.2.2.2.2.2.2.2.2.2.2.2.2.2.2.2.1) hr := stg.2 fun g L' h₁ => all2 (g, L', h₁) 
theorem q : QQ cc := by
  have h := walk
  unfold s hp n vs ds pos hr at h
  exact h
theorem all : ∀ x, QQ x := by
  have h := q
  unfold cc at h
  exact eps_all h
end siftup_c_k
theorem siftup_c {w : World} {p : Program} {loose : List Str} {mean : ExcName → Option Value} {mg : Str → Option Value} {mb : Str → Option Value} {hd : Option Value} {dp : Nat} {un : Nat} {gd : Option (List Code)} {cn : Str} {cs : Scope} {L : Addr} {a : Addr} {ccd : Value} {cl : List (Str × Addr)} {outer : List Env} {A₀ : Around} {base : Heap} {h₀ : Heap} {m : Str → Option Value} {s : Shared} {Q : Value → Shared → Prop} {E : Value → Shared → Prop} {hp : Addr} {n : Nat} {vs : List Value} {ds : List Ent} {pos : Nat} {t : Tok} {hr : Heap} (B : Below A₀ base outer h₀) (F : Fr h₀ L s.heap m) (X : (hd35.heap_39 w.params).In h₀) (T : Top p loose mean mg mb h₀) (hk : cs.kind = .function) (N : News h₀ L s.heap [(hp, listOf vs.toArray n)]) (hkr : KeepT hr s.heap) (hT : Tups hr vs ds) (hpos : pos < vs.length) (hlen : vs.length < 2 ^ 20) (hdp : dp + 2 < recursionLimit) (hu : un + 16 < cLine) (hret : ∀ vs' h' tk', Pres hp s.heap h' → h'.get? hp = some (listOf vs'.toArray n) → Tups hr vs' (upF ds pos) → vs'.length = vs.length → Q .none { s with heap := h', toks := tk' }) : wpAny (model PySem.Challenge.rw_om0035_01.row.prog w) (MTop hd dp un gd cn cs L a ccd cl outer) (call (.ref 49) [.ref hp, .int pos t]) Q E s :=
  siftup_c_k.all (w, p, loose, mean, mg, mb, hd, dp, un, gd, cn, cs, L, a, ccd, cl, outer, A₀, base, h₀, m, s, Q, E, hp, n, vs, ds, pos, t, hr) B F X T hk N hkr hT hpos hlen hdp hu hret
end
end Mine
end

local macro_rules | `(tactic| walk_at "call type:range") => `(tactic| refine Mine.Halt.mk ?_)
/- B3 -/
section
open PySem PySem.W PyProof.Rows PySem.SeqAt PySem.MeetsSeq
set_option maxRecDepth 100000
set_option maxHeartbeats 4000000
namespace Mine
theorem fillB3 (w : World) (h : Heap) : (hd35.heap_39 w.params).In h → model PySem.Challenge.rw_om0035_01.row.prog w = model PySem.Challenge.rw_om0035_01.row.prog w := by
  k_fill
  intro _
  rfl
theorem keepT_of {hr h g : Heap} {hp : Addr} {vs : Array Value} {n : Nat} (GS : GSub h g (List.map (fun x => x.1) [(hp, listOf vs n)])) (hl : h.get? hp = some (listOf vs n)) (hkr : KeepT hr h) : KeepT hr g := by
  intro b o hb ho
  refine GS b o (hkr b o hb ho) ?_
  intro hm
  rw [List.map_cons, List.map_nil, List.mem_singleton] at hm
  subst hm
  have hb' := hkr _ _ hb ho
  rw [hl] at hb'
  cases hb'
  exact absurd (show Value.type "list" = Value.type "tuple" from ho) (by decide)
theorem KeepT.fr {hr g h : Heap} {L : Addr} {m : Str → Option Value} (k : KeepT hr g) (F : Fr g L h m) : KeepT hr h := fun b o hb ho => F.keep _ _ (k b o hb ho)
/-- i turns of heapify, from place k - 1 downwards -/
noncomputable def hfyGo (ds : List Ent) (k : Nat) : Nat → List Ent
  | 0 => ds
  | i + 1 => upF (hfyGo ds k i) (k - 1 - i)
section
local macro_rules | `(tactic| walk_at "subscriptTail Name Constant ref int") => `(tactic| refine Mine.Halt.mk ?_)
namespace heapreplace_c_k
noncomputable def PP (w : World) (p : Program) (loose : List Str) (mean : ExcName → Option Value) (mg : Str → Option Value) (mb : Str → Option Value) (hd : Option Value) (dp : Nat) (un : Nat) (gd : Option (List Code)) (cn : Str) (cs : Scope) (L : Addr) (a : Addr) (ccd : Value) (cl : List (Str × Addr)) (outer : List Env) (A₀ : Around) (base : Heap) (h₀ : Heap) (m : Str → Option Value) (s : Shared) (Q : Value → Shared → Prop) (E : Value → Shared → Prop) (hp : Addr) (n : Nat) (vs : List Value) (ds : List Ent) (v : Value) (d : Ent) (hr : Heap) : Prop := ∀ (B : Below A₀ base outer h₀) (F : Fr h₀ L s.heap m) (X : (hd35.heap_39 w.params).In h₀) (T : Top p loose mean mg mb h₀) (hk : cs.kind = .function) (N : News h₀ L s.heap [(hp, listOf vs.toArray n)]) (hkr : KeepT hr s.heap) (hT : Tups hr vs ds) (hv : TupAt hr v d) (hpos : 0 < vs.length) (hlen : vs.length < 2 ^ 20) (hdp : dp + 3 < recursionLimit) (hu : un + 24 < cLine) (hret : ∀ r vs' h' tk', Pres hp s.heap h' → h'.get? hp = some (listOf vs'.toArray n) → Tups hr vs' (upF (ds.set 0 d) 0) → vs'.length = vs.length → Q r { s with heap := h', toks := tk' }), wpAny (model PySem.Challenge.rw_om0035_01.row.prog w) (MTop hd dp un gd cn cs L a ccd cl outer) (call (.ref 28) [.ref hp, v]) Q E s
noncomputable def QQ (cc : (World) × (Program) × (List Str) × (ExcName → Option Value) × (Str → Option Value) × (Str → Option Value) × (Option Value) × (Nat) × (Nat) × (Option (List Code)) × (Str) × (Scope) × (Addr) × (Addr) × (Value) × (List (Str × Addr)) × (List Env) × (Around) × (Heap) × (Heap) × (Str → Option Value) × (Shared) × (Value → Shared → Prop) × (Value → Shared → Prop) × (Addr) × (Nat) × (List Value) × (List Ent) × (Value) × (Ent) × (Heap)) : Prop := PP (cc.1) (cc.2.1) (cc.2.2.1) (cc.2.2.2.1) (cc.2.2.2.2.1) (cc.2.2.2.2.2.1) (cc.2.2.2.2.2.2.1) (cc.2.2.2.2.2.2.2.1) (cc.2.2.2.2.2.2.2.2.1) (cc.2.2.2.2.2.2.2.2.2.1) (cc.2.2.2.2.2.2.2.2.2.2.1) (cc.2.2.2.2.2.2.2.2.2.2.2.1) (cc.2.2.2.2.2.2.2.2.2.2.2.2.1) (cc.2.2.2.2.2.2.2.2.2.2.2.2.2.1) (cc.2.2.2.2.2.2.2.2.2.2.2.2.2.2.1) (cc.2.2.2.2.2.2.2.2.2.2.2.2.2.2.2.1) (cc.2.2.2.2.2.2.2.2.2.2.2.2.2.2.2.2.1) (cc.2.2.2.2.2.2.2.2.2.2.2.2.2.2.2.2.2.1) (cc.2.2.2.2.2.2.2.2.2.2.2.2.2.2.2.2.2.2.1) (cc.2.2.2.2.2.2.2.2.2.2.2.2.2.2.2.2.2.2.2.1) (cc.2.2.2.2.2.2.2.2.2.2.2.2.2.2.2.2.2.2.2.2.1) (cc.2.2.2.2.2.2.2.2.2.2.2.2.2.2.2.2.2.2.2.2.2.1) (cc.2.2.2.2.2.2.2.2.2.2.2.2.2.2.2.2.2.2.2.2.2.2.1) (cc.2.2.2.2.2.2.2.2.2.2.2.2.2.2.2.2.2.2.2.2.2.2.2.1) (cc.2.2.2.2.2.2.2.2.2.2.2.2.2.2.2.2.2.2.2.2.2.2.2.2.1) (cc.2.2.2.2.2.2.2.2.2.2.2.2.2.2.2.2.2.2.2.2.2.2.2.2.2.1) (cc.2.2.2.2.2.2.2.2.2.2.2.2.2.2.2.2.2.2.2.2.2.2.2.2.2.2.1) (cc.2.2.2.2.2.2.2.2.2.2.2.2.2.2.2.2.2.2.2.2.2.2.2.2.2.2.2.1) (cc.2.2.2.2.2.2.2.2.2.2.2.2.2.2.2.2.2.2.2.2.2.2.2.2.2.2.2.2.1) (cc.2.2.2.2.2.2.2.2.2.2.2.2.2.2.2.2.2.2.2.2.2.2.2.2.2.2.2.2.2.1) (cc.2.2.2.2.2.2.2.2.2.2.2.2.2.2.2.2.2.2.2.2.2.2.2.2.2.2.2.2.2.2)
@[irreducible] noncomputable def cc : (World) × (Program) × (List Str) × (ExcName → Option Value) × (Str → Option Value) × (Str → Option Value) × (Option Value) × (Nat) × (Nat) × (Option (List Code)) × (Str) × (Scope) × (Addr) × (Addr) × (Value) × (List (Str × Addr)) × (List Env) × (Around) × (Heap) × (Heap) × (Str → Option Value) × (Shared) × (Value → Shared → Prop) × (Value → Shared → Prop) × (Addr) × (Nat) × (List Value) × (List Ent) × (Value) × (Ent) × (Heap) := eps (by (repeat' first | exact neW | exact neA | exact neS | refine neP ?_ ?_ | infer_instance)) QQ
noncomputable def stg : PSigma fun R : (Heap) → (Addr) → (Heap) → Prop => (∀ g L' h₁, R g L' h₁) → PP (cc.1) (cc.2.1) (cc.2.2.1) (cc.2.2.2.1) (cc.2.2.2.2.1) (cc.2.2.2.2.2.1) (cc.2.2.2.2.2.2.1) (cc.2.2.2.2.2.2.2.1) (cc.2.2.2.2.2.2.2.2.1) (cc.2.2.2.2.2.2.2.2.2.1) (cc.2.2.2.2.2.2.2.2.2.2.1) (cc.2.2.2.2.2.2.2.2.2.2.2.1) (cc.2.2.2.2.2.2.2.2.2.2.2.2.1) (cc.2.2.2.2.2.2.2.2.2.2.2.2.2.1) (cc.2.2.2.2.2.2.2.2.2.2.2.2.2.2.1) (cc.2.2.2.2.2.2.2.2.2.2.2.2.2.2.2.1) (cc.2.2.2.2.2.2.2.2.2.2.2.2.2.2.2.2.1) (cc.2.2.2.2.2.2.2.2.2.2.2.2.2.2.2.2.2.1) (cc.2.2.2.2.2.2.2.2.2.2.2.2.2.2.2.2.2.2.1) (cc.2.2.2.2.2.2.2.2.2.2.2.2.2.2.2.2.2.2.2.1) (cc.2.2.2.2.2.2.2.2.2.2.2.2.2.2.2.2.2.2.2.2.1) (cc.2.2.2.2.2.2.2.2.2.2.2.2.2.2.2.2.2.2.2.2.2.1) (cc.2.2.2.2.2.2.2.2.2.2.2.2.2.2.2.2.2.2.2.2.2.2.1) (cc.2.2.2.2.2.2.2.2.2.2.2.2.2.2.2.2.2.2.2.2.2.2.2.1) (cc.2.2.2.2.2.2.2.2.2.2.2.2.2.2.2.2.2.2.2.2.2.2.2.2.1) (cc.2.2.2.2.2.2.2.2.2.2.2.2.2.2.2.2.2.2.2.2.2.2.2.2.2.1) (cc.2.2.2.2.2.2.2.2.2.2.2.2.2.2.2.2.2.2.2.2.2.2.2.2.2.2.1) (cc.2.2.2.2.2.2.2.2.2.2.2.2.2.2.2.2.2.2.2.2.2.2.2.2.2.2.2.1) (cc.2.2.2.2.2.2.2.2.2.2.2.2.2.2.2.2.2.2.2.2.2.2.2.2.2.2.2.2.1) (cc.2.2.2.2.2.2.2.2.2.2.2.2.2.2.2.2.2.2.2.2.2.2.2.2.2.2.2.2.2.1) (cc.2.2.2.2.2.2.2.2.2.2.2.2.2.2.2.2.2.2.2.2.2.2.2.2.2.2.2.2.2.2) := by
  refine' PSigma.mk _ (fun hR => ?_)
  rotate_left
  unfold PP
  intro B F X T hk N hkr hT hv hpos hlen hdp hu hret
  w_on
  refine wpAny_call ?_
  k_dflt (refine' code_defG B F X N T rfl rfl hk ?k6 ?k7 ?k8 ?k9 ?kB ?_ ?c2 ?c3 ?c4 ?c5; (case k6 => k_is); (case k7 => k_is); (case k8 => ktr_room); (case k9 => exact BindsTo.of_eq rfl); (case c5 => decide); (case kB => exact locs rfl); (case c2 => exact rfl); (case c3 => exact rfl); (case c4 => exact rfl))
  intro g L' h₁
  revert B F X T hk N hkr hT hv hpos hlen hdp hu hret
  exact hR g L' h₁
noncomputable def Q2 (cd : (Heap) × (Addr) × (Heap)) : Prop := stg.1  (cd.1) (cd.2.1) (cd.2.2)
@[irreducible] noncomputable def cd : (Heap) × (Addr) × (Heap) := eps (by (repeat' first | exact neW | exact neA | exact neS | refine neP ?_ ?_ | infer_instance)) Q2
@[irreducible] noncomputable def g : Heap := cd.1
@[irreducible] noncomputable def L' : Addr := cd.2.1
@[irreducible] noncomputable def h₁ : Heap := cd.2.2
theorem walk2 : stg.1 g L' h₁ := by
  intro B F X T hk N hkr hT hv hpos hlen hdp hu hret FG F' N' B' X' T' GS
  clear FG
  have hkg := keepT_of GS (N _ (.head _)).1 hkr
  obtain ⟨xv, hxv, hxT⟩ := hT.at hpos
  k_steps
  refine Halt.out ?_
  refine sub_at 0 (by k_asm) (by k_mem) rfl hxv hlen ?_
  k_steps
  refine set_at 0 (by k_asm) (by k_asm) (by k_upd) rfl hpos hlen ?_
  intro h5 F5 N5
  k_steps
  refine Halt.out ?_
  k_dflt (refine siftup_c (pos := 0) B' F5 X' T' rfl N5 (hkg.fr F5) (hT.set 0 hv) (by simpa using hpos) (by simpa using hlen) (by ktr_room) (by ktr_units) ?_)
  intro vs' h' tk' P hg hT' hl'
  have F6 := pres_fr F5 N5 P
  have N6 := pres_news N5 hg
  k_steps
  exact hret _ vs' _ _ (fun b o hb hx => F6.keep b o (GS b o hx (by simpa using hb))) hg hT' (by simpa using hl')
theorem q2 : Q2 cd := by
  have h := walk2
  unfold g L' h₁ at h
  exact h
theorem all2 : ∀ x, Q2 x := by
  have h := q2
  unfold cd at h
  exact eps_all h
theorem walk : PP (cc.1) (cc.2.1) (cc.2.2.1) (cc.2.2.2.1) (cc.2.2.2.2.1) (cc.2.2.2.2.2.1) (cc.2.2.2.2.2.2.1) (cc.2.2.2.2.2.2.2.1) (cc.2.2.2.2.2.2.2.2.1) (cc.2.2.2.2.2.2.2.2.2.1) (cc.2.2.2.2.2.2.2.2.2.2.1) (cc.2.2.2.2.2.2.2.2.2.2.2.1) (cc.2.2.2.2.2.2.2.2.2.2.2.2.1) (cc.2.2.2.2.2.2.2.2.2.2.2.2.2.1) (cc.2.2.2.2.2.2.2.2.2.2.2.2.2.2.1) (cc.2.2.2.2.2.2.2.2.2.2.2.2.2.2.2.1) (cc.2.2.2.2.2.2.2.2.2.2.2.2.2.2.2.2.1) (cc.2.2.2.2.2.2.2.2.2.2.2.2.2.2.2.2.2.1) (cc.2.2.2.2.2.2.2.2.2.2.2.2.2.2.2.2.2.2.1) (cc.2.2.2.2.2.2.2.2.2.2.2.2.2.2.2.2.2.2.2.1) (cc.2.2.2.2.2.2.2.2.2.2.2.2.2.2.2.2.2.2.2.2.1) (cc.2.2.2.2.2.2.2.2.2.2.2.2.2.2.2.2.2.2.2.2.2.1) (cc.2.2.2.2.2.2.2.2.2.2.2.2.2.2.2.2.2.2.2.2.2.2.1) (cc.2.2.2.2.2.2.2.2.2.2.2.2.2.2.2.2.2.2.2.2.2.2.2.1) (cc.2.2.2.2.2.2.2.2.2.2.2.2.2.2.2.2.2.2.2.2.2.2.2.2.1) (cc.2.2.2.2.2.2.2.2.2.2.2.2.2.2.2.2.2.2.2.2.2.2.2.2.2.1) (cc.2.2.2.2.2.2.2.2.2.2.2.2.2.2.2.2.2.2.2.2.2.2.2.2.2.2.1) (cc.2.2.2.2.2.2.2.2.2.2.2.2.2.2.2.2.2.2.2.2.2.2.2.2.2.2.2.1) (cc.2.2.2.2.2.2.2.2.2.2.2.2.2.2.2.2.2.2.2.2.2.2.2.2.2.2.2.2.1) (cc.2.2.2.2.2.2.2.2.2.2.2.2.2.2.2.2.2.2.2.2.2.2.2.2.2.2.2.2.2.1) (cc.2.2.2.2.2.2.2.2.2.2.2.2.2.2.2.2.2.2.2.2.2.2.2.2.2.2.2.2.2.2) := stg.2 fun g L' h₁ => all2 (g, L', h₁) 
theorem q : QQ cc := by
  have h := walk
  exact h
theorem all : ∀ x, QQ x := by
  have h := q
  unfold cc at h
  exact eps_all h
end heapreplace_c_k
theorem heapreplace_c {w : World} {p : Program} {loose : List Str} {mean : ExcName → Option Value} {mg : Str → Option Value} {mb : Str → Option Value} {hd : Option Value} {dp : Nat} {un : Nat} {gd : Option (List Code)} {cn : Str} {cs : Scope} {L : Addr} {a : Addr} {ccd : Value} {cl : List (Str × Addr)} {outer : List Env} {A₀ : Around} {base : Heap} {h₀ : Heap} {m : Str → Option Value} {s : Shared} {Q : Value → Shared → Prop} {E : Value → Shared → Prop} {hp : Addr} {n : Nat} {vs : List Value} {ds : List Ent} {v : Value} {d : Ent} {hr : Heap} (B : Below A₀ base outer h₀) (F : Fr h₀ L s.heap m) (X : (hd35.heap_39 w.params).In h₀) (T : Top p loose mean mg mb h₀) (hk : cs.kind = .function) (N : News h₀ L s.heap [(hp, listOf vs.toArray n)]) (hkr : KeepT hr s.heap) (hT : Tups hr vs ds) (hv : TupAt hr v d) (hpos : 0 < vs.length) (hlen : vs.length < 2 ^ 20) (hdp : dp + 3 < recursionLimit) (hu : un + 24 < cLine) (hret : ∀ r vs' h' tk', Pres hp s.heap h' → h'.get? hp = some (listOf vs'.toArray n) → Tups hr vs' (upF (ds.set 0 d) 0) → vs'.length = vs.length → Q r { s with heap := h', toks := tk' }) : wpAny (model PySem.Challenge.rw_om0035_01.row.prog w) (MTop hd dp un gd cn cs L a ccd cl outer) (call (.ref 28) [.ref hp, v]) Q E s :=
  heapreplace_c_k.all (w, p, loose, mean, mg, mb, hd, dp, un, gd, cn, cs, L, a, ccd, cl, outer, A₀, base, h₀, m, s, Q, E, hp, n, vs, ds, v, d, hr) B F X T hk N hkr hT hv hpos hlen hdp hu hret
namespace heappop_c_k
noncomputable def PP (w : World) (p : Program) (loose : List Str) (mean : ExcName → Option Value) (mg : Str → Option Value) (mb : Str → Option Value) (hd : Option Value) (dp : Nat) (un : Nat) (gd : Option (List Code)) (cn : Str) (cs : Scope) (L : Addr) (a : Addr) (ccd : Value) (cl : List (Str × Addr)) (outer : List Env) (A₀ : Around) (base : Heap) (h₀ : Heap) (m : Str → Option Value) (s : Shared) (Q : Value → Shared → Prop) (E : Value → Shared → Prop) (hp : Addr) (n : Nat) (lv : Value) (ld : Ent) (hr : Heap) : Prop := ∀ (vs : List Value) (ds : List Ent) (B : Below A₀ base outer h₀) (F : Fr h₀ L s.heap m) (X : (hd35.heap_39 w.params).In h₀) (T : Top p loose mean mg mb h₀) (hk : cs.kind = .function) (N : News h₀ L s.heap [(hp, listOf (vs ++ [lv]).toArray n)]) (hkr : KeepT hr s.heap) (hT : Tups hr vs ds) (hv : TupAt hr lv ld) (hlen : vs.length < 2 ^ 19) (hdp : dp + 3 < recursionLimit) (hu : un + 24 < cLine) (hret : ∀ r vs' h' tk', Pres hp s.heap h' → h'.get? hp = some (listOf vs'.toArray (n + 1)) → Tups hr vs' (if ds = [] then [] else upF (ds.set 0 ld) 0) → vs'.length = vs.length → Q r { s with heap := h', toks := tk' }), wpAny (model PySem.Challenge.rw_om0035_01.row.prog w) (MTop hd dp un gd cn cs L a ccd cl outer) (call (.ref 21) [.ref hp]) Q E s
noncomputable def QQ (cc : (World) × (Program) × (List Str) × (ExcName → Option Value) × (Str → Option Value) × (Str → Option Value) × (Option Value) × (Nat) × (Nat) × (Option (List Code)) × (Str) × (Scope) × (Addr) × (Addr) × (Value) × (List (Str × Addr)) × (List Env) × (Around) × (Heap) × (Heap) × (Str → Option Value) × (Shared) × (Value → Shared → Prop) × (Value → Shared → Prop) × (Addr) × (Nat) × (Value) × (Ent) × (Heap)) : Prop := PP (cc.1) (cc.2.1) (cc.2.2.1) (cc.2.2.2.1) (cc.2.2.2.2.1) (cc.2.2.2.2.2.1) (cc.2.2.2.2.2.2.1) (cc.2.2.2.2.2.2.2.1) (cc.2.2.2.2.2.2.2.2.1) (cc.2.2.2.2.2.2.2.2.2.1) (cc.2.2.2.2.2.2.2.2.2.2.1) (cc.2.2.2.2.2.2.2.2.2.2.2.1) (cc.2.2.2.2.2.2.2.2.2.2.2.2.1) (cc.2.2.2.2.2.2.2.2.2.2.2.2.2.1) (cc.2.2.2.2.2.2.2.2.2.2.2.2.2.2.1) (cc.2.2.2.2.2.2.2.2.2.2.2.2.2.2.2.1) (cc.2.2.2.2.2.2.2.2.2.2.2.2.2.2.2.2.1) (cc.2.2.2.2.2.2.2.2.2.2.2.2.2.2.2.2.2.1) (cc.2.2.2.2.2.2.2.2.2.2.2.2.2.2.2.2.2.2.1) (cc.2.2.2.2.2.2.2.2.2.2.2.2.2.2.2.2.2.2.2.1) (cc.2.2.2.2.2.2.2.2.2.2.2.2.2.2.2.2.2.2.2.2.1) (cc.2.2.2.2.2.2.2.2.2.2.2.2.2.2.2.2.2.2.2.2.2.1) (cc.2.2.2.2.2.2.2.2.2.2.2.2.2.2.2.2.2.2.2.2.2.2.1) (cc.2.2.2.2.2.2.2.2.2.2.2.2.2.2.2.2.2.2.2.2.2.2.2.1) (cc.2.2.2.2.2.2.2.2.2.2.2.2.2.2.2.2.2.2.2.2.2.2.2.2.1) (cc.2.2.2.2.2.2.2.2.2.2.2.2.2.2.2.2.2.2.2.2.2.2.2.2.2.1) (cc.2.2.2.2.2.2.2.2.2.2.2.2.2.2.2.2.2.2.2.2.2.2.2.2.2.2.1) (cc.2.2.2.2.2.2.2.2.2.2.2.2.2.2.2.2.2.2.2.2.2.2.2.2.2.2.2.1) (cc.2.2.2.2.2.2.2.2.2.2.2.2.2.2.2.2.2.2.2.2.2.2.2.2.2.2.2.2)
@[irreducible] noncomputable def cc : (World) × (Program) × (List Str) × (ExcName → Option Value) × (Str → Option Value) × (Str → Option Value) × (Option Value) × (Nat) × (Nat) × (Option (List Code)) × (Str) × (Scope) × (Addr) × (Addr) × (Value) × (List (Str × Addr)) × (List Env) × (Around) × (Heap) × (Heap) × (Str → Option Value) × (Shared) × (Value → Shared → Prop) × (Value → Shared → Prop) × (Addr) × (Nat) × (Value) × (Ent) × (Heap) := eps (by (repeat' first | exact neW | exact neA | exact neS | refine neP ?_ ?_ | infer_instance)) QQ
@[irreducible] noncomputable def p : Program := cc.2.1
@[irreducible] noncomputable def lv : Value := cc.2.2.2.2.2.2.2.2.2.2.2.2.2.2.2.2.2.2.2.2.2.2.2.2.2.2.1
noncomputable def stg : PSigma fun R : (List Value) → (List Ent) → (Heap) → (Addr) → (Heap) → Prop => (∀ vs ds g L' h₁, R vs ds g L' h₁) → PP (cc.1) p (cc.2.2.1) (cc.2.2.2.1) (cc.2.2.2.2.1) (cc.2.2.2.2.2.1) (cc.2.2.2.2.2.2.1) (cc.2.2.2.2.2.2.2.1) (cc.2.2.2.2.2.2.2.2.1) (cc.2.2.2.2.2.2.2.2.2.1) (cc.2.2.2.2.2.2.2.2.2.2.1) (cc.2.2.2.2.2.2.2.2.2.2.2.1) (cc.2.2.2.2.2.2.2.2.2.2.2.2.1) (cc.2.2.2.2.2.2.2.2.2.2.2.2.2.1) (cc.2.2.2.2.2.2.2.2.2.2.2.2.2.2.1) (cc.2.2.2.2.2.2.2.2.2.2.2.2.2.2.2.1) (cc.2.2.2.2.2.2.2.2.2.2.2.2.2.2.2.2.1) (cc.2.2.2.2.2.2.2.2.2.2.2.2.2.2.2.2.2.1) (cc.2.2.2.2.2.2.2.2.2.2.2.2.2.2.2.2.2.2.1) (cc.2.2.2.2.2.2.2.2.2.2.2.2.2.2.2.2.2.2.2.1) (cc.2.2.2.2.2.2.2.2.2.2.2.2.2.2.2.2.2.2.2.2.1) (cc.2.2.2.2.2.2.2.2.2.2.2.2.2.2.2.2.2.2.2.2.2.1) (cc.2.2.2.2.2.2.2.2.2.2.2.2.2.2.2.2.2.2.2.2.2.2.1) (cc.2.2.2.2.2.2.2.2.2.2.2.2.2.2.2.2.2.2.2.2.2.2.2.1) (cc.2.2.2.2.2.2.2.2.2.2.2.2.2.2.2.2.2.2.2.2.2.2.2.2.1) (cc.2.2.2.2.2.2.2.2.2.2.2.2.2.2.2.2.2.2.2.2.2.2.2.2.2.1) lv (cc.2.2.2.2.2.2.2.2.2.2.2.2.2.2.2.2.2.2.2.2.2.2.2.2.2.2.2.1) (cc.2.2.2.2.2.2.2.2.2.2.2.2.2.2.2.2.2.2.2.2.2.2.2.2.2.2.2.2) := by
  refine' PSigma.mk _ (fun hR => ?_)
  rotate_left
  unfold PP
  intro vs ds B F X T hk N hkr hT hv hlen hdp hu hret
  w_on
  refine wpAny_call ?_
  k_dflt (refine' code_defG B F X N T rfl rfl hk ?k6 ?k7 ?k8 ?k9 ?kB ?_ ?c2 ?c3 ?c4 ?c5; (case k6 => k_is); (case k7 => k_is); (case k8 => ktr_room); (case k9 => exact BindsTo.of_eq rfl); (case c5 => decide); (case kB => exact locs rfl); (case c2 => exact rfl); (case c3 => exact rfl); (case c4 => exact rfl))
  intro g L' h₁
  revert B F X T hk N hkr hT hv hlen hdp hu hret
  exact hR vs ds g L' h₁
noncomputable def Q2 (cd : (Heap) × (Addr) × (Heap)) : Prop := ∀ (vs : List Value), ∀ (ds : List Ent), stg.1 vs ds (cd.1) (cd.2.1) (cd.2.2)
@[irreducible] noncomputable def cd : (Heap) × (Addr) × (Heap) := eps (by (repeat' first | exact neW | exact neA | exact neS | refine neP ?_ ?_ | infer_instance)) Q2
@[irreducible] noncomputable def g : Heap := cd.1
@[irreducible] noncomputable def L' : Addr := cd.2.1
@[irreducible] noncomputable def h₁ : Heap := cd.2.2
theorem walk2 : ∀ (vs : List Value), ∀ (ds : List Ent), stg.1 vs ds g L' h₁ := by
  intro vs ds B F X T hk N hkr hT hv hlen hdp hu hret FG F' N' B' X' T' GS
  clear FG
  have hkg := keepT_of GS (N _ (.head _)).1 hkr
  k_steps
  k_dflt (refine' kl_pop (p := vs) (y := lv) (by k_asm) (by k_asm) ?_ (by k_upd) ?_ ?_)
  · simpa using kpa_last lv vs
  · simp [sizeLine]; omega
  intro h5 F5 N5
  k_steps
  · rename_i F8 N8 hE kF kN Tc kX
    have he : vs = [] := by simpa using hE
    subst he
    have hd0 : ds = [] := by
      have := hT.1
      simpa using this.symm
    refine hret _ [] _ _ (fun b o hb hx => F8.keep b o (GS b o hx (by simpa using hb))) (N8 _ (.head _)).1 ?_ rfl
    rw [if_pos hd0]
    exact ⟨rfl, fun i d h => by simp at h⟩
  · rename_i F8 N8 hE
    have hpos : 0 < vs.length := by
      cases vs with
      | nil => simp at hE
      | cons _ _ => simp
    obtain ⟨xv, hxv, hxT⟩ := hT.at hpos
    refine Halt.out ?_
    refine sub_at 0 (by k_asm) (by k_mem) rfl hxv (by omega) ?_
    k_steps
    refine set_at 0 (by k_asm) (by k_asm) (by k_upd) rfl hpos (by omega) ?_
    intro h6 F6 N6
    k_steps
    refine Halt.out ?_
    k_dflt (refine siftup_c (pos := 0) B' F6 X' T' rfl N6 (hkg.fr F6) (hT.set 0 hv) (by simpa using hpos) (by rw [List.length_set]; omega) (by ktr_room) (by ktr_units) ?_)
    intro vs' h' tk' P hg hT' hl'
    have F7 := pres_fr F6 N6 P
    have N7 := pres_news N6 hg
    k_steps
    refine hret _ vs' _ _ (fun b o hb hx => F7.keep b o (GS b o hx (by simpa using hb))) hg ?_ (by simpa using hl')
    rw [if_neg (by intro e; have h := hT.1; rw [e, List.length_nil] at h; omega)]
    exact hT'
theorem q2 : Q2 cd := by
  have h := walk2
  unfold g L' h₁ at h
  exact h
theorem all2 : ∀ x, Q2 x := by
  have h := q2
  unfold cd at h
  exact eps_all h
theorem walk : PP (cc.1) p (cc.2.2.1) (cc.2.2.2.1) (cc.2.2.2.2.1) (cc.2.2.2.2.2.1) (cc.2.2.2.2.2.2.1) (cc.2.2.2.2.2.2.2.1) (cc.2.2.2.2.2.2.2.2.1) (cc.2.2.2.2.2.2.2.2.2.1) (cc.2.2.2.2.2.2.2.2.2.2.1) (cc.2.2.2.2.2.2.2.2.2.2.2.1) (cc.2.2.2.2.2.2.2.2.2.2.2.2.1) (cc.2.2.2.2.2.2.2.2.2.2.2.2.2.1) (cc.2.2.2.2.2.2.2.2.2.2.2.2.2.2.1) (cc.2.2.2.2.2.2.2.2.2.2.2.2.2.2.2.1) (cc.2.2.2.2.2.2.2.2.2.2.2.2.2.2.2.2.1) (cc.2.2.2.2.2.2.2.2.2.2.2.2.2.2.2.2.2.1) (cc.2.2.2.2.2.2.2.2.2.2.2.2.2.2.2.2.2.2.1) (cc.2.2.2.2.2.2.2.2.2.2.2.2.2.2.2.2.2.2.2.1) (cc.2.2.2.2.2.2.2.2.2.2.2.2.2.2.2.2.2.2.2.2.1) (cc.2.2.2.2.2.2.2.2.2.2.2.2.2.2.2.2.2.2.2.2.2.1) (cc.2.2.2.2.2.2.2.2.2.2.2.2.2.2.2.2.2.2.2.2.2.2.1) (cc.2.2.2.2.2.2.2.2.2.2.2.2.2.2.2.2.2.2.2.2.2.2.2.1) (cc.2.2.2.2.2.2.2.2.2.2.2.2.2.2.2.2.2.2.2.2.2.2.2.2.1) (cc.2.2.2.2.2.2.2.2.2.2.2.2.2.2.2.2.2.2.2.2.2.2.2.2.2.1) lv (cc.2.2.2.2.2.2.2.2.2.2.2.2.2.2.2.2.2.2.2.2.2.2.2.2.2.2.2.1) (cc.2.2.2.2.2.2.2.2.2.2.2.2.2.2.2.2.2.2.2.2.2.2.2.2.2.2.2.2) := stg.2 fun vs ds g L' h₁ => all2 (g, L', h₁) vs ds
theorem q : QQ cc := by
  have h := walk
  unfold p lv at h
  exact h
theorem all : ∀ x, QQ x := by
  have h := q
  unfold cc at h
  exact eps_all h
end heappop_c_k
theorem heappop_c {w : World} {p : Program} {loose : List Str} {mean : ExcName → Option Value} {mg : Str → Option Value} {mb : Str → Option Value} {hd : Option Value} {dp : Nat} {un : Nat} {gd : Option (List Code)} {cn : Str} {cs : Scope} {L : Addr} {a : Addr} {ccd : Value} {cl : List (Str × Addr)} {outer : List Env} {A₀ : Around} {base : Heap} {h₀ : Heap} {m : Str → Option Value} {s : Shared} {Q : Value → Shared → Prop} {E : Value → Shared → Prop} {hp : Addr} {n : Nat} {lv : Value} {ld : Ent} {hr : Heap} {vs : List Value} {ds : List Ent} (B : Below A₀ base outer h₀) (F : Fr h₀ L s.heap m) (X : (hd35.heap_39 w.params).In h₀) (T : Top p loose mean mg mb h₀) (hk : cs.kind = .function) (N : News h₀ L s.heap [(hp, listOf (vs ++ [lv]).toArray n)]) (hkr : KeepT hr s.heap) (hT : Tups hr vs ds) (hv : TupAt hr lv ld) (hlen : vs.length < 2 ^ 19) (hdp : dp + 3 < recursionLimit) (hu : un + 24 < cLine) (hret : ∀ r vs' h' tk', Pres hp s.heap h' → h'.get? hp = some (listOf vs'.toArray (n + 1)) → Tups hr vs' (if ds = [] then [] else upF (ds.set 0 ld) 0) → vs'.length = vs.length → Q r { s with heap := h', toks := tk' }) : wpAny (model PySem.Challenge.rw_om0035_01.row.prog w) (MTop hd dp un gd cn cs L a ccd cl outer) (call (.ref 21) [.ref hp]) Q E s :=
  heappop_c_k.all (w, p, loose, mean, mg, mb, hd, dp, un, gd, cn, cs, L, a, ccd, cl, outer, A₀, base, h₀, m, s, Q, E, hp, n, lv, ld, hr) vs ds B F X T hk N hkr hT hv hlen hdp hu hret
namespace heapify_c_k
noncomputable def PP (w : World) (p : Program) (loose : List Str) (mean : ExcName → Option Value) (mg : Str → Option Value) (mb : Str → Option Value) (dp : Nat) (un : Nat) (gd : Option (List Code)) (cn : Str) (cs : Scope) (L : Addr) (a : Addr) (ccd : Value) (cl : List (Str × Addr)) (outer : List Env) (A₀ : Around) (base : Heap) (h₀ : Heap) (m : Str → Option Value) (s : Shared) (Q : Value → Shared → Prop) (E : Value → Shared → Prop) (hp : Addr) (n : Nat) (vs : List Value) (ds : List Ent) (hr : Heap) : Prop := ∀ (B : Below A₀ base outer h₀) (F : Fr h₀ L s.heap m) (X : (hd35.heap_39 w.params).In h₀) (T : Top p loose mean mg mb h₀) (hk : cs.kind = .function) (N : News h₀ L s.heap [(hp, listOf vs.toArray n)]) (hkr : KeepT hr s.heap) (hT : Tups hr vs ds) (hlen : vs.length ≤ 4) (hdp : dp + 3 < recursionLimit) (hu : un + 24 < cLine) (hret : ∀ vs' h' tk', Pres hp s.heap h' → h'.get? hp = some (listOf vs'.toArray n) → Tups hr vs' (hfyGo ds (vs.length / 2) (vs.length / 2)) → vs'.length = vs.length → Q .none { s with heap := h', toks := tk' }), wpAny (model PySem.Challenge.rw_om0035_01.row.prog w) (MTop none dp un gd cn cs L a ccd cl outer) (call (.ref 35) [.ref hp]) Q E s
noncomputable def QQ (cc : (World) × (Program) × (List Str) × (ExcName → Option Value) × (Str → Option Value) × (Str → Option Value) × (Nat) × (Nat) × (Option (List Code)) × (Str) × (Scope) × (Addr) × (Addr) × (Value) × (List (Str × Addr)) × (List Env) × (Around) × (Heap) × (Heap) × (Str → Option Value) × (Shared) × (Value → Shared → Prop) × (Value → Shared → Prop) × (Addr) × (Nat) × (List Value) × (List Ent) × (Heap)) : Prop := PP (cc.1) (cc.2.1) (cc.2.2.1) (cc.2.2.2.1) (cc.2.2.2.2.1) (cc.2.2.2.2.2.1) (cc.2.2.2.2.2.2.1) (cc.2.2.2.2.2.2.2.1) (cc.2.2.2.2.2.2.2.2.1) (cc.2.2.2.2.2.2.2.2.2.1) (cc.2.2.2.2.2.2.2.2.2.2.1) (cc.2.2.2.2.2.2.2.2.2.2.2.1) (cc.2.2.2.2.2.2.2.2.2.2.2.2.1) (cc.2.2.2.2.2.2.2.2.2.2.2.2.2.1) (cc.2.2.2.2.2.2.2.2.2.2.2.2.2.2.1) (cc.2.2.2.2.2.2.2.2.2.2.2.2.2.2.2.1) (cc.2.2.2.2.2.2.2.2.2.2.2.2.2.2.2.2.1) (cc.2.2.2.2.2.2.2.2.2.2.2.2.2.2.2.2.2.1) (cc.2.2.2.2.2.2.2.2.2.2.2.2.2.2.2.2.2.2.1) (cc.2.2.2.2.2.2.2.2.2.2.2.2.2.2.2.2.2.2.2.1) (cc.2.2.2.2.2.2.2.2.2.2.2.2.2.2.2.2.2.2.2.2.1) (cc.2.2.2.2.2.2.2.2.2.2.2.2.2.2.2.2.2.2.2.2.2.1) (cc.2.2.2.2.2.2.2.2.2.2.2.2.2.2.2.2.2.2.2.2.2.2.1) (cc.2.2.2.2.2.2.2.2.2.2.2.2.2.2.2.2.2.2.2.2.2.2.2.1) (cc.2.2.2.2.2.2.2.2.2.2.2.2.2.2.2.2.2.2.2.2.2.2.2.2.1) (cc.2.2.2.2.2.2.2.2.2.2.2.2.2.2.2.2.2.2.2.2.2.2.2.2.2.1) (cc.2.2.2.2.2.2.2.2.2.2.2.2.2.2.2.2.2.2.2.2.2.2.2.2.2.2.1) (cc.2.2.2.2.2.2.2.2.2.2.2.2.2.2.2.2.2.2.2.2.2.2.2.2.2.2.2)
@[irreducible] noncomputable def cc : (World) × (Program) × (List Str) × (ExcName → Option Value) × (Str → Option Value) × (Str → Option Value) × (Nat) × (Nat) × (Option (List Code)) × (Str) × (Scope) × (Addr) × (Addr) × (Value) × (List (Str × Addr)) × (List Env) × (Around) × (Heap) × (Heap) × (Str → Option Value) × (Shared) × (Value → Shared → Prop) × (Value → Shared → Prop) × (Addr) × (Nat) × (List Value) × (List Ent) × (Heap) := eps (by (repeat' first | exact neW | exact neA | exact neS | refine neP ?_ ?_ | infer_instance)) QQ
@[irreducible] noncomputable def p : Program := cc.2.1
@[irreducible] noncomputable def hp : Addr := cc.2.2.2.2.2.2.2.2.2.2.2.2.2.2.2.2.2.2.2.2.2.2.2.1
@[irreducible] noncomputable def n : Nat := cc.2.2.2.2.2.2.2.2.2.2.2.2.2.2.2.2.2.2.2.2.2.2.2.2.1
@[irreducible] noncomputable def vs : List Value := cc.2.2.2.2.2.2.2.2.2.2.2.2.2.2.2.2.2.2.2.2.2.2.2.2.2.1
@[irreducible] noncomputable def ds : List Ent := cc.2.2.2.2.2.2.2.2.2.2.2.2.2.2.2.2.2.2.2.2.2.2.2.2.2.2.1
@[irreducible] noncomputable def hr : Heap := cc.2.2.2.2.2.2.2.2.2.2.2.2.2.2.2.2.2.2.2.2.2.2.2.2.2.2.2
noncomputable def stg : PSigma fun R : (Heap) → (Addr) → (Heap) → Prop => (∀ g L' h₁, R g L' h₁) → PP (cc.1) p (cc.2.2.1) (cc.2.2.2.1) (cc.2.2.2.2.1) (cc.2.2.2.2.2.1) (cc.2.2.2.2.2.2.1) (cc.2.2.2.2.2.2.2.1) (cc.2.2.2.2.2.2.2.2.1) (cc.2.2.2.2.2.2.2.2.2.1) (cc.2.2.2.2.2.2.2.2.2.2.1) (cc.2.2.2.2.2.2.2.2.2.2.2.1) (cc.2.2.2.2.2.2.2.2.2.2.2.2.1) (cc.2.2.2.2.2.2.2.2.2.2.2.2.2.1) (cc.2.2.2.2.2.2.2.2.2.2.2.2.2.2.1) (cc.2.2.2.2.2.2.2.2.2.2.2.2.2.2.2.1) (cc.2.2.2.2.2.2.2.2.2.2.2.2.2.2.2.2.1) (cc.2.2.2.2.2.2.2.2.2.2.2.2.2.2.2.2.2.1) (cc.2.2.2.2.2.2.2.2.2.2.2.2.2.2.2.2.2.2.1) (cc.2.2.2.2.2.2.2.2.2.2.2.2.2.2.2.2.2.2.2.1) (cc.2.2.2.2.2.2.2.2.2.2.2.2.2.2.2.2.2.2.2.2.1) (cc.2.2.2.2.2.2.2.2.2.2.2.2.2.2.2.2.2.2.2.2.2.1) (cc.2.2.2.2.2.2.2.2.2.2.2.2.2.2.2.2.2.2.2.2.2.2.1) hp n vs ds hr := by
  refine' PSigma.mk _ (fun hR => ?_)
  rotate_left
  unfold PP
  intro B F X T hk N hkr hT hlen hdp hu hret
  w_on
  refine wpAny_call ?_
  k_dflt (refine' code_defG B F X N T rfl rfl hk ?k6 ?k7 ?k8 ?k9 ?kB ?_ ?c2 ?c3 ?c4 ?c5; (case k6 => k_is); (case k7 => k_is); (case k8 => ktr_room); (case k9 => exact BindsTo.of_eq rfl); (case c5 => decide); (case kB => exact locs rfl); (case c2 => exact rfl); (case c3 => exact rfl); (case c4 => exact rfl))
  intro g L' h₁
  revert B F X T hk N hkr hT hlen hdp hu hret
  exact hR g L' h₁
noncomputable def Q2 (cd : (Heap) × (Addr) × (Heap)) : Prop := stg.1  (cd.1) (cd.2.1) (cd.2.2)
@[irreducible] noncomputable def cd : (Heap) × (Addr) × (Heap) := eps (by (repeat' first | exact neW | exact neA | exact neS | refine neP ?_ ?_ | infer_instance)) Q2
@[irreducible] noncomputable def g : Heap := cd.1
@[irreducible] noncomputable def L' : Addr := cd.2.1
@[irreducible] noncomputable def h₁ : Heap := cd.2.2
theorem walk2 : stg.1 g L' h₁ := by
  intro B F X T hk N hkr hT hlen hdp hu hret FG F' N' B' X' T' GS
  clear FG
  have hkg := keepT_of GS (N _ (.head _)).1 hkr
  k_steps
  refine len_at (by k_asm) (by k_mem) (by omega) ?_
  k_steps
  refine Halt.out ?_
  with_unfolding_all refine range1_rows (by k_asm) (by k_asm) ?_
  intro _ _ _ _ _ _ _ _ _
  k_steps
  have hk2 : 0 ≤ ((vs.length : Int)).fdiv 2 ∧ ((vs.length : Int)).fdiv 2 ≤ 1000 := by
    rw [Int.fdiv_eq_ediv_of_nonneg _ (by omega)]; omega
  refine call_reversed_range (by assumption) hk2.1 hk2.2 ?_
  rename_i F8 N8 _
  have hk3 : ((vs.length : Int)).fdiv 2 = ((vs.length / 2 : Nat) : Int) := by
    rw [Int.fdiv_eq_ediv_of_nonneg _ (by omega)]; omega
  rw [hk3]
  k_dflt (refine iter_rangeIt (n := vs.length / 2) (m₀ := _) (news := [(hp, listOf vs.toArray n)]) (fun i m₁ news₁ => ∃ vs₁, m₁ (Str.ofString "x") = some (.ref hp) ∧ news₁ = [(hp, listOf vs₁.toArray n)] ∧ vs₁.length = vs.length ∧ Tups hr vs₁ (hfyGo ds (vs.length / 2) i)) rfl (Heap.get?_push_size _ rfl) ?_ ?_ (F8.push _) ?_ ?_ ?_ ?_ ?_)
  · exact next_is_new F8
  · exact Nat.ne_of_gt F8.ns.lt
  · exact fun p hp => ⟨Heap.get?_push_of_some _ (N8 p hp).1, (N8 p hp).2⟩
  · intro p hp'
    rw [List.mem_singleton.mp hp']
    exact Nat.ne_of_lt (Heap.lt_size (N8 _ (.head _)).1)
  · exact ⟨vs, rfl, rfl, rfl, hT⟩
  · rintro i t m₁ news₁ h tk own hi hnI hown ⟨vs₁, hx, rfl, hl₁, hT₁⟩ F₁ N₁
    have e : ((vs.length / 2 : Nat) : Int) - 1 + (i : Int) * -1 = ((vs.length / 2 - 1 - i : Nat) : Int) := by omega
    rw [e] at F₁
    have N₂ : News g L' h [(hp, listOf vs₁.toArray n)] := fun p hp' => N₁ p (List.mem_append_right _ hp')
    have hne := hnI _ (.head _)
    k_steps
    refine Halt.out ?_
    k_dflt (refine siftup_c B' F₁ X' T' rfl N₂ (hkg.fr F₁) hT₁ (by omega) (by omega) (by ktr_room) (by ktr_units) ?_)
    intro vs' h' tk' P hg hT' hl'
    have F7 := pres_fr F₁ N₂ P
    have N7 := pres_news N₂ hg
    k_steps
    refine LoopStepU.intro F7 (fun p hp' => (List.mem_append.mp hp').elim (fun q => ⟨P _ _ (by rw [hown p q]; exact hne.symm) (N₁ p (List.mem_append_left _ q)).1, (N₁ p (List.mem_append_left _ q)).2⟩) fun q => N7 p q) ?_ ⟨vs', hx, rfl, by omega, hT'⟩
    intro p hp' hm
    rw [List.mem_singleton.mp hp'] at hm
    exact hne (List.mem_singleton.mp hm)
  · rintro m₁ news₁ h tk ⟨vs₁, hx, rfl, hl₁, hT₁⟩ F₁ N₁
    k_steps
    exact hret vs₁ _ _ (fun b o hb hx => F₁.keep b o (GS b o hx (by simpa using hb))) (N₁ _ (.head _)).1 hT₁ hl₁
theorem q2 : Q2 cd := by
  have h := walk2
  unfold g L' h₁ at h
  exact h
theorem all2 : ∀ x, Q2 x := by
  have h := q2
  unfold cd at h
  exact eps_all h
theorem walk : PP (cc.1) p (cc.2.2.1) (cc.2.2.2.1) (cc.2.2.2.2.1) (cc.2.2.2.2.2.1) (cc.2.2.2.2.2.2.1) (cc.2.2.2.2.2.2.2.1) (cc.2.2.2.2.2.2.2.2.1) (cc.2.2.2.2.2.2.2.2.2.1) (cc.2.2.2.2.2.2.2.2.2.2.1) (cc.2.2.2.2.2.2.2.2.2.2.2.1) (cc.2.2.2.2.2.2.2.2.2.2.2.2.1) (cc.2.2.2.2.2.2.2.2.2.2.2.2.2.1) (cc.2.2.2.2.2.2.2.2.2.2.2.2.2.2.1) (cc.2.2.2.2.2.2.2.2.2.2.2.2.2.2.2.1) (cc.2.2.2.2.2.2.2.2.2.2.2.2.2.2.2.2.1) (cc.2.2.2.2.2.2.2.2.2.2.2.2.2.2.2.2.2.1) (cc.2.2.2.2.2.2.2.2.2.2.2.2.2.2.2.2.2.2.1) (cc.2.2.2.2.2.2.2.2.2.2.2.2.2.2.2.2.2.2.2.1) (cc.2.2.2.2.2.2.2.2.2.2.2.2.2.2.2.2.2.2.2.2.1) (cc.2.2.2.2.2.2.2.2.2.2.2.2.2.2.2.2.2.2.2.2.2.1) (cc.2.2.2.2.2.2.2.2.2.2.2.2.2.2.2.2.2.2.2.2.2.2.1) hp n vs ds hr := stg.2 fun g L' h₁ => all2 (g, L', h₁) 
theorem q : QQ cc := by
  have h := walk
  unfold p hp n vs ds hr at h
  exact h
theorem all : ∀ x, QQ x := by
  have h := q
  unfold cc at h
  exact eps_all h
end heapify_c_k
theorem heapify_c {w : World} {p : Program} {loose : List Str} {mean : ExcName → Option Value} {mg : Str → Option Value} {mb : Str → Option Value} {dp : Nat} {un : Nat} {gd : Option (List Code)} {cn : Str} {cs : Scope} {L : Addr} {a : Addr} {ccd : Value} {cl : List (Str × Addr)} {outer : List Env} {A₀ : Around} {base : Heap} {h₀ : Heap} {m : Str → Option Value} {s : Shared} {Q : Value → Shared → Prop} {E : Value → Shared → Prop} {hp : Addr} {n : Nat} {vs : List Value} {ds : List Ent} {hr : Heap} (B : Below A₀ base outer h₀) (F : Fr h₀ L s.heap m) (X : (hd35.heap_39 w.params).In h₀) (T : Top p loose mean mg mb h₀) (hk : cs.kind = .function) (N : News h₀ L s.heap [(hp, listOf vs.toArray n)]) (hkr : KeepT hr s.heap) (hT : Tups hr vs ds) (hlen : vs.length ≤ 4) (hdp : dp + 3 < recursionLimit) (hu : un + 24 < cLine) (hret : ∀ vs' h' tk', Pres hp s.heap h' → h'.get? hp = some (listOf vs'.toArray n) → Tups hr vs' (hfyGo ds (vs.length / 2) (vs.length / 2)) → vs'.length = vs.length → Q .none { s with heap := h', toks := tk' }) : wpAny (model PySem.Challenge.rw_om0035_01.row.prog w) (MTop none dp un gd cn cs L a ccd cl outer) (call (.ref 35) [.ref hp]) Q E s :=
  heapify_c_k.all (w, p, loose, mean, mg, mb, dp, un, gd, cn, cs, L, a, ccd, cl, outer, A₀, base, h₀, m, s, Q, E, hp, n, vs, ds, hr) B F X T hk N hkr hT hlen hdp hu hret
end
end Mine
end

/- D4 -/
section
open PySem PySem.W PyProof.Rows PySem.Calls PySem.Spec
set_option maxRecDepth 100000
set_option maxHeartbeats 4000000
namespace Mine
noncomputable def WordsAt (wvs : List Value) (ws : List Str) : Prop := wvs.length = ws.length ∧ ∀ (i : Nat) (x : Str), ws[i]? = some x → ∃ t, wvs[i]? = some (.str x t)
/-- what one turn makes of the heap, the place and those taken -/
noncomputable def turnF (text : Str) (ws : List Str) (ds : List Ent) (place : Nat) (tds : List Ent) : List Ent × Nat × List Ent :=
  match ds with
  | [] => ([], place, tds)
  | d :: r =>
    let place' := if d.2.1 ≥ (place : Int) then d.1.toNat else place
    let tds' := if d.2.1 ≥ (place : Int) then tds ++ [d] else tds
    let x := ws.getD d.2.2.toNat Str.empty
    let there := nextF text place' x
    (if there < 0 then (if (d :: r).dropLast = [] then [] else upF ((d :: r).dropLast.set 0 ((d :: r).getLast (by simp))) 0)
     else upF ((d :: r).set 0 (there + x.length, there, d.2.2)) 0, place', tds')
theorem news_80 {g' h' : Heap} {L : Addr} {news news' : List (Addr × Obj)} {o o' : Obj} (U : Upd 80 o o' news news') (hg : g'.get? 80 = none) (hL : (80 : Addr) ≠ L) (h8 : h'.get? 80 = some o')
    (NN : ∀ q ∈ news, q.1 ∉ [(80 : Addr)] → h'.get? q.1 = some q.2 ∧ q.1 ≠ L ∧ g'.get? q.1 = none) : News g' L h' news' := by
  obtain ⟨pre, post, rfl, rfl, a, b⟩ := U.split
  intro q hq
  rcases List.mem_append.mp hq with hq | hq
  · exact NN q (List.mem_append_left _ hq) (by simpa using a q hq)
  · rcases List.mem_cons.mp hq with rfl | hq
    · exact ⟨h8, hL, hg⟩
    · exact NN q (List.mem_append_right _ (.tail _ hq)) (by simpa using b q hq)
theorem pres_updN {g h h' : Heap} {L hp : Addr} {news news' : List (Addr × Obj)} {o o' : Obj} (N : News g L h news) (U : Upd hp o o' news news') (P : Pres hp h h') (he : h'.get? hp = some o') : News g L h' news' := by
  obtain ⟨pre, post, rfl, rfl, a, b⟩ := U.split
  intro q hq
  rcases List.mem_append.mp hq with hq | hq
  · have z := N q (List.mem_append_left _ hq)
    exact ⟨P _ _ (a q hq) z.1, z.2⟩
  · rcases List.mem_cons.mp hq with rfl | hq
    · exact ⟨he, (N (hp, o) (List.mem_append_right _ (.head _))).2⟩
    · have z := N q (List.mem_append_right _ (.tail _ hq))
      exact ⟨P _ _ (b q hq) z.1, z.2⟩
noncomputable def TupNo (o : Obj) : Prop := ∀ x y z t1 t2 t3, o ≠ tupOf [.int x t1, .int y t2, .int z t3]
theorem tups_ground {h₀ H g : Heap} {L : Addr} {news : List (Addr × Obj)} {vs : List Value} {ds : List Ent} (N : News h₀ L H news) (hno : ∀ q ∈ news, TupNo q.2) (GS : GSub H g (news.map (·.1))) (hT : Tups H vs ds) : Tups g vs ds := by
  refine ⟨hT.1, fun i d hd => ?_⟩
  obtain ⟨v, hv, b, t1, t2, t3, rfl, hb⟩ := hT.2 i d hd
  refine ⟨_, hv, b, t1, t2, t3, rfl, GS _ _ hb fun hm => ?_⟩
  obtain ⟨q, hq, e⟩ := List.mem_map.mp hm
  have := (N q hq).1
  rw [e, hb] at this
  exact hno q hq _ _ _ _ _ _ (Option.some.inj this).symm
theorem tups_up {h h' : Heap} {vs : List Value} {ds : List Ent} (k : ∀ b o, h.get? b = some o → h'.get? b = some o) (hT : Tups h vs ds) : Tups h' vs ds := by
  refine ⟨hT.1, fun i d hd => ?_⟩
  obtain ⟨v, hv, b, t1, t2, t3, rfl, hb⟩ := hT.2 i d hd
  exact ⟨_, hv, b, t1, t2, t3, rfl, k _ _ hb⟩
theorem tups_turn {fs : List Addr} {g g' : Heap} {vs : List Value} {ds : List Ent} (D : KtsDicts fs g) (TT : KtsTurn fs g g') (hT : Tups g vs ds) : Tups g' vs ds := by
  refine ⟨hT.1, fun i d hd => ?_⟩
  obtain ⟨v, hv, b, t1, t2, t3, rfl, hb⟩ := hT.2 i d hd
  refine ⟨_, hv, b, t1, t2, t3, rfl, TT.other _ _ hb fun hm => ?_⟩
  obtain ⟨o, es, n, ho, hdt⟩ := D b hm
  rw [hb] at ho; cases ho
  cases hdt
theorem tabPs_gs {h₀ H g h : Heap} {L L' : Addr} {m : Str → Option Value} {news : List (Addr × Obj)} {ps : Array Value} (x : TabPs H ps) (N : News h₀ L H news) (hno : ∀ q ∈ news, q.1 ≠ 80 → ∀ vs, q.2.data ≠ .fields vs) (GS : GSub H g (news.map (·.1))) (F : Fr g L' h m) : TabPs h ps := by
  rcases x with rfl | ⟨c9, oc, vs, t, rfl, hoc, hd, hv, hne⟩
  · exact .inl rfl
  · refine .inr ⟨c9, oc, vs, t, rfl, F.keep _ _ (GS _ _ hoc fun hm => ?_), hd, hv, hne⟩
    obtain ⟨q, hq, e⟩ := List.mem_map.mp hm
    have := (N q hq).1
    rw [e, hoc] at this
    exact hno q hq (e ▸ hne) vs (by rw [← Option.some.inj this]; exact hd)
theorem presX_end {h₀ H g g' h : Heap} {L L' : Addr} {m : Str → Option Value} {fs Y : List Addr} {news₀ news : List (Addr × Obj)} (N₀ : News h₀ L H news₀) (GS : GSub H g (news₀.map (·.1))) (TT : KtsTurn fs g g') (F : Fr g' L' h m) (N : News g' L' h news)
    (hY : ∀ q ∈ news₀, q ∈ news ∨ (q.1 ∈ Y ∧ ∃ o, (q.1, o) ∈ news)) : PresX fs Y H h := by
  have hn : ∀ b o, H.get? b = some o → b ∈ news₀.map (·.1) → b ∉ Y → h.get? b = some o := fun b o e hm hy => by
    obtain ⟨q, hq, rfl⟩ := List.mem_map.mp hm
    have z := (N₀ q hq).1
    rw [e] at z
    rcases hY q hq with h1 | ⟨h1, _⟩
    · rw [(N q h1).1, ← z]
    · exact absurd h1 hy
  refine ⟨⟨fun b o e hy nf => ?_, fun b o e hy hf => ?_⟩, fun b q => ?_⟩
  · by_cases hm : b ∈ news₀.map (·.1)
    · exact hn b o e hm hy
    · exact F.keep _ _ (TT.other _ _ (GS _ _ e hm) nf)
  · by_cases hm : b ∈ news₀.map (·.1)
    · exact ⟨o.slots, hn b o e hm hy⟩
    · obtain ⟨sl, hs⟩ := TT.up (GS _ _ e hm)
      exact ⟨sl, F.keep _ _ hs⟩
  · cases hh : H.get? b with
    | none => rfl
    | some o =>
      exfalso
      by_cases hm : b ∈ news₀.map (·.1)
      · obtain ⟨q', hq', rfl⟩ := List.mem_map.mp hm
        rcases hY q' hq' with h1 | ⟨_, o', h1⟩
        · rw [(N _ h1).1] at q; cases q
        · have := (N _ h1).1
          rw [q] at this; cases this
      · obtain ⟨sl, hs⟩ := TT.up (GS _ _ hh hm)
        rw [F.keep _ _ hs] at q; cases q
theorem fresh_of {H g g' h : Heap} {L : Addr} {fs X : List Addr} {news : List (Addr × Obj)} {b : Addr} {o : Obj} (GS : GSub H g X) (TT : KtsTurn fs g g') (N : News g' L h news) (hm : (b, o) ∈ news) (hb : b ∉ X) : H.get? b = none := by
  cases hh : H.get? b with
  | none => rfl
  | some o' =>
    obtain ⟨sl, hs⟩ := TT.up (GS _ _ hh hb)
    have := (N _ hm).2.2
    rw [hs] at this; cases this
/-- of a heap: what lies in g, and the items -/
theorem part_of (g h : Heap) (items : List Addr) : ∃ hr : Heap, (∀ b o, hr.get? b = some o → h.get? b = some o ∧ (g.get? b ≠ none ∨ b ∈ items)) ∧ (∀ b o, h.get? b = some o → (g.get? b ≠ none ∨ b ∈ items) → hr.get? b = some o) := by
  refine ⟨hideAll h ((List.range h.objs.size).filter fun b => (g.get? b).isNone && !items.contains b), fun b o e => ⟨of_hideAll _ e, ?_⟩, fun b o e hc => hideAll_get _ e ?_⟩
  · have hb := Heap.lt_size (of_hideAll _ e)
    by_cases hc : g.get? b ≠ none ∨ b ∈ items
    · exact hc
    · exfalso
      have hm : b ∈ (List.range h.objs.size).filter fun b => (g.get? b).isNone && !items.contains b := by
        rw [List.mem_filter, List.mem_range]
        refine ⟨hb, ?_⟩
        have h1 : g.get? b = none := by
          cases hq : g.get? b with
          | none => rfl
          | some o => exact absurd (.inl (by rw [hq]; exact fun z => nomatch z)) hc
        have h2 : items.contains b = false := by
          cases hq : items.contains b with
          | false => rfl
          | true => exact absurd (.inr (by simpa using hq)) hc
        rw [h1, h2]; rfl
      rw [hideAll_none _ hm] at e; cases e
  · intro hm
    rw [List.mem_filter] at hm
    obtain ⟨_, hm⟩ := hm
    rw [Bool.and_eq_true] at hm
    rcases hc with hc | hc
    · exact hc (by simpa using hm.1)
    · have := hm.2
      rw [Bool.not_eq_true'] at this
      have h2 : items.contains b = true := by simpa using hc
      rw [this] at h2; cases h2
structure TurnPost (fs : List Addr) (H h' : Heap) (hp tka : Addr) (ds' : List Ent) (place' : Nat) (tds' : List Ent) (tns' : List Value) (st' : Addr) : Prop where
  pres : PresX fs [80, hp] H h'
  tab : Tab80 h'
  new : H.get? st' = none
  st : Pk8 fun t' n' vs' tka' n1' tks' tna' n2' => Al9 (h'.get? st' = some (tupOf [.ref hp, .int place' t', .ref tka', .ref tna'])) (h'.get? hp = some (listOf vs'.toArray n')) (Tups h' vs' ds') (h'.get? tka' = some (listOf tks'.toArray n1')) (Tups h' tks' tds') (h'.get? tna' = some (listOf tns'.toArray n2')) (H.get? tna' = none) ((tka' = tka ∨ H.get? tka' = none)) (tna' ≠ tka')
theorem cat_at {prog : Program} {w : World} {A : Around} {E : Value → Shared → Prop} {s : Shared} {h₀ : Heap} {L a b : Addr} {m : Str → Option Value} {news : List (Addr × Obj)} {vs us : List Value} {n n' : Nat} {Q : Value → Shared → Prop}
    (F : Fr h₀ L s.heap m) (N : News h₀ L s.heap news) (ma : (a, listOf vs.toArray n) ∈ news) (mb : (b, listOf us.toArray n') ∈ news)
    (h : ∀ D h', Fr h₀ L h' m → News h₀ L h' ((D, listOf (vs ++ us).toArray 0) :: news) → (∀ p ∈ news, p.1 < D) → Q (.ref D) { s with heap := h' }) (hz : vs.length + us.length ≤ 1000) :
    wpAny (model prog w) A (binaryOp .Add (.ref a) (.ref b)) Q E s :=
  kmk_add_lit F N (PySem.IsL.isList (n := n) (N _ ma).1) (PySem.IsL.isList (n := n') (N _ mb).1) rfl h (by rw [sizeLine_eq]; simp; omega)
theorem notIn6 {x a b c d e f : Nat} (h : a < x ∧ b < x ∧ c < x ∧ d < x ∧ e < x ∧ f < x) : x ∉ [a, b, c, d, e, f] := by
  simp only [List.mem_cons, List.mem_nil_iff, or_false, not_or]
  omega
theorem neOf {x y : Nat} (h : x < y ∨ y < x) : x ≠ y := by omega
theorem news_one {g h : Heap} {L : Addr} {q : Addr × Obj} {news : List (Addr × Obj)} (N : News g L h news) (hm : q ∈ news) : News g L h [q] := fun p hp => by
  rw [List.mem_singleton.mp hp]; exact N q hm
theorem tab_item {g h : Heap} {L : Addr} {m : Str → Option Value} {news : List (Addr × Obj)} {ps : Array Value} (F : Fr g L h m) (N : News g L h news) (h8 : (80, tabObj ps) ∈ news) (x : TabPs h ps) :
    Pk2 fun cx ox => Al3 (News g L h ((cx, ox) :: news)) ((∃ fs, ox.data = .fields fs)) ((∀ h' m', Fr g L h' m' → h'.get? cx = some ox → TabPs h' ps)) := by
  rcases x with rfl | ⟨c9, oc, vs, t, rfl, hoc, hd, hv, hne⟩
  · exact ⟨80, _, fun q hq => (List.mem_cons.mp hq).elim (fun e => e ▸ N _ h8) (N q), ⟨_, rfl⟩, fun _ _ _ _ => .inl rfl⟩
  · cases hg : g.get? c9 with
    | some o =>
      have : o = oc := by
        have := F.keep _ _ hg
        rw [hoc] at this
        exact (Option.some.inj this).symm
      subst this
      exact ⟨80, _, fun q hq => (List.mem_cons.mp hq).elim (fun e => e ▸ N _ h8) (N q), ⟨_, rfl⟩, fun _ _ F' _ => .inr ⟨c9, o, vs, t, rfl, F'.keep _ _ hg, hd, hv, hne⟩⟩
    | none =>
      refine ⟨c9, oc, fun q hq => (List.mem_cons.mp hq).elim (fun e => e ▸ ⟨hoc, fun z => ?_, hg⟩) (N q), ⟨_, hd⟩, fun _ _ _ e => .inr ⟨c9, oc, vs, t, rfl, e, hd, hv, hne⟩⟩
      obtain ⟨oL, es, ep, hL, hLd, _⟩ := F.ns
      have z' : c9 = L := z
      rw [z', hL] at hoc
      cases hoc
      rw [hLd] at hd; cases hd
theorem tups_split {h : Heap} {vs : List Value} {ds : List Ent} (hT : Tups h vs ds) (hv : vs ≠ []) (hd : ds ≠ []) : Tups h vs.dropLast ds.dropLast ∧ TupAt h (vs.getLast hv) (ds.getLast hd) := by
  have hl := hT.1
  refine ⟨⟨by simp [hl], fun i d hi => ?_⟩, ?_⟩
  · have hlt : i < ds.dropLast.length := (List.getElem?_eq_some_iff.mp hi).1
    rw [List.length_dropLast] at hlt
    obtain ⟨v, h1, h2⟩ := hT.2 i d (by rw [List.getElem?_dropLast] at hi; rw [if_pos hlt] at hi; exact hi)
    exact ⟨v, by rw [List.getElem?_dropLast, if_pos (by omega)]; exact h1, h2⟩
  · obtain ⟨v, h1, h2⟩ := hT.2 (ds.length - 1) (ds.getLast hd) (by rw [List.getLast_eq_getElem, List.getElem?_eq_getElem])
    have : v = vs.getLast hv := by
      have h3 : vs[vs.length - 1]? = some (vs.getLast hv) := by rw [List.getLast_eq_getElem, List.getElem?_eq_getElem]
      rw [hl] at h3
      rw [h3] at h1
      exact (Option.some.inj h1).symm
    exact this ▸ h2
theorem tups_snoc {h : Heap} {vs : List Value} {ds : List Ent} {v : Value} {d : Ent} (hT : Tups h vs ds) (hv : TupAt h v d) : Tups h (vs ++ [v]) (ds ++ [d]) := by
  refine ⟨by simp [hT.1], fun i d' hi => ?_⟩
  rcases Nat.lt_or_ge i ds.length with q | q
  · rw [List.getElem?_append_left q] at hi
    obtain ⟨v', h1, h2⟩ := hT.2 i d' hi
    exact ⟨v', by rw [List.getElem?_append_left (by rw [hT.1]; exact q)]; exact h1, h2⟩
  · rw [List.getElem?_append_right q] at hi
    have : i - ds.length = 0 := by
      have := (List.getElem?_eq_some_iff.mp hi).1
      simp at this
      omega
    rw [this] at hi
    simp at hi
    subst hi
    exact ⟨v, by rw [List.getElem?_append_right (by rw [hT.1]; exact q), hT.1, this]; rfl, hv⟩
theorem heapreplace_c2 {w : World} {p : Program} {loose : List Str} {mean : ExcName → Option Value} {mg mb : Str → Option Value}
    {hd : Option Value} {dp un : Nat} {gd : Option (List Code)} {cn : Str} {cs : Scope} {L a : Addr} {ccd : Value} {cl : List (Str × Addr)} {outer : List Env} {A₀ : Around} {base h₀ : Heap} {m : Str → Option Value} {s : Shared} {Q E : Value → Shared → Prop}
    {hp it : Addr} {n : Nat} {vs : List Value} {ds : List Ent} {d1 d2 d3 : Int} {t1 t2 t3 : Tok} {news : List (Addr × Obj)}
    (B : Below A₀ base outer h₀) (F : Fr h₀ L s.heap m) (X : (hd35.heap_39 w.params).In h₀) (T : Top p loose mean mg mb h₀) (hk : cs.kind = .function)
    (N : News h₀ L s.heap news) (mh : (hp, listOf vs.toArray n) ∈ news) (mi : (it, tupOf [.int d1 t1, .int d2 t2, .int d3 t3]) ∈ news)
    (hT : Tups h₀ vs ds) (hpos : 0 < vs.length) (hlen : vs.length < 2 ^ 20)
    (hdp : dp + 3 < recursionLimit) (hu : un + 24 < cLine)
    (hret : ∀ r vs' h' tk', Pres hp s.heap h' → h'.get? hp = some (listOf vs'.toArray n) → (∀ h'' m'', Fr h₀ L h'' m'' → h''.get? it = some (tupOf [.int d1 t1, .int d2 t2, .int d3 t3]) → Tups h'' vs' (upF (ds.set 0 (d1, d2, d3)) 0)) → vs'.length = vs.length → Q r { s with heap := h', toks := tk' }) :
    wpAny (model PySem.Challenge.rw_om0035_01.row.prog w) (MTop hd dp un gd cn cs L a ccd cl outer) (call (.ref 28) [.ref hp, .ref it]) Q E s := by
  obtain ⟨hr, r1, r2⟩ := part_of h₀ s.heap [it]
  have hT' : Tups hr vs ds := by
    refine ⟨hT.1, fun i d hd => ?_⟩
    obtain ⟨v, hv, b, u1, u2, u3, rfl, hb⟩ := hT.2 i d hd
    exact ⟨_, hv, b, u1, u2, u3, rfl, r2 _ _ (F.keep _ _ hb) (.inl (by rw [hb]; exact fun z => nomatch z))⟩
  refine heapreplace_c (d := (d1, d2, d3)) B F X T hk (news_one N mh) (hr := hr) (fun b o hb _ => (r1 b o hb).1) hT' ⟨it, t1, t2, t3, rfl, r2 _ _ (N _ mi).1 (.inr (.head _))⟩ hpos hlen hdp hu ?_
  intro r vs' h' tk' P hg hT9 hl
  refine hret r vs' h' tk' P hg (fun h'' m'' F'' hit => ?_) hl
  refine ⟨hT9.1, fun i d hd => ?_⟩
  obtain ⟨v, hv, b, u1, u2, u3, rfl, hb⟩ := hT9.2 i d hd
  refine ⟨_, hv, b, u1, u2, u3, rfl, ?_⟩
  obtain ⟨hb1, hb2⟩ := r1 _ _ hb
  cases hq : h₀.get? b with
  | some o =>
    have := F.keep _ _ hq
    rw [hb1] at this
    cases this
    exact F''.keep _ _ hq
  | none =>
    rcases hb2 with hb2 | hb2
    · exact absurd hq hb2
    · obtain rfl := List.mem_singleton.mp hb2
      have := (N _ mi).1
      rw [hb1] at this
      cases this
      exact hit
theorem turnF_pop {text x : Str} {ws : List Str} {e b k place place' : Nat} {r tds tds' : List Ent} (hx : ws[k]? = some x) (hp' : place' = if (place : Int) ≤ b then e else place) (ht' : tds' = if (place : Int) ≤ b then tds ++ [((e : Int), (b : Int), (k : Int))] else tds) (hlt : nextF text place' x < 0) (hne : ((e : Int), (b : Int), (k : Int)) :: r ≠ []) :
    turnF text ws (((e : Int), (b : Int), (k : Int)) :: r) place tds = (if (((e : Int), (b : Int), (k : Int)) :: r).dropLast = [] then [] else upF ((((e : Int), (b : Int), (k : Int)) :: r).dropLast.set 0 ((((e : Int), (b : Int), (k : Int)) :: r).getLast hne)) 0, place', tds') := by
  subst hp' ht'
  have hg : ws.getD k Str.empty = x := by rw [List.getD_eq_getElem?_getD, hx]; rfl
  unfold turnF
  simp only [ge_iff_le, Int.toNat_natCast, hg]
  rw [if_pos hlt]
theorem turnF_rep {text x : Str} {ws : List Str} {e b k place place' : Nat} {r tds tds' : List Ent} (hx : ws[k]? = some x) (hp' : place' = if (place : Int) ≤ b then e else place) (ht' : tds' = if (place : Int) ≤ b then tds ++ [((e : Int), (b : Int), (k : Int))] else tds) (hlt : ¬ nextF text place' x < 0) :
    turnF text ws (((e : Int), (b : Int), (k : Int)) :: r) place tds = (upF ((((e : Int), (b : Int), (k : Int)) :: r).set 0 (nextF text place' x + x.length, nextF text place' x, (k : Int))) 0, place', tds') := by
  subst hp' ht'
  have hg : ws.getD k Str.empty = x := by rw [List.getD_eq_getElem?_getD, hx]; rfl
  unfold turnF
  simp only [ge_iff_le, Int.toNat_natCast, hg]
  rw [if_neg hlt]
theorem turn_end {h₀ H g g' h : Heap} {L L' : Addr} {m : Str → Option Value} {fs : List Addr} {news : List (Addr × Obj)} {ps ps' : Array Value} {hp st tka tna wl st' tka' tna' : Addr} {oh os ok on ow : Obj} {place' : Nat} {t' : Tok} {n' n1' n2' : Nat} {vs' tks' tns' : List Value} {ds' tds' : List Ent}
    (N₀ : News h₀ L H [(80, tabObj ps), (hp, oh), (st, os), (tka, ok), (tna, on), (wl, ow)]) (GS : GSub H g [80, hp, st, tka, tna, wl]) (TT : KtsTurn fs g g') (F : Fr g' L' h m) (N : News g' L' h news)
    (m8 : (80, tabObj ps') ∈ news) (mh : (hp, listOf vs'.toArray n') ∈ news) (ms : (st, os) ∈ news) (mk : (tka, ok) ∈ news) (mn : (tna, on) ∈ news) (mw : (wl, ow) ∈ news)
    (ms' : (st', tupOf [.ref hp, .int place' t', .ref tka', .ref tna']) ∈ news) (mk' : (tka', listOf tks'.toArray n1') ∈ news) (mn' : (tna', listOf tns'.toArray n2') ∈ news)
    (hps : TabPs h ps') (hT : Tups h vs' ds') (hTt : Tups h tks' tds') (f1 : st' ∉ [80, hp, st, tka, tna, wl]) (f2 : tna' ∉ [80, hp, st, tka, tna, wl]) (f3 : tka' = tka ∨ tka' ∉ [80, hp, st, tka, tna, wl]) (f4 : tna' ≠ tka') :
    TurnPost fs H h hp tka ds' place' tds' tns' st' := by
  refine ⟨presX_end N₀ GS TT F N ?_, ⟨ps', (N _ m8).1, hps⟩, fresh_of GS TT N ms' f1, t', n', vs', tka', n1', tks', tna', n2', (N _ ms').1, (N _ mh).1, hT, (N _ mk').1, hTt, (N _ mn').1, fresh_of GS TT N mn' f2, f3.imp id (fun f => fresh_of GS TT N mk' f), f4⟩
  refine all6 ?_ ?_ ?_ ?_ ?_ ?_
  · exact .inr ⟨.head _, _, m8⟩
  · exact .inr ⟨.tail _ (.head _), _, mh⟩
  · exact .inl ms
  · exact .inl mk
  · exact .inl mn
  · exact .inl mw
end Mine
end

/- D5 -/
section
open PySem PySem.W PyProof.Rows PySem.Calls PySem.Spec
set_option maxRecDepth 100000
set_option maxHeartbeats 4000000
namespace Mine
theorem fillD5 (w : World) (h : Heap) : (hd35.heap_39 w.params).In h → model PySem.Challenge.rw_om0035_01.row.prog w = model PySem.Challenge.rw_om0035_01.row.prog w := by
  k_fill
  intro _
  rfl
section
local macro_rules | `(tactic| walk_at "subscriptTail Name Name ref int") => `(tactic| refine Mine.Halt.mk ?_)
local macro_rules | `(tactic| walk_at "binaryOp Add ref ref") => `(tactic| refine Mine.Halt.mk ?_)
namespace turn_c_k
noncomputable def PP (w : World) (p : Program) (loose : List Str) (mean : ExcName → Option Value) (mg : Str → Option Value) (mb : Str → Option Value) (dp : Nat) (un : Nat) (gd : Option (List Code)) (cn : Str) (cs : Scope) (L : Addr) (a : Addr) (ccd : Value) (cl : List (Str × Addr)) (outer : List Env) (A₀ : Around) (base : Heap) (h₀ : Heap) (m : Str → Option Value) (s : Shared) (Q : Value → Shared → Prop) (E : Value → Shared → Prop) (text : Str) (place : Nat) (turn : Int) (t0 : Tok) (t1 : Tok) (tp : Tok) (ps : Array Value) (hp : Addr) (st : Addr) (tka : Addr) (tna : Addr) (wl : Addr) (n : Nat) (n1 : Nat) (n2 : Nat) (n3 : Nat) (tks : List Value) (tns : List Value) (wvs : List Value) (ws : List Str) : Prop := ∀ (vs : List Value) (ds : List Ent) (tds : List Ent) (B : Below A₀ base outer h₀) (F : Fr h₀ L s.heap m) (XB : (hd35.heap_39 w.params).In base) (TB : Top p loose mean mg mb base) (D : KtsDicts (frs outer) h₀) (hk : cs.kind = .function) (N : News h₀ L s.heap [(80, tabObj ps), (hp, listOf vs.toArray n), (st, tupOf [.ref hp, .int place tp, .ref tka, .ref tna]), (tka, listOf tks.toArray n1), (tna, listOf tns.toArray n2), (wl, listOf wvs.toArray n3)]) (hps : TabPs s.heap ps) (hasc : text.cps.all (· < 128) = true) (hlt : text.length ≤ 9) (hnl : 10 ∉ text.cps.toList) (hp1 : place ≤ text.length) (hT : Tups s.heap vs ds) (hTt : Tups s.heap tks tds) (hd : ∀ d ∈ ds, ∃ e b k : Nat, d = ((e : Int), (b : Int), (k : Int)) ∧ e ≤ text.length ∧ k < ws.length) (hW : WordsAt wvs ws) (hwl : ws.length ≤ 4) (hwr : ∀ x ∈ ws, x.length ≤ 3 ∧ (reprText x).length ≤ 40) (dis : @Ne Nat hp 80 ∧ @Ne Nat st 80 ∧ @Ne Nat tka 80 ∧ @Ne Nat tna 80 ∧ @Ne Nat wl 80 ∧ @Ne Nat hp st ∧ @Ne Nat hp tka ∧ @Ne Nat hp tna ∧ @Ne Nat hp wl) (hvl : vs.length ≤ 4) (htl : tks.length ≤ 40) (htn : tns.length ≤ 40) (hdp : dp + 9 < recursionLimit) (hu : un + 80 < cLine) (hret : ∀ st' h' tk', TurnPost (frs (envX cn cs L a ccd cl :: outer)) s.heap h' hp tka (turnF text ws ds place tds).1 (turnF text ws ds place tds).2.1 (turnF text ws ds place tds).2.2 (tns ++ [.int turn t1]) st' → Q (.ref st') { s with heap := h', toks := tk' }), wpAny (model PySem.Challenge.rw_om0035_01.row.prog w) (MTop none dp un gd cn cs L a ccd cl outer) (call (.ref 116) [.ref st, .int turn t1, .str text t0, .ref wl]) Q E s
noncomputable def QQ (cc : (World) × (Program) × (List Str) × (ExcName → Option Value) × (Str → Option Value) × (Str → Option Value) × (Nat) × (Nat) × (Option (List Code)) × (Str) × (Scope) × (Addr) × (Addr) × (Value) × (List (Str × Addr)) × (List Env) × (Around) × (Heap) × (Heap) × (Str → Option Value) × (Shared) × (Value → Shared → Prop) × (Value → Shared → Prop) × (Str) × (Nat) × (Int) × (Tok) × (Tok) × (Tok) × (Array Value) × (Addr) × (Addr) × (Addr) × (Addr) × (Addr) × (Nat) × (Nat) × (Nat) × (Nat) × (List Value) × (List Value) × (List Value) × (List Str)) : Prop := PP (cc.1) (cc.2.1) (cc.2.2.1) (cc.2.2.2.1) (cc.2.2.2.2.1) (cc.2.2.2.2.2.1) (cc.2.2.2.2.2.2.1) (cc.2.2.2.2.2.2.2.1) (cc.2.2.2.2.2.2.2.2.1) (cc.2.2.2.2.2.2.2.2.2.1) (cc.2.2.2.2.2.2.2.2.2.2.1) (cc.2.2.2.2.2.2.2.2.2.2.2.1) (cc.2.2.2.2.2.2.2.2.2.2.2.2.1) (cc.2.2.2.2.2.2.2.2.2.2.2.2.2.1) (cc.2.2.2.2.2.2.2.2.2.2.2.2.2.2.1) (cc.2.2.2.2.2.2.2.2.2.2.2.2.2.2.2.1) (cc.2.2.2.2.2.2.2.2.2.2.2.2.2.2.2.2.1) (cc.2.2.2.2.2.2.2.2.2.2.2.2.2.2.2.2.2.1) (cc.2.2.2.2.2.2.2.2.2.2.2.2.2.2.2.2.2.2.1) (cc.2.2.2.2.2.2.2.2.2.2.2.2.2.2.2.2.2.2.2.1) (cc.2.2.2.2.2.2.2.2.2.2.2.2.2.2.2.2.2.2.2.2.1) (cc.2.2.2.2.2.2.2.2.2.2.2.2.2.2.2.2.2.2.2.2.2.1) (cc.2.2.2.2.2.2.2.2.2.2.2.2.2.2.2.2.2.2.2.2.2.2.1) (cc.2.2.2.2.2.2.2.2.2.2.2.2.2.2.2.2.2.2.2.2.2.2.2.1) (cc.2.2.2.2.2.2.2.2.2.2.2.2.2.2.2.2.2.2.2.2.2.2.2.2.1) (cc.2.2.2.2.2.2.2.2.2.2.2.2.2.2.2.2.2.2.2.2.2.2.2.2.2.1) (cc.2.2.2.2.2.2.2.2.2.2.2.2.2.2.2.2.2.2.2.2.2.2.2.2.2.2.1) (cc.2.2.2.2.2.2.2.2.2.2.2.2.2.2.2.2.2.2.2.2.2.2.2.2.2.2.2.1) (cc.2.2.2.2.2.2.2.2.2.2.2.2.2.2.2.2.2.2.2.2.2.2.2.2.2.2.2.2.1) (cc.2.2.2.2.2.2.2.2.2.2.2.2.2.2.2.2.2.2.2.2.2.2.2.2.2.2.2.2.2.1) (cc.2.2.2.2.2.2.2.2.2.2.2.2.2.2.2.2.2.2.2.2.2.2.2.2.2.2.2.2.2.2.1) (cc.2.2.2.2.2.2.2.2.2.2.2.2.2.2.2.2.2.2.2.2.2.2.2.2.2.2.2.2.2.2.2.1) (cc.2.2.2.2.2.2.2.2.2.2.2.2.2.2.2.2.2.2.2.2.2.2.2.2.2.2.2.2.2.2.2.2.1) (cc.2.2.2.2.2.2.2.2.2.2.2.2.2.2.2.2.2.2.2.2.2.2.2.2.2.2.2.2.2.2.2.2.2.1) (cc.2.2.2.2.2.2.2.2.2.2.2.2.2.2.2.2.2.2.2.2.2.2.2.2.2.2.2.2.2.2.2.2.2.2.1) (cc.2.2.2.2.2.2.2.2.2.2.2.2.2.2.2.2.2.2.2.2.2.2.2.2.2.2.2.2.2.2.2.2.2.2.2.1) (cc.2.2.2.2.2.2.2.2.2.2.2.2.2.2.2.2.2.2.2.2.2.2.2.2.2.2.2.2.2.2.2.2.2.2.2.2.1) (cc.2.2.2.2.2.2.2.2.2.2.2.2.2.2.2.2.2.2.2.2.2.2.2.2.2.2.2.2.2.2.2.2.2.2.2.2.2.1) (cc.2.2.2.2.2.2.2.2.2.2.2.2.2.2.2.2.2.2.2.2.2.2.2.2.2.2.2.2.2.2.2.2.2.2.2.2.2.2.1) (cc.2.2.2.2.2.2.2.2.2.2.2.2.2.2.2.2.2.2.2.2.2.2.2.2.2.2.2.2.2.2.2.2.2.2.2.2.2.2.2.1) (cc.2.2.2.2.2.2.2.2.2.2.2.2.2.2.2.2.2.2.2.2.2.2.2.2.2.2.2.2.2.2.2.2.2.2.2.2.2.2.2.2.1) (cc.2.2.2.2.2.2.2.2.2.2.2.2.2.2.2.2.2.2.2.2.2.2.2.2.2.2.2.2.2.2.2.2.2.2.2.2.2.2.2.2.2.1) (cc.2.2.2.2.2.2.2.2.2.2.2.2.2.2.2.2.2.2.2.2.2.2.2.2.2.2.2.2.2.2.2.2.2.2.2.2.2.2.2.2.2.2)
@[irreducible] noncomputable def cc : (World) × (Program) × (List Str) × (ExcName → Option Value) × (Str → Option Value) × (Str → Option Value) × (Nat) × (Nat) × (Option (List Code)) × (Str) × (Scope) × (Addr) × (Addr) × (Value) × (List (Str × Addr)) × (List Env) × (Around) × (Heap) × (Heap) × (Str → Option Value) × (Shared) × (Value → Shared → Prop) × (Value → Shared → Prop) × (Str) × (Nat) × (Int) × (Tok) × (Tok) × (Tok) × (Array Value) × (Addr) × (Addr) × (Addr) × (Addr) × (Addr) × (Nat) × (Nat) × (Nat) × (Nat) × (List Value) × (List Value) × (List Value) × (List Str) := eps (by (repeat' first | exact neW | exact neA | exact neS | refine neP ?_ ?_ | infer_instance)) QQ
@[irreducible] noncomputable def w : World := cc.1
@[irreducible] noncomputable def text : Str := cc.2.2.2.2.2.2.2.2.2.2.2.2.2.2.2.2.2.2.2.2.2.2.2.1
@[irreducible] noncomputable def place : Nat := cc.2.2.2.2.2.2.2.2.2.2.2.2.2.2.2.2.2.2.2.2.2.2.2.2.1
@[irreducible] noncomputable def t1 : Tok := cc.2.2.2.2.2.2.2.2.2.2.2.2.2.2.2.2.2.2.2.2.2.2.2.2.2.2.2.1
@[irreducible] noncomputable def tp : Tok := cc.2.2.2.2.2.2.2.2.2.2.2.2.2.2.2.2.2.2.2.2.2.2.2.2.2.2.2.2.1
@[irreducible] noncomputable def ps : Array Value := cc.2.2.2.2.2.2.2.2.2.2.2.2.2.2.2.2.2.2.2.2.2.2.2.2.2.2.2.2.2.1
@[irreducible] noncomputable def hp : Addr := cc.2.2.2.2.2.2.2.2.2.2.2.2.2.2.2.2.2.2.2.2.2.2.2.2.2.2.2.2.2.2.1
@[irreducible] noncomputable def st : Addr := cc.2.2.2.2.2.2.2.2.2.2.2.2.2.2.2.2.2.2.2.2.2.2.2.2.2.2.2.2.2.2.2.1
@[irreducible] noncomputable def tka : Addr := cc.2.2.2.2.2.2.2.2.2.2.2.2.2.2.2.2.2.2.2.2.2.2.2.2.2.2.2.2.2.2.2.2.1
@[irreducible] noncomputable def tna : Addr := cc.2.2.2.2.2.2.2.2.2.2.2.2.2.2.2.2.2.2.2.2.2.2.2.2.2.2.2.2.2.2.2.2.2.1
@[irreducible] noncomputable def wl : Addr := cc.2.2.2.2.2.2.2.2.2.2.2.2.2.2.2.2.2.2.2.2.2.2.2.2.2.2.2.2.2.2.2.2.2.2.1
@[irreducible] noncomputable def n : Nat := cc.2.2.2.2.2.2.2.2.2.2.2.2.2.2.2.2.2.2.2.2.2.2.2.2.2.2.2.2.2.2.2.2.2.2.2.1
@[irreducible] noncomputable def n1 : Nat := cc.2.2.2.2.2.2.2.2.2.2.2.2.2.2.2.2.2.2.2.2.2.2.2.2.2.2.2.2.2.2.2.2.2.2.2.2.1
@[irreducible] noncomputable def n2 : Nat := cc.2.2.2.2.2.2.2.2.2.2.2.2.2.2.2.2.2.2.2.2.2.2.2.2.2.2.2.2.2.2.2.2.2.2.2.2.2.1
@[irreducible] noncomputable def n3 : Nat := cc.2.2.2.2.2.2.2.2.2.2.2.2.2.2.2.2.2.2.2.2.2.2.2.2.2.2.2.2.2.2.2.2.2.2.2.2.2.2.1
@[irreducible] noncomputable def tks : List Value := cc.2.2.2.2.2.2.2.2.2.2.2.2.2.2.2.2.2.2.2.2.2.2.2.2.2.2.2.2.2.2.2.2.2.2.2.2.2.2.2.1
@[irreducible] noncomputable def tns : List Value := cc.2.2.2.2.2.2.2.2.2.2.2.2.2.2.2.2.2.2.2.2.2.2.2.2.2.2.2.2.2.2.2.2.2.2.2.2.2.2.2.2.1
@[irreducible] noncomputable def wvs : List Value := cc.2.2.2.2.2.2.2.2.2.2.2.2.2.2.2.2.2.2.2.2.2.2.2.2.2.2.2.2.2.2.2.2.2.2.2.2.2.2.2.2.2.1
@[irreducible] noncomputable def ws : List Str := cc.2.2.2.2.2.2.2.2.2.2.2.2.2.2.2.2.2.2.2.2.2.2.2.2.2.2.2.2.2.2.2.2.2.2.2.2.2.2.2.2.2.2
noncomputable def stg : PSigma fun R : (List Value) → (List Ent) → (List Ent) → (Heap) → (Addr) → (Heap) → Prop => (∀ vs ds tds g L' h₁, R vs ds tds g L' h₁) → PP w (cc.2.1) (cc.2.2.1) (cc.2.2.2.1) (cc.2.2.2.2.1) (cc.2.2.2.2.2.1) (cc.2.2.2.2.2.2.1) (cc.2.2.2.2.2.2.2.1) (cc.2.2.2.2.2.2.2.2.1) (cc.2.2.2.2.2.2.2.2.2.1) (cc.2.2.2.2.2.2.2.2.2.2.1) (cc.2.2.2.2.2.2.2.2.2.2.2.1) (cc.2.2.2.2.2.2.2.2.2.2.2.2.1) (cc.2.2.2.2.2.2.2.2.2.2.2.2.2.1) (cc.2.2.2.2.2.2.2.2.2.2.2.2.2.2.1) (cc.2.2.2.2.2.2.2.2.2.2.2.2.2.2.2.1) (cc.2.2.2.2.2.2.2.2.2.2.2.2.2.2.2.2.1) (cc.2.2.2.2.2.2.2.2.2.2.2.2.2.2.2.2.2.1) (cc.2.2.2.2.2.2.2.2.2.2.2.2.2.2.2.2.2.2.1) (cc.2.2.2.2.2.2.2.2.2.2.2.2.2.2.2.2.2.2.2.1) (cc.2.2.2.2.2.2.2.2.2.2.2.2.2.2.2.2.2.2.2.2.1) (cc.2.2.2.2.2.2.2.2.2.2.2.2.2.2.2.2.2.2.2.2.2.1) (cc.2.2.2.2.2.2.2.2.2.2.2.2.2.2.2.2.2.2.2.2.2.2.1) text place (cc.2.2.2.2.2.2.2.2.2.2.2.2.2.2.2.2.2.2.2.2.2.2.2.2.2.1) (cc.2.2.2.2.2.2.2.2.2.2.2.2.2.2.2.2.2.2.2.2.2.2.2.2.2.2.1) t1 tp ps hp st tka tna wl n n1 n2 n3 tks tns wvs ws := by
  refine' PSigma.mk _ (fun hR => ?_)
  rotate_left
  unfold PP
  intro vs ds tds B F XB TB D hk N hps hasc hlt hnl hp1 hT hTt hd hW hwl hwr dis hvl htl htn hdp hu hret
  w_on
  refine wpAny_call ?_
  k_dflt (refine' enterM B F XB TB D N rfl rfl hk ?k6 ?k7 ?k8 ?k9 ?kB ?_ ?c2 ?c3 ?c4 ?c5; (case k6 => k_is); (case k7 => k_is); (case k8 => ktr_room); (case k9 => exact BindsTo.of_eq rfl); (case c5 => decide); (case kB => exact locs rfl); (case c2 => exact rfl); (case c3 => exact rfl); (case c4 => exact rfl))
  intro g L' h₁
  revert B F XB TB D hk N hps hasc hlt hnl hp1 hT hTt hd hW hwl hwr dis hvl htl htn hdp hu hret
  exact hR vs ds tds g L' h₁
noncomputable def Q2 (cd : (Heap) × (Addr) × (Heap)) : Prop := ∀ (vs : List Value), ∀ (ds : List Ent), ∀ (tds : List Ent), stg.1 vs ds tds (cd.1) (cd.2.1) (cd.2.2)
@[irreducible] noncomputable def cd : (Heap) × (Addr) × (Heap) := eps (by (repeat' first | exact neW | exact neA | exact neS | refine neP ?_ ?_ | infer_instance)) Q2
@[irreducible] noncomputable def g : Heap := cd.1
@[irreducible] noncomputable def L' : Addr := cd.2.1
@[irreducible] noncomputable def h₁ : Heap := cd.2.2
noncomputable def walk2_s : PSigma fun R0 : (List Ent) → (List Ent) → (Nat) → (Nat) → (Nat) → (List Value) → (Addr) → (Tok) → (Tok) → (Tok) → (Str) → (Tok) → (Nat) → (Addr) → (Addr) → (Addr) → (Heap) → (Tok) → (Heap) → (Nat) → (Array Value) → (Heap) → (Addr) → (Obj) → Prop => PSigma fun R1 : (List Ent) → (List Ent) → (Nat) → (Nat) → (Nat) → (List Value) → (Addr) → (Tok) → (Tok) → (Tok) → (Str) → (Tok) → (Heap) → (Nat) → (Tok) → (Heap) → (Nat) → (Array Value) → (Heap) → (Addr) → (Obj) → Prop => (∀ tds r e b k vr b0 u1 u2 u3 x tx tk z9 z6 Da z3 tn h5 tk5 ps5 g5 cx ox, R0 tds r e b k vr b0 u1 u2 u3 x tx tk z9 z6 Da z3 tn h5 tk5 ps5 g5 cx ox) → (∀ tds r e b k vr b0 u1 u2 u3 x tx z4 tk tn h5 tk5 ps5 g5 cx ox, R1 tds r e b k vr b0 u1 u2 u3 x tx z4 tk tn h5 tk5 ps5 g5 cx ox) → (∀ (vs : List Value), ∀ (ds : List Ent), ∀ (tds : List Ent), stg.1 vs ds tds g L' h₁) := by
  refine' (PSigma.mk _ (PSigma.mk _ (fun hR0 hR1 => ?_)))
  rotate_left 2
  focus
    intro vs ds tds B F XB TB D hk N hps hasc hlt hnl hp1 hT hTt hd hW hwl hwr dis hvl htl htn hdp hu hret F' N' B' X' T' GS D'
    have hn8 : g.get? 80 = none ∧ (80 : Addr) ≠ L' := ⟨(N' _ (.head _)).2.2, (N' _ (.head _)).2.1⟩
    k_steps
    refine len_at (by k_asm) (by k_mem) (by omega) ?_
    have hfl : ∀ q ∈ ([(80, tabObj ps), (hp, listOf vs.toArray n), (st, tupOf [.ref hp, .int place tp, .ref tka, .ref tna]), (tka, listOf tks.toArray n1), (tna, listOf tns.toArray n2), (wl, listOf wvs.toArray n3)] : List (Addr × Obj)), q.1 ≠ 80 → ∀ vs, q.2.data ≠ .fields vs := by
      refine all6 ?_ ?_ ?_ ?_ ?_ ?_ <;> intro h8 vs e <;> first | exact h8 rfl | cases e
    have hno : ∀ q ∈ ([(80, tabObj ps), (hp, listOf vs.toArray n), (st, tupOf [.ref hp, .int place tp, .ref tka, .ref tna]), (tka, listOf tks.toArray n1), (tna, listOf tns.toArray n2), (wl, listOf wvs.toArray n3)] : List (Addr × Obj)), TupNo q.2 := by
      refine all6 ?_ ?_ ?_ ?_ ?_ ?_ <;> intro x y z t1 t2 t3 e <;> first | exact absurd (congrArg Obj.cls e) (fun q => by injection q with q; exact absurd q (by decide))| (have q := congrArg Obj.data e; simp at q; done)
    have hTg := tups_ground N hno GS hT
    have hTtg := tups_ground N hno GS hTt
    cases ds with
    | nil =>
      have hv0 : vs = [] := List.eq_nil_of_length_eq_zero hT.1
      subst hv0
      k_steps
      refine Halt.out ?_
      k_dflt (refine cat_at (by k_asm) (by k_asm) (by k_mem) (by k_mem) ?_ (by simp only [List.length_cons, List.length_nil, List.length_append]; omega))
      intro Da ha Fa Na l1
      k_lt l1
      k_sweep
      k_steps
      refine hret _ _ _ (turn_end (vs' := []) (tks' := tks) N GS KtsTurn.refl (by k_asm) (by k_asm) (by k_mem) (by k_mem) (by k_mem) (by k_mem) (by k_mem) (by k_mem) (by k_mem) (by k_mem) (by k_mem) (tabPs_gs hps N hfl GS (by k_asm)) ⟨rfl, fun i d h => by simp [turnF] at h⟩ (tups_up (Fr.keep (by k_asm)) hTtg) ?_ ?_ (.inl rfl) ?_)
      · exact notIn6 (by omega)
      · exact notIn6 (by omega)
      · exact neOf (by omega)
    | cons d r =>
      obtain ⟨e, b, k, rfl, he, hkk⟩ := hd d (.head _)
      obtain ⟨v0, vr, rfl⟩ : ∃ v0 vr, vs = v0 :: vr := by
        cases vs with
        | nil => have := hT.1; simp at this
        | cons v vr => exact ⟨v, vr, rfl⟩
      obtain ⟨v0', hv0, b0, u1, u2, u3, rfl, hgb⟩ := hTg.2 0 _ rfl
      dsimp only at hgb
      obtain rfl : v0 = .ref b0 := by simpa using hv0
      have hxk : ∃ x, ws[k]? = some x := ⟨ws[k], List.getElem?_eq_getElem hkk⟩
      obtain ⟨x, hx⟩ := hxk
      obtain ⟨tx, hwx⟩ := hW.2 k x hx
      have hxr := hwr x (List.mem_of_getElem? hx)
      have h80Y : ∀ b ∈ [(80 : Addr)], g.get? b = none ∧ b ≠ L' := fun b hb => by
        rw [List.mem_singleton.mp hb]
        exact hn8
      k_steps
      k_dflt (refine unpackN_ (by k_asm) (by k_asm) ⟨_, Fr.keep (by k_asm) _ _ hgb, rfl, 0, rfl⟩ rfl rfl rfl ?_)
      intro h3 F3 N3
      k_steps
      · have hge : (place : Int) ≤ b := by assumption
        refine Halt.out ?_
        k_dflt (refine cat_at (by k_asm) (by k_asm) (by k_mem) (by k_mem) ?_ (by simp only [List.length_cons, List.length_nil, List.length_append]; omega))
        intro Da ha Fa Na l1
        k_lt l1
        k_sweep
        k_steps
        refine Halt.out ?_
        refine sub_at k (by k_asm) (by k_mem) rfl hwx (by have := hW.1; omega) ?_
        k_steps
        refine Halt.out ?_
        k_dflt (refine next_c (place := e) B' (by k_asm) XB TB D' rfl (news_one (by k_asm) (by k_mem)) (tabPs_gs hps N hfl GS (by k_asm)) hasc hlt hnl hxr.2 he (by ktr_room) (by ktr_units) ?_)
        intro tn h5 tk5 P5 T5
        obtain ⟨ps5, h85, hps5⟩ := T5
        obtain ⟨g5, TT5, F5, B5, D5, X5, TP5, NN5⟩ := catch_ground (KF := hd35.heap_39 w.params) B' (by k_asm) (by k_asm) D' XB TB P5 h80Y
        have N5 := news_80 (o' := tabObj ps5) (by k_upd) (TT5.none_ _ hn8.1) hn8.2 h85 NN5
        clear NN5
        obtain ⟨cx, ox, N6, ⟨fx, hfx⟩, hcx⟩ := tab_item F5 N5 (by k_mem) hps5
        clear N5
        have hcxh : @Ne Nat cx hp := fun z => by
          have h1 := (N6 _ (.head _)).1
          have h2 : h5.get? hp = some (listOf (Value.ref b0 :: vr).toArray n) := News.get N6 (by k_mem)
          have z' : (cx, ox).1 = hp := z
          rw [z', h2] at h1
          cases h1
          cases hfx
        rename_i z9 _ z7 z6 _ z4 z3 _ _
        revert hW hwl dis htn hdp hu D' hTtg hret N hvl GS hTg hx hwx hxr z7 z4 hge l1 TT5 F5 B5 X5 TP5 N6 hcx hcxh
        exact hR0 tds r e b k vr b0 u1 u2 u3 x tx tk z9 z6 Da z3 tn h5 tk5 ps5 g5 cx ox
      · have hge : ¬ (place : Int) ≤ b := by assumption
        refine Halt.out ?_
        refine sub_at k (by k_asm) (by k_mem) rfl hwx (by have := hW.1; omega) ?_
        k_steps
        refine Halt.out ?_
        k_dflt (refine next_c (place := place) B' (by k_asm) XB TB D' rfl (news_one (by k_asm) (by k_mem)) (tabPs_gs hps N hfl GS (by k_asm)) hasc hlt hnl hxr.2 hp1 (by ktr_room) (by ktr_units) ?_)
        intro tn h5 tk5 P5 T5
        obtain ⟨ps5, h85, hps5⟩ := T5
        obtain ⟨g5, TT5, F5, B5, D5, X5, TP5, NN5⟩ := catch_ground (KF := hd35.heap_39 w.params) B' (by k_asm) (by k_asm) D' XB TB P5 h80Y
        have N5 := news_80 (o' := tabObj ps5) (by k_upd) (TT5.none_ _ hn8.1) hn8.2 h85 NN5
        clear NN5
        obtain ⟨cx, ox, N6, ⟨fx, hfx⟩, hcx⟩ := tab_item F5 N5 (by k_mem) hps5
        clear N5
        have hcxh : @Ne Nat cx hp := fun z => by
          have h1 := (N6 _ (.head _)).1
          have h2 : h5.get? hp = some (listOf (Value.ref b0 :: vr).toArray n) := News.get N6 (by k_mem)
          have z' : (cx, ox).1 = hp := z
          rw [z', h2] at h1
          cases h1
          cases hfx
        rename_i z4 _ _ _
        revert hW hwl dis htn hdp hu D' hTtg hret N hvl GS hTg hx hwx hxr hge TT5 F5 B5 X5 TP5 N6 hcx hcxh
        exact hR1 tds r e b k vr b0 u1 u2 u3 x tx z4 tk tn h5 tk5 ps5 g5 cx ox
      · exfalso
        have h0 : ¬ (0 : Int) < ((Value.ref b0 :: vr).length : Nat) := by assumption
        simp at h0
namespace walk2_0
noncomputable def QK (cdK : (List Ent) × (List Ent) × (Nat) × (Nat) × (Nat) × (List Value) × (Addr) × (Tok) × (Tok) × (Tok) × (Str) × (Tok) × (Nat) × (Addr) × (Addr) × (Addr) × (Heap) × (Tok) × (Heap) × (Nat) × (Array Value) × (Heap) × (Addr) × (Obj)) : Prop := walk2_s.1 (cdK.1) (cdK.2.1) (cdK.2.2.1) (cdK.2.2.2.1) (cdK.2.2.2.2.1) (cdK.2.2.2.2.2.1) (cdK.2.2.2.2.2.2.1) (cdK.2.2.2.2.2.2.2.1) (cdK.2.2.2.2.2.2.2.2.1) (cdK.2.2.2.2.2.2.2.2.2.1) (cdK.2.2.2.2.2.2.2.2.2.2.1) (cdK.2.2.2.2.2.2.2.2.2.2.2.1) (cdK.2.2.2.2.2.2.2.2.2.2.2.2.1) (cdK.2.2.2.2.2.2.2.2.2.2.2.2.2.1) (cdK.2.2.2.2.2.2.2.2.2.2.2.2.2.2.1) (cdK.2.2.2.2.2.2.2.2.2.2.2.2.2.2.2.1) (cdK.2.2.2.2.2.2.2.2.2.2.2.2.2.2.2.2.1) (cdK.2.2.2.2.2.2.2.2.2.2.2.2.2.2.2.2.2.1) (cdK.2.2.2.2.2.2.2.2.2.2.2.2.2.2.2.2.2.2.1) (cdK.2.2.2.2.2.2.2.2.2.2.2.2.2.2.2.2.2.2.2.1) (cdK.2.2.2.2.2.2.2.2.2.2.2.2.2.2.2.2.2.2.2.2.1) (cdK.2.2.2.2.2.2.2.2.2.2.2.2.2.2.2.2.2.2.2.2.2.1) (cdK.2.2.2.2.2.2.2.2.2.2.2.2.2.2.2.2.2.2.2.2.2.2.1) (cdK.2.2.2.2.2.2.2.2.2.2.2.2.2.2.2.2.2.2.2.2.2.2.2)
@[irreducible] noncomputable def cdK : (List Ent) × (List Ent) × (Nat) × (Nat) × (Nat) × (List Value) × (Addr) × (Tok) × (Tok) × (Tok) × (Str) × (Tok) × (Nat) × (Addr) × (Addr) × (Addr) × (Heap) × (Tok) × (Heap) × (Nat) × (Array Value) × (Heap) × (Addr) × (Obj) := eps (by (repeat' first | exact neW | exact neA | exact neS | refine neP ?_ ?_ | infer_instance)) QK
@[irreducible] noncomputable def tds : List Ent := cdK.1
@[irreducible] noncomputable def r : List Ent := cdK.2.1
@[irreducible] noncomputable def e : Nat := cdK.2.2.1
@[irreducible] noncomputable def b : Nat := cdK.2.2.2.1
@[irreducible] noncomputable def k : Nat := cdK.2.2.2.2.1
@[irreducible] noncomputable def vr : List Value := cdK.2.2.2.2.2.1
@[irreducible] noncomputable def b0 : Addr := cdK.2.2.2.2.2.2.1
@[irreducible] noncomputable def x : Str := cdK.2.2.2.2.2.2.2.2.2.2.1
@[irreducible] noncomputable def Da : Addr := cdK.2.2.2.2.2.2.2.2.2.2.2.2.2.2.2.1
@[irreducible] noncomputable def g5 : Heap := cdK.2.2.2.2.2.2.2.2.2.2.2.2.2.2.2.2.2.2.2.2.2.1
theorem walk : walk2_s.1 tds r e b k vr b0 (cdK.2.2.2.2.2.2.2.1) (cdK.2.2.2.2.2.2.2.2.1) (cdK.2.2.2.2.2.2.2.2.2.1) x (cdK.2.2.2.2.2.2.2.2.2.2.2.1) (cdK.2.2.2.2.2.2.2.2.2.2.2.2.1) (cdK.2.2.2.2.2.2.2.2.2.2.2.2.2.1) (cdK.2.2.2.2.2.2.2.2.2.2.2.2.2.2.1) Da (cdK.2.2.2.2.2.2.2.2.2.2.2.2.2.2.2.2.1) (cdK.2.2.2.2.2.2.2.2.2.2.2.2.2.2.2.2.2.1) (cdK.2.2.2.2.2.2.2.2.2.2.2.2.2.2.2.2.2.2.1) (cdK.2.2.2.2.2.2.2.2.2.2.2.2.2.2.2.2.2.2.2.1) (cdK.2.2.2.2.2.2.2.2.2.2.2.2.2.2.2.2.2.2.2.2.1) g5 (cdK.2.2.2.2.2.2.2.2.2.2.2.2.2.2.2.2.2.2.2.2.2.2.1) (cdK.2.2.2.2.2.2.2.2.2.2.2.2.2.2.2.2.2.2.2.2.2.2.2) := by
  intro hW hwl dis htn hdp hu D' hTtg hret N hvl GS hTg hx hwx hxr z7 z4 hge l1 TT5 F5 B5 X5 TP5 N6 hcx hcxh
  have hT5 := tups_turn D' TT5 hTg
  have hTt5 := tups_turn D' TT5 hTtg
  have hne1 : (Value.ref b0 :: vr) ≠ [] := by simp
  have hne2 : (((e : Int), (b : Int), (k : Int)) :: r) ≠ [] := by simp
  k_steps
  · refine Halt.out ?_
    have hlt : nextF text e x < 0 := by assumption
    obtain ⟨hTi, hTl⟩ := tups_split hT5 hne1 hne2
    have hN := news_one (q := (hp, listOf (Value.ref b0 :: vr).toArray n)) (by k_asm) (by k_mem)
    rw [← List.dropLast_concat_getLast hne1] at hN
    k_dflt (refine heappop_c B5 (by k_asm) X5 TP5 rfl hN (hr := g5) (fun b o hb _ => Fr.keep (by k_asm) _ _ hb) hTi hTl (by have := hvl; simp at this ⊢; omega) (by ktr_room) (by ktr_units) ?_)
    intro r9 vs9 h9 tk9 P9 hg9 hT9 hl9
    have F9 := pres_fr (by k_asm) hN P9
    clear hN
    have N9 := pres_updN (by k_asm) (o' := listOf vs9.toArray (n + 1)) (by k_upd) P9 hg9
    clear P9
    k_steps
    refine Halt.out ?_
    k_dflt (refine cat_at (by k_asm) (by k_asm) (by k_mem) (by k_mem) ?_ (by simp only [List.length_cons, List.length_nil, List.length_append]; omega))
    intro Da ha Fa Na l1
    k_lt l1
    k_sweep
    k_steps
    refine hret _ _ _ ?_
    rw [turnF_pop (place' := e) (tds' := tds ++ [((e : Int), (b : Int), (k : Int))]) hx (by rw [if_pos hge]) (by rw [if_pos hge]) hlt hne2]
    exact turn_end (vs' := vs9) (tks' := tks ++ [_]) N GS TT5 (by k_asm) (by k_asm) (by k_mem) (by k_mem) (by k_mem) (by k_mem) (by k_mem) (by k_mem) (by k_mem) (by k_mem) (by k_mem) (hcx _ _ (by k_asm) (News.get (by k_asm) (by k_mem))) (tups_up (Fr.keep (by k_asm)) hT9) (tups_snoc (tups_up (Fr.keep (by k_asm)) hTt5) ⟨_, _, _, _, rfl, News.get (by k_asm) (by k_mem)⟩) (notIn6 (by omega)) (notIn6 (by omega)) (.inr (notIn6 (by omega))) (neOf (by omega))
  · have hlt : ¬ nextF text e x < 0 := by assumption
    refine Halt.out ?_
    refine sub_at k (by k_asm) (by k_mem) rfl hwx (by have := hW.1; omega) ?_
    k_steps
    refine Halt.out ?_
    k_dflt (refine heapreplace_c2 B5 (by k_asm) X5 TP5 rfl (by k_asm) (by k_mem) (by k_mem) hT5 (by simp) (by omega) (by ktr_room) (by ktr_units) ?_)
    intro r9 vs9 h9 tk9 P9 hg9 hT9 hl9
    have F9 := pres_fr (by k_asm) (news_one (q := (hp, listOf (Value.ref b0 :: vr).toArray n)) (by k_asm) (by k_mem)) P9
    have N9 := pres_updN (by k_asm) (o' := listOf vs9.toArray n) (by k_upd) P9 hg9
    clear P9
    k_steps
    refine Halt.out ?_
    k_dflt (refine cat_at (by k_asm) (by k_asm) (by k_mem) (by k_mem) ?_ (by simp only [List.length_cons, List.length_nil, List.length_append]; omega))
    intro Da ha Fa Na l1
    k_lt l1
    k_sweep
    k_steps
    refine hret _ _ _ ?_
    rw [turnF_rep (place' := e) (tds' := tds ++ [((e : Int), (b : Int), (k : Int))]) hx (by rw [if_pos hge]) (by rw [if_pos hge]) hlt]
    exact turn_end (vs' := vs9) (tks' := tks ++ [_]) N GS TT5 (by k_asm) (by k_asm) (by k_mem) (by k_mem) (by k_mem) (by k_mem) (by k_mem) (by k_mem) (by k_mem) (by k_mem) (by k_mem) (hcx _ _ (by k_asm) (News.get (by k_asm) (by k_mem))) (hT9 _ _ (by k_asm) (News.get (by k_asm) (by k_mem))) (tups_snoc (tups_up (Fr.keep (by k_asm)) hTt5) ⟨_, _, _, _, rfl, News.get (by k_asm) (by k_mem)⟩) (notIn6 (by omega)) (notIn6 (by omega)) (.inr (notIn6 (by omega))) (neOf (by omega))
theorem q : QK cdK := by
  have h := walk
  unfold tds r e b k vr b0 x Da g5 at h
  exact h
theorem all : ∀ x, QK x := by
  have h := q
  unfold cdK at h
  exact eps_all h
end walk2_0
namespace walk2_1
noncomputable def QK (cdK : (List Ent) × (List Ent) × (Nat) × (Nat) × (Nat) × (List Value) × (Addr) × (Tok) × (Tok) × (Tok) × (Str) × (Tok) × (Heap) × (Nat) × (Tok) × (Heap) × (Nat) × (Array Value) × (Heap) × (Addr) × (Obj)) : Prop := walk2_s.2.1 (cdK.1) (cdK.2.1) (cdK.2.2.1) (cdK.2.2.2.1) (cdK.2.2.2.2.1) (cdK.2.2.2.2.2.1) (cdK.2.2.2.2.2.2.1) (cdK.2.2.2.2.2.2.2.1) (cdK.2.2.2.2.2.2.2.2.1) (cdK.2.2.2.2.2.2.2.2.2.1) (cdK.2.2.2.2.2.2.2.2.2.2.1) (cdK.2.2.2.2.2.2.2.2.2.2.2.1) (cdK.2.2.2.2.2.2.2.2.2.2.2.2.1) (cdK.2.2.2.2.2.2.2.2.2.2.2.2.2.1) (cdK.2.2.2.2.2.2.2.2.2.2.2.2.2.2.1) (cdK.2.2.2.2.2.2.2.2.2.2.2.2.2.2.2.1) (cdK.2.2.2.2.2.2.2.2.2.2.2.2.2.2.2.2.1) (cdK.2.2.2.2.2.2.2.2.2.2.2.2.2.2.2.2.2.1) (cdK.2.2.2.2.2.2.2.2.2.2.2.2.2.2.2.2.2.2.1) (cdK.2.2.2.2.2.2.2.2.2.2.2.2.2.2.2.2.2.2.2.1) (cdK.2.2.2.2.2.2.2.2.2.2.2.2.2.2.2.2.2.2.2.2)
@[irreducible] noncomputable def cdK : (List Ent) × (List Ent) × (Nat) × (Nat) × (Nat) × (List Value) × (Addr) × (Tok) × (Tok) × (Tok) × (Str) × (Tok) × (Heap) × (Nat) × (Tok) × (Heap) × (Nat) × (Array Value) × (Heap) × (Addr) × (Obj) := eps (by (repeat' first | exact neW | exact neA | exact neS | refine neP ?_ ?_ | infer_instance)) QK
@[irreducible] noncomputable def tds : List Ent := cdK.1
@[irreducible] noncomputable def r : List Ent := cdK.2.1
@[irreducible] noncomputable def e : Nat := cdK.2.2.1
@[irreducible] noncomputable def b : Nat := cdK.2.2.2.1
@[irreducible] noncomputable def k : Nat := cdK.2.2.2.2.1
@[irreducible] noncomputable def vr : List Value := cdK.2.2.2.2.2.1
@[irreducible] noncomputable def b0 : Addr := cdK.2.2.2.2.2.2.1
@[irreducible] noncomputable def x : Str := cdK.2.2.2.2.2.2.2.2.2.2.1
@[irreducible] noncomputable def g5 : Heap := cdK.2.2.2.2.2.2.2.2.2.2.2.2.2.2.2.2.2.2.1
theorem walk : walk2_s.2.1 tds r e b k vr b0 (cdK.2.2.2.2.2.2.2.1) (cdK.2.2.2.2.2.2.2.2.1) (cdK.2.2.2.2.2.2.2.2.2.1) x (cdK.2.2.2.2.2.2.2.2.2.2.2.1) (cdK.2.2.2.2.2.2.2.2.2.2.2.2.1) (cdK.2.2.2.2.2.2.2.2.2.2.2.2.2.1) (cdK.2.2.2.2.2.2.2.2.2.2.2.2.2.2.1) (cdK.2.2.2.2.2.2.2.2.2.2.2.2.2.2.2.1) (cdK.2.2.2.2.2.2.2.2.2.2.2.2.2.2.2.2.1) (cdK.2.2.2.2.2.2.2.2.2.2.2.2.2.2.2.2.2.1) g5 (cdK.2.2.2.2.2.2.2.2.2.2.2.2.2.2.2.2.2.2.2.1) (cdK.2.2.2.2.2.2.2.2.2.2.2.2.2.2.2.2.2.2.2.2) := by
  intro hW hwl dis htn hdp hu D' hTtg hret N hvl GS hTg hx hwx hxr hge TT5 F5 B5 X5 TP5 N6 hcx hcxh
  have hT5 := tups_turn D' TT5 hTg
  have hTt5 := tups_turn D' TT5 hTtg
  have hne1 : (Value.ref b0 :: vr) ≠ [] := by simp
  have hne2 : (((e : Int), (b : Int), (k : Int)) :: r) ≠ [] := by simp
  k_steps
  · refine Halt.out ?_
    have hlt : nextF text place x < 0 := by assumption
    obtain ⟨hTi, hTl⟩ := tups_split hT5 hne1 hne2
    have hN := news_one (q := (hp, listOf (Value.ref b0 :: vr).toArray n)) (by k_asm) (by k_mem)
    rw [← List.dropLast_concat_getLast hne1] at hN
    k_dflt (refine heappop_c B5 (by k_asm) X5 TP5 rfl hN (hr := g5) (fun b o hb _ => Fr.keep (by k_asm) _ _ hb) hTi hTl (by have := hvl; simp at this ⊢; omega) (by ktr_room) (by ktr_units) ?_)
    intro r9 vs9 h9 tk9 P9 hg9 hT9 hl9
    have F9 := pres_fr (by k_asm) hN P9
    clear hN
    have N9 := pres_updN (by k_asm) (o' := listOf vs9.toArray (n + 1)) (by k_upd) P9 hg9
    clear P9
    k_steps
    refine Halt.out ?_
    k_dflt (refine cat_at (by k_asm) (by k_asm) (by k_mem) (by k_mem) ?_ (by simp only [List.length_cons, List.length_nil, List.length_append]; omega))
    intro Da ha Fa Na l1
    k_lt l1
    k_sweep
    k_steps
    refine hret _ _ _ ?_
    rw [turnF_pop (place' := place) (tds' := tds) hx (by rw [if_neg hge]) (by rw [if_neg hge]) hlt hne2]
    exact turn_end (vs' := vs9) (tks' := tks) N GS TT5 (by k_asm) (by k_asm) (by k_mem) (by k_mem) (by k_mem) (by k_mem) (by k_mem) (by k_mem) (by k_mem) (by k_mem) (by k_mem) (hcx _ _ (by k_asm) (News.get (by k_asm) (by k_mem))) (tups_up (Fr.keep (by k_asm)) hT9) (tups_up (Fr.keep (by k_asm)) hTt5) (notIn6 (by omega)) (notIn6 (by omega)) (.inl rfl) (neOf (by omega))
  · have hlt : ¬ nextF text place x < 0 := by assumption
    refine Halt.out ?_
    refine sub_at k (by k_asm) (by k_mem) rfl hwx (by have := hW.1; omega) ?_
    k_steps
    refine Halt.out ?_
    k_dflt (refine heapreplace_c2 B5 (by k_asm) X5 TP5 rfl (by k_asm) (by k_mem) (by k_mem) hT5 (by simp) (by omega) (by ktr_room) (by ktr_units) ?_)
    intro r9 vs9 h9 tk9 P9 hg9 hT9 hl9
    have F9 := pres_fr (by k_asm) (news_one (q := (hp, listOf (Value.ref b0 :: vr).toArray n)) (by k_asm) (by k_mem)) P9
    have N9 := pres_updN (by k_asm) (o' := listOf vs9.toArray n) (by k_upd) P9 hg9
    clear P9
    k_steps
    refine Halt.out ?_
    k_dflt (refine cat_at (by k_asm) (by k_asm) (by k_mem) (by k_mem) ?_ (by simp only [List.length_cons, List.length_nil, List.length_append]; omega))
    intro Da ha Fa Na l1
    k_lt l1
    k_sweep
    k_steps
    refine hret _ _ _ ?_
    rw [turnF_rep (place' := place) (tds' := tds) hx (by rw [if_neg hge]) (by rw [if_neg hge]) hlt]
    exact turn_end (vs' := vs9) (tks' := tks) N GS TT5 (by k_asm) (by k_asm) (by k_mem) (by k_mem) (by k_mem) (by k_mem) (by k_mem) (by k_mem) (by k_mem) (by k_mem) (by k_mem) (hcx _ _ (by k_asm) (News.get (by k_asm) (by k_mem))) (hT9 _ _ (by k_asm) (News.get (by k_asm) (by k_mem))) (tups_up (Fr.keep (by k_asm)) hTt5) (notIn6 (by omega)) (notIn6 (by omega)) (.inl rfl) (neOf (by omega))
theorem q : QK cdK := by
  have h := walk
  unfold tds r e b k vr b0 x g5 at h
  exact h
theorem all : ∀ x, QK x := by
  have h := q
  unfold cdK at h
  exact eps_all h
end walk2_1
theorem walk2 : ∀ (vs : List Value), ∀ (ds : List Ent), ∀ (tds : List Ent), stg.1 vs ds tds g L' h₁ := walk2_s.2.2 (fun tds r e b k vr b0 u1 u2 u3 x tx tk z9 z6 Da z3 tn h5 tk5 ps5 g5 cx ox => walk2_0.all (tds, r, e, b, k, vr, b0, u1, u2, u3, x, tx, tk, z9, z6, Da, z3, tn, h5, tk5, ps5, g5, cx, ox)) (fun tds r e b k vr b0 u1 u2 u3 x tx z4 tk tn h5 tk5 ps5 g5 cx ox => walk2_1.all (tds, r, e, b, k, vr, b0, u1, u2, u3, x, tx, z4, tk, tn, h5, tk5, ps5, g5, cx, ox))
theorem q2 : Q2 cd := by
  have h := walk2
  unfold g L' h₁ at h
  exact h
theorem all2 : ∀ x, Q2 x := by
  have h := q2
  unfold cd at h
  exact eps_all h
theorem walk : PP w (cc.2.1) (cc.2.2.1) (cc.2.2.2.1) (cc.2.2.2.2.1) (cc.2.2.2.2.2.1) (cc.2.2.2.2.2.2.1) (cc.2.2.2.2.2.2.2.1) (cc.2.2.2.2.2.2.2.2.1) (cc.2.2.2.2.2.2.2.2.2.1) (cc.2.2.2.2.2.2.2.2.2.2.1) (cc.2.2.2.2.2.2.2.2.2.2.2.1) (cc.2.2.2.2.2.2.2.2.2.2.2.2.1) (cc.2.2.2.2.2.2.2.2.2.2.2.2.2.1) (cc.2.2.2.2.2.2.2.2.2.2.2.2.2.2.1) (cc.2.2.2.2.2.2.2.2.2.2.2.2.2.2.2.1) (cc.2.2.2.2.2.2.2.2.2.2.2.2.2.2.2.2.1) (cc.2.2.2.2.2.2.2.2.2.2.2.2.2.2.2.2.2.1) (cc.2.2.2.2.2.2.2.2.2.2.2.2.2.2.2.2.2.2.1) (cc.2.2.2.2.2.2.2.2.2.2.2.2.2.2.2.2.2.2.2.1) (cc.2.2.2.2.2.2.2.2.2.2.2.2.2.2.2.2.2.2.2.2.1) (cc.2.2.2.2.2.2.2.2.2.2.2.2.2.2.2.2.2.2.2.2.2.1) (cc.2.2.2.2.2.2.2.2.2.2.2.2.2.2.2.2.2.2.2.2.2.2.1) text place (cc.2.2.2.2.2.2.2.2.2.2.2.2.2.2.2.2.2.2.2.2.2.2.2.2.2.1) (cc.2.2.2.2.2.2.2.2.2.2.2.2.2.2.2.2.2.2.2.2.2.2.2.2.2.2.1) t1 tp ps hp st tka tna wl n n1 n2 n3 tks tns wvs ws := stg.2 fun vs ds tds g L' h₁ => all2 (g, L', h₁) vs ds tds
theorem q : QQ cc := by
  have h := walk
  unfold w text place t1 tp ps hp st tka tna wl n n1 n2 n3 tks tns wvs ws at h
  exact h
theorem all : ∀ x, QQ x := by
  have h := q
  unfold cc at h
  exact eps_all h
end turn_c_k
theorem turn_c {w : World} {p : Program} {loose : List Str} {mean : ExcName → Option Value} {mg : Str → Option Value} {mb : Str → Option Value} {dp : Nat} {un : Nat} {gd : Option (List Code)} {cn : Str} {cs : Scope} {L : Addr} {a : Addr} {ccd : Value} {cl : List (Str × Addr)} {outer : List Env} {A₀ : Around} {base : Heap} {h₀ : Heap} {m : Str → Option Value} {s : Shared} {Q : Value → Shared → Prop} {E : Value → Shared → Prop} {text : Str} {place : Nat} {turn : Int} {t0 : Tok} {t1 : Tok} {tp : Tok} {ps : Array Value} {hp : Addr} {st : Addr} {tka : Addr} {tna : Addr} {wl : Addr} {n : Nat} {n1 : Nat} {n2 : Nat} {n3 : Nat} {tks : List Value} {tns : List Value} {wvs : List Value} {ws : List Str} {vs : List Value} {ds : List Ent} {tds : List Ent} (B : Below A₀ base outer h₀) (F : Fr h₀ L s.heap m) (XB : (hd35.heap_39 w.params).In base) (TB : Top p loose mean mg mb base) (D : KtsDicts (frs outer) h₀) (hk : cs.kind = .function) (N : News h₀ L s.heap [(80, tabObj ps), (hp, listOf vs.toArray n), (st, tupOf [.ref hp, .int place tp, .ref tka, .ref tna]), (tka, listOf tks.toArray n1), (tna, listOf tns.toArray n2), (wl, listOf wvs.toArray n3)]) (hps : TabPs s.heap ps) (hasc : text.cps.all (· < 128) = true) (hlt : text.length ≤ 9) (hnl : 10 ∉ text.cps.toList) (hp1 : place ≤ text.length) (hT : Tups s.heap vs ds) (hTt : Tups s.heap tks tds) (hd : ∀ d ∈ ds, ∃ e b k : Nat, d = ((e : Int), (b : Int), (k : Int)) ∧ e ≤ text.length ∧ k < ws.length) (hW : WordsAt wvs ws) (hwl : ws.length ≤ 4) (hwr : ∀ x ∈ ws, x.length ≤ 3 ∧ (reprText x).length ≤ 40) (dis : @Ne Nat hp 80 ∧ @Ne Nat st 80 ∧ @Ne Nat tka 80 ∧ @Ne Nat tna 80 ∧ @Ne Nat wl 80 ∧ @Ne Nat hp st ∧ @Ne Nat hp tka ∧ @Ne Nat hp tna ∧ @Ne Nat hp wl) (hvl : vs.length ≤ 4) (htl : tks.length ≤ 40) (htn : tns.length ≤ 40) (hdp : dp + 9 < recursionLimit) (hu : un + 80 < cLine) (hret : ∀ st' h' tk', TurnPost (frs (envX cn cs L a ccd cl :: outer)) s.heap h' hp tka (turnF text ws ds place tds).1 (turnF text ws ds place tds).2.1 (turnF text ws ds place tds).2.2 (tns ++ [.int turn t1]) st' → Q (.ref st') { s with heap := h', toks := tk' }) : wpAny (model PySem.Challenge.rw_om0035_01.row.prog w) (MTop none dp un gd cn cs L a ccd cl outer) (call (.ref 116) [.ref st, .int turn t1, .str text t0, .ref wl]) Q E s :=
  turn_c_k.all (w, p, loose, mean, mg, mb, dp, un, gd, cn, cs, L, a, ccd, cl, outer, A₀, base, h₀, m, s, Q, E, text, place, turn, t0, t1, tp, ps, hp, st, tka, tna, wl, n, n1, n2, n3, tks, tns, wvs, ws) vs ds tds B F XB TB D hk N hps hasc hlt hnl hp1 hT hTt hd hW hwl hwr dis hvl htl htn hdp hu hret
end
end Mine
end

/- F0 -/
section
open PySem PySem.W PyProof.Rows PySem.Calls PySem.Spec
set_option maxRecDepth 100000
set_option maxHeartbeats 4000000
namespace Mine
section
variable {prog : Program} {w : World} {A : Around} {E : Value → Shared → Prop} {s : Shared} {env : Env} {body : List Stmt} {Q : Flow → Shared → Prop} {target : PySem.Expr}
/-- a for loop over an iterator, with a free invariant on the states -/
theorem For_any {I : Addr} {fp wr : List Addr} {n : Nat} {P : Nat → Value → Prop} {St : Nat → Heap → Prop} {iter : PySem.Expr} {pos : Pos} (J : Nat → Shared → Prop)
    (h : wpAny (model prog w) A (eval iter env) (fun xv s₁ => wpAny (model prog w) A (pyIter xv) (fun it s₂ => it = .ref I ∧ J 0 s₂) E s₁) E s)
    (W : Walks prog w A I fp wr n P St) (hst : ∀ i s', J i s' → St i s'.heap)
    (turn : ∀ i (s₁ : Shared) v h₁ tk₁, i < n → J i s₁ → P i v → St (i + 1) h₁ → (∀ b o, b ∉ wr → s₁.heap.get? b = some o → h₁.get? b = some o) →
      wpAny (model prog w) A (assign target env v) (fun _ s₂ => wpAny (model prog w) A (execs body env) (fun f s₃ => f = .next ∧ J (i + 1) s₃) E s₂) E { s₁ with heap := h₁, toks := tk₁ })
    (done : ∀ (s₁ : Shared) h₁ tk₁, J n s₁ → (∀ b o, b ∉ wr → s₁.heap.get? b = some o → h₁.get? b = some o) → Q .next { s₁ with heap := h₁, toks := tk₁ })
    (hgo : ∀ v, letOwnedTupleGo target (.ref I) v = pure () := by intro _; rfl)
    (hs : ∀ x, foldedSetIterable iter env x = pure x := by intro _; rfl)
    (hE : PassesOwn (model prog w) A env E := by passes_own) :
    wpAny (model prog w) A (exec (.For target iter body [] pos) env) Q E s := by
  refine wpAny_For (wpAny_mono h (fun xv s₁ h₁ => wpAny_mono h₁ (fun it s₂ h₂ => ?_) fun _ _ e => e) fun _ _ e => e) hs
  obtain ⟨rfl, h0⟩ := h₂
  refine codeAny_forLoop (fun k s' => ∃ i, J i s' ∧ i ≤ n ∧ k = n + 1 - i) ?_ (n + 1) ⟨0, h0, Nat.zero_le _, rfl⟩ hgo
  rintro k s' ⟨i, hJ, hi, rfl⟩
  by_cases hlt : i < n
  · refine W.item i _ _ _ hlt (hst i s' hJ) fun v h₁ tk₁ hP hst₁ hk₁ => ?_
    refine wpAny_mono (wpAny_passesOwn hE (turn i s' v h₁ tk₁ hlt hJ hP hst₁ hk₁)) (fun _ s₂ h₂ => wpAny_mono (wpAny_passesOwn hE h₂) (fun f s₃ h₃ => ?_) fun _ _ e => e) fun _ _ e => e
    obtain ⟨rfl, hJ'⟩ := h₃
    exact ⟨n + 1 - (i + 1), by omega, i + 1, hJ', hlt, rfl⟩
  · have : i = n := by omega
    subst this
    refine W.done _ _ _ (hst i s' hJ) fun h₁ tk₁ hk₁ => wpAny_execs_nil ?_
    exact done s' h₁ tk₁ hJ hk₁
end
end Mine
end

/- F1 -/
section
open PySem PySem.W PyProof.Rows PySem.Calls PySem.Spec
set_option maxRecDepth 100000
set_option maxHeartbeats 4000000
namespace Mine
section
variable {prog : Program} {w : World} {A₀ A : Around} {s : Shared} {base h₀ : Heap} {outer : List Env} {env : Env} {L : Addr} {m : Str → Option Value} {news : List (Addr × Obj)} {K : Frag} {p : Program} {loose : List Str} {mean : ExcName → Option Value} {mg mb : Str → Option Value}
    {R : Result → Shared → Prop} {name qual : Str} {params : Arguments} {body : PySem.Expr} {scope : Scope} {cl : List (Str × Addr)} {pm ctv : Value} {c' f : Addr} {args : Args} {binds : List (Str × Value)}
/-- entering a lambda that lies in the heap -/
theorem enterL (B : Below A₀ base outer h₀) (F : Fr h₀ L s.heap m) (XB : K.In base) (TB : Top p loose mean mg mb base) (D : KtsDicts (frs outer) h₀) (N : News h₀ L s.heap news)
    (hA : A.frames = some (env :: outer)) (hf : env.frame = some L) (hke : env.scope.kind = .function)
    (ho : s.heap.get? f = some (kla_obj name qual params body scope cl pm c' ctv)) (hcd : s.heap.CodeRec (.ref c') qual) (hroom : A.depth < recursionLimit)
    (hbind : bindArgs (kla_fn name qual params body scope cl pm (.ref c') ctv) args = pure binds) (hloc : ∀ y ∈ binds, scope.names.lookup y.1 = some .local)
    (h : ∀ g L' h₁, Fr g L' h₁ (fun y => binds.reverse.lookup y) → News g L' h₁ news → Below A base (env :: outer) g → K.In g → Top p loose mean mg mb g → GSub s.heap g (news.map (·.1)) → KtsDicts (frs (env :: outer)) g →
      wpAny (model prog w) (A.deeper (envX qual scope L' f (.ref c') cl)) (eval body (envX qual scope L' f (.ref c') cl))
        (fun v s' => R (.ok (.ret v)) s')
        (fun e s' => wpAny (model prog w) (A.deeper (envX qual scope L' f (.ref c') cl)) (leaving (envX qual scope L' f (.ref c') cl) e) (fun _ s'' => R (.error e) s'') (fun e' s'' => R (.error e') s'') s')
        { s with heap := h₁, toks := s.toks + binds.length })
    (hco : scope.isCoroutine = false) (hgen : scope.isGenerator = false) (hk : scope.kind = .function)
    (hcell : ∀ x ∈ scope.names, x.2 ≠ .cell) : codeAny (model prog w) A (.call (.ref f) args) R s := by
  have X₀ := XB.keeps B.stays
  have T := TB.keeps B.stays
  obtain ⟨FG, BG, st, lv⟩ := groundX (R := R) B F N hA hf hke
  refine kla_callFunE hroom ho rfl hco hgen rfl hcd ?_
  rw [hbind]
  refine wpAny_pure (wpAny_newFunctionEnv hcell hloc (fun h₁ hns hsb => ⟨((T.nolimit).keeps F.keep).fresh _ hsb, ?_⟩) hk)
  show codeAny _ _ (.expr body (envX qual scope s.heap.objs.size f (.ref c') cl)) _ _
  have hk₁ : ∀ b o, s.heap.get? b = some o → h₁.get? b = some o := fun b o e => hsb.extBut b o (Nat.ne_of_lt (Heap.lt_size e)) (Heap.get?_push_of_some _ e)
  exact kla_codeExpr (h _ s.heap.objs.size h₁ ⟨hns, fun b o e => hk₁ b o (of_hideAll _ e), Nat.le_of_eq (hideAll_size _ _)⟩
    (fun p hp => ⟨hk₁ _ _ (N p hp).1, Nat.ne_of_lt (Heap.lt_size (N p hp).1), hideAll_none _ (List.mem_map_of_mem hp)⟩) BG (X₀.keeps st) (T.keeps st) (fun b o e n => hideAll_get _ e n) (dicts_push B F N hf D))
end
end Mine
end

/- F2 -/
section
open PySem PySem.W PyProof.Rows PySem.Calls PySem.Spec
set_option maxRecDepth 100000
set_option maxHeartbeats 4000000
namespace Mine
theorem fillF2 (w : World) (h : Heap) : (hd35.heap_39 w.params).In h → model PySem.Challenge.rw_om0035_01.row.prog w = model PySem.Challenge.rw_om0035_01.row.prog w := by
  k_fill
  intro _
  rfl
theorem keep_enter {h₀ H g h₁ : Heap} {L L' : Addr} {m : Str → Option Value} {news : List (Addr × Obj)} (N : News h₀ L H news) (GS : GSub H g (news.map (·.1))) (F' : Fr g L' h₁ m) (N' : News g L' h₁ news) : ∀ b o, H.get? b = some o → h₁.get? b = some o := by
  intro b o e
  by_cases hm : b ∈ news.map (·.1)
  · obtain ⟨q, hq, rfl⟩ := List.mem_map.mp hm
    have := (N q hq).1
    rw [e] at this
    rw [(N' q hq).1, ← this]
  · exact F'.keep _ _ (GS _ _ e hm)
theorem new_enter {H g h₁ : Heap} {L' : Addr} {m : Str → Option Value} {news : List (Addr × Obj)} (GS : GSub H g (news.map (·.1))) (F' : Fr g L' h₁ m) (N' : News g L' h₁ news) : H.get? L' = none := by
  cases hq : H.get? L' with
  | none => rfl
  | some o =>
    by_cases hm : L' ∈ news.map (·.1)
    · obtain ⟨q, hq', e⟩ := List.mem_map.mp hm
      exact absurd e (N' q hq').2.1
    · have := GS _ _ hq hm
      rw [kts_self F'] at this; cases this
theorem presX_down {fs Y : List Addr} {H h₁ h' : Heap} {L' : Addr} (k : ∀ b o, H.get? b = some o → h₁.get? b = some o) (hL : H.get? L' = none) (P : PresX (L' :: fs) Y h₁ h') : PresX fs Y H h' :=
  ⟨⟨fun b o e y n => P.pres.other b o (k b o e) y (fun hm => (List.mem_cons.mp hm).elim (fun z => by rw [z, hL] at e; cases e) n), fun b o e y n => P.pres.frame b o (k b o e) y (List.mem_cons_of_mem _ n)⟩, fun b q => kts_none k (P.sub b q)⟩
theorem turnPost_down {fs : List Addr} {H h₁ h' : Heap} {L' hp tka st' : Addr} {ds' tds' : List Ent} {place' : Nat} {tns' : List Value} (k : ∀ b o, H.get? b = some o → h₁.get? b = some o) (hL : H.get? L' = none)
    (P : TurnPost (L' :: fs) h₁ h' hp tka ds' place' tds' tns' st') : TurnPost fs H h' hp tka ds' place' tds' tns' st' := by
  obtain ⟨p1, p2, p3, t', n', vs', tka', n1', tks', tna', n2', q1, q2, q3, q4, q5, q6, q7, q8, q9⟩ := P
  exact ⟨presX_down k hL p1, p2, kts_none k p3, t', n', vs', tka', n1', tks', tna', n2', q1, q2, q3, q4, q5, q6, kts_none k q7, q8.imp id (kts_none k), q9⟩
theorem tabPs_keep {H h : Heap} {ps : Array Value} (x : TabPs H ps) (k : ∀ b o, H.get? b = some o → h.get? b = some o) : TabPs h ps := by
  rcases x with rfl | ⟨c9, oc, vs, t, rfl, hoc, hd, hv, hne⟩
  · exact .inl rfl
  · exact .inr ⟨c9, oc, vs, t, rfl, k _ _ hoc, hd, hv, hne⟩
noncomputable abbrev lamScope : Scope := { kind := .function, names := [(Str.ofString "state", .local), (Str.ofString "turn", .local), (Str.ofString "text", .free), (Str.ofString "words", .free), (Str.ofString "_law_turn", .globalImplicit)], isGenerator := false, isCoroutine := false, more := [] }
noncomputable abbrev lamBody (p0 p1 p2 p3 p4 p5 : Pos) : PySem.Expr := .Call (.Name (Str.ofString "_law_turn") p0) [.Name (Str.ofString "state") p1, .Name (Str.ofString "turn") p2, .Name (Str.ofString "text") p3, .Name (Str.ofString "words") p4] [] p5
section
local macro_rules | `(tactic| walk_at "eval Name") => `(tactic| k_dflt refine PySem.W.nameX_F (by k_asm) rfl (by k_mem) (by assumption) ?_)
theorem lam_c {w : World} {p : Program} {loose : List Str} {mean : ExcName → Option Value} {mg mb : Str → Option Value}
    {dp un : Nat} {gd : Option (List Code)} {cn : Str} {cs : Scope} {L a : Addr} {ccd : Value} {cl : List (Str × Addr)} {outer : List Env} {A₀ : Around} {base h₀ : Heap} {m : Str → Option Value} {s : Shared} {Q E : Value → Shared → Prop}
    {text : Str} {place : Nat} {turn : Int} {t0 t1 tp : Tok} {ps : Array Value} {hp st tka tna wl c1 c2 lam c' : Addr} {n n1 n2 n3 : Nat} {vs tks tns wvs : List Value} {ds tds : List Ent} {ws : List Str} {o1 o2 : Obj}
    {nm qual : Str} {params : Arguments} {p0 p1 p2 p3 p4 p5 : Pos} {pm ctv : Value}
    (B : Below A₀ base outer h₀) (F : Fr h₀ L s.heap m) (XB : (hd35.heap_39 w.params).In base) (TB : Top p loose mean mg mb base) (D : KtsDicts (frs outer) h₀) (hk : cs.kind = .function)
    (N : News h₀ L s.heap [(80, tabObj ps), (hp, listOf vs.toArray n), (st, tupOf [.ref hp, .int place tp, .ref tka, .ref tna]), (tka, listOf tks.toArray n1), (tna, listOf tns.toArray n2), (wl, listOf wvs.toArray n3), (c1, o1), (c2, o2)]) (hps : TabPs s.heap ps)
    (ho1 : o1.data = .cell (some (.str text t0))) (ho2 : o2.data = .cell (some (.ref wl)))
    (ho : s.heap.get? lam = some (kla_obj nm qual params (lamBody p0 p1 p2 p3 p4 p5) lamScope [(Str.ofString "words", c2), (Str.ofString "text", c1)] pm c' ctv)) (hcd : s.heap.CodeRec (.ref c') qual)
    (hbind : bindArgs (kla_fn nm qual params (lamBody p0 p1 p2 p3 p4 p5) lamScope [(Str.ofString "words", c2), (Str.ofString "text", c1)] pm (.ref c') ctv) ⟨[.ref st, .int turn t1], []⟩ = pure [(Str.ofString "state", .ref st), (Str.ofString "turn", .int turn t1)])
    (hasc : text.cps.all (· < 128) = true) (hlt : text.length ≤ 9) (hnl : 10 ∉ text.cps.toList) (hp1 : place ≤ text.length)
    (hT : Tups s.heap vs ds) (hTt : Tups s.heap tks tds)
    (hd : ∀ d ∈ ds, ∃ e b k : Nat, d = ((e : Int), (b : Int), (k : Int)) ∧ e ≤ text.length ∧ k < ws.length) (hW : WordsAt wvs ws) (hwl : ws.length ≤ 4) (hwr : ∀ x ∈ ws, x.length ≤ 3 ∧ (reprText x).length ≤ 40)
    (dis : @Ne Nat hp 80 ∧ @Ne Nat st 80 ∧ @Ne Nat tka 80 ∧ @Ne Nat tna 80 ∧ @Ne Nat wl 80 ∧ @Ne Nat hp st ∧ @Ne Nat hp tka ∧ @Ne Nat hp tna ∧ @Ne Nat hp wl) (hvl : vs.length ≤ 4) (htl : tks.length ≤ 40) (htn : tns.length ≤ 40)
    (hdp : dp + 10 < recursionLimit) (hu : un + 88 < cLine)
    (hret : ∀ st' h' tk', TurnPost (frs (envX cn cs L a ccd cl :: outer)) s.heap h' hp tka (turnF text ws ds place tds).1 (turnF text ws ds place tds).2.1 (turnF text ws ds place tds).2.2 (tns ++ [.int turn t1]) st' → Q (.ref st') { s with heap := h', toks := tk' }) :
    wpAny (model PySem.Challenge.rw_om0035_01.row.prog w) (MTop none dp un gd cn cs L a ccd cl outer) (call (.ref lam) [.ref st, .int turn t1]) Q E s := by
  w_on
  refine wpAny_call ?_
  k_dflt (refine' enterL B F XB TB D N rfl rfl hk ho hcd ?k8 hbind ?kB ?_ ?c2 ?c3 ?c4 ?c5; (case k8 => ktr_room); (case c5 => decide); (case kB => exact locs rfl); (case c2 => exact rfl); (case c3 => exact rfl); (case c4 => exact rfl))
  intro g L' h₁ F' N' B' X' T' GS D'
  have hkeep := keep_enter N GS F' N'
  have hnew := new_enter GS F' N'
  dsimp only [lamBody, lamScope]
  k_steps
  refine Halt.out ?_
  k_dflt (refine turn_c B' (by k_asm) XB TB D' rfl (fun q hq => (by k_asm : News g L' h₁ _) q (List.mem_append_left [(c1, o1), (c2, o2)] hq)) (tabPs_keep hps hkeep) hasc hlt hnl hp1 (tups_up hkeep hT) (tups_up hkeep hTt) hd hW hwl hwr dis hvl htl htn (by ktr_room) (by ktr_units) ?_)
  intro st' h' tk' P
  exact hret st' h' tk' (turnPost_down hkeep hnew P)
end
end Mine
end

local macro_rules | `(tactic| walk_at "exec For Name Name cons nil") => `(tactic| refine Mine.Halt.mk ?_)
/- F3 -/
section
open PySem PySem.W PyProof.Rows PySem.Calls PySem.Spec
set_option maxRecDepth 100000
set_option maxHeartbeats 4000000
namespace Mine
theorem fillF3 (w : World) (h : Heap) : (hd35.heap_39 w.params).In h → model PySem.Challenge.rw_om0035_01.row.prog w = model PySem.Challenge.rw_om0035_01.row.prog w := by
  k_fill
  intro _
  rfl
theorem is_other2 {M : Model} {A : Around} {E : Value → Shared → Prop} {s : Shared} {Q : Value → Shared → Prop} {x y : Addr} {dx dy : Option Addr} {tx ty : Data} {lx ly : Array (Option Value)} (hxy : x ≠ y) (hx : s.heap.get? x = some ⟨.type "tuple", dx, tx, lx⟩) (hy : s.heap.get? y = some ⟨.type "object", dy, ty, ly⟩)
    (h : Q (.bool false) s) : wpAny M A (compareOp .Is (.ref x) (.ref y)) Q E s := by
  show wpAny M A (do return .bool (← isSame (.ref x) (.ref y))) Q E s
  refine wpAny_bind ?_
  unfold isSame
  dsimp only
  rw [if_neg (by simpa using hxy)]
  refine wpAny_bind (wpAny_load hx ?_)
  refine wpAny_bind (wpAny_load hy ?_)
  exact wpAny_pure (wpAny_pure h)
theorem call_iter_range {prog : Program} {w : World} {A : Around} {E : Value → Shared → Prop} {s : Shared} {h₀ : Heap} {L r : Addr} {m : Str → Option Value} {news : List (Addr × Obj)} {t u v : Tok} {Q : Value → Shared → Prop} (F : Fr h₀ L s.heap m) (N : News h₀ L s.heap news) (hr : IsRange s.heap r 0 36 1 t u v)
    (h : ∀ (I : Addr) h', Fr h₀ L h' m → News h₀ L h' ((I, rIter 0 36 1) :: news) → (∀ p ∈ news, p.1 < I) → Q (.ref I) { s with heap := h' }) :
    wpAny (model prog w) A (call (.builtin "iter") [.ref r]) Q E s := by
  refine call_function_entry (by decide +kernel) (by decide +kernel) kdk_entry_iter (kdk_args_iter _) ?_
  unfold Builtin.«iter»
  refine wpAny_bind (m := someArgs "iter" 1 2 _) (wpAny_of_eq (a := [Value.ref r]) (by first | rfl | kernel_rfl!) ?_)
  show wpAny _ _ (pyIter (.ref r) >>= _) _ _ _
  refine wpAny_bind (wpAny_pyIter_range hr (by decide) ?_)
  exact wpAny_pure ⟨_, rfl, h _ _ (F.push _) (News.push F N _ rfl) (fun q hq => Heap.lt_size (N q hq).1)⟩
/-- the state behind i turns -/
noncomputable def turnsF (text : Str) (ws : List Str) : Nat → List Ent × Nat × List Ent → List Ent × Nat × List Ent
  | 0, x => x
  | i + 1, x => turnF text ws (turnsF text ws i x).1 (turnsF text ws i x).2.1 (turnsF text ws i x).2.2
noncomputable def StOk (text : Str) (ws : List Str) (x : List Ent × Nat × List Ent) : Prop :=
  (∀ d ∈ x.1, ∃ e b k : Nat, d = ((e : Int), (b : Int), (k : Int)) ∧ e ≤ text.length ∧ k < ws.length) ∧ x.2.1 ≤ text.length ∧ x.1.length ≤ 4 ∧ x.2.2.length ≤ 40
noncomputable def IntsUp (l : List Value) (n : Nat) : Prop := l.length = n ∧ ∀ i, i < n → ∃ t, l[i]? = some (.int i t)
theorem IntsUp.snoc {l : List Value} {n : Nat} (h : IntsUp l n) (t : Tok) : IntsUp (l ++ [.int n t]) (n + 1) := by
  refine ⟨by simp [h.1], fun i hi => ?_⟩
  rcases Nat.lt_or_ge i n with q | q
  · obtain ⟨t', ht⟩ := h.2 i q
    exact ⟨t', by rw [List.getElem?_append_left (by rw [h.1]; exact q)]; exact ht⟩
  · have : i = n := by omega
    subst this
    exact ⟨t, by rw [List.getElem?_append_right (by rw [h.1]; exact Nat.le_refl _), h.1, Nat.sub_self]; rfl⟩
theorem one_change {g h h₁ : Heap} {L I : Addr} {m : Str → Option Value} {o o' : Obj} {news : List (Addr × Obj)} (F : Fr g L h m) (N : News g L h ((I, o) :: news)) (hd : ∀ p ∈ news, p.1 ≠ I) (k : ∀ b o, b ∉ [I] → h.get? b = some o → h₁.get? b = some o) (e : h₁.get? I = some o') :
    Fr g L h₁ m ∧ News g L h₁ ((I, o') :: news) := by
  have z := N _ (.head _)
  obtain ⟨oL, a1, a2, hL, a3⟩ := F.ns
  refine ⟨⟨⟨oL, a1, a2, k _ _ (by simpa using fun q => z.2.1 q.symm) hL, a3⟩, fun b x q => k _ _ (fun hm => ?_) (F.keep b x q), F.above⟩, fun p hp => ?_⟩
  · obtain rfl := List.mem_singleton.mp hm
    have := z.2.2
    dsimp only at this
    rw [q] at this; cases this
  · rcases List.mem_cons.mp hp with rfl | hp
    · exact ⟨e, z.2⟩
    · have zz := N p (.tail _ hp)
      exact ⟨k _ _ (by simpa using hd p hp) zz.1, zz.2⟩
theorem presX_chain {fs Y : List Addr} {H h₂ h₃ : Heap} {L' : Addr} (P : PresX fs Y H h₂) (hL : H.get? L' = none) (P' : PresX (L' :: fs) Y h₂ h₃) : PresX fs Y H h₃ := by
  refine ⟨⟨fun b o e y n => P'.pres.other b o (P.pres.other b o e y n) y (fun hm => (List.mem_cons.mp hm).elim (fun z => by rw [z, hL] at e; cases e) n), fun b o e y n => ?_⟩, fun b q => P.sub b (P'.sub b q)⟩
  obtain ⟨sl, hs⟩ := P.pres.frame b o e y n
  obtain ⟨sl', hs'⟩ := P'.pres.frame b _ hs y (List.mem_cons_of_mem _ n)
  exact ⟨sl', hs'⟩
theorem presX_but {fs Y : List Addr} {H h h' : Heap} {I : Addr} (P : PresX fs Y H h) (hI : H.get? I = none) (k : ∀ b, b ≠ I → h'.get? b = h.get? b) : PresX fs Y H h' := by
  refine ⟨⟨fun b o e y n => (k b (fun z => by rw [z, hI] at e; cases e)).trans (P.pres.other b o e y n), fun b o e y n => ?_⟩, fun b q => ?_⟩
  · obtain ⟨sl, hs⟩ := P.pres.frame b o e y n
    exact ⟨sl, (k b (fun z => by rw [z, hI] at e; cases e)).trans hs⟩
  · by_cases z : b = I
    · rw [z]; exact hI
    · rw [k b z] at q; exact P.sub b q
theorem keepG {H g g₁ h : Heap} {L' : Addr} {m : Str → Option Value} {fs X : List Addr} (GS : GSub H g X) (D : KtsDicts fs g) (TT : KtsTurn fs g g₁) (F : Fr g₁ L' h m) {b : Addr} {o : Obj} (e : H.get? b = some o) (hx : b ∉ X) (hd : ∀ es n, o.data ≠ .dict es n) : h.get? b = some o := by
  refine F.keep _ _ (TT.other _ _ (GS _ _ e hx) fun hm => ?_)
  obtain ⟨o', es, n, ho, hdt⟩ := D b hm
  rw [GS _ _ e hx] at ho; cases ho
  exact hd _ _ hdt
theorem tups_but {h h₁ : Heap} {I : Addr} {oI : Obj} {vs : List Value} {ds : List Ent} (hI : h.get? I = some oI) (hno : TupNo oI) (k : ∀ b o, b ≠ I → h.get? b = some o → h₁.get? b = some o) (T : Tups h vs ds) : Tups h₁ vs ds := by
  refine ⟨T.1, fun i d hd => ?_⟩
  obtain ⟨v, hv, b, t1, t2, t3, rfl, hb⟩ := T.2 i d hd
  refine ⟨_, hv, b, t1, t2, t3, rfl, k _ _ (fun z => ?_) hb⟩
  rw [z, hI] at hb
  exact hno _ _ _ _ _ _ (Option.some.inj hb)
theorem tabPs_but {h h₁ : Heap} {I : Addr} {oI : Obj} {ps : Array Value} (hI : h.get? I = some oI) (hno : ∀ vs z u, oI.data = .fields vs → vs[1]? ≠ some (.str z u)) (k : ∀ b o, b ≠ I → h.get? b = some o → h₁.get? b = some o) (T : TabPs h ps) : TabPs h₁ ps := by
  rcases T with rfl | ⟨c9, oc, vs, t, rfl, hoc, hd, hv, hne⟩
  · exact .inl rfl
  · refine .inr ⟨c9, oc, vs, t, rfl, k _ _ (fun z => ?_) hoc, hd, hv, hne⟩
    rw [z, hI] at hoc
    cases Option.some.inj hoc
    exact hno _ _ _ hd hv
theorem tupNo_dict {o : Obj} (h : ∃ es n, o.data = .dict es n) : TupNo o := by
  obtain ⟨es, n, h⟩ := h
  intro x y z t1 t2 t3 e
  rw [e] at h; cases h
theorem noStr_dict {o : Obj} (h : ∃ es n, o.data = .dict es n) : ∀ vs z u, o.data = .fields vs → vs[1]? ≠ some (.str z u) := by
  obtain ⟨es, n, h⟩ := h
  intro vs z u e
  rw [h] at e; cases e
theorem fr_dict {g h : Heap} {L : Addr} {m : Str → Option Value} (F : Fr g L h m) : ∃ o, h.get? L = some o ∧ ∃ es n, o.data = .dict es n := by
  obtain ⟨oL, es, ep, hL, hLd, _⟩ := F.ns
  exact ⟨oL, hL, es, ep, hLd⟩
theorem presX_keep {fs Y : List Addr} {H h h' : Heap} {I : Addr} (P : PresX fs Y H h) (hI : H.get? I = none) (k : ∀ b o, b ≠ I → h.get? b = some o → h'.get? b = some o) : PresX fs Y H h' := by
  refine ⟨⟨fun b o e y n => k b _ (fun z => by rw [z, hI] at e; cases e) (P.pres.other b o e y n), fun b o e y n => ?_⟩, fun b q => ?_⟩
  · obtain ⟨sl, hs⟩ := P.pres.frame b o e y n
    exact ⟨sl, k b _ (fun z => by rw [z, hI] at e; cases e) hs⟩
  · by_cases z : b = I
    · rw [z]; exact hI
    · cases hh : h.get? b with
      | none => exact P.sub b hh
      | some o => rw [k b o z hh] at q; cases q
theorem fr_but {g h h₁ : Heap} {L I : Addr} {m : Str → Option Value} (F : Fr g L h m) (hg : g.get? I = none) (hL : I ≠ L) (k : ∀ b o, b ≠ I → h.get? b = some o → h₁.get? b = some o) : Fr g L h₁ m := by
  obtain ⟨oL, a1, a2, hoL, a3⟩ := F.ns
  exact ⟨⟨oL, a1, a2, k _ _ (Ne.symm hL) hoL, a3⟩, fun b x q => k _ _ (fun z => by rw [z, hg] at q; cases q) (F.keep b x q), F.above⟩
theorem ne_fresh {H : Heap} {x x0 y : Addr} {o : Obj} {P : Prop} (f : (x = x0 ∧ P) ∨ H.get? x = none) (hy : H.get? y = some o) (h0 : @Ne Nat y x0) : @Ne Nat y x := by
  rcases f with ⟨rfl, _⟩ | f
  · exact h0
  · intro z
    have z' : y = x := z
    rw [z', f] at hy; cases hy
theorem ne_fresh' {H : Heap} {x x0 y : Addr} {o : Obj} (f : x = x0 ∨ H.get? x = none) (hy : H.get? y = some o) (h0 : @Ne Nat y x0) : @Ne Nat y x := ne_fresh (P := True) (f.imp (fun e => ⟨e, trivial⟩) id) hy h0
section
local macro_rules | `(tactic| walk_at "compareOp Is ref ref") => `(tactic| refine Mine.Halt.mk ?_)
theorem haltS {M : Model} {A : Around} {E : Value → Shared → Prop} {s : Shared} {x} {y} {r : Addr} {f : Unit → Shared → Flow} {g : Unit → Shared → Prop} (h : Halt (wpAny M A (storeName x y (.ref r)) (fun a b => f a b = Flow.next ∧ g a b) E s)) : wpAny M A (storeName x y (.ref r)) (fun a b => f a b = Flow.next ∧ g a b) E s := h
local macro_rules | `(tactic| walk_at "storeName") => `(tactic| with_reducible refine Mine.haltS ?_)
namespace red_c_k
noncomputable def PP (w : World) (p : Program) (loose : List Str) (mean : ExcName → Option Value) (mg : Str → Option Value) (mb : Str → Option Value) (dp : Nat) (un : Nat) (gd : Option (List Code)) (cn : Str) (cs : Scope) (L : Addr) (a : Addr) (ccd : Value) (cl : List (Str × Addr)) (outer : List Env) (A₀ : Around) (base : Heap) (h₀ : Heap) (m : Str → Option Value) (s : Shared) (Q : Value → Shared → Prop) (E : Value → Shared → Prop) (text : Str) (place : Nat) (t0 : Tok) (tp : Tok) (hp : Addr) (st : Addr) (tka : Addr) (tna : Addr) (wl : Addr) (c1 : Addr) (c2 : Addr) (lam : Addr) (c' : Addr) (rg : Addr) (n : Nat) (n1 : Nat) (n2 : Nat) (n3 : Nat) (vs : List Value) (tks : List Value) (wvs : List Value) (ds : List Ent) (tds : List Ent) (ws : List Str) (o1 : Obj) (o2 : Obj) (nm : Str) (qual : Str) (params : Arguments) (p0 : Pos) (p1 : Pos) (p2 : Pos) (p3 : Pos) (p4 : Pos) (p5 : Pos) (pm : Value) (ctv : Value) (ta : Tok) (tb : Tok) (tc : Tok) : Prop := ∀ (ps : Array Value) (tns : List Value) (B : Below A₀ base outer h₀) (F : Fr h₀ L s.heap m) (XB : (hd35.heap_39 w.params).In base) (TB : Top p loose mean mg mb base) (D : KtsDicts (frs outer) h₀) (hk : cs.kind = .function) (N : News h₀ L s.heap [(80, tabObj ps), (hp, listOf vs.toArray n), (st, tupOf [.ref hp, .int place tp, .ref tka, .ref tna]), (tka, listOf tks.toArray n1), (tna, listOf tns.toArray n2), (wl, listOf wvs.toArray n3), (c1, o1), (c2, o2)]) (hps : TabPs s.heap ps) (ho1 : o1.data = .cell (some (.str text t0))) (ho2 : o2.data = .cell (some (.ref wl))) (ho : s.heap.get? lam = some (kla_obj nm qual params (lamBody p0 p1 p2 p3 p4 p5) lamScope [(Str.ofString "words", c2), (Str.ofString "text", c1)] pm c' ctv)) (hcd : s.heap.CodeRec (.ref c') qual) (hbind : ∀ st turn t1, bindArgs (kla_fn nm qual params (lamBody p0 p1 p2 p3 p4 p5) lamScope [(Str.ofString "words", c2), (Str.ofString "text", c1)] pm (.ref c') ctv) ⟨[.ref st, .int turn t1], []⟩ = pure [(Str.ofString "state", .ref st), (Str.ofString "turn", .int turn t1)]) (hasc : text.cps.all (· < 128) = true) (hlt : text.length ≤ 9) (hnl : 10 ∉ text.cps.toList) (hT : Tups s.heap vs ds) (hTt : Tups s.heap tks tds) (htns : tns = []) (hok : ∀ i, i ≤ 36 → StOk text ws (turnsF text ws i (ds, place, tds))) (hW : WordsAt wvs ws) (hwl : ws.length ≤ 4) (hwr : ∀ x ∈ ws, x.length ≤ 3 ∧ (reprText x).length ≤ 40) (dis : @Ne Nat hp 80 ∧ @Ne Nat st 80 ∧ @Ne Nat tka 80 ∧ @Ne Nat tna 80 ∧ @Ne Nat wl 80 ∧ @Ne Nat hp st ∧ @Ne Nat hp tka ∧ @Ne Nat hp tna ∧ @Ne Nat hp wl ∧ @Ne Nat tna tka) (hrg : IsRange s.heap rg 0 36 1 ta tb tc) (hdp : dp + 12 < recursionLimit) (hu : un + 100 < cLine) (hret : ∀ st' h' tk' tns', IntsUp tns' 36 → TurnPost (frs (envX cn cs L a ccd cl :: outer)) s.heap h' hp tka (turnsF text ws 36 (ds, place, tds)).1 (turnsF text ws 36 (ds, place, tds)).2.1 (turnsF text ws 36 (ds, place, tds)).2.2 tns' st' → Q (.ref st') { s with heap := h', toks := tk' }), wpAny (model PySem.Challenge.rw_om0035_01.row.prog w) (MTop none dp un gd cn cs L a ccd cl outer) (call (.ref 58) [.ref lam, .ref rg, .ref st]) Q E s
noncomputable def QQ (cc : (World) × (Program) × (List Str) × (ExcName → Option Value) × (Str → Option Value) × (Str → Option Value) × (Nat) × (Nat) × (Option (List Code)) × (Str) × (Scope) × (Addr) × (Addr) × (Value) × (List (Str × Addr)) × (List Env) × (Around) × (Heap) × (Heap) × (Str → Option Value) × (Shared) × (Value → Shared → Prop) × (Value → Shared → Prop) × (Str) × (Nat) × (Tok) × (Tok) × (Addr) × (Addr) × (Addr) × (Addr) × (Addr) × (Addr) × (Addr) × (Addr) × (Addr) × (Addr) × (Nat) × (Nat) × (Nat) × (Nat) × (List Value) × (List Value) × (List Value) × (List Ent) × (List Ent) × (List Str) × (Obj) × (Obj) × (Str) × (Str) × (Arguments) × (Pos) × (Pos) × (Pos) × (Pos) × (Pos) × (Pos) × (Value) × (Value) × (Tok) × (Tok) × (Tok)) : Prop := PP (cc.1) (cc.2.1) (cc.2.2.1) (cc.2.2.2.1) (cc.2.2.2.2.1) (cc.2.2.2.2.2.1) (cc.2.2.2.2.2.2.1) (cc.2.2.2.2.2.2.2.1) (cc.2.2.2.2.2.2.2.2.1) (cc.2.2.2.2.2.2.2.2.2.1) (cc.2.2.2.2.2.2.2.2.2.2.1) (cc.2.2.2.2.2.2.2.2.2.2.2.1) (cc.2.2.2.2.2.2.2.2.2.2.2.2.1) (cc.2.2.2.2.2.2.2.2.2.2.2.2.2.1) (cc.2.2.2.2.2.2.2.2.2.2.2.2.2.2.1) (cc.2.2.2.2.2.2.2.2.2.2.2.2.2.2.2.1) (cc.2.2.2.2.2.2.2.2.2.2.2.2.2.2.2.2.1) (cc.2.2.2.2.2.2.2.2.2.2.2.2.2.2.2.2.2.1) (cc.2.2.2.2.2.2.2.2.2.2.2.2.2.2.2.2.2.2.1) (cc.2.2.2.2.2.2.2.2.2.2.2.2.2.2.2.2.2.2.2.1) (cc.2.2.2.2.2.2.2.2.2.2.2.2.2.2.2.2.2.2.2.2.1) (cc.2.2.2.2.2.2.2.2.2.2.2.2.2.2.2.2.2.2.2.2.2.1) (cc.2.2.2.2.2.2.2.2.2.2.2.2.2.2.2.2.2.2.2.2.2.2.1) (cc.2.2.2.2.2.2.2.2.2.2.2.2.2.2.2.2.2.2.2.2.2.2.2.1) (cc.2.2.2.2.2.2.2.2.2.2.2.2.2.2.2.2.2.2.2.2.2.2.2.2.1) (cc.2.2.2.2.2.2.2.2.2.2.2.2.2.2.2.2.2.2.2.2.2.2.2.2.2.1) (cc.2.2.2.2.2.2.2.2.2.2.2.2.2.2.2.2.2.2.2.2.2.2.2.2.2.2.1) (cc.2.2.2.2.2.2.2.2.2.2.2.2.2.2.2.2.2.2.2.2.2.2.2.2.2.2.2.1) (cc.2.2.2.2.2.2.2.2.2.2.2.2.2.2.2.2.2.2.2.2.2.2.2.2.2.2.2.2.1) (cc.2.2.2.2.2.2.2.2.2.2.2.2.2.2.2.2.2.2.2.2.2.2.2.2.2.2.2.2.2.1) (cc.2.2.2.2.2.2.2.2.2.2.2.2.2.2.2.2.2.2.2.2.2.2.2.2.2.2.2.2.2.2.1) (cc.2.2.2.2.2.2.2.2.2.2.2.2.2.2.2.2.2.2.2.2.2.2.2.2.2.2.2.2.2.2.2.1) (cc.2.2.2.2.2.2.2.2.2.2.2.2.2.2.2.2.2.2.2.2.2.2.2.2.2.2.2.2.2.2.2.2.1) (cc.2.2.2.2.2.2.2.2.2.2.2.2.2.2.2.2.2.2.2.2.2.2.2.2.2.2.2.2.2.2.2.2.2.1) (cc.2.2.2.2.2.2.2.2.2.2.2.2.2.2.2.2.2.2.2.2.2.2.2.2.2.2.2.2.2.2.2.2.2.2.1) (cc.2.2.2.2.2.2.2.2.2.2.2.2.2.2.2.2.2.2.2.2.2.2.2.2.2.2.2.2.2.2.2.2.2.2.2.1) (cc.2.2.2.2.2.2.2.2.2.2.2.2.2.2.2.2.2.2.2.2.2.2.2.2.2.2.2.2.2.2.2.2.2.2.2.2.1) (cc.2.2.2.2.2.2.2.2.2.2.2.2.2.2.2.2.2.2.2.2.2.2.2.2.2.2.2.2.2.2.2.2.2.2.2.2.2.1) (cc.2.2.2.2.2.2.2.2.2.2.2.2.2.2.2.2.2.2.2.2.2.2.2.2.2.2.2.2.2.2.2.2.2.2.2.2.2.2.1) (cc.2.2.2.2.2.2.2.2.2.2.2.2.2.2.2.2.2.2.2.2.2.2.2.2.2.2.2.2.2.2.2.2.2.2.2.2.2.2.2.1) (cc.2.2.2.2.2.2.2.2.2.2.2.2.2.2.2.2.2.2.2.2.2.2.2.2.2.2.2.2.2.2.2.2.2.2.2.2.2.2.2.2.1) (cc.2.2.2.2.2.2.2.2.2.2.2.2.2.2.2.2.2.2.2.2.2.2.2.2.2.2.2.2.2.2.2.2.2.2.2.2.2.2.2.2.2.1) (cc.2.2.2.2.2.2.2.2.2.2.2.2.2.2.2.2.2.2.2.2.2.2.2.2.2.2.2.2.2.2.2.2.2.2.2.2.2.2.2.2.2.2.1) (cc.2.2.2.2.2.2.2.2.2.2.2.2.2.2.2.2.2.2.2.2.2.2.2.2.2.2.2.2.2.2.2.2.2.2.2.2.2.2.2.2.2.2.2.1) (cc.2.2.2.2.2.2.2.2.2.2.2.2.2.2.2.2.2.2.2.2.2.2.2.2.2.2.2.2.2.2.2.2.2.2.2.2.2.2.2.2.2.2.2.2.1) (cc.2.2.2.2.2.2.2.2.2.2.2.2.2.2.2.2.2.2.2.2.2.2.2.2.2.2.2.2.2.2.2.2.2.2.2.2.2.2.2.2.2.2.2.2.2.1) (cc.2.2.2.2.2.2.2.2.2.2.2.2.2.2.2.2.2.2.2.2.2.2.2.2.2.2.2.2.2.2.2.2.2.2.2.2.2.2.2.2.2.2.2.2.2.2.1) (cc.2.2.2.2.2.2.2.2.2.2.2.2.2.2.2.2.2.2.2.2.2.2.2.2.2.2.2.2.2.2.2.2.2.2.2.2.2.2.2.2.2.2.2.2.2.2.2.1) (cc.2.2.2.2.2.2.2.2.2.2.2.2.2.2.2.2.2.2.2.2.2.2.2.2.2.2.2.2.2.2.2.2.2.2.2.2.2.2.2.2.2.2.2.2.2.2.2.2.1) (cc.2.2.2.2.2.2.2.2.2.2.2.2.2.2.2.2.2.2.2.2.2.2.2.2.2.2.2.2.2.2.2.2.2.2.2.2.2.2.2.2.2.2.2.2.2.2.2.2.2.1) (cc.2.2.2.2.2.2.2.2.2.2.2.2.2.2.2.2.2.2.2.2.2.2.2.2.2.2.2.2.2.2.2.2.2.2.2.2.2.2.2.2.2.2.2.2.2.2.2.2.2.2.1) (cc.2.2.2.2.2.2.2.2.2.2.2.2.2.2.2.2.2.2.2.2.2.2.2.2.2.2.2.2.2.2.2.2.2.2.2.2.2.2.2.2.2.2.2.2.2.2.2.2.2.2.2.1) (cc.2.2.2.2.2.2.2.2.2.2.2.2.2.2.2.2.2.2.2.2.2.2.2.2.2.2.2.2.2.2.2.2.2.2.2.2.2.2.2.2.2.2.2.2.2.2.2.2.2.2.2.2.1) (cc.2.2.2.2.2.2.2.2.2.2.2.2.2.2.2.2.2.2.2.2.2.2.2.2.2.2.2.2.2.2.2.2.2.2.2.2.2.2.2.2.2.2.2.2.2.2.2.2.2.2.2.2.2.1) (cc.2.2.2.2.2.2.2.2.2.2.2.2.2.2.2.2.2.2.2.2.2.2.2.2.2.2.2.2.2.2.2.2.2.2.2.2.2.2.2.2.2.2.2.2.2.2.2.2.2.2.2.2.2.2.1) (cc.2.2.2.2.2.2.2.2.2.2.2.2.2.2.2.2.2.2.2.2.2.2.2.2.2.2.2.2.2.2.2.2.2.2.2.2.2.2.2.2.2.2.2.2.2.2.2.2.2.2.2.2.2.2.2.1) (cc.2.2.2.2.2.2.2.2.2.2.2.2.2.2.2.2.2.2.2.2.2.2.2.2.2.2.2.2.2.2.2.2.2.2.2.2.2.2.2.2.2.2.2.2.2.2.2.2.2.2.2.2.2.2.2.2.1) (cc.2.2.2.2.2.2.2.2.2.2.2.2.2.2.2.2.2.2.2.2.2.2.2.2.2.2.2.2.2.2.2.2.2.2.2.2.2.2.2.2.2.2.2.2.2.2.2.2.2.2.2.2.2.2.2.2.2.1) (cc.2.2.2.2.2.2.2.2.2.2.2.2.2.2.2.2.2.2.2.2.2.2.2.2.2.2.2.2.2.2.2.2.2.2.2.2.2.2.2.2.2.2.2.2.2.2.2.2.2.2.2.2.2.2.2.2.2.2.1) (cc.2.2.2.2.2.2.2.2.2.2.2.2.2.2.2.2.2.2.2.2.2.2.2.2.2.2.2.2.2.2.2.2.2.2.2.2.2.2.2.2.2.2.2.2.2.2.2.2.2.2.2.2.2.2.2.2.2.2.2.1) (cc.2.2.2.2.2.2.2.2.2.2.2.2.2.2.2.2.2.2.2.2.2.2.2.2.2.2.2.2.2.2.2.2.2.2.2.2.2.2.2.2.2.2.2.2.2.2.2.2.2.2.2.2.2.2.2.2.2.2.2.2.1) (cc.2.2.2.2.2.2.2.2.2.2.2.2.2.2.2.2.2.2.2.2.2.2.2.2.2.2.2.2.2.2.2.2.2.2.2.2.2.2.2.2.2.2.2.2.2.2.2.2.2.2.2.2.2.2.2.2.2.2.2.2.2.1) (cc.2.2.2.2.2.2.2.2.2.2.2.2.2.2.2.2.2.2.2.2.2.2.2.2.2.2.2.2.2.2.2.2.2.2.2.2.2.2.2.2.2.2.2.2.2.2.2.2.2.2.2.2.2.2.2.2.2.2.2.2.2.2)
@[irreducible] noncomputable def cc : (World) × (Program) × (List Str) × (ExcName → Option Value) × (Str → Option Value) × (Str → Option Value) × (Nat) × (Nat) × (Option (List Code)) × (Str) × (Scope) × (Addr) × (Addr) × (Value) × (List (Str × Addr)) × (List Env) × (Around) × (Heap) × (Heap) × (Str → Option Value) × (Shared) × (Value → Shared → Prop) × (Value → Shared → Prop) × (Str) × (Nat) × (Tok) × (Tok) × (Addr) × (Addr) × (Addr) × (Addr) × (Addr) × (Addr) × (Addr) × (Addr) × (Addr) × (Addr) × (Nat) × (Nat) × (Nat) × (Nat) × (List Value) × (List Value) × (List Value) × (List Ent) × (List Ent) × (List Str) × (Obj) × (Obj) × (Str) × (Str) × (Arguments) × (Pos) × (Pos) × (Pos) × (Pos) × (Pos) × (Pos) × (Value) × (Value) × (Tok) × (Tok) × (Tok) := eps (by (repeat' first | exact neW | exact neA | exact neS | refine neP ?_ ?_ | infer_instance)) QQ
@[irreducible] noncomputable def w : World := cc.1
@[irreducible] noncomputable def p : Program := cc.2.1
@[irreducible] noncomputable def dp : Nat := cc.2.2.2.2.2.2.1
@[irreducible] noncomputable def un : Nat := cc.2.2.2.2.2.2.2.1
@[irreducible] noncomputable def gd : Option (List Code) := cc.2.2.2.2.2.2.2.2.1
@[irreducible] noncomputable def cn : Str := cc.2.2.2.2.2.2.2.2.2.1
@[irreducible] noncomputable def cs : Scope := cc.2.2.2.2.2.2.2.2.2.2.1
@[irreducible] noncomputable def L : Addr := cc.2.2.2.2.2.2.2.2.2.2.2.1
@[irreducible] noncomputable def a : Addr := cc.2.2.2.2.2.2.2.2.2.2.2.2.1
@[irreducible] noncomputable def ccd : Value := cc.2.2.2.2.2.2.2.2.2.2.2.2.2.1
@[irreducible] noncomputable def cl : List (Str × Addr) := cc.2.2.2.2.2.2.2.2.2.2.2.2.2.2.1
@[irreducible] noncomputable def outer : List Env := cc.2.2.2.2.2.2.2.2.2.2.2.2.2.2.2.1
@[irreducible] noncomputable def base : Heap := cc.2.2.2.2.2.2.2.2.2.2.2.2.2.2.2.2.2.1
@[irreducible] noncomputable def h₀ : Heap := cc.2.2.2.2.2.2.2.2.2.2.2.2.2.2.2.2.2.2.1
@[irreducible] noncomputable def s : Shared := cc.2.2.2.2.2.2.2.2.2.2.2.2.2.2.2.2.2.2.2.2.1
@[irreducible] noncomputable def text : Str := cc.2.2.2.2.2.2.2.2.2.2.2.2.2.2.2.2.2.2.2.2.2.2.2.1
@[irreducible] noncomputable def place : Nat := cc.2.2.2.2.2.2.2.2.2.2.2.2.2.2.2.2.2.2.2.2.2.2.2.2.1
@[irreducible] noncomputable def t0 : Tok := cc.2.2.2.2.2.2.2.2.2.2.2.2.2.2.2.2.2.2.2.2.2.2.2.2.2.1
@[irreducible] noncomputable def tp : Tok := cc.2.2.2.2.2.2.2.2.2.2.2.2.2.2.2.2.2.2.2.2.2.2.2.2.2.2.1
@[irreducible] noncomputable def hp : Addr := cc.2.2.2.2.2.2.2.2.2.2.2.2.2.2.2.2.2.2.2.2.2.2.2.2.2.2.2.1
@[irreducible] noncomputable def st : Addr := cc.2.2.2.2.2.2.2.2.2.2.2.2.2.2.2.2.2.2.2.2.2.2.2.2.2.2.2.2.1
@[irreducible] noncomputable def tka : Addr := cc.2.2.2.2.2.2.2.2.2.2.2.2.2.2.2.2.2.2.2.2.2.2.2.2.2.2.2.2.2.1
@[irreducible] noncomputable def tna : Addr := cc.2.2.2.2.2.2.2.2.2.2.2.2.2.2.2.2.2.2.2.2.2.2.2.2.2.2.2.2.2.2.1
@[irreducible] noncomputable def wl : Addr := cc.2.2.2.2.2.2.2.2.2.2.2.2.2.2.2.2.2.2.2.2.2.2.2.2.2.2.2.2.2.2.2.1
@[irreducible] noncomputable def c1 : Addr := cc.2.2.2.2.2.2.2.2.2.2.2.2.2.2.2.2.2.2.2.2.2.2.2.2.2.2.2.2.2.2.2.2.1
@[irreducible] noncomputable def c2 : Addr := cc.2.2.2.2.2.2.2.2.2.2.2.2.2.2.2.2.2.2.2.2.2.2.2.2.2.2.2.2.2.2.2.2.2.1
@[irreducible] noncomputable def lam : Addr := cc.2.2.2.2.2.2.2.2.2.2.2.2.2.2.2.2.2.2.2.2.2.2.2.2.2.2.2.2.2.2.2.2.2.2.1
@[irreducible] noncomputable def c' : Addr := cc.2.2.2.2.2.2.2.2.2.2.2.2.2.2.2.2.2.2.2.2.2.2.2.2.2.2.2.2.2.2.2.2.2.2.2.1
@[irreducible] noncomputable def rg : Addr := cc.2.2.2.2.2.2.2.2.2.2.2.2.2.2.2.2.2.2.2.2.2.2.2.2.2.2.2.2.2.2.2.2.2.2.2.2.1
@[irreducible] noncomputable def n : Nat := cc.2.2.2.2.2.2.2.2.2.2.2.2.2.2.2.2.2.2.2.2.2.2.2.2.2.2.2.2.2.2.2.2.2.2.2.2.2.1
@[irreducible] noncomputable def n1 : Nat := cc.2.2.2.2.2.2.2.2.2.2.2.2.2.2.2.2.2.2.2.2.2.2.2.2.2.2.2.2.2.2.2.2.2.2.2.2.2.2.1
@[irreducible] noncomputable def n2 : Nat := cc.2.2.2.2.2.2.2.2.2.2.2.2.2.2.2.2.2.2.2.2.2.2.2.2.2.2.2.2.2.2.2.2.2.2.2.2.2.2.2.1
@[irreducible] noncomputable def n3 : Nat := cc.2.2.2.2.2.2.2.2.2.2.2.2.2.2.2.2.2.2.2.2.2.2.2.2.2.2.2.2.2.2.2.2.2.2.2.2.2.2.2.2.1
@[irreducible] noncomputable def vs : List Value := cc.2.2.2.2.2.2.2.2.2.2.2.2.2.2.2.2.2.2.2.2.2.2.2.2.2.2.2.2.2.2.2.2.2.2.2.2.2.2.2.2.2.1
@[irreducible] noncomputable def tks : List Value := cc.2.2.2.2.2.2.2.2.2.2.2.2.2.2.2.2.2.2.2.2.2.2.2.2.2.2.2.2.2.2.2.2.2.2.2.2.2.2.2.2.2.2.1
@[irreducible] noncomputable def wvs : List Value := cc.2.2.2.2.2.2.2.2.2.2.2.2.2.2.2.2.2.2.2.2.2.2.2.2.2.2.2.2.2.2.2.2.2.2.2.2.2.2.2.2.2.2.2.1
@[irreducible] noncomputable def ds : List Ent := cc.2.2.2.2.2.2.2.2.2.2.2.2.2.2.2.2.2.2.2.2.2.2.2.2.2.2.2.2.2.2.2.2.2.2.2.2.2.2.2.2.2.2.2.2.1
@[irreducible] noncomputable def tds : List Ent := cc.2.2.2.2.2.2.2.2.2.2.2.2.2.2.2.2.2.2.2.2.2.2.2.2.2.2.2.2.2.2.2.2.2.2.2.2.2.2.2.2.2.2.2.2.2.1
@[irreducible] noncomputable def ws : List Str := cc.2.2.2.2.2.2.2.2.2.2.2.2.2.2.2.2.2.2.2.2.2.2.2.2.2.2.2.2.2.2.2.2.2.2.2.2.2.2.2.2.2.2.2.2.2.2.1
@[irreducible] noncomputable def o1 : Obj := cc.2.2.2.2.2.2.2.2.2.2.2.2.2.2.2.2.2.2.2.2.2.2.2.2.2.2.2.2.2.2.2.2.2.2.2.2.2.2.2.2.2.2.2.2.2.2.2.1
@[irreducible] noncomputable def o2 : Obj := cc.2.2.2.2.2.2.2.2.2.2.2.2.2.2.2.2.2.2.2.2.2.2.2.2.2.2.2.2.2.2.2.2.2.2.2.2.2.2.2.2.2.2.2.2.2.2.2.2.1
@[irreducible] noncomputable def nm : Str := cc.2.2.2.2.2.2.2.2.2.2.2.2.2.2.2.2.2.2.2.2.2.2.2.2.2.2.2.2.2.2.2.2.2.2.2.2.2.2.2.2.2.2.2.2.2.2.2.2.2.1
@[irreducible] noncomputable def qual : Str := cc.2.2.2.2.2.2.2.2.2.2.2.2.2.2.2.2.2.2.2.2.2.2.2.2.2.2.2.2.2.2.2.2.2.2.2.2.2.2.2.2.2.2.2.2.2.2.2.2.2.2.1
@[irreducible] noncomputable def params : Arguments := cc.2.2.2.2.2.2.2.2.2.2.2.2.2.2.2.2.2.2.2.2.2.2.2.2.2.2.2.2.2.2.2.2.2.2.2.2.2.2.2.2.2.2.2.2.2.2.2.2.2.2.2.1
@[irreducible] noncomputable def p0 : Pos := cc.2.2.2.2.2.2.2.2.2.2.2.2.2.2.2.2.2.2.2.2.2.2.2.2.2.2.2.2.2.2.2.2.2.2.2.2.2.2.2.2.2.2.2.2.2.2.2.2.2.2.2.2.1
@[irreducible] noncomputable def p1 : Pos := cc.2.2.2.2.2.2.2.2.2.2.2.2.2.2.2.2.2.2.2.2.2.2.2.2.2.2.2.2.2.2.2.2.2.2.2.2.2.2.2.2.2.2.2.2.2.2.2.2.2.2.2.2.2.1
@[irreducible] noncomputable def p2 : Pos := cc.2.2.2.2.2.2.2.2.2.2.2.2.2.2.2.2.2.2.2.2.2.2.2.2.2.2.2.2.2.2.2.2.2.2.2.2.2.2.2.2.2.2.2.2.2.2.2.2.2.2.2.2.2.2.1
@[irreducible] noncomputable def p3 : Pos := cc.2.2.2.2.2.2.2.2.2.2.2.2.2.2.2.2.2.2.2.2.2.2.2.2.2.2.2.2.2.2.2.2.2.2.2.2.2.2.2.2.2.2.2.2.2.2.2.2.2.2.2.2.2.2.2.1
@[irreducible] noncomputable def p4 : Pos := cc.2.2.2.2.2.2.2.2.2.2.2.2.2.2.2.2.2.2.2.2.2.2.2.2.2.2.2.2.2.2.2.2.2.2.2.2.2.2.2.2.2.2.2.2.2.2.2.2.2.2.2.2.2.2.2.2.1
@[irreducible] noncomputable def p5 : Pos := cc.2.2.2.2.2.2.2.2.2.2.2.2.2.2.2.2.2.2.2.2.2.2.2.2.2.2.2.2.2.2.2.2.2.2.2.2.2.2.2.2.2.2.2.2.2.2.2.2.2.2.2.2.2.2.2.2.2.1
@[irreducible] noncomputable def pm : Value := cc.2.2.2.2.2.2.2.2.2.2.2.2.2.2.2.2.2.2.2.2.2.2.2.2.2.2.2.2.2.2.2.2.2.2.2.2.2.2.2.2.2.2.2.2.2.2.2.2.2.2.2.2.2.2.2.2.2.2.1
@[irreducible] noncomputable def ctv : Value := cc.2.2.2.2.2.2.2.2.2.2.2.2.2.2.2.2.2.2.2.2.2.2.2.2.2.2.2.2.2.2.2.2.2.2.2.2.2.2.2.2.2.2.2.2.2.2.2.2.2.2.2.2.2.2.2.2.2.2.2.1
@[irreducible] noncomputable def ta : Tok := cc.2.2.2.2.2.2.2.2.2.2.2.2.2.2.2.2.2.2.2.2.2.2.2.2.2.2.2.2.2.2.2.2.2.2.2.2.2.2.2.2.2.2.2.2.2.2.2.2.2.2.2.2.2.2.2.2.2.2.2.2.1
@[irreducible] noncomputable def tb : Tok := cc.2.2.2.2.2.2.2.2.2.2.2.2.2.2.2.2.2.2.2.2.2.2.2.2.2.2.2.2.2.2.2.2.2.2.2.2.2.2.2.2.2.2.2.2.2.2.2.2.2.2.2.2.2.2.2.2.2.2.2.2.2.1
@[irreducible] noncomputable def tc : Tok := cc.2.2.2.2.2.2.2.2.2.2.2.2.2.2.2.2.2.2.2.2.2.2.2.2.2.2.2.2.2.2.2.2.2.2.2.2.2.2.2.2.2.2.2.2.2.2.2.2.2.2.2.2.2.2.2.2.2.2.2.2.2.2
noncomputable def stg : PSigma fun R : (Array Value) → (List Value) → (Heap) → (Addr) → (Heap) → Prop => (∀ ps tns g L' h₁, R ps tns g L' h₁) → PP w p (cc.2.2.1) (cc.2.2.2.1) (cc.2.2.2.2.1) (cc.2.2.2.2.2.1) dp un gd cn cs L a ccd cl outer (cc.2.2.2.2.2.2.2.2.2.2.2.2.2.2.2.2.1) base h₀ (cc.2.2.2.2.2.2.2.2.2.2.2.2.2.2.2.2.2.2.2.1) s (cc.2.2.2.2.2.2.2.2.2.2.2.2.2.2.2.2.2.2.2.2.2.1) (cc.2.2.2.2.2.2.2.2.2.2.2.2.2.2.2.2.2.2.2.2.2.2.1) text place t0 tp hp st tka tna wl c1 c2 lam c' rg n n1 n2 n3 vs tks wvs ds tds ws o1 o2 nm qual params p0 p1 p2 p3 p4 p5 pm ctv ta tb tc := by
  refine' PSigma.mk _ (fun hR => ?_)
  rotate_left
  unfold PP
  intro ps tns B F XB TB D hk N hps ho1 ho2 ho hcd hbind hasc hlt hnl hT hTt htns hok hW hwl hwr dis hrg hdp hu hret
  w_on
  have X₀ : (hd35.heap_39 w.params).In h₀ := XB.keeps B.stays
  refine wpAny_call ?_
  k_dflt (refine' enterM B F XB TB D N rfl rfl hk ?k6 ?k7 ?k8 ?k9 ?kB ?_ ?c2 ?c3 ?c4 ?c5; (case k6 => k_is); (case k7 => k_is); (case k8 => ktr_room); (case k9 => exact binds_K (by k_in) rfl (by k_is) rfl rfl rfl); (case c5 => decide); (case kB => exact locs rfl); (case c2 => exact rfl); (case c3 => exact rfl); (case c4 => exact rfl))
  intro g L' h₁
  revert B F XB TB D hk N hps ho1 ho2 ho hcd hbind hasc hlt hnl hT hTt htns hok hW hwl hwr dis hrg hdp hu hret X₀
  exact hR ps tns g L' h₁
noncomputable def Q2 (cd : (Heap) × (Addr) × (Heap)) : Prop := ∀ (ps : Array Value), ∀ (tns : List Value), stg.1 ps tns (cd.1) (cd.2.1) (cd.2.2)
@[irreducible] noncomputable def cd : (Heap) × (Addr) × (Heap) := eps (by (repeat' first | exact neW | exact neA | exact neS | refine neP ?_ ?_ | infer_instance)) Q2
@[irreducible] noncomputable def g : Heap := cd.1
@[irreducible] noncomputable def L' : Addr := cd.2.1
@[irreducible] noncomputable def h₁ : Heap := cd.2.2
theorem walk2 : ∀ (ps : Array Value), ∀ (tns : List Value), stg.1 ps tns g L' h₁ := by
  intro ps tns B F XB TB D hk N hps ho1 ho2 ho hcd hbind hasc hlt hnl hT hTt htns hok hW hwl hwr dis hrg hdp hu hret X₀ F' N' B' X' T' GS D'
  have hkeep := keep_enter N GS F' N'
  have hnew := new_enter GS F' N'
  have hfl : ∀ q ∈ ([(80, tabObj ps), (hp, listOf vs.toArray n), (st, tupOf [.ref hp, .int place tp, .ref tka, .ref tna]), (tka, listOf tks.toArray n1), (tna, listOf tns.toArray n2), (wl, listOf wvs.toArray n3), (c1, o1), (c2, o2)] : List (Addr × Obj)), q.1 ≠ 80 → ∀ vs, q.2.data ≠ .fields vs := by
    refine all8 ?_ ?_ ?_ ?_ ?_ ?_ ?_ ?_ <;> intro h8 vs e <;> first | exact h8 rfl | (cases e; done) | (dsimp only at e; rw [ho1] at e; cases e) | (dsimp only at e; rw [ho2] at e; cases e)
  have hno : ∀ q ∈ ([(80, tabObj ps), (hp, listOf vs.toArray n), (st, tupOf [.ref hp, .int place tp, .ref tka, .ref tna]), (tka, listOf tks.toArray n1), (tna, listOf tns.toArray n2), (wl, listOf wvs.toArray n3), (c1, o1), (c2, o2)] : List (Addr × Obj)), TupNo q.2 := by
    refine all8 ?_ ?_ ?_ ?_ ?_ ?_ ?_ ?_ <;> intro x y z t1 t2 t3 e <;> first | exact absurd (congrArg Obj.cls e) (fun q => by injection q with q; exact absurd q (by decide)) | (have q := congrArg Obj.data e; simp at q; done) | (have q := congrArg Obj.data e; dsimp only at q; rw [ho1] at q; cases q) | (have q := congrArg Obj.data e; dsimp only at q; rw [ho2] at q; cases q)
  have hTg := tups_ground N hno GS hT
  have hTtg := tups_ground N hno GS hTt
  have hrg1 : IsRange h₁ rg 0 36 1 ta tb tc := hkeep _ _ hrg
  k_steps
  k_dflt (refine call_iter_range (by k_asm) (by k_asm) hrg1 ?_)
  intro I h2 F2 N2 l2
  k_lt l2
  k_steps
  refine Halt.out ?_
  k_dflt (refine' is_other2 ?u1 ?u2 ?u3 ?_; (case u2 => kto_obj); (case u3 => kto_obj); (case u1 => kto_ne); k_whole)
  k_steps
  refine Halt.out ?_
  have hI0 : s.heap.get? I = none := fresh_of (fs := []) GS KtsTurn.refl (by k_asm) (.head _) (by
    intro hm
    simp only [List.map_cons, List.map_nil, List.mem_cons, List.mem_nil_iff, or_false] at hm
    have hm' : @Eq Nat I 80 ∨ @Eq Nat I hp ∨ @Eq Nat I st ∨ @Eq Nat I tka ∨ @Eq Nat I tna ∨ @Eq Nat I wl ∨ @Eq Nat I c1 ∨ @Eq Nat I c2 := hm
    omega)
  have hlamX : lam ∉ List.map (fun x => x.fst) ([(80, tabObj ps), (hp, listOf vs.toArray n), (st, tupOf [.ref hp, .int place tp, .ref tka, .ref tna]), (tka, listOf tks.toArray n1), (tna, listOf tns.toArray n2), (wl, listOf wvs.toArray n3), (c1, o1), (c2, o2)] : List (Addr × Obj)) := by
    intro hm
    obtain ⟨q, hq, e⟩ := List.mem_map.mp hm
    have h1 := (N q hq).1
    rw [e, ho] at h1
    refine all8 (P := fun q => q.2 ≠ kla_obj nm qual params (lamBody p0 p1 p2 p3 p4 p5) lamScope [(Str.ofString "words", c2), (Str.ofString "text", c1)] pm c' ctv) ?_ ?_ ?_ ?_ ?_ ?_ ?_ ?_ q hq (Option.some.inj h1).symm <;> (intro h2; have q := congrArg Obj.data h2; dsimp only at q; first | (cases q; done) | (rw [ho1] at q; cases q; done) | (rw [ho2] at q; cases q; done))
  have hcX : ∀ cc oc vc z u, s.heap.get? cc = some oc → oc.data = .fields vc → vc[1]? = some (.str z u) → cc ∉ List.map (fun x => x.fst) ([(80, tabObj ps), (hp, listOf vs.toArray n), (st, tupOf [.ref hp, .int place tp, .ref tka, .ref tna]), (tka, listOf tks.toArray n1), (tna, listOf tns.toArray n2), (wl, listOf wvs.toArray n3), (c1, o1), (c2, o2)] : List (Addr × Obj)) := by
    intro cc oc vc z u h0 hd0 hv0 hm
    obtain ⟨q, hq, e⟩ := List.mem_map.mp hm
    have h1 := (N q hq).1
    rw [e, h0] at h1
    have h2 := Option.some.inj h1
    by_cases h8 : q.1 = 80
    · have h3 := (N _ (.head _)).1
      dsimp only at h3
      rw [← h8, e, h0] at h3
      cases Option.some.inj h3
      cases hd0
      rcases hps with rfl | ⟨_, _, _, _, rfl, _⟩
      · simp at hv0
      · simp [rawInt] at hv0
    · exact hfl q hq h8 vc (by rw [← h2]; exact hd0)
  have hPS : PresX (frs (envX cn cs L a ccd cl :: outer)) [80, hp] s.heap _ := presX_end N GS KtsTurn.refl (by k_asm) (by k_asm) (fun q hq => .inl (List.mem_cons_of_mem _ hq))
  k_dflt (refine For_any (I := I) (n := 36) (fun i s' => Pk16 fun g₁ m₁ h tk ps₁ st₁ pl₁ tp₁ n₁ vs₁ tka₁ k₁ tks₁ tna₁ q₁ tns₁ => Al18 (s' = { s with heap := h, toks := tk }) (KtsTurn (frs (envX cn cs L a ccd cl :: outer)) g g₁) (Fr g₁ L' h m₁) (Below (MTop none dp un gd cn cs L a ccd cl outer) base (envX cn cs L a ccd cl :: outer) g₁) (KtsDicts (frs (envX cn cs L a ccd cl :: outer)) g₁) (News g₁ L' h [(I, rIter (0 + (i : Int) * 1) ((36 : Int) - (i : Int)) 1), (80, tabObj ps₁), (hp, listOf (List.toArray vs₁) n₁), (st₁, tupOf [.ref hp, .int (pl₁ : Nat) tp₁, .ref tka₁, .ref tna₁]), (tka₁, listOf (List.toArray tks₁) k₁), (tna₁, listOf (List.toArray tns₁) q₁), (wl, listOf wvs.toArray n3), (c1, o1), (c2, o2)]) (m₁ (Str.ofString "function") = some (.ref lam)) (m₁ (Str.ofString "value") = some (.ref st₁)) (TabPs h ps₁) (Tups h vs₁ (turnsF text ws i (ds, place, tds)).1) (pl₁ = (turnsF text ws i (ds, place, tds)).2.1) (Tups h tks₁ (turnsF text ws i (ds, place, tds)).2.2) (IntsUp tns₁ i) (PresX (frs (envX cn cs L a ccd cl :: outer)) [80, hp] s.heap h) (((st₁ = st ∧ i = 0) ∨ s.heap.get? st₁ = none)) ((tka₁ = tka ∨ s.heap.get? tka₁ = none)) (((tna₁ = tna ∧ i = 0) ∨ s.heap.get? tna₁ = none)) (tna₁ ≠ tka₁)) ?_ (Walks.range rfl I 0 1 36) ?_ ?_ ?_)
  · k_steps
    refine wpAny_pyIter_rangeiter (News.get (by k_asm) (by k_mem)) ⟨rfl, ?_⟩
    refine ⟨g, _, _, _, ps, st, place, tp, n, vs, tka, n1, tks, tna, n2, tns, rfl, KtsTurn.refl, by k_asm, B', D', by k_asm, rfl, rfl, ?_, ?_, rfl, ?_, ?_, hPS, .inl ⟨rfl, rfl⟩, .inl rfl, .inl ⟨rfl, rfl⟩, dis.2.2.2.2.2.2.2.2.2⟩
    · exact tabPs_gs hps N hfl GS (by k_asm)
    · exact tups_up (Fr.keep (by k_asm)) hTg
    · exact tups_up (Fr.keep (by k_asm)) hTtg
    · subst htns; exact ⟨rfl, fun i hi => by omega⟩
  · rintro i s' ⟨g₁, m₁, h, tk, ps₁, st₁, pl₁, tp₁, n₁, vs₁, tka₁, k₁, tks₁, tna₁, q₁, tns₁, rfl, _, _, _, _, N₁, _⟩
    exact News.get N₁ (.head _)
  · rintro i s' v h₁ tk₁ hi ⟨g₁, m₁, h, tk, ps₁, st₁, pl₁, tp₁, n₁, vs₁, tka₁, k₁, tks₁, tna₁, q₁, tns₁, rfl, TT, F₁, B₁, D₁, N₁, hm1, hm2, hps₁, hT₁, rfl, hTt₁, hI₁, P₁, f1, f2, f3, f4⟩ ⟨t, rfl⟩ hst hkp
    have hdI : ∀ p ∈ ([(80, tabObj ps₁), (hp, listOf (List.toArray vs₁) n₁), (st₁, tupOf [.ref hp, .int ((turnsF text ws i (ds, place, tds)).2.1 : Nat) tp₁, .ref tka₁, .ref tna₁]), (tka₁, listOf (List.toArray tks₁) k₁), (tna₁, listOf (List.toArray tns₁) q₁), (wl, listOf wvs.toArray n3), (c1, o1), (c2, o2)] : List (Addr × Obj)), p.1 ≠ I := by
      intro p hp' z
      have h1 := (N₁ p (.tail _ hp')).1
      rw [z, (N₁ _ (.head _)).1] at h1
      refine all8 (P := fun q => rIter (0 + (i : Int) * 1) ((36 : Int) - (i : Int)) 1 ≠ q.2) ?_ ?_ ?_ ?_ ?_ ?_ ?_ ?_ p hp' (Option.some.inj h1) <;> (intro h2; first | exact absurd (congrArg Obj.cls h2) (fun q => by injection q with q; exact absurd q (by decide)) | (have q := congrArg Obj.data h2; simp at q; done) | (have q := congrArg Obj.cls h2; cases q; done) | (have q := congrArg Obj.data h2; dsimp only at q; rw [ho1] at q; cases q) | (have q := congrArg Obj.data h2; dsimp only at q; rw [ho2] at q; cases q))
    obtain ⟨F₂, N₂⟩ := one_change F₁ N₁ hdI hkp hst
    have e0 : (0 + (i : Int) * 1) = i := by omega
    rw [e0]
    k_dflt (refine wpAny_assign_Name (wpAny_storeName_local rfl F₂.ns (fun h₂ hn₂ hs₂ => ?_) rfl))
    have F₃' := F₂.set hn₂ hs₂
    have N₃ := N₂.set hs₂
    obtain ⟨m₂, F₃, hm1', hm2', hm3'⟩ : Pk1 fun m₂ => Al4 (Fr g₁ L' h₂ m₂) (m₂ (Str.ofString "function") = some (.ref lam)) (m₂ (Str.ofString "value") = some (.ref st₁)) (m₂ (Str.ofString "element") = some (.int i t)) :=
      ⟨_, F₃', (if_neg (by decide)).trans hm1, (if_neg (by decide)).trans hm2, if_pos rfl⟩
    clear F₃'
    have hIfresh : s.heap.get? I = none := hI0
    have kI : ∀ b o, b ≠ I → h.get? b = some o → h₁.get? b = some o := fun b o hb e => hkp b o (by simpa using hb) e
    have kL : ∀ b o, b ≠ L' → h₁.get? b = some o → h₂.get? b = some o := fun b o hb e => (hs₂.2 b hb).trans e
    obtain ⟨oL, hoL, hdL⟩ := fr_dict F₂
    have hnoI : TupNo (rIter (0 + (i : Int) * 1) ((36 : Int) - (i : Int)) 1) := by
      intro x y z t1 t2 t3 e
      exact absurd (congrArg Obj.cls e) (fun q => by injection q with q; exact absurd q (by decide))
    have hnsI : ∀ vs z u, (rIter (0 + (i : Int) * 1) ((36 : Int) - (i : Int)) 1).data = .fields vs → vs[1]? ≠ some (.str z u) := by
      intro vs z u e
      cases e
      simp [rawInt]
    have hT₃ := tups_but hoL (tupNo_dict hdL) kL (tups_but (N₁ _ (.head _)).1 hnoI kI hT₁)
    have hTt₃ := tups_but hoL (tupNo_dict hdL) kL (tups_but (N₁ _ (.head _)).1 hnoI kI hTt₁)
    have hps₃ := tabPs_but hoL (noStr_dict hdL) kL (tabPs_but (N₁ _ (.head _)).1 hnsI kI hps₁)
    have hlam₃ : h₂.get? lam = some (kla_obj nm qual params (lamBody p0 p1 p2 p3 p4 p5) lamScope [(Str.ofString "words", c2), (Str.ofString "text", c1)] pm c' ctv) := keepG GS D' TT F₃ ho hlamX (fun es n e => by cases e)
    have hcd₃ : h₂.CodeRec (.ref c') qual := by
      obtain ⟨cc, oc, vc, tc, ec, hoc, hdc, hvc⟩ := hcd
      exact ⟨cc, oc, vc, tc, ec, keepG GS D' TT F₃ hoc (hcX cc oc vc _ _ hoc hdc hvc) (fun es n e => by rw [hdc] at e; cases e), hdc, hvc⟩
    obtain ⟨k1, k2, k3, k4⟩ := hok i (by omega)
    have hs80 : s.heap.get? 80 = _ := (N _ (.head _)).1
    have hshp : s.heap.get? hp = _ := (N _ (.tail _ (.head _))).1
    obtain ⟨d1, d2, d3, d4, d5, d6, d7, d8, d9, d10⟩ := dis
    have dis₁ : @Ne Nat hp 80 ∧ @Ne Nat st₁ 80 ∧ @Ne Nat tka₁ 80 ∧ @Ne Nat tna₁ 80 ∧ @Ne Nat wl 80 ∧ @Ne Nat hp st₁ ∧ @Ne Nat hp tka₁ ∧ @Ne Nat hp tna₁ ∧ @Ne Nat hp wl :=
      ⟨d1, (ne_fresh f1 hs80 d2.symm).symm, (ne_fresh' f2 hs80 d3.symm).symm, (ne_fresh f3 hs80 d4.symm).symm, d5, ne_fresh f1 hshp d6, ne_fresh' f2 hshp d7, ne_fresh f3 hshp d8, d9⟩
    clear hkp hst hn₂ F₁ F₂ N₂
    k_steps
    k_dflt (refine callWith_F ⟨_, _, _, _, hlam₃⟩ ?_)
    k_steps
    · exact ⟨_, _, _, _, hlam₃⟩
    refine Halt.out ?_
    k_dflt (refine lam_c B₁ F₃ XB TB D₁ rfl (fun q hq => N₃ q (.tail _ hq)) hps₃ ho1 ho2 hlam₃ hcd₃ (hbind _ _ _) hasc hlt hnl k2 hT₃ hTt₃ k1 hW hwl hwr dis₁ (by rw [hT₁.1]; exact k3) (by rw [hTt₁.1]; exact k4) (by rw [hI₁.1]; omega) (by ktr_room) (by ktr_units) ?_)
    intro st' h' tk' P
    obtain ⟨pP, ⟨ps', h8', hps'⟩, pN, t', n', vs', tka', n1', tks', tna', n2', q1, q2, q3, q4, q5, q6, q7, q8, q9⟩ := P
    have hY : ∀ b ∈ ([80, hp] : List Addr), g₁.get? b = none ∧ b ≠ L' := by
      intro b hb
      rcases List.mem_cons.mp hb with rfl | hb
      · exact ⟨(N₃ _ (.tail _ (.head _))).2.2, (N₃ _ (.tail _ (.head _))).2.1⟩
      · obtain rfl := List.mem_singleton.mp hb
        exact ⟨(N₃ _ (.tail _ (.tail _ (.head _)))).2.2, (N₃ _ (.tail _ (.tail _ (.head _)))).2.1⟩
    obtain ⟨g5, TT5, F5, B5, D5, X5, TP5, NN5⟩ := catch_ground (KF := hd35.heap_39 w.params) B₁ F₃ N₃ D₁ XB TB pP hY
    have hfr : ∀ b, h₂.get? b = none → b ≠ L' ∧ g5.get? b = none := fun b q => ⟨fun z => (by
      obtain ⟨oL, hL, _⟩ := fr_dict F₃
      rw [z, hL] at q; cases q), TT5.none_ _ (kts_none F₃.keep q)⟩
    have hc8 : ∀ q ∈ ([(c1, o1), (c2, o2)] : List (Addr × Obj)), q.1 ∉ ([80, hp] : List Addr) := by
      intro q hq hm
      have h1 := (N₃ q (.tail _ (.tail _ (.tail _ (.tail _ (.tail _ (.tail _ (.tail _ hq)))))))).1
      have h2 : q.2.data = .cell (some (.str text t0)) ∨ q.2.data = .cell (some (.ref wl)) := by
        rcases List.mem_cons.mp hq with rfl | hq
        · exact .inl ho1
        · obtain rfl := List.mem_singleton.mp hq
          exact .inr ho2
      rcases List.mem_cons.mp hm with z | hm
      · rw [z, (N₃ _ (.tail _ (.head _))).1] at h1
        rw [← Option.some.inj h1] at h2
        rcases h2 with h2 | h2 <;> cases h2
      · rw [List.mem_singleton.mp hm, (N₃ _ (.tail _ (.tail _ (.head _)))).1] at h1
        rw [← Option.some.inj h1] at h2
        rcases h2 with h2 | h2 <;> cases h2
    have hold : ∀ q, q ∈ ([80, hp] : List Addr) ∨ q ∉ ([80, hp] : List Addr) := fun q => Classical.em _
    have N5 : News g5 L' h' [(I, rIter (0 + ((i + 1 : Nat) : Int) * 1) ((36 : Int) - ((i + 1 : Nat) : Int)) 1), (80, tabObj ps'), (hp, listOf (List.toArray vs') n'), (st', tupOf [.ref hp, .int ((turnsF text ws (i + 1) (ds, place, tds)).2.1 : Nat) t', .ref tka', .ref tna']), (tka', listOf (List.toArray tks') n1'), (tna', listOf (List.toArray (tns₁ ++ [.int i t])) n2'), (wl, listOf wvs.toArray n3), (c1, o1), (c2, o2)] := by
      intro q hq
      rcases List.mem_cons.mp hq with rfl | hq
      · exact NN5 _ (.head _) (by
          intro hm
          rcases List.mem_cons.mp hm with z | hm
          · exact hdI _ (.head _) z.symm
          · exact hdI _ (.tail _ (.head _)) (List.mem_singleton.mp hm).symm)
      rcases List.mem_cons.mp hq with rfl | hq
      · exact ⟨h8', (hY _ (.head _)).2, TT5.none_ _ (hY _ (.head _)).1⟩
      rcases List.mem_cons.mp hq with rfl | hq
      · exact ⟨q2, (hY _ (.tail _ (.head _))).2, TT5.none_ _ (hY _ (.tail _ (.head _))).1⟩
      rcases List.mem_cons.mp hq with rfl | hq
      · exact ⟨q1, hfr _ pN⟩
      rcases List.mem_cons.mp hq with rfl | hq
      · refine ⟨q4, ?_⟩
        rcases q8 with rfl | q8
        · have z := (N₃ _ (.tail _ (.tail _ (.tail _ (.tail _ (.head _)))))).2
          exact ⟨z.1, TT5.none_ _ z.2⟩
        · exact hfr _ q8
      rcases List.mem_cons.mp hq with rfl | hq
      · exact ⟨q6, hfr _ q7⟩
      rcases List.mem_cons.mp hq with rfl | hq
      · exact NN5 _ (.tail _ (.tail _ (.tail _ (.tail _ (.tail _ (.tail _ (.head _))))))) (by
          intro hm
          rcases List.mem_cons.mp hm with z | hm
          · exact d5 z
          · exact d9 (List.mem_singleton.mp hm).symm)
      · exact NN5 _ (.tail _ (.tail _ (.tail _ (.tail _ (.tail _ (.tail _ (.tail _ hq))))))) (hc8 _ hq)
    have P₂ := presX_keep (presX_keep P₁ hIfresh kI) hnew kL
    have P₃ : PresX (frs (envX cn cs L a ccd cl :: outer)) [80, hp] s.heap h' := presX_chain P₂ hnew pP
    clear NN5 N₃ N₁ pP
    k_dflt (refine wpAny_storeName_local rfl F5.ns (fun h₆ hn₆ hs₆ => ?_) rfl)
    have F6 := F5.set hn₆ hs₆
    have N6 := N5.set hs₆
    have kL6 : ∀ b o, b ≠ L' → h'.get? b = some o → h₆.get? b = some o := fun b o hb e => (hs₆.2 b hb).trans e
    obtain ⟨oL6, hoL6, hdL6⟩ := fr_dict F5
    refine wpAny_execs_nil ⟨rfl, g5, _, h₆, _, ps', st', _, t', n', vs', tka', n1', tks', tna', n2', _, rfl, TT.trans TT5, F6, B5, D5, N6, (if_neg (by decide)).trans hm1', if_pos rfl, tabPs_but hoL6 (noStr_dict hdL6) kL6 hps', tups_but hoL6 (tupNo_dict hdL6) kL6 q3, rfl, tups_but hoL6 (tupNo_dict hdL6) kL6 q5, hI₁.snoc t, presX_keep P₃ hnew kL6, .inr (P₂.sub _ pN), ?_, .inr (P₂.sub _ q7), q9⟩
    rcases q8 with rfl | q8
    · exact f2
    · exact .inr (P₂.sub _ q8)
  · rintro s' h₁ tk₁ ⟨g₁, m₁, h, tk, ps₁, st₁, pl₁, tp₁, n₁, vs₁, tka₁, k₁, tks₁, tna₁, q₁, tns₁, rfl, TT, F₁, B₁, D₁, N₁, hm1, hm2, hps₁, hT₁, rfl, hTt₁, hI₁, P₁, f1, f2, f3, f4⟩ hkp
    have kI : ∀ b o, b ≠ I → h.get? b = some o → h₁.get? b = some o := fun b o hb e => hkp b o (by simpa using hb) e
    have hnoI : TupNo (rIter (0 + (36 : Int) * 1) ((36 : Int) - (36 : Int)) 1) := by
      intro x y z t1 t2 t3 e
      exact absurd (congrArg Obj.cls e) (fun q => by injection q with q; exact absurd q (by decide))
    have hnsI : ∀ vs z u, (rIter (0 + (36 : Int) * 1) ((36 : Int) - (36 : Int)) 1).data = .fields vs → vs[1]? ≠ some (.str z u) := by
      intro vs z u e
      cases e
      simp [rawInt]
    have zI := (N₁ _ (.head _)).2
    have F₂ := fr_but F₁ zI.2 zI.1 kI
    have P₂ := presX_keep P₁ hI0 kI
    have hdI : ∀ p ∈ ([(80, tabObj ps₁), (hp, listOf (List.toArray vs₁) n₁), (st₁, tupOf [.ref hp, .int ((turnsF text ws 36 (ds, place, tds)).2.1 : Nat) tp₁, .ref tka₁, .ref tna₁]), (tka₁, listOf (List.toArray tks₁) k₁), (tna₁, listOf (List.toArray tns₁) q₁)] : List (Addr × Obj)), h₁.get? p.1 = some p.2 := by
      intro p hp'
      have hp2 : p ∈ [(I, rIter (0 + ((36 : Nat) : Int) * 1) ((36 : Int) - ((36 : Nat) : Int)) 1), (80, tabObj ps₁), (hp, listOf (List.toArray vs₁) n₁), (st₁, tupOf [.ref hp, .int ((turnsF text ws 36 (ds, place, tds)).2.1 : Nat) tp₁, .ref tka₁, .ref tna₁]), (tka₁, listOf (List.toArray tks₁) k₁), (tna₁, listOf (List.toArray tns₁) q₁), (wl, listOf wvs.toArray n3), (c1, o1), (c2, o2)] := .tail _ (List.mem_append_left [(wl, listOf wvs.toArray n3), (c1, o1), (c2, o2)] hp')
      have h1 := (N₁ p hp2).1
      refine kI _ _ (fun z => ?_) h1
      rw [z, (N₁ _ (.head _)).1] at h1
      refine all5 (P := fun q => rIter (0 + ((36 : Nat) : Int) * 1) ((36 : Int) - ((36 : Nat) : Int)) 1 ≠ q.2) ?_ ?_ ?_ ?_ ?_ p hp' (Option.some.inj h1) <;> (intro h2; first | exact absurd (congrArg Obj.cls h2) (fun q => by injection q with q; exact absurd q (by decide)) | (have q := congrArg Obj.data h2; simp at q; done) | (have q := congrArg Obj.cls h2; cases q; done))
    have zT := tups_but (N₁ _ (.head _)).1 hnoI kI hT₁
    have zTt := tups_but (N₁ _ (.head _)).1 hnoI kI hTt₁
    have zps := tabPs_but (N₁ _ (.head _)).1 hnsI kI hps₁
    have hst0 : s.heap.get? st₁ = none := by
      rcases f1 with ⟨_, z⟩ | f1
      · omega
      · exact f1
    have htn0 : s.heap.get? tna₁ = none := by
      rcases f3 with ⟨_, z⟩ | f3
      · omega
      · exact f3
    clear F₁ N₁ hkp
    dsimp only
    k_steps
    refine hret st₁ h₁ _ tns₁ hI₁ ⟨P₂, ⟨ps₁, hdI _ (.head _), zps⟩, hst0, tp₁, n₁, vs₁, tka₁, k₁, tks₁, tna₁, q₁, hdI _ (.tail _ (.tail _ (.head _))), hdI _ (.tail _ (.head _)), zT, hdI _ (.tail _ (.tail _ (.tail _ (.head _)))), zTt, hdI _ (.tail _ (.tail _ (.tail _ (.tail _ (.head _))))), htn0, f2, f4⟩
theorem q2 : Q2 cd := by
  have h := walk2
  unfold g L' h₁ at h
  exact h
theorem all2 : ∀ x, Q2 x := by
  have h := q2
  unfold cd at h
  exact eps_all h
theorem walk : PP w p (cc.2.2.1) (cc.2.2.2.1) (cc.2.2.2.2.1) (cc.2.2.2.2.2.1) dp un gd cn cs L a ccd cl outer (cc.2.2.2.2.2.2.2.2.2.2.2.2.2.2.2.2.1) base h₀ (cc.2.2.2.2.2.2.2.2.2.2.2.2.2.2.2.2.2.2.2.1) s (cc.2.2.2.2.2.2.2.2.2.2.2.2.2.2.2.2.2.2.2.2.2.1) (cc.2.2.2.2.2.2.2.2.2.2.2.2.2.2.2.2.2.2.2.2.2.2.1) text place t0 tp hp st tka tna wl c1 c2 lam c' rg n n1 n2 n3 vs tks wvs ds tds ws o1 o2 nm qual params p0 p1 p2 p3 p4 p5 pm ctv ta tb tc := stg.2 fun ps tns g L' h₁ => all2 (g, L', h₁) ps tns
theorem q : QQ cc := by
  have h := walk
  unfold w p dp un gd cn cs L a ccd cl outer base h₀ s text place t0 tp hp st tka tna wl c1 c2 lam c' rg n n1 n2 n3 vs tks wvs ds tds ws o1 o2 nm qual params p0 p1 p2 p3 p4 p5 pm ctv ta tb tc at h
  exact h
theorem all : ∀ x, QQ x := by
  have h := q
  unfold cc at h
  exact eps_all h
end red_c_k
theorem red_c {w : World} {p : Program} {loose : List Str} {mean : ExcName → Option Value} {mg : Str → Option Value} {mb : Str → Option Value} {dp : Nat} {un : Nat} {gd : Option (List Code)} {cn : Str} {cs : Scope} {L : Addr} {a : Addr} {ccd : Value} {cl : List (Str × Addr)} {outer : List Env} {A₀ : Around} {base : Heap} {h₀ : Heap} {m : Str → Option Value} {s : Shared} {Q : Value → Shared → Prop} {E : Value → Shared → Prop} {text : Str} {place : Nat} {t0 : Tok} {tp : Tok} {hp : Addr} {st : Addr} {tka : Addr} {tna : Addr} {wl : Addr} {c1 : Addr} {c2 : Addr} {lam : Addr} {c' : Addr} {rg : Addr} {n : Nat} {n1 : Nat} {n2 : Nat} {n3 : Nat} {vs : List Value} {tks : List Value} {wvs : List Value} {ds : List Ent} {tds : List Ent} {ws : List Str} {o1 : Obj} {o2 : Obj} {nm : Str} {qual : Str} {params : Arguments} {p0 : Pos} {p1 : Pos} {p2 : Pos} {p3 : Pos} {p4 : Pos} {p5 : Pos} {pm : Value} {ctv : Value} {ta : Tok} {tb : Tok} {tc : Tok} {ps : Array Value} {tns : List Value} (B : Below A₀ base outer h₀) (F : Fr h₀ L s.heap m) (XB : (hd35.heap_39 w.params).In base) (TB : Top p loose mean mg mb base) (D : KtsDicts (frs outer) h₀) (hk : cs.kind = .function) (N : News h₀ L s.heap [(80, tabObj ps), (hp, listOf vs.toArray n), (st, tupOf [.ref hp, .int place tp, .ref tka, .ref tna]), (tka, listOf tks.toArray n1), (tna, listOf tns.toArray n2), (wl, listOf wvs.toArray n3), (c1, o1), (c2, o2)]) (hps : TabPs s.heap ps) (ho1 : o1.data = .cell (some (.str text t0))) (ho2 : o2.data = .cell (some (.ref wl))) (ho : s.heap.get? lam = some (kla_obj nm qual params (lamBody p0 p1 p2 p3 p4 p5) lamScope [(Str.ofString "words", c2), (Str.ofString "text", c1)] pm c' ctv)) (hcd : s.heap.CodeRec (.ref c') qual) (hbind : ∀ st turn t1, bindArgs (kla_fn nm qual params (lamBody p0 p1 p2 p3 p4 p5) lamScope [(Str.ofString "words", c2), (Str.ofString "text", c1)] pm (.ref c') ctv) ⟨[.ref st, .int turn t1], []⟩ = pure [(Str.ofString "state", .ref st), (Str.ofString "turn", .int turn t1)]) (hasc : text.cps.all (· < 128) = true) (hlt : text.length ≤ 9) (hnl : 10 ∉ text.cps.toList) (hT : Tups s.heap vs ds) (hTt : Tups s.heap tks tds) (htns : tns = []) (hok : ∀ i, i ≤ 36 → StOk text ws (turnsF text ws i (ds, place, tds))) (hW : WordsAt wvs ws) (hwl : ws.length ≤ 4) (hwr : ∀ x ∈ ws, x.length ≤ 3 ∧ (reprText x).length ≤ 40) (dis : @Ne Nat hp 80 ∧ @Ne Nat st 80 ∧ @Ne Nat tka 80 ∧ @Ne Nat tna 80 ∧ @Ne Nat wl 80 ∧ @Ne Nat hp st ∧ @Ne Nat hp tka ∧ @Ne Nat hp tna ∧ @Ne Nat hp wl ∧ @Ne Nat tna tka) (hrg : IsRange s.heap rg 0 36 1 ta tb tc) (hdp : dp + 12 < recursionLimit) (hu : un + 100 < cLine) (hret : ∀ st' h' tk' tns', IntsUp tns' 36 → TurnPost (frs (envX cn cs L a ccd cl :: outer)) s.heap h' hp tka (turnsF text ws 36 (ds, place, tds)).1 (turnsF text ws 36 (ds, place, tds)).2.1 (turnsF text ws 36 (ds, place, tds)).2.2 tns' st' → Q (.ref st') { s with heap := h', toks := tk' }) : wpAny (model PySem.Challenge.rw_om0035_01.row.prog w) (MTop none dp un gd cn cs L a ccd cl outer) (call (.ref 58) [.ref lam, .ref rg, .ref st]) Q E s :=
  red_c_k.all (w, p, loose, mean, mg, mb, dp, un, gd, cn, cs, L, a, ccd, cl, outer, A₀, base, h₀, m, s, Q, E, text, place, t0, tp, hp, st, tka, tna, wl, c1, c2, lam, c', rg, n, n1, n2, n3, vs, tks, wvs, ds, tds, ws, o1, o2, nm, qual, params, p0, p1, p2, p3, p4, p5, pm, ctv, ta, tb, tc) ps tns B F XB TB D hk N hps ho1 ho2 ho hcd hbind hasc hlt hnl hT hTt htns hok hW hwl hwr dis hrg hdp hu hret
end
end Mine
end

/- G0 -/
section
open PySem PySem.W PyProof.Rows PySem.Calls PySem.Spec
set_option maxRecDepth 100000
set_option maxHeartbeats 4000000
namespace Mine
section
variable {prog : Program} {w : World} {A₀ A : Around} {s : Shared} {base h₀ : Heap} {outer : List Env} {env : Env} {L : Addr} {m : Str → Option Value} {news : List (Addr × Obj)} {K : Frag} {p : Program} {loose : List Str} {mean : ExcName → Option Value} {mg mb : Str → Option Value}
    {R : Result → Shared → Prop} {name qual : Str} {params : Arguments} {body : List Stmt} {scope : Scope} {dV kV doc pm cdv ct oc : Value} {an od : Option Addr} {osl : Array (Option Value)} {f : Addr} {args : Args} {binds : List (Str × Value)}
/-- entering a def whose names are captured -/
theorem enterC (B : Below A₀ base outer h₀) (F : Fr h₀ L s.heap m) (XB : K.In base) (TB : Top p loose mean mg mb base) (D : KtsDicts (frs outer) h₀) (N : News h₀ L s.heap news)
    (hA : A.frames = some (env :: outer)) (hf : env.frame = some L) (hke : env.scope.kind = .function)
    (ho : K.lookup f = some ⟨oc, od, .func (fnOf name qual params body scope dV kV doc pm an cdv ct), osl⟩) (hcd : codeIn K cdv qual = true) (hroom : A.depth < recursionLimit)
    (hbind : BindsTo s (fnOf name qual params body scope dV kV doc pm an cdv ct) args binds) (hkind : (binds.all fun y => scope.names.lookup y.1 == some .local || scope.names.lookup y.1 == some .cell) = true)
    (hnd : ((cellsFrom 0 scope.names []).map (·.1)).Nodup)
    (h : ∀ g L' h₁ tk cells, Fr g L' h₁ (bindL (envOfC qual scope L' f cdv).kindOf binds fun _ => none) → News g L' h₁ (cells ++ news) →
      CellsAre (bindC (envOfC qual scope L' f cdv).kindOf binds fun _ => none) (cellsFrom (L' + 1) scope.names []) cells → Below A base (env :: outer) g → K.In g → Top p loose mean mg mb g → GSub s.heap g (news.map (·.1)) → KtsDicts (frs (env :: outer)) g → (∀ p ∈ news, p.1 < L') → s.heap.get? L' = none → (∀ p ∈ cells, s.heap.get? p.1 = none) →
      wpAny (model prog w) (A.deeper (envOfC qual scope L' f cdv)) (execs body (envOfC qual scope L' f cdv))
        (fun fl s' => R (.ok (.ret (match fl with | .ret v => v | _ => .none))) s')
        (fun e s' => wpAny (model prog w) (A.deeper (envOfC qual scope L' f cdv)) (leaving (envOfC qual scope L' f cdv) e) (fun _ s'' => R (.error e) s'') (fun e' s'' => R (.error e') s'') s')
        { s with heap := h₁, toks := tk })
    (hco : scope.isCoroutine = false) (hgen : scope.isGenerator = false) (hk : scope.kind = .function) : codeAny (model prog w) A (.call (.ref f) args) R s := by
  have X₀ := XB.keeps B.stays
  have T := TB.keeps B.stays
  obtain ⟨FG, BG, st, lv⟩ := groundX (R := R) B F N hA hf hke
  refine codeAny_call_function hroom ((X₀.keeps F.keep) _ _ ho) rfl hco hgen rfl (codeRec_of (X₀.keeps F.keep) hcd) (hbind _ _ _ _ ?_)
  refine wpAny_newFunctionEnv_cells hk (kindsX hkind _) fun env' he s' x => ?_
  subst he
  refine ⟨(T.nolimit.keeps F.keep).keeps x.toInCall.keep, codeAny_func ?_⟩
  obtain ⟨h₁, tk, rfl, _⟩ := x.done
  have hk₁ := x.toInCall.keep
  obtain ⟨cells, NC, Y⟩ := Cl.news (h₀ := s.heap) (Nat.le_refl _) fun n c hm => ⟨x.cell n c (lookup_of_mem_nodup (cellsFrom_names scope.names 0 (s.heap.objs.size + 1) [] [] rfl ▸ hnd) hm), x.above n c hm⟩
  refine h _ s.heap.objs.size h₁ tk cells ⟨x.toInCall.ns, fun b o e => hk₁ b o (of_hideAll _ e), Nat.le_of_eq (hideAll_size _ _)⟩ (fun p hp => ?_) Y BG (X₀.keeps st) (T.keeps st) (fun b o e n => hideAll_get _ e n) (dicts_push B F N hf D) (fun p hp => Heap.lt_size (N p hp).1) (Heap.get?_none_of_le (Nat.le_refl _)) (fun p hp => (NC p hp).2.2)
  rcases List.mem_append.mp hp with hp | hp
  · refine ⟨(NC p hp).1, (NC p hp).2.1, ?_⟩
    cases q : (hideAll s.heap (news.map (·.1))).get? p.1 with
    | none => rfl
    | some o => have := of_hideAll _ q; rw [(NC p hp).2.2] at this; cases this
  · exact ⟨hk₁ _ _ (N p hp).1, Nat.ne_of_lt (Heap.lt_size (N p hp).1), hideAll_none _ (List.mem_map_of_mem hp)⟩
/-- the ground behind a call, for any kind of frame -/
theorem call_ground {g H h : Heap} {Y : List Addr} (B : Below A₀ base outer g) (F : Fr g L H m) (N : News g L H news) (D : KtsDicts (frs outer) g) (XB : K.In base) (TB : Top p loose mean mg mb base)
    (hf : env.frame = some L) (P : PresX (frs (env :: outer)) Y H h) (hY : ∀ b ∈ Y, g.get? b = none ∧ b ≠ L) :
    Pk1 fun g' => Al7 (KtsTurn (frs outer) g g') (Fr g' L h m) (Below A₀ base outer g') (KtsDicts (frs outer) g') (K.In g') (Top p loose mean mg mb g') ((∀ q ∈ news, q.1 ∉ Y → h.get? q.1 = some q.2 ∧ q.1 ≠ L ∧ g'.get? q.1 = none)) := by
  obtain ⟨g', T, F', B', D', nn⟩ := turn_ground (env := env) B F N D hf P.pres hY
  refine ⟨g', T, F', B', D', XB.keeps B'.stays, TB.keeps B'.stays, fun q hq nq => nn q hq nq fun hm => ?_⟩
  obtain ⟨env', he, hfe⟩ := List.mem_filterMap.mp hm
  rcases List.mem_cons.mp he with rfl | he
  · exact (N q hq).2.1 (Option.some.inj (hf.symm.trans hfe)).symm
  · obtain ⟨o', ho', _⟩ := (B.frames.mem (List.mem_filterMap.mpr ⟨env', he, hfe⟩)).2
    rw [(N q hq).2.2] at ho'; cases ho'
end
theorem ns_unique {h : Heap} {a : Addr} {m m' : Str → Option Value} (x : h.Ns a m) (y : h.Ns a m') : m = m' := by
  obtain ⟨o, es, ep, ho, hd, _, hm⟩ := x
  obtain ⟨o', es', ep', ho', hd', _, hm'⟩ := y
  rw [ho] at ho'; cases ho'
  rw [hd] at hd'; cases hd'
  funext z
  rw [← hm, ← hm']
section
variable {prog : Program} {w : World} {A : Around} {E : Value → Shared → Prop} {s : Shared} {env : Env} {body : List Stmt} {Q : Flow → Shared → Prop}
/-- a for loop over pairs, with a free invariant on the states -/
theorem For_anyT {I : Addr} {fp wr : List Addr} {n : Nat} {Pt : Nat → Array Value → Prop} {St : Nat → Heap → Prop} {Mid : Nat → Addr → Heap → Prop} {P2 : Nat → Value → Value → Prop} {xi xc : Str} {pk pv pt : Pos} {x1 : Nat} {iter : PySem.Expr} {pos : Pos} (J : Nat → Shared → Prop)
    (hh : A.handled = none)
    (h : wpAny (model prog w) A (eval iter env) (fun xv s₁ => wpAny (model prog w) A (pyIter xv) (fun it s₂ => it = .ref I ∧ J 0 s₂) E s₁) E s)
    (W : WalksT prog w A I fp wr n Pt St Mid) (h2 : ∀ i vals, Pt i vals → ∃ v0 v1, vals = #[v0, v1] ∧ P2 i v0 v1)
    (hLf : env.locals ∉ fp) (hst : ∀ i s', J i s' → St i s'.heap) (hns : ∀ i s', J i s' → ∃ m, s'.heap.Ns env.locals m)
    (turn : ∀ i (s₁ : Shared) v0 v1 h₁ tk₁, i < n → J i s₁ → P2 i v0 v1 → St (i + 1) h₁ → (∀ m, s₁.heap.Ns env.locals m → h₁.Ns env.locals (fun y => if y = xc then some v1 else if y = xi then some v0 else m y)) →
      (∀ b o, b ∉ wr → b ≠ env.locals → s₁.heap.get? b = some o → h₁.get? b = some o) →
      wpAny (model prog w) A (execs body env) (fun f s₃ => f = .next ∧ J (i + 1) s₃) E { s₁ with heap := h₁, toks := tk₁ })
    (done : ∀ (s₁ : Shared) h₁ tk₁, J n s₁ → (∀ b o, b ∉ wr → s₁.heap.get? b = some o → h₁.get? b = some o) → Q .next { s₁ with heap := h₁, toks := tk₁ })
    (hxi : env.kindOf xi = some .local := by rfl) (hxc : env.kindOf xc = some .local := by rfl)
    (hp : (env.scope.kind == .class || (env.scope.kind == .module && env.locals != env.globals)) = false := by rfl)
    (hs : ∀ x, foldedSetIterable iter env x = pure x := by intro _; rfl)
    (hE : PassesOwn (model prog w) A env E := by passes_own) :
    wpAny (model prog w) A (exec (.For (.Tuple [.Name xi pk, .Name xc pv] x1 pt) iter body [] pos) env) Q E s := by
  have hLw : env.locals ∉ wr := fun h => hLf (W.sub _ h)
  refine wpAny_For (wpAny_mono h (fun xv s₁ h₁ => wpAny_mono h₁ (fun it s₂ h₂ => ?_) fun _ _ e => e) fun _ _ e => e) hs
  obtain ⟨rfl, h0⟩ := h₂
  refine codeAny_forLoop_any (fun k s' => ∃ i, J i s' ∧ i ≤ n ∧ k = n + 1 - i) ?_ (n + 1) ⟨0, h0, Nat.zero_le _, rfl⟩
  rintro k s' ⟨i, hJ, hi, rfl⟩
  by_cases hlt : i < n
  · refine W.item i _ _ _ hlt (hst i s' hJ) fun T vals h₁ tk₁ hPt _ hT hMid hk₁ => ?_
    obtain ⟨v0, v1, rfl, hP2⟩ := h2 i vals hPt
    refine W.go _ x1 pt i T _ _ _ hMid fun h₂ hst₂ hk₂ => ?_
    have ht₂ : h₂.IsTuple T #[v0, v1] := hT.at fun o e => hk₂ T o (W.apart i T h₁ hMid) e
    refine wpAny_assign_Tuple hh ht₂ rfl rfl fun h₃ hx₃ => ?_
    replace hx₃ : Heap.ExtBut h₂.objs.size h₂ h₃ := hx₃
    have up₃ : ∀ b o, h₂.get? b = some o → h₃.get? b = some o := fun b o x => hx₃ b o (Nat.ne_of_lt (Heap.lt_size x)) x
    have up : ∀ b o, b ∉ wr → s'.heap.get? b = some o → h₃.get? b = some o := fun b o hb x => up₃ b o (hk₂ b o hb (hk₁ b o hb x))
    obtain ⟨m, hm⟩ := hns i s' hJ
    have hm₃ : h₃.Ns env.locals m := hm.at' fun o e => up _ o hLw e
    show wpAny _ A (do holding [v1] (assign (.Name xi pk) env v0); do holding [] (assign (.Name xc pv) env v1); pure ()) _ _ _
    refine wpAny_bind (wpAny_holding (wpAny_assign_Name (wpAny_storeName_local hxi hm₃ (fun h₄ hn₄ hs₄ => ?_) hp)))
    replace hs₄ : Heap.SameBut env.locals h₃ h₄ := hs₄
    refine wpAny_bind (wpAny_holding (wpAny_assign_Name (wpAny_storeName_local hxc hn₄ (fun h₅ hn₅ hs₅ => wpAny_pure ?_) hp)))
    replace hs₅ : Heap.SameBut env.locals h₄ h₅ := hs₅
    have hst₅ : St (i + 1) h₅ := W.frame _ _ _ hst₂ fun b hb o e => hs₅.extBut b o (fun q => hLf (q ▸ hb)) (hs₄.extBut b o (fun q => hLf (q ▸ hb)) (up₃ b o e))
    refine wpAny_mono (wpAny_passesOwn hE (turn i s' v0 v1 h₅ _ hlt hJ hP2 hst₅ ?_ ?_)) (fun f s₃ h₃ => ?_) fun _ _ e => e
    · intro m' hm'
      rw [ns_unique hm' hm]
      exact hn₅
    · intro b o hb hL e
      exact hs₅.extBut b o hL (hs₄.extBut b o hL (up b o hb e))
    · obtain ⟨rfl, hJ'⟩ := h₃
      exact ⟨n + 1 - (i + 1), by omega, i + 1, hJ', hlt, rfl⟩
  · have : i = n := by omega
    subst this
    refine W.done _ _ _ (hst i s' hJ) fun h₁ tk₁ hk₁ => wpAny_execs_nil ?_
    exact done s' h₁ tk₁ hJ hk₁
end
/-- what never changes: tuples, code records, functions -/
noncomputable def Good (o : Obj) : Prop := (o.cls = .type "tuple" ∧ ∃ vs n, o.data = .seq vs n) ∨ (∃ vs z u, o.data = .fields vs ∧ vs[1]? = some (.str z u)) ∨ ∃ fd, o.data = .func fd
noncomputable def KG (h h' : Heap) : Prop := ∀ b o, h.get? b = some o → Good o → h'.get? b = some o
theorem KG.refl {h : Heap} : KG h h := fun _ _ e _ => e
theorem KG.trans {a b c : Heap} (x : KG a b) (y : KG b c) : KG a c := fun b o e g => y b o (x b o e g) g
theorem KG.tups {h h' : Heap} (k : KG h h') {vs : List Value} {ds : List Ent} (T : Tups h vs ds) : Tups h' vs ds := by
  refine ⟨T.1, fun i d hd => ?_⟩
  obtain ⟨v, hv, b, t1, t2, t3, rfl, hb⟩ := T.2 i d hd
  exact ⟨_, hv, b, t1, t2, t3, rfl, k _ _ hb (.inl ⟨rfl, _, _, rfl⟩)⟩
theorem KG.tab {h h' : Heap} (k : KG h h') {ps : Array Value} (T : TabPs h ps) : TabPs h' ps := by
  rcases T with rfl | ⟨c9, oc, vs, t, rfl, hoc, hd, hv, hne⟩
  · exact .inl rfl
  · exact .inr ⟨c9, oc, vs, t, rfl, k _ _ hoc (.inr (.inl ⟨vs, _, _, hd, hv⟩)), hd, hv, hne⟩
theorem KG.code {h h' : Heap} (k : KG h h') {c q} (T : h.CodeRec c q) : h'.CodeRec c q := by
  obtain ⟨cc, oc, vc, tc, ec, hoc, hdc, hvc⟩ := T
  exact ⟨cc, oc, vc, tc, ec, k _ _ hoc (.inr (.inl ⟨vc, _, _, hdc, hvc⟩)), hdc, hvc⟩
theorem good_dict {o : Obj} (h : Good o) (x : ∃ es n, o.data = .dict es n) : False := by
  obtain ⟨es, n, e⟩ := x
  rcases h with ⟨_, vs, k, h⟩ | ⟨vs, z, u, h, _⟩ | ⟨fd, h⟩
  · rw [h] at e; cases e
  · rw [h] at e; cases e
  · rw [h] at e; cases e
theorem not_good_list {vs : Array Value} {n : Nat} : ¬ Good (listOf vs n) := by
  rintro (⟨h, _⟩ | ⟨vs, z, u, h, _⟩ | ⟨fd, h⟩)
  · injection h with h; exact absurd h (by decide)
  · cases h
  · cases h
theorem not_good_tab {h : Heap} {ps : Array Value} (x : TabPs h ps) : ¬ Good (tabObj ps) := by
  rintro (⟨h, _⟩ | ⟨vs, z, u, h, hv⟩ | ⟨fd, h⟩)
  · cases h
  · cases h
    rcases x with rfl | ⟨c9, oc, vs, t, rfl, hoc, hd, hv', hne⟩
    · simp at hv
    · simp [rawInt] at hv
  · cases h
theorem not_good_tab0 : ¬ Good (tabObj #[]) := by
  rintro (⟨h, _⟩ | ⟨vs, z, u, h, hv⟩ | ⟨fd, h⟩)
  · cases h
  · cases h; simp at hv
  · cases h
theorem not_good_cell {o : Obj} {v : Option Value} (h : o.data = .cell v) : ¬ Good o := by
  rintro (⟨_, vs, k, h'⟩ | ⟨vs, z, u, h', hv⟩ | ⟨fd, h'⟩)
  · rw [h] at h'; cases h'
  · rw [h] at h'; cases h'
  · rw [h] at h'; cases h'
/-- all that never changes and is not of the ground goes onto the ledger -/
theorem sake {g h : Heap} {L : Addr} {m : Str → Option Value} {news : List (Addr × Obj)} (F : Fr g L h m) (N : News g L h news) :
    Pk1 fun tl => Al3 (News g L h (news ++ tl)) ((∀ q ∈ tl, Good q.2 ∧ h.get? q.1 = some q.2)) ((∀ h' m', Fr g L h' m' → (∀ q ∈ tl, h'.get? q.1 = some q.2) → KG h h')) := by
  classical
  have hL : ∀ o, h.get? L = some o → ¬ Good o := fun o e hg => by
    obtain ⟨oL, hL, hd⟩ := fr_dict F
    rw [e] at hL; cases hL
    exact good_dict hg hd
  refine ⟨(List.range h.objs.size).filterMap (fun a => match h.get? a with | some o => if Good o ∧ g.get? a = none then some (a, o) else none | none => none), ?_, ?_, ?_⟩
  · intro q hq
    rcases List.mem_append.mp hq with hq | hq
    · exact N q hq
    · obtain ⟨a, ha, e⟩ := List.mem_filterMap.mp hq
      cases ho : h.get? a with
      | none => rw [ho] at e; cases e
      | some o =>
        rw [ho] at e
        dsimp only at e
        split at e
        · rename_i hc
          cases e
          refine ⟨ho, fun z => ?_, hc.2⟩
          have z' : a = L := z
          rw [z'] at ho
          exact hL _ ho hc.1
        · cases e
  · intro q hq
    obtain ⟨a, ha, e⟩ := List.mem_filterMap.mp hq
    cases ho : h.get? a with
    | none => rw [ho] at e; cases e
    | some o =>
      rw [ho] at e
      dsimp only at e
      split at e
      · rename_i hc
        cases e
        exact ⟨hc.1, ho⟩
      · cases e
  · intro h' m' F' hk b o e hgd
    cases hg : g.get? b with
    | some o' =>
      have := F.keep _ _ hg
      rw [e] at this
      cases this
      exact F'.keep _ _ hg
    | none =>
      refine hk (b, o) (List.mem_filterMap.mpr ⟨b, List.mem_range.mpr (Heap.lt_size e), ?_⟩)
      rw [e]
      dsimp only
      rw [if_pos ⟨hgd, hg⟩]
/-- a goal that the walk leaves alone -/
noncomputable def Held (P : Prop) : Prop := P
theorem Held.mk {P : Prop} (h : P) : Held P := h
theorem Held.out {P : Prop} (h : Held P) : P := h
theorem kg_enter {h₀ H g g' h : Heap} {L L' : Addr} {m : Str → Option Value} {fs : List Addr} {news : List (Addr × Obj)} (N : News h₀ L H news) (hno : ∀ q ∈ news, ¬ Good q.2) (GS : GSub H g (news.map (·.1))) (D : KtsDicts fs g) (TT : KtsTurn fs g g') (F : Fr g' L' h m) : KG H h := by
  intro b o e hg
  refine keepG GS D TT F e (fun hm => ?_) (fun es n q => good_dict hg ⟨es, n, q⟩)
  obtain ⟨q, hq, rfl⟩ := List.mem_map.mp hm
  have := (N q hq).1
  rw [e] at this; cases this
  exact hno q hq hg
theorem kg_call {g H h : Heap} {L : Addr} {m : Str → Option Value} {env : Env} {outer : List Env} {Y : List Addr} (F : Fr g L H m) (D : KtsDicts (frs outer) g) (hf : env.frame = some L) (P : PresX (frs (env :: outer)) Y H h) (hY : ∀ b ∈ Y, ∀ o, H.get? b = some o → ¬ Good o) : KG H h := by
  intro b o e hg
  refine P.pres.other b o e (fun hm => hY b hm o e hg) fun hm => ?_
  obtain ⟨env', he, hfe⟩ := List.mem_filterMap.mp hm
  rcases List.mem_cons.mp he with rfl | he
  · have z : L = b := Option.some.inj (hf.symm.trans hfe)
    obtain ⟨oL, hL, hd⟩ := fr_dict F
    rw [z, e] at hL; cases hL
    exact good_dict hg hd
  · obtain ⟨o', es, n, ho', hd⟩ := D b (List.mem_filterMap.mpr ⟨env', he, hfe⟩)
    have := F.keep _ _ ho'
    rw [e] at this; cases this
    exact good_dict hg ⟨es, n, hd⟩
theorem kg_pres {hp : Addr} {h h' : Heap} {o : Obj} (P : Pres hp h h') (ho : h.get? hp = some o) (hn : ¬ Good o) : KG h h' := by
  intro b x e hg
  refine P b x (fun z => ?_) e
  rw [z, ho] at e; cases e
  exact hn hg
end Mine
end

/- P1 -/
section
namespace Mine
noncomputable def key (d : Ent) : Int := d.1 * 100 + d.2.1 * 10 + d.2.2
noncomputable def Bd (d : Ent) : Prop := 0 ≤ d.1 ∧ d.1 ≤ 9 ∧ 0 ≤ d.2.1 ∧ d.2.1 ≤ 9 ∧ 0 ≤ d.2.2 ∧ d.2.2 ≤ 9
theorem entLt_key {x y : Ent} (hx : Bd x) (hy : Bd y) : entLt x y = decide (key x < key y) := by
  obtain ⟨x1, x2, x3⟩ := x
  obtain ⟨y1, y2, y3⟩ := y
  unfold Bd at hx hy
  unfold entLt key
  dsimp only at hx hy ⊢
  rw [decide_eq_decide]
  omega
theorem set_perm {l : List Ent} {i j : Nat} (x : Ent) (hi : i < l.length) (hj : j < l.length) (hne : i ≠ j) : (l.set i (l.getD j (0, 0, 0))).set j x |>.Perm (l.set i x) := by
  have h := List.set_set_perm (as := l.set i x) (i := i) (j := j) (by simpa using hi) (by simpa using hj)
  rw [List.getElem_set_self, List.getElem_set_ne hne, List.set_set] at h
  rw [List.getD_eq_getElem?_getD, List.getElem?_eq_getElem hj]
  exact h
theorem downGo_perm (st : Nat) (x : Ent) : ∀ (pos : Nat) (ds : List Ent), pos < ds.length → (downGo ds st x pos).Perm (ds.set pos x) := by
  intro pos
  induction pos using Nat.strongRecOn with
  | _ pos ih =>
    intro ds hp
    rw [downGo]
    split
    · split
      · refine (ih ((pos - 1) / 2) (by omega) _ (by rw [List.length_set]; omega)).trans ?_
        exact set_perm x hp (by omega) (by omega)
      · exact .refl _
    · exact .refl _
theorem upGo_spec : ∀ (k : Nat) (ds : List Ent) (pos : Nat), ds.length - pos = k → pos < ds.length → (upGo ds pos).2 < (upGo ds pos).1.length ∧ ∀ x, ((upGo ds pos).1.set (upGo ds pos).2 x).Perm (ds.set pos x) := by
  intro k
  induction k using Nat.strongRecOn with
  | _ k ih =>
    intro ds pos hk hp
    rw [upGo]
    split
    · rename_i hc
      have h1 := kid_lt hc
      have h2 := kid_ge (ds := ds) (c := 2 * pos + 1)
      have := ih ((ds.set pos (ds.getD (kid ds (2 * pos + 1)) (0, 0, 0))).length - kid ds (2 * pos + 1)) (by rw [List.length_set]; omega) (ds.set pos (ds.getD (kid ds (2 * pos + 1)) (0, 0, 0))) (kid ds (2 * pos + 1)) rfl (by rw [List.length_set]; exact h1)
      exact ⟨this.1, fun x => (this.2 x).trans (set_perm x hp h1 (by omega))⟩
    · exact ⟨hp, fun x => .refl _⟩
theorem upF_perm {ds : List Ent} {pos : Nat} (hp : pos < ds.length) : (upF ds pos).Perm ds := by
  obtain ⟨h1, h2⟩ := upGo_spec _ ds pos rfl hp
  unfold upF downF
  refine (downGo_perm _ _ _ _ (by rw [List.length_set]; exact h1)).trans ?_
  rw [List.set_set]
  refine (h2 _).trans ?_
  rw [List.getD_eq_getElem?_getD, List.getElem?_set_self h1, Option.getD_some, List.getD_eq_getElem?_getD, List.getElem?_eq_getElem hp, Option.getD_some, List.set_getElem_self]
noncomputable def HeapK : List Ent → Prop
  | [] => True
  | [_] => True
  | [a, b] => key a ≤ key b
  | [a, b, c] => key a ≤ key b ∧ key a ≤ key c
  | [a, b, c, d] => key a ≤ key b ∧ key a ≤ key c ∧ key b ≤ key d
  | _ => False
noncomputable def SubK : List Ent → Prop
  | [_, b, _, d] => key b ≤ key d
  | l => l.length ≤ 4
theorem up_heap1 (a : Ent) : upF [a] 0 = [a] := by
  unfold upF downF
  rw [upGo, dif_neg (by show ¬ 2 * 0 + 1 < 1; decide)]
  show downGo [a] 0 a 0 = [a]
  rw [downGo, dif_neg (by decide)]
  rfl
theorem up_heap2 {a b : Ent} (ha : Bd a) (hb : Bd b) : HeapK (upF [a, b] 0) := by
  have k1 : kid [a, b] 1 = 1 := by unfold kid; rw [if_neg (by simp)]
  unfold upF downF
  rw [upGo, dif_pos (by show 2 * 0 + 1 < 2; decide), show 2 * 0 + 1 = 1 from rfl, k1, upGo, dif_neg (by show ¬ 2 * 1 + 1 < 2; decide)]
  show HeapK (downGo [b, a] 0 a 1)
  rw [downGo, dif_pos (by decide), show (1 - 1) / 2 = 0 from rfl]
  show HeapK (if entLt a b = true then downGo [b, b] 0 a 0 else [b, a])
  rw [entLt_key ha hb]
  split
  · rename_i h
    rw [downGo, dif_neg (by decide)]
    have := of_decide_eq_true h
    show key a ≤ key b
    omega
  · rename_i h
    have : ¬ key a < key b := fun q => h (decide_eq_true q)
    show key b ≤ key a
    omega
theorem up_heap3 {a b c : Ent} (ha : Bd a) (hb : Bd b) (hc : Bd c) : HeapK (upF [a, b, c] 0) := by
  have hk : kid [a, b, c] 1 = if key b < key c then 1 else 2 := by
    have e : entLt b c = decide (key b < key c) := entLt_key hb hc
    by_cases h : key b < key c <;> simp [kid, e, h]
  unfold upF downF
  rw [upGo, dif_pos (by show 2 * 0 + 1 < 3; decide), show 2 * 0 + 1 = 1 from rfl, hk]
  by_cases h : key b < key c
  · rw [if_pos h, upGo, dif_neg (by show ¬ 2 * 1 + 1 < 3; decide)]
    show HeapK (downGo [b, a, c] 0 a 1)
    rw [downGo, dif_pos (by decide), show (1 - 1) / 2 = 0 from rfl]
    show HeapK (if entLt a b = true then downGo [b, b, c] 0 a 0 else [b, a, c])
    rw [entLt_key ha hb]
    split
    · rename_i h'
      rw [downGo, dif_neg (by decide)]
      have := of_decide_eq_true h'
      show key a ≤ key b ∧ key a ≤ key c
      omega
    · rename_i h'
      have : ¬ key a < key b := fun q => h' (decide_eq_true q)
      show key b ≤ key a ∧ key b ≤ key c
      omega
  · rw [if_neg h, upGo, dif_neg (by show ¬ 2 * 2 + 1 < 3; decide)]
    show HeapK (downGo [c, b, a] 0 a 2)
    rw [downGo, dif_pos (by decide), show (2 - 1) / 2 = 0 from rfl]
    show HeapK (if entLt a c = true then downGo [c, b, c] 0 a 0 else [c, b, a])
    rw [entLt_key ha hc]
    split
    · rename_i h'
      rw [downGo, dif_neg (by decide)]
      have := of_decide_eq_true h'
      show key a ≤ key b ∧ key a ≤ key c
      omega
    · rename_i h'
      have : ¬ key a < key c := fun q => h' (decide_eq_true q)
      show key c ≤ key b ∧ key c ≤ key a
      omega
theorem up_heap4 {a b c d : Ent} (ha : Bd a) (hb : Bd b) (hc : Bd c) (hd : Bd d) (hs : key b ≤ key d) : HeapK (upF [a, b, c, d] 0) := by
  have hk : kid [a, b, c, d] 1 = if key b < key c then 1 else 2 := by
    have e : entLt b c = decide (key b < key c) := entLt_key hb hc
    by_cases h : key b < key c <;> simp [kid, e, h]
  unfold upF downF
  rw [upGo, dif_pos (by show 2 * 0 + 1 < 4; decide), show 2 * 0 + 1 = 1 from rfl, hk]
  by_cases h : key b < key c
  · have hk2 : kid [b, b, c, d] 3 = 3 := by unfold kid; rw [if_neg (by simp)]
    rw [if_pos h]
    show HeapK (downGo (List.set (upGo [b, b, c, d] 1).1 (upGo [b, b, c, d] 1).2 a) 0 ((List.set (upGo [b, b, c, d] 1).1 (upGo [b, b, c, d] 1).2 a).getD (upGo [b, b, c, d] 1).2 (0, 0, 0)) (upGo [b, b, c, d] 1).2)
    rw [upGo, dif_pos (by show 2 * 1 + 1 < 4; decide), show 2 * 1 + 1 = 3 from rfl, hk2, upGo, dif_neg (by show ¬ 2 * 3 + 1 < 4; decide)]
    show HeapK (downGo [b, d, c, a] 0 a 3)
    rw [downGo, dif_pos (by decide), show (3 - 1) / 2 = 1 from rfl]
    show HeapK (if entLt a d = true then downGo [b, d, c, d] 0 a 1 else [b, d, c, a])
    rw [entLt_key ha hd]
    split
    · rename_i h'
      have h'' := of_decide_eq_true h'
      rw [downGo, dif_pos (by decide), show (1 - 1) / 2 = 0 from rfl]
      show HeapK (if entLt a b = true then downGo [b, b, c, d] 0 a 0 else [b, a, c, d])
      rw [entLt_key ha hb]
      split
      · rename_i h3
        have := of_decide_eq_true h3
        rw [downGo, dif_neg (by decide)]
        show key a ≤ key b ∧ key a ≤ key c ∧ key b ≤ key d
        omega
      · rename_i h3
        have : ¬ key a < key b := fun q => h3 (decide_eq_true q)
        show key b ≤ key a ∧ key b ≤ key c ∧ key a ≤ key d
        omega
    · rename_i h'
      have : ¬ key a < key d := fun q => h' (decide_eq_true q)
      show key b ≤ key d ∧ key b ≤ key c ∧ key d ≤ key a
      omega
  · rw [if_neg h]
    show HeapK (downGo (List.set (upGo [c, b, c, d] 2).1 (upGo [c, b, c, d] 2).2 a) 0 ((List.set (upGo [c, b, c, d] 2).1 (upGo [c, b, c, d] 2).2 a).getD (upGo [c, b, c, d] 2).2 (0, 0, 0)) (upGo [c, b, c, d] 2).2)
    rw [upGo, dif_neg (by show ¬ 2 * 2 + 1 < 4; decide)]
    show HeapK (downGo [c, b, a, d] 0 a 2)
    rw [downGo, dif_pos (by decide), show (2 - 1) / 2 = 0 from rfl]
    show HeapK (if entLt a c = true then downGo [c, b, c, d] 0 a 0 else [c, b, a, d])
    rw [entLt_key ha hc]
    split
    · rename_i h'
      rw [downGo, dif_neg (by decide)]
      have := of_decide_eq_true h'
      show key a ≤ key b ∧ key a ≤ key c ∧ key b ≤ key d
      omega
    · rename_i h'
      have : ¬ key a < key c := fun q => h' (decide_eq_true q)
      show key c ≤ key b ∧ key c ≤ key a ∧ key b ≤ key d
      omega
theorem up_heap {ds : List Ent} (hb : ∀ d ∈ ds, Bd d) (hs : SubK ds) (hne : ds ≠ []) : HeapK (upF ds 0) := by
  match ds, hb, hs with
  | [], _, _ => exact absurd rfl hne
  | [a], _, _ => rw [up_heap1]; trivial
  | [a, b], hb, _ => exact up_heap2 (hb a (by simp)) (hb b (by simp))
  | [a, b, c], hb, _ => exact up_heap3 (hb a (by simp)) (hb b (by simp)) (hb c (by simp))
  | [a, b, c, d], hb, hs => exact up_heap4 (hb a (by simp)) (hb b (by simp)) (hb c (by simp)) (hb d (by simp)) hs
  | _ :: _ :: _ :: _ :: _ :: _, _, hs => exact absurd (show _ ≤ 4 from hs) (by simp)
theorem up_one4 {a b c d : Ent} (hb : Bd b) (hd : Bd d) : SubK (upF [a, b, c, d] 1) := by
  have hk2 : kid [a, b, c, d] 3 = 3 := by unfold kid; rw [if_neg (by simp)]
  unfold upF downF
  rw [upGo, dif_pos (by show 2 * 1 + 1 < 4; decide), show 2 * 1 + 1 = 3 from rfl, hk2, upGo, dif_neg (by show ¬ 2 * 3 + 1 < 4; decide)]
  show SubK (downGo [a, d, c, b] 1 b 3)
  rw [downGo, dif_pos (by decide), show (3 - 1) / 2 = 1 from rfl]
  show SubK (if entLt b d = true then downGo [a, d, c, d] 1 b 1 else [a, d, c, b])
  rw [entLt_key hb hd]
  split
  · rename_i h'
    have := of_decide_eq_true h'
    rw [downGo, dif_neg (by decide)]
    show key b ≤ key d
    omega
  · rename_i h'
    have : ¬ key b < key d := fun q => h' (decide_eq_true q)
    show key d ≤ key b
    omega
theorem hfy_heap {ds : List Ent} (hb : ∀ d ∈ ds, Bd d) (hl : ds.length ≤ 4) : HeapK (hfyGo ds (ds.length / 2) (ds.length / 2)) ∧ (hfyGo ds (ds.length / 2) (ds.length / 2)).Perm ds := by
  match ds, hb, hl with
  | [], _, _ => exact ⟨trivial, .refl _⟩
  | [a], _, _ =>
    rw [show [a].length / 2 = 0 from by simp]
    exact ⟨trivial, .refl _⟩
  | [a, b], hb, _ =>
    rw [show [a, b].length / 2 = 1 from by simp]
    exact ⟨up_heap (ds := [a, b]) hb (by show 2 ≤ 4; decide) (by simp), upF_perm (by show 0 < 2; decide)⟩
  | [a, b, c], hb, _ =>
    rw [show [a, b, c].length / 2 = 1 from by simp]
    exact ⟨up_heap (ds := [a, b, c]) hb (by show 3 ≤ 4; decide) (by simp), upF_perm (by show 0 < 3; decide)⟩
  | [a, b, c, d], hb, _ =>
    have hp : (upF [a, b, c, d] 1).Perm [a, b, c, d] := upF_perm (by simp)
    have hl := hp.length_eq
    rw [show [a, b, c, d].length / 2 = 2 from by simp]
    show HeapK (upF (upF [a, b, c, d] 1) 0) ∧ (upF (upF [a, b, c, d] 1) 0).Perm _
    exact ⟨up_heap (fun e he => hb e (hp.mem_iff.mp he)) (up_one4 (hb b (by simp)) (hb d (by simp))) (fun q => by rw [q] at hl; cases hl), (upF_perm (by rw [hl]; simp)).trans hp⟩
  | _ :: _ :: _ :: _ :: _ :: _, _, hl => exact absurd hl (by simp)
theorem HeapK.min {d : Ent} {r : List Ent} (h : HeapK (d :: r)) : ∀ x ∈ r, key d ≤ key x := by
  match r, h with
  | [], _ => intro x hx; cases hx
  | [b], h => intro x hx; rw [List.mem_singleton.mp hx]; exact h
  | [b, c], h =>
    intro x hx
    have h : key d ≤ key b ∧ key d ≤ key c := h
    simp only [List.mem_cons, List.mem_nil_iff, or_false] at hx
    rcases hx with rfl | rfl <;> omega
  | [b, c, e], h =>
    intro x hx
    have h : key d ≤ key b ∧ key d ≤ key c ∧ key b ≤ key e := h
    simp only [List.mem_cons, List.mem_nil_iff, or_false] at hx
    rcases hx with rfl | rfl | rfl <;> omega
theorem HeapK.len {ds : List Ent} (h : HeapK ds) : ds.length ≤ 4 := by
  match ds, h with
  | [], _ => simp
  | [_], _ => simp
  | [_, _], _ => simp
  | [_, _, _], _ => simp
  | [_, _, _, _], _ => simp
theorem HeapK.sub {d x : Ent} {r : List Ent} (h : HeapK (d :: r)) : SubK (x :: r) := by
  match r, h with
  | [], _ => show 1 ≤ 4; decide
  | [_], _ => show 2 ≤ 4; decide
  | [_, _], _ => show 3 ≤ 4; decide
  | [_, _, _], h => exact h.2.2
theorem subK_short {ds : List Ent} (h : ds.length ≤ 3) : SubK ds := by
  cases ds with
  | nil => show 0 ≤ 4; decide
  | cons a r => cases r with
    | nil => show 1 ≤ 4; decide
    | cons b r => cases r with
      | nil => show 2 ≤ 4; decide
      | cons c r => cases r with
        | nil => show 3 ≤ 4; decide
        | cons d r => exact absurd h (Nat.not_le_of_gt (Nat.le_add_left 4 r.length))
end Mine
end

local macro_rules | `(tactic| walk_at "call type:enumerate") => `(tactic| refine Mine.Halt.mk ?_)
/- G1 -/
section
open PySem PySem.W PyProof.Rows PySem.Calls PySem.Spec
set_option maxRecDepth 100000
set_option maxHeartbeats 4000000
namespace Mine
local macro_rules | `(tactic| walk_at "no such key") => `(tactic| fail "no")
theorem fillG1 (w : World) (h : Heap) : (hd35.heap_39 w.params).In h → model PySem.Challenge.rw_om0035_01.row.prog w = model PySem.Challenge.rw_om0035_01.row.prog w := by
  k_fill
  intro _
  rfl
theorem codeHd118 {w : World} {h : Heap} (X : (hd35.heap_39 w.params).In h) : CodeHd h 122 118 := by
  refine ⟨_, _, _, _, _, _, _, _, _, X 122 _ (by k_is), rfl, rfl, rfl, rfl, rfl, rfl, rfl, rfl, by decide⟩
/-- the first entries of the words below i -/
noncomputable def initF (text : Str) (ws : List Str) : Nat → List Ent
  | 0 => []
  | i + 1 => if 0 ≤ nextF text 0 (ws.getD i Str.empty) then initF text ws i ++ [(nextF text 0 (ws.getD i Str.empty) + (ws.getD i Str.empty).length, nextF text 0 (ws.getD i Str.empty), (i : Int))] else initF text ws i
noncomputable def startF (text : Str) (ws : List Str) : List Ent := hfyGo (initF text ws ws.length) ((initF text ws ws.length).length / 2) ((initF text ws ws.length).length / 2)
noncomputable def EnumO (it : Addr) (i : Nat) (o : Obj) : Prop := ∃ old, o = { cls := .type "enumerate", dict := none, data := .fields #[.none, .bool false, .ref it, rawInt i, .none, old], slots := #[] }
noncomputable def LIterO (l : Addr) (i : Nat) (o : Obj) : Prop := o.cls = .type "list_iterator" ∧ o.data = .fields #[.ref l, .int i 0]
theorem not_good_enum {it : Addr} {i : Nat} {o : Obj} (h : EnumO it i o) : ¬ Good o := by
  obtain ⟨old, rfl⟩ := h
  rintro (⟨h, _⟩ | ⟨vs, z, u, h, hv⟩ | ⟨fd, h⟩)
  · injection h with h; exact absurd h (by decide)
  · cases h; simp at hv
  · cases h
theorem not_good_liter {it : Addr} {i : Nat} {o : Obj} (h : LIterO it i o) : ¬ Good o := by
  obtain ⟨hc, hd⟩ := h
  rintro (⟨h, _⟩ | ⟨vs, z, u, h, hv⟩ | ⟨fd, h⟩)
  · rw [hc] at h; injection h with h; exact absurd h (by decide)
  · rw [hd] at h; cases h; simp at hv
  · rw [hd] at h; cases h
theorem news_sub {g h : Heap} {L : Addr} {news l : List (Addr × Obj)} (N : News g L h news) (hs : ∀ q ∈ l, q ∈ news) : News g L h l := fun q hq => N q (hs q hq)
theorem news_nil {g h : Heap} {L : Addr} : News g L h [] := fun _ hq => nomatch hq
theorem news_cons {g h : Heap} {L : Addr} {q : Addr × Obj} {news rest : List (Addr × Obj)} (N : News g L h news) (hm : q ∈ news) (R : News g L h rest) : News g L h (q :: rest) := fun p hp => by
  rcases List.mem_cons.mp hp with rfl | hp
  · exact N _ hm
  · exact R p hp
noncomputable abbrev rangeO (n : Int) (t u v : Tok) : Obj := { cls := .type "range", data := .fields #[.int 0 t, .int n u, .int 1 v] }
theorem range_led {prog : Program} {w : World} {A : Around} {E : Value → Shared → Prop} {s : Shared} {h₀ : Heap} {L : Addr} {m : Str → Option Value} {news : List (Addr × Obj)} {n : Int} {t0 : Tok} {Q : Value → Shared → Prop} (F : Fr h₀ L s.heap m) (N : News h₀ L s.heap news)
    (h : ∀ (r : Addr) t u v h' tk, Fr h₀ L h' m → News h₀ L h' ((r, rangeO n t u v) :: news) → (∀ p ∈ news, p.1 < r) → Q (.ref r) { s with heap := h', toks := tk }) :
    wpAny (model prog w) A (call (.type "range") [.int n t0]) Q E s :=
  call_range_1 (h _ _ _ _ _ _ (F.push _) (News.push F N _ rfl) (fun q hq => Heap.lt_size (N q hq).1))
section
local macro_rules | `(tactic| k_all) => `(tactic| assumption)
local macro_rules | `(tactic| walk_at "exec For Tuple Call cons nil") => `(tactic| refine Mine.Halt.mk ?_)
namespace taken_c_k
noncomputable def PP (w : World) (p : Program) (loose : List Str) (mean : ExcName → Option Value) (mg : Str → Option Value) (mb : Str → Option Value) (dp : Nat) (un : Nat) (gd : Option (List Code)) (cn : Str) (cs : Scope) (L : Addr) (a : Addr) (ccd : Value) (cl : List (Str × Addr)) (outer : List Env) (A₀ : Around) (base : Heap) (h₀ : Heap) (m : Str → Option Value) (s : Shared) (Q : Value → Shared → Prop) (E : Value → Shared → Prop) (text : Str) (t0 : Tok) (ps : Array Value) (wl : Addr) (n3 : Nat) (wvs : List Value) (ws : List Str) : Prop := ∀ (B : Below A₀ base outer h₀) (F : Fr h₀ L s.heap m) (XB : (hd35.heap_39 w.params).In base) (TB : Top p loose mean mg mb base) (D : KtsDicts (frs outer) h₀) (hk : cs.kind = .function) (N : News h₀ L s.heap [(80, tabObj ps), (118, tabObj #[]), (wl, listOf wvs.toArray n3)]) (hps : TabPs s.heap ps) (hasc : text.cps.all (· < 128) = true) (hlt : text.length ≤ 9) (hnl : 10 ∉ text.cps.toList) (hok : ∀ i, i ≤ 36 → StOk text ws (turnsF text ws i (startF text ws, 0, []))) (hend : (turnsF text ws 36 (startF text ws, 0, [])).1 = []) (hW : WordsAt wvs ws) (hwl : ws.length ≤ 4) (hwr : ∀ x ∈ ws, x.length ≤ 3 ∧ (reprText x).length ≤ 40) (hdp : dp + 14 < recursionLimit) (hu : un + 120 < cLine) (hret : ∀ tka n1 tks h' tk', PresX (frs (envX cn cs L a ccd cl :: outer)) [80, 118] s.heap h' → h'.get? tka = some (listOf tks.toArray n1) → Tups h' tks (turnsF text ws 36 (startF text ws, 0, [])).2.2 → s.heap.get? tka = none → GrownAll [(84, 80), (122, 118)] h' → Q (.ref tka) { s with heap := h', toks := tk' }), wpAny (model PySem.Challenge.rw_om0035_01.row.prog w) (MTop none dp un gd cn cs L a ccd cl outer) (call (.ref 123) [.str text t0, .ref wl]) Q E s
noncomputable def QQ (cc : (World) × (Program) × (List Str) × (ExcName → Option Value) × (Str → Option Value) × (Str → Option Value) × (Nat) × (Nat) × (Option (List Code)) × (Str) × (Scope) × (Addr) × (Addr) × (Value) × (List (Str × Addr)) × (List Env) × (Around) × (Heap) × (Heap) × (Str → Option Value) × (Shared) × (Value → Shared → Prop) × (Value → Shared → Prop) × (Str) × (Tok) × (Array Value) × (Addr) × (Nat) × (List Value) × (List Str)) : Prop := PP (cc.1) (cc.2.1) (cc.2.2.1) (cc.2.2.2.1) (cc.2.2.2.2.1) (cc.2.2.2.2.2.1) (cc.2.2.2.2.2.2.1) (cc.2.2.2.2.2.2.2.1) (cc.2.2.2.2.2.2.2.2.1) (cc.2.2.2.2.2.2.2.2.2.1) (cc.2.2.2.2.2.2.2.2.2.2.1) (cc.2.2.2.2.2.2.2.2.2.2.2.1) (cc.2.2.2.2.2.2.2.2.2.2.2.2.1) (cc.2.2.2.2.2.2.2.2.2.2.2.2.2.1) (cc.2.2.2.2.2.2.2.2.2.2.2.2.2.2.1) (cc.2.2.2.2.2.2.2.2.2.2.2.2.2.2.2.1) (cc.2.2.2.2.2.2.2.2.2.2.2.2.2.2.2.2.1) (cc.2.2.2.2.2.2.2.2.2.2.2.2.2.2.2.2.2.1) (cc.2.2.2.2.2.2.2.2.2.2.2.2.2.2.2.2.2.2.1) (cc.2.2.2.2.2.2.2.2.2.2.2.2.2.2.2.2.2.2.2.1) (cc.2.2.2.2.2.2.2.2.2.2.2.2.2.2.2.2.2.2.2.2.1) (cc.2.2.2.2.2.2.2.2.2.2.2.2.2.2.2.2.2.2.2.2.2.1) (cc.2.2.2.2.2.2.2.2.2.2.2.2.2.2.2.2.2.2.2.2.2.2.1) (cc.2.2.2.2.2.2.2.2.2.2.2.2.2.2.2.2.2.2.2.2.2.2.2.1) (cc.2.2.2.2.2.2.2.2.2.2.2.2.2.2.2.2.2.2.2.2.2.2.2.2.1) (cc.2.2.2.2.2.2.2.2.2.2.2.2.2.2.2.2.2.2.2.2.2.2.2.2.2.1) (cc.2.2.2.2.2.2.2.2.2.2.2.2.2.2.2.2.2.2.2.2.2.2.2.2.2.2.1) (cc.2.2.2.2.2.2.2.2.2.2.2.2.2.2.2.2.2.2.2.2.2.2.2.2.2.2.2.1) (cc.2.2.2.2.2.2.2.2.2.2.2.2.2.2.2.2.2.2.2.2.2.2.2.2.2.2.2.2.1) (cc.2.2.2.2.2.2.2.2.2.2.2.2.2.2.2.2.2.2.2.2.2.2.2.2.2.2.2.2.2)
@[irreducible] noncomputable def cc : (World) × (Program) × (List Str) × (ExcName → Option Value) × (Str → Option Value) × (Str → Option Value) × (Nat) × (Nat) × (Option (List Code)) × (Str) × (Scope) × (Addr) × (Addr) × (Value) × (List (Str × Addr)) × (List Env) × (Around) × (Heap) × (Heap) × (Str → Option Value) × (Shared) × (Value → Shared → Prop) × (Value → Shared → Prop) × (Str) × (Tok) × (Array Value) × (Addr) × (Nat) × (List Value) × (List Str) := eps (by (repeat' first | exact neW | exact neA | exact neS | refine neP ?_ ?_ | infer_instance)) QQ
@[irreducible] noncomputable def w : World := cc.1
@[irreducible] noncomputable def p : Program := cc.2.1
@[irreducible] noncomputable def loose : List Str := cc.2.2.1
@[irreducible] noncomputable def mean : ExcName → Option Value := cc.2.2.2.1
@[irreducible] noncomputable def mg : Str → Option Value := cc.2.2.2.2.1
@[irreducible] noncomputable def mb : Str → Option Value := cc.2.2.2.2.2.1
@[irreducible] noncomputable def dp : Nat := cc.2.2.2.2.2.2.1
@[irreducible] noncomputable def un : Nat := cc.2.2.2.2.2.2.2.1
@[irreducible] noncomputable def gd : Option (List Code) := cc.2.2.2.2.2.2.2.2.1
@[irreducible] noncomputable def cn : Str := cc.2.2.2.2.2.2.2.2.2.1
@[irreducible] noncomputable def cs : Scope := cc.2.2.2.2.2.2.2.2.2.2.1
@[irreducible] noncomputable def L : Addr := cc.2.2.2.2.2.2.2.2.2.2.2.1
@[irreducible] noncomputable def a : Addr := cc.2.2.2.2.2.2.2.2.2.2.2.2.1
@[irreducible] noncomputable def ccd : Value := cc.2.2.2.2.2.2.2.2.2.2.2.2.2.1
@[irreducible] noncomputable def cl : List (Str × Addr) := cc.2.2.2.2.2.2.2.2.2.2.2.2.2.2.1
@[irreducible] noncomputable def outer : List Env := cc.2.2.2.2.2.2.2.2.2.2.2.2.2.2.2.1
@[irreducible] noncomputable def base : Heap := cc.2.2.2.2.2.2.2.2.2.2.2.2.2.2.2.2.2.1
@[irreducible] noncomputable def h₀ : Heap := cc.2.2.2.2.2.2.2.2.2.2.2.2.2.2.2.2.2.2.1
@[irreducible] noncomputable def s : Shared := cc.2.2.2.2.2.2.2.2.2.2.2.2.2.2.2.2.2.2.2.2.1
@[irreducible] noncomputable def text : Str := cc.2.2.2.2.2.2.2.2.2.2.2.2.2.2.2.2.2.2.2.2.2.2.2.1
@[irreducible] noncomputable def t0 : Tok := cc.2.2.2.2.2.2.2.2.2.2.2.2.2.2.2.2.2.2.2.2.2.2.2.2.1
@[irreducible] noncomputable def ps : Array Value := cc.2.2.2.2.2.2.2.2.2.2.2.2.2.2.2.2.2.2.2.2.2.2.2.2.2.1
@[irreducible] noncomputable def wl : Addr := cc.2.2.2.2.2.2.2.2.2.2.2.2.2.2.2.2.2.2.2.2.2.2.2.2.2.2.1
@[irreducible] noncomputable def n3 : Nat := cc.2.2.2.2.2.2.2.2.2.2.2.2.2.2.2.2.2.2.2.2.2.2.2.2.2.2.2.1
@[irreducible] noncomputable def wvs : List Value := cc.2.2.2.2.2.2.2.2.2.2.2.2.2.2.2.2.2.2.2.2.2.2.2.2.2.2.2.2.1
@[irreducible] noncomputable def ws : List Str := cc.2.2.2.2.2.2.2.2.2.2.2.2.2.2.2.2.2.2.2.2.2.2.2.2.2.2.2.2.2
noncomputable def stg : PSigma fun R : (List (Addr × Obj)) → (Heap) → (Addr) → (Heap) → (Nat) → Prop => (∀ cells g L' h₁ tk₁, R cells g L' h₁ tk₁) → PP w p loose mean mg mb dp un gd cn cs L a ccd cl outer (cc.2.2.2.2.2.2.2.2.2.2.2.2.2.2.2.2.1) base h₀ (cc.2.2.2.2.2.2.2.2.2.2.2.2.2.2.2.2.2.2.2.1) s (cc.2.2.2.2.2.2.2.2.2.2.2.2.2.2.2.2.2.2.2.2.2.1) (cc.2.2.2.2.2.2.2.2.2.2.2.2.2.2.2.2.2.2.2.2.2.2.1) text t0 ps wl n3 wvs ws := by
  refine' PSigma.mk _ (fun hR => ?_)
  rotate_left
  unfold PP
  intro B F XB TB D hk N hps hasc hlt hnl hok hend hW hwl hwr hdp hu hret
  w_on
  have X₀ : (hd35.heap_39 w.params).In h₀ := XB.keeps B.stays
  refine wpAny_call ?_
  k_dflt (refine' enterC B F XB TB D N rfl rfl hk ?k6 ?k7 ?k8 ?k9 ?kB ?kD ?_ ?c2 ?c3 ?c4; (case k6 => k_is); (case k7 => k_is); (case k8 => ktr_room); (case k9 => exact BindsTo.of_eq rfl); (case kB => exact rfl); (case kD => decide +kernel); (case c2 => exact rfl); (case c3 => exact rfl); (case c4 => exact rfl))
  intro g L' h₁ tk₁ cells
  revert B F XB TB D hk N hps hasc hlt hnl hok hend hW hwl hwr hdp hu hret X₀
  exact hR cells g L' h₁ tk₁
noncomputable def Q2 (cd : (Heap) × (Addr) × (Heap) × (Nat)) : Prop := ∀ (cells : List (Addr × Obj)), stg.1 cells (cd.1) (cd.2.1) (cd.2.2.1) (cd.2.2.2)
@[irreducible] noncomputable def cd : (Heap) × (Addr) × (Heap) × (Nat) := eps (by (repeat' first | exact neW | exact neA | exact neS | refine neP ?_ ?_ | infer_instance)) Q2
@[irreducible] noncomputable def g : Heap := cd.1
@[irreducible] noncomputable def L' : Addr := cd.2.1
@[irreducible] noncomputable def h₁ : Heap := cd.2.2.1
@[irreducible] noncomputable def tk₁ : Nat := cd.2.2.2
theorem walk2 : ∀ (cells : List (Addr × Obj)), stg.1 cells g L' h₁ tk₁ := by
  intro cells B F XB TB D hk N hps hasc hlt hnl hok hend hW hwl hwr hdp hu hret X₀ F' N' Y' B' X' T' GS D' l1 hnew hcn
  k_lt l1
  obtain ⟨ow, ot, hE, hdw, hdt⟩ := PyProof.Rows.CellsAre.two Y'
  subst hE
  clear Y'
  replace hdw : ow.data = .cell (some (.ref wl)) := hdw
  replace hdt : ot.data = .cell (some (.str text t0)) := hdt
  simp only [List.cons_append, List.nil_append] at N'
  k_steps
  refine Halt.out ?_
  rename_i hp _ lhp h2 F2 N2
  have hwn : wvs.length = ws.length := hW.1
  have hlw : wl < h2.objs.size := Heap.lt_size (N2 _ (.tail _ (.tail _ (.tail _ (.tail _ (.tail _ (.head _))))))).1
  have hLl : L' < h2.objs.size := F2.ns.lt
  have ahp : @LT.lt Nat _ hp h2.objs.size := Heap.lt_size (N2 _ (.head _)).1
  have awl : @Ne Nat wl 80 ∧ @Ne Nat wl 118 := by
    have h1 := (N _ (.tail _ (.tail _ (.head _)))).1
    refine ⟨fun z => ?_, fun z => ?_⟩
    · have z' : wl = 80 := z
      have h2 := (N _ (.head _)).1
      dsimp only at h1 h2
      rw [z', h2] at h1; cases h1
    · have z' : wl = 118 := z
      have h2 := (N _ (.tail _ (.head _))).1
      dsimp only at h1 h2
      rw [z', h2] at h1; cases h1
  have hno : ∀ q ∈ ([(80, tabObj ps), (118, tabObj #[]), (wl, listOf wvs.toArray n3)] : List (Addr × Obj)), ¬ Good q.2 := by
    refine all3 ?_ ?_ ?_
    · exact not_good_tab hps
    · exact not_good_tab0
    · exact not_good_list
  have fresh : ∀ b : Addr, L' < b → g.get? b = none := fun b hb => Heap.get?_none_of_le (Nat.le_trans F2.above (Nat.le_of_lt hb))
  k_dflt (refine For_anyT (I := h2.objs.size + 1) (n := wvs.toArray.size) (P2 := fun i v0 v1 => wvs[i]? = some v1 ∧ ∃ t, v0 = .int i t) (fun i s' => Held (Pk9 fun g₁ m₁ h tk ps₁ oe oi n₁ vs₁ => Al12 (s' = { s with heap := h, toks := tk }) (KtsTurn (frs (envX cn cs L a ccd cl :: outer)) g g₁) (Fr g₁ L' h m₁) (Below (MTop none dp un gd cn cs L a ccd cl outer) base (envX cn cs L a ccd cl :: outer) g₁) (KtsDicts (frs (envX cn cs L a ccd cl :: outer)) g₁) (News g₁ L' h [(h2.objs.size + 1, oe), (h2.objs.size, oi), (hp, listOf (List.toArray vs₁) n₁), (L' + 1 + 1, ow), (L' + 1, ot), (80, tabObj ps₁), (118, tabObj #[]), (wl, listOf wvs.toArray n3)]) (EnumO h2.objs.size i oe) (LIterO wl i oi) (m₁ (Str.ofString "heap") = some (.ref hp)) (TabPs h ps₁) (Tups h vs₁ (initF text ws i)) (vs₁.length ≤ i))) rfl ?_ (WalksT.enumerate rfl (h2.objs.size + 1) h2.objs.size wl (Nat.succ_ne_self _) (Nat.ne_of_lt (Nat.lt_succ_of_lt hlw)) (Nat.ne_of_lt hlw) wvs.toArray) ?_ ?_ ?_ ?_ ?_ ?_)
  · k_steps
    refine Halt.out ?_
    k_dflt (refine call_enumerate_list (PySem.IsL.isList (n := n3) (N2 _ (.tail _ (.tail _ (.tail _ (.tail _ (.tail _ (.head _))))))).1) fun h3 hE3 hI3 hsz3 hk3 => ?_)
    k_dflt (refine wpAny_pyIter_enum hE3 ⟨rfl, ?_⟩)
    obtain ⟨oi, hoi, hic, hid⟩ := hI3
    have F3 := fr_keep F2 hk3
    refine Held.mk ⟨g, _, h3, _, ps, _, oi, 0, [], rfl, KtsTurn.refl, F3, B', D', ?_, ⟨.none, rfl⟩, ⟨hic, hid⟩, rfl, (kg_enter N hno GS D' KtsTurn.refl F3).tab hps, ⟨rfl, fun i d hd => by simp [initF] at hd⟩, Nat.le_refl _⟩
    intro q hq
    rcases List.mem_cons.mp hq with rfl | hq
    · exact ⟨hE3, Nat.ne_of_gt (Nat.lt_succ_of_lt hLl), fresh _ (Nat.lt_succ_of_lt hLl)⟩
    · rcases List.mem_cons.mp hq with rfl | hq
      · exact ⟨hoi, Nat.ne_of_gt hLl, fresh _ hLl⟩
      · exact news_keep N2 hk3 q hq
  · rintro i vals ⟨t, x, hx, rfl⟩
    exact ⟨_, _, rfl, by simpa using hx, t, rfl⟩
  · intro hm
    have hm0 : L' ∈ [h2.objs.size + 1, h2.objs.size, wl] := hm
    have hm' : L' = (h2.objs.size + 1) ∨ L' = h2.objs.size ∨ L' = wl := by simpa using hm0
    rcases hm' with z | z | z
    · exact absurd z (Nat.ne_of_lt (Nat.lt_succ_of_lt hLl))
    · exact absurd z (Nat.ne_of_lt hLl)
    · exact (N2 _ (.tail _ (.tail _ (.tail _ (.tail _ (.tail _ (.head _))))))).2.1 z.symm
  · rintro i s' ⟨g₁, m₁, h, tk, ps₁, oe, oi, n₁, vs₁, rfl, TT, F₁, B₁, D₁, N₁, ⟨old, rfl⟩, hoi, hm1, hps₁, hT₁, hvl₁⟩
    exact ⟨⟨old, (N₁ _ (.head _)).1⟩, ⟨oi, (N₁ _ (.tail _ (.head _))).1, hoi⟩, PySem.IsL.isList (n := n3) (N₁ _ (.tail _ (.tail _ (.tail _ (.tail _ (.tail _ (.tail _ (.tail _ (.head _))))))))).1⟩
  · rintro i s' ⟨g₁, m₁, h, tk, ps₁, oe, oi, n₁, vs₁, rfl, TT, F₁, _⟩
    exact ⟨m₁, F₁.ns⟩
  · rintro i s' v0 v1 h₁ tk₁ hi ⟨g₁, m₁, h, tk, ps₁, oe, oi, n₁, vs₁, rfl, TT, F₁, B₁, D₁, N₁, hoe, hoi, hm1, hps₁, hT₁, hvl₁⟩ ⟨hv1, t, rfl⟩ hst hns hkp
    have hlt' : i < wvs.length := by simpa using hi
    have hxs : ws[i]? = some (ws.getD i Str.empty) := by
      rw [List.getD_eq_getElem?_getD, List.getElem?_eq_getElem (hwn ▸ hlt')]; rfl
    obtain ⟨x, hxe⟩ : ∃ x, x = ws.getD i Str.empty := ⟨_, rfl⟩
    rw [← hxe] at hxs
    obtain ⟨tx, hxv⟩ := hW.2 i x hxs
    obtain rfl : v1 = .str x tx := Option.some.inj (hv1.symm.trans hxv)
    have hxr := hwr x (List.mem_of_getElem? hxs)
    have zE := (N₁ _ (.head _))
    have zI := (N₁ _ (.tail _ (.head _)))
    have hgw : ∀ b o, g₁.get? b = some o → b ∉ ([h2.objs.size + 1, h2.objs.size] : List Addr) := by
      intro b o e hm
      rcases List.mem_cons.mp hm with z | hm
      · have := zE.2.2; dsimp only at this; rw [z, this] at e; cases e
      · have := zI.2.2; dsimp only at this; rw [List.mem_singleton.mp hm, this] at e; cases e
    have kG : KG h h₁ := by
      intro b o e hg
      refine hkp b o (fun hm => ?_) (fun z => ?_) e
      · rcases List.mem_cons.mp hm with z | hm
        · have := zE.1; dsimp only at this; rw [← z, e] at this; cases this; exact not_good_enum hoe hg
        · have := zI.1; dsimp only at this; rw [← List.mem_singleton.mp hm, e] at this; cases this; exact not_good_liter hoi hg
      · obtain ⟨oL, hL, hd⟩ := fr_dict F₁
        have z' : b = L' := z
        rw [← z', e] at hL; cases hL
        exact good_dict hg hd
    obtain ⟨⟨old, hE'⟩, ⟨oi', hoi', hic', hid'⟩, _⟩ := hst
    obtain ⟨m₂, F₂, hmh, hmw, hmk⟩ : Pk1 fun m₂ => Al4 (Fr g₁ L' h₁ m₂) (m₂ (Str.ofString "heap") = some (.ref hp)) (m₂ (Str.ofString "word") = some (.str x tx)) (m₂ (Str.ofString "k") = some (.int i t)) :=
      ⟨_, ⟨hns m₁ F₁.ns, fun b o e => hkp b o (hgw b o e) (fun z => by have := kts_self F₁; have z' : b = L' := z; rw [z', this] at e; cases e) (F₁.keep b o e), F₁.above⟩, ((if_neg (by decide)).trans (if_neg (by decide))).trans hm1, if_pos rfl, (if_neg (by decide)).trans (if_pos rfl)⟩
    have N₂ : News g₁ L' h₁ [(h2.objs.size + 1, { cls := .type "enumerate", dict := none, data := .fields #[.none, .bool false, .ref h2.objs.size, rawInt ((i + 1 : Nat) : Int), .none, old], slots := #[] }), (h2.objs.size, oi'), (hp, listOf (List.toArray vs₁) n₁), (L' + 1 + 1, ow), (L' + 1, ot), (80, tabObj ps₁), (118, tabObj #[]), (wl, listOf wvs.toArray n3)] := by
      intro q hq
      rcases List.mem_cons.mp hq with rfl | hq
      · exact ⟨hE', zE.2⟩
      · rcases List.mem_cons.mp hq with rfl | hq
        · exact ⟨hoi', zI.2⟩
        · have z := N₁ q (.tail _ (.tail _ hq))
          refine ⟨hkp _ _ (fun hm => ?_) z.2.1 z.1, z.2⟩
          have hnl : q.2.cls = .none ∨ ∀ vs, q.2.data ≠ .fields vs := by
            refine all6 (P := fun q : Addr × Obj => q.2.cls = .none ∨ ∀ vs, q.2.data ≠ .fields vs) ?_ ?_ ?_ ?_ ?_ ?_ q hq
            · exact .inr fun vs e => by cases e
            · exact .inr fun vs e => by dsimp only at e; rw [hdw] at e; cases e
            · exact .inr fun vs e => by dsimp only at e; rw [hdt] at e; cases e
            · exact .inl rfl
            · exact .inl rfl
            · exact .inr fun vs e => by cases e
          rcases List.mem_cons.mp hm with y | hm
          · have := zE.1; dsimp only at this; rw [← y, z.1] at this; obtain ⟨old', ho'⟩ := hoe
            rw [Option.some.inj this, ho'] at hnl
            exact hnl.elim (fun q => by cases q) (fun q => q _ rfl)
          · have := zI.1; dsimp only at this; rw [← List.mem_singleton.mp hm, z.1] at this
            rw [Option.some.inj this] at hnl
            exact hnl.elim (fun q => by rw [hoi.1] at q; cases q) (fun q => q _ hoi.2)
    have X₁ : (hd35.heap_39 w.params).In g₁ := XB.keeps B₁.stays
    have T₁ : Top p loose mean mg mb g₁ := TB.keeps B₁.stays
    have hps₂ := kG.tab hps₁
    have hT₂ := kG.tups hT₁
    clear F₁ N₁ hns hkp
    k_steps
    refine Halt.out ?_
    k_dflt (refine next_c (place := 0) B₁ (by k_asm) XB TB D₁ rfl (news_one (by k_asm) (by k_mem)) hps₂ hasc hlt hnl hxr.2 (Nat.zero_le _) (by ktr_room) (by ktr_units) ?_)
    intro tn h5 tk5 P5 T5
    obtain ⟨ps5, h85, hps5⟩ := T5
    have hY8 : ∀ b ∈ [(80 : Addr)], g₁.get? b = none ∧ b ≠ L' := fun b hb => by
      rw [List.mem_singleton.mp hb]
      have z := (N₂ _ (.tail _ (.tail _ (.tail _ (.tail _ (.tail _ (.head _))))))).2
      exact ⟨z.2, z.1⟩
    have kG5 : KG h₁ h5 := kg_call F₂ D₁ rfl P5 (fun b hb o e => by
      rw [List.mem_singleton.mp hb] at e
      have := (N₂ _ (.tail _ (.tail _ (.tail _ (.tail _ (.tail _ (.head _))))))).1
      dsimp only at this
      rw [e] at this; cases this
      exact not_good_tab hps₁)
    obtain ⟨g5, TT5, F5, B5, D5, X5, TP5, NN5⟩ := call_ground (K := hd35.heap_39 w.params) B₁ F₂ N₂ D₁ XB TB rfl P5 hY8
    have hT5 := kG5.tups hT₂
    have N5 := news_80 (o' := tabObj ps5) (by k_upd) (TT5.none_ _ (hY8 _ (.head _)).1) (hY8 _ (.head _)).2 h85 NN5
    clear NN5 F₂ N₂ P5
    obtain ⟨tl, N6, hgd, hkg⟩ := sake F5 N5
    have hdhp : ∀ p ∈ tl, p.1 ≠ hp := fun p hp' z => by
      have := (hgd p hp').2
      have h6 := (N5 _ (.tail _ (.tail _ (.head _)))).1
      dsimp only at h6
      rw [z, h6] at this
      have hg := (hgd p hp').1
      rw [← Option.some.inj this] at hg
      exact not_good_list hg
    simp only [List.cons_append, List.nil_append] at N6
    clear N5
    have hidx : ((turnsF text ws 0 (startF text ws, 0, [])).2.1 : Nat) = 0 := rfl
    k_steps
    · have hge : (0 : Int) ≤ nextF text 0 x := by assumption
      k_dflt (refine append_K (by k_asm) (by k_asm) (by k_upd) ?_ (by rw [List.size_toArray, sizeLine_eq]; omega))
      intro h7 F7 N7
      rw [List.push_toArray] at N7
      k_steps
      rename_i D _ _ _ _
      have htl : ∀ q ∈ tl, h7.get? q.1 = some q.2 := fun q hq => (N7 q (.tail _ (.tail _ (.tail _ (.tail _ (.tail _ (.tail _ (.tail _ (.tail _ (.tail _ hq)))))))))).1
      refine Held.mk ⟨g5, _, h7, _, ps5, _, oi', n₁ + 1, vs₁ ++ [.ref D], rfl, TT.trans TT5, F7, B5, D5, ?_, ⟨old, rfl⟩, ⟨hic', hid'⟩, (if_neg (by decide)).trans hmh, (hkg _ _ F7 htl).tab hps5, ?_, ?_⟩
      · exact fun q hq => N7 q (.tail _ (List.mem_append_left tl hq))
      · rw [initF, ← hxe, if_pos hge]
        exact tups_snoc ((hkg _ _ F7 htl).tups hT5) ⟨D, _, _, _, rfl, (N7 _ (.head _)).1⟩
      · rw [List.length_append]; simp only [List.length_cons, List.length_nil]; omega
    · have hge : ¬ (0 : Int) ≤ nextF text 0 x := by assumption
      rename_i h7 F7 N7 _ _
      have htl : ∀ q ∈ tl, h7.get? q.1 = some q.2 := fun q hq => (N7 q (.tail _ (.tail _ (.tail _ (.tail _ (.tail _ (.tail _ (.tail _ (.tail _ hq))))))))).1
      refine Held.mk ⟨g5, _, h7, _, ps5, _, oi', n₁, vs₁, rfl, TT.trans TT5, F7, B5, D5, ?_, ⟨old, rfl⟩, ⟨hic', hid'⟩, (if_neg (by decide)).trans hmh, (hkg _ _ F7 htl).tab hps5, ?_, ?_⟩
      · exact fun q hq => N7 q (List.mem_append_left tl hq)
      · rw [initF, ← hxe, if_neg hge]
        exact (hkg _ _ F7 htl).tups hT5
      · omega
  · rintro s' h₁ tk₁ ⟨g₁, m₁, h, tk, ps₁, oe, oi, n₁, vs₁, rfl, TT, F₁, B₁, D₁, N₁, hoe, hoi, hm1, hps₁, hT₁, hvl₁⟩ hkp
    have zE := (N₁ _ (.head _))
    have zI := (N₁ _ (.tail _ (.head _)))
    have hgw : ∀ b o, g₁.get? b = some o → b ∉ ([h2.objs.size + 1, h2.objs.size] : List Addr) := by
      intro b o e hm
      rcases List.mem_cons.mp hm with z | hm
      · have := zE.2.2; dsimp only at this; rw [z, this] at e; cases e
      · have := zI.2.2; dsimp only at this; rw [List.mem_singleton.mp hm, this] at e; cases e
    have kG : KG h h₁ := by
      intro b o e hg
      refine hkp b o (fun hm => ?_) e
      rcases List.mem_cons.mp hm with z | hm
      · have := zE.1; dsimp only at this; rw [← z, e] at this; cases this; exact not_good_enum hoe hg
      · have := zI.1; dsimp only at this; rw [← List.mem_singleton.mp hm, e] at this; cases this; exact not_good_liter hoi hg
    have F₂ : Fr g₁ L' h₁ m₁ := by
      obtain ⟨oL, a1, a2, hoL, a3⟩ := F₁.ns
      refine ⟨⟨oL, a1, a2, hkp _ _ (fun hm => ?_) hoL, a3⟩, fun b o e => hkp b o (hgw b o e) (F₁.keep b o e), F₁.above⟩
      rcases List.mem_cons.mp hm with z | hm
      · exact zE.2.1 z.symm
      · exact zI.2.1 (List.mem_singleton.mp hm).symm
    have N₂ : News g₁ L' h₁ [(hp, listOf (List.toArray vs₁) n₁), (L' + 1 + 1, ow), (L' + 1, ot), (80, tabObj ps₁), (118, tabObj #[]), (wl, listOf wvs.toArray n3)] := by
      intro q hq
      have z := N₁ q (.tail _ (.tail _ hq))
      refine ⟨hkp _ _ (fun hm => ?_) z.1, z.2⟩
      have hnl : q.2.cls = .none ∨ ∀ vs, q.2.data ≠ .fields vs := by
        refine all6 (P := fun q : Addr × Obj => q.2.cls = .none ∨ ∀ vs, q.2.data ≠ .fields vs) ?_ ?_ ?_ ?_ ?_ ?_ q hq
        · exact .inr fun vs e => by cases e
        · exact .inr fun vs e => by dsimp only at e; rw [hdw] at e; cases e
        · exact .inr fun vs e => by dsimp only at e; rw [hdt] at e; cases e
        · exact .inl rfl
        · exact .inl rfl
        · exact .inr fun vs e => by cases e
      rcases List.mem_cons.mp hm with y | hm
      · have := zE.1; dsimp only at this; rw [← y, z.1] at this; obtain ⟨old', ho'⟩ := hoe
        rw [Option.some.inj this, ho'] at hnl
        exact hnl.elim (fun q => by cases q) (fun q => q _ rfl)
      · have := zI.1; dsimp only at this; rw [← List.mem_singleton.mp hm, z.1] at this
        rw [Option.some.inj this] at hnl
        exact hnl.elim (fun q => by rw [hoi.1] at q; cases q) (fun q => q _ hoi.2)
    have X₁ : (hd35.heap_39 w.params).In g₁ := XB.keeps B₁.stays
    have T₁ : Top p loose mean mg mb g₁ := TB.keeps B₁.stays
    have hC := codeHd118 X₁
    have hps₂ := kG.tab hps₁
    have hT₂ := kG.tups hT₁
    have hvl : vs₁.length ≤ 4 := by rw [List.size_toArray] at hvl₁; omega
    rw [show wvs.toArray.size = ws.length by rw [List.size_toArray]; exact hwn] at hT₂
    have hdl : (initF text ws ws.length).length = vs₁.length := hT₂.1.symm
    clear F₁ N₁ hkp hT₁ kG zE zI hoe hoi
    dsimp only
    k_steps
    refine Halt.out ?_
    k_dflt (refine heapify_c B₁ (by k_asm) X₁ T₁ rfl (news_one (by k_asm) (by k_mem)) (hr := h₁) (fun _ _ e _ => e) hT₂ hvl (by ktr_room) (by ktr_units) ?_)
    intro vs3 h3 tk3 P3 hg3 hT3 hl3
    have F3 := pres_fr F₂ (news_one N₂ (.head _)) P3
    have N3 := pres_updN N₂ (o' := listOf (List.toArray vs3) n₁) (by k_upd) P3 hg3
    have kG3 : KG h₁ h3 := kg_pres P3 (N₂ _ (.head _)).1 not_good_list
    have hT4 := kG3.tups hT3
    have hps4 := kG3.tab hps₂
    clear F₂ N₂ P3 hT3 kG3 hT₂ hps₂
    obtain ⟨tl, N6, hgd, hkg⟩ := sake F3 N3
    have hd118 : ∀ p ∈ tl, p.1 ≠ 118 := fun p hp' z => by
      have := (hgd p hp').2
      have h6 := (N3 _ (.tail _ (.tail _ (.tail _ (.tail _ (.head _)))))).1
      dsimp only at h6
      rw [z, h6] at this
      have hg := (hgd p hp').1
      rw [← Option.some.inj this] at hg
      exact not_good_tab0 hg
    simp only [List.cons_append, List.nil_append] at N6
    clear N3
    k_steps
    refine Halt.out ?_
    rename_i lam c' oc' vs' t' ct' _ _ _ _ d1' d2' _ _
    k_dflt (refine range_led (by k_asm) (by k_asm) ?_)
    intro rg ta tb tc h7 tk7 F7 N7 l7
    k_lt l7
    k_sweep
    k_steps
    refine Halt.out ?_
    rename_i tka _ ltka tna _ ltna st h8 F8 N8 l8
    have htl : ∀ q ∈ tl, h8.get? q.1 = some q.2 := fun q hq => (N8 q (by repeat (first | exact hq | refine .tail _ ?_))).1
    have kG8 := hkg _ _ F8 htl
    have hds : hfyGo (initF text ws ws.length) (vs₁.length / 2) (vs₁.length / 2) = startF text ws := by unfold startF; rw [hdl]
    rw [hds] at hT4
    k_dflt (refine red_c (place := 0) (tks := []) (tds := []) (hp := hp) (st := st) (tka := tka) (tna := tna) (wl := wl) (tns := []) (n1 := 0) (n2 := 0) (n3 := n3) (n := n₁) (vs := vs3) (wvs := wvs) (o1 := ot) (o2 := ow) (ps := ps₁) (ds := startF text ws) (c1 := L' + 1) (c2 := L' + 1 + 1) (rg := rg) B₁ F8 XB TB D₁ rfl (news_cons N8 (by k_mem) (news_cons N8 (by k_mem) (news_cons N8 (by k_mem) (news_cons N8 (by k_mem) (news_cons N8 (by k_mem) (news_cons N8 (by k_mem) (news_cons N8 (by k_mem) (news_cons N8 (by k_mem) news_nil)))))))) (kG8.tab hps4) hdt hdw (News.get N8 (by k_mem)) (codeRec_news N8 (by k_mem) d1' d2') (fun _ _ _ => rfl) hasc hlt hnl (kG8.tups hT4) ⟨rfl, fun i d h => by simp at h⟩ rfl hok hW hwl hwr (by omega) (News.get N8 (by k_mem)) (by ktr_room) (by ktr_units) ?_)
    intro st' h9 tk9 tns' hI9 P
    obtain ⟨pP, ⟨ps9, h89, hps9⟩, pN, t', n', vs', tka', n1', tks', tna', n2', q1, q2, q3, q4, q5, q6, q7, q8, q9⟩ := P
    rw [hend] at q3
    obtain rfl : vs' = [] := List.eq_nil_of_length_eq_zero q3.1
    have P8 : PresX (frs (envX cn cs L a ccd cl :: outer)) [80, 118] s.heap h8 := presX_end N GS TT F8 N8 (by
      refine all3 ?_ ?_ ?_
      · exact .inr ⟨.head _, _, by k_mem⟩
      · exact .inr ⟨.tail _ (.head _), _, by k_mem⟩
      · exact .inl (by k_mem))
    have hfresh : s.heap.get? tka' = none := by
      rcases q8 with rfl | q8
      · exact fresh_of GS TT N8 (by k_mem) (by
          intro hm
          simp only [List.map_cons, List.map_nil, List.mem_cons, List.mem_nil_iff, or_false] at hm
          have hm' : @Eq Nat tka' 80 ∨ @Eq Nat tka' 118 ∨ @Eq Nat tka' wl := hm
          omega)
      · exact P8.sub _ q8
    have hY : ∀ b ∈ ([80, hp] : List Addr), g₁.get? b = none ∧ b ≠ L' := by
      intro b hb
      rcases List.mem_cons.mp hb with rfl | hb
      · have z := N8 (80, tabObj ps₁) (by k_mem)
        exact ⟨z.2.2, z.2.1⟩
      · obtain rfl := List.mem_singleton.mp hb
        have z := N8 (b, listOf (List.toArray vs3) n₁) (by k_mem)
        exact ⟨z.2.2, z.2.1⟩
    obtain ⟨p118, e118⟩ : ∃ p118, News g₁ L' h8 [(118, tabObj p118)] := ⟨_, news_cons N8 (by k_mem) news_nil⟩
    obtain ⟨g5, TT5, F9, B5, D5, X5, TP5, NN5⟩ := call_ground (K := hd35.heap_39 w.params) B₁ F8 (news_cons (q := (wl, listOf wvs.toArray n3)) N8 (by k_mem) e118) D₁ XB TB rfl pP hY
    have hfr : ∀ b, h8.get? b = none → b ≠ L' ∧ g5.get? b = none := fun b q => ⟨fun z => (by
      obtain ⟨oL, hL, _⟩ := fr_dict F8
      rw [z, hL] at q; cases q), TT5.none_ _ (kts_none F8.keep q)⟩
    have hold : ∀ q : Addr × Obj, q ∈ _ → q.1 ≠ L' ∧ g5.get? q.1 = none := fun q hq => ⟨(N8 q hq).2.1, TT5.none_ _ (N8 q hq).2.2⟩
    have N9 : News g5 L' h9 [(st', tupOf [.ref hp, .int ((turnsF text ws 36 (startF text ws, 0, [])).2.1 : Nat) t', .ref tka', .ref tna']), (hp, listOf #[] n'), (tka', listOf (List.toArray tks') n1'), (tna', listOf (List.toArray tns') n2'), (80, tabObj ps9), (118, tabObj p118), (wl, listOf wvs.toArray n3)] := by
      intro q hq
      rcases List.mem_cons.mp hq with rfl | hq
      · exact ⟨q1, hfr _ pN⟩
      rcases List.mem_cons.mp hq with rfl | hq
      · exact ⟨q2, hold (hp, listOf (List.toArray vs3) n₁) (by k_mem)⟩
      rcases List.mem_cons.mp hq with rfl | hq
      · refine ⟨q4, ?_⟩
        rcases q8 with rfl | q8
        · exact hold (tka', listOf #[] 0) (by k_mem)
        · exact hfr _ q8
      rcases List.mem_cons.mp hq with rfl | hq
      · exact ⟨q6, hfr _ q7⟩
      rcases List.mem_cons.mp hq with rfl | hq
      · exact ⟨h89, hold (80, tabObj ps₁) (by k_mem)⟩
      rcases List.mem_cons.mp hq with rfl | hq
      · refine NN5 (118, tabObj p118) (by k_mem) (by
          intro hm
          have hm' : @Eq Nat 118 80 ∨ @Eq Nat 118 hp := by simpa using hm
          omega)
      · obtain rfl := List.mem_singleton.mp hq
        refine NN5 (wl, listOf wvs.toArray n3) (by k_mem) (by
          intro hm
          have hm' : @Eq Nat wl 80 ∨ @Eq Nat wl hp := by simpa using hm
          omega)
    clear NN5 hold hfr F8 N8 pP kG8 htl hgd hkg
    obtain ⟨tl9, N10, hgd9, hkg9⟩ := sake F9 N9
    simp only [List.cons_append, List.nil_append] at N10
    clear N9
    have hIA : IntsAre tns' (rangeKs 0 36) := kll_ints tns' 0 36 hI9.1 (fun j v hj => by
      have hj' : j < 36 := by
        have := (List.getElem?_eq_some_iff.mp hj).1
        rw [hI9.1] at this; exact this
      obtain ⟨tj, ht⟩ := hI9.2 j hj'
      rw [hj] at ht
      refine ⟨tj, ?_⟩
      rw [Option.some.inj ht]
      congr 1
      omega)
    k_steps
    refine Halt.out ?_
    k_dflt (refine range_led (by k_asm) (by k_asm) ?_)
    intro rg2 ta2 tb2 tc2 h11 tk11 F11 N11 l11
    k_lt l11
    k_sweep
    k_steps
    k_dflt (refine kll_range (n := 36) rfl F11 N11 (News.get N11 (.head _)) (by decide +kernel) (by decide +kernel) (by decide) ?_)
    intro D12 us12 c12 h12 tk12 F12 N12 l12 hI12
    k_lt l12
    k_sweep
    k_steps
    refine hret tka' n1' tks' _ _ (presX_end N GS (TT.trans TT5) (by k_asm) (by k_asm) ?_) (News.get (by k_asm) (by k_mem)) ((hkg9 _ _ (by k_asm) ?_).tups q5) hfresh ⟨⟨ps9, News.get (by k_asm) (by k_mem)⟩, ⟨p118, News.get (by k_asm) (by k_mem)⟩, trivial⟩
    · refine all3 ?_ ?_ ?_
      · exact .inr ⟨.head _, _, by k_mem⟩
      · exact .inr ⟨.tail _ (.head _), _, by k_mem⟩
      · exact .inl (by k_mem)
    · rename News g5 L' _ _ => NZ
      exact fun q hq => (NZ q (by repeat (first | exact hq | refine .tail _ ?_))).1
theorem q2 : Q2 cd := by
  have h := walk2
  unfold g L' h₁ tk₁ at h
  exact h
theorem all2 : ∀ x, Q2 x := by
  have h := q2
  unfold cd at h
  exact eps_all h
theorem walk : PP w p loose mean mg mb dp un gd cn cs L a ccd cl outer (cc.2.2.2.2.2.2.2.2.2.2.2.2.2.2.2.2.1) base h₀ (cc.2.2.2.2.2.2.2.2.2.2.2.2.2.2.2.2.2.2.2.1) s (cc.2.2.2.2.2.2.2.2.2.2.2.2.2.2.2.2.2.2.2.2.2.1) (cc.2.2.2.2.2.2.2.2.2.2.2.2.2.2.2.2.2.2.2.2.2.2.1) text t0 ps wl n3 wvs ws := stg.2 fun cells g L' h₁ tk₁ => all2 (g, L', h₁, tk₁) cells
theorem q : QQ cc := by
  have h := walk
  unfold w p loose mean mg mb dp un gd cn cs L a ccd cl outer base h₀ s text t0 ps wl n3 wvs ws at h
  exact h
theorem all : ∀ x, QQ x := by
  have h := q
  unfold cc at h
  exact eps_all h
end taken_c_k
theorem taken_c {w : World} {p : Program} {loose : List Str} {mean : ExcName → Option Value} {mg : Str → Option Value} {mb : Str → Option Value} {dp : Nat} {un : Nat} {gd : Option (List Code)} {cn : Str} {cs : Scope} {L : Addr} {a : Addr} {ccd : Value} {cl : List (Str × Addr)} {outer : List Env} {A₀ : Around} {base : Heap} {h₀ : Heap} {m : Str → Option Value} {s : Shared} {Q : Value → Shared → Prop} {E : Value → Shared → Prop} {text : Str} {t0 : Tok} {ps : Array Value} {wl : Addr} {n3 : Nat} {wvs : List Value} {ws : List Str} (B : Below A₀ base outer h₀) (F : Fr h₀ L s.heap m) (XB : (hd35.heap_39 w.params).In base) (TB : Top p loose mean mg mb base) (D : KtsDicts (frs outer) h₀) (hk : cs.kind = .function) (N : News h₀ L s.heap [(80, tabObj ps), (118, tabObj #[]), (wl, listOf wvs.toArray n3)]) (hps : TabPs s.heap ps) (hasc : text.cps.all (· < 128) = true) (hlt : text.length ≤ 9) (hnl : 10 ∉ text.cps.toList) (hok : ∀ i, i ≤ 36 → StOk text ws (turnsF text ws i (startF text ws, 0, []))) (hend : (turnsF text ws 36 (startF text ws, 0, [])).1 = []) (hW : WordsAt wvs ws) (hwl : ws.length ≤ 4) (hwr : ∀ x ∈ ws, x.length ≤ 3 ∧ (reprText x).length ≤ 40) (hdp : dp + 14 < recursionLimit) (hu : un + 120 < cLine) (hret : ∀ tka n1 tks h' tk', PresX (frs (envX cn cs L a ccd cl :: outer)) [80, 118] s.heap h' → h'.get? tka = some (listOf tks.toArray n1) → Tups h' tks (turnsF text ws 36 (startF text ws, 0, [])).2.2 → s.heap.get? tka = none → GrownAll [(84, 80), (122, 118)] h' → Q (.ref tka) { s with heap := h', toks := tk' }) : wpAny (model PySem.Challenge.rw_om0035_01.row.prog w) (MTop none dp un gd cn cs L a ccd cl outer) (call (.ref 123) [.str text t0, .ref wl]) Q E s :=
  taken_c_k.all (w, p, loose, mean, mg, mb, dp, un, gd, cn, cs, L, a, ccd, cl, outer, A₀, base, h₀, m, s, Q, E, text, t0, ps, wl, n3, wvs, ws) B F XB TB D hk N hps hasc hlt hnl hok hend hW hwl hwr hdp hu hret
end
end Mine
end

/- P2 -/
section
namespace Mine
/-- T: the ends of the greedy choice from place p on, over the pieces R b e -/
noncomputable def Chain (R : Nat → Nat → Prop) : Nat → List Nat → Prop
  | p, [] => ∀ b e, R b e → ¬ p ≤ b
  | p, e :: T => p < e ∧ (∃ b, p ≤ b ∧ R b e) ∧ (∀ b' e', R b' e' → p ≤ b' → e ≤ e') ∧ Chain R e T
noncomputable def cnt (T : List Nat) (x : Nat) : Nat := (T.filter (fun e => decide (e ≤ x))).length
theorem cnt_cons (e : Nat) (T : List Nat) (x : Nat) : cnt (e :: T) x = (if e ≤ x then 1 else 0) + cnt T x := by
  unfold cnt
  by_cases h : e ≤ x
  · simp [h]; omega
  · simp [h]
theorem Chain.gt {R : Nat → Nat → Prop} : ∀ {T : List Nat} {p : Nat}, Chain R p T → ∀ e ∈ T, p < e
  | [], _, _, _, h => nomatch h
  | e :: T, p, h, x, hx => by
    rcases List.mem_cons.mp hx with rfl | hx
    · exact h.1
    · have := Chain.gt h.2.2.2 x hx
      have := h.1
      omega
theorem cnt_zero {T : List Nat} {x : Nat} (h : ∀ e ∈ T, x < e) : cnt T x = 0 := by
  unfold cnt
  rw [List.length_eq_zero_iff, List.filter_eq_nil_iff]
  intro a ha
  have := h a ha
  simp; omega
theorem cnt_lt {R : Nat → Nat → Prop} (hR : ∀ b e, R b e → b < e) : ∀ {T : List Nat} {p : Nat}, Chain R p T → ∀ {b e : Nat}, R b e → p ≤ b → cnt T b + 1 ≤ cnt T e
  | [], p, h, b, e, hr, hp => absurd hp (h b e hr)
  | e1 :: T, p, h, b, e, hr, hp => by
    have h1 := h.2.2.1 b e hr hp
    rw [cnt_cons, cnt_cons, if_pos h1]
    by_cases hb : e1 ≤ b
    · have := cnt_lt hR h.2.2.2 hr hb
      rw [if_pos hb]; omega
    · rw [if_neg hb, cnt_zero (x := b) (fun z hz => by have := Chain.gt h.2.2.2 z hz; omega)]
      omega
theorem cnt_at {R : Nat → Nat → Prop} (hR : ∀ b e, R b e → b < e) : ∀ {T : List Nat} {p : Nat}, Chain R p T → ∀ {x : Nat}, x ∈ T → ∃ b, p ≤ b ∧ R b x ∧ cnt T b = cnt T (x - 1)
  | [], _, _, _, h => nomatch h
  | e1 :: T, p, h, x, hx => by
    have hg := Chain.gt h.2.2.2
    rcases List.mem_cons.mp hx with rfl | hx
    · obtain ⟨b, hb, hr⟩ := h.2.1
      have hlt := hR _ _ hr
      refine ⟨b, hb, hr, ?_⟩
      rw [cnt_cons, cnt_cons, if_neg (by omega), if_neg (by omega), cnt_zero (fun z hz => by have := hg z hz; omega), cnt_zero (fun z hz => by have := hg z hz; omega)]
    · obtain ⟨b, hb, hr, hc⟩ := cnt_at hR h.2.2.2 hx
      have h1 := hg x hx
      refine ⟨b, by have := h.1; omega, hr, ?_⟩
      rw [cnt_cons, cnt_cons, if_pos hb, if_pos (by omega), hc]
theorem cnt_step {R : Nat → Nat → Prop} : ∀ {T : List Nat} {p : Nat}, Chain R p T → ∀ (x : Nat), cnt T (x + 1) = cnt T x + (if x + 1 ∈ T then 1 else 0)
  | [], _, _, _ => rfl
  | e1 :: T, p, h, x => by
    have hg := Chain.gt h.2.2.2
    rw [cnt_cons, cnt_cons, cnt_step h.2.2.2 x]
    by_cases he : x + 1 = e1
    · have hn : x + 1 ∉ T := fun q => by have := hg _ q; omega
      rw [if_pos (by omega : e1 ≤ x + 1), if_neg (by omega : ¬ e1 ≤ x), if_neg hn, if_pos (by rw [he]; exact .head _)]
      omega
    · have : (x + 1 ∈ e1 :: T) ↔ (x + 1 ∈ T) := by simp [he]
      by_cases h2 : e1 ≤ x
      · rw [if_pos h2, if_pos (by omega)]; simp only [this]; omega
      · rw [if_neg h2, if_neg (by omega)]; simp only [this]; omega
theorem cnt_mono (T : List Nat) {x y : Nat} (h : x ≤ y) : cnt T x ≤ cnt T y := by
  induction T with
  | nil => exact Nat.le_refl _
  | cons e T ih =>
    rw [cnt_cons, cnt_cons]
    by_cases h1 : e ≤ x
    · rw [if_pos h1, if_pos (by omega)]; omega
    · rw [if_neg h1]; omega
theorem Chain.le {R : Nat → Nat → Prop} {n : Nat} (hn : ∀ b e, R b e → e ≤ n) : ∀ {T : List Nat} {p : Nat}, Chain R p T → ∀ e ∈ T, e ≤ n
  | [], _, _, _, h => nomatch h
  | e :: T, p, h, x, hx => by
    rcases List.mem_cons.mp hx with rfl | hx
    · obtain ⟨b, _, hr⟩ := h.2.1
      exact hn _ _ hr
    · exact Chain.le hn h.2.2.2 x hx
/-- the greatest of a list -/
noncomputable def maxL : List Int → Int
  | [] => 0
  | [x] => x
  | x :: l => max x (maxL l)
theorem maxL_cons (x y : Int) (l : List Int) : maxL (x :: y :: l) = max x (maxL (y :: l)) := rfl
theorem maxL_spec : ∀ (l : List Int), l ≠ [] → maxL l ∈ l ∧ ∀ y ∈ l, y ≤ maxL l
  | [], h => absurd rfl h
  | [x], _ => ⟨.head _, fun y hy => by rw [List.mem_singleton.mp hy]; exact Int.le_refl _⟩
  | x :: y :: l, _ => by
    obtain ⟨h1, h2⟩ := maxL_spec (y :: l) (by simp)
    rw [maxL_cons]
    refine ⟨?_, fun z hz => ?_⟩
    · by_cases h : x ≤ maxL (y :: l)
      · rw [Int.max_eq_right h]; exact .tail _ h1
      · rw [Int.max_eq_left (by omega)]; exact .head _
    · rcases List.mem_cons.mp hz with rfl | hz
      · omega
      · have := h2 z hz; omega
theorem maxL_eq {l : List Int} {v : Int} (hm : v ∈ l) (hv : ∀ y ∈ l, y ≤ v) : maxL l = v := by
  obtain ⟨h1, h2⟩ := maxL_spec l (by intro h; rw [h] at hm; cases hm)
  have := hv _ h1
  have := h2 _ hm
  omega
/-- the filter of 1..n by membership in a rising list is that list -/
theorem filter_range {T : List Nat} : ∀ {n p : Nat}, T.Pairwise (· < ·) → (∀ e ∈ T, p < e ∧ e ≤ p + n) → (List.range' (p + 1) n).filter (fun x => decide (x ∈ T)) = T := by
  intro n
  induction n generalizing T with
  | zero =>
    intro p _ h
    cases T with
    | nil => rfl
    | cons e T => have := h e (.head _); omega
  | succ n ih =>
    intro p hT h
    rw [List.range'_succ]
    by_cases hm : p + 1 ∈ T
    · cases T with
      | nil => cases hm
      | cons e T =>
        have hp := List.pairwise_cons.mp hT
        have he : e = p + 1 := by
          rcases List.mem_cons.mp hm with q | q
          · exact q.symm
          · have := hp.1 _ q
            have := h e (.head _)
            omega
        subst he
        rw [List.filter_cons_of_pos (by simp)]
        congr 1
        rw [← ih (p := p + 1) hp.2 (fun e he => by have := h e (.tail _ he); have := hp.1 e he; omega)]
        rw [ih (p := p + 1) hp.2 (fun e he => by have := h e (.tail _ he); have := hp.1 e he; omega)]
        conv => rhs; rw [← ih (p := p + 1) hp.2 (fun e he => by have := h e (.tail _ he); have := hp.1 e he; omega)]
        apply List.filter_congr
        intro x hx
        have hx1 := (List.mem_range'_1.mp hx).1
        have : x ≠ p + 1 := by omega
        simp [this]
    · rw [List.filter_cons_of_neg (by simpa using hm)]
      exact ih (p := p + 1) hT (fun e he => by
        have := h e he
        have : e ≠ p + 1 := fun q => hm (q ▸ he)
        omega)
theorem Chain.sorted {R : Nat → Nat → Prop} : ∀ {T : List Nat} {p : Nat}, Chain R p T → T.Pairwise (· < ·)
  | [], _, _ => .nil
  | _ :: _, _, h => .cons (Chain.gt h.2.2.2) (Chain.sorted h.2.2.2)
end Mine
end

/- P3 -/
section
open PySem PySem.W PyProof.Rows PySem.Builtin PySem.Builtin.Str
set_option maxRecDepth 100000
namespace Mine
noncomputable def frontF (text : Str) : Str := (Txt.split text (Str.ofString ".")).headD Str.empty
theorem takeWhile_take : ∀ (l : List Nat) (i : Nat), (∀ k, k < i → l[k]? ≠ some 46) → l[i]? = some 46 → l.takeWhile (· != 46) = l.take i
  | [], i, _, h => by simp at h
  | c :: l, 0, _, h => by
    have : c = 46 := by simpa using h
    subst this
    rfl
  | c :: l, i + 1, hk, h => by
    have hc : c ≠ 46 := fun q => hk 0 (by omega) (by rw [q]; rfl)
    rw [List.takeWhile_cons_of_pos (by simpa using hc), List.take_succ_cons, takeWhile_take l i (fun k hk' => hk (k + 1) (by omega)) (by simpa using h)]
theorem takeWhile_all : ∀ (l : List Nat), (∀ k : Nat, l[k]? ≠ some 46) → l.takeWhile (· != 46) = l
  | [], _ => rfl
  | c :: l, hk => by
    have hc : c ≠ 46 := fun q => hk 0 (by rw [q]; rfl)
    rw [List.takeWhile_cons_of_pos (by simpa using hc), takeWhile_all l (fun k => hk (k + 1))]
theorem split_front (x : Str) : ∃ fr r, Txt.split x ⟨#[46]⟩ = fr :: r ∧ fr.cps.toList = x.cps.toList.takeWhile (· != 46) := by
  have hlen : (⟨#[46]⟩ : Str).length = 1 := rfl
  unfold Txt.split
  split
  · rename_i h
    have hd : x.length < 1 := by
      rcases Bool.or_eq_true _ _ |>.mp h with h | h
      · exact of_decide_eq_true h
      · exfalso
        have := of_decide_eq_true h
        have h1 : Str.strKind (⟨#[46]⟩ : Str) = 1 := by decide +kernel
        have h2 : 1 ≤ Str.strKind x := by unfold Str.strKind; split; exact Nat.le_refl _; split <;> omega
        omega
    have h3 : x.cps.toList.length = x.length := by simp [Str.length]
    have : x.cps.toList = [] := List.eq_nil_of_length_eq_zero (by omega)
    exact ⟨x, [], rfl, by rw [this]; rfl⟩
  · rcases StrLaws.occ_head_from x ⟨#[46]⟩ 0 (x.length + 1) (by omega) with ⟨h0, hn⟩ | ⟨i, r, h0, _, ha, hn⟩
    · rw [h0]
      refine ⟨x, [], rfl, (takeWhile_all _ fun k hk => ?_).symm⟩
      exact hn k (Nat.zero_le _) ((StrLaws.subAt_one x 46 k).mpr hk)
    · rw [h0]
      refine ⟨strSub x 0 i, StrLaws.partsFrom x 1 (i + 1) r, ?_, ?_⟩
      · show (if (i :: r).isEmpty = true then _ else _) = _
        rw [if_neg (by simp), StrLaws.partsBetween_eq]
        rfl
      · rw [StrLaws.strSub_toList, takeWhile_take _ i (fun k hk q => hn k (Nat.zero_le _) hk ((StrLaws.subAt_one x 46 k).mpr q)) ((StrLaws.subAt_one x 46 i).mp ha)]
        simp
theorem frontF_eq (x : Str) : (frontF x).cps.toList = x.cps.toList.takeWhile (· != 46) := by
  obtain ⟨fr, r, h, e⟩ := split_front x
  unfold frontF
  rw [show Str.ofString "." = ⟨#[46]⟩ from by decide +kernel, h]
  exact e
theorem front_get (x : Str) : (Txt.split x (Str.ofString "."))[0]? = some (frontF x) := by
  obtain ⟨fr, r, h, e⟩ := split_front x
  unfold frontF
  rw [show Str.ofString "." = ⟨#[46]⟩ from by decide +kernel, h]
  rfl
theorem front_len (x : Str) : (frontF x).length ≤ x.length := by
  have h := congrArg List.length (frontF_eq x)
  have h2 : (x.cps.toList.takeWhile (· != 46)).length ≤ x.cps.toList.length := (List.takeWhile_sublist _).length_le
  simp only [Array.length_toList] at h h2
  unfold Str.length
  omega
end Mine
end

local macro_rules | `(tactic| walk_at "call builtin:list.append") => `(tactic| refine Mine.Halt.mk ?_)
/- G2 -/
section
open PySem PySem.W PyProof.Rows PySem.Calls PySem.Spec
set_option maxRecDepth 100000
set_option maxHeartbeats 4000000
namespace Mine
theorem fillG2 (w : World) (h : Heap) : (hd35.heap_39 w.params).In h → model PySem.Challenge.rw_om0035_01.row.prog w = model PySem.Challenge.rw_om0035_01.row.prog w := by
  k_fill
  intro _
  rfl
/-- the numbers that the inner loop gathers from the first j words -/
noncomputable def numsF (front : Str) (ws : List Str) (ms : List Int) (e : Nat) : Nat → List Int
  | 0 => [ms.getD (e - 1) 0]
  | j + 1 => if (ws.getD j Str.empty).length ≤ e ∧ Txt.slice front (some ((e - (ws.getD j Str.empty).length : Nat) : Int)) (some (e : Int)) = ws.getD j Str.empty then numsF front ws ms e j ++ [ms.getD (e - (ws.getD j Str.empty).length) 0 + 1] else numsF front ws ms e j
noncomputable def mostF (front : Str) (ws : List Str) : Nat → List Int
  | 0 => [0]
  | e + 1 => mostF front ws e ++ [maxL (numsF front ws (mostF front ws e) (e + 1) ws.length)]
noncomputable def endsF (front : Str) (ws : List Str) : Nat → List Int
  | 0 => []
  | e + 1 => if (mostF front ws (e + 1)).getD e 0 < (mostF front ws (e + 1)).getD (e + 1) 0 then endsF front ws e ++ [((e + 1 : Nat) : Int)] else endsF front ws e
theorem ints_at : ∀ {vs : List Value} {ns : List Int}, IntsAre vs ns → ∀ {j : Nat}, j < ns.length → ∃ t, vs[j]? = some (.int (ns.getD j 0) t)
  | _, _, .nil, _, h => by simp at h
  | _, _, .cons n t _, 0, _ => ⟨t, rfl⟩
  | _, _, .cons n t r, j + 1, h => by
    obtain ⟨t', ht⟩ := ints_at r (j := j) (by simpa using h)
    exact ⟨t', by simpa using ht⟩
theorem ints_len : ∀ {vs : List Value} {ns : List Int}, IntsAre vs ns → vs.length = ns.length
  | _, _, .nil => rfl
  | _, _, .cons _ _ r => by rw [List.length_cons, List.length_cons, ints_len r]
theorem mostF_len (front : Str) (ws : List Str) : ∀ i, (mostF front ws i).length = i + 1
  | 0 => rfl
  | i + 1 => by rw [mostF, List.length_append, mostF_len front ws i]; rfl
theorem numsF_len (front : Str) (ws : List Str) (ms : List Int) (e : Nat) : ∀ j, 1 ≤ (numsF front ws ms e j).length ∧ (numsF front ws ms e j).length ≤ j + 1
  | 0 => by simp [numsF]
  | j + 1 => by
    have := numsF_len front ws ms e j
    rw [numsF]
    split
    · rw [List.length_append]; simp only [List.length_cons, List.length_nil]; omega
    · omega
theorem endsF_len (front : Str) (ws : List Str) : ∀ i, (endsF front ws i).length ≤ i
  | 0 => by simp [endsF]
  | i + 1 => by
    have := endsF_len front ws i
    rw [endsF]
    split
    · rw [List.length_append]; simp only [List.length_cons, List.length_nil]; omega
    · omega
theorem small_of {n : Int} (h0 : 0 ≤ n) (h1 : n ≤ 1000) : Builtin.Range.small 1 (n + 1) 1 = true := by
  have e : ∀ i : Int, -(2 ^ 20) ≤ i → i ≤ 2 ^ 20 → Builtin.Range.rangeFitsLong i = true := by
    intro i h h'
    unfold Builtin.Range.rangeFitsLong
    simp only [Bool.and_eq_true, decide_eq_true_eq]
    omega
  have hs : Builtin.Range.rangeSize 1 (n + 1) 1 = n := by rw [rangeSize_one]; split <;> omega
  unfold Builtin.Range.small
  rw [hs, if_pos (by decide), show n + 1 + (1 - 1) = n + 1 by omega]
  simp only [e 1 (by omega) (by omega), e (n + 1) (by omega) (by omega), e n (by omega) (by omega), Bool.and_self, Bool.or_true]
theorem iter_range_led {prog : Program} {w : World} {A : Around} {E : Value → Shared → Prop} {s : Shared} {g : Heap} {L : Addr} {m : Str → Option Value} {news : List (Addr × Obj)} {n : Nat} {t u : Tok} {J : Shared → Prop} (F : Fr g L s.heap m) (N : News g L s.heap news) (hn : n ≤ 1000)
    (h : ∀ h' tk, Fr g L h' m → News g L h' ((s.heap.objs.size + 1, rIter 1 n 1) :: news) → J { s with heap := h', toks := tk }) :
    wpAny (model prog w) A (call (.type "range") [.int 1 t, .int ((n : Int) + 1) u]) (fun xv s₁ => wpAny (model prog w) A (pyIter xv) (fun it s₂ => it = .ref (s.heap.objs.size + 1) ∧ J s₂) E s₁) E s := by
  have hrs : Builtin.Range.rangeSize 1 ((n : Int) + 1) 1 = (n : Int) := by rw [rangeSize_one]; split <;> omega
  refine call_range_2 ?_
  refine wpAny_pyIter_range (IsRange.new _ _ _ _ _ _ _) (small_of (by omega) (by omega)) ⟨?_, ?_⟩
  · rw [Heap.size_push]
  rw [hrs]
  have F4 := F.push { cls := .type "range", data := .fields #[.int 1 t, .int ((n : Int) + 1) u, .int 1 s.toks] }
  have N5 := News.push F4 (N.pushKeep _) (rIter 1 (n : Int) 1) rfl
  rw [Heap.size_push] at N5
  exact h _ _ (F4.push _) N5
section
local macro_rules | `(tactic| walk_at "subscriptTail") => `(tactic| refine Mine.Halt.mk ?_)
local macro_rules | `(tactic| walk_at "subscriptTail ref int") => `(tactic| refine Mine.Halt.mk ?_)
local macro_rules | `(tactic| walk_at "call builtin:max") => `(tactic| refine Mine.Halt.mk ?_)
local macro_rules | `(tactic| walk_at "call builtin:str.split") => `(tactic| refine Mine.Halt.mk ?_)
local macro_rules | `(tactic| walk_at "exec For Name Call cons nil") => `(tactic| refine Mine.Halt.mk ?_)
namespace ends_c_k
noncomputable def PP (w : World) (p : Program) (loose : List Str) (mean : ExcName → Option Value) (mg : Str → Option Value) (mb : Str → Option Value) (dp : Nat) (un : Nat) (gd : Option (List Code)) (cn : Str) (cs : Scope) (L : Addr) (a : Addr) (ccd : Value) (cl : List (Str × Addr)) (outer : List Env) (A₀ : Around) (base : Heap) (h₀ : Heap) (m : Str → Option Value) (s : Shared) (Q : Value → Shared → Prop) (E : Value → Shared → Prop) (text : Str) (t0 : Tok) (wl : Addr) (n3 : Nat) (wvs : List Value) (ws : List Str) : Prop := ∀ (B : Below A₀ base outer h₀) (F : Fr h₀ L s.heap m) (X : (hd35.heap_39 w.params).In h₀) (T : Top p loose mean mg mb h₀) (hk : cs.kind = .function) (N : News h₀ L s.heap [(wl, listOf wvs.toArray n3)]) (hlt : text.length ≤ 9) (hW : WordsAt wvs ws) (hwl : ws.length ≤ 4) (hwr : ∀ x ∈ ws, 1 ≤ x.length ∧ x.length ≤ 3) (hdp : dp + 3 < recursionLimit) (hu : un + 24 < cLine) (hret : ∀ D n vs h' tk', (∀ b o, s.heap.get? b = some o → h'.get? b = some o) → h'.get? D = some (listOf vs.toArray n) → IntsAre vs (endsF (frontF text) ws (frontF text).length) → s.heap.get? D = none → Q (.ref D) { s with heap := h', toks := tk' }), wpAny (model PySem.Challenge.rw_om0035_01.row.prog w) (MTop none dp un gd cn cs L a ccd cl outer) (call (.ref 130) [.str text t0, .ref wl]) Q E s
noncomputable def QQ (cc : (World) × (Program) × (List Str) × (ExcName → Option Value) × (Str → Option Value) × (Str → Option Value) × (Nat) × (Nat) × (Option (List Code)) × (Str) × (Scope) × (Addr) × (Addr) × (Value) × (List (Str × Addr)) × (List Env) × (Around) × (Heap) × (Heap) × (Str → Option Value) × (Shared) × (Value → Shared → Prop) × (Value → Shared → Prop) × (Str) × (Tok) × (Addr) × (Nat) × (List Value) × (List Str)) : Prop := PP (cc.1) (cc.2.1) (cc.2.2.1) (cc.2.2.2.1) (cc.2.2.2.2.1) (cc.2.2.2.2.2.1) (cc.2.2.2.2.2.2.1) (cc.2.2.2.2.2.2.2.1) (cc.2.2.2.2.2.2.2.2.1) (cc.2.2.2.2.2.2.2.2.2.1) (cc.2.2.2.2.2.2.2.2.2.2.1) (cc.2.2.2.2.2.2.2.2.2.2.2.1) (cc.2.2.2.2.2.2.2.2.2.2.2.2.1) (cc.2.2.2.2.2.2.2.2.2.2.2.2.2.1) (cc.2.2.2.2.2.2.2.2.2.2.2.2.2.2.1) (cc.2.2.2.2.2.2.2.2.2.2.2.2.2.2.2.1) (cc.2.2.2.2.2.2.2.2.2.2.2.2.2.2.2.2.1) (cc.2.2.2.2.2.2.2.2.2.2.2.2.2.2.2.2.2.1) (cc.2.2.2.2.2.2.2.2.2.2.2.2.2.2.2.2.2.2.1) (cc.2.2.2.2.2.2.2.2.2.2.2.2.2.2.2.2.2.2.2.1) (cc.2.2.2.2.2.2.2.2.2.2.2.2.2.2.2.2.2.2.2.2.1) (cc.2.2.2.2.2.2.2.2.2.2.2.2.2.2.2.2.2.2.2.2.2.1) (cc.2.2.2.2.2.2.2.2.2.2.2.2.2.2.2.2.2.2.2.2.2.2.1) (cc.2.2.2.2.2.2.2.2.2.2.2.2.2.2.2.2.2.2.2.2.2.2.2.1) (cc.2.2.2.2.2.2.2.2.2.2.2.2.2.2.2.2.2.2.2.2.2.2.2.2.1) (cc.2.2.2.2.2.2.2.2.2.2.2.2.2.2.2.2.2.2.2.2.2.2.2.2.2.1) (cc.2.2.2.2.2.2.2.2.2.2.2.2.2.2.2.2.2.2.2.2.2.2.2.2.2.2.1) (cc.2.2.2.2.2.2.2.2.2.2.2.2.2.2.2.2.2.2.2.2.2.2.2.2.2.2.2.1) (cc.2.2.2.2.2.2.2.2.2.2.2.2.2.2.2.2.2.2.2.2.2.2.2.2.2.2.2.2)
@[irreducible] noncomputable def cc : (World) × (Program) × (List Str) × (ExcName → Option Value) × (Str → Option Value) × (Str → Option Value) × (Nat) × (Nat) × (Option (List Code)) × (Str) × (Scope) × (Addr) × (Addr) × (Value) × (List (Str × Addr)) × (List Env) × (Around) × (Heap) × (Heap) × (Str → Option Value) × (Shared) × (Value → Shared → Prop) × (Value → Shared → Prop) × (Str) × (Tok) × (Addr) × (Nat) × (List Value) × (List Str) := eps (by (repeat' first | exact neW | exact neA | exact neS | refine neP ?_ ?_ | infer_instance)) QQ
@[irreducible] noncomputable def p : Program := cc.2.1
@[irreducible] noncomputable def s : Shared := cc.2.2.2.2.2.2.2.2.2.2.2.2.2.2.2.2.2.2.2.2.1
@[irreducible] noncomputable def text : Str := cc.2.2.2.2.2.2.2.2.2.2.2.2.2.2.2.2.2.2.2.2.2.2.2.1
@[irreducible] noncomputable def wl : Addr := cc.2.2.2.2.2.2.2.2.2.2.2.2.2.2.2.2.2.2.2.2.2.2.2.2.2.1
@[irreducible] noncomputable def n3 : Nat := cc.2.2.2.2.2.2.2.2.2.2.2.2.2.2.2.2.2.2.2.2.2.2.2.2.2.2.1
@[irreducible] noncomputable def wvs : List Value := cc.2.2.2.2.2.2.2.2.2.2.2.2.2.2.2.2.2.2.2.2.2.2.2.2.2.2.2.1
@[irreducible] noncomputable def ws : List Str := cc.2.2.2.2.2.2.2.2.2.2.2.2.2.2.2.2.2.2.2.2.2.2.2.2.2.2.2.2
noncomputable def stg : PSigma fun R : (Heap) → (Addr) → (Heap) → Prop => (∀ g L' h₁, R g L' h₁) → PP (cc.1) p (cc.2.2.1) (cc.2.2.2.1) (cc.2.2.2.2.1) (cc.2.2.2.2.2.1) (cc.2.2.2.2.2.2.1) (cc.2.2.2.2.2.2.2.1) (cc.2.2.2.2.2.2.2.2.1) (cc.2.2.2.2.2.2.2.2.2.1) (cc.2.2.2.2.2.2.2.2.2.2.1) (cc.2.2.2.2.2.2.2.2.2.2.2.1) (cc.2.2.2.2.2.2.2.2.2.2.2.2.1) (cc.2.2.2.2.2.2.2.2.2.2.2.2.2.1) (cc.2.2.2.2.2.2.2.2.2.2.2.2.2.2.1) (cc.2.2.2.2.2.2.2.2.2.2.2.2.2.2.2.1) (cc.2.2.2.2.2.2.2.2.2.2.2.2.2.2.2.2.1) (cc.2.2.2.2.2.2.2.2.2.2.2.2.2.2.2.2.2.1) (cc.2.2.2.2.2.2.2.2.2.2.2.2.2.2.2.2.2.2.1) (cc.2.2.2.2.2.2.2.2.2.2.2.2.2.2.2.2.2.2.2.1) s (cc.2.2.2.2.2.2.2.2.2.2.2.2.2.2.2.2.2.2.2.2.2.1) (cc.2.2.2.2.2.2.2.2.2.2.2.2.2.2.2.2.2.2.2.2.2.2.1) text (cc.2.2.2.2.2.2.2.2.2.2.2.2.2.2.2.2.2.2.2.2.2.2.2.2.1) wl n3 wvs ws := by
  refine' PSigma.mk _ (fun hR => ?_)
  rotate_left
  unfold PP
  intro B F X T hk N hlt hW hwl hwr hdp hu hret
  w_on
  refine wpAny_call ?_
  k_dflt (refine' code_defG B F X N T rfl rfl hk ?k6 ?k7 ?k8 ?k9 ?kB ?_ ?c2 ?c3 ?c4 ?c5; (case k6 => k_is); (case k7 => k_is); (case k8 => ktr_room); (case k9 => exact BindsTo.of_eq rfl); (case c5 => decide); (case kB => exact locs rfl); (case c2 => exact rfl); (case c3 => exact rfl); (case c4 => exact rfl))
  intro g L' h₁
  revert B F X T hk N hlt hW hwl hwr hdp hu hret
  exact hR g L' h₁
noncomputable def Q2 (cd : (Heap) × (Addr) × (Heap)) : Prop := stg.1  (cd.1) (cd.2.1) (cd.2.2)
@[irreducible] noncomputable def cd : (Heap) × (Addr) × (Heap) := eps (by (repeat' first | exact neW | exact neA | exact neS | refine neP ?_ ?_ | infer_instance)) Q2
@[irreducible] noncomputable def g : Heap := cd.1
@[irreducible] noncomputable def L' : Addr := cd.2.1
@[irreducible] noncomputable def h₁ : Heap := cd.2.2
theorem walk2 : stg.1 g L' h₁ := by
  intro B F X T hk N hlt hW hwl hwr hdp hu hret FG F' N' B' X' T' GS
  clear FG
  k_steps
  refine Halt.out ?_
  k_dflt (refine KSpl.split1 (by k_asm) (by k_asm) (by decide) ?_ (by rw [sizeLine_eq]; omega))
  intro D2 l2 h2 k2 e2 a2 F2 N2 lt2
  k_lt lt2
  k_sweep
  have hfront : (List.map (fun x => x.fst) l2)[0]? = some (frontF text) := by
    rw [e2]; exact front_get text
  have hfl : (frontF text).length ≤ 9 := Nat.le_trans (front_len text) hlt
  k_steps
  refine Halt.out ?_
  rename_i front tf hfr _ mo _ lmo _ en _ len h3 F3 N3
  obtain rfl : frontF text = front := by
    have hfr' : (List.map (fun x => x.fst) l2)[0]? = some front := hfr
    rw [hfront] at hfr'
    exact Option.some.inj hfr'
  generalize frontF text = front at *
  have hL3 : L' < h3.objs.size := F3.ns.lt
  have aen : @LT.lt Nat _ en h3.objs.size := Heap.lt_size (N3 _ (.head _)).1
  have amo : @LT.lt Nat _ mo h3.objs.size := Heap.lt_size (N3 _ (.tail _ (.head _))).1
  have awl : @LT.lt Nat _ wl h3.objs.size := Heap.lt_size (N3 _ (.tail _ (.tail _ (.tail _ (.head _))))).1
  have fresh : ∀ b : Addr, L' < b → g.get? b = none := fun b hb => Heap.get?_none_of_le (Nat.le_trans F3.above (Nat.le_of_lt hb))
  have hwn : wvs.length = ws.length := hW.1
  k_dflt (refine For_any (I := h3.objs.size + 1) (n := front.length) (fun i s' => Held (Pk7 fun m₁ h tk ms es n1 n2 => Al9 (s' = { s with heap := h, toks := tk }) (Fr g L' h m₁) (News g L' h [(h3.objs.size + 1, rIter (1 + (i : Int) * 1) ((front.length : Int) - (i : Int)) 1), (en, listOf (List.toArray es) n2), (mo, listOf (List.toArray ms) n1), (wl, listOf wvs.toArray n3)]) (m₁ (Str.ofString "front") = some (.str front tf)) (m₁ (Str.ofString "most") = some (.ref mo)) (m₁ (Str.ofString "ends") = some (.ref en)) (m₁ (Str.ofString "words") = some (.ref wl)) (IntsAre ms (mostF front ws i)) (IntsAre es (endsF front ws i)))) ?_ (Walks.range rfl (h3.objs.size + 1) 1 1 front.length) ?_ ?_ ?_)
  · k_steps
    refine Halt.out ?_
    obtain ⟨tk0, N4⟩ : ∃ t, News g L' h3 [(en, listOf (List.toArray []) 0), (mo, listOf (List.toArray [.int 0 t]) 0), (wl, listOf wvs.toArray n3)] := ⟨_, news_cons N3 (by k_mem) (news_cons N3 (by k_mem) (news_cons N3 (by k_mem) news_nil))⟩
    k_dflt (refine iter_range_led F3 N4 (by omega) ?_)
    intro h5 tk5 F5 N5
    refine Held.mk ⟨_, h5, tk5, [.int 0 tk0], [], 0, 0, rfl, F5, ?_, rfl, rfl, rfl, rfl, .cons _ _ .nil, .nil⟩
    rw [show (1 + ((0 : Nat) : Int) * 1) = 1 by omega, show ((front.length : Int) - ((0 : Nat) : Int)) = front.length by omega]
    exact N5
  · rintro i s' ⟨m₁, h, tk, ms, es, n1, n2, rfl, F₁, N₁, _⟩
    exact (N₁ _ (.head _)).1
  · rintro i s' v h₁ tk₁ hi ⟨m₁, h, tk, ms, es, n1, n2, rfl, F₁, N₁, hm1, hm2, hm3, hm4, hms, hes⟩ ⟨t, rfl⟩ hst hkp
    have hdI : ∀ p ∈ ([(en, listOf (List.toArray es) n2), (mo, listOf (List.toArray ms) n1), (wl, listOf wvs.toArray n3)] : List (Addr × Obj)), p.1 ≠ h3.objs.size + 1 := by
      refine all3 ?_ ?_ ?_ <;> exact Nat.ne_of_lt (by omega)
    obtain ⟨F₂, N₂⟩ := one_change F₁ N₁ hdI hkp hst
    have e0 : (1 + (i : Int) * 1) = ((i + 1 : Nat) : Int) := by omega
    rw [e0]
    have hml : (mostF front ws i).length = i + 1 := mostF_len front ws i
    have hmvl := ints_len hms
    have hevl := ints_len hes
    have hel := endsF_len front ws i
    obtain ⟨tm, htm⟩ := ints_at hms (j := i) (by omega)
    have hend1 : (((i + 1 : Nat) : Int) - 1) = (i : Int) := by omega
    clear F₁ N₁ hkp hst hdI
    k_steps
    refine Halt.out ?_
    rename_i tq nu _ lnu h6 F6 N6
    rw [show (((i + 1 : Nat) : Int) - 1).toNat = i by omega] at N6
    have anu : @LT.lt Nat _ nu h6.objs.size := Heap.lt_size (N6 _ (.head _)).1
    have hL6 : L' < h6.objs.size := F6.ns.lt
    obtain ⟨m₂, F7, hmf, hmm, hme, hmw, hmi, hmn⟩ : Pk1 fun m₂ => Al7 (Fr g L' h6 m₂) (m₂ (Str.ofString "front") = some (.str front tf)) (m₂ (Str.ofString "most") = some (.ref mo)) (m₂ (Str.ofString "ends") = some (.ref en)) (m₂ (Str.ofString "words") = some (.ref wl)) (m₂ (Str.ofString "end") = some (.int ((i + 1 : Nat) : Int) t)) (m₂ (Str.ofString "numbers") = some (.ref nu)) :=
      ⟨_, F6, ((if_neg (by decide)).trans (if_neg (by decide))).trans hm1, ((if_neg (by decide)).trans (if_neg (by decide))).trans hm2, ((if_neg (by decide)).trans (if_neg (by decide))).trans hm3, ((if_neg (by decide)).trans (if_neg (by decide))).trans hm4, (if_neg (by decide)).trans (if_pos rfl), if_pos rfl⟩
    have hq0 : IntsAre [Value.int ((mostF front ws i).getD i 0) tq] (numsF front ws (mostF front ws i) (i + 1) 0) := .cons _ _ .nil
    have hwlt : @LT.lt Nat _ wl h6.objs.size := Heap.lt_size (N6 _ (.tail _ (.tail _ (.tail _ (.tail _ (.head _)))))).1
    clear F6
    k_dflt (refine For_any (I := h6.objs.size) (n := wvs.toArray.size) (fun j s' => Held (Pk6 fun m₃ h tk oi nv n5 => Al11 (s' = { s with heap := h, toks := tk }) (Fr g L' h m₃) (News g L' h [(h6.objs.size, oi), (nu, listOf (List.toArray nv) n5), (h3.objs.size + 1, rIter (1 + ((i + 1 : Nat) : Int) * 1) ((front.length : Int) - ((i + 1 : Nat) : Int)) 1), (en, listOf (List.toArray es) n2), (mo, listOf (List.toArray ms) n1), (wl, listOf wvs.toArray n3)]) (LIterO wl j oi) (m₃ (Str.ofString "front") = some (.str front tf)) (m₃ (Str.ofString "most") = some (.ref mo)) (m₃ (Str.ofString "ends") = some (.ref en)) (m₃ (Str.ofString "words") = some (.ref wl)) (m₃ (Str.ofString "end") = some (.int ((i + 1 : Nat) : Int) t)) (m₃ (Str.ofString "numbers") = some (.ref nu)) (IntsAre nv (numsF front ws (mostF front ws i) (i + 1) j)))) ?_ (Walks.list rfl h6.objs.size wl (Nat.ne_of_lt hwlt) wvs.toArray) ?_ ?_ ?_)
    · k_steps
      k_dflt (refine wpAny_pyIter_list (PySem.IsL.isList (n := n3) (N6 _ (.tail _ (.tail _ (.tail _ (.tail _ (.head _)))))).1) ⟨rfl, ?_⟩)
      exact Held.mk ⟨m₂, _, _, _, [_], 0, rfl, F7.push _, News.push F7 N6 _ rfl, ⟨rfl, rfl⟩, hmf, hmm, hme, hmw, hmi, hmn, hq0⟩
    · rintro j s' ⟨m₃, h, tk, oi, nv, n5, rfl, F₃, N₃, hoi, _⟩
      exact ⟨⟨oi, (N₃ _ (.head _)).1, hoi⟩, PySem.IsL.isList (n := n3) (N₃ _ (.tail _ (.tail _ (.tail _ (.tail _ (.tail _ (.head _))))))).1⟩
    · rintro j s' v h₈ tk₈ hj ⟨m₃, h, tk, oi, nv, n5, rfl, F₃, N₃, hoi, hf, hmo, hen, hwo, hei, hnu, hnv⟩ hv hst8 hkp8
      have hj' : j < wvs.length := by simpa using hj
      have hv1 : wvs[j]? = some v := by simpa using hv
      have hxs : ws[j]? = some (ws.getD j Str.empty) := by
        rw [List.getD_eq_getElem?_getD, List.getElem?_eq_getElem (hwn ▸ hj')]; rfl
      obtain ⟨x, hxe⟩ : ∃ x, x = ws.getD j Str.empty := ⟨_, rfl⟩
      rw [← hxe] at hxs
      obtain ⟨tx, hxv⟩ := hW.2 j x hxs
      obtain rfl : v = .str x tx := Option.some.inj (hv1.symm.trans hxv)
      have hxr := hwr x (List.mem_of_getElem? hxs)
      have hdJ : ∀ p ∈ ([(nu, listOf (List.toArray nv) n5), (h3.objs.size + 1, rIter (1 + ((i + 1 : Nat) : Int) * 1) ((front.length : Int) - ((i + 1 : Nat) : Int)) 1), (en, listOf (List.toArray es) n2), (mo, listOf (List.toArray ms) n1), (wl, listOf wvs.toArray n3)] : List (Addr × Obj)), p.1 ≠ h6.objs.size := by
        refine all5 ?_ ?_ ?_ ?_ ?_ <;> exact Nat.ne_of_lt (by omega)
      obtain ⟨⟨oi', hoi', hio'⟩, _⟩ := hst8
      obtain ⟨F₄, N₄⟩ := one_change F₃ N₃ hdJ hkp8 hoi'
      have hnl := numsF_len front ws (mostF front ws i) (i + 1) j
      have hnvl := ints_len hnv
      clear F₃ N₃ hkp8 hdJ
      k_steps
      · refine Halt.out ?_
        have hle : (x.length : Int) ≤ ((i + 1 : Nat) : Int) := by assumption
        have hsl : Txt.slice front (some (((i + 1 : Nat) : Int) - (x.length : Int))) (some ((i + 1 : Nat) : Int)) = x := by first | assumption | (apply eq_of_beq; assumption)
        have hsub : (((i + 1 : Nat) : Int) - (x.length : Int)) = ((i + 1 - x.length : Nat) : Int) := by omega
        k_dflt (refine append_K (by k_asm) (by k_asm) (by k_upd) ?_ (by rw [List.size_toArray, sizeLine_eq]; omega))
        intro h9 F9 N9
        rw [List.push_toArray] at N9
        k_steps
        refine Held.mk ⟨_, h9, _, oi', nv ++ [_], n5 + 1, rfl, F9, N9, hio', (if_neg (by decide)).trans hf, (if_neg (by decide)).trans hmo, (if_neg (by decide)).trans hen, (if_neg (by decide)).trans hwo, (if_neg (by decide)).trans hei, (if_neg (by decide)).trans hnu, ?_⟩
        rw [numsF, ← hxe, if_pos ⟨by omega, by rw [← hsub]; exact hsl⟩, show i + 1 - x.length = (((i + 1 : Nat) : Int) - (x.length : Int)).toNat by omega]
        exact hnv.append (.cons _ _ .nil)
      · have hsl : (Txt.slice front (some (((i + 1 : Nat) : Int) - (x.length : Int))) (some ((i + 1 : Nat) : Int)) == x) = false := by assumption
        have hle : (x.length : Int) ≤ ((i + 1 : Nat) : Int) := by assumption
        have hsub : (((i + 1 : Nat) : Int) - (x.length : Int)) = ((i + 1 - x.length : Nat) : Int) := by omega
        rename Fr g L' _ _ => F9
        rename News g L' _ _ => N9
        refine Held.mk ⟨_, _, _, oi', nv, n5, rfl, F9, N9, hio', (if_neg (by decide)).trans hf, (if_neg (by decide)).trans hmo, (if_neg (by decide)).trans hen, (if_neg (by decide)).trans hwo, (if_neg (by decide)).trans hei, (if_neg (by decide)).trans hnu, ?_⟩
        rw [numsF, ← hxe, if_neg (fun z => by rw [hsub] at hsl; rw [z.2] at hsl; simp at hsl)]
        exact hnv
      · have hle : ¬ (x.length : Int) ≤ ((i + 1 : Nat) : Int) := by assumption
        rename Fr g L' _ _ => F9
        rename News g L' _ _ => N9
        refine Held.mk ⟨_, _, _, oi', nv, n5, rfl, F9, N9, hio', (if_neg (by decide)).trans hf, (if_neg (by decide)).trans hmo, (if_neg (by decide)).trans hen, (if_neg (by decide)).trans hwo, (if_neg (by decide)).trans hei, (if_neg (by decide)).trans hnu, ?_⟩
        rw [numsF, ← hxe, if_neg (fun z => by omega)]
        exact hnv
    · rintro s' h₈ tk₈ ⟨m₃, h, tk, oi, nv, n5, rfl, F₃, N₃, hoi, hf, hmo, hen, hwo, hei, hnu, hnv⟩ hkp8
      have zJ := N₃ _ (.head _)
      have kJ : ∀ b o, b ≠ h6.objs.size → h.get? b = some o → h₈.get? b = some o := fun b o hb e => hkp8 b o (by simpa using hb) e
      have F₄ := fr_but F₃ zJ.2.2 zJ.2.1 kJ
      have N₄ : News g L' h₈ [(nu, listOf (List.toArray nv) n5), (h3.objs.size + 1, rIter (1 + ((i + 1 : Nat) : Int) * 1) ((front.length : Int) - ((i + 1 : Nat) : Int)) 1), (en, listOf (List.toArray es) n2), (mo, listOf (List.toArray ms) n1), (wl, listOf wvs.toArray n3)] := by
        intro q hq
        have y := N₃ q (.tail _ hq)
        refine ⟨kJ _ _ ?_ y.1, y.2⟩
        refine all5 (P := fun q : Addr × Obj => q.1 ≠ _) ?_ ?_ ?_ ?_ ?_ q hq <;> exact Nat.ne_of_lt (by omega)
      rw [show wvs.toArray.size = ws.length by rw [List.size_toArray]; exact hwn] at hnv
      have hnl := numsF_len front ws (mostF front ws i) (i + 1) ws.length
      have hnvl := ints_len hnv
      clear F₃ N₃ hkp8 kJ zJ hoi F7 N6
      dsimp only
      k_steps
      refine Halt.out ?_
      k_dflt (refine kso_max (by k_asm) (by k_asm) (PySem.IsL.isList (n := n5) (News.get N₄ (.head _))) hnv (by omega) rfl ?_)
      intro h9 M9 t9 tk9 F9 N9 hM1 hM2
      have hM := maxL_eq hM1 hM2
      k_sweep
      k_steps
      refine Halt.out ?_
      k_dflt (refine append_K (by k_asm) (by k_asm) (by k_upd) ?_ (by rw [List.size_toArray, sizeLine_eq]; omega))
      intro h10 F10 N10
      rw [List.push_toArray] at N10
      have hms2 : IntsAre (ms ++ [.int M9 t9]) (mostF front ws (i + 1)) := by
        rw [mostF, hM]
        exact hms.append (.cons _ _ .nil)
      have hml2 : (mostF front ws (i + 1)).length = i + 1 + 1 := mostF_len front ws (i + 1)
      have hmvl2 := ints_len hms2
      k_steps
      · refine Halt.out ?_
        have hlt2 : (mostF front ws (i + 1)).getD (((i + 1 : Nat) : Int) - 1).toNat 0 < (mostF front ws (i + 1)).getD (((i + 1 : Nat) : Int)).toNat 0 := by assumption
        rw [show (((i + 1 : Nat) : Int) - 1).toNat = i by omega, Int.toNat_natCast] at hlt2
        k_dflt (refine append_K (by k_asm) (by k_asm) (by k_upd) ?_ (by rw [List.size_toArray, sizeLine_eq]; omega))
        intro h11 F11 N11
        rw [List.push_toArray] at N11
        k_steps
        refine Held.mk ⟨m₃, h11, _, ms ++ [.int M9 t9], es ++ [_], n1 + 1, n2 + 1, rfl, F11, fun q hq => N11 q (.tail _ hq), hf, hmo, hen, hwo, hms2, ?_⟩
        rw [endsF, if_pos hlt2]
        exact hes.append (.cons _ _ .nil)
      · have hlt2 : ¬ (mostF front ws (i + 1)).getD (((i + 1 : Nat) : Int) - 1).toNat 0 < (mostF front ws (i + 1)).getD (((i + 1 : Nat) : Int)).toNat 0 := by assumption
        rw [show (((i + 1 : Nat) : Int) - 1).toNat = i by omega, Int.toNat_natCast] at hlt2
        refine Held.mk ⟨m₃, h10, _, ms ++ [.int M9 t9], es, n1 + 1, n2, rfl, F10, fun q hq => N10 q (.tail _ hq), hf, hmo, hen, hwo, hms2, ?_⟩
        rw [endsF, if_neg hlt2]
        exact hes
  · rintro s' h₁ tk₁ ⟨m₁, h, tk, ms, es, n1, n2, rfl, F₁, N₁, hm1, hm2, hm3, hm4, hms, hes⟩ hkp
    have z := N₁ _ (.head _)
    have kI : ∀ b o, b ≠ h3.objs.size + 1 → h.get? b = some o → h₁.get? b = some o := fun b o hb e => hkp b o (by simpa using hb) e
    have F₂ := fr_but F₁ z.2.2 z.2.1 kI
    have N₂ : News g L' h₁ [(en, listOf (List.toArray es) n2), (wl, listOf wvs.toArray n3)] := by
      intro q hq
      rcases List.mem_cons.mp hq with rfl | hq
      · have y := N₁ _ (.tail _ (.head _))
        exact ⟨kI _ _ (Nat.ne_of_lt (by omega)) y.1, y.2⟩
      · obtain rfl := List.mem_singleton.mp hq
        have y := N₁ _ (.tail _ (.tail _ (.tail _ (.head _))))
        exact ⟨kI _ _ (Nat.ne_of_lt (by omega)) y.1, y.2⟩
    clear F₁ N₁ hkp
    dsimp only
    k_steps
    refine hret en n2 es _ _ ?_ (News.get (by k_asm) (by k_mem)) hes ?_
    · intro b o e
      by_cases hb : b = wl
      · subst hb
        have y := (N _ (.head _)).1
        dsimp only at y
        rw [e] at y; cases y
        exact (N₂ _ (.tail _ (.head _))).1
      · exact F₂.keep _ _ (GS _ _ e (by simpa using hb))
    · exact fresh_of (fs := []) GS KtsTurn.refl N₂ (.head _) (by
        intro hm
        have hm' : @Eq Nat en wl := by simpa using hm
        omega)
theorem q2 : Q2 cd := by
  have h := walk2
  unfold g L' h₁ at h
  exact h
theorem all2 : ∀ x, Q2 x := by
  have h := q2
  unfold cd at h
  exact eps_all h
theorem walk : PP (cc.1) p (cc.2.2.1) (cc.2.2.2.1) (cc.2.2.2.2.1) (cc.2.2.2.2.2.1) (cc.2.2.2.2.2.2.1) (cc.2.2.2.2.2.2.2.1) (cc.2.2.2.2.2.2.2.2.1) (cc.2.2.2.2.2.2.2.2.2.1) (cc.2.2.2.2.2.2.2.2.2.2.1) (cc.2.2.2.2.2.2.2.2.2.2.2.1) (cc.2.2.2.2.2.2.2.2.2.2.2.2.1) (cc.2.2.2.2.2.2.2.2.2.2.2.2.2.1) (cc.2.2.2.2.2.2.2.2.2.2.2.2.2.2.1) (cc.2.2.2.2.2.2.2.2.2.2.2.2.2.2.2.1) (cc.2.2.2.2.2.2.2.2.2.2.2.2.2.2.2.2.1) (cc.2.2.2.2.2.2.2.2.2.2.2.2.2.2.2.2.2.1) (cc.2.2.2.2.2.2.2.2.2.2.2.2.2.2.2.2.2.2.1) (cc.2.2.2.2.2.2.2.2.2.2.2.2.2.2.2.2.2.2.2.1) s (cc.2.2.2.2.2.2.2.2.2.2.2.2.2.2.2.2.2.2.2.2.2.1) (cc.2.2.2.2.2.2.2.2.2.2.2.2.2.2.2.2.2.2.2.2.2.2.1) text (cc.2.2.2.2.2.2.2.2.2.2.2.2.2.2.2.2.2.2.2.2.2.2.2.2.1) wl n3 wvs ws := stg.2 fun g L' h₁ => all2 (g, L', h₁) 
theorem q : QQ cc := by
  have h := walk
  unfold p s text wl n3 wvs ws at h
  exact h
theorem all : ∀ x, QQ x := by
  have h := q
  unfold cc at h
  exact eps_all h
end ends_c_k
theorem ends_c {w : World} {p : Program} {loose : List Str} {mean : ExcName → Option Value} {mg : Str → Option Value} {mb : Str → Option Value} {dp : Nat} {un : Nat} {gd : Option (List Code)} {cn : Str} {cs : Scope} {L : Addr} {a : Addr} {ccd : Value} {cl : List (Str × Addr)} {outer : List Env} {A₀ : Around} {base : Heap} {h₀ : Heap} {m : Str → Option Value} {s : Shared} {Q : Value → Shared → Prop} {E : Value → Shared → Prop} {text : Str} {t0 : Tok} {wl : Addr} {n3 : Nat} {wvs : List Value} {ws : List Str} (B : Below A₀ base outer h₀) (F : Fr h₀ L s.heap m) (X : (hd35.heap_39 w.params).In h₀) (T : Top p loose mean mg mb h₀) (hk : cs.kind = .function) (N : News h₀ L s.heap [(wl, listOf wvs.toArray n3)]) (hlt : text.length ≤ 9) (hW : WordsAt wvs ws) (hwl : ws.length ≤ 4) (hwr : ∀ x ∈ ws, 1 ≤ x.length ∧ x.length ≤ 3) (hdp : dp + 3 < recursionLimit) (hu : un + 24 < cLine) (hret : ∀ D n vs h' tk', (∀ b o, s.heap.get? b = some o → h'.get? b = some o) → h'.get? D = some (listOf vs.toArray n) → IntsAre vs (endsF (frontF text) ws (frontF text).length) → s.heap.get? D = none → Q (.ref D) { s with heap := h', toks := tk' }) : wpAny (model PySem.Challenge.rw_om0035_01.row.prog w) (MTop none dp un gd cn cs L a ccd cl outer) (call (.ref 130) [.str text t0, .ref wl]) Q E s :=
  ends_c_k.all (w, p, loose, mean, mg, mb, dp, un, gd, cn, cs, L, a, ccd, cl, outer, A₀, base, h₀, m, s, Q, E, text, t0, wl, n3, wvs, ws) B F X T hk N hlt hW hwl hwr hdp hu hret
end
end Mine
end

/- C1 -/
section
open PySem PySem.W PyProof.Rows PySem.Calls PySem.Spec
set_option maxRecDepth 100000
set_option maxHeartbeats 4000000
namespace Mine
section
variable {prog : Program} {w : World} {A : Around} {E : Value → Shared → Prop} {s : Shared} {env : Env}
/-- a list comprehension with a free invariant on the states: I the iterator, D the list, D + 1 its names -/
theorem Comp_any {elt target iter : PySem.Expr} {ifs : List PySem.Expr} {scope : Scope} {cl : List (Str × Addr)} {pos : Pos} {Q : Value → Shared → Prop} {n : Nat} (J : Addr → Addr → Nat → Shared → Prop)
    (hclos : closureFor scope env = pure cl) (hcell : ∀ y ∈ scope.names, y.2 ≠ .cell) (hkind : scope.kind = .function)
    (hnames : ∀ y ∈ scope.names, y.2 = .local → scope.names.lookup y.1 = some .local)
    (h : wpAny (model prog w) A (eval iter env) (fun xv s₁ => wpAny (model prog w) A (pyIter xv) (fun it s₂ => ∃ I, it = .ref I ∧
      ∀ h₄ tk, (∀ b o, s₂.heap.get? b = some o → h₄.get? b = some o) → h₄.get? s₂.heap.objs.size = some (listOf #[] 0) → h₄.Ns (s₂.heap.objs.size + 1) (fun _ => none) → J I s₂.heap.objs.size 0 { s₂ with heap := h₄, toks := tk }) E s₁) E s)
    (self : ∀ I D s₁ (Q' : Value → Shared → Prop) (E' : Value → Shared → Prop), J I D 0 s₁ → Q' (.ref I) s₁ → wpAny (model prog w) A (pyIter (.ref I)) Q' E' s₁)
    (turn : ∀ I D i s₁ (E' : Value → Shared → Prop), i < n → J I D i s₁ → wpAny (model prog w) A (pyNext (.ref I)) (fun r s₂ => match r with
      | none => False
      | some v => wpAny (model prog w) A (letOwnedTupleGo target (.ref I) v) (fun _ s₃ => wpAny (model prog w) A (assign target (compEnvC scope cl (D + 1) env) v) (fun _ s₄ =>
          wpAny (model prog w) A (forIn ifs true fun c r => if r = true then do let ok ← isTrue c (compEnvC scope cl (D + 1) env) (eval c (compEnvC scope cl (D + 1) env)); pure (ForInStep.yield ok) else pure (ForInStep.yield r)) (fun ok s₅ =>
            if ok = true then wpAny (model prog w) A (eval elt (compEnvC scope cl (D + 1) env)) (fun x s₆ => wpAny (model prog w) A (call (.builtin "list.append") [.ref D, x]) (fun _ s₇ => J I D (i + 1) s₇) E' s₆) E' s₅
            else J I D (i + 1) s₅) E' s₄) E' s₃) E' s₂) E' s₁)
    (done : ∀ I D s₁ (E' : Value → Shared → Prop), J I D n s₁ → wpAny (model prog w) A (pyNext (.ref I)) (fun r s₂ => r = none ∧ (∃ m, s₂.heap.Ns (D + 1) m) ∧ ∀ h', Heap.SameBut (D + 1) s₂.heap h' → Q (.ref D) { s₂ with heap := h' }) E' s₁)
    (hs : ∀ x, foldedSetIterable iter env x = pure x := by intro _; rfl) :
    wpAny (model prog w) A (eval (.ListComp elt [⟨target, iter, ifs, 0⟩] scope pos) env) Q E s := by
  rw [eval_ListComp]
  refine wpAny_comprehension_free (use := none) rfl hs hclos hkind hnames (wpAny_mono h (fun xv s₁ h₁ => wpAny_mono h₁ (fun it s₂ h₂ => ?_) fun _ _ e => e) fun _ _ e => e)
  obtain ⟨I, rfl, hJ0⟩ := h₂
  refine wpAny_newObj_type (wpAny_newFunctionEnv hcell (by intro y hy; simp at hy) (fun h₁ hns₁ hsb₁ => ?_) hkind)
  dsimp only at hns₁ hsb₁ ⊢
  generalize hH2 : s₂.heap.push { cls := .type "list", dict := none, data := .seq ([] : List Value).toArray } = H2 at hns₁ hsb₁ ⊢
  have hC : H2.objs.size = s₂.heap.objs.size + 1 := by rw [← hH2, Heap.size_push]
  rw [hC] at hns₁ hsb₁ ⊢
  have old : ∀ b o, s₂.heap.get? b = some o → h₁.get? b = some o := fun b o e => hsb₁.extBut b o (Nat.ne_of_lt (Nat.lt_succ_of_lt (Heap.lt_size e))) (Heap.get?_push_of_some _ (hH2 ▸ Heap.get?_push_of_some _ e))
  have hacc : h₁.get? s₂.heap.objs.size = some (listOf #[] 0) := hsb₁.extBut _ _ (Nat.ne_of_lt (Nat.lt_succ_self _)) (Heap.get?_push_of_some _ (hH2 ▸ Heap.get?_push_size _ rfl))
  have hJ : J I s₂.heap.objs.size 0 { s₂ with heap := h₁, toks := s₂.toks + ([] : List (Str × Value)).length } := hJ0 h₁ _ old hacc hns₁
  show codeAny _ _ (.compStart (.ListComp elt [⟨target, iter, ifs, 0⟩] scope pos) 0 (.ref I) (.ref s₂.heap.objs.size) (compEnvC scope cl (s₂.heap.objs.size + 1) env)) _ _
  suffices hloop : ∀ s₃, J I s₂.heap.objs.size 0 s₃ → codeAny (model prog w) A (.compLoop (.ListComp elt [⟨target, iter, ifs, 0⟩] scope pos) 0 (.ref I) (.ref s₂.heap.objs.size) (compEnvC scope cl (s₂.heap.objs.size + 1) env)) (compPost (model prog w) A E none Q (.ref s₂.heap.objs.size) (s₂.heap.objs.size + 1)) s₃ from
    codeAny_compStart_list (hloop _ hJ) (self _ _ _ _ _ hJ (hloop _ hJ))
  intro s₃ hJ₃
  refine codeAny_loop rfl (fun k s' => ∃ i, J I s₂.heap.objs.size i s' ∧ i ≤ n ∧ k = n + 1 - i) ?_ (n + 1) ⟨0, hJ₃, Nat.zero_le _, rfl⟩
  rintro k s' ⟨i, hJi, hi, rfl⟩
  show wpAny _ A ((compTurn (.ListComp elt [⟨target, iter, ifs, 0⟩] scope pos) 0 (.ref I) (.ref s₂.heap.objs.size) (compEnvC scope cl (s₂.heap.objs.size + 1) env)).onRaise (fun x => do noteFrame x (compEnvC scope cl (s₂.heap.objs.size + 1) env); theTreesLotGoes x)) _ _ s'
  refine wpAny_noted ?_
  rw [compTurn_list]
  by_cases hlt : i < n
  · refine wpAny_bind (wpAny_standAt (wpAny_bind (wpAny_mono (turn _ _ i s' _ hlt hJi) (fun r s₃ h₃ => ?_) fun _ _ h' => h')))
    cases r with
    | none => exact h₃.elim
    | some v =>
      refine wpAny_bind (wpAny_mono h₃ (fun _ s₄ h₄ => ?_) fun _ _ h' => h')
      refine wpAny_bind (wpAny_mono h₄ (fun _ s₅ h₅ => wpAny_bind (wpAny_mono h₅ (fun ok s₆ h₆ => ?_) fun _ _ h' => h')) fun _ _ h' => h')
      cases ok with
      | true =>
        simp only [if_true] at h₆ ⊢
        exact wpAny_bind (wpAny_bind (wpAny_mono h₆ (fun x s₇ h₇ => wpAny_bind (wpAny_mono h₇ (fun _ s₈ h₈ => wpAny_pure (wpAny_pure ⟨rfl, n + 1 - (i + 1), by omega, i + 1, h₈, hlt, rfl⟩)) fun _ _ h' => h')) fun _ _ h' => h'))
      | false =>
        simp only [Bool.false_eq_true, if_false] at h₆ ⊢
        exact wpAny_bind (wpAny_pure (wpAny_pure ⟨rfl, n + 1 - (i + 1), by omega, i + 1, h₆, hlt, rfl⟩))
  · have : i = n := by omega
    subst this
    refine wpAny_bind (wpAny_standAt (wpAny_bind (wpAny_mono (done _ _ s' _ hJi) (fun r s₃ h₃ => ?_) fun _ _ h' => h')))
    obtain ⟨rfl, ⟨m, hm⟩, hQ⟩ := h₃
    exact wpAny_pure ⟨m, hm, hQ⟩
end
end Mine
end

/- H1 -/
section
open PySem PySem.W PyProof.Rows PySem.Calls PySem.Spec
set_option maxRecDepth 100000
set_option maxHeartbeats 4000000
namespace Mine
theorem fillH1 (w : World) (h : Heap) : (hd35.heap_39 w.params).In h → model PySem.Challenge.rw_om0035_01.row.prog w = model PySem.Challenge.rw_om0035_01.row.prog w := by
  k_fill
  intro _
  rfl
theorem nsObj_of {h : Heap} {C : Addr} {m : Str → Option Value} (x : h.Ns C m) : ∃ o, h.get? C = some o ∧ LCg.NsObj o m := LCg.ns_obj x
noncomputable def NatInts (ys : List Value) (k : Nat) : Prop := ys.length = k ∧ ∀ v ∈ ys, ∃ d t, v = .int d t
theorem NatInts.peel {ys : List Value} {k : Nat} (h : NatInts ys (k + 1)) : ∃ d t r, ys = .int d t :: r ∧ NatInts r k := by
  obtain ⟨hl, ha⟩ := h
  cases ys with
  | nil => cases hl
  | cons v r =>
    obtain ⟨d, t, rfl⟩ := ha v (.head _)
    exact ⟨d, t, r, rfl, Nat.succ.inj hl, fun v hv => ha v (.tail _ hv)⟩
theorem NatInts.five {ys : List Value} (h : NatInts ys 5) : ∃ d0 d1 d2 d3 d4 t0 t1 t2 t3 t4, ys = [.int d0 t0, .int d1 t1, .int d2 t2, .int d3 t3, .int d4 t4] := by
  obtain ⟨d0, t0, r, e0, h⟩ := h.peel
  obtain ⟨d1, t1, r, e1, h⟩ := h.peel
  obtain ⟨d2, t2, r, e2, h⟩ := h.peel
  obtain ⟨d3, t3, r, e3, h⟩ := h.peel
  obtain ⟨d4, t4, r, e4, h⟩ := h.peel
  exact ⟨d0, d1, d2, d3, d4, t0, t1, t2, t3, t4, by rw [e0, e1, e2, e3, e4, List.eq_nil_of_length_eq_zero h.1]⟩
theorem NatInts.snoc {ys : List Value} {k : Nat} (h : NatInts ys k) {d : Int} (t : Tok) : NatInts (ys ++ [.int d t]) (k + 1) := by
  refine ⟨by simp [h.1], fun v hv => ?_⟩
  rcases List.mem_append.mp hv with hv | hv
  · exact h.2 v hv
  · rw [List.mem_singleton.mp hv]; exact ⟨d, t, rfl⟩
section
local macro_rules | `(tactic| walk_at "exec Return some") => `(tactic| refine Mine.Halt.mk ?_)
namespace draws_c_k
noncomputable def PP (w : World) (p : Program) (loose : List Str) (mean : ExcName → Option Value) (mg : Str → Option Value) (mb : Str → Option Value) (dp : Nat) (un : Nat) (gd : Option (List Code)) (cn : Str) (cs : Scope) (L : Addr) (a : Addr) (ccd : Value) (cl : List (Str × Addr)) (outer : List Env) (A₀ : Around) (base : Heap) (h₀ : Heap) (m : Str → Option Value) (s : Shared) (Q : Value → Shared → Prop) (E : Value → Shared → Prop) (sc : Addr) (vs : List Value) (ns : List Int) : Prop := ∀ (B : Below A₀ base outer h₀) (F : Fr h₀ L s.heap m) (XB : (hd35.heap_39 w.params).In base) (TB : Top p loose mean mg mb base) (D : KtsDicts (frs outer) h₀) (hk : cs.kind = .function) (hS : s.heap.IsList sc vs.toArray) (hI : IntsAre vs ns) (hn : ns.length ≤ 63) (hdp : dp + 3 < recursionLimit) (hu : un + 24 < cLine) (hret : ∀ D n d0 d1 d2 d3 d4 t0 t1 t2 t3 t4 h' tk', (∀ b o, s.heap.get? b = some o → h'.get? b = some o) → h'.get? D = some (listOf #[.int d0 t0, .int d1 t1, .int d2 t2, .int d3 t3, .int d4 t4] n) → s.heap.get? D = none → Q (.ref D) { s with heap := h', toks := tk' }), wpAny (model PySem.Challenge.rw_om0035_01.row.prog w) (MTop none dp un gd cn cs L a ccd cl outer) (call (.ref 90) [.ref sc]) Q E s
noncomputable def QQ (cc : (World) × (Program) × (List Str) × (ExcName → Option Value) × (Str → Option Value) × (Str → Option Value) × (Nat) × (Nat) × (Option (List Code)) × (Str) × (Scope) × (Addr) × (Addr) × (Value) × (List (Str × Addr)) × (List Env) × (Around) × (Heap) × (Heap) × (Str → Option Value) × (Shared) × (Value → Shared → Prop) × (Value → Shared → Prop) × (Addr) × (List Value) × (List Int)) : Prop := PP (cc.1) (cc.2.1) (cc.2.2.1) (cc.2.2.2.1) (cc.2.2.2.2.1) (cc.2.2.2.2.2.1) (cc.2.2.2.2.2.2.1) (cc.2.2.2.2.2.2.2.1) (cc.2.2.2.2.2.2.2.2.1) (cc.2.2.2.2.2.2.2.2.2.1) (cc.2.2.2.2.2.2.2.2.2.2.1) (cc.2.2.2.2.2.2.2.2.2.2.2.1) (cc.2.2.2.2.2.2.2.2.2.2.2.2.1) (cc.2.2.2.2.2.2.2.2.2.2.2.2.2.1) (cc.2.2.2.2.2.2.2.2.2.2.2.2.2.2.1) (cc.2.2.2.2.2.2.2.2.2.2.2.2.2.2.2.1) (cc.2.2.2.2.2.2.2.2.2.2.2.2.2.2.2.2.1) (cc.2.2.2.2.2.2.2.2.2.2.2.2.2.2.2.2.2.1) (cc.2.2.2.2.2.2.2.2.2.2.2.2.2.2.2.2.2.2.1) (cc.2.2.2.2.2.2.2.2.2.2.2.2.2.2.2.2.2.2.2.1) (cc.2.2.2.2.2.2.2.2.2.2.2.2.2.2.2.2.2.2.2.2.1) (cc.2.2.2.2.2.2.2.2.2.2.2.2.2.2.2.2.2.2.2.2.2.1) (cc.2.2.2.2.2.2.2.2.2.2.2.2.2.2.2.2.2.2.2.2.2.2.1) (cc.2.2.2.2.2.2.2.2.2.2.2.2.2.2.2.2.2.2.2.2.2.2.2.1) (cc.2.2.2.2.2.2.2.2.2.2.2.2.2.2.2.2.2.2.2.2.2.2.2.2.1) (cc.2.2.2.2.2.2.2.2.2.2.2.2.2.2.2.2.2.2.2.2.2.2.2.2.2)
@[irreducible] noncomputable def cc : (World) × (Program) × (List Str) × (ExcName → Option Value) × (Str → Option Value) × (Str → Option Value) × (Nat) × (Nat) × (Option (List Code)) × (Str) × (Scope) × (Addr) × (Addr) × (Value) × (List (Str × Addr)) × (List Env) × (Around) × (Heap) × (Heap) × (Str → Option Value) × (Shared) × (Value → Shared → Prop) × (Value → Shared → Prop) × (Addr) × (List Value) × (List Int) := eps (by (repeat' first | exact neW | exact neA | exact neS | refine neP ?_ ?_ | infer_instance)) QQ
@[irreducible] noncomputable def w : World := cc.1
@[irreducible] noncomputable def dp : Nat := cc.2.2.2.2.2.2.1
@[irreducible] noncomputable def un : Nat := cc.2.2.2.2.2.2.2.1
@[irreducible] noncomputable def gd : Option (List Code) := cc.2.2.2.2.2.2.2.2.1
@[irreducible] noncomputable def cn : Str := cc.2.2.2.2.2.2.2.2.2.1
@[irreducible] noncomputable def cs : Scope := cc.2.2.2.2.2.2.2.2.2.2.1
@[irreducible] noncomputable def L : Addr := cc.2.2.2.2.2.2.2.2.2.2.2.1
@[irreducible] noncomputable def a : Addr := cc.2.2.2.2.2.2.2.2.2.2.2.2.1
@[irreducible] noncomputable def ccd : Value := cc.2.2.2.2.2.2.2.2.2.2.2.2.2.1
@[irreducible] noncomputable def cl : List (Str × Addr) := cc.2.2.2.2.2.2.2.2.2.2.2.2.2.2.1
@[irreducible] noncomputable def outer : List Env := cc.2.2.2.2.2.2.2.2.2.2.2.2.2.2.2.1
@[irreducible] noncomputable def h₀ : Heap := cc.2.2.2.2.2.2.2.2.2.2.2.2.2.2.2.2.2.2.1
@[irreducible] noncomputable def s : Shared := cc.2.2.2.2.2.2.2.2.2.2.2.2.2.2.2.2.2.2.2.2.1
@[irreducible] noncomputable def sc : Addr := cc.2.2.2.2.2.2.2.2.2.2.2.2.2.2.2.2.2.2.2.2.2.2.2.1
@[irreducible] noncomputable def vs : List Value := cc.2.2.2.2.2.2.2.2.2.2.2.2.2.2.2.2.2.2.2.2.2.2.2.2.1
noncomputable def stg : PSigma fun R : (List (Addr × Obj)) → (Heap) → (Addr) → (Heap) → (Nat) → Prop => (∀ cells g L' h₁ tk₁, R cells g L' h₁ tk₁) → PP w (cc.2.1) (cc.2.2.1) (cc.2.2.2.1) (cc.2.2.2.2.1) (cc.2.2.2.2.2.1) dp un gd cn cs L a ccd cl outer (cc.2.2.2.2.2.2.2.2.2.2.2.2.2.2.2.2.1) (cc.2.2.2.2.2.2.2.2.2.2.2.2.2.2.2.2.2.1) h₀ (cc.2.2.2.2.2.2.2.2.2.2.2.2.2.2.2.2.2.2.2.1) s (cc.2.2.2.2.2.2.2.2.2.2.2.2.2.2.2.2.2.2.2.2.2.1) (cc.2.2.2.2.2.2.2.2.2.2.2.2.2.2.2.2.2.2.2.2.2.2.1) sc vs (cc.2.2.2.2.2.2.2.2.2.2.2.2.2.2.2.2.2.2.2.2.2.2.2.2.2) := by
  refine' PSigma.mk _ (fun hR => ?_)
  rotate_left
  unfold PP
  intro B F XB TB D hk hS hI hn hdp hu hret
  w_on
  have N : News h₀ L s.heap [] := news_nil
  refine wpAny_call ?_
  have X₀ : (hd35.heap_39 w.params).In h₀ := XB.keeps B.stays
  k_dflt (refine' enterC B F XB TB D N rfl rfl hk ?k6 ?k7 ?k8 ?k9 ?kB ?kD ?_ ?c2 ?c3 ?c4; (case k6 => k_is); (case k7 => k_is); (case k8 => ktr_room); (case k9 => exact BindsTo.of_eq rfl); (case kB => exact rfl); (case kD => decide +kernel); (case c2 => exact rfl); (case c3 => exact rfl); (case c4 => exact rfl))
  intro g L' h₁ tk₁ cells
  revert B F XB TB D hk hS hI hn hdp hu hret N X₀
  exact hR cells g L' h₁ tk₁
noncomputable def Q2 (cd : (Heap) × (Addr) × (Heap) × (Nat)) : Prop := ∀ (cells : List (Addr × Obj)), stg.1 cells (cd.1) (cd.2.1) (cd.2.2.1) (cd.2.2.2)
@[irreducible] noncomputable def cd : (Heap) × (Addr) × (Heap) × (Nat) := eps (by (repeat' first | exact neW | exact neA | exact neS | refine neP ?_ ?_ | infer_instance)) Q2
@[irreducible] noncomputable def g : Heap := cd.1
@[irreducible] noncomputable def L' : Addr := cd.2.1
@[irreducible] noncomputable def h₁ : Heap := cd.2.2.1
@[irreducible] noncomputable def tk₁ : Nat := cd.2.2.2
theorem walk2 : ∀ (cells : List (Addr × Obj)), stg.1 cells g L' h₁ tk₁ := by
  intro cells B F XB TB D hk hS hI hn hdp hu hret N X₀ F' N' Y' B' X' T' GS D' l1 hnew hcn
  k_cells Y'
  simp only [List.cons_append, List.nil_append] at N'
  have hSg : g.IsList sc vs.toArray := by
    obtain ⟨o, ho, r⟩ := hS
    exact ⟨o, GS _ _ ho (fun q => nomatch q), r⟩
  clear hS N
  k_steps
  refine Halt.out (wpAny_Return_some ?_)
  rename_i Dn _ _ lDn h3 oc F3 N3 hdc
  have hL3 : L' < h3.objs.size := F3.ns.lt
  have aDn : @LT.lt Nat _ Dn h3.objs.size := Heap.lt_size (N3 _ (.head _)).1
  have aC : @LT.lt Nat _ (L' + 1) h3.objs.size := Heap.lt_size (N3 _ (.tail _ (.tail _ (.head _)))).1
  have fresh : ∀ b : Addr, L' < b → g.get? b = none := fun b hb => Heap.get?_none_of_le (Nat.le_trans F3.above (Nat.le_of_lt hb))
  obtain ⟨m₀, F4⟩ : ∃ m₀, Fr g L' h3 m₀ := ⟨_, F3⟩
  clear F3
  k_dflt (refine Comp_any (n := 5) (cl := [(Str.ofString "numbers", L' + 1)]) (fun I D i s' => Held (Pk11 fun h tk oe oi oC mC ys2 n2 st it l => Al9 (s' = { s with heap := h, toks := tk }) (Fr g L' h m₀) (News g L' h [(I, oe), (it, oi), (D + 1, oC), (D, listOf (List.toArray ys2) n2), (l, listOf (List.toArray st) 0), (Dn, LCg.lst ys), (L' + 1, oc)]) (EnumO it i oe) (LIterO l i oi) (LCg.NsObj oC mC) (IntsAre st [7356706, 0, 5, 4, 8]) (NatInts ys2 i) ((@LT.lt Nat _ (L' + 1) l ∧ @LT.lt Nat _ Dn l ∧ @LT.lt Nat _ l it ∧ @LT.lt Nat _ it I ∧ @LT.lt Nat _ I D)))) rfl (by decide) rfl (by decide) ?_ ?_ ?_ ?_)
  · k_steps
    refine Halt.out ?_
    rename_i l h5 F5 N5 l5
    obtain ⟨st, N6, hst⟩ : Pk1 fun st => Al2 (News g L' h5 [(l, listOf (List.toArray st) 0), (Dn, LCg.lst ys), (L' + 1, oc)]) (IntsAre st [7356706, 0, 5, 4, 8]) := ⟨_, news_cons N5 (.head _) (news_cons N5 (by k_mem) (news_cons N5 (by k_mem) news_nil)), .cons _ _ (.cons _ _ (.cons _ _ (.cons _ _ (.cons _ _ .nil))))⟩
    k_dflt (refine call_enumerate_list (PySem.IsL.isList (n := 0) (N6 _ (.head _)).1) fun h6 hE6 hI6 hsz6 hk6 => ?_)
    k_dflt (refine wpAny_pyIter_enum hE6 ⟨_, rfl, fun h7 tk7 hk7 hD7 hC7 => ?_⟩)
    obtain ⟨oi, hoi, hic, hid⟩ := hI6
    obtain ⟨oC, hoC, hnC⟩ := nsObj_of hC7
    have al : @LT.lt Nat _ l h5.objs.size := Heap.lt_size (N6 _ (.head _)).1
    have hL5 : L' < h5.objs.size := F5.ns.lt
    have hsz6' : h6.objs.size = h5.objs.size + 2 := hsz6
    have F7 := fr_keep (fr_keep F5 hk6) hk7
    have fr5 : ∀ b : Addr, h5.objs.size ≤ b → b ≠ L' ∧ g.get? b = none := fun b hb => ⟨Nat.ne_of_gt (Nat.lt_of_lt_of_le hL5 hb), fresh _ (Nat.lt_of_lt_of_le hL5 hb)⟩
    refine Held.mk ⟨h7, tk7, _, oi, oC, _, [], 0, st, h5.objs.size, l, rfl, F7, ?_, ⟨.none, rfl⟩, ⟨hic, hid⟩, hnC, hst, ⟨rfl, fun v hv => nomatch hv⟩, l5.2.2, l5.1, al, Nat.lt_succ_self _, ?_⟩
    · intro q hq
      rcases List.mem_cons.mp hq with rfl | hq
      · exact ⟨hk7 _ _ hE6, fr5 _ (Nat.le_succ _)⟩
      rcases List.mem_cons.mp hq with rfl | hq
      · exact ⟨hk7 _ _ hoi, fr5 _ (Nat.le_refl _)⟩
      rcases List.mem_cons.mp hq with rfl | hq
      · exact ⟨hoC, fr5 _ (by show h5.objs.size ≤ h6.objs.size + 1; omega)⟩
      rcases List.mem_cons.mp hq with rfl | hq
      · exact ⟨hD7, fr5 _ (by show h5.objs.size ≤ h6.objs.size; omega)⟩
      · exact news_keep (news_keep N6 hk6) hk7 q hq
    · show h5.objs.size + 1 < h6.objs.size
      omega
  · rintro I D s₁ Q' E' ⟨h, tk, oe, oi, oC, mC, ys2, n2, st, it, l, rfl, F₁, N₁, ⟨old, rfl⟩, _⟩ hQ
    exact wpAny_pyIter_enum (N₁ _ (.head _)).1 hQ
  · rintro I D i s₁ E' hi ⟨h, tk, oe, oi, oC, mC, ys2, n2, st, it, l, rfl, F₁, N₁, hoe, hoi, hnC, hst, hys, o1, o2, o3, o4, o5⟩
    have hsl : st.length = 5 := ints_len hst
    have W := WalksT.enumerate (prog := PySem.Challenge.rw_om0035_01.row.prog) (w := w) (A := (MTop none dp un gd cn cs L a ccd cl outer).deeper (envOfC (Str.ofString "_law_draws") { kind := .function, names := [(Str.ofString "script", .local), (Str.ofString "numbers", .cell), (Str.ofString "enumerate", .globalImplicit)], isGenerator := false, isCoroutine := false, more := [(Str.ofString "fast", .str (Str.ofString "script")), (Str.ofString "fast", .str (Str.ofString "x")), (Str.ofString "fast", .str (Str.ofString "numbers")), (Str.ofString "fast", .str (Str.ofString "k")), (Str.ofString "fast", .str (Str.ofString "start"))] } L' 90 (.ref 89))) rfl I it l (Nat.ne_of_gt o4) (Nat.ne_of_lt (Nat.lt_trans o3 o4)) (Nat.ne_of_lt o3) st.toArray
    obtain ⟨old, rfl⟩ := hoe
    k_dflt (refine W.item i _ _ _ (by rw [List.size_toArray]; omega) ⟨⟨old, (N₁ _ (.head _)).1⟩, ⟨oi, (N₁ _ (.tail _ (.head _))).1, hoi⟩, PySem.IsL.isList (n := 0) (N₁ _ (.tail _ (.tail _ (.tail _ (.tail _ (.head _)))))).1⟩ fun T vals h₁ tk₁ hPt hTsz hT hMid hk₁ => ?_)
    obtain ⟨t, x, hx, rfl⟩ := hPt
    dsimp only
    have hx' : st[i]? = some x := by simpa using hx
    obtain ⟨tx, htx⟩ := ints_at hst (j := i) (by simpa using hi)
    obtain rfl : x = .int (([7356706, 0, 5, 4, 8] : List Int).getD i 0) tx := Option.some.inj (hx'.symm.trans htx)
    k_dflt (refine W.go _ _ _ i T _ _ _ hMid fun h₂ hst₂ hk₂ => ?_)
    have ht₂ : h₂.IsTuple T #[.int i t, .int (([7356706, 0, 5, 4, 8] : List Int).getD i 0) tx] := hT.at fun o e => hk₂ T o (W.apart i T h₁ hMid) e
    have up₂ : ∀ b o, b ∉ ([I, it] : List Addr) → h.get? b = some o → h₂.get? b = some o := fun b o hb e => hk₂ b o hb (hk₁ b o hb e)
    have nmem : ∀ b : Addr, @Ne Nat b I → @Ne Nat b it → b ∉ ([I, it] : List Addr) := fun b h1 h2 hm => by
      rcases List.mem_cons.mp hm with z | hm
      · exact h1 z
      · exact h2 (List.mem_singleton.mp hm)
    have hn₂ : h₂.Ns (D + 1) mC := by
      obtain ⟨es, ep, hd, r⟩ := hnC
      exact ⟨oC, es, ep, up₂ _ _ (nmem _ (Nat.ne_of_gt (Nat.lt_succ_of_lt o5)) (Nat.ne_of_gt (Nat.lt_succ_of_lt (Nat.lt_trans o4 o5)))) (N₁ _ (.tail _ (.tail _ (.head _)))).1, hd, r⟩
    k_dflt (refine kcp_assign rfl ht₂ rfl rfl rfl hn₂ fun h₃ tk₃ hn₃ hk₃ => ?_)
    refine wpAny_tests_nil ?_
    simp only [if_true]
    have up₃ : ∀ b o, @Ne Nat b I → @Ne Nat b it → @Ne Nat b (D + 1) → h.get? b = some o → h₃.get? b = some o := fun b o h1 h2 h3 e => hk₃ b o h3 (up₂ b o (nmem b h1 h2) e)
    have aL' : @LT.lt Nat _ L' (L' + 1) := Nat.lt_succ_self _
    have hgl : ∀ b o, g.get? b = some o → @LT.lt Nat _ b (L' + 1) := fun b o e => Nat.lt_succ_of_lt (Nat.lt_of_lt_of_le (Heap.lt_size e) F₁.above)
    have F₃ : Fr g L' h₃ m₀ := by
      obtain ⟨oL, a1, a2, hoL, a3⟩ := F₁.ns
      exact ⟨⟨oL, a1, a2, up₃ _ _ (by omega) (by omega) (by omega) hoL, a3⟩, fun b o e => by
        have := hgl b o e
        exact up₃ b o (by omega) (by omega) (by omega) (F₁.keep b o e), F₁.above⟩
    obtain ⟨⟨old', hE'⟩, ⟨oi', hoi', hio'⟩, _⟩ := hst₂
    obtain ⟨oC', hoC', hnC'⟩ := nsObj_of hn₃
    obtain ⟨mC', hnC'', hmk, hms⟩ : Pk1 fun mC' => Al3 (LCg.NsObj oC' mC') (mC' (Str.ofString "k") = some (.int i t)) (mC' (Str.ofString "start") = some (.int (([7356706, 0, 5, 4, 8] : List Int).getD i 0) tx)) := ⟨_, hnC', (if_neg (by decide)).trans (if_pos rfl), if_pos rfl⟩
    have N₃ : News g L' h₃ [(I, { cls := .type "enumerate", dict := none, data := .fields #[.none, .bool false, .ref it, rawInt ((i + 1 : Nat) : Int), .none, old'], slots := #[] }), (it, oi'), (D + 1, oC'), (D, listOf (List.toArray ys2) n2), (l, listOf (List.toArray st) 0), (Dn, LCg.lst ys), (L' + 1, oc)] := by
      intro q hq
      rcases List.mem_cons.mp hq with rfl | hq
      · exact ⟨hk₃ _ _ (Nat.ne_of_lt (Nat.lt_succ_of_lt o5)) hE', (N₁ _ (.head _)).2⟩
      rcases List.mem_cons.mp hq with rfl | hq
      · exact ⟨hk₃ _ _ (Nat.ne_of_lt (Nat.lt_succ_of_lt (Nat.lt_trans o4 o5))) hoi', (N₁ _ (.tail _ (.head _))).2⟩
      rcases List.mem_cons.mp hq with rfl | hq
      · exact ⟨hoC', (N₁ _ (.tail _ (.tail _ (.head _)))).2⟩
      · have z := N₁ q (.tail _ (.tail _ (.tail _ hq)))
        refine ⟨up₃ _ _ ?_ ?_ ?_ z.1, z.2⟩ <;> (refine all4 (P := fun q : Addr × Obj => @Ne Nat q.1 _) ?_ ?_ ?_ ?_ q hq <;> (try dsimp only) <;> omega)
    have hi5 : (0 : Int) ≤ (i : Int) ∧ (i : Int) < 5 := by omega
    clear F₁ N₁ up₃ up₂ hk₃ hn₃ hk₂ hk₁ hMid hnC' hnC hE' hoi' hoi hn₂
    k_steps
    rename_i h9 F9 N9
    k_dflt (refine LSm.sum_ints F9 N9 rfl ⟨_, (N9 _ (.head _)).1, rfl, 0, by rw [Array.toArray_toList]⟩ (IntsAre.pick (by assumption) (some (i : Int)) none (some 5)) ?_)
    intro h10 tk10 t10 F10 N10
    clear N9 F9
    have aD : @LT.lt Nat _ D h₃.objs.size := Heap.lt_size (N₃ _ (.tail _ (.tail _ (.tail _ (.head _))))).1
    have hyl := hys.1
    k_steps
    refine Halt.out ?_
    k_dflt (refine append_K (by k_asm) (by k_asm) (by k_upd) ?_ (by rw [List.size_toArray, sizeLine_eq]; omega))
    intro h11 F11 N11
    rw [List.push_toArray] at N11
    exact Held.mk ⟨h11, _, _, oi', oC', mC', ys2 ++ [_], n2 + 1, st, it, l, rfl, F11, fun q hq => N11 q (.tail _ hq), ⟨old', rfl⟩, hio', hnC'', hst, hys.snoc _, o1, o2, o3, o4, o5⟩
  · rintro I D s₁ E' ⟨h, tk, oe, oi, oC, mC, ys2, n2, st, it, l, rfl, F₁, N₁, hoe, hoi, hnC, hst, hys, o1, o2, o3, o4, o5⟩
    have hsl : st.length = 5 := ints_len hst
    have W := WalksT.enumerate (prog := PySem.Challenge.rw_om0035_01.row.prog) (w := w) (A := (MTop none dp un gd cn cs L a ccd cl outer).deeper (envOfC (Str.ofString "_law_draws") { kind := .function, names := [(Str.ofString "script", .local), (Str.ofString "numbers", .cell), (Str.ofString "enumerate", .globalImplicit)], isGenerator := false, isCoroutine := false, more := [(Str.ofString "fast", .str (Str.ofString "script")), (Str.ofString "fast", .str (Str.ofString "x")), (Str.ofString "fast", .str (Str.ofString "numbers")), (Str.ofString "fast", .str (Str.ofString "k")), (Str.ofString "fast", .str (Str.ofString "start"))] } L' 90 (.ref 89))) rfl I it l (Nat.ne_of_gt o4) (Nat.ne_of_lt (Nat.lt_trans o3 o4)) (Nat.ne_of_lt o3) st.toArray
    obtain ⟨old, rfl⟩ := hoe
    have hs5 : st.toArray.size = 5 := by rw [List.size_toArray]; exact hsl
    rw [hs5] at W
    k_dflt (refine W.done _ _ _ ⟨⟨old, (N₁ _ (.head _)).1⟩, ⟨oi, (N₁ _ (.tail _ (.head _))).1, hoi⟩, PySem.IsL.isList (n := 0) (N₁ _ (.tail _ (.tail _ (.tail _ (.tail _ (.head _)))))).1⟩ fun h₁ tk₁ hk₁ => ⟨rfl, ?_, ?_⟩)
    · obtain ⟨es, ep, hd, r⟩ := hnC
      refine ⟨mC, oC, es, ep, hk₁ _ _ ?_ (N₁ _ (.tail _ (.tail _ (.head _)))).1, hd, r⟩
      intro hm
      have hm' : @Eq Nat (D + 1) I ∨ @Eq Nat (D + 1) it := by simpa using hm
      omega
    · intro h₂ hsb
      have hD : h.get? D = some (listOf (List.toArray ys2) n2) := (N₁ _ (.tail _ (.tail _ (.tail _ (.head _))))).1
      have up : ∀ b o, @Ne Nat b I → @Ne Nat b it → @Ne Nat b (D + 1) → h.get? b = some o → h₂.get? b = some o := fun b o h1 h2 h3 e => (hsb.2 b h3).trans (hk₁ b o (fun hm => by
        have hm' : @Eq Nat b I ∨ @Eq Nat b it := by simpa using hm
        omega) e)
      have hgl : ∀ b o, g.get? b = some o → @LT.lt Nat _ b (L' + 1) := fun b o e => Nat.lt_succ_of_lt (Nat.lt_of_lt_of_le (Heap.lt_size e) F₁.above)
      obtain ⟨d0, d1, d2, d3, d4, t0, t1, t2, t3, t4, rfl⟩ : ∃ d0 d1 d2 d3 d4 t0 t1 t2 t3 t4, ys2 = [.int d0 t0, .int d1 t1, .int d2 t2, .int d3 t3, .int d4 t4] := by
        exact hys.five
      refine hret D n2 d0 d1 d2 d3 d4 t0 t1 t2 t3 t4 _ _ (fun b o e => ?_) (up _ _ (by omega) (by omega) (by omega) hD) ?_
      · have hb := hgl b o (GS _ _ e (fun q => nomatch q))
        exact up b o (by omega) (by omega) (by omega) (F₁.keep _ _ (GS _ _ e (fun q => nomatch q)))
      · cases hq : s.heap.get? D with
        | none => rfl
        | some o =>
          have hb := hgl D o (GS _ _ hq (fun q => nomatch q))
          omega
theorem q2 : Q2 cd := by
  have h := walk2
  unfold g L' h₁ tk₁ at h
  exact h
theorem all2 : ∀ x, Q2 x := by
  have h := q2
  unfold cd at h
  exact eps_all h
theorem walk : PP w (cc.2.1) (cc.2.2.1) (cc.2.2.2.1) (cc.2.2.2.2.1) (cc.2.2.2.2.2.1) dp un gd cn cs L a ccd cl outer (cc.2.2.2.2.2.2.2.2.2.2.2.2.2.2.2.2.1) (cc.2.2.2.2.2.2.2.2.2.2.2.2.2.2.2.2.2.1) h₀ (cc.2.2.2.2.2.2.2.2.2.2.2.2.2.2.2.2.2.2.2.1) s (cc.2.2.2.2.2.2.2.2.2.2.2.2.2.2.2.2.2.2.2.2.2.1) (cc.2.2.2.2.2.2.2.2.2.2.2.2.2.2.2.2.2.2.2.2.2.2.1) sc vs (cc.2.2.2.2.2.2.2.2.2.2.2.2.2.2.2.2.2.2.2.2.2.2.2.2.2) := stg.2 fun cells g L' h₁ tk₁ => all2 (g, L', h₁, tk₁) cells
theorem q : QQ cc := by
  have h := walk
  unfold w dp un gd cn cs L a ccd cl outer h₀ s sc vs at h
  exact h
theorem all : ∀ x, QQ x := by
  have h := q
  unfold cc at h
  exact eps_all h
end draws_c_k
theorem draws_c {w : World} {p : Program} {loose : List Str} {mean : ExcName → Option Value} {mg : Str → Option Value} {mb : Str → Option Value} {dp : Nat} {un : Nat} {gd : Option (List Code)} {cn : Str} {cs : Scope} {L : Addr} {a : Addr} {ccd : Value} {cl : List (Str × Addr)} {outer : List Env} {A₀ : Around} {base : Heap} {h₀ : Heap} {m : Str → Option Value} {s : Shared} {Q : Value → Shared → Prop} {E : Value → Shared → Prop} {sc : Addr} {vs : List Value} {ns : List Int} (B : Below A₀ base outer h₀) (F : Fr h₀ L s.heap m) (XB : (hd35.heap_39 w.params).In base) (TB : Top p loose mean mg mb base) (D : KtsDicts (frs outer) h₀) (hk : cs.kind = .function) (hS : s.heap.IsList sc vs.toArray) (hI : IntsAre vs ns) (hn : ns.length ≤ 63) (hdp : dp + 3 < recursionLimit) (hu : un + 24 < cLine) (hret : ∀ D n d0 d1 d2 d3 d4 t0 t1 t2 t3 t4 h' tk', (∀ b o, s.heap.get? b = some o → h'.get? b = some o) → h'.get? D = some (listOf #[.int d0 t0, .int d1 t1, .int d2 t2, .int d3 t3, .int d4 t4] n) → s.heap.get? D = none → Q (.ref D) { s with heap := h', toks := tk' }) : wpAny (model PySem.Challenge.rw_om0035_01.row.prog w) (MTop none dp un gd cn cs L a ccd cl outer) (call (.ref 90) [.ref sc]) Q E s :=
  draws_c_k.all (w, p, loose, mean, mg, mb, dp, un, gd, cn, cs, L, a, ccd, cl, outer, A₀, base, h₀, m, s, Q, E, sc, vs, ns) B F XB TB D hk hS hI hn hdp hu hret
end
end Mine
end

/- H2 -/
section
open PySem PySem.W PyProof.Rows PySem.Calls PySem.Spec
set_option maxRecDepth 100000
set_option maxHeartbeats 4000000
namespace Mine
local macro_rules | `(tactic| walk_at "no such key") => `(tactic| fail "no")
theorem fillH2 (w : World) (h : Heap) : (hd35.heap_39 w.params).In h → model PySem.Challenge.rw_om0035_01.row.prog w = model PySem.Challenge.rw_om0035_01.row.prog w := by
  k_fill
  intro _
  rfl
noncomputable def SignsK (ys : List Value) (k : Nat) : Prop := ys.length = k ∧ ∀ v ∈ ys, ∃ c t, v = .str ⟨#[c]⟩ t ∧ (c = 97 ∨ c = 98 ∨ c = 46)
theorem SignsK.snoc {ys : List Value} {k : Nat} (h : SignsK ys k) {c : Nat} (t : Tok) (hc : c = 97 ∨ c = 98 ∨ c = 46) : SignsK (ys ++ [.str ⟨#[c]⟩ t]) (k + 1) := by
  refine ⟨by simp [h.1], fun v hv => ?_⟩
  rcases List.mem_append.mp hv with hv | hv
  · exact h.2 v hv
  · rw [List.mem_singleton.mp hv]; exact ⟨c, t, rfl, hc⟩
theorem item_signs (j : Int) (h0 : 0 ≤ j) (h1 : j < 8) : ∃ c, Txt.item (Str.ofString "abababa.") j = ⟨#[c]⟩ ∧ (c = 97 ∨ c = 98 ∨ c = 46) := by
  have hc : j = 0 ∨ j = 1 ∨ j = 2 ∨ j = 3 ∨ j = 4 ∨ j = 5 ∨ j = 6 ∨ j = 7 := by omega
  rcases hc with rfl | rfl | rfl | rfl | rfl | rfl | rfl | rfl
  · exact ⟨97, by decide +kernel, by decide⟩
  · exact ⟨98, by decide +kernel, by decide⟩
  · exact ⟨97, by decide +kernel, by decide⟩
  · exact ⟨98, by decide +kernel, by decide⟩
  · exact ⟨97, by decide +kernel, by decide⟩
  · exact ⟨98, by decide +kernel, by decide⟩
  · exact ⟨97, by decide +kernel, by decide⟩
  · exact ⟨46, by decide +kernel, by decide⟩
theorem fold_cps (e : Array Nat) (he : e = #[]) : ∀ (r : List Str) (a : Array Nat), (r.foldl (fun acc p => acc ++ e ++ p.cps) a).toList = a.toList ++ r.flatMap (·.cps.toList)
  | [], a => by simp
  | p :: r, a => by
    rw [List.foldl_cons, fold_cps e he r]
    subst he
    simp
theorem join_cps (ys : List Str) : (Txt.join (Str.ofString "") ys).cps.toList = ys.flatMap (·.cps.toList) := by
  unfold Txt.join Builtin.Str.glued
  cases ys with
  | nil => rfl
  | cons y r =>
    have he : (Str.ofString "").cps = #[] := by decide +kernel
    show (List.foldl (fun acc p => acc ++ (Str.ofString "").cps ++ p.cps) y.cps r).toList = _
    rw [fold_cps _ he]
    rfl
theorem signs_strs : ∀ {ys : List Value}, (∀ v ∈ ys, ∃ c t, v = .str ⟨#[c]⟩ t ∧ (c = 97 ∨ c = 98 ∨ c = 46)) →
    ∃ xs : List Str, StrsAre ys xs ∧ xs.length = ys.length ∧ (xs.map (·.length)).sum = ys.length ∧ (xs.flatMap (·.cps.toList)).length = ys.length ∧ ∀ c ∈ xs.flatMap (·.cps.toList), c = 97 ∨ c = 98 ∨ c = 46
  | [], _ => ⟨[], .nil, rfl, rfl, rfl, fun c hc => nomatch hc⟩
  | v :: ys, h => by
    obtain ⟨xs, h1, h2, h3, h4, h5⟩ := signs_strs (ys := ys) (fun v hv => h v (.tail _ hv))
    obtain ⟨c, t, rfl, hc⟩ := h v (.head _)
    refine ⟨⟨#[c]⟩ :: xs, .cons _ _ h1, by simp [h2], ?_, ?_, ?_⟩
    · rw [List.map_cons, List.sum_cons, h3]; show 1 + ys.length = ys.length + 1; omega
    · rw [List.flatMap_cons, List.length_append, h4]; show 1 + ys.length = ys.length + 1; omega
    · intro d hd
      rw [List.flatMap_cons] at hd
      rcases List.mem_append.mp hd with hd | hd
      · have : d = c := by simpa using hd
        rw [this]; exact hc
      · exact h5 d hd
theorem small0 {n : Int} (h0 : 0 ≤ n) (h1 : n ≤ 1000) : Builtin.Range.small 0 n 1 = true := by
  have e : ∀ i : Int, -(2 ^ 20) ≤ i → i ≤ 2 ^ 20 → Builtin.Range.rangeFitsLong i = true := by
    intro i h h'
    unfold Builtin.Range.rangeFitsLong
    simp only [Bool.and_eq_true, decide_eq_true_eq]
    omega
  have hs : Builtin.Range.rangeSize 0 n 1 = n := by rw [rangeSize_one]; split <;> omega
  unfold Builtin.Range.small
  rw [hs, if_pos (by decide), show n + (1 - 1) = n by omega]
  simp only [e 0 (by omega) (by omega), e 1 (by omega) (by omega), e n (by omega) (by omega), Bool.and_self, Bool.or_true]
section
local macro_rules | `(tactic| walk_at "eval ListComp") => `(tactic| refine Mine.Halt.mk ?_)
namespace text_c_k
noncomputable def PP (w : World) (p : Program) (loose : List Str) (mean : ExcName → Option Value) (mg : Str → Option Value) (mb : Str → Option Value) (dp : Nat) (un : Nat) (gd : Option (List Code)) (cn : Str) (cs : Scope) (L : Addr) (a : Addr) (ccd : Value) (cl : List (Str × Addr)) (outer : List Env) (A₀ : Around) (base : Heap) (h₀ : Heap) (m : Str → Option Value) (s : Shared) (Q : Value → Shared → Prop) (E : Value → Shared → Prop) (v : Int) (tv : Tok) : Prop := ∀ (B : Below A₀ base outer h₀) (F : Fr h₀ L s.heap m) (XB : (hd35.heap_39 w.params).In base) (TB : Top p loose mean mg mb base) (D : KtsDicts (frs outer) h₀) (hk : cs.kind = .function) (hdp : dp + 3 < recursionLimit) (hu : un + 24 < cLine) (hret : ∀ (text : Str) t h' tk', (∀ b o, s.heap.get? b = some o → h'.get? b = some o) → text.length ≤ 9 → text.cps.all (· < 128) = true → 10 ∉ text.cps.toList → Q (.str text t) { s with heap := h', toks := tk' }), wpAny (model PySem.Challenge.rw_om0035_01.row.prog w) (MTop none dp un gd cn cs L a ccd cl outer) (call (.ref 95) [.int v tv]) Q E s
noncomputable def QQ (cc : (World) × (Program) × (List Str) × (ExcName → Option Value) × (Str → Option Value) × (Str → Option Value) × (Nat) × (Nat) × (Option (List Code)) × (Str) × (Scope) × (Addr) × (Addr) × (Value) × (List (Str × Addr)) × (List Env) × (Around) × (Heap) × (Heap) × (Str → Option Value) × (Shared) × (Value → Shared → Prop) × (Value → Shared → Prop) × (Int) × (Tok)) : Prop := PP (cc.1) (cc.2.1) (cc.2.2.1) (cc.2.2.2.1) (cc.2.2.2.2.1) (cc.2.2.2.2.2.1) (cc.2.2.2.2.2.2.1) (cc.2.2.2.2.2.2.2.1) (cc.2.2.2.2.2.2.2.2.1) (cc.2.2.2.2.2.2.2.2.2.1) (cc.2.2.2.2.2.2.2.2.2.2.1) (cc.2.2.2.2.2.2.2.2.2.2.2.1) (cc.2.2.2.2.2.2.2.2.2.2.2.2.1) (cc.2.2.2.2.2.2.2.2.2.2.2.2.2.1) (cc.2.2.2.2.2.2.2.2.2.2.2.2.2.2.1) (cc.2.2.2.2.2.2.2.2.2.2.2.2.2.2.2.1) (cc.2.2.2.2.2.2.2.2.2.2.2.2.2.2.2.2.1) (cc.2.2.2.2.2.2.2.2.2.2.2.2.2.2.2.2.2.1) (cc.2.2.2.2.2.2.2.2.2.2.2.2.2.2.2.2.2.2.1) (cc.2.2.2.2.2.2.2.2.2.2.2.2.2.2.2.2.2.2.2.1) (cc.2.2.2.2.2.2.2.2.2.2.2.2.2.2.2.2.2.2.2.2.1) (cc.2.2.2.2.2.2.2.2.2.2.2.2.2.2.2.2.2.2.2.2.2.1) (cc.2.2.2.2.2.2.2.2.2.2.2.2.2.2.2.2.2.2.2.2.2.2.1) (cc.2.2.2.2.2.2.2.2.2.2.2.2.2.2.2.2.2.2.2.2.2.2.2.1) (cc.2.2.2.2.2.2.2.2.2.2.2.2.2.2.2.2.2.2.2.2.2.2.2.2)
@[irreducible] noncomputable def cc : (World) × (Program) × (List Str) × (ExcName → Option Value) × (Str → Option Value) × (Str → Option Value) × (Nat) × (Nat) × (Option (List Code)) × (Str) × (Scope) × (Addr) × (Addr) × (Value) × (List (Str × Addr)) × (List Env) × (Around) × (Heap) × (Heap) × (Str → Option Value) × (Shared) × (Value → Shared → Prop) × (Value → Shared → Prop) × (Int) × (Tok) := eps (by (repeat' first | exact neW | exact neA | exact neS | refine neP ?_ ?_ | infer_instance)) QQ
@[irreducible] noncomputable def w : World := cc.1
@[irreducible] noncomputable def dp : Nat := cc.2.2.2.2.2.2.1
@[irreducible] noncomputable def un : Nat := cc.2.2.2.2.2.2.2.1
@[irreducible] noncomputable def gd : Option (List Code) := cc.2.2.2.2.2.2.2.2.1
@[irreducible] noncomputable def cn : Str := cc.2.2.2.2.2.2.2.2.2.1
@[irreducible] noncomputable def cs : Scope := cc.2.2.2.2.2.2.2.2.2.2.1
@[irreducible] noncomputable def L : Addr := cc.2.2.2.2.2.2.2.2.2.2.2.1
@[irreducible] noncomputable def a : Addr := cc.2.2.2.2.2.2.2.2.2.2.2.2.1
@[irreducible] noncomputable def ccd : Value := cc.2.2.2.2.2.2.2.2.2.2.2.2.2.1
@[irreducible] noncomputable def cl : List (Str × Addr) := cc.2.2.2.2.2.2.2.2.2.2.2.2.2.2.1
@[irreducible] noncomputable def outer : List Env := cc.2.2.2.2.2.2.2.2.2.2.2.2.2.2.2.1
@[irreducible] noncomputable def h₀ : Heap := cc.2.2.2.2.2.2.2.2.2.2.2.2.2.2.2.2.2.2.1
@[irreducible] noncomputable def s : Shared := cc.2.2.2.2.2.2.2.2.2.2.2.2.2.2.2.2.2.2.2.2.1
@[irreducible] noncomputable def v : Int := cc.2.2.2.2.2.2.2.2.2.2.2.2.2.2.2.2.2.2.2.2.2.2.2.1
@[irreducible] noncomputable def tv : Tok := cc.2.2.2.2.2.2.2.2.2.2.2.2.2.2.2.2.2.2.2.2.2.2.2.2
noncomputable def stg : PSigma fun R : (List (Addr × Obj)) → (Heap) → (Addr) → (Heap) → (Nat) → Prop => (∀ cells g L' h₁ tk₁, R cells g L' h₁ tk₁) → PP w (cc.2.1) (cc.2.2.1) (cc.2.2.2.1) (cc.2.2.2.2.1) (cc.2.2.2.2.2.1) dp un gd cn cs L a ccd cl outer (cc.2.2.2.2.2.2.2.2.2.2.2.2.2.2.2.2.1) (cc.2.2.2.2.2.2.2.2.2.2.2.2.2.2.2.2.2.1) h₀ (cc.2.2.2.2.2.2.2.2.2.2.2.2.2.2.2.2.2.2.2.1) s (cc.2.2.2.2.2.2.2.2.2.2.2.2.2.2.2.2.2.2.2.2.2.1) (cc.2.2.2.2.2.2.2.2.2.2.2.2.2.2.2.2.2.2.2.2.2.2.1) v tv := by
  refine' PSigma.mk _ (fun hR => ?_)
  rotate_left
  unfold PP
  intro B F XB TB D hk hdp hu hret
  w_on
  have N : News h₀ L s.heap [] := news_nil
  refine wpAny_call ?_
  have X₀ : (hd35.heap_39 w.params).In h₀ := XB.keeps B.stays
  k_dflt (refine' enterC B F XB TB D N rfl rfl hk ?k6 ?k7 ?k8 ?k9 ?kB ?kD ?_ ?c2 ?c3 ?c4; (case k6 => k_is); (case k7 => k_is); (case k8 => ktr_room); (case k9 => exact BindsTo.of_eq rfl); (case kB => exact rfl); (case kD => decide +kernel); (case c2 => exact rfl); (case c3 => exact rfl); (case c4 => exact rfl))
  intro g L' h₁ tk₁ cells
  revert B F XB TB D hk hdp hu hret N X₀
  exact hR cells g L' h₁ tk₁
noncomputable def Q2 (cd : (Heap) × (Addr) × (Heap) × (Nat)) : Prop := ∀ (cells : List (Addr × Obj)), stg.1 cells (cd.1) (cd.2.1) (cd.2.2.1) (cd.2.2.2)
@[irreducible] noncomputable def cd : (Heap) × (Addr) × (Heap) × (Nat) := eps (by (repeat' first | exact neW | exact neA | exact neS | refine neP ?_ ?_ | infer_instance)) Q2
@[irreducible] noncomputable def g : Heap := cd.1
@[irreducible] noncomputable def L' : Addr := cd.2.1
@[irreducible] noncomputable def h₁ : Heap := cd.2.2.1
@[irreducible] noncomputable def tk₁ : Nat := cd.2.2.2
theorem walk2 : ∀ (cells : List (Addr × Obj)), stg.1 cells g L' h₁ tk₁ := by
  intro cells B F XB TB D hk hdp hu hret N X₀ F' N' Y' B' X' T' GS D' l1 hnew hcn
  k_cells Y'
  simp only [List.cons_append, List.nil_append] at N'
  k_steps
  refine Halt.out ?_
  rename_i oc hdc0
  have hdc : oc.data = .cell (some (.int v tv)) := hdc0
  clear hdc0
  obtain ⟨m₀, F4⟩ : ∃ m₀, Fr g L' h₁ m₀ := ⟨_, F'⟩
  clear F'
  have hv4 : 0 ≤ v.fmod 4 ∧ v.fmod 4 < 4 := ⟨Int.fmod_nonneg_of_pos _ (by decide), Int.fmod_lt_of_pos _ (by decide)⟩
  obtain ⟨N, hN⟩ : ∃ N : Nat, (N : Int) = 6 + v.fmod 4 := ⟨(6 + v.fmod 4).toNat, by omega⟩
  have hN9 : N ≤ 9 := by omega
  k_dflt (refine Comp_any (n := N) (cl := [(Str.ofString "v", L' + 1)]) (fun I D i s' => Held (Pk6 fun h tk oC mC ys2 n2 => Al6 (s' = { s with heap := h, toks := tk }) (Fr g L' h m₀) (News g L' h [(I, rIter (0 + (i : Int) * 1) ((N : Int) - (i : Int)) 1), (D + 1, oC), (D, listOf (List.toArray ys2) n2), (L' + 1, oc)]) (LCg.NsObj oC mC) (SignsK ys2 i) ((@LT.lt Nat _ (L' + 1) I ∧ @LT.lt Nat _ I D)))) rfl (by decide) rfl (by decide) ?_ ?_ ?_ ?_)
  · k_steps
    refine Halt.out ?_
    have hrs : Builtin.Range.rangeSize 0 (6 + v.fmod 4) 1 = 6 + v.fmod 4 := by rw [rangeSize_one]; split <;> omega
    k_dflt (refine call_range_1 ?_)
    k_dflt (refine wpAny_pyIter_range (IsRange.new _ _ _ _ _ _ _) (small0 (by omega) (by omega)) ⟨_, rfl, fun h7 tk7 hk7 hD7 hC7 => ?_⟩)
    rw [hrs] at hk7
    have F5 := fr_keep ((F4.push _).push _) hk7
    obtain ⟨oC, hoC, hnC⟩ := LCg.ns_obj hC7
    have hL1 : L' < h₁.objs.size := F4.ns.lt
    have aC : @LT.lt Nat _ (L' + 1) h₁.objs.size := Heap.lt_size (N' _ (.head _)).1
    have fresh : ∀ b : Addr, L' < b → g.get? b = none := fun b hb => Heap.get?_none_of_le (Nat.le_trans F4.above (Nat.le_of_lt hb))
    have fr5 : ∀ b : Addr, h₁.objs.size ≤ b → b ≠ L' ∧ g.get? b = none := fun b hb => ⟨Nat.ne_of_gt (Nat.lt_of_lt_of_le hL1 hb), fresh _ (Nat.lt_of_lt_of_le hL1 hb)⟩
    refine Held.mk ⟨h7, tk7, oC, _, [], 0, rfl, F5, ?_, hnC, ⟨rfl, fun v hv => nomatch hv⟩, ?_, ?_⟩
    · intro q hq
      rcases List.mem_cons.mp hq with rfl | hq
      · refine ⟨hk7 _ _ ?_, fr5 _ (by simp only [Heap.size_push]; exact Nat.le_succ _)⟩
        rw [show (0 + ((0 : Nat) : Int) * 1) = 0 by omega, show ((N : Int) - ((0 : Nat) : Int)) = 6 + v.fmod 4 by omega]
        exact Heap.get?_push_size _ rfl
      rcases List.mem_cons.mp hq with rfl | hq
      · exact ⟨hoC, fr5 _ (by simp only [Heap.size_push]; omega)⟩
      rcases List.mem_cons.mp hq with rfl | hq
      · exact ⟨hD7, fr5 _ (by simp only [Heap.size_push]; omega)⟩
      · have z := N' q hq
        exact ⟨hk7 _ _ (Heap.get?_push_of_some _ (Heap.get?_push_of_some _ z.1)), z.2⟩
    · simp only [Heap.size_push]; exact Nat.lt_succ_of_lt aC
    · simp only [Heap.size_push]; omega
  · rintro I D s₁ Q' E' ⟨h, tk, oC, mC, ys2, n2, rfl, F₁, N₁, _⟩ hQ
    exact wpAny_pyIter_rangeiter (N₁ _ (.head _)).1 hQ
  · rintro I D i s₁ E' hi ⟨h, tk, oC, mC, ys2, n2, rfl, F₁, N₁, hnC, hys, o1, o2⟩
    have W := Walks.range (prog := PySem.Challenge.rw_om0035_01.row.prog) (w := w) (A := (MTop none dp un gd cn cs L a ccd cl outer).deeper (envOfC (Str.ofString "_law_text") { kind := .function, names := [(Str.ofString "v", .cell), (Str.ofString "range", .globalImplicit)], isGenerator := false, isCoroutine := false, more := [(Str.ofString "fast", .str (Str.ofString "v")), (Str.ofString "fast", .str (Str.ofString "place"))] } L' 95 (.ref 94))) rfl I 0 1 N
    k_dflt (refine W.item i _ _ _ hi (N₁ _ (.head _)).1 fun v1 h₁' tk₁' hP hst₁ hk₁ => ?_)
    obtain ⟨t, rfl⟩ := hP
    dsimp only
    refine wpAny_of_eq (a := ()) rfl ?_
    have hn₁ : h₁'.Ns (D + 1) mC := by
      obtain ⟨es, ep, hd, r⟩ := hnC
      exact ⟨oC, es, ep, hk₁ _ _ (by simpa using (Nat.ne_of_gt (Nat.lt_succ_of_lt o2))) (N₁ _ (.tail _ (.head _))).1, hd, r⟩
    k_dflt (refine wpAny_assign_Name (wpAny_storeName_local rfl hn₁ (fun h₃ hn₃ hs₃ => ?_) rfl))
    refine wpAny_tests_nil ?_
    simp only [if_true]
    replace hs₃ : Heap.SameBut (D + 1) h₁' h₃ := hs₃
    have up₃ : ∀ b o, @Ne Nat b I → @Ne Nat b (D + 1) → h.get? b = some o → h₃.get? b = some o := fun b o h1 h3 e => (hs₃.2 b h3).trans (hk₁ b o (by simpa using h1) e)
    have hgl : ∀ b o, g.get? b = some o → @LT.lt Nat _ b (L' + 1) := fun b o e => Nat.lt_succ_of_lt (Nat.lt_of_lt_of_le (Heap.lt_size e) F₁.above)
    have F₃ : Fr g L' h₃ m₀ := by
      obtain ⟨oL, a1, a2, hoL, a3⟩ := F₁.ns
      exact ⟨⟨oL, a1, a2, up₃ _ _ (by omega) (by omega) hoL, a3⟩, fun b o e => by
        have := hgl b o e
        exact up₃ b o (by omega) (by omega) (F₁.keep b o e), F₁.above⟩
    obtain ⟨oC', hoC', hnC'⟩ := LCg.ns_obj hn₃
    have e0 : (0 + (i : Int) * 1) = (i : Int) := by omega
    obtain ⟨mC', hnC'', hmk⟩ : ∃ mC', LCg.NsObj oC' mC' ∧ mC' (Str.ofString "place") = some (.int (i : Int) t) := ⟨_, hnC', (if_pos rfl).trans (by rw [e0])⟩
    have N₃ : News g L' h₃ [(I, rIter (0 + ((i + 1 : Nat) : Int) * 1) ((N : Int) - ((i + 1 : Nat) : Int)) 1), (D + 1, oC'), (D, listOf (List.toArray ys2) n2), (L' + 1, oc)] := by
      intro q hq
      rcases List.mem_cons.mp hq with rfl | hq
      · exact ⟨(hs₃.2 _ (Nat.ne_of_lt (Nat.lt_succ_of_lt o2))).trans hst₁, (N₁ _ (.head _)).2⟩
      rcases List.mem_cons.mp hq with rfl | hq
      · exact ⟨hoC', (N₁ _ (.tail _ (.head _))).2⟩
      · have z := N₁ q (.tail _ (.tail _ hq))
        simp only [List.mem_cons, List.mem_nil_iff, or_false] at hq
        refine ⟨?_, z.2⟩
        rcases hq with rfl | rfl
        · exact up₃ _ _ (by dsimp only; omega) (by dsimp only; omega) z.1
        · exact up₃ _ _ (by dsimp only; omega) (by dsimp only; omega) z.1
    have hi9 : (0 : Int) ≤ (i : Int) ∧ (i : Int) < 9 := by omega
    clear F₁ N₁ up₃ hk₁ hn₃ hst₁ hnC' hnC hn₁ F4 N'
    have h8 : (8 : Int) ^ (i : Int).toNat ≠ 0 ∧ ((8 : Int) ^ (i : Int).toNat).natAbs.log2 < 9000 := by
      have hc : i = 0 ∨ i = 1 ∨ i = 2 ∨ i = 3 ∨ i = 4 ∨ i = 5 ∨ i = 6 ∨ i = 7 ∨ i = 8 := by omega
      rcases hc with rfl | rfl | rfl | rfl | rfl | rfl | rfl | rfl | rfl <;> decide +kernel
    k_steps
    k_dflt (refine floordiv_int h8.1 ?_ (Or.inl (PyProof.noPylong_of_log2 h8.2)))
    k_steps
    refine Halt.out ?_
    obtain ⟨c, hc, hc3⟩ := item_signs (((v.fdiv 4).fdiv (8 ^ (i : Int).toNat)).fmod 8) (Int.fmod_nonneg_of_pos _ (by decide)) (Int.fmod_lt_of_pos _ (by decide))
    rw [hc]
    have hyl := hys.1
    k_dflt (refine append_K (by k_asm) (by k_asm) (by k_upd) ?_ (by rw [List.size_toArray, sizeLine_eq]; omega))
    intro h11 F11 N11
    rw [List.push_toArray] at N11
    exact Held.mk ⟨h11, _, oC', mC', ys2 ++ [_], n2 + 1, rfl, F11, N11, hnC'', hys.snoc _ hc3, o1, o2⟩
  · rintro I D s₁ E' ⟨h, tk, oC, mC, ys2, n2, rfl, F₁, N₁, hnC, hys, o1, o2⟩
    have W := Walks.range (prog := PySem.Challenge.rw_om0035_01.row.prog) (w := w) (A := (MTop none dp un gd cn cs L a ccd cl outer).deeper (envOfC (Str.ofString "_law_text") { kind := .function, names := [(Str.ofString "v", .cell), (Str.ofString "range", .globalImplicit)], isGenerator := false, isCoroutine := false, more := [(Str.ofString "fast", .str (Str.ofString "v")), (Str.ofString "fast", .str (Str.ofString "place"))] } L' 95 (.ref 94))) rfl I 0 1 N
    k_dflt (refine W.done _ _ _ (N₁ _ (.head _)).1 fun h₁' tk₁' hk₁ => ⟨rfl, ?_, ?_⟩)
    · obtain ⟨es, ep, hd, r⟩ := hnC
      exact ⟨mC, oC, es, ep, hk₁ _ _ (by simpa using (Nat.ne_of_gt (Nat.lt_succ_of_lt o2))) (N₁ _ (.tail _ (.head _))).1, hd, r⟩
    · intro h₂ hsb
      have up : ∀ b o, @Ne Nat b I → @Ne Nat b (D + 1) → h.get? b = some o → h₂.get? b = some o := fun b o h1 h3 e => (hsb.2 b h3).trans (hk₁ b o (by simpa using h1) e)
      have hgl : ∀ b o, g.get? b = some o → @LT.lt Nat _ b (L' + 1) := fun b o e => Nat.lt_succ_of_lt (Nat.lt_of_lt_of_le (Heap.lt_size e) F₁.above)
      have F₃ : Fr g L' h₂ m₀ := by
        obtain ⟨oL, a1, a2, hoL, a3⟩ := F₁.ns
        exact ⟨⟨oL, a1, a2, up _ _ (by omega) (by omega) hoL, a3⟩, fun b o e => by
          have := hgl b o e
          exact up b o (by omega) (by omega) (F₁.keep b o e), F₁.above⟩
      have zD := N₁ _ (.tail _ (.tail _ (.head _)))
      have N₃ : News g L' h₂ [(D, listOf (List.toArray ys2) n2)] := fun q hq => by
        obtain rfl := List.mem_singleton.mp hq
        exact ⟨up _ _ (by omega) (by dsimp only; omega) zD.1, zD.2⟩
      clear F₁ N₁ up F4 N' hk₁ hsb
      k_steps
      obtain ⟨xs, x1, x2, x3, x4, x5⟩ := signs_strs hys.2
      have hyl := hys.1
      k_dflt (refine join_list (PySem.IsL.isList (n := n2) (News.get N₃ (.head _))) (by simpa using x1) (by rw [x3, x2]; simp only [show (Str.ofString "").length = 0 from by decide +kernel]; omega) ?_)
      intro t9 k9
      k_steps
      have hcps := join_cps xs
      refine hret _ _ _ _ (fun b o e => F₃.keep _ _ (GS _ _ e (fun q => nomatch q))) ?_ ?_ ?_
      · have : (Txt.join (Str.ofString "") xs).cps.toList.length = ys2.length := by rw [hcps]; exact x4
        have h2 : (Txt.join (Str.ofString "") xs).length = ys2.length := by rw [← this]; simp [Str.length]
        omega
      · rw [Array.all_eq_true']
        intro c hc
        have := x5 c (by rw [← hcps]; simpa using hc)
        simp only [decide_eq_true_eq]
        omega
      · intro hc
        have := x5 10 (by rw [← hcps]; exact hc)
        omega
theorem q2 : Q2 cd := by
  have h := walk2
  unfold g L' h₁ tk₁ at h
  exact h
theorem all2 : ∀ x, Q2 x := by
  have h := q2
  unfold cd at h
  exact eps_all h
theorem walk : PP w (cc.2.1) (cc.2.2.1) (cc.2.2.2.1) (cc.2.2.2.2.1) (cc.2.2.2.2.2.1) dp un gd cn cs L a ccd cl outer (cc.2.2.2.2.2.2.2.2.2.2.2.2.2.2.2.2.1) (cc.2.2.2.2.2.2.2.2.2.2.2.2.2.2.2.2.2.1) h₀ (cc.2.2.2.2.2.2.2.2.2.2.2.2.2.2.2.2.2.2.2.1) s (cc.2.2.2.2.2.2.2.2.2.2.2.2.2.2.2.2.2.2.2.2.2.1) (cc.2.2.2.2.2.2.2.2.2.2.2.2.2.2.2.2.2.2.2.2.2.2.1) v tv := stg.2 fun cells g L' h₁ tk₁ => all2 (g, L', h₁, tk₁) cells
theorem q : QQ cc := by
  have h := walk
  unfold w dp un gd cn cs L a ccd cl outer h₀ s v tv at h
  exact h
theorem all : ∀ x, QQ x := by
  have h := q
  unfold cc at h
  exact eps_all h
end text_c_k
theorem text_c {w : World} {p : Program} {loose : List Str} {mean : ExcName → Option Value} {mg : Str → Option Value} {mb : Str → Option Value} {dp : Nat} {un : Nat} {gd : Option (List Code)} {cn : Str} {cs : Scope} {L : Addr} {a : Addr} {ccd : Value} {cl : List (Str × Addr)} {outer : List Env} {A₀ : Around} {base : Heap} {h₀ : Heap} {m : Str → Option Value} {s : Shared} {Q : Value → Shared → Prop} {E : Value → Shared → Prop} {v : Int} {tv : Tok} (B : Below A₀ base outer h₀) (F : Fr h₀ L s.heap m) (XB : (hd35.heap_39 w.params).In base) (TB : Top p loose mean mg mb base) (D : KtsDicts (frs outer) h₀) (hk : cs.kind = .function) (hdp : dp + 3 < recursionLimit) (hu : un + 24 < cLine) (hret : ∀ (text : Str) t h' tk', (∀ b o, s.heap.get? b = some o → h'.get? b = some o) → text.length ≤ 9 → text.cps.all (· < 128) = true → 10 ∉ text.cps.toList → Q (.str text t) { s with heap := h', toks := tk' }) : wpAny (model PySem.Challenge.rw_om0035_01.row.prog w) (MTop none dp un gd cn cs L a ccd cl outer) (call (.ref 95) [.int v tv]) Q E s :=
  text_c_k.all (w, p, loose, mean, mg, mb, dp, un, gd, cn, cs, L, a, ccd, cl, outer, A₀, base, h₀, m, s, Q, E, v, tv) B F XB TB D hk hdp hu hret
end
end Mine
end

/- H3 -/
section
open PySem PySem.W PyProof.Rows PySem.Calls PySem.Spec
set_option maxRecDepth 100000
set_option maxHeartbeats 1000000
namespace Mine
theorem fillH3 (w : World) (h : Heap) : (hd35.heap_39 w.params).In h → model PySem.Challenge.rw_om0035_01.row.prog w = model PySem.Challenge.rw_om0035_01.row.prog w := by
  k_fill
  intro _
  rfl
noncomputable def menu : List Str := [Str.ofString "a", Str.ofString "b", Str.ofString "aa", Str.ofString "ab", Str.ofString "ba", Str.ofString "bb", Str.ofString "aaa", Str.ofString "aab", Str.ofString "aba", Str.ofString "abb", Str.ofString "baa", Str.ofString "bab", Str.ofString "bba", Str.ofString "bbb"]
theorem menu_ok : (menu.all fun x => decide (1 ≤ x.length) && decide (x.length ≤ 3) && decide ((reprText x).length ≤ 40) && !x.cps.toList.contains 46) = true := by decide +kernel
theorem menu_at {j : Nat} (h : j < 14) : (1 ≤ (menu.getD j Str.empty).length ∧ (menu.getD j Str.empty).length ≤ 3) ∧ (reprText (menu.getD j Str.empty)).length ≤ 40 ∧ 46 ∉ (menu.getD j Str.empty).cps.toList := by
  have hm : menu.getD j Str.empty ∈ menu := by
    rw [List.getD_eq_getElem?_getD, List.getElem?_eq_getElem (show j < menu.length from h), Option.getD_some]
    exact List.getElem_mem _
  have h1 := List.all_eq_true.mp menu_ok _ hm
  simp only [Bool.and_eq_true, decide_eq_true_eq, Bool.not_eq_true'] at h1
  obtain ⟨⟨⟨a, b⟩, c⟩, d⟩ := h1
  refine ⟨⟨a, b⟩, c, fun q => ?_⟩
  have : (menu.getD j Str.empty).cps.toList.contains 46 = true := by simpa using q
  rw [d] at this; cases this
section
theorem word_c {w : World} {p : Program} {loose : List Str} {mean : ExcName → Option Value} {mg mb : Str → Option Value}
    {dp un : Nat} {gd : Option (List Code)} {cn : Str} {cs : Scope} {L a : Addr} {ccd : Value} {cl : List (Str × Addr)} {outer : List Env} {A₀ : Around} {base h₀ : Heap} {m : Str → Option Value} {s : Shared} {Q E : Value → Shared → Prop}
    {v : Int} {tv : Tok}
    (B : Below A₀ base outer h₀) (F : Fr h₀ L s.heap m) (X : (hd35.heap_39 w.params).In h₀) (T : Top p loose mean mg mb h₀) (hk : cs.kind = .function)
    (hdp : dp + 3 < recursionLimit) (hu : un + 24 < cLine)
    (hret : ∀ (x : Str) t h' tk', (∀ b o, s.heap.get? b = some o → h'.get? b = some o) → (1 ≤ x.length ∧ x.length ≤ 3) → (reprText x).length ≤ 40 → 46 ∉ x.cps.toList → Q (.str x t) { s with heap := h', toks := tk' }) :
    wpAny (model PySem.Challenge.rw_om0035_01.row.prog w) (MTop none dp un gd cn cs L a ccd cl outer) (call (.ref 102) [.int v tv]) Q E s := by
  w_on
  have N : News h₀ L s.heap [] := news_nil
  refine wpAny_call ?_
  k_dflt (refine' code_defG B F X N T rfl rfl hk ?k6 ?k7 ?k8 ?k9 ?kB ?_ ?c2 ?c3 ?c4 ?c5; (case k6 => k_is); (case k7 => k_is); (case k8 => ktr_room); (case k9 => exact BindsTo.of_eq rfl); (case c5 => decide); (case kB => exact locs rfl); (case c2 => exact rfl); (case c3 => exact rfl); (case c4 => exact rfl))
  intro g L' h₁ FG F' N' B' X' T' GS
  clear FG
  k_steps
  have hj : (v.fmod 14).toNat < 14 := by
    have h1 : v.fmod 14 < 14 := Int.fmod_lt_of_pos _ (by decide)
    omega
  obtain ⟨m1, m2, m3⟩ := menu_at hj
  refine hret (menu.getD (v.fmod 14).toNat Str.empty) _ _ _ ?_ m1 m2 m3
  exact fun b o e => Fr.keep (by k_asm) _ _ (GS _ _ e (fun q => nomatch q))
end
end Mine
end

/- P5 -/
section
open PySem PySem.W PyProof.Rows PySem.Builtin PySem.Builtin.Str
set_option maxRecDepth 100000
namespace Mine
/-- the word stands at b in the signs l -/
noncomputable def Occ (l : List Nat) (x : Str) (b : Nat) : Prop := b + x.length ≤ l.length ∧ (l.drop b).take x.length = x.cps.toList
theorem len_toList (x : Str) : x.cps.toList.length = x.length := by simp [Str.length]
theorem at_occ (text x : Str) (b : Nat) : StrLaws.At text x text.length b ↔ Occ text.cps.toList x b := by
  unfold StrLaws.At Occ
  rw [StrLaws.subAt_eq, beq_iff_eq, len_toList]
theorem tw_take : ∀ l : List Nat, l.takeWhile (· != 46) = l.take (l.takeWhile (· != 46)).length
  | [] => rfl
  | c :: l => by
    by_cases h : c = 46
    · subst h; rfl
    · rw [List.takeWhile_cons_of_pos (by simpa using h), List.length_cons, List.take_succ_cons, ← tw_take l]
theorem tw_no : ∀ l : List Nat, 46 ∉ l.takeWhile (· != 46)
  | [] => by simp
  | c :: l => by
    by_cases h : c = 46
    · subst h; simp [List.takeWhile]
    · rw [List.takeWhile_cons_of_pos (by simpa using h)]
      intro hm
      rcases List.mem_cons.mp hm with q | q
      · exact h q.symm
      · exact tw_no l q
theorem tw_dot : ∀ l : List Nat, (l.takeWhile (· != 46)).length < l.length → l[(l.takeWhile (· != 46)).length]? = some 46
  | [], h => by simp at h
  | c :: l, h => by
    by_cases hc : c = 46
    · subst hc; rfl
    · rw [List.takeWhile_cons_of_pos (by simpa using hc)] at h ⊢
      rw [List.length_cons, List.getElem?_cons_succ]
      exact tw_dot l (by simpa using h)
theorem Occ.up {l : List Nat} {x : Str} {b n : Nat} (h : Occ (l.take n) x b) : Occ l x b := by
  obtain ⟨h1, h2⟩ := h
  rw [List.length_take] at h1
  refine ⟨by omega, ?_⟩
  rw [List.drop_take, List.take_take, Nat.min_eq_left (by omega)] at h2
  exact h2
theorem Occ.down {l : List Nat} {x : Str} {b n : Nat} (h : Occ l x b) (hn : b + x.length ≤ n) : Occ (l.take n) x b := by
  obtain ⟨h1, h2⟩ := h
  refine ⟨by rw [List.length_take]; omega, ?_⟩
  rw [List.drop_take, List.take_take, Nat.min_eq_left (by omega)]
  exact h2
theorem Occ.nodot {l : List Nat} {x : Str} {b n : Nat} (h : Occ l x b) (hx : 46 ∉ x.cps.toList) (hd : n < l.length → l[n]? = some 46) (hb : b ≤ n) : b + x.length ≤ n := by
  obtain ⟨h1, h2⟩ := h
  rcases Nat.lt_or_ge n (b + x.length) with q | q
  · exfalso
    have h3 := hd (by omega)
    apply hx
    rw [← h2]
    refine List.mem_of_getElem? (i := n - b) ?_
    rw [List.getElem?_take, if_pos (by omega), List.getElem?_drop, show b + (n - b) = n by omega]
    exact h3
  · exact q
theorem nextF_spec {text x : Str} {place : Nat} (hx : 46 ∉ x.cps.toList) (hx1 : 1 ≤ x.length) (hp : place ≤ (frontF text).length) :
    (nextF text place x = -1 ∧ ∀ b, place ≤ b → ¬ Occ (frontF text).cps.toList x b) ∨
    ∃ b : Nat, nextF text place x = b ∧ place ≤ b ∧ Occ (frontF text).cps.toList x b ∧ ∀ b', place ≤ b' → Occ (frontF text).cps.toList x b' → b ≤ b' := by
  have e1 := frontF_eq text
  have e2 := tw_take text.cps.toList
  have e3 := tw_no text.cps.toList
  have e4 := tw_dot text.cps.toList
  rw [← e1, len_toList] at e2 e4
  rw [← e1] at e3
  have hdn : (frontF text).length ≤ text.length := front_len text
  have hlt := len_toList text
  unfold nextF
  rw [fromIndex_nat]
  rcases StrLaws.occ_head_from text x place 1 (Nat.le_refl _) with ⟨h0, hn⟩ | ⟨i, r, h0, hi, ha, hn⟩
  · rw [h0]
    refine .inl ⟨rfl, fun b hb ho => hn b hb ?_⟩
    rw [e2] at ho
    exact (at_occ _ _ _).mpr ho.up
  · rw [h0]
    dsimp only
    have ho := (at_occ _ _ _).mp ha
    have hil : i + x.length ≤ text.length := ha.1
    rw [slice_nat text hi (by omega)]
    split
    · rename_i hc
      have hc' : 46 ∈ (text.cps.toList.drop place).take (i - place) := by simpa using hc
      have hni : (frontF text).length < i := by
        rcases Nat.lt_or_ge (frontF text).length i with q | q
        · exact q
        · exfalso
          apply e3
          rw [e2]
          obtain ⟨j, hj⟩ := List.getElem?_of_mem hc'
          rw [List.getElem?_take] at hj
          split at hj
          · rw [List.getElem?_drop] at hj
            refine List.mem_of_getElem? (i := place + j) ?_
            rw [List.getElem?_take, if_pos (by omega)]
            exact hj
          · cases hj
      refine .inl ⟨rfl, fun b hb hob => ?_⟩
      have h1 := hob.1
      rw [len_toList] at h1
      rw [e2] at hob
      exact hn b hb (by omega) ((at_occ _ _ _).mpr hob.up)
    · rename_i hc
      have hc' : 46 ∉ (text.cps.toList.drop place).take (i - place) := by simpa using hc
      have hni : i ≤ (frontF text).length := by
        rcases Nat.lt_or_ge (frontF text).length i with q | q
        · exfalso
          apply hc'
          refine List.mem_of_getElem? (i := (frontF text).length - place) ?_
          rw [List.getElem?_take, if_pos (by omega), List.getElem?_drop, show place + ((frontF text).length - place) = (frontF text).length by omega]
          exact e4 (by omega)
        · exact q
      have h2 := ho.nodot hx e4 hni
      refine .inr ⟨i, rfl, hi, ?_, fun b' hb' hob => ?_⟩
      · rw [e2]; exact ho.down h2
      · rcases Nat.lt_or_ge b' i with q | q
        · exfalso
          rw [e2] at hob
          exact hn b' hb' q ((at_occ _ _ _).mpr hob.up)
        · exact q
end Mine
end

/- P6 -/
section
open PySem PySem.W PyProof.Rows
set_option maxRecDepth 100000
namespace Mine
noncomputable def EOk (l : List Nat) (ws : List Str) (p : Nat) (d : Ent) : Prop :=
  ∃ (e b k : Nat) (x : Str), d = ((e : Int), (b : Int), (k : Int)) ∧ ws[k]? = some x ∧ e = b + x.length ∧ Occ l x b ∧ ∀ b', p ≤ b' → Occ l x b' → b ≤ b'
noncomputable def Rw (l : List Nat) (ws : List Str) (b e : Nat) : Prop := ∃ (k : Nat) (x : Str), ws[k]? = some x ∧ Occ l x b ∧ e = b + x.length
noncomputable def meas (ds : List Ent) : Nat := (ds.map fun d => 9 - d.2.1.toNat).sum
theorem meas_perm {a b : List Ent} (h : a.Perm b) : meas a = meas b := (h.map _).sum_nat
theorem meas_cons (d : Ent) (r : List Ent) : meas (d :: r) = (9 - d.2.1.toNat) + meas r := rfl
structure Inv (l : List Nat) (ws : List Str) (i : Nat) (ds : List Ent) (p : Nat) (tds : List Ent) : Prop where
  heap : HeapK ds
  ent : ∀ d ∈ ds, EOk l ws p d
  cover : ∀ (k : Nat) (x : Str) (b : Nat), ws[k]? = some x → Occ l x b → p ≤ b → ∃ d ∈ ds, d.2.2 = (k : Int)
  place : p ≤ l.length
  ms : ds = [] ∨ meas ds + i ≤ 36
  ch : ∃ T : List Nat, tds.map (·.1) = T.map Int.ofNat ∧ ∀ S, Chain (Rw l ws) p S → Chain (Rw l ws) 0 (T ++ S)
  len : tds.length ≤ i
  each : ∀ d ∈ tds, EOk l ws l.length d
theorem EOk.bd {l : List Nat} {ws : List Str} {p : Nat} {d : Ent} (h : EOk l ws p d) (hl : l.length ≤ 9) (hw : ws.length ≤ 4) : Bd d := by
  obtain ⟨e, b, k, x, rfl, hk, he, ho, _⟩ := h
  have h1 := ho.1
  have h2 := (List.getElem?_eq_some_iff.mp hk).1
  unfold Bd
  dsimp only
  omega
theorem EOk.later {l : List Nat} {ws : List Str} {p q : Nat} {d : Ent} (h : EOk l ws p d) (hq : p ≤ q) : EOk l ws q d := by
  obtain ⟨e, b, k, x, rfl, hk, he, ho, hf⟩ := h
  exact ⟨e, b, k, x, rfl, hk, he, ho, fun b' h1 h2 => hf b' (by omega) h2⟩
theorem EOk.last {l : List Nat} {ws : List Str} {p : Nat} {d : Ent} (h : EOk l ws p d) (hw : ∀ x ∈ ws, 1 ≤ x.length) : EOk l ws l.length d := by
  obtain ⟨e, b, k, x, rfl, hk, he, ho, hf⟩ := h
  refine ⟨e, b, k, x, rfl, hk, he, ho, fun b' h1 h2 => ?_⟩
  have := h2.1
  have := hw x (List.mem_of_getElem? hk)
  omega
theorem pop_perm {d : Ent} {r : List Ent} (hh : HeapK (d :: r)) (hb : ∀ x ∈ d :: r, Bd x) (hne : d :: r ≠ []) :
    HeapK (if (d :: r).dropLast = [] then [] else upF ((d :: r).dropLast.set 0 ((d :: r).getLast hne)) 0) ∧ (if (d :: r).dropLast = [] then [] else upF ((d :: r).dropLast.set 0 ((d :: r).getLast hne)) 0).Perm r := by
  have hl := hh.len
  rcases List.eq_nil_or_concat r with rfl | ⟨r', z, rfl⟩
  · rw [if_pos (show [d].dropLast = [] from rfl)]
    exact ⟨trivial, .refl _⟩
  · rw [List.concat_eq_append] at hne hb hh hl
    simp only [List.concat_eq_append]
    have h1 : (d :: (r' ++ [z])).dropLast = d :: r' := by
      rw [← List.cons_append, List.dropLast_concat]
    have h2 : (d :: (r' ++ [z])).getLast hne = z := by
      rw [List.getLast_cons (by simp)]
      exact List.getLast_concat
    rw [h1, h2, if_neg (by simp), List.set_cons_zero]
    have h3 : (z :: r').length ≤ 3 := by
      simp only [List.length_cons, List.length_append, List.length_nil] at hl ⊢
      omega
    exact ⟨up_heap (fun x hx => hb x (by
      rcases List.mem_cons.mp hx with rfl | hx
      · simp
      · simp [hx])) (subK_short h3) (by simp), (upF_perm (by simp)).trans (List.perm_append_singleton z r').symm⟩
theorem rep_perm {d x : Ent} {r : List Ent} (hh : HeapK (d :: r)) (hb : ∀ x ∈ d :: r, Bd x) (hx : Bd x) : HeapK (upF ((d :: r).set 0 x) 0) ∧ (upF ((d :: r).set 0 x) 0).Perm (x :: r) := by
  rw [List.set_cons_zero]
  exact ⟨up_heap (fun y hy => by
    rcases List.mem_cons.mp hy with rfl | hy
    · exact hx
    · exact hb y (.tail _ hy)) hh.sub (by simp), upF_perm (by simp)⟩
/-- the chain takes the piece on top of the heap -/
theorem take_chain {l : List Nat} {ws : List Str} {p : Nat} {d : Ent} {r : List Ent} {e b k : Nat} {x : Str} (hl : l.length ≤ 9) (hw4 : ws.length ≤ 4) (hw : ∀ x ∈ ws, 1 ≤ x.length) (hh : HeapK (d :: r)) (hent : ∀ y ∈ d :: r, EOk l ws p y)
    (hcov : ∀ (k : Nat) (x : Str) (b : Nat), ws[k]? = some x → Occ l x b → p ≤ b → ∃ y ∈ d :: r, y.2.2 = (k : Int)) (hd : d = ((e : Int), (b : Int), (k : Int))) (hk : ws[k]? = some x) (he : e = b + x.length) (ho : Occ l x b) (hpb : p ≤ b)
    {S : List Nat} (hS : Chain (Rw l ws) e S) : Chain (Rw l ws) p (e :: S) := by
  have hx1 := hw x (List.mem_of_getElem? hk)
  refine ⟨by omega, ⟨b, hpb, k, x, hk, ho, he⟩, ?_, hS⟩
  rintro b' e' ⟨k', x', hk', ho', he'⟩ hpb'
  obtain ⟨y, hy, hyk⟩ := hcov k' x' b' hk' ho' hpb'
  have hky : key d ≤ key y := by
    rcases List.mem_cons.mp hy with rfl | hy
    · exact Int.le_refl _
    · exact hh.min y hy
  have hbd := (hent y hy).bd hl hw4
  have hbd2 := (hent d (.head _)).bd hl hw4
  obtain ⟨e2, b2, k2, x2, rfl, hk2, he2, ho2, hf2⟩ := hent y hy
  have hkk : k2 = k' := by dsimp only at hyk; omega
  subst hkk
  rw [hk'] at hk2
  cases hk2
  have h3 := hf2 b' hpb' ho'
  subst hd
  unfold key Bd at *
  dsimp only at *
  omega
theorem Inv.turn {text : Str} {ws : List Str} {i : Nat} {ds : List Ent} {p : Nat} {tds : List Ent} (hl : (frontF text).length ≤ 9) (hw4 : ws.length ≤ 4) (hw : ∀ x ∈ ws, 1 ≤ x.length ∧ 46 ∉ x.cps.toList) (I : Inv (frontF text).cps.toList ws i ds p tds) :
    Inv (frontF text).cps.toList ws (i + 1) (turnF text ws ds p tds).1 (turnF text ws ds p tds).2.1 (turnF text ws ds p tds).2.2 := by
  cases ds with
  | nil => exact ⟨I.heap, I.ent, I.cover, I.place, .inl rfl, I.ch, by have := I.len; show tds.length ≤ _; omega, I.each⟩
  | cons d r =>
    have hlt := len_toList (frontF text)
    have hl' : (frontF text).cps.toList.length ≤ 9 := by omega
    have hw1 : ∀ x ∈ ws, 1 ≤ x.length := fun x hx => (hw x hx).1
    have hbd : ∀ y ∈ d :: r, Bd y := fun y hy => (I.ent y hy).bd hl' hw4
    have hms : meas (d :: r) + i ≤ 36 := I.ms.resolve_left (by simp)
    obtain ⟨e, b, k, x, hd, hk, he, ho, hf⟩ := I.ent d (.head _)
    have hx := hw x (List.mem_of_getElem? hk)
    have hob := ho.1
    have hpl := I.place
    -- the place and those taken
    obtain ⟨p', hp'⟩ : ∃ p', p' = if (p : Int) ≤ b then e else p := ⟨_, rfl⟩
    obtain ⟨tds', ht'⟩ : ∃ tds', tds' = if (p : Int) ≤ b then tds ++ [((e : Int), (b : Int), (k : Int))] else tds := ⟨_, rfl⟩
    have hpp : p ≤ p' := by rw [hp']; split <;> omega
    have hbp : b < p' := by rw [hp']; split <;> omega
    have hpl' : p' ≤ (frontF text).cps.toList.length := by rw [hp']; split <;> omega
    have hlen : tds'.length ≤ i + 1 := by
      have := I.len
      rw [ht']; split
      · rw [List.length_append]; simp only [List.length_cons, List.length_nil]; omega
      · omega
    have heach : ∀ y ∈ tds', EOk (frontF text).cps.toList ws (frontF text).cps.toList.length y := by
      rw [ht']; split
      · intro y hy
        rcases List.mem_append.mp hy with hy | hy
        · exact I.each y hy
        · rw [List.mem_singleton.mp hy, ← hd]; exact (I.ent d (.head _)).last hw1
      · exact I.each
    have hch : ∃ T : List Nat, tds'.map (·.1) = T.map Int.ofNat ∧ ∀ S, Chain (Rw (frontF text).cps.toList ws) p' S → Chain (Rw (frontF text).cps.toList ws) 0 (T ++ S) := by
      obtain ⟨T, hT, hS⟩ := I.ch
      rw [ht', hp']
      split
      · rename_i hc
        refine ⟨T ++ [e], by rw [List.map_append, List.map_append, hT]; rfl, fun S h => ?_⟩
        rw [List.append_assoc]
        exact hS _ (take_chain hl' hw4 hw1 I.heap I.ent I.cover hd hk he ho (by omega) h)
      · exact ⟨T, hT, hS⟩
    have hcov' : ∀ (k' : Nat) (x' : Str) (b' : Nat), ws[k']? = some x' → Occ (frontF text).cps.toList x' b' → p' ≤ b' → k' ≠ k → ∃ y ∈ r, y.2.2 = (k' : Int) := by
      intro k' x' b' h1 h2 h3 h4
      obtain ⟨y, hy, hyk⟩ := I.cover k' x' b' h1 h2 (by omega)
      rcases List.mem_cons.mp hy with rfl | hy
      · rw [hd] at hyk; dsimp only at hyk; omega
      · exact ⟨y, hy, hyk⟩
    have hb9 : (9 - d.2.1.toNat) = 9 - b := by rw [hd]; simp
    rw [meas_cons, hb9] at hms
    rcases nextF_spec hx.2 hx.1 (by rw [← hlt]; exact hpl') with ⟨hn, hno⟩ | ⟨b2, hn, hb2, ho2, hf2⟩
    · obtain ⟨q1, q2⟩ := pop_perm I.heap hbd (by simp)
      subst hd
      rw [turnF_pop hk hp' ht' (by rw [hn]; decide) (by simp)]
      refine ⟨q1, fun y hy => (I.ent y (.tail _ (q2.mem_iff.mp hy))).later hpp, ?_, hpl', .inr ?_, hch, hlen, heach⟩
      · intro k' x' b' h1 h2 h3
        by_cases h4 : k' = k
        · subst h4
          rw [hk] at h1; cases h1
          exact absurd h2 (hno b' h3)
        · obtain ⟨y, hy, hyk⟩ := hcov' k' x' b' h1 h2 h3 h4
          exact ⟨y, q2.mem_iff.mpr hy, hyk⟩
      · dsimp only
        rw [meas_perm q2]
        omega
    · have hnew : EOk (frontF text).cps.toList ws p' (nextF text p' x + x.length, nextF text p' x, (k : Int)) := by
        refine ⟨b2 + x.length, b2, k, x, ?_, hk, rfl, ho2, hf2⟩
        rw [hn]; simp
      obtain ⟨q1, q2⟩ := rep_perm I.heap hbd (hnew.bd hl' hw4)
      subst hd
      rw [turnF_rep hk hp' ht' (by rw [hn]; omega)]
      refine ⟨q1, fun y hy => ?_, ?_, hpl', .inr ?_, hch, hlen, heach⟩
      · rcases List.mem_cons.mp (q2.mem_iff.mp hy) with rfl | hy
        · exact hnew
        · exact (I.ent y (.tail _ hy)).later hpp
      · intro k' x' b' h1 h2 h3
        by_cases h4 : k' = k
        · subst h4
          exact ⟨_, q2.mem_iff.mpr (.head _), rfl⟩
        · obtain ⟨y, hy, hyk⟩ := hcov' k' x' b' h1 h2 h3 h4
          exact ⟨y, q2.mem_iff.mpr (.tail _ hy), hyk⟩
      · dsimp only
        have := ho2.1
        rw [meas_perm q2, meas_cons, hn]
        simp only [Int.toNat_natCast]
        omega
end Mine
end

/- P4 -/
section
open PySem PySem.W PyProof.Rows
set_option maxRecDepth 100000
namespace Mine
noncomputable def WordOk (x : Str) : Prop := (1 ≤ x.length ∧ x.length ≤ 3) ∧ (reprText x).length ≤ 40 ∧ 46 ∉ x.cps.toList
structure Plain (text : Str) (ws : List Str) : Prop where
  ok : ∀ i, i ≤ 36 → StOk text ws (turnsF text ws i (startF text ws, 0, []))
  fin : (turnsF text ws 36 (startF text ws, 0, [])).1 = []
  ends : (turnsF text ws 36 (startF text ws, 0, [])).2.2.map (·.1) = endsF (frontF text) ws (frontF text).length
  each : ∀ d ∈ (turnsF text ws 36 (startF text ws, 0, [])).2.2, ∃ e b k : Nat, d = ((e : Int), (b : Int), (k : Int)) ∧ k < ws.length ∧ b ≤ e ∧ e ≤ text.length ∧ Txt.slice text (some (b : Int)) (some (e : Int)) = ws.getD k Str.empty
theorem getD_of {ws : List Str} {k : Nat} {x : Str} (h : ws[k]? = some x) : ws.getD k Str.empty = x := by
  rw [List.getD_eq_getElem?_getD, h]; rfl
theorem get_of {ws : List Str} {k : Nat} (h : k < ws.length) : ws[k]? = some (ws.getD k Str.empty) := by
  rw [List.getD_eq_getElem?_getD, List.getElem?_eq_getElem h]; rfl
theorem init_ok {text : Str} {ws : List Str} (hw : ∀ x ∈ ws, 1 ≤ x.length ∧ 46 ∉ x.cps.toList) : ∀ i, i ≤ ws.length →
    (∀ d ∈ initF text ws i, EOk (frontF text).cps.toList ws 0 d) ∧ (initF text ws i).length ≤ i ∧
    (∀ (k : Nat) (x : Str) (b : Nat), k < i → ws[k]? = some x → Occ (frontF text).cps.toList x b → ∃ d ∈ initF text ws i, d.2.2 = (k : Int))
  | 0, _ => ⟨fun d hd => (nomatch hd), Nat.le_refl _, fun k x b h => absurd h (Nat.not_lt_zero _)⟩
  | i + 1, hi => by
    obtain ⟨h1, h2, h3⟩ := init_ok hw i (by omega)
    have hx := get_of (ws := ws) (k := i) (by omega)
    have hwx := hw _ (List.mem_of_getElem? hx)
    unfold initF
    rcases nextF_spec (text := text) (place := 0) hwx.2 hwx.1 (Nat.zero_le _) with ⟨hn, hno⟩ | ⟨b2, hn, hb2, ho2, hf2⟩
    · rw [if_neg (by rw [hn]; decide)]
      refine ⟨h1, by omega, fun k x b hk hkx ho => ?_⟩
      by_cases hki : k = i
      · subst hki
        rw [getD_of hkx] at hno
        exact absurd ho (hno b (Nat.zero_le _))
      · exact h3 k x b (by omega) hkx ho
    · rw [if_pos (by rw [hn]; omega), hn]
      refine ⟨fun d hd => ?_, by rw [List.length_append]; simp only [List.length_cons, List.length_nil]; omega, fun k x b hk hkx ho => ?_⟩
      · rcases List.mem_append.mp hd with hd | hd
        · exact h1 d hd
        · rw [List.mem_singleton.mp hd]
          exact ⟨b2 + (ws.getD i Str.empty).length, b2, i, _, by simp, hx, rfl, ho2, hf2⟩
      · by_cases hki : k = i
        · subst hki
          exact ⟨_, List.mem_append_right _ (.head _), rfl⟩
        · obtain ⟨d, hd, hdk⟩ := h3 k x b (by omega) hkx ho
          exact ⟨d, List.mem_append_left _ hd, hdk⟩
theorem meas_le : ∀ ds : List Ent, meas ds ≤ 9 * ds.length
  | [] => Nat.le_refl _
  | d :: r => by
    have := meas_le r
    rw [meas_cons, List.length_cons]
    omega
theorem inv_start {text : Str} {ws : List Str} (hl : (frontF text).length ≤ 9) (hw4 : ws.length ≤ 4) (hw : ∀ x ∈ ws, 1 ≤ x.length ∧ 46 ∉ x.cps.toList) : Inv (frontF text).cps.toList ws 0 (startF text ws) 0 [] := by
  obtain ⟨h1, h2, h3⟩ := init_ok (text := text) hw ws.length (Nat.le_refl _)
  have hlt := len_toList (frontF text)
  obtain ⟨q1, q2⟩ := hfy_heap (ds := initF text ws ws.length) (fun d hd => (h1 d hd).bd (by omega) hw4) (by omega)
  refine ⟨q1, fun d hd => h1 d (q2.mem_iff.mp hd), fun k x b hk ho _ => ?_, Nat.zero_le _, .inr ?_, ⟨[], rfl, fun S hS => hS⟩, Nat.le_refl _, fun d hd => nomatch hd⟩
  · obtain ⟨d, hd, hdk⟩ := h3 k x b (List.getElem?_eq_some_iff.mp hk).1 hk ho
    exact ⟨d, q2.mem_iff.mpr hd, hdk⟩
  · have := meas_le (initF text ws ws.length)
    unfold startF
    rw [meas_perm q2]
    omega
theorem inv_turns {text : Str} {ws : List Str} (hl : (frontF text).length ≤ 9) (hw4 : ws.length ≤ 4) (hw : ∀ x ∈ ws, 1 ≤ x.length ∧ 46 ∉ x.cps.toList) : ∀ i, Inv (frontF text).cps.toList ws i (turnsF text ws i (startF text ws, 0, [])).1 (turnsF text ws i (startF text ws, 0, [])).2.1 (turnsF text ws i (startF text ws, 0, [])).2.2
  | 0 => inv_start hl hw4 hw
  | i + 1 => (inv_turns hl hw4 hw i).turn hl hw4 hw
theorem Inv.fin {l : List Nat} {ws : List Str} {ds : List Ent} {p : Nat} {tds : List Ent} (I : Inv l ws 36 ds p tds) (hl : l.length ≤ 9) (hw : ∀ x ∈ ws, 1 ≤ x.length) : ds = [] := by
  rcases I.ms with h | h
  · exact h
  · cases ds with
    | nil => rfl
    | cons d r =>
      exfalso
      obtain ⟨e, b, k, x, rfl, hk, he, ho, _⟩ := I.ent _ (.head _)
      have := ho.1
      have := hw x (List.mem_of_getElem? hk)
      rw [meas_cons] at h
      simp only [Int.toNat_natCast] at h
      omega
theorem occ_slice {x y : Str} {b : Nat} (h : b + y.length ≤ x.length) : Txt.slice x (some (b : Int)) (some ((b + y.length : Nat) : Int)) = y ↔ Occ x.cps.toList y b := by
  rw [slice_nat x (by omega) h, show b + y.length - b = y.length by omega]
  unfold Occ
  rw [len_toList]
  obtain ⟨⟨yl⟩⟩ := y
  constructor
  · intro hh
    refine ⟨h, ?_⟩
    injection hh with hh
    exact congrArg Array.toList hh
  · intro hh
    have h2 := hh.2
    dsimp only at h2 ⊢
    rw [h2]
theorem nums_mem {front : Str} {ws : List Str} {ms : List Int} {e : Nat} {y : Int} : ∀ j, j ≤ ws.length → (y ∈ numsF front ws ms e j ↔ y = ms.getD (e - 1) 0 ∨ ∃ (k : Nat) (x : Str), k < j ∧ ws[k]? = some x ∧ x.length ≤ e ∧ Txt.slice front (some ((e - x.length : Nat) : Int)) (some (e : Int)) = x ∧ y = ms.getD (e - x.length) 0 + 1)
  | 0, _ => by
    unfold numsF
    rw [List.mem_singleton]
    exact ⟨.inl, fun h => h.resolve_right fun ⟨k, x, hk, _⟩ => absurd hk (Nat.not_lt_zero _)⟩
  | j + 1, hj => by
    have ih := nums_mem (front := front) (ws := ws) (ms := ms) (e := e) (y := y) j (by omega)
    have hx := get_of (ws := ws) (k := j) (by omega)
    unfold numsF
    split
    · rename_i hc
      rw [List.mem_append, ih, List.mem_singleton]
      constructor
      · rintro ((h | ⟨k, x, h1, h2⟩) | h)
        · exact .inl h
        · exact .inr ⟨k, x, by omega, h2⟩
        · exact .inr ⟨j, _, by omega, hx, hc.1, hc.2, h⟩
      · rintro (h | ⟨k, x, h1, h2, h3, h4, h5⟩)
        · exact .inl (.inl h)
        · by_cases hkj : k = j
          · subst hkj
            rw [hx] at h2
            cases h2
            exact .inr h5
          · exact .inl (.inr ⟨k, x, by omega, h2, h3, h4, h5⟩)
    · rename_i hc
      rw [ih]
      constructor
      · rintro (h | ⟨k, x, h1, h2⟩)
        · exact .inl h
        · exact .inr ⟨k, x, by omega, h2⟩
      · rintro (h | ⟨k, x, h1, h2, h3, h4, h5⟩)
        · exact .inl h
        · by_cases hkj : k = j
          · subst hkj
            rw [hx] at h2
            cases h2
            exact absurd ⟨h3, h4⟩ hc
          · exact .inr ⟨k, x, by omega, h2, h3, h4, h5⟩
theorem most_cnt {front : Str} {ws : List Str} {T : List Nat} (hw : ∀ x ∈ ws, 1 ≤ x.length) (hT : Chain (Rw front.cps.toList ws) 0 T) : ∀ e, e ≤ front.length → ∀ i, i ≤ e → (mostF front ws e).getD i 0 = (cnt T i : Nat)
  | 0, _, i, hi => by
    obtain rfl : i = 0 := by omega
    rw [cnt_zero (Chain.gt hT)]
    rfl
  | e + 1, he, i, hi => by
    have hR : ∀ b e, Rw front.cps.toList ws b e → b < e := by
      rintro b e ⟨k, x, hk, _, rfl⟩
      have := hw x (List.mem_of_getElem? hk)
      omega
    have ih := most_cnt hw hT e (by omega)
    have hlen := mostF_len front ws e
    have hs := cnt_step hT e
    unfold mostF
    rcases Nat.lt_or_ge i (e + 1) with q | q
    · rw [← ih i (by omega), List.getD_eq_getElem?_getD, List.getD_eq_getElem?_getD, List.getElem?_append_left (by omega)]
    · obtain rfl : i = e + 1 := by omega
      rw [List.getD_eq_getElem?_getD, List.getElem?_append_right (by omega), hlen, Nat.sub_self]
      show maxL _ = _
      refine maxL_eq ?_ ?_
      · rw [nums_mem _ (Nat.le_refl _)]
        by_cases hm : e + 1 ∈ T
        · obtain ⟨b, _, hr, hc⟩ := cnt_at hR hT hm
          obtain ⟨k, x, hk, ho, hbe⟩ := id hr
          have hx1 := hw x (List.mem_of_getElem? hk)
          refine .inr ⟨k, x, (List.getElem?_eq_some_iff.mp hk).1, hk, by omega, ?_, ?_⟩
          · rw [show e + 1 - x.length = b by omega, hbe]
            exact (occ_slice (by omega)).mpr ho
          · rw [show e + 1 - x.length = b by omega, ih b (by omega), hc, hs, if_pos hm]
            simp
        · refine .inl ?_
          rw [hs, if_neg hm, Nat.add_sub_cancel, ih e (Nat.le_refl _)]
          simp
      · intro y hy
        rw [nums_mem _ (Nat.le_refl _)] at hy
        rcases hy with rfl | ⟨k, x, _, hk, h3, h4, rfl⟩
        · rw [Nat.add_sub_cancel, ih e (Nat.le_refl _)]
          have := cnt_mono T (Nat.le_succ e)
          omega
        · have hx1 := hw x (List.mem_of_getElem? hk)
          have ho : Occ front.cps.toList x (e + 1 - x.length) := by
            refine (occ_slice (by omega)).mp ?_
            rw [show e + 1 - x.length + x.length = e + 1 by omega]
            exact h4
          have := cnt_lt hR hT (b := e + 1 - x.length) (e := e + 1) ⟨k, x, hk, ho, by omega⟩ (Nat.zero_le _)
          rw [ih _ (by omega)]
          omega
theorem ends_filter {front : Str} {ws : List Str} {T : List Nat} (hw : ∀ x ∈ ws, 1 ≤ x.length) (hT : Chain (Rw front.cps.toList ws) 0 T) : ∀ e, e ≤ front.length → endsF front ws e = ((List.range' 1 e).filter (fun x => decide (x ∈ T))).map Int.ofNat
  | 0, _ => rfl
  | e + 1, he => by
    have hm := most_cnt hw hT (e + 1) he
    have hs := cnt_step hT e
    unfold endsF
    rw [hm e (by omega), hm (e + 1) (Nat.le_refl _), ends_filter hw hT e (by omega), List.range'_concat, List.filter_append, List.map_append, show 1 + 1 * e = e + 1 by omega]
    by_cases hmem : e + 1 ∈ T
    · rw [if_pos hmem] at hs
      rw [if_pos (by omega), List.filter_cons_of_pos (by simpa using hmem)]
      rfl
    · rw [if_neg hmem] at hs
      rw [if_neg (by omega), List.filter_cons_of_neg (by simpa using hmem)]
      simp
theorem plain {text : Str} {ws : List Str} (hlt : text.length ≤ 9) (hw : ∀ x ∈ ws, WordOk x) (hl : ws.length ≤ 4) : Plain text ws := by
  have hfl := front_len text
  have hft := len_toList (frontF text)
  have hw2 : ∀ x ∈ ws, 1 ≤ x.length ∧ 46 ∉ x.cps.toList := fun x hx => ⟨(hw x hx).1.1, (hw x hx).2.2⟩
  have hw1 : ∀ x ∈ ws, 1 ≤ x.length := fun x hx => (hw2 x hx).1
  have I := inv_turns (text := text) (by omega) hl hw2
  have hfin := (I 36).fin (by omega) hw1
  have e2 := tw_take text.cps.toList
  rw [← frontF_eq] at e2
  refine ⟨fun i hi => ⟨fun d hd => ?_, ?_, (I i).heap.len, ?_⟩, hfin, ?_, fun d hd => ?_⟩
  · obtain ⟨e, b, k, x, rfl, hk, he, ho, _⟩ := (I i).ent d hd
    have := ho.1
    exact ⟨e, b, k, rfl, by omega, (List.getElem?_eq_some_iff.mp hk).1⟩
  · have := (I i).place
    omega
  · have := (I i).len
    omega
  · obtain ⟨T, hT, hS⟩ := (I 36).ch
    have hc := hS [] (by
      rintro b e ⟨k, x, hk, ho, _⟩ hb
      obtain ⟨d, hd, _⟩ := (I 36).cover k x b hk ho hb
      rw [hfin] at hd
      cases hd)
    rw [List.append_nil] at hc
    rw [hT, ends_filter hw1 hc _ (Nat.le_refl _), filter_range (p := 0) hc.sorted (fun e he => ⟨hc.gt e he, ?_⟩)]
    have := hc.le (n := (frontF text).length) (by
      rintro b e ⟨k, x, hk, ho, rfl⟩
      have := ho.1
      omega) e he
    omega
  · obtain ⟨e, b, k, x, rfl, hk, he, ho, _⟩ := (I 36).each d hd
    have h1 := ho.1
    refine ⟨e, b, k, rfl, (List.getElem?_eq_some_iff.mp hk).1, by omega, by omega, ?_⟩
    rw [getD_of hk, he]
    refine (occ_slice (by omega)).mpr ?_
    rw [e2] at ho
    exact ho.up
end Mine
end

/- C2 -/
section
open PySem PySem.W PyProof.Rows PySem.Calls PySem.Spec
set_option maxRecDepth 100000
set_option maxHeartbeats 4000000
namespace Mine
section
variable {prog : Program} {w : World} {A : Around} {E : Value → Shared → Prop} {s : Shared} {env : Env}
theorem assign3 {env : Env} {a b c : Str} {pa pb pc tp : Pos} {kk : Nat} {T : Addr} {x y z : Value} {m : Str → Option Value} {Q : Unit → Shared → Prop} (hh : A.handled = none) (ht : s.heap.IsTuple T #[x, y, z])
    (ha : env.kindOf a = some .local) (hb : env.kindOf b = some .local) (hc : env.kindOf c = some .local) (hp : (env.scope.kind == .class || (env.scope.kind == .module && env.locals != env.globals)) = false) (hn : s.heap.Ns env.locals m)
    (h : ∀ (h' : Heap) (tk : Nat), h'.Ns env.locals (fun u => if u = c then some z else if u = b then some y else if u = a then some x else m u) → (∀ d o, d ≠ env.locals → s.heap.get? d = some o → h'.get? d = some o) → Q () { s with heap := h', toks := tk }) :
    wpAny (model prog w) A (assign (.Tuple [.Name a pa, .Name b pb, .Name c pc] kk tp) env (.ref T)) Q E s := by
  refine wpAny_assign_Tuple hh ht rfl rfl fun h₁ he₁ => ?_
  have hL : env.locals ≠ s.heap.objs.size := Nat.ne_of_lt hn.lt
  have hn₁ : h₁.Ns env.locals m := hn.at' fun o e => he₁ _ o hL e
  have up₁ : ∀ d o, s.heap.get? d = some o → h₁.get? d = some o := fun d o e => he₁ d o (Nat.ne_of_lt (Heap.lt_size e)) e
  show wpAny _ _ (assignInOrder [assign (.Name a pa) env, assign (.Name b pb) env, assign (.Name c pc) env] [x, y, z]) _ _ _
  refine assignInOrder_cons ?_
  refine wpAny_assign_Name (wpAny_storeName_local ha hn₁ (fun h₂ hn₂ hs₂ => ?_) hp)
  refine assignInOrder_cons ?_
  refine wpAny_assign_Name (wpAny_storeName_local hb hn₂ (fun h₃ hn₃ hs₃ => ?_) hp)
  refine assignInOrder_cons ?_
  refine wpAny_assign_Name (wpAny_storeName_local hc hn₃ (fun h₄ hn₄ hs₄ => ?_) hp)
  refine assignInOrder_nil ?_
  exact h h₄ _ hn₄ fun d o hd e => hs₄.extBut d o hd (hs₃.extBut d o hd (hs₂.extBut d o hd (up₁ d o e)))
/-- a comprehension over a list of triples -/
theorem Comp_T3 {elt iter : PySem.Expr} {ifs : List PySem.Expr} {a b c : Str} {pa pb pc tp : Pos} {kk : Nat} {scope : Scope} {cl : List (Str × Addr)} {pos : Pos} {Q : Value → Shared → Prop}
    {g : Heap} {L ax : Addr} {m : Str → Option Value} {news : List (Addr × Obj)} {tks : List Value} {tds : List Ent} {n1 : Nat} (Rs : Nat → List Value → Prop)
    (hclos : closureFor scope env = pure cl) (hcell : ∀ y ∈ scope.names, y.2 ≠ .cell) (hkind : scope.kind = .function)
    (hnames : ∀ y ∈ scope.names, y.2 = .local → scope.names.lookup y.1 = some .local)
    (ha : scope.names.lookup a = some .local) (hb : scope.names.lookup b = some .local) (hc : scope.names.lookup c = some .local) (hab : a ≠ b) (hac : a ≠ c) (hbc : b ≠ c)
    (hh : A.handled = none) (F : Fr g L s.heap m) (N : News g L s.heap news) (hax : (ax, listOf (List.toArray tks) n1) ∈ news) (hlen : tds.length ≤ 1000)
    (hT : ∀ h', Fr g L h' m → News g L h' news → Tups h' tks tds)
    (hsrc : ∀ Q' : Value → Shared → Prop, Q' (.ref ax) s → wpAny (model prog w) A (eval iter env) Q' E s)
    (h0 : Rs 0 [])
    (turn : ∀ i d I oI D oC mC ys n h tk t1 t2 t3 (E' : Value → Shared → Prop), tds[i]? = some d → Rs i ys → LCg.NsObj oC mC → mC a = some (.int d.1 t1) → mC b = some (.int d.2.1 t2) → mC c = some (.int d.2.2 t3) → Fr g L h m →
      News g L h ((I, oI) :: (D + 1, oC) :: (D, listOf (List.toArray ys) n) :: news) → (∀ p ∈ news, p.1 < I) → @LT.lt Nat _ I D →
      wpAny (model prog w) A (forIn ifs true fun c r => if r = true then do let ok ← isTrue c (compEnvC scope cl (D + 1) env) (eval c (compEnvC scope cl (D + 1) env)); pure (ForInStep.yield ok) else pure (ForInStep.yield r)) (fun ok s₅ =>
        if ok = true then wpAny (model prog w) A (eval elt (compEnvC scope cl (D + 1) env)) (fun x s₆ => Held (Pk2 fun h' tk' => Al5 (s₆ = { s with heap := h', toks := tk' }) (Fr g L h' m) (News g L h' ((I, oI) :: (D + 1, oC) :: (D, listOf (List.toArray ys) n) :: news)) (Rs (i + 1) (ys ++ [x])) (ys.length ≤ i))) E' s₅
        else Held (Pk2 fun h' tk' => Al4 (s₅ = { s with heap := h', toks := tk' }) (Fr g L h' m) (News g L h' ((I, oI) :: (D + 1, oC) :: (D, listOf (List.toArray ys) n) :: news)) (Rs (i + 1) ys))) E' { s with heap := h, toks := tk })
    (done : ∀ D ys n h tk, Rs tds.length ys → Fr g L h m → News g L h ((D, listOf (List.toArray ys) n) :: news) → (∀ p ∈ news, p.1 < D) → Q (.ref D) { s with heap := h, toks := tk })
    (hs : ∀ x, foldedSetIterable iter env x = pure x := by intro _; rfl) :
    wpAny (model prog w) A (eval (.ListComp elt [⟨.Tuple [.Name a pa, .Name b pb, .Name c pc] kk tp, iter, ifs, 0⟩] scope pos) env) Q E s := by
  have hLlt : L < s.heap.objs.size := F.ns.lt
  have hap : ∀ p ∈ news, p.1 < s.heap.objs.size := fun p hp => Heap.lt_size (N p hp).1
  have hLc : ∀ C, (compEnvC scope cl C env).locals = C := fun _ => rfl
  refine Comp_any (n := tds.length) (fun I D i s' => Pk7 fun h tk oI oC mC ys n => Al9 (s' = { s with heap := h, toks := tk }) (Fr g L h m) (News g L h ((I, oI) :: (D + 1, oC) :: (D, listOf (List.toArray ys) n) :: news)) (LIterO ax i oI) (LCg.NsObj oC mC) (Rs i ys) ((∀ p ∈ news, p.1 < I)) (@LT.lt Nat _ I D) (@LT.lt Nat _ L I)) hclos hcell hkind hnames ?_ ?_ ?_ ?_ hs
  · refine hsrc _ ?_
    refine wpAny_pyIter_list (PySem.IsL.isList (n := n1) (N _ hax).1) ⟨_, rfl, fun h7 tk7 hk7 hD7 hC7 => ?_⟩
    have F7 := fr_keep (F.push _) hk7
    obtain ⟨oC, hoC, hnC⟩ := LCg.ns_obj hC7
    have fr6 : ∀ b : Addr, s.heap.objs.size ≤ b → b ≠ L ∧ g.get? b = none := fun b hb => ⟨Nat.ne_of_gt (Nat.lt_of_lt_of_le hLlt hb), Heap.get?_none_of_le (Nat.le_trans F.above (Nat.le_of_lt (Nat.lt_of_lt_of_le hLlt hb)))⟩
    refine ⟨h7, tk7, { cls := .type "list_iterator", data := .fields #[.ref ax, .int 0 0] }, oC, _, [], 0, rfl, F7, ?_, ⟨rfl, rfl⟩, hnC, h0, hap, ?_, hLlt⟩
    · intro q hq
      rcases List.mem_cons.mp hq with rfl | hq
      · exact ⟨hk7 _ _ (Heap.get?_push_size _ rfl), fr6 _ (Nat.le_refl _)⟩
      rcases List.mem_cons.mp hq with rfl | hq
      · exact ⟨hoC, fr6 _ (by simp only [Heap.size_push]; omega)⟩
      rcases List.mem_cons.mp hq with rfl | hq
      · exact ⟨hD7, fr6 _ (by simp only [Heap.size_push]; omega)⟩
      · have z := N q hq
        exact ⟨hk7 _ _ (Heap.get?_push_of_some _ z.1), z.2⟩
    · simp only [Heap.size_push]; exact Nat.lt_succ_self _
  · rintro I D s₁ Q' E' ⟨h, tk, oI, oC, mC, ys, n, rfl, F₁, N₁, hoI, _⟩ hQ
    exact wpAny_pyIter_listiter ⟨oI, (N₁ _ (.head _)).1, hoI⟩ hQ
  · rintro I D i s₁ E' hi ⟨h, tk, oI, oC, mC, ys, n, rfl, F₁, N₁, hoI, hnC, hR, o1, o2, o3⟩
    have N₀ : News g L h news := fun q hq => N₁ q (.tail _ (.tail _ (.tail _ hq)))
    have hT₁ := hT h F₁ N₀
    obtain ⟨d, hd⟩ : ∃ d, tds[i]? = some d := ⟨tds[i], List.getElem?_eq_getElem hi⟩
    obtain ⟨v, hv, T, t1, t2, t3, rfl, hTb⟩ := hT₁.2 i d hd
    have haxI : ax ≠ I := Nat.ne_of_lt (o1 _ hax)
    refine wpAny_pyNext_list_item ⟨oI, (N₁ _ (.head _)).1, hoI⟩ (PySem.IsL.isList (n := n1) (N₀ _ hax).1) (x := .ref T) (by simpa using hv) fun h₁ hit' hs' => ?_
    dsimp only
    refine wpAny_letOwnedTupleGo_listiter hit' ?_
    have hTI : T ≠ I := fun z => by
      have := (N₁ _ (.head _)).1
      dsimp only at this
      rw [← z, hTb] at this
      cases this
      cases hoI.2
    have hTC : T ≠ D + 1 := fun z => by
      have := (N₁ _ (.tail _ (.head _))).1
      dsimp only at this
      rw [← z, hTb] at this
      cases this
      obtain ⟨_, _, hdd, _⟩ := hnC
      cases hdd
    have ht₁ : h₁.IsTuple T #[.int d.1 t1, .int d.2.1 t2, .int d.2.2 t3] := ⟨_, (hs'.2 T hTI).trans hTb, rfl, 0, rfl⟩
    have hn₁ : h₁.Ns (D + 1) mC := by
      obtain ⟨es, ep, hdd, r⟩ := hnC
      exact ⟨oC, es, ep, (hs'.2 _ (Nat.ne_of_gt (Nat.lt_succ_of_lt o2))).trans (N₁ _ (.tail _ (.head _))).1, hdd, r⟩
    refine assign3 (env := compEnvC scope cl (D + 1) env) hh ht₁ (lookup_relabel_local ha) (lookup_relabel_local hb) (lookup_relabel_local hc) (by simp [compEnvC, relabel, hkind]) hn₁ fun h₃ tk₃ hn₃ hk₃ => ?_
    have up₃ : ∀ b o, b ≠ I → b ≠ D + 1 → h.get? b = some o → h₃.get? b = some o := fun b o q1 q2 e => hk₃ b o q2 ((hs'.2 b q1).trans e)
    have hgl : ∀ b o, g.get? b = some o → @LT.lt Nat _ b L := fun b o e => Nat.lt_of_lt_of_le (Heap.lt_size e) F₁.above
    have F₃ : Fr g L h₃ m := by
      obtain ⟨oL, a1, a2, hoL, a3⟩ := F₁.ns
      exact ⟨⟨oL, a1, a2, up₃ _ _ (Nat.ne_of_lt o3) (Nat.ne_of_lt (Nat.lt_succ_of_lt (Nat.lt_trans o3 o2))) hoL, a3⟩, fun b o e => by
        have := hgl b o e
        exact up₃ b o (Nat.ne_of_lt (Nat.lt_trans this o3)) (Nat.ne_of_lt (Nat.lt_succ_of_lt (Nat.lt_trans (Nat.lt_trans this o3) o2))) (F₁.keep b o e), F₁.above⟩
    obtain ⟨oC', hoC', hnC'⟩ := LCg.ns_obj hn₃
    obtain ⟨oI', hoI', hio'⟩ := hit'
    have N₃ : News g L h₃ ((I, oI') :: (D + 1, oC') :: (D, listOf (List.toArray ys) n) :: news) := by
      intro q hq
      rcases List.mem_cons.mp hq with rfl | hq
      · exact ⟨hk₃ _ _ (Nat.ne_of_lt (Nat.lt_succ_of_lt o2)) hoI', (N₁ _ (.head _)).2⟩
      rcases List.mem_cons.mp hq with rfl | hq
      · exact ⟨hoC', (N₁ _ (.tail _ (.head _))).2⟩
      rcases List.mem_cons.mp hq with rfl | hq
      · have z := N₁ _ (.tail _ (.tail _ (.head _)))
        exact ⟨up₃ _ _ (Nat.ne_of_gt o2) (Nat.ne_of_lt (Nat.lt_succ_self _)) z.1, z.2⟩
      · have z := N₁ q (.tail _ (.tail _ (.tail _ hq)))
        exact ⟨up₃ _ _ (Nat.ne_of_lt (o1 q hq)) (Nat.ne_of_lt (Nat.lt_succ_of_lt (Nat.lt_trans (o1 q hq) o2))) z.1, z.2⟩
    refine wpAny_mono (turn i d I oI' D oC' _ ys n h₃ tk₃ t1 t2 t3 E' hd hR hnC' ((if_neg hac).trans ((if_neg hab).trans (if_pos rfl))) ((if_neg hbc).trans (if_pos rfl)) (if_pos rfl) F₃ N₃ o1 o2) (fun ok s₅ h₅ => ?_) fun _ _ e => e
    cases ok with
    | true =>
      simp only [if_true] at h₅ ⊢
      refine wpAny_mono h₅ (fun x s₆ h₆ => ?_) fun _ _ e => e
      obtain ⟨h', tk', rfl, F₆, N₆, hR₆, hyl⟩ := h₆
      have hil : i < tds.length := hi
      refine append_K F₆ N₆ (.tail (Nat.ne_of_lt o2) (.tail (Nat.ne_of_gt (Nat.lt_succ_self _)) (.head fun p hp => Nat.ne_of_lt (Nat.lt_trans (o1 p hp) o2)))) ?_ (by rw [List.size_toArray, sizeLine_eq]; omega)
      intro h₇ F₇ N₇
      rw [List.push_toArray] at N₇
      exact ⟨h₇, tk', oI', oC', _, ys ++ [x], n + 1, rfl, F₇, N₇, hio', hnC', hR₆, o1, o2, o3⟩
    | false =>
      simp only [Bool.false_eq_true, if_false] at h₅ ⊢
      obtain ⟨h', tk', rfl, F₆, N₆, hR₆⟩ := h₅
      exact ⟨h', tk', oI', oC', _, ys, n, rfl, F₆, N₆, hio', hnC', hR₆, o1, o2, o3⟩
  · rintro I D s₁ E' ⟨h, tk, oI, oC, mC, ys, n, rfl, F₁, N₁, hoI, hnC, hR, o1, o2, o3⟩
    have N₀ : News g L h news := fun q hq => N₁ q (.tail _ (.tail _ (.tail _ hq)))
    have hT₁ := hT h F₁ N₀
    refine wpAny_pyNext_list_end hh ⟨oI, (N₁ _ (.head _)).1, hoI⟩ (PySem.IsL.isList (n := n1) (N₀ _ hax).1) (by simp [hT₁.1]) fun h₁ he₁ => ⟨rfl, ?_, ?_⟩
    · obtain ⟨es, ep, hdd, r⟩ := hnC
      exact ⟨mC, oC, es, ep, he₁ _ _ (Nat.ne_of_gt (Nat.lt_succ_of_lt o2)) (N₁ _ (.tail _ (.head _))).1, hdd, r⟩
    · intro h₂ hsb
      have up : ∀ b o, b ≠ I → b ≠ D + 1 → h.get? b = some o → h₂.get? b = some o := fun b o q1 q2 e => (hsb.2 b q2).trans (he₁ b o q1 e)
      have hgl : ∀ b o, g.get? b = some o → @LT.lt Nat _ b L := fun b o e => Nat.lt_of_lt_of_le (Heap.lt_size e) F₁.above
      refine done D ys n h₂ _ hR ?_ ?_ (fun p hp => Nat.lt_trans (o1 p hp) o2)
      · obtain ⟨oL, a1, a2, hoL, a3⟩ := F₁.ns
        exact ⟨⟨oL, a1, a2, up _ _ (Nat.ne_of_lt o3) (Nat.ne_of_lt (Nat.lt_succ_of_lt (Nat.lt_trans o3 o2))) hoL, a3⟩, fun b o e => by
          have := hgl b o e
          exact up b o (Nat.ne_of_lt (Nat.lt_trans this o3)) (Nat.ne_of_lt (Nat.lt_succ_of_lt (Nat.lt_trans (Nat.lt_trans this o3) o2))) (F₁.keep b o e), F₁.above⟩
      · intro q hq
        rcases List.mem_cons.mp hq with rfl | hq
        · have z := N₁ _ (.tail _ (.tail _ (.head _)))
          exact ⟨up _ _ (Nat.ne_of_gt o2) (Nat.ne_of_lt (Nat.lt_succ_self _)) z.1, z.2⟩
        · have z := N₁ q (.tail _ (.tail _ (.tail _ hq)))
          exact ⟨up _ _ (Nat.ne_of_lt (o1 q hq)) (Nat.ne_of_lt (Nat.lt_succ_of_lt (Nat.lt_trans (o1 q hq) o2))) z.1, z.2⟩
end
end Mine
end

/- K1 -/
section
open PySem PySem.W PyProof.Rows PySem.Calls PySem.Spec
set_option maxRecDepth 100000
set_option maxHeartbeats 4000000
namespace Mine
noncomputable def Mark : Prop := True
theorem mark : Mark := trivial
noncomputable abbrev bs (s : Shared) : Heap := ghostOf s.heap [(84, 80), (122, 118)]
theorem WordsAt.snoc {vs : List Value} {ws : List Str} (h : WordsAt vs ws) (x : Str) (t : Tok) : WordsAt (vs ++ [.str x t]) (ws ++ [x]) := by
  refine ⟨by simp [h.1], fun i y hy => ?_⟩
  rcases Nat.lt_or_ge i ws.length with q | q
  · rw [List.getElem?_append_left q] at hy
    obtain ⟨t', ht⟩ := h.2 i y hy
    exact ⟨t', by rw [List.getElem?_append_left (by rw [h.1]; exact q)]; exact ht⟩
  · rw [List.getElem?_append_right q] at hy
    have h1 : i - ws.length = 0 := by
      have := (List.getElem?_eq_some_iff.mp hy).1
      simp only [List.length_cons, List.length_nil] at this
      omega
    rw [h1] at hy
    have : y = x := by simpa using hy.symm
    subst this
    exact ⟨t, by rw [List.getElem?_append_right (by rw [h.1]; exact q), h.1, h1]; rfl⟩
theorem ints_take {ys : List Value} {tds : List Ent} {i : Nat} {d : Ent} (t : Tok) (h : IntsAre ys ((tds.take i).map (·.1))) (hd : tds[i]? = some d) : IntsAre (ys ++ [.int d.1 t]) ((tds.take (i + 1)).map (·.1)) := by
  rw [List.take_add_one, hd, List.map_append]
  exact h.append (.cons _ _ .nil)
theorem news_add {g H h : Heap} {L D : Addr} {m : Str → Option Value} {o : Obj} {news : List (Addr × Obj)} (F : Fr g L H m) (N : News g L H news) (k : ∀ b o, H.get? b = some o → h.get? b = some o) (hn : H.get? D = none) (hD : h.get? D = some o) : News g L h ((D, o) :: news) := by
  intro q hq
  rcases List.mem_cons.mp hq with rfl | hq
  · refine ⟨hD, fun z => ?_, kts_none F.keep hn⟩
    obtain ⟨oL, hL, _⟩ := fr_dict F
    have z' : D = L := z
    rw [z', hL] at hn; cases hn
  · exact news_keep N k q hq
section
local macro_rules | `(tactic| walk_at "subscriptTail Name Name ref int") => `(tactic| refine Mine.Halt.mk ?_)
theorem haltM (_ : Mark) {P : Prop} (h : Halt P) : P := h
local macro_rules | `(tactic| walk_at "eval ListComp") => `(tactic| refine Mine.haltM (by assumption) ?_)
local macro_rules | `(tactic| walk_at "eval Name") => `(tactic| k_dflt refine PySem.W.nameX_L (by k_asm) (by repeat first | assumption | refine (if_neg (by decide)).trans ?_) ?_)
namespace tt2_k
noncomputable def stg : PSigma fun R : (World) → (Shared) → (Shared) → (Str → Option Value) → (Str → Option Value) → (Addr) → (Value) → (Value) → (Value) → (List Int) → (Addr) → (List Value) → (Heap) → (Nat) → (Obj) → (Obj) → Prop => (∀ wd s₀ sg mg mb fa pm cd doc ns sc vs h₁ tk₁ ow ot, R wd s₀ sg mg mb fa pm cd doc ns sc vs h₁ tk₁ ow ot) → PySem.Challenge.rw_om0035_01.Holds := by
  refine' PSigma.mk _ (fun hR => ?_)
  rotate_left
  focus
    refine hd35 ?_
    w_on
    k_go0
    all_goals try k_fold
    k_steps
    refine Halt.out ?_
    rename Below callerA _ [] _ => KB
    rename Fr _ _ _ _ => F0
    rename News _ _ _ _ => N0
    rename Frag.In _ _ => XB
    rename Top topProg _ _ _ _ _ => TB
    rename IntsAre _ _ => hI0
    rename ¬ _ => hlen
    rename_i wd s₀ sg mg mb G Y fa o pm cd doc ho hcd hg X V T B TE TW ns hs hlay0 hL1 hr1 hl2 w6 w5 sc vs w2 hL ra w1 r0 hr hcond hD h₁ tk₁ ow ot hl hrr X0 hCH l0
    revert hg hT8 X V T B TE TW hT9 hI0 hlen hl hrr XB TB KB F0 lifted hCH codeHd N0 l0
    exact hR wd s₀ sg mg mb fa pm cd doc ns sc vs h₁ tk₁ ow ot
noncomputable def Q2 (cs : (World) × (Shared) × (Shared) × (Str → Option Value) × (Str → Option Value) × (Addr) × (Value) × (Value) × (Value) × (List Int) × (Addr) × (List Value) × (Heap) × (Nat) × (Obj) × (Obj)) : Prop := stg.1 (cs.1) (cs.2.1) (cs.2.2.1) (cs.2.2.2.1) (cs.2.2.2.2.1) (cs.2.2.2.2.2.1) (cs.2.2.2.2.2.2.1) (cs.2.2.2.2.2.2.2.1) (cs.2.2.2.2.2.2.2.2.1) (cs.2.2.2.2.2.2.2.2.2.1) (cs.2.2.2.2.2.2.2.2.2.2.1) (cs.2.2.2.2.2.2.2.2.2.2.2.1) (cs.2.2.2.2.2.2.2.2.2.2.2.2.1) (cs.2.2.2.2.2.2.2.2.2.2.2.2.2.1) (cs.2.2.2.2.2.2.2.2.2.2.2.2.2.2.1) (cs.2.2.2.2.2.2.2.2.2.2.2.2.2.2.2)
@[irreducible] noncomputable def cc : (World) × (Shared) × (Shared) × (Str → Option Value) × (Str → Option Value) × (Addr) × (Value) × (Value) × (Value) × (List Int) × (Addr) × (List Value) × (Heap) × (Nat) × (Obj) × (Obj) := eps (by (repeat' first | exact neW | exact neA | exact neS | refine neP ?_ ?_ | infer_instance)) Q2
@[irreducible] noncomputable def wd : World := cc.1
@[irreducible] noncomputable def s₀ : Shared := cc.2.1
@[irreducible] noncomputable def sg : Shared := cc.2.2.1
@[irreducible] noncomputable def mg : Str → Option Value := cc.2.2.2.1
@[irreducible] noncomputable def mb : Str → Option Value := cc.2.2.2.2.1
@[irreducible] noncomputable def fa : Addr := cc.2.2.2.2.2.1
@[irreducible] noncomputable def pm : Value := cc.2.2.2.2.2.2.1
@[irreducible] noncomputable def cd : Value := cc.2.2.2.2.2.2.2.1
@[irreducible] noncomputable def doc : Value := cc.2.2.2.2.2.2.2.2.1
@[irreducible] noncomputable def ns : List Int := cc.2.2.2.2.2.2.2.2.2.1
@[irreducible] noncomputable def sc : Addr := cc.2.2.2.2.2.2.2.2.2.2.1
@[irreducible] noncomputable def vs : List Value := cc.2.2.2.2.2.2.2.2.2.2.2.1
@[irreducible] noncomputable def h₁ : Heap := cc.2.2.2.2.2.2.2.2.2.2.2.2.1
@[irreducible] noncomputable def tk₁ : Nat := cc.2.2.2.2.2.2.2.2.2.2.2.2.2.1
@[irreducible] noncomputable def ow : Obj := cc.2.2.2.2.2.2.2.2.2.2.2.2.2.2.1
@[irreducible] noncomputable def ot : Obj := cc.2.2.2.2.2.2.2.2.2.2.2.2.2.2.2
theorem walk2 : stg.1 wd s₀ sg mg mb fa pm cd doc ns sc vs h₁ tk₁ ow ot := by
  intro hg hT8 X V T B TE TW hT9 hI0 hlen hl hrr XB TB KB F0 lifted hCH codeHd N0 l0
  k_dflt (refine draws_c KB F0 XB TB ktsDicts_nil rfl (lifted.at fun o e => F0.keep _ _ e) hI0 (by omega) (by first | ktr_room | decide) (by first | ktr_units | decide) ?_)
  intro Dd nd d0 d1 d2 d3 d4 t0 t1 t2 t3 t4 h2 tk2 hk2 hD2 hDn
  have N2 := news_add F0 N0 hk2 hDn hD2
  have F2 := fr_keep F0 hk2
  clear F0 N0 hk2
  k_steps
  refine Halt.out ?_
  k_dflt (refine text_c KB (by k_asm) XB TB ktsDicts_nil rfl (by first | ktr_room | decide) (by first | ktr_units | decide) ?_)
  intro text tt h3 tk3 hk3 htl htasc htnl
  have N3 := news_keep (by k_asm) hk3
  have F3 := fr_keep (by k_asm) hk3
  clear hk3
  k_sweep
  have hMk := mark
  k_steps
  refine Halt.out ?_
  rename_i h4 oT F4 N4 hoT
  simp only [List.cons_append, List.nil_append] at N4
  obtain ⟨m₀, F5, hm0⟩ : ∃ m₀, Fr (bs sg) sg.heap.objs.size h4 m₀ ∧ m₀ (Str.ofString "draws") = some (.ref Dd) := ⟨_, F4, rfl⟩
  clear F4
  have hab := F5.above
  obtain ⟨oW, N5⟩ : ∃ oW, News (bs sg) sg.heap.objs.size h4 [(Dd, listOf #[.int d0 t0, .int d1 t1, .int d2 t2, .int d3 t3, .int d4 t4] nd), (sg.heap.objs.size + 1 + 1, oW), (sg.heap.objs.size + 1, oT), (80, tabObj #[]), (118, tabObj #[])] ∧ ∃ v, oW.data = .cell v :=
    ⟨_, news_cons N4 (by k_mem) (news_cons N4 (by k_mem) (news_cons N4 (by k_mem) (news_cons N4 (by k_mem) (news_cons N4 (by k_mem) news_nil)))), _, by assumption⟩
  obtain ⟨N5, vW, hoW⟩ := N5
  clear N4
  k_dflt (refine Comp_any (n := 4) (cl := []) (fun I D i s' => Held (Pk10 fun h tk oI oC mC ys2 n2 ws2 ax nax => Al9 (s' = { sg with heap := h, toks := tk }) (Fr (bs sg) sg.heap.objs.size h m₀) (News (bs sg) sg.heap.objs.size h [(I, oI), (D + 1, oC), (D, listOf (List.toArray ys2) n2), (ax, listOf (List.toArray [.int d1 t1, .int d2 t2, .int d3 t3, .int d4 t4]) nax), (sg.heap.objs.size + 1 + 1, oW), (sg.heap.objs.size + 1, oT), (80, tabObj #[]), (118, tabObj #[])]) (LIterO ax i oI) (LCg.NsObj oC mC) (WordsAt ys2 ws2) ((∀ x ∈ ws2, WordOk x)) (ws2.length = i) ((@LT.lt Nat _ (sg.heap.objs.size + 1 + 1) ax ∧ @LT.lt Nat _ ax I ∧ @LT.lt Nat _ I D)))) rfl (by decide) rfl (by decide) ?_ ?_ ?_ ?_)
  · k_steps
    rename_i ax h6 F6 N6 l6
    k_dflt (refine wpAny_pyIter_list (PySem.IsL.isList (n := 0) (N6 _ (.head _)).1) ⟨_, rfl, fun h7 tk7 hk7 hD7 hC7 => ?_⟩)
    have F7 := fr_keep (F6.push _) hk7
    obtain ⟨oC, hoC, hnC⟩ := LCg.ns_obj hC7
    have hL6 : sg.heap.objs.size < h6.objs.size := F6.ns.lt
    have aax : @LT.lt Nat _ ax h6.objs.size := Heap.lt_size (N6 _ (.head _)).1
    have fr6 : ∀ b : Addr, h6.objs.size ≤ b → b ≠ sg.heap.objs.size ∧ (bs sg).get? b = none := fun b hb => ⟨Nat.ne_of_gt (Nat.lt_of_lt_of_le hL6 hb), Heap.get?_none_of_le (Nat.le_trans F6.above (Nat.le_of_lt (Nat.lt_of_lt_of_le hL6 hb)))⟩
    refine Held.mk ⟨h7, tk7, { cls := .type "list_iterator", data := .fields #[.ref ax, .int 0 0] }, oC, _, [], 0, [], ax, 0, rfl, F7, ?_, ⟨rfl, rfl⟩, hnC, ⟨rfl, fun i x hx => by simp at hx⟩, (fun x hx => by cases hx), rfl, l6.2.1, aax, ?_⟩
    · intro q hq
      rcases List.mem_cons.mp hq with rfl | hq
      · exact ⟨hk7 _ _ (Heap.get?_push_size _ rfl), fr6 _ (Nat.le_refl _)⟩
      rcases List.mem_cons.mp hq with rfl | hq
      · exact ⟨hoC, fr6 _ (by simp only [Heap.size_push]; omega)⟩
      rcases List.mem_cons.mp hq with rfl | hq
      · exact ⟨hD7, fr6 _ (by simp only [Heap.size_push]; omega)⟩
      rcases List.mem_cons.mp hq with rfl | hq
      · have z := N6 _ (.head _)
        exact ⟨hk7 _ _ (Heap.get?_push_of_some _ z.1), z.2⟩
      · have z := N6 q (.tail _ (.tail _ hq))
        exact ⟨hk7 _ _ (Heap.get?_push_of_some _ z.1), z.2⟩
    · simp only [Heap.size_push]; exact Nat.lt_succ_self _
  · rintro I D s₁ Q' E' ⟨h, tk, oI, oC, mC, ys2, n2, ws2, ax, nax, rfl, F₁, N₁, hoI, _, _, _, _, o1, o2, o3⟩ hQ
    exact (Walks.list (prog := _) (w := _) (A := _) (by exact rfl) I ax (Nat.ne_of_lt o2) _).self 0 _ _ _ ⟨⟨oI, (N₁ _ (.head _)).1, hoI⟩, PySem.IsL.isList (n := nax) (N₁ _ (.tail _ (.tail _ (.tail _ (.head _))))).1⟩ hQ
  · rintro I D i s₁ E' hi ⟨h, tk, oI, oC, mC, ys2, n2, ws2, ax, nax, rfl, F₁, N₁, hoI, hnC, hws, hwok, hwl, o1, o2, o3⟩
    k_dflt (refine (Walks.list (prog := _) (w := _) (A := _) (by exact rfl) I ax (Nat.ne_of_lt o2) (List.toArray [.int d1 t1, .int d2 t2, .int d3 t3, .int d4 t4])).item i _ _ _ hi ⟨⟨oI, (N₁ _ (.head _)).1, hoI⟩, PySem.IsL.isList (n := nax) (N₁ _ (.tail _ (.tail _ (.tail _ (.head _))))).1⟩ fun v1 h₁' tk₁' hP hst₁ hk₁ => ?_)
    obtain ⟨dv, tv, rfl⟩ : ∃ d t, v1 = .int d t := by
      have hP' : ([.int d1 t1, .int d2 t2, .int d3 t3, .int d4 t4] : List Value)[i]? = some v1 := by simpa using hP
      have hc : i = 0 ∨ i = 1 ∨ i = 2 ∨ i = 3 := by omega
      rcases hc with rfl | rfl | rfl | rfl <;> exact ⟨_, _, (Option.some.inj hP').symm⟩
    dsimp only
    refine wpAny_of_eq (a := ()) rfl ?_
    have hn₁ : h₁'.Ns (D + 1) mC := by
      obtain ⟨es, ep, hd, r⟩ := hnC
      exact ⟨oC, es, ep, hk₁ _ _ (by simpa using (Nat.ne_of_gt (Nat.lt_succ_of_lt o3))) (N₁ _ (.tail _ (.head _))).1, hd, r⟩
    k_dflt (refine wpAny_assign_Name (wpAny_storeName_local rfl hn₁ (fun h₃ hn₃ hs₃ => ?_) rfl))
    refine wpAny_tests_nil ?_
    simp only [if_true]
    replace hs₃ : Heap.SameBut (D + 1) h₁' h₃ := hs₃
    have up₃ : ∀ b o, @Ne Nat b I → @Ne Nat b (D + 1) → h.get? b = some o → h₃.get? b = some o := fun b o h1 h3 e => (hs₃.2 b h3).trans (hk₁ b o (by simpa using h1) e)
    have hgl : ∀ b o, (bs sg).get? b = some o → @LT.lt Nat _ b sg.heap.objs.size := fun b o e => Nat.lt_of_lt_of_le (Heap.lt_size e) F₁.above
    have F₃ : Fr (bs sg) sg.heap.objs.size h₃ m₀ := by
      obtain ⟨oL, a1, a2, hoL, a3⟩ := F₁.ns
      exact ⟨⟨oL, a1, a2, up₃ _ _ (by omega) (by omega) hoL, a3⟩, fun b o e => by
        have := hgl b o e
        exact up₃ b o (by omega) (by omega) (F₁.keep b o e), F₁.above⟩
    obtain ⟨oC', hoC', hnC'⟩ := LCg.ns_obj hn₃
    obtain ⟨mC', hnC'', hmk⟩ : ∃ mC', LCg.NsObj oC' mC' ∧ mC' (Str.ofString "v") = some (.int dv tv) := ⟨_, hnC', if_pos rfl⟩
    obtain ⟨⟨oI', hoI', hio'⟩, _⟩ := hst₁
    have N₃ : News (bs sg) sg.heap.objs.size h₃ [(I, oI'), (D + 1, oC'), (D, listOf (List.toArray ys2) n2), (ax, listOf (List.toArray [.int d1 t1, .int d2 t2, .int d3 t3, .int d4 t4]) nax), (sg.heap.objs.size + 1 + 1, oW), (sg.heap.objs.size + 1, oT), (80, tabObj #[]), (118, tabObj #[])] := by
      intro q hq
      rcases List.mem_cons.mp hq with rfl | hq
      · exact ⟨(hs₃.2 _ (Nat.ne_of_lt (Nat.lt_succ_of_lt o3))).trans hoI', (N₁ _ (.head _)).2⟩
      rcases List.mem_cons.mp hq with rfl | hq
      · exact ⟨hoC', (N₁ _ (.tail _ (.head _))).2⟩
      · have z := N₁ q (.tail _ (.tail _ hq))
        refine ⟨up₃ _ _ ?_ ?_ z.1, z.2⟩ <;> (refine all6 (P := fun q : Addr × Obj => @Ne Nat q.1 _) ?_ ?_ ?_ ?_ ?_ ?_ q hq <;> (try dsimp only) <;> omega)
    clear F₁ N₁ up₃ hk₁ hn₃ hnC' hnC hn₁ F5 N5
    k_steps
    refine Halt.out ?_
    have hwsl := hws.1
    k_dflt (refine word_c KB F₃ XB TB rfl (by first | ktr_room | decide) (by first | ktr_units | decide) ?_)
    intro x tx h8 tk8 hk8 hx1 hx2 hx3
    have F8 := fr_keep F₃ hk8
    have N8 := news_keep N₃ hk8
    clear hk8 F₃ N₃
    k_steps
    refine Halt.out ?_
    k_dflt (refine append_K (by k_asm) (by k_asm) (by k_upd) ?_ (by rw [List.size_toArray, sizeLine_eq]; omega))
    intro h11 F11 N11
    rw [List.push_toArray] at N11
    k_steps
    refine Held.mk ⟨h11, _, oI', oC', mC', ys2 ++ [_], n2 + 1, ws2 ++ [x], ax, nax, rfl, F11, N11, hio', hnC'', hws.snoc x tx, ?_, ?_, o1, o2, o3⟩
    · intro y hy
      rcases List.mem_append.mp hy with hy | hy
      · exact hwok y hy
      · rw [List.mem_singleton.mp hy]; exact ⟨hx1, hx2, hx3⟩
    · rw [List.length_append, hwl]; rfl
  · rintro I D s₁ E' ⟨h, tk, oI, oC, mC, ys2, n2, ws2, ax, nax, rfl, F₁, N₁, hoI, hnC, hws, hwok, hwl, o1, o2, o3⟩
    k_dflt (refine (Walks.list (prog := _) (w := _) (A := _) (by exact rfl) I ax (Nat.ne_of_lt o2) (List.toArray [.int d1 t1, .int d2 t2, .int d3 t3, .int d4 t4])).done _ _ _ ⟨⟨oI, (N₁ _ (.head _)).1, hoI⟩, PySem.IsL.isList (n := nax) (N₁ _ (.tail _ (.tail _ (.tail _ (.head _))))).1⟩ fun h₁' tk₁' hk₁ => ⟨rfl, ?_, ?_⟩)
    · obtain ⟨es, ep, hd, r⟩ := hnC
      exact ⟨mC, oC, es, ep, hk₁ _ _ (by simpa using (Nat.ne_of_gt (Nat.lt_succ_of_lt o3))) (N₁ _ (.tail _ (.head _))).1, hd, r⟩
    · intro h₂ hsb
      have up : ∀ b o, @Ne Nat b I → @Ne Nat b (D + 1) → h.get? b = some o → h₂.get? b = some o := fun b o h1 h3 e => (hsb.2 b h3).trans (hk₁ b o (by simpa using h1) e)
      have hgl : ∀ b o, (bs sg).get? b = some o → @LT.lt Nat _ b sg.heap.objs.size := fun b o e => Nat.lt_of_lt_of_le (Heap.lt_size e) F₁.above
      have F6 : Fr (bs sg) sg.heap.objs.size h₂ m₀ := by
        obtain ⟨oL, a1, a2, hoL, a3⟩ := F₁.ns
        exact ⟨⟨oL, a1, a2, up _ _ (by omega) (by omega) hoL, a3⟩, fun b o e => by
          have := hgl b o e
          exact up b o (by omega) (by omega) (F₁.keep b o e), F₁.above⟩
      have N6 : News (bs sg) sg.heap.objs.size h₂ [(D, listOf (List.toArray ys2) n2), (sg.heap.objs.size + 1 + 1, oW), (sg.heap.objs.size + 1, oT), (80, tabObj #[]), (118, tabObj #[])] := by
        intro q hq
        rcases List.mem_cons.mp hq with rfl | hq
        · have z := N₁ _ (.tail _ (.tail _ (.head _)))
          exact ⟨up _ _ (by dsimp only; omega) (by dsimp only; omega) z.1, z.2⟩
        · have z := N₁ q (.tail _ (.tail _ (.tail _ (.tail _ hq))))
          refine ⟨up _ _ ?_ ?_ z.1, z.2⟩ <;> (refine all4 (P := fun q : Addr × Obj => @Ne Nat q.1 _) ?_ ?_ ?_ ?_ q hq <;> (try dsimp only) <;> omega)
      have oD : @LT.lt Nat _ (sg.heap.objs.size + 1 + 1) D := by omega
      clear F₁ N₁ up hk₁ hsb F5 N5 hnC hoI
      have hP := plain htl hwok (by omega)
      k_steps
      refine Halt.out ?_
      rename News _ _ _ _ => N7
      rename Fr _ _ _ _ => F7
      rename Obj => oW2
      rename (oW2.data = _) => hoW2
      k_dflt (refine taken_c KB F7 XB TB ktsDicts_nil rfl (news_cons N7 (by k_mem) (news_cons N7 (by k_mem) (news_cons (q := (D, listOf (List.toArray ys2) n2)) N7 (by k_mem) news_nil))) (.inl rfl) htasc htl htnl hP.ok hP.fin hws (by omega) (fun x hx => ⟨(hwok x hx).1.2, (hwok x hx).2.1⟩) (by first | ktr_room | decide) (by first | ktr_units | decide) ?_)
      intro tka n1 tks h9 tk9 P9 hg9 hT9 hn9 hG9
      obtain ⟨⟨p80, hG80⟩, ⟨p118, hG118⟩, -⟩ := hG9
      obtain ⟨g5, TT5, F9, B5, D5, X5, TP5, NN5⟩ := call_ground (K := hd35.heap_39 wd.params) KB F7 N7 ktsDicts_nil XB TB rfl P9 (fun b hb => by
        rcases List.mem_cons.mp hb with rfl | hb
        · have z := N7 (80, tabObj #[]) (by k_mem)
          exact ⟨z.2.2, z.2.1⟩
        · obtain rfl := List.mem_singleton.mp hb
          have z := N7 (118, tabObj #[]) (by k_mem)
          exact ⟨z.2.2, z.2.1⟩)
      have n80 : ∀ b : Addr, @LT.lt Nat _ sg.heap.objs.size b → b ∉ ([80, 118] : List Addr) := fun b hb hm => by
        have hm' : @Eq Nat b 80 ∨ @Eq Nat b 118 := by simpa using hm
        omega
      have n7 : ∀ q : Addr × Obj, q ∈ _ → q.1 ≠ sg.heap.objs.size ∧ g5.get? q.1 = none := fun q hq => ⟨(N7 q hq).2.1, TT5.none_ _ (N7 q hq).2.2⟩
      have N9 : News g5 sg.heap.objs.size h9 [(tka, listOf (List.toArray tks) n1), (80, tabObj p80), (118, tabObj p118), (D, listOf (List.toArray ys2) n2), (sg.heap.objs.size + 1 + 1, oW2), (sg.heap.objs.size + 1, oT)] := by
        intro q hq
        rcases List.mem_cons.mp hq with rfl | hq
        · refine ⟨hg9, fun z => ?_, TT5.none_ _ (kts_none F7.keep hn9)⟩
          obtain ⟨oL, hL, _⟩ := fr_dict F7
          have z' : tka = sg.heap.objs.size := z
          rw [z', hL] at hn9; cases hn9
        rcases List.mem_cons.mp hq with rfl | hq
        · exact ⟨hG80, n7 (80, tabObj #[]) (by k_mem)⟩
        rcases List.mem_cons.mp hq with rfl | hq
        · exact ⟨hG118, n7 (118, tabObj #[]) (by k_mem)⟩
        · refine NN5 q (List.mem_append_left [(80, tabObj #[]), (118, tabObj #[])] hq) (n80 _ ?_)
          simp only [List.mem_cons, List.mem_nil_iff, or_false] at hq
          rcases hq with rfl | rfl | rfl <;> dsimp only <;> omega
      clear NN5 n7 N7 F7 P9
      obtain ⟨tl, N10, hgd, hkg⟩ := sake F9 N9
      simp only [List.cons_append, List.nil_append] at N10
      k_steps
      refine Halt.out ?_
      rename News g5 _ _ _ => N11
      rename Fr g5 _ _ _ => F11
      have hlen9 : (turnsF text ws2 36 (startF text ws2, 0, [])).2.2.length ≤ 40 := (hP.ok 36 (Nat.le_refl _)).2.2.2
      k_dflt (refine Comp_T3 (fun i ys => IntsAre ys (((turnsF text ws2 36 (startF text ws2, 0, [])).2.2.take i).map (·.1))) rfl (by decide) rfl (by decide) rfl rfl rfl (by decide) (by decide) (by decide) rfl F11 N11 (.head _) (by omega) (tds := (turnsF text ws2 36 (startF text ws2, 0, [])).2.2) ?_ ?_ .nil ?_ ?_)
      · intro h' F' N'
        exact (hkg h' _ F' (fun q hq => (N' q (by repeat (first | exact hq | refine .tail _ ?_))).1)).tups hT9
      · intro Q' hq
        exact nameX_L F11 (if_pos rfl) hq
      · intro i d I oI D2 oC mC ys n h tk t1 t2 t3 E' hd hR hnC hma hmb hmc F12 N12 o1 o2
        refine wpAny_tests_nil ?_
        simp only [if_true]
        have hyl := ints_len hR
        clear N11 F11
        k_steps
        refine Held.mk ⟨h, _, rfl, F12, N12, ints_take t1 hR hd, ?_⟩
        rw [hyl, List.length_map, List.length_take]
        omega
      · intro D2 ys n h12 tk12 hR F12 N12 l12
        rw [List.take_length, hP.ends] at hR
        clear N11 F11
        k_steps
        refine Halt.out ?_
        k_dflt (refine ends_c B5 F12 X5 TP5 rfl (news_cons (q := (D, listOf (List.toArray ys2) n2)) N12 (by k_mem) news_nil) htl hws (by omega) (fun x hx => (hwok x hx).1) (by first | ktr_room | decide) (by first | ktr_units | decide) ?_)
        intro D3 n3 vs3 h13 tk13 hk13 hD3 hI3 hn3
        have N13 := news_add F12 N12 hk13 hn3 hD3
        have F13 := fr_keep F12 hk13
        clear N12 F12 hk13
        k_steps
        refine Halt.out ?_
        k_dflt (refine Comp_T3 (fun _ ys => ys = []) rfl (by decide) rfl (by decide) rfl rfl rfl (by decide) (by decide) (by decide) rfl F13 N13 (ax := tka) (tks := tks) (n1 := n1) (by k_mem) (by omega) (tds := (turnsF text ws2 36 (startF text ws2, 0, [])).2.2) ?_ ?_ rfl ?_ ?_)
        · intro h' F' N'
          exact (hkg h' _ F' (fun q hq => (N' q (by repeat (first | exact hq | refine .tail _ ?_))).1)).tups hT9
        · intro Q' hq
          exact nameX_L F13 (if_pos rfl) hq
        · intro i d I oI D4 oC mC ys n h tk t1 t2 t3 E' hd hR hnC hma hmb hmc F14 N14 o1 o2
          subst hR
          obtain ⟨de, db, dk, rfl, q1, q2, q3, q4⟩ := hP.each d (List.mem_of_getElem? hd)
          have hxk : ws2[dk]? = some (ws2.getD dk Str.empty) := by
            rw [List.getD_eq_getElem?_getD, List.getElem?_eq_getElem q1]; rfl
          obtain ⟨tw, htw⟩ := hws.2 dk _ hxk
          dsimp only at hma hmb hmc
          refine wpAny_tests_one ?_
          clear N13 F13
          k_steps
          rename News g5 _ _ _ => N15
          refine Halt.out ?_
          refine sub_at (D := D) (vs := ys2) (n := n2) dk N15 (by k_mem) rfl htw (by have := hws.1; omega) ?_
          k_steps
          all_goals first | exact Held.mk ⟨_, _, rfl, by k_asm, N15, rfl⟩ | (rename ((_ != _) = true) => hne; rw [q4] at hne; simp at hne)
        · intro D4 ys n h14 tk14 hR F14 N14 l14
          subst hR
          have hbs : ∀ b o, (bs sg).get? b = some o → g5.get? b = some o := fun b o e => TT5.other b o e (by simp [frs])
          have F16 := (⟨F14.ns, fun b o e => F14.keep _ _ (hbs b o e), hab⟩ : Fr (bs sg) sg.heap.objs.size h14 _)
          have N16 : News (bs sg) sg.heap.objs.size h14 [(D4, listOf (List.toArray []) n), (80, tabObj p80), (118, tabObj p118)] := fun q hq => by
            have z := (news_cons N14 (.head _) (news_cons N14 (q := (80, tabObj p80)) (by k_mem) (news_cons N14 (q := (118, tabObj p118)) (by k_mem) news_nil))) q hq
            refine ⟨z.1, z.2.1, ?_⟩
            cases hh : (bs sg).get? q.1 with
            | none => rfl
            | some o => rw [hbs _ _ hh] at z; cases z.2.2
          clear N13 F13 N14 F14 hkg hgd hbs B5 D5 X5 TP5 TT5 l12 l14 hD3 hn3
          clear hg9 hT9
          k_steps
theorem q2 : Q2 cc := by
  have h := walk2
  unfold wd s₀ sg mg mb fa pm cd doc ns sc vs h₁ tk₁ ow ot at h
  exact h
theorem all2 : ∀ x, Q2 x := by
  have h := q2
  unfold cc at h
  exact eps_all h
end tt2_k
theorem tt2 : PySem.Challenge.rw_om0035_01.Holds := tt2_k.stg.2 fun wd s₀ sg mg mb fa pm cd doc ns sc vs h₁ tk₁ ow ot => tt2_k.all2 (wd, s₀, sg, mg, mb, fa, pm, cd, doc, ns, sc, vs, h₁, tk₁, ow, ot)
end
end Mine
end

theorem PySem.Challenge.cw_om0035_01_holds : PySem.Challenge.rw_om0035_01.Holds :=
  Mine.tt2
