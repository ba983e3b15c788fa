import PyProof.Rows.All
import Wide.All
import OpenK.AllK
import Wide.FinOn
import KE.KxDecode
import KE.BitLaws
import PySem.Challenge.RW_wz0006_01
set_option Elab.async false
set_option linter.unusedVariables false
set_option linter.unusedSimpArgs false
set_option linter.unnecessarySimpa false
set_option maxRecDepth 100000
set_option tactic.hygienic false
namespace Mine
section
open PySem
/-! small facts of numbers, each proved once, so that no great proof bears a solver's print of it -/

theorem subM {L M R : Nat} (h1 : L ≤ M) (h2 : M ≤ R) : R - L = (M - L) + (R - M) := by rw [Nat.add_comm, Nat.sub_add_sub_cancel h2 h1]
theorem subM_lo {L M R m : Nat} (h1 : L ≤ M) (h2 : M < R) (h : R - L ≤ m + 1) : M - L ≤ m := Nat.le_of_lt_succ (Nat.lt_of_lt_of_le (Nat.sub_lt_sub_right h1 h2) h)
theorem subM_hi {L M R m : Nat} (h1 : L < M) (h2 : M < R) (h : R - L ≤ m + 1) : R - M ≤ m := Nat.le_of_lt_succ (Nat.lt_of_lt_of_le (Nat.sub_lt_sub_left (Nat.lt_trans h1 h2) h1) h)
theorem sub_le' {a b c : Nat} (h : a ≤ c) : a - b ≤ c := Nat.le_trans (Nat.sub_le a b) h
theorem toNat_sub' {a b : Nat} : ((a : Int) - b).toNat = a - b := Int.toNat_sub a b
theorem toNat_sub3 {a : Nat} : (3 - (a : Int)).toNat = 3 - a := Int.toNat_sub 3 a
theorem toNat_sub1 {a b : Nat} : ((a : Int) - b - 1).toNat = a - b - 1 := by rw [Int.sub_sub, show (b : Int) + 1 = ((b + 1 : Nat) : Int) from rfl, Int.toNat_sub, Nat.sub_sub]
theorem sub_succ_lt {i n : Nat} (h : i + 1 ≤ n) : n - (i + 1) < n - i := Nat.sub_lt_sub_left h (Nat.lt_succ_self i)
theorem sub_eq_succ {n i k : Nat} (h : n - i = k + 1) : n - (i + 1) = k := by rw [← Nat.sub_sub, h]; rfl
theorem sub_sub3 {n s i : Nat} (h1 : i ≤ s) (h2 : s ≤ n) : n - (s - i) = n - s + i := by rw [Nat.sub_sub_right n h1, Nat.sub_add_comm h2]
theorem wrd {l m : Nat} (h : l < m) : l + (m - l - 1 + 1) = m := by rw [Nat.sub_add_cancel (Nat.sub_pos_of_lt h), Nat.add_sub_cancel' (Nat.le_of_lt h)]
theorem lt_sub' {i n l : Nat} (h : i + 1 ≤ n - l) : l < n - i := Nat.lt_sub_iff_add_lt.mpr (Nat.add_comm i l ▸ Nat.lt_sub_iff_add_lt.mp h)
theorem sub_split {l n k : Nat} (h : l + n ≤ k) : n + (k - (l + n)) = k - l := by rw [← Nat.sub_sub, Nat.add_sub_cancel' (Nat.le_sub_of_add_le' h)]
theorem beg_eq {r d m : Nat} (h : r ≤ 4096) (e : d + m = r) : 4096 - r + m = 4096 - d := by subst e; rw [Nat.sub_add_eq, Nat.sub_add_cancel (Nat.le_sub_of_add_le' h)]
theorem row_eq {r d m : Nat} (h : r ≤ 4096) (e : d + m = r) : 4096 - r + m + d = 4096 := by rw [beg_eq h e, Nat.sub_add_cancel (Nat.le_trans (e ▸ Nat.le_add_right d m) h)]
theorem if_step {L size i : Nat} (h : i + 1 ≤ size) : (if size - i < L ∧ L ≤ size then 15 else 0) + (if size - i = L then 15 else 0) = if size - (i + 1) < L ∧ L ≤ size then 15 else 0 := by
  have h1 : size - i = size - (i + 1) + 1 := by rw [← Nat.sub_sub, Nat.sub_add_cancel (Nat.sub_pos_of_lt h)]
  have h2 : size - (i + 1) + 1 ≤ size := h1 ▸ Nat.sub_le size i
  rw [h1]
  generalize size - (i + 1) = m at h2
  by_cases e : m + 1 = L
  · subst e
    rw [if_neg fun k => Nat.lt_irrefl _ k.1, if_pos rfl, if_pos ⟨Nat.lt_succ_self m, h2⟩]
  · rw [if_neg e, Nat.add_zero]
    exact ite_congr (propext ⟨fun k => ⟨Nat.lt_of_succ_lt k.1, k.2⟩, fun k => ⟨Nat.lt_of_le_of_ne k.1 e, k.2⟩⟩) (fun _ => rfl) fun _ => rfl
theorem add5 {a b c d e : Nat} : a + b + c + (d + e) = a + (e + b + c) + d := by lia
theorem mid_of {L R : Nat} (h1 : L < R) (hne : L + 1 ≠ R) : ∃ M : Nat, ((L : Int) + R).fdiv (2 ^ (1 : Int).toNat) = (M : Int) ∧ L < M ∧ M < R := by
  refine ⟨(L + R) / 2, ?_, ?_, ?_⟩
  · show ((L : Int) + R).fdiv 2 = _
    rw [Int.fdiv_eq_ediv_of_nonneg _ (by decide)]
    rfl
  · rw [Nat.lt_iff_add_one_le, Nat.le_div_iff_mul_le (by decide), Nat.add_mul, Nat.mul_two, Nat.one_mul, Nat.add_assoc]; exact Nat.add_le_add_left (Nat.lt_of_le_of_ne h1 hne) L
  · rw [Nat.div_lt_iff_lt_mul (by decide), Nat.mul_two]; exact Nat.add_lt_add_right h1 R
theorem mulOk_sub {L M : Nat} {n : Int} (h : M ≤ 1000) (hL : L ≤ M) : PySem.IntMulOk ((M : Int) - L) n := by
  rw [← Int.ofNat_sub hL]
  exact PySem.IntMulOk.of_left (PySem.intBits_le_64 (Int.lt_of_lt_of_le (by decide) (Int.natCast_nonneg _)) (Int.lt_of_le_of_lt (Int.ofNat_le.mpr (sub_le' h)) (by decide)))
theorem s3_lt {n : Nat} : (3 : Int) - n < 100000 := by (first | lia | omega)
theorem s3_gt {n : Nat} (h : n ≤ 3) : (-100000 : Int) < 3 - n := by (first | lia | omega)
theorem d_lt {m l : Nat} (h : m ≤ 3) : (m : Int) - l < 100000 := by (first | lia | omega)
theorem d_gt {m l : Nat} (h : l ≤ 3) : (-100000 : Int) < (m : Int) - l := by (first | lia | omega)
theorem d1_lt {m l : Nat} (h : m ≤ 3) : (m : Int) - l - 1 < 100000 := by (first | lia | omega)
theorem d1_gt {m l : Nat} (h : l ≤ 3) : (-100000 : Int) < (m : Int) - l - 1 := by (first | lia | omega)
theorem le33 {l m n : Nat} (hl : l ≤ 3) (hm : m ≤ 3) (hn : 6 ≤ n := by decide) : l + m ≤ n := Nat.le_trans (Nat.add_le_add hl hm) hn
theorem cap15 {b f i j : Nat} (h1 : f < 1000) (h2 : b ≤ f) (h3 : i ≤ 3) (h4 : j ≤ 1000) : b + 15 * i + j < 100000 := by (first | lia | omega)
theorem lt1k {n : Nat} (h : n ≤ 3) : n < 1000 := Nat.lt_of_le_of_lt h (by decide)
theorem lt1m {n : Nat} (h : n ≤ 3) : (n : Int) < 1000000 := by (first | lia | omega)
theorem maxmin {i n : Nat} : max 0 (min (i : Int) (n : Int)) = ((min i n : Nat) : Int) := by
  rw [Int.max_eq_right (Int.le_min.mpr ⟨Int.natCast_nonneg _, Int.natCast_nonneg _⟩)]
  rcases Nat.le_total i n with h | h
  · rw [Nat.min_eq_left h, Int.min_eq_left (Int.ofNat_le.mpr h)]
  · rw [Nat.min_eq_right h, Int.min_eq_right (Int.ofNat_le.mpr h)]
theorem maxN {i n : Nat} : (max (((min i n : Nat) : Int)) (n : Int)).toNat = n := by rw [Int.max_eq_right (Int.ofNat_le.mpr (Nat.min_le_right i n))]; rfl
theorem i3_lt {i : Nat} (h : i ≤ 3) : (i : Int) < 100000 := Int.ofNat_lt.mpr (Nat.lt_of_le_of_lt h (by decide))
theorem i3_gt {i : Nat} : (-100000 : Int) < (i : Int) := Int.lt_of_lt_of_le (by decide) (Int.natCast_nonneg i)
theorem cap_stem {l i j : Nat} (h1 : l ≤ 15 * i) (h2 : i ≤ 3) (h3 : j ≤ 16) : l + j < 100000 := Nat.lt_of_le_of_lt (Nat.add_le_add (Nat.le_trans h1 (Nat.mul_le_mul_left 15 h2)) h3) (by decide)
theorem lt6 {n : Nat} (h : n < 1000) : n < 1000000 := Nat.lt_trans h (by decide)
end
section
open PySem PySem.Calls PyProof.Rows PySem.W

noncomputable abbrev prog : Program := PySem.Challenge.pw_wz0006_01

structure Wo where
  w : World
  h0 : Heap
  mg : Str → Option Value
  mb : Str → Option Value

noncomputable def srcIn (l : List Stmt) (n : Str) : Option (Arguments × List Stmt × Scope) :=
  l.findSome? fun st => match st with
    | .FunctionDef name args body _ _ _ scope _ _ _ => if name == n then some (args, body, scope) else none
    | _ => none
noncomputable def accBody : List Stmt := (prog.main.body.findSome? fun st => match st with
    | .ClassDef name _ _ body _ _ _ _ _ _ _ => if name == ("_Accumulator" : Str) then some body else none
    | _ => none).getD []

structure FnAt (h : Heap) (sr : Option (Arguments × List Stmt × Scope)) (n q : Str) (a c : Addr) (cl : List (Str × Addr)) (dV : Value) : Prop where
  obj : ∃ fd, h.get? a = some { cls := .type "function", data := .func fd } ∧ fd.name = n ∧ fd.qualname = q ∧ sr = some (fd.params, (match fd.body with | .stmts b => b | .expr _ => []), fd.scope) ∧
    (∃ b, fd.body = .stmts b) ∧ fd.closure = cl ∧ fd.globals = mainGlobals ∧ fd.builtins = builtinsNs ∧ fd.defaults = dV ∧ fd.kwdefaults = .none ∧ fd.code = .ref c
  code : h.CodeRec (.ref c) q

noncomputable def tabAddrs : List Addr := [62, 69, 120, 127]
noncomputable def TabOk (h : Heap) (c P : Addr) (pos : Pos) (q : Str) : Prop :=
  ∃ ps, h.IsCode c P ps ∧ h.TableAt c P ps ∧ (ps = #[] ∨ ∃ c', ps = #[rawInt pos.line, rawInt pos.col, .ref c'] ∧ h.CodeRec (.ref c') q ∧ ∃ o, h.get? c' = some o ∧ o.cls = .type "code")

noncomputable def tabList : List (Addr × Addr × Pos × Str) :=
  [(66, 62, ⟨24, 19, 24, 63⟩, "_Accumulator.__len__.<locals>.<genexpr>"), (73, 69, ⟨27, 32, 27, 85⟩, "_Accumulator.__str__.<locals>.<genexpr>"),
   (124, 120, ⟨68, 4, 77, 28⟩, "_int2digits.<locals>.inner"), (131, 127, ⟨83, 4, 88, 55⟩, "_digits2int.<locals>.inner")]

structure Wo.Ok (V : Wo) : Prop where
  g : V.h0.Ns mainGlobals V.mg
  b : V.h0.Ns builtinsNs V.mb
  nolimit : V.h0.NoLimit

structure GI (V : Wo) (s : Shared) : Prop where
  ok : V.Ok
  keep : ∀ b o, V.h0.get? b = some o → s.heap.get? b = some o
  tab : ∀ t ∈ tabList, TabOk s.heap t.1 t.2.1 t.2.2.1 t.2.2.2
  bare : AllBare s.gens
  off : ∀ P ∈ tabAddrs, V.h0.get? P = none

structure Ok (V : Wo) (s s' : Shared) : Prop where
  keep : ∀ b o, b ∉ tabAddrs → s.heap.get? b = some o → s'.heap.get? b = some o
  there : ∀ b o, s.heap.get? b = some o → ∃ o', s'.heap.get? b = some o'
  os : s'.os = s.os
  gi : GI V s'

structure Fit (A : Around) (k : Nat) : Prop where
  handled : A.handled = none
  depth : A.depth + 2 * k < 990
  units : A.units + 40 * k < 9800

theorem Fit.mono {A : Around} {k k' : Nat} (h : Fit A k) (hk : k' ≤ k) : Fit A k' := ⟨h.handled, by have := h.depth; (first | lia | omega), by have := h.units; (first | lia | omega)⟩
theorem Fit.deeper {A : Around} {k : Nat} (h : Fit A (k + 1)) (env : Env) : Fit (A.deeper env) k :=
  ⟨h.handled, by have := h.depth; simp only [Around.deeper]; (first | lia | omega), by have := h.units; simp only [Around.deeper]; (first | lia | omega)⟩
theorem Fit.room {A : Around} {k : Nat} (h : Fit A k) : A.depth < recursionLimit := by have := h.depth; simp only [recursionLimit]; (first | lia | omega)
theorem Fit.line {A : Around} {k : Nat} (h : Fit A k) : A.units < cLine := by have := h.units; simp only [cLine]; (first | lia | omega)

theorem Ok.refl {V : Wo} {s : Shared} (g : GI V s) : Ok V s s := ⟨fun _ _ _ e => e, fun _ o e => ⟨o, e⟩, rfl, g⟩
theorem Ok.trans {V : Wo} {s s' s'' : Shared} (a : Ok V s s') (b : Ok V s' s'') : Ok V s s'' :=
  ⟨fun c o hc e => b.keep c o hc (a.keep c o hc e), fun c o e => let ⟨o', e'⟩ := a.there c o e; b.there c o' e', b.os.trans a.os, b.gi⟩

theorem TabOk.keeps {h h' : Heap} {c P : Addr} {pos : Pos} {q : Str} (x : TabOk h c P pos q) (hk : ∀ b o, h.get? b = some o → h'.get? b = some o) : TabOk h' c P pos q := by
  obtain ⟨ps, h1, h2, h3⟩ := x
  refine ⟨ps, h1.keeps hk, h2.keeps hk, ?_⟩
  rcases h3 with h3 | ⟨c', e, r, o, ho, hc⟩
  · exact .inl h3
  · exact .inr ⟨c', e, r.keeps hk, o, hk _ _ ho, hc⟩

theorem GI.keeps {V : Wo} {s s' : Shared} (g : GI V s) (hk : ∀ b o, s.heap.get? b = some o → s'.heap.get? b = some o) (hg : AllBare s'.gens) : GI V s' :=
  ⟨g.ok, fun b o e => hk b o (g.keep b o e), fun t ht => (g.tab t ht).keeps hk, hg, g.off⟩
theorem Ok.grow {V : Wo} {s : Shared} {h' : Heap} {tk : Nat} (g : GI V s) (hk : ∀ b o, s.heap.get? b = some o → h'.get? b = some o) : Ok V s { s with heap := h', toks := tk } :=
  ⟨fun b o _ e => hk b o e, fun b o e => ⟨o, hk b o e⟩, rfl, g.keeps hk g.bare⟩
theorem Ok.tok {V : Wo} {s : Shared} {tk : Nat} (g : GI V s) : Ok V s { s with toks := tk } := Ok.grow (h' := s.heap) g fun _ _ e => e

inductive At where
  | none
  | bool (b : Bool)
  | int (i : Int)
  | str (l : List Nat)
  | bytes (l : List UInt8)
  deriving DecidableEq
noncomputable def At.is : At → Value → Prop
  | .none, v => v = .none
  | .bool b, v => v = .bool b
  | .int i, v => ∃ t, v = .int i t
  | .str l, v => ∃ t, v = .str ⟨l.toArray⟩ t
  | .bytes l, v => ∃ t, v = .bytes l.toArray t
noncomputable def Ats : List At → List Value → Prop
  | [], vs => vs = []
  | a :: r, vs => ∃ v t, vs = v :: t ∧ a.is v ∧ Ats r t
inductive It where
  | at (a : At)
  | tup (l : List At)
  deriving DecidableEq
noncomputable def It.is (h : Heap) : It → Value → Prop
  | .at a, v => a.is v
  | .tup l, v => ∃ T vs, v = .ref T ∧ h.IsTuple T vs ∧ Ats l vs.toList
noncomputable def Its (h : Heap) : List It → List Value → Prop
  | [], vs => vs = []
  | a :: r, vs => ∃ v t, vs = v :: t ∧ a.is h v ∧ Its h r t
inductive PV where
  | it (i : It)
  | list (l : List It)
    | own (a : Addr) (l : List It)
    | fn (f : Addr)
    | acc (a d : Addr) (first : Int) (l : List (List Nat × List Nat))
  deriving DecidableEq
noncomputable def accItems (l : List (List Nat × List Nat)) : List It := l.map fun p => .tup [.str p.1, .str p.2]
noncomputable def accCls : Addr := 100
noncomputable def accObj (d : Addr) (vs : Array Value) (n : Nat) : Obj := { cls := .ref accCls, dict := some d, data := .seq vs n }
noncomputable def PV.is (h : Heap) : PV → Value → Prop
  | .it i, v => i.is h v
  | .list l, v => ∃ a vs n, v = .ref a ∧ h.get? a = some { cls := .type "list", data := .seq vs n } ∧ Its h l vs.toList
  | .own a l, v => ∃ vs n, v = .ref a ∧ h.get? a = some { cls := .type "list", data := .seq vs n } ∧ Its h l vs.toList
  | .fn f, v => v = .ref f
  | .acc a d first l, v => ∃ vs n es k t, v = .ref a ∧ h.get? a = some (accObj d vs n) ∧ Its h (accItems l) vs.toList ∧
      h.get? d = some { cls := .type "dict", data := .dict es k } ∧ StrKeys es ∧ (∀ x, nsFind es x = if x = ("_initial_size" : Str) then some (.int first t) else none)


theorem Its.length {h : Heap} : ∀ {l : List It} {vs : List Value}, Its h l vs → vs.length = l.length
  | [], _, e => by rw [show _ = [] from e]; rfl
  | a :: r, _, ⟨v, t, e, _, ht⟩ => by rw [e, List.length_cons, List.length_cons, Its.length ht]
theorem Ats.length : ∀ {l : List At} {vs : List Value}, Ats l vs → vs.length = l.length
  | [], _, e => by rw [show _ = [] from e]; rfl
  | a :: r, _, ⟨v, t, e, _, ht⟩ => by rw [e, List.length_cons, List.length_cons, Ats.length ht]
theorem It.keeps {h h' : Heap} (k : ∀ b o, (∃ vs n, o.data = .seq vs n) → o.cls = .type "tuple" → h.get? b = some o → h'.get? b = some o) {i : It} {v : Value} (x : i.is h v) : i.is h' v := by
  cases i with
  | «at» _ => exact x
  | tup _ =>
    obtain ⟨T, vs, e, ⟨o, ho, hc, n, hd⟩, ha⟩ := x
    exact ⟨T, vs, e, ⟨o, k _ _ ⟨vs, n, hd⟩ hc ho, hc, n, hd⟩, ha⟩
theorem Its.keeps {h h' : Heap} (k : ∀ b o, (∃ vs n, o.data = .seq vs n) → o.cls = .type "tuple" → h.get? b = some o → h'.get? b = some o) : ∀ {l : List It} {vs : List Value}, Its h l vs → Its h' l vs
  | [], _, x => x
  | _ :: _, _, ⟨v, t, e, hv, ht⟩ => ⟨v, t, e, It.keeps k hv, Its.keeps k ht⟩
theorem Its.get {h : Heap} : ∀ {l : List It} {vs : List Value}, Its h l vs → ∀ {i : Nat} {x : It}, l[i]? = some x → ∃ v, vs[i]? = some v ∧ x.is h v
  | [], _, _, i, x, e => by simp at e
  | a :: r, _, ⟨v, t, e, hv, ht⟩, 0, x, e' => by
    subst e
    simp only [List.getElem?_cons_zero, Option.some.injEq] at e'
    exact ⟨v, rfl, e' ▸ hv⟩
  | a :: r, _, ⟨v, t, e, hv, ht⟩, i + 1, x, e' => by
    subst e
    simp only [List.getElem?_cons_succ] at e' ⊢
    exact Its.get ht e'
theorem Its.append {h : Heap} : ∀ {l l' : List It} {vs vs' : List Value}, Its h l vs → Its h l' vs' → Its h (l ++ l') (vs ++ vs')
  | [], _, _, _, e, x => by rw [show _ = [] from e]; exact x
  | a :: r, l', _, vs', ⟨v, t, e, hv, ht⟩, x => by subst e; exact ⟨v, t ++ vs', rfl, hv, Its.append ht x⟩
theorem Its.take {h : Heap} {l : List It} {vs : List Value} (x : Its h l vs) (n : Nat) : Its h (l.take n) (vs.take n) := by
  induction n generalizing l vs with
  | zero => rfl
  | succ n ih => cases l with
    | nil => rw [show vs = [] from x]; rfl
    | cons a r => obtain ⟨v, t, e, hv, ht⟩ := x; subst e; exact ⟨v, t.take n, rfl, hv, ih ht⟩
theorem Its.drop {h : Heap} {l : List It} {vs : List Value} (x : Its h l vs) (n : Nat) : Its h (l.drop n) (vs.drop n) := by
  induction n generalizing l vs with
  | zero => exact x
  | succ n ih => cases l with
    | nil => rw [show vs = [] from x]; rfl
    | cons a r => obtain ⟨v, t, e, hv, ht⟩ := x; subst e; exact ih ht
theorem Its.snoc {h : Heap} {l : List It} {vs : List Value} {x : It} {v : Value} (a : Its h l vs) (b : x.is h v) : Its h (l ++ [x]) (vs ++ [v]) := a.append ⟨v, [], rfl, b, rfl⟩

theorem PV.keeps {h h' : Heap} (k : ∀ b o, (∃ vs n, o.data = .seq vs n) ∨ o.cls = .type "dict" → h.get? b = some o → h'.get? b = some o) {p : PV} {v : Value} (x : p.is h v) : p.is h' v := by
  have ki : ∀ b o, (∃ vs n, o.data = .seq vs n) → o.cls = .type "tuple" → h.get? b = some o → h'.get? b = some o := fun b o hd _ e => k b o (.inl hd) e
  cases p with
  | it _ => exact It.keeps ki x
  | list _ => obtain ⟨a, vs, n, e, ho, hi⟩ := x; exact ⟨a, vs, n, e, k _ _ (.inl ⟨vs, n, rfl⟩) ho, hi.keeps ki⟩
  | own _ _ => obtain ⟨vs, n, e, ho, hi⟩ := x; exact ⟨vs, n, e, k _ _ (.inl ⟨vs, n, rfl⟩) ho, hi.keeps ki⟩
  | fn _ => exact x
  | acc _ _ _ _ =>
    obtain ⟨vs, n, es, m, t, e, ho, hi, hd, hk, hf⟩ := x
    exact ⟨vs, n, es, m, t, e, k _ _ (.inl ⟨vs, n, rfl⟩) ho, hi.keeps ki, k _ _ (.inr rfl) hd, hk, hf⟩
noncomputable def isStarB : Expr → Bool
  | .Starred .. => true
  | _ => false
theorem ns {e : Expr} (h : isStarB e = false) : ∀ x q, e ≠ .Starred x q := fun x q k => by rw [k] at h; cases h
noncomputable def PV.isItB : PV → Bool
  | .it _ => true
  | _ => false
theorem nIt {p : PV} (h : p.isItB = false) : ∀ i, p ≠ .it i := fun i k => by rw [k] at h; cases h
noncomputable def PV.isAccB : PV → Bool
  | .acc .. => true
  | _ => false
theorem nAcc {p : PV} (h : p.isAccB = false) : ∀ a d f l, p ≠ .acc a d f l := fun a d f l k => by rw [k] at h; cases h
end
section
open PySem PySem.Calls PyProof.Rows PySem.W

theorem TabOk.data {h : Heap} {c P : Addr} {pos : Pos} {q : Str} (x : TabOk h c P pos q) : ∃ ps, h.get? P = some { cls := .none, data := .fields ps } := let ⟨ps, _, t, _⟩ := x; ⟨ps, t.2⟩
theorem GI.tabObj {V : Wo} {s : Shared} (g : GI V s) {b : Addr} (hb : b ∈ tabAddrs) : ∃ ps, s.heap.get? b = some { cls := .none, data := .fields ps } := by
  have h62 := (g.tab _ (by unfold tabList; exact .head _)).data
  have h69 := (g.tab _ (by unfold tabList; exact .tail _ (.head _))).data
  have h120 := (g.tab _ (by unfold tabList; exact .tail _ (.tail _ (.head _)))).data
  have h127 := (g.tab _ (by unfold tabList; exact .tail _ (.tail _ (.tail _ (.head _))))).data
  simp only [tabAddrs, List.mem_cons, List.not_mem_nil, or_false] at hb
  rcases hb with rfl | rfl | rfl | rfl
  · exact h62
  · exact h69
  · exact h120
  · exact h127
theorem GI.notTab {V : Wo} {s : Shared} (g : GI V s) {b : Addr} {o : Obj} (e : s.heap.get? b = some o) (hd : ∀ vs, o.data ≠ .fields vs) : b ∉ tabAddrs := fun hb => by
  obtain ⟨ps, e'⟩ := g.tabObj hb
  rw [e] at e'
  cases e'
  exact hd _ rfl
theorem GI.notTabC {V : Wo} {s : Shared} (g : GI V s) {b : Addr} {o : Obj} (e : s.heap.get? b = some o) (hc : o.cls ≠ .none) : b ∉ tabAddrs := fun hb => by
  obtain ⟨ps, e'⟩ := g.tabObj hb
  rw [e] at e'
  cases e'
  exact hc rfl
theorem Ok.at {V : Wo} {s s' : Shared} (k : Ok V s s') (g : GI V s) {b : Addr} {o : Obj} (e : s.heap.get? b = some o) (hd : ∀ vs, o.data ≠ .fields vs) : s'.heap.get? b = some o := k.keep b o (g.notTab e hd) e
theorem Ok.atC {V : Wo} {s s' : Shared} (k : Ok V s s') (g : GI V s) {b : Addr} {o : Obj} (e : s.heap.get? b = some o) (hc : o.cls ≠ .none) : s'.heap.get? b = some o := k.keep b o (g.notTabC e hc) e
theorem Ok.ns {V : Wo} {s s' : Shared} (k : Ok V s s') (g : GI V s) {a : Addr} {m : Str → Option Value} (x : s.heap.Ns a m) : s'.heap.Ns a m := by
  obtain ⟨o, es, ep, ho, hd, r⟩ := x
  exact ⟨o, es, ep, k.at g ho (fun vs e => by rw [hd] at e; cases e), hd, r⟩
theorem Ok.cell {V : Wo} {s s' : Shared} (k : Ok V s s') (g : GI V s) {a : Addr} {v : Option Value} (x : s.heap.IsCell a v) : s'.heap.IsCell a v := by
  obtain ⟨o, ho, hd⟩ := x
  exact ⟨o, k.at g ho (fun vs e => by rw [hd] at e; cases e), hd⟩
theorem Ok.pv {V : Wo} {s s' : Shared} (k : Ok V s s') (g : GI V s) {p : PV} {v : Value} (x : p.is s.heap v) : p.is s'.heap v :=
  PV.keeps (fun b o hd e => by
    rcases hd with ⟨vs, n, hd⟩ | hc
    · exact k.at g e (fun vs e' => by rw [hd] at e'; cases e')
    · exact k.atC g e (by rw [hc]; nofun)) x
theorem Ok.it {V : Wo} {s s' : Shared} (k : Ok V s s') (g : GI V s) {p : It} {v : Value} (x : p.is s.heap v) : p.is s'.heap v := k.pv (p := .it p) g x
theorem Ok.its {V : Wo} {s s' : Shared} (k : Ok V s s') (g : GI V s) {p : List It} {v : List Value} (x : Its s.heap p v) : Its s'.heap p v :=
  Its.keeps (fun b o hd _ e => by
    obtain ⟨vs, n, hd⟩ := hd
    exact k.at g e (fun vs e' => by rw [hd] at e'; cases e')) x
theorem Ok.fresh {V : Wo} {s s' : Shared} (k : Ok V s s') {a : Addr} (x : s'.heap.get? a = none) : s.heap.get? a = none := by
  cases e : s.heap.get? a with
  | none => rfl
  | some o => obtain ⟨o', e'⟩ := k.there a o e; rw [x] at e'; cases e'

noncomputable def Lk (env : Env) (h : Heap) (x : Str) (v : Value) : Prop :=
  (env.kindOf x = some .local ∧ ∃ m, h.Ns env.locals m ∧ m x = some v) ∨
  ((env.kindOf x = some .cell ∨ env.kindOf x = some .free) ∧ ∃ c, env.cells.lookup x = some c ∧ h.IsCell c (some v))

noncomputable abbrev Vars := Str → Option PV
noncomputable def up (ρ : Vars) (x : Str) (p : PV) : Vars := fun y => if y = x then some p else ρ y

structure REnv (K : List (Str × NameKind)) (env : Env) (h : Heap) (ρ : Vars) : Prop where
  kind : env.scope.kind = .function
  names : env.scope.names = K
  glob : env.globals = mainGlobals
  blt : env.builtins = builtinsNs
  vars : ∀ x p, ρ x = some p → ∃ v, Lk env h x v ∧ p.is h v

theorem REnv.ok {V : Wo} {s s' : Shared} {K} {env : Env} {ρ : Vars} (R : REnv K env s.heap ρ) (g : GI V s) (k : Ok V s s') : REnv K env s'.heap ρ :=
  ⟨R.kind, R.names, R.glob, R.blt, fun x p e => by
    obtain ⟨v, l, i⟩ := R.vars x p e
    refine ⟨v, ?_, k.pv g i⟩
    rcases l with ⟨hk, m, hn, hm⟩ | ⟨hk, c, hc, hv⟩
    · exact .inl ⟨hk, m, k.ns g hn, hm⟩
    · exact .inr ⟨hk, c, hc, k.cell g hv⟩⟩

noncomputable def Fresh (s : Shared) (v : Value) (p : PV) : Prop := ∀ a, (∀ i, p ≠ .it i) → v = .ref a → s.heap.get? a = none
theorem Fresh.it {s : Shared} {v : Value} {i : It} : Fresh s v (.it i) := fun _ e => absurd rfl (e _)
theorem Fresh.ok {V : Wo} {s s' : Shared} {v : Value} {p : PV} (k : Ok V s s') (f : Fresh s' v p) : Fresh s v p := fun a e e' => k.fresh (f a e e')

noncomputable abbrev No : Value → Shared → Prop := fun _ _ => False
noncomputable def Gv (V : Wo) (A : Around) (t : Sem Value) (fr : Bool) (p : PV) (s : Shared) : Prop :=
  wpAny (model prog V.w) A t (fun v s' => Ok V s s' ∧ p.is s'.heap v ∧ (fr = true → Fresh s v p)) No s

noncomputable def EV (V : Wo) (k : Nat) (fr : Bool) (K : List (Str × NameKind)) (ρ : Vars) (e : Expr) (p : PV) : Prop :=
  ∀ (A : Around) (env : Env) (s : Shared), Fit A k → GI V s → REnv K env s.heap ρ → Gv V A (eval e env) fr p s
noncomputable def ET (V : Wo) (k : Nat) (K : List (Str × NameKind)) (ρ : Vars) (e : Expr) (b : Bool) : Prop :=
  ∀ (A : Around) (env : Env) (s : Shared), Fit A k → GI V s → REnv K env s.heap ρ →
    wpAny (model prog V.w) A (isTrue e env (eval e env)) (fun c s' => c = b ∧ Ok V s s') No s

section
variable {V : Wo} {k : Nat} {fr : Bool} {K : List (Str × NameKind)} {ρ : Vars}

theorem EV.weak {e : Expr} {p : PV} (h : EV V k true K ρ e p) : EV V k fr K ρ e p := fun A env s F g R =>
  wpAny_mono (h A env s F g R) (fun _ _ x => ⟨x.1, x.2.1, fun _ => x.2.2 rfl⟩) fun _ _ x => x
theorem EV.toFr {e : Expr} {i : It} {f : Bool} (h : EV V k f K ρ e (.it i)) : EV V k fr K ρ e (.it i) := fun A env s F g R =>
  wpAny_mono (h A env s F g R) (fun _ _ x => ⟨x.1, x.2.1, fun _ => Fresh.it⟩) fun _ _ x => x

theorem wp_name {A : Around} {env : Env} {s : Shared} {E : Value → Shared → Prop} {x : Str} {pos : Pos} {v : Value} {Q : Value → Shared → Prop} (hk : env.scope.kind = .function) (l : Lk env s.heap x v) (h : Q v s)
    (hd : (x == ("__debug__" : Str)) = false) (hn : (x == ("__classdict__" : Str)) = false) : wpAny (model prog V.w) A (eval (.Name x pos) env) Q E s := by
  refine wpAny_Name ?_ hd
  rcases l with ⟨hl, m, hns, hm⟩ | ⟨hl | hl, c, hc, hv⟩
  · exact wpAny_loadName_local hk hl hns hm h
  · exact wpAny_loadName_cell hk hl hc hv h
  · exact wpAny_loadName_free hk hl hc hv h hn

theorem EV.name {x : Str} {pos : Pos} {p : PV} (e : ρ x = some p) (hd : (x == ("__debug__" : Str)) = false := by decide) (hn : (x == ("__classdict__" : Str)) = false := by decide) :
    EV V k false K ρ (.Name x pos) p := fun A env s F g R => by
  obtain ⟨v, l, i⟩ := R.vars x p e
  exact wp_name R.kind l ⟨.refl g, i, fun e => (by cases e)⟩ hd hn
theorem EV.nameIt {x : Str} {pos : Pos} {i : It} (e : ρ x = some (.it i)) (hd : (x == ("__debug__" : Str)) = false := by decide) (hn : (x == ("__classdict__" : Str)) = false := by decide) :
    EV V k fr K ρ (.Name x pos) (.it i) := (EV.name e hd hn).toFr

theorem EV.int {i : Int} {u : Nat} {pos : Pos} : EV V k fr K ρ (.Constant (.int i) u pos) (.it (.at (.int i))) := fun _ _ _ _ g _ =>
  fun _ _ _ => ⟨Ok.tok g, ⟨_, rfl⟩, fun _ => Fresh.it⟩
theorem EV.str {x : Str} {l : List Nat} {u : Nat} {pos : Pos} (e : x = ⟨l.toArray⟩ := by rfl) : EV V k fr K ρ (.Constant (.str x) u pos) (.it (.at (.str l))) := fun _ _ _ _ g _ => by
  subst e
  exact fun _ _ _ => ⟨Ok.tok g, ⟨_, rfl⟩, fun _ => Fresh.it⟩
theorem EV.none {u : Nat} {pos : Pos} : EV V k fr K ρ (.Constant .none u pos) (.it (.at .none)) := fun _ _ _ _ g _ =>
  wpAny_pure ⟨.refl g, rfl, fun _ => Fresh.it⟩
theorem EV.bytes {b : List UInt8} {u : Nat} {pos : Pos} : EV V k fr K ρ (.Constant (.bytes b) u pos) (.it (.at (.bytes b))) := fun _ _ _ _ g _ =>
  fun _ _ _ => ⟨Ok.tok g, ⟨_, rfl⟩, fun _ => Fresh.it⟩

noncomputable def Bi (V : Wo) (k : Nat) (t : Value → Value → Sem Value) (p q r : PV) : Prop :=
  ∀ (A : Around) (s : Shared) (a b : Value), Fit A k → GI V s → p.is s.heap a → q.is s.heap b → Gv V A (t a b) true r s
noncomputable def Un (V : Wo) (k : Nat) (t : Value → Sem Value) (p r : PV) : Prop :=
  ∀ (A : Around) (s : Shared) (a : Value), Fit A k → GI V s → p.is s.heap a → Gv V A (t a) true r s

theorem wp_two {A : Around} {env : Env} {s : Shared} {l r : Expr} {p q : PV} {α : Type} {t : Value → Value → Sem α} {Q : α → Shared → Prop} (F : Fit A k) (g : GI V s) (R : REnv K env s.heap ρ)
    (hl : EV V k false K ρ l p) (hr : EV V k false K ρ r q) (h : ∀ a b s', Ok V s s' → p.is s'.heap a → q.is s'.heap b → wpAny (model prog V.w) A (t a b) Q No s') :
    wpAny (model prog V.w) A (eval l env) (fun a s1 => wpAny (model prog V.w) A (eval r env) (fun b s2 => wpAny (model prog V.w) A (t a b) Q No s2) No s1) No s := by
  refine wpAny_mono (hl A env s F g R) (fun a s1 h1 => ?_) fun _ _ x => x
  refine wpAny_mono (hr A env s1 F h1.1.gi (R.ok g h1.1)) (fun b s2 h2 => ?_) fun _ _ x => x
  exact h a b s2 (h1.1.trans h2.1) (h2.1.pv h1.1.gi h1.2.1) h2.2.1

theorem EV.bin {l r : Expr} {op : Operator} {pos : Pos} {p q z : PV} (hl : EV V k false K ρ l p) (hr : EV V k false K ρ r q) (h : Bi V k (binaryOp op) p q z) : EV V k fr K ρ (.BinOp l op r pos) z :=
  EV.weak fun A env s F g R => wpAny_BinOp (wp_two F g R hl hr fun a b s' o ha hb =>
    wpAny_mono (h A s' a b F o.gi ha hb) (fun v s'' x => ⟨o.trans x.1, x.2.1, fun _ => (x.2.2 rfl).ok o⟩) fun _ _ x => x)
theorem EV.un {x : Expr} {op : UnaryOp} {pos : Pos} {p z : PV} (hx : EV V k false K ρ x p) (h : Un V k (unaryOp op) p z) : EV V k fr K ρ (.UnaryOp op x pos) z :=
  EV.weak fun A env s F g R => by
    show wpAny _ A (do let v ← eval x env; standAt pos; holding [v] (unaryOp op v)) _ _ s
    refine wpAny_bind (wpAny_mono (hx A env s F g R) (fun a s1 h1 => wpAny_bind (wpAny_standAt (wpAny_holding ?_))) fun _ _ x => x)
    exact wpAny_mono (h A s1 a F h1.1.gi h1.2.1) (fun v s'' x => ⟨h1.1.trans x.1, x.2.1, fun _ => (x.2.2 rfl).ok h1.1⟩) fun _ _ x => x
theorem EV.cmp {l r : Expr} {op : CmpOp} {pos : Pos} {p q : PV} {b : Bool} (hl : EV V k false K ρ l p) (hr : EV V k false K ρ r q) (h : Bi V k (compareOp op) p q (.it (.at (.bool b))))
    (hm : behindInMarks op r = false := by with_unfolding_all rfl) : EV V k fr K ρ (.Compare l [op] [r] pos) (.it (.at (.bool b))) :=
  EV.weak fun A env s F g R => wpAny_Compare1 (hm := hm) (wp_two F g R hl hr fun a c s' o ha hb =>
    wpAny_mono (h A s' a c F o.gi ha hb) (fun v s'' x => ⟨o.trans x.1, x.2.1, fun _ => Fresh.it⟩) fun _ _ x => x)
theorem ET.cmp {l r : Expr} {op : CmpOp} {pos : Pos} {p q : PV} {b : Bool} (hl : EV V k false K ρ l p) (hr : EV V k false K ρ r q) (h : Bi V k (compareOp op) p q (.it (.at (.bool b))))
    (hm : behindInMarks op r = false := by with_unfolding_all rfl) : ET V k K ρ (.Compare l [op] [r] pos) b :=
  fun A env s F g R => wpAny_isTrue_Compare1 (hm := hm) (wp_two F g R hl hr fun a c s' o ha hb =>
    wpAny_mono (h A s' a c F o.gi ha hb) (fun v s'' x => by
      obtain ⟨x1, x2, _⟩ := x
      rw [show v = .bool b from x2]
      exact wpAny_truthy_bool ⟨rfl, o.trans x1⟩) fun _ _ x => x)
theorem ET.not {x : Expr} {pos : Pos} {b : Bool} (h : ET V k K ρ x b) : ET V k K ρ (.UnaryOp .Not x pos) (!b) := fun A env s F g R => by
  show wpAny _ A (do return !(← isTrue x env (eval x env))) _ _ s
  exact wpAny_bind (wpAny_mono (h A env s F g R) (fun c s' x => wpAny_pure ⟨by rw [x.1], x.2⟩) fun _ _ x => x)
theorem ET.and {x y : Expr} {pos : Pos} {b c : Bool} (hx : ET V k K ρ x b) (hy : b = true → ET V k K ρ y c) : ET V k K ρ (.BoolOp .And [x, y] pos) (b && c) := fun A env s F g R => by
  show wpAny _ A (allTrue .And [x, y] env) _ _ s
  unfold allTrue
  refine wpAny_bind (wpAny_mono (hx A env s F g R) (fun b' s1 h1 => ?_) fun _ _ x => x)
  obtain ⟨rfl, o1⟩ := h1
  cases b' with
  | false => exact wpAny_pure ⟨rfl, o1⟩
  | true =>
    dsimp only
    unfold allTrue
    refine wpAny_bind (wpAny_mono (hy rfl A env s1 F o1.gi (R.ok g o1)) (fun c' s2 h2 => ?_) fun _ _ x => x)
    obtain ⟨rfl, o2⟩ := h2
    cases c' with
    | false => exact wpAny_pure ⟨rfl, o1.trans o2⟩
    | true => exact wpAny_pure ⟨rfl, o1.trans o2⟩
theorem ET.or {x y : Expr} {pos : Pos} {b c : Bool} (hx : ET V k K ρ x b) (hy : b = false → ET V k K ρ y c) : ET V k K ρ (.BoolOp .Or [x, y] pos) (b || c) := fun A env s F g R => by
  show wpAny _ A (allTrue .Or [x, y] env) _ _ s
  unfold allTrue
  refine wpAny_bind (wpAny_mono (hx A env s F g R) (fun b' s1 h1 => ?_) fun _ _ x => x)
  obtain ⟨rfl, o1⟩ := h1
  cases b' with
  | true => exact wpAny_pure ⟨rfl, o1⟩
  | false =>
    dsimp only
    unfold allTrue
    refine wpAny_bind (wpAny_mono (hy rfl A env s1 F o1.gi (R.ok g o1)) (fun c' s2 h2 => ?_) fun _ _ x => x)
    obtain ⟨rfl, o2⟩ := h2
    cases c' with
    | false => exact wpAny_pure ⟨rfl, o1.trans o2⟩
    | true => exact wpAny_pure ⟨rfl, o1.trans o2⟩
theorem EV.ite {x y z : Expr} {pos : Pos} {b : Bool} {p : PV} (hx : ET V k K ρ x b) (hy : b = true → EV V k fr K ρ y p) (hz : b = false → EV V k fr K ρ z p) : EV V k fr K ρ (.IfExp x y z pos) p := fun A env s F g R => by
  show wpAny _ A (do if ← isTrue x env (eval x env) then eval y env else eval z env) _ _ s
  refine wpAny_bind (wpAny_mono (hx A env s F g R) (fun b' s1 h1 => ?_) fun _ _ x => x)
  obtain ⟨rfl, o1⟩ := h1
  cases b' with
  | true => exact wpAny_mono (hy rfl A env s1 F o1.gi (R.ok g o1)) (fun v s2 h2 => ⟨o1.trans h2.1, h2.2.1, fun e => (h2.2.2 e).ok o1⟩) fun _ _ x => x
  | false => exact wpAny_mono (hz rfl A env s1 F o1.gi (R.ok g o1)) (fun v s2 h2 => ⟨o1.trans h2.1, h2.2.1, fun e => (h2.2.2 e).ok o1⟩) fun _ _ x => x
theorem EV.and {x y : Expr} {pos : Pos} {b c : Bool} (hx : EV V k false K ρ x (.it (.at (.bool b)))) (hy : b = true → EV V k false K ρ y (.it (.at (.bool c)))) :
    EV V k fr K ρ (.BoolOp .And [x, y] pos) (.it (.at (.bool (b && c)))) := EV.toFr (f := true) fun A env s F g R => by
  show wpAny _ A (boolOp pos .And [eval x env, eval y env]) _ _ s
  unfold boolOp
  refine wpAny_bind (wpAny_mono (hx A env s F g R) (fun a s1 h1 => ?_) fun _ _ x => x)
  obtain ⟨o1, rfl, _⟩ := h1
  refine wpAny_bind (wpAny_standAt (wpAny_bind (wpAny_holding (wpAny_truthy_bool ?_))))
  cases b with
  | false => exact wpAny_pure ⟨o1, rfl, fun _ => Fresh.it⟩
  | true =>
    refine wpAny_mono (hy rfl A env s1 F o1.gi (R.ok g o1)) (fun v s2 h2 => ⟨o1.trans h2.1, h2.2.1, fun _ => Fresh.it⟩) fun _ _ x => x
noncomputable def Truth (V : Wo) (k : Nat) (p : PV) (b : Bool) : Prop := ∀ (A : Around) (s : Shared) (a : Value), Fit A k → GI V s → p.is s.heap a → wpAny (model prog V.w) A (truthy a) (fun c s' => c = b ∧ Ok V s s') No s
theorem Truth.bool {b : Bool} : Truth V k (.it (.at (.bool b))) b := fun A s a _ g ha => by
  rw [show a = .bool b from ha]
  exact wpAny_truthy_bool ⟨rfl, .refl g⟩
theorem ET.val {e : Expr} {p : PV} {b : Bool} (he : ∀ env w', isTrue e env w' = (do let v ← w'; standAt e.pos; holding [v] (truthy v))) (h : EV V k false K ρ e p) (ht : Truth V k p b) : ET V k K ρ e b := fun A env s F g R => by
  rw [he]
  refine wpAny_bind (wpAny_mono (h A env s F g R) (fun a s1 h1 => wpAny_bind (wpAny_standAt (wpAny_holding ?_))) fun _ _ x => x)
  exact wpAny_mono (ht A s1 a F h1.1.gi h1.2.1) (fun c s2 h2 => ⟨h2.1, h1.1.trans h2.2⟩) fun _ _ x => x
theorem ET.name {x : Str} {pos : Pos} {p : PV} {b : Bool} (h : ρ x = some p) (ht : Truth V k p b) (hd : (x == ("__debug__" : Str)) = false := by decide) (hn : (x == ("__classdict__" : Str)) = false := by decide) : ET V k K ρ (.Name x pos) b :=
  ET.val (fun _ _ => rfl) (EV.name h hd hn) ht
end

noncomputable def PVs (h : Heap) : List PV → List Value → Prop
  | [], vs => vs = []
  | p :: r, vs => ∃ v t, vs = v :: t ∧ p.is h v ∧ PVs h r t
inductive EVs (V : Wo) (k : Nat) (K : List (Str × NameKind)) (ρ : Vars) : List Expr → List PV → Prop
  | nil : EVs V k K ρ [] []
  | cons {e : Expr} {p : PV} {es : List Expr} {ps : List PV} (hs : ∀ e' q, e ≠ .Starred e' q) (h : EV V k false K ρ e p) (t : EVs V k K ρ es ps) : EVs V k K ρ (e :: es) (p :: ps)
theorem starEach_cons {e : Expr} {es : List Expr} {env : Env} (hs : ∀ e' q, e ≠ .Starred e' q) : starEach (e :: es) env = (false, eval e env) :: starEach es env := by
  cases e <;> first | rfl | exact absurd rfl (hs _ _)
theorem backTo_cons {pos : Pos} {t : Sem Value} {r : List (Bool × Sem Value)} : backTo pos ((false, t) :: r) = (false, t) :: backTo pos r := rfl
theorem EVs.plain {V : Wo} {k : Nat} {K} {ρ : Vars} {es : List Expr} {ps : List PV} (h : EVs V k K ρ es ps) (env : Env) (pos : Pos) : (backTo pos (starEach es env)).any (·.1) = false := by
  induction h with
  | nil => rfl
  | cons hs h t ih => rw [starEach_cons hs, backTo_cons, List.any_cons, ih]; rfl
theorem EVs.wp {V : Wo} {k : Nat} {K} {ρ : Vars} {es : List Expr} {ps : List PV} (h : EVs V k K ρ es ps) {A : Around} {env : Env} (pos : Pos) : ∀ {s : Shared}, Fit A k → GI V s → REnv K env s.heap ρ →
    wpAny (model prog V.w) A (spliced (backTo pos (starEach es env))) (fun vs s' => Ok V s s' ∧ PVs s'.heap ps vs) No s := by
  induction h with
  | nil => exact fun _ g _ => spliced_nil ⟨.refl g, rfl⟩
  | cons hs h t ih =>
    intro s F g R
    rw [starEach_cons hs, backTo_cons]
    refine spliced_cons (wpAny_mono (h A env s F g R) (fun v s1 h1 => ?_) fun _ _ x => x)
    refine wpAny_mono (ih F h1.1.gi (R.ok g h1.1)) (fun vs s2 h2 => ?_) fun _ _ x => x
    exact ⟨h1.1.trans h2.1, v, vs, rfl, h2.1.pv h1.1.gi h1.2.1, h2.2⟩

noncomputable def Cl (V : Wo) (k : Nat) (f : Value) (ps : List PV) (r : PV) : Prop :=
  ∀ (A : Around) (s : Shared) (vs : List Value), Fit A k → GI V s → PVs s.heap ps vs → Gv V A (call f vs) true r s
noncomputable def Kept (V : Wo) (f : Value) : Prop := ∀ s, GI V s → ∃ k, (k = Keeper.frame ∨ k = Keeper.machine ∨ k = Keeper.boundFrame) ∧ Looks (model prog V.w) s.heap (keeperOf f) k
theorem Kept.builtin {V : Wo} {id : String} : Kept V (.builtin id) := fun _ _ => ⟨.machine, .inr (.inl rfl), Looks.of_pure rfl⟩
theorem Kept.type {V : Wo} {n : String} : Kept V (.type n) := fun _ _ => ⟨.machine, .inr (.inl rfl), Looks.of_pure rfl⟩
section
variable {V : Wo} {k : Nat} {fr : Bool} {K : List (Str × NameKind)} {ρ : Vars}
theorem Kept.fn {sr} {n q : Str} {a c : Addr} {cl} {dV} (h : FnAt V.h0 sr n q a c cl dV) : Kept V (.ref a) := fun s g => by
  obtain ⟨fd, ho, _⟩ := h.obj
  exact ⟨.frame, .inl rfl, (Looks.ld (part := none) (g.keep _ _ ho)).andThen .now⟩

theorem wp_callWith {A : Around} {s : Shared} {f : Value} {first : List Value} {args : List (Bool × Sem Value)} {pos : Pos} {Q : Value → Shared → Prop} (hp : args.any (·.1) = false) (hk : Kept V f)
    (h : wpAny (model prog V.w) A (evalArgs f true args []) (fun a s1 => GI V s1 ∧ wpAny (model prog V.w) A (call f (first ++ a.pos) a.kw) Q No s1) No s) : wpAny (model prog V.w) A (callWith pos f first args []) Q No s := by
  unfold callWith
  refine wpAny_bind (wpAny_holding (wpAny_mono h (fun a s₁ h₁ => wpAny_bind (wpAny_standAt ?_)) fun _ _ x => x))
  obtain ⟨kk, hk', L⟩ := hk s₁ h₁.1
  simp only [hp, List.any_nil, Bool.or_false]
  refine wpAny_bind (L.here ?_)
  have tail : ∀ {t : Sem Value}, wpAny (model prog V.w) A t Q No s₁ → wpAny (model prog V.w) A (t >>= fun r => holding [r] point >>= fun _ => pure r) Q No s₁ :=
    fun ht => wpAny_bind (wpAny_mono ht (fun r s₂ hr => wpAny_bind (wpAny_holding (wpAny_point (wpAny_pure hr)))) fun _ _ x => x)
  have marked (mk : Value) : wpAny (model prog V.w) A (callMarked mk f (first ++ a.pos) a.kw) Q No s₁ := by unfold callMarked; exact Calls.wpAny_keep h₁.2
  rcases hk' with rfl | rfl | rfl <;> dsimp only <;> first | exact tail h₁.2 | (split <;> first | exact tail h₁.2 | exact tail (marked _))

theorem wp_args {A : Around} {env : Env} {s : Shared} {f : Value} {es : List Expr} {ps : List PV} (pos : Pos) {Q : Args → Shared → Prop} (h : EVs V k K ρ es ps) (F : Fit A k) (g : GI V s) (R : REnv K env s.heap ρ)
    (hq : ∀ vs s', Ok V s s' → PVs s'.heap ps vs → Q ⟨vs, []⟩ s') : wpAny (model prog V.w) A (evalArgs f true (backTo pos (starEach es env)) []) Q No s := by
  have hw := wpAny_mono (h.wp (env := env) pos F g R) (fun vs s' x => hq vs s' x.1 x.2) fun _ _ x => x
  cases h with
  | nil =>
    unfold evalArgs
    show wpAny _ A (spliced [] >>= _) Q _ s
    refine wpAny_bind (wpAny_mono hw (fun vs s' h' => wpAny_holding (wpAny_bind (wpAny_pure (wpAny_bind (wpAny_pure (wpAny_pure h')))))) fun _ _ x => x)
  | cons hs h t =>
    rw [starEach_cons hs, backTo_cons] at hw ⊢
    exact evalArgs_plain hw

noncomputable def Gl (V : Wo) (x : Str) (v : Value) : Prop := V.mg x = some v ∨ (V.mg x = none ∧ V.mb x = some v)
theorem wp_global {A : Around} {env : Env} {s : Shared} {x : Str} {pos : Pos} {v : Value} {Q : Value → Shared → Prop} (g : GI V s) (R : REnv K env s.heap ρ) (hx : K.lookup x = some .globalImplicit) (hv : Gl V x v) (h : Q v s)
    (hd : (x == ("__debug__" : Str)) = false) : wpAny (model prog V.w) A (eval (.Name x pos) env) Q No s := by
  refine Name_function_global R.kind (by unfold Env.kindOf; rw [R.names]; exact hx) ?_ hd
  have hg : s.heap.Ns env.globals V.mg := by rw [R.glob]; exact g.ok.g.keeps g.keep
  have hb : s.heap.Ns env.builtins V.mb := by rw [R.blt]; exact g.ok.b.keeps g.keep
  rcases hv with hv | ⟨h1, h2⟩
  · exact loadGlobal_global hg hv h
  · exact loadGlobal_builtin hg h1 hb h2 h
theorem EV.global {x : Str} {pos : Pos} {v : Value} {i : It} (hx : K.lookup x = some .globalImplicit) (hv : Gl V x v) (hi : ∀ h, i.is h v) (hd : (x == ("__debug__" : Str)) = false := by decide) : EV V k fr K ρ (.Name x pos) (.it i) := fun A env s F g R =>
  wp_global g R hx hv ⟨.refl g, hi _, fun _ => Fresh.it⟩ hd

theorem EV.call {x : Str} {xp pos : Pos} {f : Value} {es : List Expr} {ps : List PV} {r : PV} (hx : K.lookup x = some .globalImplicit) (hv : Gl V x f) (hk : Kept V f) (ha : EVs V k K ρ es ps) (hc : Cl V k f ps r)
    (hd : (x == ("__debug__" : Str)) = false := by decide) : EV V k fr K ρ (.Call (.Name x xp) es [] pos) r := EV.weak fun A env s F g R => by
  show wpAny _ A (do callWith pos (← eval (.Name x xp) env) [] (backTo pos (starEach es env)) (backToKw pos (keywordEach [] env))) _ _ s
  refine wpAny_bind (wp_global g R hx hv ?_ hd)
  refine wp_callWith (ha.plain env pos) hk (wp_args pos ha F g R fun vs s' o hp => ⟨o.gi, ?_⟩)
  exact wpAny_mono (hc A s' vs F o.gi hp) (fun v s'' x => ⟨o.trans x.1, x.2.1, fun _ => (x.2.2 rfl).ok o⟩) fun _ _ x => x

end
end
section
open PySem PySem.Calls PyProof.Rows PySem.W

noncomputable abbrev I (i : Int) : PV := .it (.at (.int i))
noncomputable abbrev S (l : List Nat) : PV := .it (.at (.str l))
noncomputable abbrev B (b : Bool) : PV := .it (.at (.bool b))
noncomputable abbrev N0 : PV := .it (.at .none)
noncomputable abbrev By (l : List UInt8) : PV := .it (.at (.bytes l))

theorem strLen (l : List Nat) : (⟨l.toArray⟩ : Str).length = l.length := by simp [Str.length]

section
variable {V : Wo} {k : Nat}
theorem biI {t : Value → Value → Sem Value} {a b c : Int} (h : ∀ (A : Around) (s : Shared) (t1 t2 : Tok) (Q : Value → Shared → Prop), Fit A k → GI V s → Q (.int c s.toks) { s with toks := s.toks + 1 } → wpAny (model prog V.w) A (t (.int a t1) (.int b t2)) Q No s) :
    Bi V k t (I a) (I b) (I c) := fun A s v u F g hv hu => by
  obtain ⟨t1, rfl⟩ := hv
  obtain ⟨t2, rfl⟩ := hu
  exact h A s t1 t2 _ F g ⟨Ok.tok g, ⟨_, rfl⟩, fun _ => Fresh.it⟩
theorem biC {t : Value → Value → Sem Value} {a b : Int} {c : Bool} (h : ∀ (A : Around) (s : Shared) (t1 t2 : Tok) (Q : Value → Shared → Prop), Q (.bool c) s → wpAny (model prog V.w) A (t (.int a t1) (.int b t2)) Q No s) :
    Bi V k t (I a) (I b) (B c) := fun A s v u F g hv hu => by
  obtain ⟨t1, rfl⟩ := hv
  obtain ⟨t2, rfl⟩ := hu
  exact h A s t1 t2 _ ⟨.refl g, rfl, fun _ => Fresh.it⟩
theorem Bi.add {a b : Int} : Bi V k (binaryOp .Add) (I a) (I b) (I (a + b)) := biI fun _ _ _ _ _ _ _ h => PyProof.Rows.add_int h
theorem Bi.sub {a b : Int} : Bi V k (binaryOp .Sub) (I a) (I b) (I (a - b)) := biI fun _ _ _ _ _ _ _ h => PyProof.Rows.sub_int h
theorem Bi.mul {a b : Int} (hm : IntMulOk a b) : Bi V k (binaryOp .Mult) (I a) (I b) (I (a * b)) := biI fun _ _ _ _ _ _ _ h => PyProof.Rows.mul_int h hm
theorem Bi.mod {a b : Int} (hb : b ≠ 0) : Bi V k (binaryOp .Mod) (I a) (I b) (I (a.fmod b)) := biI fun _ _ _ _ _ _ _ h => mod_int' hb h
theorem Bi.pow {a n : Int} (hn : 0 ≤ n) (hn2 : n ≤ 1000000) (ha : a.natAbs < 2 ^ 64) : Bi V k (binaryOp .Pow) (I a) (I n) (I (a ^ n.toNat)) := biI fun _ _ _ _ _ _ _ h => pow_int_small hn hn2 ha h
theorem Bi.powN {n : Nat} (h : n ≤ 3) : Bi V k (binaryOp .Pow) (I 16) (I n) (I ((16 ^ n : Nat) : Int)) := by
  have := Bi.pow (V := V) (k := k) (a := 16) (n := (n : Int)) (Int.natCast_nonneg _) (Int.ofNat_le.mpr (Nat.le_trans h (by decide))) (by decide)
  rwa [Int.toNat_natCast, show (16 : Int) ^ n = ((16 ^ n : Nat) : Int) by norm_cast] at this
theorem Bi.pow3 {n : Nat} (h : n ≤ 3) : Bi V k (binaryOp .Pow) (I 16) (I (3 - (n : Int))) (I ((16 ^ (3 - n) : Nat) : Int)) := by
  rw [show (3 : Int) - n = ((3 - n : Nat) : Int) from (Int.ofNat_sub h).symm]
  exact Bi.powN (Nat.sub_le 3 n)
theorem Bi.shl {a n : Int} (hn : 0 ≤ n) (hsz : (Builtin.Int.intBits a : Int) + n ≤ 2 ^ 27) : Bi V k (binaryOp .LShift) (I a) (I n) (I (a * 2 ^ n.toNat)) := biI fun _ _ _ _ _ _ _ h => PyProof.Rows.lshift_int hn hsz h
theorem Bi.shr {a n : Int} (hn : 0 ≤ n) : Bi V k (binaryOp .RShift) (I a) (I n) (I (a.fdiv (2 ^ n.toNat))) := biI fun _ _ _ _ _ _ _ h => PyProof.Rows.rshift_int hn h
theorem Bi.xor {a b : Int} : Bi V k (binaryOp .BitXor) (I a) (I b) (I (Builtin.bitXor a b)) := biI fun _ _ _ _ _ _ _ h => PyProof.Rows.xor_int h
theorem Bi.fdiv {a b : Int} (hb : b ≠ 0) (hp : Builtin.divisionGoesByPylong a b = false) : Bi V k (binaryOp .FloorDiv) (I a) (I b) (I (a.fdiv b)) := biI fun _ _ _ _ _ _ _ h => PyProof.Rows.floordiv_int hb h (.inl hp)
theorem Bi.eqI {a b : Int} : Bi V k (compareOp .Eq) (I a) (I b) (B (a == b)) := biC fun _ _ _ _ _ h => PyProof.Rows.eq_int h
theorem Bi.neI {a b : Int} : Bi V k (compareOp .NotEq) (I a) (I b) (B (a != b)) := biC fun _ _ _ _ _ h => PyProof.Rows.ne_int h
theorem Bi.ltI {a b : Int} : Bi V k (compareOp .Lt) (I a) (I b) (B (decide (a < b))) := biC fun _ _ _ _ _ h => PyProof.Rows.lt_int h
theorem Bi.gtI {a b : Int} : Bi V k (compareOp .Gt) (I a) (I b) (B (decide (b < a))) := biC fun _ _ _ _ _ h => PyProof.Rows.gt_int h
theorem Bi.leI {a b : Int} : Bi V k (compareOp .LtE) (I a) (I b) (B (decide (a ≤ b))) := biC fun _ _ _ _ _ h => PyProof.Rows.le_int h
theorem Un.neg {a : Int} : Un V k (unaryOp .USub) (I a) (I (-a)) := fun A s v F g hv => by
  obtain ⟨t, rfl⟩ := hv
  exact PyProof.Rows.neg_int ⟨Ok.tok g, ⟨_, rfl⟩, fun _ => Fresh.it⟩
theorem Un.inv {a : Int} : Un V k (unaryOp .Invert) (I a) (I (-a - 1)) := fun A s v F g hv => by
  obtain ⟨t, rfl⟩ := hv
  refine PyProof.Rows.invert_int ?_
  have e : Builtin.bitNot a = -a - 1 := by unfold Builtin.bitNot; (first | lia | omega)
  exact ⟨Ok.tok g, ⟨_, by rw [e]⟩, fun _ => Fresh.it⟩
theorem Bi.addS {a b : List Nat} (hsz : a.length + b.length ≤ 16777216) : Bi V k (binaryOp .Add) (S a) (S b) (S (a ++ b)) := fun A s v u F g hv hu => by
  obtain ⟨t1, rfl⟩ := hv
  obtain ⟨t2, rfl⟩ := hu
  refine PyProof.Rows.add_str (fun t' tk => ?_) (by rw [strLen, strLen]; exact hsz)
  refine ⟨Ok.tok g, ⟨t', ?_⟩, fun _ => Fresh.it⟩
  show Value.str (Str.append _ _) t' = _
  simp [Str.append]
theorem Bi.mulS {a : List Nat} {n : Int} (hn : n < 100000) (h0 : -100000 < n) (hl : a.length = 1) : Bi V k (binaryOp .Mult) (S a) (I n) (S ((List.replicate n.toNat a).flatten)) := fun A s v u F g hv hu => by
  obtain ⟨t1, rfl⟩ := hv
  obtain ⟨t2, rfl⟩ := hu
  have hlen : (⟨a.toArray⟩ : Str).length = 1 := by rw [strLen, hl]
  refine P.mul_str (by rw [decide_eq_false (by (first | lia | omega)), decide_eq_false (by (first | lia | omega))]; rfl) (fun h1 h2 => ?_) (fun h1 h2 => ?_) ?_
  · rw [hlen]
    have : (1 : Int) ≤ (2 ^ 63 - 1) / n := by
      rw [Int.le_ediv_iff_mul_le (by (first | lia | omega))]; (first | lia | omega)
    (first | lia | omega)
  · rw [hlen]
    unfold Builtin.Str.tooLong sizeLine
    have : ¬ (1 * n.toNat > 2 ^ 24) := by (first | lia | omega)
    simp only [decide_eq_false_iff_not]
    exact this
  · by_cases h1 : n < 1
    · rw [if_pos h1]
      have e : n.toNat = 0 := by (first | lia | omega)
      exact ⟨by decide, Ok.tok g, ⟨s.toks, by rw [e]; rfl⟩, fun _ => Fresh.it⟩
    · rw [if_neg h1]
      by_cases h2 : (n == 1 || (⟨a.toArray⟩ : Str).length == 0) = true
      · rw [if_pos h2]
        have e : n = 1 := by
          rw [hlen] at h2
          simpa using h2
        refine ⟨.refl g, ⟨t1, ?_⟩, fun _ => Fresh.it⟩
        subst e
        simp
      · rw [if_neg h2]
        have fl : ∀ (m : Nat) (acc : Array Nat), (List.replicate m a.toArray).foldl (· ++ ·) acc = acc ++ (List.replicate m a).flatten.toArray := by
          intro m
          induction m with
          | zero => intro acc; simp
          | succ m ih => intro acc; rw [List.replicate_succ, List.foldl_cons, ih, List.replicate_succ]; simp
        refine ⟨?_, Ok.tok g, ⟨s.toks, ?_⟩, fun _ => Fresh.it⟩
        · rw [fl]
          have : ((List.replicate n.toNat a).flatten).length = n.toNat := by
            rw [List.length_flatten, List.map_replicate, hl]; simp
          simp only [Str.length, Array.size_append, List.size_toArray, this]
          simp only [sizeLine]
          simp
          (first | lia | omega)
        · rw [fl]; simp
theorem Bi.eqS {a b : List Nat} : Bi V k (compareOp .Eq) (S a) (S b) (B (decide (a = b))) := fun A s v u F g hv hu => by
  obtain ⟨t1, rfl⟩ := hv
  obtain ⟨t2, rfl⟩ := hu
  refine PyProof.Rows.eq_str ?_
  have e : ((⟨a.toArray⟩ : Str) == ⟨b.toArray⟩) = decide (a = b) := by
    rw [← toList_beq, Bool.eq_iff_iff]; simp
  exact ⟨.refl g, by rw [e]; rfl, fun _ => Fresh.it⟩
theorem Bi.geS {a b : List Nat} : Bi V k (compareOp .GtE) (S a) (S b) (B (!decide (a < b))) := fun A s v u F g hv hu => by
  obtain ⟨t1, rfl⟩ := hv
  obtain ⟨t2, rfl⟩ := hu
  exact P.ge_str ⟨.refl g, rfl, fun _ => Fresh.it⟩
end

noncomputable def At.py : At → PyData
  | .none => .none
  | .bool b => .bool b
  | .int i => .int i
  | .str l => .str ⟨l.toArray⟩
  | .bytes _ => .none
noncomputable def At.isPy : At → Bool
  | .bytes _ => false
  | .bool _ => false
  | .str l => l.all fun c => decide (c < 1114112)
  | _ => true
noncomputable def It.py : It → PyData
  | .at a => a.py
  | .tup l => .tuple (l.map At.py)
noncomputable def It.isPy : It → Bool
  | .at a => a.isPy
  | .tup l => l.all At.isPy
noncomputable def PV.py : PV → PyData
  | .it i => i.py
  | .list l => .list (l.map It.py)
  | .own _ l => .list (l.map It.py)
  | .fn _ => .none
  | .acc _ _ _ _ => .none
noncomputable def PV.isPy : PV → Bool
  | .it i => i.isPy
  | .list l => l.all It.isPy
  | .own _ _ => false
  | .fn _ => false
  | .acc _ _ _ _ => false
theorem At.reads {h : Heap} {a : At} {v : Value} (hv : a.is v) (hp : a.isPy = true) : Reads h v a.py [] := by
  cases a with
  | none => rw [show v = .none from hv]; exact .none
  | bool b => rw [show v = .bool b from hv]; exact .bool b
  | int i => obtain ⟨t, rfl⟩ := hv; exact .int i t
  | str l => obtain ⟨t, rfl⟩ := hv; exact .str _ t
  | bytes l => cases hp
theorem Ats.reads {h : Heap} : ∀ {l : List At} {vs : List Value}, Ats l vs → l.all At.isPy = true → ReadsAll h vs (l.map At.py) []
  | [], vs, e, _ => by rw [show vs = [] from e]; exact .nil
  | a :: r, _, ⟨v, t, e, hv, ht⟩, hp => by
    subst e
    rw [List.all_cons, Bool.and_eq_true] at hp
    exact ReadsAll.cons (as := []) (bs := []) (At.reads hv hp.1) (Ats.reads ht hp.2)
theorem It.reads {h : Heap} {i : It} {v : Value} (hv : i.is h v) (hp : i.isPy = true) : Reads h v i.py [] := by
  cases i with
  | «at» a => exact At.reads hv hp
  | tup l =>
    obtain ⟨T, vs, rfl, ⟨o, ho, hc, n, hd⟩, ha⟩ := hv
    exact .tuple ho hc hd (ha.reads hp)
theorem Its.reads {h : Heap} : ∀ {l : List It} {vs : List Value}, Its h l vs → l.all It.isPy = true → ReadsAll h vs (l.map It.py) []
  | [], vs, e, _ => by rw [show vs = [] from e]; exact .nil
  | a :: r, _, ⟨v, t, e, hv, ht⟩, hp => by
    subst e
    rw [List.all_cons, Bool.and_eq_true] at hp
    exact ReadsAll.cons (as := []) (bs := []) (It.reads hv hp.1) (Its.reads ht hp.2)
theorem PV.reads {h : Heap} {p : PV} {v : Value} (hv : p.is h v) (hp : p.isPy = true) : ∃ as, Reads h v p.py as := by
  cases p with
  | it i => exact ⟨_, It.reads hv hp⟩
  | list l =>
    obtain ⟨a, vs, n, rfl, ho, hi⟩ := hv
    exact ⟨_, .list ho rfl rfl (hi.reads hp)⟩
  | own a l => cases hp
  | fn f => cases hp
  | acc a d f l => cases hp
theorem At.lay {a : At} (hp : a.isPy = true) : a.py.canLay0 = true := by
  cases a with
  | str l =>
    show PyData.strOk _ = true
    unfold PyData.strOk
    have : l.all (fun c => decide (c < 1114112)) = true := hp
    simpa using this
  | none => rfl
  | int i => rfl
  | bool b => cases hp
  | bytes b => cases hp
theorem Ats.lay : ∀ {l : List At}, l.all At.isPy = true → PyData.canLayAll0 (l.map At.py) = true
  | [], _ => rfl
  | a :: r, hp => by
    rw [List.all_cons, Bool.and_eq_true] at hp
    rw [List.map_cons, PyData.canLayAll0, At.lay hp.1, Ats.lay hp.2]; rfl
theorem It.lay {a : It} (hp : a.isPy = true) : a.py.canLay0 = true := by
  cases a with
  | «at» a => exact At.lay hp
  | tup l => exact Ats.lay hp
theorem Its.lay : ∀ {l : List It}, l.all It.isPy = true → PyData.canLayAll0 (l.map It.py) = true
  | [], _ => rfl
  | a :: r, hp => by
    rw [List.all_cons, Bool.and_eq_true] at hp
    rw [List.map_cons, PyData.canLayAll0, It.lay hp.1, Its.lay hp.2]; rfl
theorem At.deep (a : At) : a.py.depth = 0 := by cases a <;> rfl
theorem Ats.deep : ∀ l : List At, PyData.depthAll (l.map At.py) = 0
  | [] => rfl
  | a :: r => by rw [List.map_cons, PyData.depthAll, At.deep, Ats.deep r]; rfl
theorem It.deep (a : It) : a.py.depth ≤ 1 := by
  cases a with
  | «at» a => show a.py.depth ≤ 1; rw [At.deep]; (first | lia | omega)
  | tup l => show (PyData.tuple (l.map At.py)).depth ≤ 1; rw [PyData.depth, Ats.deep]; (first | lia | omega)
theorem Its.deep : ∀ l : List It, PyData.depthAll (l.map It.py) ≤ 1
  | [] => by simp [PyData.depthAll]
  | a :: r => by rw [List.map_cons, PyData.depthAll]; have := It.deep a; have := Its.deep r; (first | lia | omega)
theorem PV.shaped {p : PV} (hp : p.isPy = true) : PySem.SeqAt.shaped p.py = true := by
  unfold PySem.SeqAt.shaped
  rw [Bool.and_eq_true, decide_eq_true_eq]
  cases p with
  | it i => exact ⟨It.lay hp, by have := It.deep i; show i.py.depth ≤ 64; (first | lia | omega)⟩
  | list l => exact ⟨Its.lay hp, by show (PyData.list (l.map It.py)).depth ≤ 64; rw [PyData.depth]; have := Its.deep l; (first | lia | omega)⟩
  | own a l => cases hp
  | fn f => cases hp
  | acc a d f l => cases hp

theorem At.eqv {a b : At} (ha : a.isPy = true) (hb : b.isPy = true) : PyData.eqv a.py b.py = decide (a = b) := by
  cases a <;> cases b <;> first
    | (cases ha; done) | (cases hb; done)
    | (simp only [At.py, PyData.eqv, reduceCtorEq, decide_false, decide_true]; done)
    | (simp only [At.py, PyData.eqv]; rw [Bool.eq_iff_iff]; simp [← toList_beq])
theorem Ats.eqv : ∀ {l m : List At}, l.all At.isPy = true → m.all At.isPy = true → PyData.eqvAll (l.map At.py) (m.map At.py) = decide (l = m)
  | [], [], _, _ => rfl
  | [], _ :: _, _, _ => by simp [PyData.eqvAll]
  | _ :: _, [], _, _ => by simp [PyData.eqvAll]
  | a :: r, b :: t, ha, hb => by
    rw [List.all_cons, Bool.and_eq_true] at ha hb
    rw [List.map_cons, List.map_cons, PyData.eqvAll, At.eqv ha.1 hb.1, Ats.eqv ha.2 hb.2, Bool.eq_iff_iff]; simp
theorem It.eqv {a b : It} (ha : a.isPy = true) (hb : b.isPy = true) : PyData.eqv a.py b.py = decide (a = b) := by
  cases a with
  | «at» a => cases b with
    | «at» b => exact (At.eqv ha hb).trans (by rw [Bool.eq_iff_iff]; simp)
    | tup m =>
      have : PyData.eqv a.py (.tuple (m.map At.py)) = false := by cases a <;> first | (cases ha; done) | simp only [At.py, PyData.eqv]
      exact this.trans (by simp)
  | tup l => cases b with
    | «at» b =>
      have : PyData.eqv (.tuple (l.map At.py)) b.py = false := by cases b <;> first | (cases hb; done) | simp only [At.py, PyData.eqv]
      exact this.trans (by simp)
    | tup m =>
      show PyData.eqv (.tuple _) (.tuple _) = _
      rw [PyData.eqv, Ats.eqv ha hb, Bool.eq_iff_iff]; simp
theorem Its.eqv : ∀ {l m : List It}, l.all It.isPy = true → m.all It.isPy = true → PyData.eqvAll (l.map It.py) (m.map It.py) = decide (l = m)
  | [], [], _, _ => rfl
  | [], _ :: _, _, _ => by simp [PyData.eqvAll]
  | _ :: _, [], _, _ => by simp [PyData.eqvAll]
  | a :: r, b :: t, ha, hb => by
    rw [List.all_cons, Bool.and_eq_true] at ha hb
    rw [List.map_cons, List.map_cons, PyData.eqvAll, It.eqv ha.1 hb.1, Its.eqv ha.2 hb.2, Bool.eq_iff_iff]; simp
theorem PV.eqv {a b : PV} (ha : a.isPy = true) (hb : b.isPy = true) : PyData.eqv a.py b.py = decide (a = b) := by
  cases a with
  | it a => cases b with
    | it b => exact (It.eqv ha hb).trans (by rw [Bool.eq_iff_iff]; simp)
    | list m =>
      have : PyData.eqv a.py (.list (m.map It.py)) = false := by
        cases a with
        | «at» a => cases a <;> first | (cases ha; done) | simp only [It.py, At.py, PyData.eqv]
        | tup l => simp only [It.py, PyData.eqv]
      exact this.trans (by simp)
    | own a l => cases hb
    | fn f => cases hb
    | acc a d f l => cases hb
  | list l => cases b with
    | it b =>
      have : PyData.eqv (.list (l.map It.py)) b.py = false := by
        cases b with
        | «at» a => cases a <;> first | (cases hb; done) | simp only [It.py, At.py, PyData.eqv]
        | tup l => simp only [It.py, PyData.eqv]
      exact this.trans (by simp)
    | list m =>
      show PyData.eqv (.list _) (.list _) = _
      rw [PyData.eqv, Its.eqv ha hb, Bool.eq_iff_iff]; simp
    | own a l => cases hb
    | fn f => cases hb
    | acc a d f l => cases hb
  | own a l => cases ha
  | fn f => cases ha
  | acc a d f l => cases ha

section
variable {V : Wo} {k : Nat}
theorem Bi.eq {p q : PV} (h1 : p.isPy = true) (h2 : q.isPy = true) : Bi V k (compareOp .Eq) p q (B (decide (p = q))) := fun A s v u F g hv hu => by
  obtain ⟨as, ra⟩ := PV.reads hv h1
  obtain ⟨bs, rb⟩ := PV.reads hu h2
  exact eq_dataH ra rb (PV.shaped h1) (PV.shaped h2) (by have := F.units; simp only [cLine]; (first | lia | omega)) ⟨.refl g, by rw [PV.eqv h1 h2]; rfl, fun _ => Fresh.it⟩
theorem Bi.ne {p q : PV} (h1 : p.isPy = true) (h2 : q.isPy = true) : Bi V k (compareOp .NotEq) p q (B (!decide (p = q))) := fun A s v u F g hv hu => by
  obtain ⟨as, ra⟩ := PV.reads hv h1
  obtain ⟨bs, rb⟩ := PV.reads hu h2
  exact ne_dataH ra rb (PV.shaped h1) (PV.shaped h2) (by have := F.units; simp only [cLine]; (first | lia | omega)) ⟨.refl g, by rw [PV.eqv h1 h2]; rfl, fun _ => Fresh.it⟩
theorem Bi.neB {a b : Bool} : Bi V k (compareOp .NotEq) (B a) (B b) (B (a != b)) := fun A s v u F g hv hu => by
  rw [show v = .bool a from hv, show u = .bool b from hu]
  exact ne_dataH (.bool a) (.bool b) rfl rfl (by have := F.units; simp only [cLine]; (first | lia | omega)) ⟨.refl g, rfl, fun _ => Fresh.it⟩
theorem Bi.isNone {p : It} : Bi V k (compareOp .Is) (.it p) N0 (B (decide (p = .at .none))) := fun A s v u F g hv hu => by
  rw [show u = .none from hu]
  have key : wpAny (model prog V.w) A (compareOp .Is v .none) (fun c s' => c = .bool (decide (p = .at .none)) ∧ s' = s) No s := by
    cases p with
    | «at» a =>
      cases a with
      | none => rw [show v = .none from hv]; exact fun _ _ _ => ⟨rfl, rfl⟩
      | bool b => rw [show v = .bool b from hv]; exact fun _ _ _ => ⟨rfl, rfl⟩
      | int i => obtain ⟨t, rfl⟩ := hv; exact fun _ _ _ => ⟨rfl, rfl⟩
      | str l => obtain ⟨t, rfl⟩ := hv; exact fun _ _ _ => ⟨rfl, rfl⟩
      | bytes l => obtain ⟨t, rfl⟩ := hv; exact fun _ _ _ => ⟨rfl, rfl⟩
    | tup l => obtain ⟨T, vs, rfl, _⟩ := hv; exact fun _ _ _ => ⟨rfl, rfl⟩
  refine wpAny_mono key (fun c s' h => ?_) fun _ _ x => x
  obtain ⟨rfl, rfl⟩ := h
  exact ⟨.refl g, rfl, fun _ => Fresh.it⟩
end
end
section
open PySem PySem.Calls PyProof.Rows PySem.W

noncomputable abbrev iIt (i : Int) : It := .at (.int i)
noncomputable abbrev sIt (l : List Nat) : It := .at (.str l)
noncomputable abbrev IL (l : List Int) : PV := .list (l.map iIt)
noncomputable abbrev SL (l : List (List Nat)) : PV := .list (l.map sIt)

theorem Its.ints {h : Heap} : ∀ {l : List Int} {vs : List Value}, Its h (l.map iIt) vs → IntsAre vs l
  | [], vs, e => by rw [show vs = [] from e]; exact .nil
  | n :: r, _, ⟨v, t, e, hv, ht⟩ => by
    obtain ⟨tk, rfl⟩ := hv
    subst e
    exact .cons n tk (Its.ints ht)
theorem Its.ofInts {h : Heap} {l : List Int} {vs : List Value} (x : IntsAre vs l) : Its h (l.map iIt) vs := by
  induction x with
  | nil => rfl
  | cons n t r ih => exact ⟨_, _, rfl, ⟨t, rfl⟩, ih⟩
theorem Its.strs {h : Heap} : ∀ {l : List (List Nat)} {vs : List Value}, Its h (l.map sIt) vs → StrsAre vs (l.map fun x => (⟨x.toArray⟩ : Str))
  | [], vs, e => by rw [show vs = [] from e]; exact .nil
  | n :: r, _, ⟨v, t, e, hv, ht⟩ => by
    obtain ⟨tk, rfl⟩ := hv
    subst e
    exact .cons _ tk (Its.strs ht)
theorem Its.ofStrs {h : Heap} {l : List Str} {vs : List Value} (x : StrsAre vs l) : Its h ((l.map fun x => x.cps.toList).map sIt) vs := by
  induction x with
  | nil => rfl
  | cons y t r ih => exact ⟨_, _, rfl, ⟨t, by simp⟩, ih⟩
theorem PV.isList {h : Heap} {l : List It} {v : Value} (x : (PV.list l).is h v) : ∃ a vs, v = .ref a ∧ h.IsList a vs ∧ Its h l vs.toList := by
  obtain ⟨a, vs, n, e, ho, hi⟩ := x
  exact ⟨a, vs, e, ⟨_, ho, rfl, n, rfl⟩, hi⟩
theorem PVs.one {h : Heap} {p : PV} {vs : List Value} (x : PVs h [p] vs) : ∃ v, vs = [v] ∧ p.is h v := by
  obtain ⟨v, t, e, hv, ht⟩ := x
  exact ⟨v, by rw [e, show t = [] from ht], hv⟩
theorem PVs.two {h : Heap} {p q : PV} {vs : List Value} (x : PVs h [p, q] vs) : ∃ v u, vs = [v, u] ∧ p.is h v ∧ q.is h u := by
  obtain ⟨v, t, e, hv, ht⟩ := x
  obtain ⟨u, rfl, hu⟩ := PVs.one ht
  exact ⟨v, u, e, hv, hu⟩
theorem PVs.three {h : Heap} {p q r : PV} {vs : List Value} (x : PVs h [p, q, r] vs) : ∃ v u x, vs = [v, u, x] ∧ p.is h v ∧ q.is h u ∧ r.is h x := by
  obtain ⟨v, t, e, hv, ht⟩ := x
  obtain ⟨u, x, rfl, hu, hx⟩ := PVs.two ht
  exact ⟨v, u, x, e, hv, hu, hx⟩

section
variable {V : Wo} {k : Nat} {fr : Bool} {K : List (Str × NameKind)} {ρ : Vars}
theorem Cl.lenL {l : List It} (hl : l.length < 1000000) : Cl V k (.builtin "len") [.list l] (I l.length) := fun A s vs F g hp => by
  obtain ⟨v, rfl, hv⟩ := hp.one
  obtain ⟨a, its, rfl, hl', hi⟩ := PV.isList hv
  have e : its.size = l.length := by have := hi.length; simpa using this
  exact call_len_list hl' (by (first | lia | omega)) ⟨Ok.tok g, ⟨_, by rw [e]⟩, fun _ => Fresh.it⟩
theorem Cl.lenS {l : List Nat} (hl : l.length < 1000000) : Cl V k (.builtin "len") [S l] (I l.length) := fun A s vs F g hp => by
  obtain ⟨v, rfl, t, rfl⟩ := hp.one
  exact PyProof.Rows.len_str (by rw [strLen]; (first | lia | omega)) ⟨Ok.tok g, ⟨_, by rw [strLen]⟩, fun _ => Fresh.it⟩
theorem Cl.sum {l : List Int} : Cl V k (.builtin "sum") [IL l] (I l.sum) := fun A s vs F g hp => by
  obtain ⟨v, rfl, hv⟩ := hp.one
  obtain ⟨a, its, rfl, hl', hi⟩ := PV.isList hv
  have hi' := hi.ints
  obtain ⟨xs, hx⟩ := hi'.allInts.items
  have hl2 : s.heap.IsList a (intItems xs) := by rw [← hx]; simpa using hl'
  refine sum_intListG F.handled hl2 fun h' tk t' hk => ?_
  have e1 : l = xs.toList.map (·.1) := by
    rw [← nums_intItems, ← hx]
    exact (show numsOf its.toList.toArray.toList = l from hi'.numsOf).symm
  have e2 : preSum (numAt xs) xs.size = l.sum := by rw [preSum_eq, List.take_of_length_le (by simp), e1]
  rw [e2]
  exact ⟨Ok.grow g hk, ⟨_, rfl⟩, fun _ => Fresh.it⟩
theorem Cl.ord {c : Nat} : Cl V k (.builtin "ord") [S [c]] (I c) := fun A s vs F g hp => by
  obtain ⟨v, rfl, t, rfl⟩ := hp.one
  exact ord_of_one (by simp [Str.length]) ⟨Ok.tok g, ⟨s.toks, by simp [Array.getD]⟩, fun _ => Fresh.it⟩
theorem Cl.max {a b : Int} : Cl V k (.builtin "max") [I a, I b] (I (if b > a then b else a)) := fun A s vs F g hp => by
  obtain ⟨v, u, rfl, ⟨t1, rfl⟩, ⟨t2, rfl⟩⟩ := hp.two
  refine max_two_ints F.handled fun h' tk hk => ⟨Ok.grow g hk, ?_, fun _ => Fresh.it⟩
  by_cases hc : b > a
  · rw [if_pos hc, if_pos hc]; exact ⟨_, rfl⟩
  · rw [if_neg hc, if_neg hc]; exact ⟨_, rfl⟩
theorem Cl.abs {a : Int} : Cl V k (.builtin "abs") [I a] (I (if a < 0 then -a else a)) := fun A s vs F g hp => by
  obtain ⟨v, rfl, t, rfl⟩ := hp.one
  exact call_abs_int fun u tk => ⟨Ok.tok g, ⟨_, rfl⟩, fun _ => Fresh.it⟩
theorem Cl.int {a : Int} : Cl V k (.type "int") [I a] (I a) := fun A s vs F g hp => by
  obtain ⟨v, rfl, t, rfl⟩ := hp.one
  exact call_int_int ⟨.refl g, ⟨_, rfl⟩, fun _ => Fresh.it⟩
theorem Cl.divmod {a b : Int} (hb : b ≠ 0) (hp : Builtin.divisionGoesByPylong a b = false) : Cl V k (.builtin "divmod") [I a, I b] (.it (.tup [.int (a.fdiv b), .int (a.fmod b)])) := fun A s vs F g hp' => by
  obtain ⟨v, u, rfl, ⟨t1, rfl⟩, ⟨t2, rfl⟩⟩ := hp'.two
  refine divmod_int hb ⟨?_, ?_, fun _ => Fresh.it⟩ (.inl hp)
  · exact Ok.grow g fun b o e => Heap.get?_push_of_some _ e
  · exact ⟨_, _, rfl, ⟨_, Heap.get?_push_size _ rfl, rfl, 0, rfl⟩, _, _, rfl, ⟨_, rfl⟩, _, _, rfl, ⟨_, rfl⟩, rfl⟩

theorem PVs.its {h : Heap} : ∀ {l : List It} {vs : List Value}, PVs h (l.map PV.it) vs → Its h l vs
  | [], _, e => e
  | _ :: _, _, ⟨v, t, e, hv, ht⟩ => ⟨v, t, e, hv, PVs.its ht⟩
theorem EV.list {es : List Expr} {l : List It} {pos : Pos} (h : EVs V k K ρ es (l.map .it)) (hl : l.length < 1000000) : EV V k fr K ρ (.List es pos) (.list l) := EV.weak fun A env s F g R => by
  show wpAny _ A (do standAt pos; newList (← spliced (backTo pos (starEach es env)))) _ _ s
  refine wpAny_bind (wpAny_standAt (wpAny_bind (wpAny_mono (h.wp pos F g R) (fun vs s1 h1 => ?_) fun _ _ x => x)))
  have hi := PVs.its h1.2
  have o2 := Ok.grow (s := s1) (tk := s1.toks) h1.1.gi fun b o e => Heap.get?_push_of_some (h := s1.heap) { cls := .type "list", data := .seq vs.toArray } e
  refine wpAny_newObj_type ⟨h1.1.trans o2, ?_, fun _ => ?_⟩ (by show vs.toArray.size ≤ sizeLine; rw [List.size_toArray, hi.length]; simp only [sizeLine]; (first | lia | omega))
  · exact ⟨_, _, 0, rfl, Heap.get?_push_size _ rfl, Its.keeps (fun b o _ _ e => Heap.get?_push_of_some _ e) (by simpa using hi)⟩
  · intro a _ e
    cases e
    cases q : s.heap.get? s1.heap.objs.size with
    | none => rfl
    | some o => obtain ⟨o', e'⟩ := h1.1.there _ _ q; exact absurd (Heap.lt_size e') (Nat.lt_irrefl _)
theorem PVs.ats {h : Heap} : ∀ {l : List At} {vs : List Value}, PVs h (l.map fun a => PV.it (.at a)) vs → Ats l vs
  | [], _, e => e
  | _ :: _, _, ⟨v, t, e, hv, ht⟩ => ⟨v, t, e, hv, PVs.ats ht⟩
theorem EV.tup {es : List Expr} {l : List At} {u : Nat} {pos : Pos} (h : EVs V k K ρ es (l.map fun a => .it (.at a))) (hl : l.length < 1000) : EV V k fr K ρ (.Tuple es u pos) (.it (.tup l)) := EV.weak fun A env s F g R => by
  show wpAny _ A (do standAt pos; newTuple (← spliced (backTo pos (starEach es env)))) _ _ s
  refine wpAny_bind (wpAny_standAt (wpAny_bind (wpAny_mono (h.wp pos F g R) (fun vs s1 h1 => ?_) fun _ _ x => x)))
  have hi := PVs.ats h1.2
  have o2 := Ok.grow (s := s1) (tk := s1.toks) h1.1.gi fun b o e => Heap.get?_push_of_some (h := s1.heap) { cls := .type "tuple", data := .seq vs.toArray } e
  refine wpAny_newObj_type ⟨h1.1.trans o2, ?_, fun _ => Fresh.it⟩ (by show vs.toArray.size ≤ sizeLine; rw [List.size_toArray, hi.length]; simp only [sizeLine]; (first | lia | omega))
  exact ⟨_, _, rfl, ⟨_, Heap.get?_push_size _ rfl, rfl, 0, rfl⟩, by simpa using hi⟩

noncomputable def Base (V : Wo) (p : PV) : Prop := ∀ s v, GI V s → p.is s.heap v → ∃ T id, s.TypeIs v T ∧ typeLookup (.type T) "__getitem__" = pure (some (.builtin id))
theorem Base.str {l : List Nat} : Base V (S l) := fun s v _ hv => by
  obtain ⟨t, rfl⟩ := hv
  exact ⟨"str", _, typeIs_str _ _ _, F.slot_str_getitem.lookup⟩
theorem Base.list {l : List It} : Base V (.list l) := fun s v _ hv => by
  obtain ⟨a, its, rfl, hl, _⟩ := PV.isList hv
  exact ⟨"list", _, hl.typeIs, list_getitem_lookup⟩
theorem Base.tup {l : List At} : Base V (.it (.tup l)) := fun s v _ hv => by
  obtain ⟨T, vs, rfl, hT, _⟩ := hv
  exact ⟨"tuple", _, (show IsTup s.heap T vs from hT).typeIs, by first | exact F.slot_tuple_getitem.lookup⟩
theorem Base.bytes {l : List UInt8} : Base V (By l) := fun s v _ hv => by
  obtain ⟨t, rfl⟩ := hv
  exact ⟨"bytes", _, rfl, FB.slot_bytes_getitem.lookup⟩

theorem wp_subTail {A : Around} {s : Shared} {value slice : Expr} {o i : Value} {p : PV} {ops : List Value} {P : Value → Shared → Prop} (g : GI V s) (hb : Base V p) (ho : p.is s.heap o)
    (hs : subscripted slice false o i = operate ops (getItem o i)) (h : wpAny (model prog V.w) A (getItem o i) P No s) :
    wpAny (model prog V.w) A (subscriptTail value slice o i) P No s := by
  obtain ⟨T, id, hT, hl⟩ := hb s o g ho
  unfold subscriptTail
  refine wpAny_bind ?_
  rw [getitemInPython_of_ne hT.not_modules]
  refine wpAny_bind (wpAny_specialOf hT hl ?_)
  have fin : wpAny (model prog V.w) A (subscripted slice false o i) (fun r s₃ => wpAny (model prog V.w) A (letTemporaryGo value o r >>= fun _ => pure r) P No s₃) No s := by
    rw [hs]
    exact wpAny_operating (wpAny_mono h (fun r s₃ h₃ => wpAny_bind (wpAny_letTemporaryGo (wpAny_pure h₃))) fun _ _ x => x)
  first
    | exact wpAny_pure (wpAny_bind fin)
    | exact wpAny_bind (wpAny_pure (wpAny_bind fin))
    | exact wpAny_bind fin

noncomputable def noSlice : Expr → Bool
  | .Slice .. => false
  | _ => true
theorem EV.sub {value slice : Expr} {pos : Pos} {p q z : PV} (hb : Base V p) (hv : EV V k false K ρ value p) (hi : EV V k false K ρ slice q) (h : Bi V k getItem p q z) (hn : noSlice slice = true := by rfl) :
    EV V k fr K ρ (.Subscript value slice pos) z := EV.weak fun A env s F g R => by
  rw [show Gv V A (eval (.Subscript value slice pos) env) true z s = wpAny (model prog V.w) A (eval (.Subscript value slice pos) env) _ _ s from rfl, eval_Subscript]
  refine wpAny_bind (wpAny_mono (hv A env s F g R) (fun o s₁ h₁ => wpAny_bind (wpAny_holding (wpAny_mono (hi A env s₁ F h₁.1.gi (R.ok g h₁.1)) (fun i s₂ h₂ => wpAny_bind (wpAny_standAt ?_)) fun _ _ x => x))) fun _ _ x => x)
  have o12 := h₁.1.trans h₂.1
  have ho := h₂.1.pv h₁.1.gi h₁.2.1
  refine wp_subTail (p := p) (ops := [o, i]) h₂.1.gi hb ho (by cases slice <;> first | rfl | cases hn) ?_
  exact wpAny_mono (h A s₂ o i F h₂.1.gi ho h₂.2.1) (fun v s₃ h₃ => ⟨o12.trans h₃.1, h₃.2.1, fun _ => (h₃.2.2 rfl).ok o12⟩) fun _ _ x => x

theorem Bi.itemL {l : List It} {i : Int} {x : It} (h0 : 0 ≤ i) (h1 : i < 1000000) (hx : l[i.toNat]? = some x) : Bi V k getItem (.list l) (I i) (.it x) := fun A s v u F g hv hu => by
  obtain ⟨a, its, rfl, hl, hi⟩ := PV.isList hv
  obtain ⟨t, rfl⟩ := hu
  obtain ⟨y, hy, hyx⟩ := hi.get hx
  exact wpAny_getItem_list hl h0 (by (first | lia | omega)) (by simpa using hy) ⟨.refl g, hyx, fun _ => Fresh.it⟩
theorem Ats.get : ∀ {l : List At} {vs : List Value}, Ats l vs → ∀ {i : Nat} {x : At}, l[i]? = some x → ∃ v, vs[i]? = some v ∧ x.is v
  | [], _, _, i, x, e => by simp at e
  | a :: r, _, ⟨v, t, e, hv, ht⟩, 0, x, e' => by
    subst e
    simp only [List.getElem?_cons_zero, Option.some.injEq] at e'
    exact ⟨v, rfl, e' ▸ hv⟩
  | a :: r, _, ⟨v, t, e, hv, ht⟩, i + 1, x, e' => by
    subst e
    simp only [List.getElem?_cons_succ] at e' ⊢
    exact Ats.get ht e'
theorem Bi.itemT {l : List At} {i : Nat} {x : At} (h1 : i < 1000) (hx : l[i]? = some x) : Bi V k getItem (.it (.tup l)) (I i) (.it (.at x)) := fun A s v u F g hv hu => by
  obtain ⟨T, vs, rfl, hT, ha⟩ := hv
  obtain ⟨t, rfl⟩ := hu
  obtain ⟨y, hy, hyx⟩ := ha.get hx
  have hlt : i < vs.size := by
    have := (List.getElem?_eq_some_iff.mp hy).1
    simpa using this
  refine getItem_tuple hT (by (first | lia | omega)) (by (first | lia | omega)) (j := i) ?_ (by simpa using hy) ⟨.refl g, hyx, fun _ => Fresh.it⟩
  unfold seqIndex?
  simp only []
  have e1 : ¬ ((i : Int) < 0) := by (first | lia | omega)
  have e2 : ¬ ((i : Int) < 0 ∨ (i : Int) ≥ vs.size) := by (first | lia | omega)
  simp [e1]
  (first | lia | omega)
end
end
section
open PySem PySem.Calls PyProof.Rows PySem.W

noncomputable def cut {α : Type} (l : List α) (lo hi : Option Int) : List α := (l.drop (lo.elim 0 (clipAt l.length))).take (hi.elim l.length (clipAt l.length) - lo.elim 0 (clipAt l.length))
theorem cut_from {α : Type} (l : List α) (a : Nat) : cut l (some a) none = l.drop a := by
  unfold cut
  simp only [Option.elim, clipAt_nat]
  by_cases h : a ≤ l.length
  · rw [Nat.min_eq_left h, List.take_of_length_le]; simp
  · rw [Nat.min_eq_right (by (first | lia | omega))]
    simp
    (first | lia | omega)
theorem cut_upto {α : Type} (l : List α) (b : Nat) : cut l none (some b) = l.take b := by
  unfold cut
  simp only [Option.elim, clipAt_nat, List.drop_zero, Nat.sub_zero]
  by_cases h : b ≤ l.length
  · rw [Nat.min_eq_left h]
  · rw [Nat.min_eq_right (by (first | lia | omega)), List.take_of_length_le (Nat.le_refl _), List.take_of_length_le (by (first | lia | omega))]
theorem cut_run {α : Type} (l : List α) (a b : Nat) : cut l (some a) (some b) = (l.drop a).take (b - a) := by
  unfold cut
  simp only [Option.elim, clipAt_nat]
  by_cases h : a ≤ l.length
  · rw [Nat.min_eq_left h]
    by_cases h' : b ≤ l.length
    · rw [Nat.min_eq_left h']
    · rw [Nat.min_eq_right (by (first | lia | omega)), List.take_of_length_le (by simp), List.take_of_length_le (by simp; (first | lia | omega))]
  · have e : l.drop a = [] := List.drop_eq_nil_of_le (by (first | lia | omega))
    have e1 : min a l.length = l.length := by (first | lia | omega)
    rw [e, e1]; simp

inductive EVo (V : Wo) (k : Nat) (K : List (Str × NameKind)) (ρ : Vars) : Option Expr → Option Int → Prop
  | none : EVo V k K ρ none none
  | some {e : Expr} {i : Int} (h : EV V k false K ρ e (I i)) : EVo V k K ρ (some e) (some i)
theorem EVo.wp {V : Wo} {k : Nat} {K} {ρ : Vars} {e : Option Expr} {i : Option Int} (h : EVo V k K ρ e i) {A : Around} {env : Env} {s : Shared} (F : Fit A k) (g : GI V s) (R : REnv K env s.heap ρ) :
    wpAny (model prog V.w) A (valueOrNone (evalOpt e env)) (fun v s' => Ok V s s' ∧ IsPart v i) No s := by
  cases h with
  | none => exact wpAny_pure ⟨.refl g, .none⟩
  | some h => exact wpAny_mono (h A env s F g R) (fun v s' x => ⟨x.1, by obtain ⟨t, rfl⟩ := x.2.1; exact .int _ _⟩) fun _ _ x => x

noncomputable def Sc (V : Wo) (k : Nat) (p : PV) (lo hi st : Option Int) (z : PV) : Prop :=
  ∀ (A : Around) (s : Shared) (v vl vu vk : Value) (sl : Addr), Fit A k → GI V s → p.is s.heap v → s.heap.IsSliceOf sl vl vu vk → IsPart vl lo → IsPart vu hi → IsPart vk st → Gv V A (getItem v (.ref sl)) true z s

section
variable {V : Wo} {k : Nat} {fr : Bool} {K : List (Str × NameKind)} {ρ : Vars}
theorem EV.slice {value : Expr} {lower upper step : Option Expr} {lo hi st : Option Int} {p z : PV} {pos q : Pos} (hb : Base V p) (hv : EV V k false K ρ value p) (hl : EVo V k K ρ lower lo) (hu : EVo V k K ρ upper hi) (hk : EVo V k K ρ step st)
    (h : Sc V k p lo hi st z) : EV V k fr K ρ (.Subscript value (.Slice lower upper step q) pos) z := EV.weak fun A env s F g R => by
  rw [show Gv V A (eval (.Subscript value (.Slice lower upper step q) pos) env) true z s = wpAny (model prog V.w) A (eval (.Subscript value (.Slice lower upper step q) pos) env) _ _ s from rfl, eval_Subscript]
  refine wpAny_bind (wpAny_mono (hv A env s F g R) (fun o s₁ h₁ => wpAny_bind (wpAny_holding ?_)) fun _ _ x => x)
  have R1 := R.ok g h₁.1
  show wpAny _ A (do
    let l ← valueOrNone (evalOpt lower env)
    let u ← holding [l] (valueOrNone (evalOpt upper env))
    let s ← holding [l, u] (valueOrNone (evalOpt step env))
    newFields "slice" [l, u, s]) _ _ s₁
  refine wpAny_bind (wpAny_mono (hl.wp F h₁.1.gi R1) (fun vl s₂ h₂ => ?_) fun _ _ x => x)
  have R2 := R1.ok h₁.1.gi h₂.1
  refine wpAny_bind (wpAny_holding (wpAny_mono (hu.wp F h₂.1.gi R2) (fun vu s₃ h₃ => ?_) fun _ _ x => x))
  have R3 := R2.ok h₂.1.gi h₃.1
  refine wpAny_bind (wpAny_holding (wpAny_mono (hk.wp F h₃.1.gi R3) (fun vk s₄ h₄ => ?_) fun _ _ x => x))
  have o14 := (h₂.1.trans h₃.1).trans h₄.1
  have g4 := h₄.1.gi
  refine wpAny_newObj_type (T := "slice") (data := .fields #[vl, vu, vk]) (dict := Option.none) (wpAny_bind (wpAny_standAt ?_)) (by simp [sizeOk, sizeLine])
  have o45 : Ok V s₄ { s₄ with heap := s₄.heap.push { cls := .type "slice", dict := Option.none, data := .fields #[vl, vu, vk] } } := Ok.grow (s := s₄) (tk := s₄.toks) g4 fun b o e => Heap.get?_push_of_some _ e
  have o15 := (h₁.1.trans o14).trans o45
  have ho := (o14.trans o45).pv h₁.1.gi h₁.2.1
  refine wp_subTail (p := p) (ops := match step with | Option.none => [.ref s₄.heap.objs.size, o] | Option.some _ => [o, .ref s₄.heap.objs.size]) o45.gi hb ho (by cases step <;> rfl) ?_
  exact wpAny_mono (h A _ o vl vu vk s₄.heap.objs.size F o45.gi ho (Heap.IsSliceOf.new _ _ _ _) h₂.2 h₃.2 h₄.2) (fun v s₅ h₅ => ⟨o15.trans h₅.1, h₅.2.1, fun _ => (h₅.2.2 rfl).ok o15⟩) fun _ _ x => x

theorem freshNew {s : Shared} {l : List It} : Fresh s (.ref s.heap.objs.size) (.list l) := fun a _ e => by
  cases e
  cases q : s.heap.get? s.heap.objs.size with
  | none => rfl
  | some o => exact absurd (Heap.lt_size q) (Nat.lt_irrefl _)
theorem newL {s : Shared} {l : List It} {vs : Array Value} {n : Nat} (g : GI V s) (hi : Its s.heap l vs.toList) :
    Ok V s { s with heap := s.heap.push { cls := .type "list", data := .seq vs n } } ∧ (PV.list l).is (s.heap.push { cls := .type "list", data := .seq vs n }) (.ref s.heap.objs.size) :=
  ⟨Ok.grow (tk := s.toks) g fun b o e => Heap.get?_push_of_some _ e, _, vs, n, rfl, Heap.get?_push_size _ rfl, Its.keeps (fun b o _ _ e => Heap.get?_push_of_some _ e) hi⟩
theorem Sc.list {l : List It} {lo hi : Option Int} (hl : l.length < 1000000) : Sc V k (.list l) lo hi none (.list (cut l lo hi)) := fun A s v vl vu vk sl F g hv hs pl pu pk => by
  obtain ⟨a, its, rfl, hl', hi'⟩ := PV.isList hv
  have e : its.size = l.length := by have := hi'.length; simpa using this
  have hz : Its s.heap (cut l lo hi) (slicePick its lo hi none).toList := by
    rw [slicePick_plain]
    unfold cut
    rw [e, List.toList_toArray]
    exact (hi'.drop _).take _
  have n := newL (n := 0) g hz
  exact wpAny_getItem_list_slice hl' hs pl pu pk (by simp) ⟨n.1, n.2, fun _ => freshNew⟩ (by simp only [sizeLine]; (first | lia | omega))
theorem Sc.steps {l : List Int} {lo hi st : Option Int} (h0 : st ≠ some 0) (hl : l.length < 1000000) : Sc V k (IL l) lo hi st (IL (pickNums l lo hi st)) := fun A s v vl vu vk sl F g hv hs pl pu pk => by
  obtain ⟨a, its, rfl, hl', hi'⟩ := PV.isList hv
  have hi2 := hi'.ints
  have e : its.size = l.length := by have := hi2.length; simpa using this
  have hz : Its s.heap ((pickNums l lo hi st).map iIt) (slicePick its lo hi st).toList := by
    have := hi2.pick lo hi st
    exact Its.ofInts (by simpa using this)
  have n := newL (n := 0) g hz
  exact wpAny_getItem_list_slice hl' hs pl pu pk h0 ⟨n.1, n.2, fun _ => freshNew⟩ (by simp only [sizeLine]; (first | lia | omega))

theorem partValue_of {v : Value} {i : Option Int} (p : IsPart v i) : ∃ o : Option (Int × Tok), partValue o = v ∧ o.map (·.1) = i := by
  cases p with
  | none => exact ⟨none, rfl, rfl⟩
  | int i t => exact ⟨some (i, t), rfl, rfl⟩
theorem strSlice_plain (lo hi : Option Int) (n : Nat) : Builtin.Str.strSliceIndices lo hi 1 n = sliceRange (sliceBounds lo hi none n).1 (sliceBounds lo hi none n).2.1 1 := rfl
set_option tactic.hygienic true in
theorem Sc.str {l : List Nat} {lo hi : Option Int} (hl : l.length < 1000000) : Sc V k (S l) lo hi none (S (cut l lo hi)) := fun A s v vl vu vk sl F g hv hs pl pu pk => by
  obtain ⟨t, rfl⟩ := hv
  cases pk
  obtain ⟨ol, rfl, el⟩ := partValue_of pl
  obtain ⟨ou, rfl, eu⟩ := partValue_of pu
  have hn : (⟨l.toArray⟩ : Str).length = l.length := strLen l
  have e1 : (slicePicked ⟨l.toArray⟩ ol ou none).filterMap ((⟨l.toArray⟩ : Str).cps[·]?) = cut l lo hi := by
    unfold slicePicked
    simp only [Option.map_none, Option.getD_none]
    rw [el, eu, strSlice_plain, sliceBounds_plain, sliceRange_one, pick_run, hn]
    unfold cut
    simp
  have e2 : (slicePicked ⟨l.toArray⟩ ol ou none).length = (hi.elim l.length (clipAt l.length) - lo.elim 0 (clipAt l.length)) := by
    unfold slicePicked
    simp only [Option.map_none, Option.getD_none]
    rw [el, eu, strSlice_plain, sliceBounds_plain, sliceRange_one, hn]
    simp
  refine wpAny_getItem_str_slice (l := ol) (u := ou) (st := none) hs rfl ?_
  unfold sliceMade
  refine post_val_or_str ?_
  have e3 : (if (((none : Option (Int × Tok)).map (·.1)).getD 1 == 1 && (slicePicked ⟨l.toArray⟩ ol ou none).length == (⟨l.toArray⟩ : Str).length) = true then (⟨l.toArray⟩ : Str) else ⟨((slicePicked ⟨l.toArray⟩ ol ou none).filterMap ((⟨l.toArray⟩ : Str).cps[·]?)).toArray⟩) = ⟨(cut l lo hi).toArray⟩ := by
    rw [e1]
    split
    · rename_i hc
      rw [e2, hn] at hc
      have hc' : hi.elim l.length (clipAt l.length) - lo.elim 0 (clipAt l.length) = l.length := by simpa using hc
      have hle : hi.elim l.length (clipAt l.length) ≤ l.length := by
        cases hi with
        | none => exact Nat.le_refl _
        | some i => exact Int.toNat_le.mpr (Int.max_le.mpr ⟨Int.natCast_nonneg _, Int.min_le_right _ _⟩)
      have hlo : lo.elim 0 (clipAt l.length) = 0 ∨ l.length = 0 := by
        clear e1 e2 hc hs hl
        generalize lo.elim 0 (clipAt l.length) = y at *
        generalize hi.elim l.length (clipAt l.length) = x at *
        (first | lia | omega)
      have : cut l lo hi = l := by
        unfold cut
        rw [hc']
        rcases hlo with h | h
        · rw [h]; simp
        · rw [List.eq_nil_of_length_eq_zero h]; simp
      rw [this]
    · rfl
  rw [e3]
  refine ⟨?_, fun t' tk => ⟨Ok.tok g, ⟨t', rfl⟩, fun _ => Fresh.it⟩⟩
  rw [strLen]
  have : (cut l lo hi).length ≤ l.length := by unfold cut; rw [List.length_take, List.length_drop]; exact Nat.le_trans (Nat.min_le_right _ _) (Nat.sub_le _ _)
  simp only [sizeLine]
  exact Nat.le_trans this (Nat.le_of_lt (Nat.lt_trans hl (by decide)))
theorem Sc.strRev {l : List Nat} (hl : l.length < 1000000) : Sc V k (S l) none none (some (-1)) (S l.reverse) := fun A s v vl vu vk sl F g hv hs pl pu pk => by
  obtain ⟨t, rfl⟩ := hv
  cases pl
  cases pu
  cases pk with
  | int i u =>
  refine wpAny_getItem_str_slice (l := none) (u := none) (st := some (-1, u)) hs rfl ?_
  unfold sliceMade
  refine post_val_or_str ?_
  have e : Txt.sliceBy ⟨l.toArray⟩ none none (-1, u) = ⟨l.reverse.toArray⟩ := by
    refine str_ext_getD ?_ fun i hi => ?_
    · rw [step_rev_len, strLen, strLen, List.length_reverse]
    · rw [step_rev_len, strLen] at hi
      rw [step_rev_getD _ _ _ (by rw [strLen]; exact hi), strLen]
      simp only [List.getD_eq_getElem?_getD, Array.getD_eq_getD_getElem?, List.getElem?_toArray]
      rw [List.getElem?_reverse hi]
  have e3 : (if (((some ((-1 : Int), u)).map (·.1)).getD 1 == 1 && (slicePicked ⟨l.toArray⟩ none none (some (-1, u))).length == (⟨l.toArray⟩ : Str).length) = true then (⟨l.toArray⟩ : Str) else ⟨((slicePicked ⟨l.toArray⟩ none none (some (-1, u))).filterMap ((⟨l.toArray⟩ : Str).cps[·]?)).toArray⟩) = ⟨l.reverse.toArray⟩ := e
  rw [e3]
  refine ⟨by rw [strLen, List.length_reverse]; simp only [sizeLine]; (first | lia | omega), fun t' tk => ⟨Ok.tok g, ⟨t', rfl⟩, fun _ => Fresh.it⟩⟩
theorem Sc.bytes {l : List UInt8} {lo hi : Option Int} (hl : l.length < 1000000) : Sc V k (By l) lo hi none (By (cut l lo hi)) := fun A s v vl vu vk sl F g hv hs pl pu pk => by
  obtain ⟨t, rfl⟩ := hv
  cases pk
  have e : KBy.picked l.toArray lo hi = (cut l lo hi).toArray := by
    rw [KBc.picked_eq]; unfold cut; simp
  refine getItem_meets (typeIs_bytes _ _ _) (by decide) FB.slot_bytes_getitem FB.entry_bytes_getitem (FB.args_bytes_getitem_2 _ _) (KBc.meets_slice2 _ t sl pl pu) ⟨hs, ?_, fun t' tk => ?_⟩
  · have := KBc.size_picked_le l.toArray lo hi
    simp only [sizeLine]
    have : l.toArray.size = l.length := by simp
    (first | lia | omega)
  · rw [e]; exact ⟨Ok.tok g, ⟨t', rfl⟩, fun _ => Fresh.it⟩
end
end
section
open PySem PySem.Calls PyProof.Rows PySem.W

noncomputable def Plain (o : Obj) : Prop := (o.cls ≠ .type "code" ∧ o.cls ≠ .none) ∨ ∀ vs, o.data ≠ .fields vs
noncomputable def Safe (V : Wo) (h : Heap) (b : Addr) : Prop := V.h0.get? b = none ∧ ∀ o, h.get? b = some o → Plain o
theorem GI.noH0 {V : Wo} {s : Shared} (g : GI V s) {b : Addr} (e : s.heap.get? b = none) : V.h0.get? b = none := by
  cases q : V.h0.get? b with
  | none => rfl
  | some o => have := g.keep _ _ q; rw [e] at this; cases this
theorem TabOk.but {h h' : Heap} {c P : Addr} {pos : Pos} {q : Str} (x : TabOk h c P pos q) {wr : List Addr} (hw : ∀ b ∈ wr, ∀ o, h.get? b = some o → Plain o)
    (hk : ∀ b o, b ∉ wr → h.get? b = some o → h'.get? b = some o) : TabOk h' c P pos q := by
  obtain ⟨ps, h1, ⟨⟨o, vs, a, ac, ad, r⟩, t⟩, h3⟩ := x
  have hc : c ∉ wr := fun m => (hw _ m _ a).elim (fun y => y.1 ac) fun y => y _ ad
  have hP : P ∉ wr := fun m => (hw _ m _ t).elim (fun y => y.2 rfl) fun y => y _ rfl
  refine ⟨ps, ?_, ⟨⟨o, vs, hk _ _ hc a, ac, ad, r⟩, hk _ _ hP t⟩, ?_⟩
  · obtain ⟨o, vs, file, tf, flags, tg, inF, text, tt, op, a, r1, r2, r3, r4, r5, r6, b, r⟩ := h1
    exact ⟨o, vs, file, tf, flags, tg, inF, text, tt, op, hk _ _ hc a, r1, r2, r3, r4, r5, r6, hk _ _ hP b, r⟩
  · rcases h3 with h3 | ⟨c', e, r, o, ho, hco⟩
    · exact .inl h3
    · obtain ⟨c2, o2, vs2, t2, e2, g2, d2, r2⟩ := r
      cases e2
      have hc' : c' ∉ wr := fun m => (hw _ m _ g2).elim (fun y => y.1 (by rw [ho] at g2; cases g2; exact hco)) fun y => y _ d2
      refine .inr ⟨c', e, ?_, o, hk _ _ hc' ho, hco⟩
      exact ⟨c', o2, vs2, t2, rfl, hk _ _ hc' g2, d2, r2⟩
theorem GI.but {V : Wo} {s s' : Shared} (g : GI V s) {wr : List Addr} (hw : ∀ b ∈ wr, Safe V s.heap b) (hk : ∀ b o, b ∉ wr → s.heap.get? b = some o → s'.heap.get? b = some o) (hg : AllBare s'.gens) : GI V s' :=
  ⟨g.ok, fun b o e => hk b o (fun m => by rw [(hw _ m).1] at e; cases e) (g.keep b o e), fun t ht => (g.tab t ht).but (fun b m => (hw b m).2) hk, hg, g.off⟩

structure Mo (V : Wo) (wr : List Addr) (s s' : Shared) : Prop where
  keep : ∀ b o, b ∉ wr → b ∉ tabAddrs → s.heap.get? b = some o → s'.heap.get? b = some o
  there : ∀ b o, b ∉ wr → s.heap.get? b = some o → ∃ o', s'.heap.get? b = some o'
  os : s'.os = s.os
  gi : GI V s'
theorem Ok.mo {V : Wo} {wr : List Addr} {s s' : Shared} (k : Ok V s s') : Mo V wr s s' := ⟨fun b o _ h e => k.keep b o h e, fun b o _ e => k.there b o e, k.os, k.gi⟩
theorem Mo.trans {V : Wo} {wr wr' w2 : List Addr} {s s' s'' : Shared} (a : Mo V wr s s') (b : Mo V wr' s' s'') (h1 : ∀ x ∈ wr, x ∈ w2) (h2 : ∀ x ∈ wr', x ∈ w2 ∨ s.heap.get? x = none) : Mo V w2 s s'' :=
  ⟨fun c o hc ht e => b.keep c o (fun m => (h2 c m).elim hc (fun n => by rw [n] at e; cases e)) ht (a.keep c o (fun m => hc (h1 c m)) ht e),
    fun c o hc e => let ⟨o', e'⟩ := a.there c o (fun m => hc (h1 c m)) e; b.there c o' (fun m => (h2 c m).elim hc (fun n => by rw [n] at e; cases e)) e', b.os.trans a.os, b.gi⟩
theorem Ok.mod {V : Wo} {wr : List Addr} {s₀ s s' : Shared} (a : Ok V s₀ s) (b : Mo V wr s s') (h : ∀ x ∈ wr, s₀.heap.get? x = none) : Ok V s₀ s' :=
  ⟨fun c o hc e => b.keep c o (fun m => by rw [h c m] at e; cases e) hc (a.keep c o hc e), fun c o e => let ⟨o', e'⟩ := a.there c o e; b.there c o' (fun m => by rw [h c m] at e; cases e) e', b.os.trans a.os, b.gi⟩
theorem Mo.at {V : Wo} {wr : List Addr} {s s' : Shared} (k : Mo V wr s s') (g : GI V s) {b : Addr} {o : Obj} (e : s.heap.get? b = some o) (hb : b ∉ wr) (hc : o.cls ≠ .none) : s'.heap.get? b = some o := k.keep b o hb (g.notTabC e hc) e
theorem Mo.atD {V : Wo} {wr : List Addr} {s s' : Shared} (k : Mo V wr s s') (g : GI V s) {b : Addr} {o : Obj} (e : s.heap.get? b = some o) (hb : b ∉ wr) (hd : ∀ vs, o.data ≠ .fields vs) : s'.heap.get? b = some o := k.keep b o hb (g.notTab e hd) e

noncomputable def NT (h : Heap) (b : Addr) : Prop := ∀ o, h.get? b = some o → o.cls = .type "tuple" → ∀ vs n, o.data ≠ .seq vs n
noncomputable def NV (h : Heap) (b : Addr) : Prop := ∀ o, h.get? b = some o → (∀ vs n, o.data ≠ .seq vs n) ∧ o.cls ≠ .type "dict" ∧ ∀ v, o.data ≠ .cell v
theorem NV.nt {h : Heap} {b : Addr} (x : NV h b) : NT h b := fun o e _ => (x o e).1
theorem Mo.it {V : Wo} {wr : List Addr} {s s' : Shared} (k : Mo V wr s s') (g : GI V s) (hn : ∀ b ∈ wr, NT s.heap b) {p : It} {v : Value} (x : p.is s.heap v) : p.is s'.heap v :=
  It.keeps (fun b o hd hc e => by
    obtain ⟨vs, n, hd⟩ := hd
    exact k.atD g e (fun m => hn b m o e hc _ _ hd) (fun vs' e' => by rw [hd] at e'; cases e')) x
theorem Mo.its {V : Wo} {wr : List Addr} {s s' : Shared} (k : Mo V wr s s') (g : GI V s) (hn : ∀ b ∈ wr, NT s.heap b) {p : List It} {v : List Value} (x : Its s.heap p v) : Its s'.heap p v :=
  Its.keeps (fun b o hd hc e => by
    obtain ⟨vs, n, hd⟩ := hd
    exact k.atD g e (fun m => hn b m o e hc _ _ hd) (fun vs' e' => by rw [hd] at e'; cases e')) x

structure Kp (V : Wo) (s₀ s : Shared) : Prop where
  gi : GI V s
  it : ∀ (x : It) v, x.is s₀.heap v → x.is s.heap v
theorem Ok.kp {V : Wo} {s s' : Shared} (k : Ok V s s') (g : GI V s) : Kp V s s' := ⟨k.gi, fun x v h => k.it g h⟩
theorem Kp.mo {V : Wo} {wr : List Addr} {s₀ s s' : Shared} (k : Kp V s₀ s) (m : Mo V wr s s') (hn : ∀ b ∈ wr, NT s.heap b) : Kp V s₀ s' := ⟨m.gi, fun x v h => m.it k.gi hn (k.it x v h)⟩

structure Src (V : Wo) (k : Nat) (s₀ : Shared) (I : Addr) (l : List It) (fp wr : List Addr) (tg : Expr → Prop) (q : Bool) (St : Nat → Heap → Prop) (Mid : Nat → Value → Heap → Prop) : Prop where
  sub : ∀ b ∈ wr, b ∈ fp
  new : ∀ b ∈ wr, s₀.heap.get? b = none
  frame : ∀ i h h', St i h → (∀ b ∈ fp, ∀ o, h.get? b = some o → h'.get? b = some o) → St i h'
  ex : (∀ i h, St i h → ∀ b ∈ wr, ∃ o, h.get? b = some o) ∧ ∀ i v h, Mid i v h → ∀ b ∈ wr, ∃ o, h.get? b = some o
  nv : q = true → (∀ i h, St i h → ∀ b ∈ wr, NV h b) ∧ ∀ i v h, Mid i v h → ∀ b ∈ wr, NV h b
  next : ∀ A i s x, Fit A k → Kp V s₀ s → St i s.heap → l[i]? = some x → wpAny (model prog V.w) A (pyNext (.ref I)) (fun r s' => ∃ v, r = some v ∧ x.is s'.heap v ∧ Mid i v s'.heap ∧ Mo V wr s s') No s
  go : ∀ t A i v s, Fit A k → tg t → Mid i v s.heap → Kp V s₀ s → wpAny (model prog V.w) A (letOwnedTupleGo t (.ref I) v) (fun _ s' => St (i + 1) s'.heap ∧ Mo V wr s s' ∧ ∀ x : It, x.is s.heap v → x.is s'.heap v) No s
  done : ∀ A s, Fit A k → Kp V s₀ s → St l.length s.heap → wpAny (model prog V.w) A (pyNext (.ref I)) (fun r s' => r = none ∧ Mo V wr s s') No s
  self : ∀ A i s, Fit A k → St i s.heap → wpAny (model prog V.w) A (pyIter (.ref I)) (fun r s' => r = .ref I ∧ s' = s) No s

noncomputable def isName : Expr → Prop
  | .Name .. => True
  | _ => False
noncomputable def isTup : Expr → Prop
  | .Tuple .. => True
  | _ => False
theorem go_name {t : Expr} (h : isName t) (it v : Value) : letOwnedTupleGo t it v = pure () := by cases t <;> first | rfl | cases h

section
variable {V : Wo} {k : Nat} {s₀ : Shared}
theorem Mo.of {wr : List Addr} {s : Shared} {h' : Heap} {tk : Nat} (g : GI V s) (hs : ∀ b ∈ wr, Safe V s.heap b) (hk : ∀ b o, b ∉ wr → s.heap.get? b = some o → h'.get? b = some o) : Mo V wr s { s with heap := h', toks := tk } :=
  ⟨fun b o hb _ e => hk b o hb e, fun b o hb e => ⟨o, hk b o hb e⟩, rfl, g.but (s' := { s with heap := h', toks := tk }) hs hk g.bare⟩

noncomputable def Own (wr : List Addr) (h : Heap) : Prop := ∀ b ∈ wr, ∃ o, h.get? b = some o ∧ o.cls ≠ .type "code" ∧ o.cls ≠ .none
noncomputable def OwnV (wr : List Addr) (h : Heap) : Prop := ∀ b ∈ wr, ∃ o vs, h.get? b = some o ∧ o.data = .fields vs ∧ o.cls ≠ .type "code" ∧ o.cls ≠ .none ∧ o.cls ≠ .type "dict"
theorem OwnV.own {wr : List Addr} {h : Heap} (x : OwnV wr h) : Own wr h := fun b hb => let ⟨o, vs, e, d, c1, c2, _⟩ := x b hb; ⟨o, e, c1, c2⟩
theorem OwnV.nv {wr : List Addr} {h : Heap} (x : OwnV wr h) : ∀ b ∈ wr, NV h b := fun b hb o e => by
  obtain ⟨o', vs, e', d, c1, c2, c3⟩ := x b hb
  rw [e] at e'; cases e'
  exact ⟨fun _ _ h => (by rw [d] at h; cases h), c3, fun _ h => (by rw [d] at h; cases h)⟩
theorem Own.safe {wr : List Addr} {s : Shared} (x : Own wr s.heap) (g₀ : GI V s₀) (hn : ∀ b ∈ wr, s₀.heap.get? b = none) : ∀ b ∈ wr, Safe V s.heap b :=
  fun b hb => ⟨g₀.noH0 (hn b hb), fun o e => by obtain ⟨o', e', c⟩ := x b hb; rw [e] at e'; cases e'; exact .inl c⟩

theorem Src.ofW {I : Addr} {l : List It} {fp wr : List Addr} {P : Nat → Value → Prop} {St : Nat → Heap → Prop} {tg : Expr → Prop} {n : Nat} (W : ∀ A : Around, A.handled = none → Walks prog V.w A I fp wr n P St) (e : n = l.length) (g₀ : GI V s₀)
    (hn : ∀ b ∈ wr, s₀.heap.get? b = none) (hw : ∀ i h, St i h → OwnV wr h) (hP : ∀ i v x, P i v → l[i]? = some x → x.is s₀.heap v)
    (hgo : ∀ t A i v s, tg t → St i s.heap → wpAny (model prog V.w) A (letOwnedTupleGo t (.ref I) v) (fun _ s' => s' = s) No s) : Src V k s₀ I l fp wr tg true St (fun i _ h => St (i + 1) h) := by
  subst e
  exact {
  sub := (W { depth := 0, units := 0, handled := none } rfl).sub
  new := hn
  frame := (W { depth := 0, units := 0, handled := none } rfl).frame
  next := fun A i s x F k hst hx => by
    refine (W A F.handled).item i s _ _ (List.getElem?_eq_some_iff.mp hx).1 hst fun v h' tk hp hst' hk => ?_
    have m : Mo V wr s { s with heap := h', toks := tk } := Mo.of k.gi ((hw _ _ hst).own.safe g₀ hn) hk
    exact ⟨v, rfl, (k.mo m fun b hb => ((hw _ _ hst).nv b hb).nt).it x v (hP i v x hp hx), hst', m⟩
  go := fun t A i v s F ht hm k => wpAny_mono (hgo t A (i + 1) v s ht hm) (fun _ s' e => by subst e; exact ⟨hm, (Ok.refl k.gi).mo, fun _ x => x⟩) fun _ _ x => x
  ex := ⟨fun i h st b hb => let ⟨o, _, e, _⟩ := hw i h st b hb; ⟨o, e⟩, fun i v h st b hb => let ⟨o, _, e, _⟩ := hw _ h st b hb; ⟨o, e⟩⟩
  nv := fun _ => ⟨fun i h st => (hw i h st).nv, fun i v h st => (hw _ h st).nv⟩
  done := fun A s F k hst => (W A F.handled).done s _ _ hst fun h' tk hk => ⟨rfl, Mo.of k.gi ((hw _ _ hst).own.safe g₀ hn) hk⟩
  self := fun A i s F hst => (W A F.handled).self i s _ _ hst ⟨rfl, rfl⟩ }
theorem Src.ofU {I : Addr} {l : List (List At)} {fp wr : List Addr} {P : Nat → Array Value → Prop} {St : Nat → Heap → Prop} {MidU : Nat → Addr → Heap → Prop}
    {n : Nat} (W : ∀ A : Around, A.handled = none → WalksU prog V.w A I fp wr n P St MidU) (e : n = l.length) (g₀ : GI V s₀)
    (hn : ∀ b ∈ wr, s₀.heap.get? b = none) (hw : ∀ i h, St i h → Own wr h) (hm : ∀ i T h, MidU i T h → Own wr h) (hP : ∀ i v x, P i v → l[i]? = some x → Ats x v.toList)
    {q : Bool} (hq : q = true → (∀ i h, St i h → ∀ b ∈ wr, NV h b) ∧ ∀ i T h, MidU i T h → ∀ b ∈ wr, NV h b) :
    Src V k s₀ I (l.map .tup) fp wr isTup q St (fun i v h => ∃ T, v = .ref T ∧ MidU i T h) := by
  subst e
  exact {
  sub := (W { depth := 0, units := 0, handled := none } rfl).sub
  new := hn
  frame := (W { depth := 0, units := 0, handled := none } rfl).frame
  next := fun A i s x F k hst hx => by
    rw [List.getElem?_map] at hx
    obtain ⟨y, hy, rfl⟩ := Option.map_eq_some_iff.mp hx
    refine (W A F.handled).item i s _ _ (List.getElem?_eq_some_iff.mp hy).1 hst fun T vals h' tk hp hT hmid hk => ?_
    exact ⟨_, rfl, ⟨T, vals, rfl, hT, hP i vals y hp hy⟩, ⟨T, rfl, hmid⟩, Mo.of k.gi ((hw _ _ hst).safe g₀ hn) hk⟩
  go := fun t A i v s F ht hmid k => by
    obtain ⟨T, rfl, hmid⟩ := hmid
    cases t with
    | Tuple elts kk pos =>
      refine (W A F.handled).go elts kk pos i T s _ _ hmid fun h' hst' hk => ⟨hst', Mo.of (tk := s.toks) k.gi ((hm _ _ _ hmid).safe g₀ hn) hk, fun x hx => ?_⟩
      cases x with
      | «at» a => exact hx
      | tup m =>
        obtain ⟨T', vs, e, ⟨o, ho, r⟩, ha⟩ := hx
        cases e
        exact ⟨T, vs, rfl, ⟨o, hk _ _ ((W A F.handled).apart i T s.heap hmid) ho, r⟩, ha⟩
    | _ => cases ht
  ex := ⟨fun i h st b hb => let ⟨o, e, _⟩ := hw i h st b hb; ⟨o, e⟩, fun i v h ⟨T, _, st⟩ b hb => let ⟨o, e, _⟩ := hm i T h st b hb; ⟨o, e⟩⟩
  nv := fun e => ⟨(hq e).1, fun i v h ⟨T, _, st⟩ => (hq e).2 i T h st⟩
  done := fun A s F k hst => by
    rw [List.length_map] at hst
    exact (W A F.handled).done s _ _ hst fun h' tk hk => ⟨rfl, Mo.of k.gi ((hw _ _ hst).safe g₀ hn) hk⟩
  self := fun A i s F hst => (W A F.handled).self i s _ _ hst ⟨rfl, rfl⟩ }
end
end
section
open PySem PySem.Calls PyProof.Rows PySem.W

noncomputable def Wk (V : Wo) (k : Nat) (s₀ : Shared) (l : List It) (tg : Expr → Prop) (q pz pf : Bool) (it : Value) (s' : Shared) : Prop :=
  ∃ sb I fp wr St Mid, it = .ref I ∧ Ok V s₀ sb ∧ Ok V sb s' ∧ Src V k sb I l fp wr tg q St Mid ∧ St 0 s'.heap ∧ (∀ b ∈ fp, (∃ o, s'.heap.get? b = some o) ∧ b ∉ tabAddrs) ∧ (pz = true → ∀ b ∈ fp, b ∈ wr) ∧ (pf = true → ∀ b ∈ fp, s₀.heap.get? b = none)
noncomputable def IE (V : Wo) (k : Nat) (K : List (Str × NameKind)) (ρ : Vars) (e : Expr) (l : List It) (tg : Expr → Prop) (q pz pf : Bool) : Prop :=
  ∀ (A : Around) (env : Env) (s₀ : Shared), Fit A k → GI V s₀ → REnv K env s₀.heap ρ →
    wpAny (model prog V.w) A (eval e env) (fun x s₁ => wpAny (model prog V.w) A (pyIter x) (fun it s' => Wk V k s₀ l tg q pz pf it s') No s₁) No s₀

section
variable {V : Wo} {k : Nat} {fr : Bool} {K : List (Str × NameKind)} {ρ : Vars}
theorem wp_evalCall {A : Around} {env : Env} {s : Shared} {x : Str} {xp pos : Pos} {f : Value} {es : List Expr} {ps : List PV} {Q : Value → Shared → Prop} (F : Fit A k) (g : GI V s) (R : REnv K env s.heap ρ)
    (hx : K.lookup x = some .globalImplicit) (hv : Gl V x f) (hk : Kept V f) (ha : EVs V k K ρ es ps)
    (h : ∀ vs s1, Ok V s s1 → PVs s1.heap ps vs → wpAny (model prog V.w) A (call f vs) Q No s1) (hd : (x == ("__debug__" : Str)) = false := by decide) :
    wpAny (model prog V.w) A (eval (.Call (.Name x xp) es [] pos) env) Q No s := by
  show wpAny _ A (do callWith pos (← eval (.Name x xp) env) [] (backTo pos (starEach es env)) (backToKw pos (keywordEach [] env))) _ _ s
  refine wpAny_bind (wp_global g R hx hv ?_ hd)
  exact wp_callWith (ha.plain env pos) hk (wp_args pos ha F g R fun vs s' o hp => ⟨o.gi, h vs s' o hp⟩)

theorem wp_evalCall1 {A : Around} {env : Env} {s : Shared} {x : Str} {xp pos : Pos} {fv : Value} {e : Expr} {f : Bool} {p : PV} {Q : Value → Shared → Prop} (F : Fit A k) (g : GI V s) (R : REnv K env s.heap ρ)
    (hx : K.lookup x = some .globalImplicit) (hv : Gl V x fv) (hk : Kept V fv) (hs : ∀ e' q, e ≠ .Starred e' q) (he : EV V k f K ρ e p)
    (h : ∀ v s1, Ok V s s1 → p.is s1.heap v → (f = true → Fresh s v p) → wpAny (model prog V.w) A (call fv [v]) Q No s1) (hd : (x == ("__debug__" : Str)) = false := by decide) :
    wpAny (model prog V.w) A (eval (.Call (.Name x xp) [e] [] pos) env) Q No s := by
  show wpAny _ A (do callWith pos (← eval (.Name x xp) env) [] (backTo pos (starEach [e] env)) (backToKw pos (keywordEach [] env))) _ _ s
  refine wpAny_bind (wp_global g R hx hv ?_ hd)
  refine wp_callWith (by rw [starEach_cons hs, backTo_cons]; rfl) hk ?_
  rw [starEach_cons hs, backTo_cons]
  refine evalArgs_plain (spliced_cons (wpAny_mono (he A env s F g R) (fun v s1 h1 => ?_) fun _ _ x => x))
  exact spliced_nil ⟨h1.1.gi, h v s1 h1.1 h1.2.1 h1.2.2⟩
theorem fresh_none {h : Heap} {a : Nat} (ha : h.objs.size ≤ a) : h.get? a = none := by
  cases e : h.get? a with
  | none => rfl
  | some o => exact absurd (Heap.lt_size e) (Nat.not_lt.mpr ha)
theorem goList {A : Around} {s : Shared} {I ax : Addr} {i : Nat} {t : Expr} {v : Value} (h : isName t ∨ isTup t) (hit : s.heap.IsListIter I ax i) : wpAny (model prog V.w) A (letOwnedTupleGo t (.ref I) v) (fun _ s' => s' = s) No s := by
  rcases h with h | h
  · rw [go_name h]; exact wpAny_pure rfl
  · cases t with
    | Tuple elts kk pos =>
      cases v with
      | ref T => exact wpAny_letOwnedTupleGo_listiter hit rfl
      | _ => exact wpAny_pure rfl
    | _ => cases h
theorem goName {A : Around} {s : Shared} {it v : Value} {t : Expr} (h : isName t) : wpAny (model prog V.w) A (letOwnedTupleGo t it v) (fun _ s' => s' = s) No s := by
  rw [go_name h]; exact wpAny_pure rfl
theorem iter_sat {wr : Addr} {h : Heap} {o : Obj} {vs : Array Value} (e : h.get? wr = some o) (d : o.data = .fields vs) (h1 : o.cls ≠ .type "code") (h2 : o.cls ≠ .none) (h3 : o.cls ≠ .type "dict") : OwnV [wr] h := fun b hb => by
  rw [List.mem_singleton] at hb; subst hb; exact ⟨o, vs, e, d, h1, h2, h3⟩
theorem fresh_tab {V : Wo} {s : Shared} (g : GI V s) {b : Nat} (hb : s.heap.objs.size ≤ b) : b ∉ tabAddrs := fun m => by
  obtain ⟨ps, e⟩ := g.tabObj m
  rw [fresh_none hb] at e; cases e
theorem list_tab {V : Wo} {s : Shared} (g : GI V s) {a : Addr} {its : Array Value} (hl : s.heap.IsList a its) : a ∉ tabAddrs := by
  obtain ⟨o, ho, hc, _⟩ := hl
  exact g.notTabC ho (by rw [hc]; nofun)
theorem above {s : Shared} {wr : List Addr} (h : ∀ b ∈ wr, s.heap.objs.size ≤ b) : ∀ b ∈ wr, s.heap.get? b = none := fun b hb => fresh_none (h b hb)

theorem fp1 {h : Heap} {n : Nat} {o : Obj} (e : h.get? n = some o) (t : ∀ b : Nat, n ≤ b → b ∉ tabAddrs) : ∀ b ∈ [n], (∃ o, h.get? b = some o) ∧ b ∉ tabAddrs := fun b hb => by
  simp only [List.mem_cons, List.not_mem_nil, or_false] at hb
  subst hb
  exact ⟨⟨o, e⟩, t _ (Nat.le_refl _)⟩
theorem fp2 {h : Heap} {n a : Nat} {o o' : Obj} (e : h.get? n = some o) (e' : h.get? a = some o') (t : ∀ b : Nat, n ≤ b → b ∉ tabAddrs) (ta : a ∉ tabAddrs) : ∀ b ∈ [n, a], (∃ o, h.get? b = some o) ∧ b ∉ tabAddrs := fun b hb => by
  simp only [List.mem_cons, List.not_mem_nil, or_false] at hb
  rcases hb with rfl | rfl
  · exact ⟨⟨o, e⟩, t _ (Nat.le_refl _)⟩
  · exact ⟨⟨o', e'⟩, ta⟩
theorem wrE {n : Nat} : ∀ b ∈ [n + 1, n], n ≤ b := fun b hb => by
  simp only [List.mem_cons, List.not_mem_nil, or_false] at hb
  (first | lia | omega)
theorem wrZ {n : Nat} : ∀ b ∈ [n + 4, n + 3, n, n + 1], n ≤ b := fun b hb => by
  simp only [List.mem_cons, List.not_mem_nil, or_false] at hb
  (first | lia | omega)
theorem IE.list {e : Expr} {l : List It} {f : Bool} (h : EV V k f K ρ e (.list l)) : IE V k K ρ e l (fun t => isName t ∨ isTup t) true false f := fun A env s₀ F g R => by
  refine wpAny_mono (h A env s₀ F g R) (fun x s₁ h₁ => ?_) fun _ _ x => x
  obtain ⟨o1, hx, hfr⟩ := h₁
  obtain ⟨a, its, rfl, hl, hi⟩ := PV.isList hx
  refine wpAny_pyIter_list hl ?_
  have hlt : a < s₁.heap.objs.size := by obtain ⟨o, ho, _⟩ := hl; exact Heap.lt_size ho
  have e : its.size = l.length := by have := hi.length; simpa using this
  refine ⟨s₁, s₁.heap.objs.size, _, [s₁.heap.objs.size], _, _, rfl, o1, Ok.grow (s := s₁) (tk := s₁.toks) o1.gi fun b o e => Heap.get?_push_of_some _ e,
    Src.ofW (P := fun i v => its[i]? = some v) (fun A hA => Walks.list hA s₁.heap.objs.size a (Nat.ne_of_lt hlt) its) e o1.gi (above fun b hb => by rw [List.mem_singleton] at hb; rw [hb]; exact Nat.le_refl _) (fun i h st => ?_) (fun i v x hp hx => ?_) (fun t A i v s ht st => goList ht st.1), ?_, ?_, (by first | exact ns rfl | exact nIt rfl | exact nAcc rfl | nofun), fun e b hb => ?_⟩
  · obtain ⟨o, ho, hc, hd⟩ := st.1
    exact iter_sat ho hd (by rw [hc]; decide) (by rw [hc]; nofun) (by rw [hc]; decide)
  · obtain ⟨v', hv', hx'⟩ := hi.get hx
    rw [Array.getElem?_toList] at hv'
    rw [hp] at hv'; cases hv'; exact hx'
  · exact ⟨⟨_, Heap.get?_push_size _ rfl, rfl, rfl⟩, hl.push _⟩
  · obtain ⟨oa, hoa, _⟩ := id hl
    exact fp2 (Heap.get?_push_size _ rfl) (Heap.get?_push_of_some _ hoa) (fun b hb => fresh_tab o1.gi hb) (list_tab o1.gi hl)
  · simp only [List.mem_cons, List.not_mem_nil, or_false] at hb
    rcases hb with rfl | rfl
    · exact o1.fresh (fresh_none (Nat.le_refl _))
    · exact hfr e _ (by first | exact ns rfl | exact nIt rfl | exact nAcc rfl | nofun) rfl

theorem IE.str {e : Expr} {l : List Nat} {pz pf : Bool} (h : EV V k false K ρ e (S l)) : IE V k K ρ e (l.map fun c => sIt [c]) isName true pz pf := fun A env s₀ F g R => by
  refine wpAny_mono (h A env s₀ F g R) (fun x s₁ h₁ => ?_) fun _ _ x => x
  obtain ⟨o1, ⟨t, rfl⟩, _⟩ := h₁
  have key : ∀ {T : String} {I : Addr} {i : Nat} {h : Heap}, h.IsStrIter I T ⟨l.toArray⟩ t i → T ≠ "code" → T ≠ "dict" → OwnV [I] h := fun {T I i h} ⟨o, ho, hc, hd⟩ hT hT' => iter_sat ho hd (by rw [hc]; intro e; cases e; exact hT rfl) (by rw [hc]; nofun) (by rw [hc]; intro e; cases e; exact hT' rfl)
  have hP : ∀ i v x, SignAt ⟨l.toArray⟩ i v → (l.map fun c => sIt [c])[i]? = some x → x.is s₁.heap v := fun i v x hp hx => by
    obtain ⟨c, u, hc, rfl⟩ := hp
    rw [List.getElem?_map] at hx
    have hc' : l[i]? = some c := by simpa using hc
    rw [hc'] at hx
    cases hx
    exact ⟨u, rfl⟩
  have hle : ∀ b ∈ [s₁.heap.objs.size], s₁.heap.objs.size ≤ b := fun b hb => by rw [List.mem_singleton] at hb; rw [hb]; exact Nat.le_refl _
  have hlen : (⟨l.toArray⟩ : Str).cps.size = (l.map fun c => sIt [c]).length := by simp
  cases ha : (⟨l.toArray⟩ : Str).cps.all (· < 128)
  · refine wpAny_pyIter_wide ha ?_
    refine ⟨s₁, s₁.heap.objs.size, _, [s₁.heap.objs.size], _, _, rfl, o1, Ok.grow (s := s₁) (tk := s₁.toks) o1.gi fun b o e => Heap.get?_push_of_some _ e,
      Src.ofW (fun A hA => Walks.strWide hA s₁.heap.objs.size ⟨l.toArray⟩ t) hlen o1.gi (above hle) (fun i h st => key st (by decide) (by decide)) hP (fun t A i v s ht st => goName ht), ?_, ?_, fun _ _ h => h, fun _ b hb => o1.fresh (above hle b hb)⟩
    · exact ⟨_, Heap.get?_push_size _ rfl, rfl, rfl⟩
    · exact fp1 (Heap.get?_push_size _ rfl) fun b hb => fresh_tab o1.gi hb
  · refine wpAny_pyIter_ascii ha ?_
    refine ⟨s₁, s₁.heap.objs.size, _, [s₁.heap.objs.size], _, _, rfl, o1, Ok.grow (s := s₁) (tk := s₁.toks) o1.gi fun b o e => Heap.get?_push_of_some _ e,
      Src.ofW (fun A hA => Walks.strAscii hA s₁.heap.objs.size ⟨l.toArray⟩ t) hlen o1.gi (above hle) (fun i h st => key st (by decide) (by decide)) hP (fun t A i v s ht st => goName ht), ?_, ?_, fun _ _ h => h, fun _ b hb => o1.fresh (above hle b hb)⟩
    · exact ⟨_, Heap.get?_push_size _ rfl, rfl, rfl⟩
    · exact fp1 (Heap.get?_push_size _ rfl) fun b hb => fresh_tab o1.gi hb

theorem rangeIE {pz pf : Bool} {A : Around} {s s₁ : Shared} {r : Addr} {a b c : Int} {t u v : Tok} {n : Nat} {s₀ : Shared} (o0 : Ok V s₀ s) (o1 : Ok V s s₁) (hr : IsRange s₁.heap r a b c t u v) (hs : Builtin.Range.small a b c = true) (hn : Builtin.Range.rangeSize a b c = n) :
    wpAny (model prog V.w) A (pyIter (.ref r)) (fun it s' => Wk V k s₀ ((List.range n).map fun i : Nat => iIt (a + i * c)) isName true pz pf it s') No s₁ := by
  refine wpAny_pyIter_range hr hs ?_
  refine ⟨s₁, s₁.heap.objs.size, _, [s₁.heap.objs.size], _, _, rfl, o0.trans o1, Ok.grow (s := s₁) (tk := s₁.toks) o1.gi fun b o e => Heap.get?_push_of_some _ e,
      Src.ofW (fun A hA => Walks.range hA s₁.heap.objs.size a c n) (by simp) o1.gi (above fun b hb => by rw [List.mem_singleton] at hb; rw [hb]; exact Nat.le_refl _) (fun i h st => ?_) (fun i v x hp hx => ?_) (fun t A i v s ht st => goName ht), ?_, ?_, fun _ _ h => h, fun _ b hb => (o0.trans o1).fresh (fresh_none (by rw [List.mem_singleton] at hb; rw [hb]; exact Nat.le_refl _))⟩
  · exact iter_sat (show h.get? _ = some _ from st) rfl (by show Value.type _ ≠ _; decide) (by first | exact ns rfl | exact nIt rfl | exact nAcc rfl | nofun) (by show Value.type _ ≠ _; decide)
  · obtain ⟨tk, rfl⟩ := hp
    rw [List.getElem?_map] at hx
    obtain ⟨y, hy, rfl⟩ := Option.map_eq_some_iff.mp hx
    obtain ⟨h1, h2⟩ := List.getElem?_eq_some_iff.mp hy
    simp at h2
    subst h2
    exact ⟨tk, rfl⟩
  · have := Heap.get?_push_size s₁.heap (o := { cls := .type "range_iterator", data := .fields #[rawInt a, rawInt (Builtin.Range.rangeSize a b c), rawInt c] }) rfl
    rw [hn] at this ⊢
    simpa [IsRangeIter] using this
  · exact fp1 (Heap.get?_push_size _ rfl) fun b hb => fresh_tab o1.gi hb

theorem small_down {a b : Int} (ha : 0 ≤ a) (ha' : a < 1000000) (hb : 0 ≤ b) (hb' : b < 1000000) : Builtin.Range.small a b (-1) = true ∧ Builtin.Range.rangeSize a b (-1) = ((a - b).toNat : Int) := by
  have e : Builtin.Range.rangeSize a b (-1) = ((a - b).toNat : Int) := by
    have e1 : ∀ x : Int, x / - -1 = x := fun x => by simp
    unfold Builtin.Range.rangeSize
    simp only [e1]
    split <;> (try split) <;> (first | lia | omega)
  refine ⟨?_, e⟩
  unfold Builtin.Range.small
  rw [e]
  simp only [Builtin.Range.rangeFitsLong, Bool.and_eq_true, Bool.or_eq_true, decide_eq_true_eq, beq_iff_eq]
  refine ⟨⟨⟨⟨?_, ?_⟩, ?_⟩, ?_⟩, ?_⟩
  all_goals first | (first | lia | omega) | (split <;> simp <;> (first | lia | omega)) | (right; simp; (first | lia | omega))
theorem IE.range {e : Expr} {n : Int} {xp pos : Pos} {pz pf : Bool} (hx : K.lookup ("range" : Str) = some .globalImplicit) (hv : Gl V ("range" : Str) (.type "range")) (hs : ∀ e' q, e ≠ .Starred e' q) (h : EV V k false K ρ e (I n)) (h0 : 0 ≤ n) (h1 : n < 1000000) :
    IE V k K ρ (.Call (.Name "range" xp) [e] [] pos) ((List.range n.toNat).map fun i : Nat => iIt i) isName true pz pf := fun A env s₀ F g R => by
  refine wp_evalCall F g R hx hv Kept.type (.cons hs h .nil) fun vs s1 o hp => ?_
  obtain ⟨v, rfl, t, rfl⟩ := hp.one
  refine call_range_1 ?_
  have o2 : Ok V s1 { s1 with heap := s1.heap.push { cls := .type "range", data := .fields #[.int 0 s1.toks, .int n t, .int 1 (s1.toks + 1)] }, toks := s1.toks + 1 + 1 } := Ok.grow o.gi fun b o e => Heap.get?_push_of_some _ e
  have := rangeIE (pz := pz) (pf := pf) (k := k) (A := A) (n := n.toNat) o o2 (IsRange.new s1.heap 0 n 1 s1.toks t (s1.toks + 1)) (small_one (by decide) (by decide) (by (first | lia | omega)) (by (first | lia | omega))) (by rw [rangeSize_one]; split <;> (first | lia | omega))
  simpa using this
theorem IE.down {e e' e'' : Expr} {a b : Int} {xp pos : Pos} {pz pf : Bool} (hx : K.lookup ("range" : Str) = some .globalImplicit) (hv : Gl V ("range" : Str) (.type "range")) (hs : ∀ x q, e ≠ .Starred x q) (hs' : ∀ x q, e' ≠ .Starred x q) (hs'' : ∀ x q, e'' ≠ .Starred x q)
    (h : EV V k false K ρ e (I a)) (h' : EV V k false K ρ e' (I b)) (h'' : EV V k false K ρ e'' (I (-1))) (h0 : 0 ≤ a) (h1 : a < 1000000) (h2 : 0 ≤ b) (h3 : b < 1000000) :
    IE V k K ρ (.Call (.Name "range" xp) [e, e', e''] [] pos) ((List.range (a - b).toNat).map fun i : Nat => iIt (a - i)) isName true pz pf := fun A env s₀ F g R => by
  refine wp_evalCall F g R hx hv Kept.type (.cons hs h (.cons hs' h' (.cons hs'' h'' .nil))) fun vs s1 o hp => ?_
  obtain ⟨v, u, x, rfl, ⟨t, rfl⟩, ⟨t2, rfl⟩, ⟨t3, rfl⟩⟩ := hp.three
  refine call_range_3 (by decide) ?_ (.inl (PyProof.noPylong_small (by (first | lia | omega))))
  have o2 : Ok V s1 { s1 with heap := s1.heap.push { cls := .type "range", data := .fields #[.int a t, .int b t2, .int (-1) t3] }, toks := s1.toks } := Ok.grow o.gi fun b o e => Heap.get?_push_of_some _ e
  have := rangeIE (pz := pz) (pf := pf) (k := k) (A := A) (n := (a - b).toNat) o o2 (IsRange.new s1.heap a b (-1) t t2 t3) (small_down h0 h1 h2 h3).1 (small_down h0 h1 h2 h3).2
  have e : ∀ i : Nat, a + (i : Int) * -1 = a - i := fun i => by (first | lia | omega)
  simp only [e] at this
  exact this

noncomputable def enumL (l : List At) : List (List At) := l.zipIdx.map fun p => [.int p.2, p.1]
theorem IE.enum {e : Expr} {l : List At} {xp pos : Pos} {f : Bool} (hx : K.lookup ("enumerate" : Str) = some .globalImplicit) (hv : Gl V ("enumerate" : Str) (.type "enumerate")) (hs : ∀ e' q, e ≠ .Starred e' q) (h : EV V k f K ρ e (.list (l.map .at))) :
    IE V k K ρ (.Call (.Name "enumerate" xp) [e] [] pos) ((enumL l).map .tup) isTup true false f := fun A env s₀ F g R => by
  refine wp_evalCall1 F g R hx hv Kept.type hs h fun v s1 o hv hfr => ?_
  obtain ⟨a, its, rfl, hl, hi⟩ := PV.isList hv
  have e : its.size = l.length := by have := hi.length; simpa using this
  have hlt : a < s1.heap.objs.size := by obtain ⟨o, ho, _⟩ := hl; exact Heap.lt_size ho
  refine call_enumerate_list hl fun h' he hli hsz hk => ?_
  refine wpAny_pyIter_enum he ?_
  have own : ∀ {h : Heap} {j l : Nat} , (∃ vs, h.get? (s1.heap.objs.size + 1) = some { cls := .type "enumerate", data := .fields vs }) → h.IsListIter s1.heap.objs.size l j → OwnV [s1.heap.objs.size + 1, s1.heap.objs.size] h := by
    intro h j l ⟨old, h1⟩ ⟨o2, h2, hc2, hd2⟩ b hb
    simp only [List.mem_cons, List.not_mem_nil, or_false] at hb
    rcases hb with rfl | rfl
    · exact ⟨_, _, h1, rfl, by show Value.type _ ≠ _; decide, by nofun, by show Value.type _ ≠ _; decide⟩
    · exact ⟨_, _, h2, hd2, by rw [hc2]; decide, by rw [hc2]; nofun, by rw [hc2]; decide⟩
  have e2 : (enumL l).length = its.size := by simp [enumL, e]
  refine ⟨s1, s1.heap.objs.size + 1, _, _, _, _, rfl, o, Ok.grow (s := s1) (tk := s1.toks) o.gi hk,
    Src.ofU (fun A hA => (WalksT.enumerate hA (s1.heap.objs.size + 1) s1.heap.objs.size a (Nat.succ_ne_self _) (Nat.ne_of_lt (Nat.lt_succ_of_lt hlt)) (Nat.ne_of_lt hlt) its).toU) e2.symm o.gi (above wrE) (fun i h st => (own ⟨_, st.1.choose_spec⟩ st.2.1).own) (fun i T h st => (own ⟨_, st.1.choose_spec⟩ st.2.1).own) (fun i v x hp hx => ?_) (fun _ => ⟨fun i h st => (own ⟨_, st.1.choose_spec⟩ st.2.1).nv, fun i T h st => (own ⟨_, st.1.choose_spec⟩ st.2.1).nv⟩), ?_, ?_, (by first | exact ns rfl | exact nIt rfl | exact nAcc rfl | nofun), fun e b hb => ?_⟩
  · obtain ⟨t, y, hy, rfl⟩ := hp
    unfold enumL at hx
    rw [List.getElem?_map, List.getElem?_zipIdx] at hx
    cases hl1 : l[i]? with
    | none => rw [hl1] at hx; cases hx
    | some z =>
      rw [hl1] at hx
      simp only [Option.map_some, Option.some.injEq] at hx
      subst hx
      obtain ⟨y', hy', hz⟩ := hi.get (i := i) (x := .at z) (by rw [List.getElem?_map, hl1]; rfl)
      rw [Array.getElem?_toList, hy] at hy'
      cases hy'
      exact ⟨_, _, rfl, ⟨t, by simp⟩, _, _, rfl, hz, rfl⟩
  · exact ⟨⟨_, he⟩, hli, hl.at fun o e => hk _ o e⟩
  · intro b hb
    simp only [List.mem_cons, List.not_mem_nil, or_false] at hb
    rcases hb with rfl | rfl | rfl
    · exact ⟨⟨_, he⟩, fresh_tab o.gi (Nat.le_succ _)⟩
    · exact ⟨let ⟨o, e, _⟩ := hli; ⟨o, e⟩, fresh_tab o.gi (Nat.le_refl _)⟩
    · exact ⟨let ⟨o, e, _⟩ := hl; ⟨o, hk _ _ e⟩, list_tab o.gi hl⟩
  · simp only [List.mem_cons, List.not_mem_nil, or_false] at hb
    rcases hb with rfl | rfl | rfl
    · exact o.fresh (fresh_none (Nat.le_succ _))
    · exact o.fresh (fresh_none (Nat.le_refl _))
    · exact hfr e _ (by first | exact ns rfl | exact nIt rfl | exact nAcc rfl | nofun) rfl

noncomputable def zipL (l m : List At) : List (List At) := (l.zip m).map fun p => [p.1, p.2]
theorem IE.zip {e e' : Expr} {l m : List At} {xp pos : Pos} (hx : K.lookup ("zip" : Str) = some .globalImplicit) (hv : Gl V ("zip" : Str) (.type "zip")) (hs : ∀ x q, e ≠ .Starred x q) (hs' : ∀ x q, e' ≠ .Starred x q)
    (h : EV V k false K ρ e (.list (l.map .at))) (h' : EV V k false K ρ e' (.list (m.map .at))) :
    IE V k K ρ (.Call (.Name "zip" xp) [e, e'] [] pos) ((zipL l m).map .tup) isTup false false false := fun A env s₀ F g R => by
  refine wp_evalCall F g R hx hv Kept.type (.cons hs h (.cons hs' h' .nil)) fun vs s1 o hp => ?_
  obtain ⟨v, u, rfl, hv, hu⟩ := hp.two
  obtain ⟨a, its, rfl, hl, hi⟩ := PV.isList hv
  obtain ⟨b, jts, rfl, hm, hj⟩ := PV.isList hu
  have e : its.size = l.length := by have := hi.length; simpa using this
  have e1 : jts.size = m.length := by have := hj.length; simpa using this
  have hlt : a < s1.heap.objs.size := by obtain ⟨o, ho, _⟩ := hl; exact Heap.lt_size ho
  have hmt : b < s1.heap.objs.size := by obtain ⟨o, ho, _⟩ := hm; exact Heap.lt_size ho
  refine call_zip_2 hl hm fun h' hz hTI hTO h1 h2 hsz hk => ?_
  refine wpAny_pyIter_zip hz ?_
  have e2 : (zipL l m).length = min its.size jts.size := by simp [zipL, e, e1]
  have own : ∀ {h : Heap} {TI i1 i2 l1 l2 z : Addr} {f : Value} {i j : Nat}, IsZip h z TI (s1.heap.objs.size + 3) f → (∃ a b, IsPair h (s1.heap.objs.size + 3) a b) → h.IsListIter i1 l1 i → h.IsListIter i2 l2 j → Own [z, s1.heap.objs.size + 3, i1, i2] h := by
    intro h TI i1 i2 l1 l2 z f i j a1 ⟨a, b, a2⟩ ⟨o2, h2, hc2, _⟩ ⟨o3, h3, hc3, _⟩ b hb
    simp only [List.mem_cons, List.not_mem_nil, or_false] at hb
    rcases hb with rfl | rfl | rfl | rfl
    · exact ⟨_, a1, by show Value.type _ ≠ _; decide, by nofun⟩
    · exact ⟨_, a2, by show Value.type _ ≠ _; decide, by nofun⟩
    · exact ⟨_, h2, by rw [hc2]; decide, by rw [hc2]; nofun⟩
    · exact ⟨_, h3, by rw [hc3]; decide, by rw [hc3]; nofun⟩
  refine ⟨s1, s1.heap.objs.size + 4, _, _, _, _, rfl, o, Ok.grow (s := s1) (tk := s1.toks) o.gi hk,
    Src.ofU (fun A hA => (WalksT.zip2 hA (s1.heap.objs.size + 4) (s1.heap.objs.size + 2) (s1.heap.objs.size + 3) s1.heap.objs.size (s1.heap.objs.size + 1) a b (PyProof.Rows.zipApart_new hlt hmt) its jts).toU) e2.symm o.gi (above wrZ)
      (fun i h st => own st.1 st.2.2.1 st.2.2.2.1 st.2.2.2.2.1) (fun i T h st => own st.1 st.2.2.1 st.2.2.2.1 st.2.2.2.2.1) (fun i v x hp hx => ?_) (by first | exact ns rfl | exact nIt rfl | exact nAcc rfl | nofun), ?_, ?_, (by first | exact ns rfl | exact nIt rfl | exact nAcc rfl | nofun), (by first | exact ns rfl | exact nIt rfl | exact nAcc rfl | nofun)⟩
  · obtain ⟨x1, y1, hx1, hy1, rfl⟩ := hp
    unfold zipL at hx
    rw [List.getElem?_map] at hx
    obtain ⟨p, hp, rfl⟩ := Option.map_eq_some_iff.mp hx
    obtain ⟨p1, p2⟩ := List.getElem?_zip_eq_some.mp hp
    obtain ⟨y', hy', hz1⟩ := hi.get (i := i) (x := .at p.1) (by rw [List.getElem?_map, p1]; rfl)
    obtain ⟨y2, hy2, hz2⟩ := hj.get (i := i) (x := .at p.2) (by rw [List.getElem?_map, p2]; rfl)
    rw [Array.getElem?_toList, hx1] at hy'
    rw [Array.getElem?_toList, hy1] at hy2
    cases hy'; cases hy2
    exact ⟨_, _, rfl, hz1, _, _, rfl, hz2, rfl⟩
  · exact ⟨hz, hTI, ⟨_, _, hTO⟩, h1, h2, hl.at fun o e => hk _ o e, hm.at fun o e => hk _ o e⟩
  · intro b hb
    have tb : ∀ n : Nat, s1.heap.objs.size + n ∉ tabAddrs := fun n => fresh_tab o.gi (Nat.le_add_right _ _)
    simp only [List.mem_cons, List.not_mem_nil, or_false] at hb
    rcases hb with rfl | rfl | rfl | rfl | rfl | rfl | rfl
    · exact ⟨⟨_, hz⟩, tb 4⟩
    · exact ⟨⟨_, hTI⟩, tb 2⟩
    · exact ⟨⟨_, hTO⟩, tb 3⟩
    · exact ⟨let ⟨o, e, _⟩ := h1; ⟨o, e⟩, tb 0⟩
    · exact ⟨let ⟨o, e, _⟩ := h2; ⟨o, e⟩, tb 1⟩
    · exact ⟨let ⟨o, e, _⟩ := hl; ⟨o, hk _ _ e⟩, list_tab o.gi hl⟩
    · exact ⟨let ⟨o, e, _⟩ := hm; ⟨o, hk _ _ e⟩, list_tab o.gi hm⟩

end
end
section
open PySem PySem.Calls PyProof.Rows PySem.W

noncomputable def relab (K : List (Str × NameKind)) (scope : Scope) : List (Str × NameKind) := scope.names.map fun (n, k) => if (k == NameKind.free && K.lookup n == some NameKind.cell) then (n, NameKind.cell) else (n, k)
noncomputable def inC (scope : Scope) (ρ : Vars) : Vars := fun x => if scope.names.lookup x = some .free then ρ x else none
noncomputable def bd (ρ : Vars) (τ : List (Str × It)) : Vars := fun x => match τ.lookup x with
  | some i => some (.it i)
  | none => ρ x

theorem lookup_relab {K : List (Str × NameKind)} {x : Str} {k : NameKind} : ∀ {l : List (Str × NameKind)}, l.lookup x = some k →
    (l.map fun (n, k) => if (k == NameKind.free && K.lookup n == some NameKind.cell) then (n, NameKind.cell) else (n, k)).lookup x = some (if (k == NameKind.free && K.lookup x == some NameKind.cell) then .cell else k)
  | [], h => by cases h
  | (n, k') :: r, h => by
    rw [List.lookup_cons] at h
    rw [List.map_cons]
    by_cases hx : (x == n) = true
    · rw [hx] at h
      cases h
      have e : x = n := beq_iff_eq.mp hx
      subst e
      dsimp only
      split <;> simp
    · have hx' : (x == n) = false := by simpa using hx
      rw [hx'] at h
      have ih := lookup_relab (K := K) h
      dsimp only
      split <;> (rw [List.lookup_cons, hx']; exact ih)

noncomputable def scopeOk (K : List (Str × NameKind)) (scope : Scope) (ρ : Vars) : Bool :=
  scope.kind == .function && scope.names.all fun y => (match y.2 with
    | .free => (K.lookup y.1 == some .cell || K.lookup y.1 == some .free) && (ρ y.1).isSome
    | .cell => false
    | .local => scope.names.lookup y.1 == some .local
    | _ => true)
theorem not_mem_of_lookup {α : Type} {y : Str} : ∀ {l : List (Str × α)}, l.lookup y = none → ∀ {j : α}, (y, j) ∉ l
  | [], _, _, h => nomatch h
  | (n, z) :: r, h, j, hm => by
    rw [List.lookup_cons] at h
    by_cases hb : (y == n) = true
    · rw [hb] at h; cases h
    · rw [show (y == n) = false by simpa using hb] at h
      rcases List.mem_cons.mp hm with e | hm
      · cases e; simp at hb
      · exact not_mem_of_lookup h hm
noncomputable abbrev ScOk (K : List (Str × NameKind)) (scope : Scope) (ρ : Vars) : Prop := scopeOk K scope ρ = true

section
variable {V : Wo} {k : Nat} {K : List (Str × NameKind)} {ρ : Vars} {scope : Scope} {env : Env}
theorem ScOk.kind (h : ScOk K scope ρ) : scope.kind = .function := by
  unfold ScOk scopeOk at h
  rw [Bool.and_eq_true] at h
  simpa using h.1
theorem ScOk.at (h : ScOk K scope ρ) {y : Str × NameKind} (hy : y ∈ scope.names) : (match y.2 with
    | .free => (K.lookup y.1 == some .cell || K.lookup y.1 == some .free) && (ρ y.1).isSome
    | .cell => false
    | .local => scope.names.lookup y.1 == some .local
    | _ => true) = true := by
  unfold ScOk scopeOk at h
  rw [Bool.and_eq_true, List.all_eq_true] at h
  exact h.2 y hy
theorem ScOk.free (h : ScOk K scope ρ) {n : Str} (hy : (n, NameKind.free) ∈ scope.names) : (K.lookup n = some .cell ∨ K.lookup n = some .free) ∧ (ρ n).isSome = true := by
  have := h.at hy
  simpa using this
theorem ScOk.noCell (h : ScOk K scope ρ) : ∀ y ∈ scope.names, y.2 ≠ .cell := fun y hy e => by
  have := h.at hy
  rw [e] at this
  cases this
theorem ScOk.loc (h : ScOk K scope ρ) : ∀ y ∈ scope.names, y.2 = .local → scope.names.lookup y.1 = some .local := fun y hy e => by
  have := h.at hy
  rw [e] at this
  simpa using this

theorem closure_go (f : Str × NameKind → List (Str × Addr) → Sem (ForInStep (List (Str × Addr))))
    (hf : ∀ name kind cs, f (name, kind) cs = if kind == .free then (do let c ← cellOf env name; pure (.yield ((name, c) :: cs))) else pure (.yield cs)) :
    ∀ (names : List (Str × NameKind)) (cs : List (Str × Addr)), (∀ n, (n, NameKind.free) ∈ names → ∃ c, env.cells.lookup n = some c) → (∀ n c, cs.lookup n = some c → env.cells.lookup n = some c) →
      ∃ cl, forIn names cs f = pure cl ∧ (∀ n c, cl.lookup n = some c → env.cells.lookup n = some c) ∧ ∀ n, ((cs.lookup n).isSome = true ∨ (n, NameKind.free) ∈ names) → (cl.lookup n).isSome = true
  | [], cs, _, h2 => ⟨cs, by rw [List.forIn_nil], h2, fun n h => h.elim id fun m => nomatch m⟩
  | (name, kind) :: r, cs, h1, h2 => by
    rw [List.forIn_cons, hf]
    have hr : ∀ n, (n, NameKind.free) ∈ r → ∃ c, env.cells.lookup n = some c := fun n hn => h1 n (List.mem_cons_of_mem _ hn)
    by_cases hk : kind = .free
    · subst hk
      obtain ⟨c, hc⟩ := h1 name List.mem_cons_self
      have hcell : cellOf env name = pure c := by unfold cellOf; rw [hc]
      obtain ⟨cl, e, a, b⟩ := closure_go f hf r ((name, c) :: cs) hr (fun n c' hn => by
        rw [List.lookup_cons] at hn
        by_cases hx : (n == name) = true
        · rw [hx] at hn; cases hn; rw [beq_iff_eq.mp hx]; exact hc
        · rw [show (n == name) = false by simpa using hx] at hn; exact h2 n c' hn)
      refine ⟨cl, ?_, a, fun n hn => b n ?_⟩
      · rw [hcell]
        exact e
      · rw [List.lookup_cons]
        by_cases hx : (n == name) = true
        · rw [hx]; exact .inl rfl
        · rw [show (n == name) = false by simpa using hx]
          rcases hn with hn | hn
          · exact .inl hn
          · rcases List.mem_cons.mp hn with e | hn
            · cases e; simp at hx
            · exact .inr hn
    · have hkf : (kind == NameKind.free) = false := by simpa using hk
      obtain ⟨cl, e, a, b⟩ := closure_go f hf r cs hr h2
      refine ⟨cl, ?_, a, fun n hn => b n ?_⟩
      · rw [hkf]
        exact e
      · rcases hn with hn | hn
        · exact .inl hn
        · rcases List.mem_cons.mp hn with e | hn
          · cases e; exact absurd rfl hk
          · exact .inr hn
theorem closure_ok {h : Heap} (R : REnv K env h ρ) (hs : ScOk K scope ρ) : ∃ cl, closureFor scope env = pure cl ∧ ∀ n, (n, NameKind.free) ∈ scope.names → cl.lookup n = env.cells.lookup n ∧ (cl.lookup n).isSome = true := by
  have h1 : ∀ n, (n, NameKind.free) ∈ scope.names → ∃ c, env.cells.lookup n = some c := fun n hn => by
    obtain ⟨hk, hp⟩ := hs.free hn
    obtain ⟨p, hp⟩ := Option.isSome_iff_exists.mp hp
    obtain ⟨v, hl, _⟩ := R.vars n p hp
    rcases hl with ⟨hl, _⟩ | ⟨_, c, hc, _⟩
    · have e : K.lookup n = some .local := by rw [← R.names]; exact hl
      rcases hk with hk | hk <;> (rw [hk] at e; cases e)
    · exact ⟨c, hc⟩
  obtain ⟨cl, e, a, b⟩ := closure_go (env := env) (fun (x : Str × NameKind) (cs : List (Str × Addr)) => match x with | (name, kind) => if kind == .free then (do let c ← cellOf env name; pure (.yield ((name, c) :: cs))) else pure (.yield cs)) (fun _ _ _ => rfl) scope.names [] h1 (fun _ _ h => (by cases h))
  refine ⟨cl, ?_, fun n hn => ?_⟩
  · have e2 : closureFor scope env = (forIn scope.names [] (fun (x : Str × NameKind) (cs : List (Str × Addr)) => match x with | (name, kind) => if kind == .free then (do let c ← cellOf env name; pure (.yield ((name, c) :: cs))) else pure (.yield cs)) >>= fun cs => pure cs) := rfl
    rw [e2, e]; rfl
  · have h2 := b n (.inr hn)
    obtain ⟨c, hc⟩ := Option.isSome_iff_exists.mp h2
    exact ⟨by rw [hc, a n c hc], h2⟩

set_option tactic.hygienic true in
theorem REnv.comp {h : Heap} {cl : List (Str × Addr)} {C : Addr} (R : REnv K env h ρ) (hs : ScOk K scope ρ) (hcl : ∀ n, (n, NameKind.free) ∈ scope.names → cl.lookup n = env.cells.lookup n ∧ (cl.lookup n).isSome = true) :
    REnv (relab K scope) (compEnvC scope cl C env) h (inC scope ρ) := by
  have hn : (relabel scope env).names = relab K scope := by
    unfold relabel relab
    dsimp only
    congr 1
    funext x
    obtain ⟨n, kk⟩ := x
    have e : env.kindOf n = K.lookup n := by unfold Env.kindOf; rw [R.names]
    simp only [R.kind, e, beq_self_eq_true, Bool.and_true]
  refine ⟨?_, hn, R.glob, R.blt, fun x p hx => ?_⟩
  · exact hs.kind
  · unfold inC at hx
    split at hx
    · rename_i hf
      have hm := mem_of_lookup hf
      obtain ⟨hk, _⟩ := hs.free hm
      obtain ⟨v, hl, hp⟩ := R.vars x p hx
      refine ⟨v, .inr ⟨?_, ?_⟩, hp⟩
      · show List.lookup x (relabel scope env).names = _ ∨ List.lookup x (relabel scope env).names = _
        rw [hn]
        unfold relab
        rw [lookup_relab (K := K) hf]
        split
        · exact .inl rfl
        · exact .inr rfl
      · rcases hl with ⟨hl, _⟩ | ⟨_, c, hc, hv⟩
        · have e : K.lookup x = some .local := by rw [← R.names]; exact hl
          rcases hk with hk | hk <;> (rw [hk] at e; cases e)
        · exact ⟨c, by show cl.lookup x = _; rw [(hcl x hm).1, hc], hv⟩
    · cases hx
end

structure CE (V : Wo) (cenv : Env) (D : Addr) (sB : Shared) (τ : List (Str × It)) (out : List It) (s : Shared) : Prop where
  ok : Ok V sB s
  newC : sB.heap.get? cenv.locals = none
  newD : sB.heap.get? D = none
  ns : ∃ m, s.heap.Ns cenv.locals m ∧ ∀ x i, (x, i) ∈ τ → ∃ v, m x = some v ∧ i.is s.heap v
  acc : ∃ ys n, s.heap.get? D = some { cls := .type "list", data := .seq ys n } ∧ Its s.heap out ys.toList

section
variable {V : Wo} {k : Nat} {K : List (Str × NameKind)} {ρ : Vars} {cenv : Env} {D : Addr} {sB s s' : Shared} {τ : List (Str × It)} {out : List It}
theorem CE.ntC (c : CE V cenv D sB τ out s) : NT s.heap cenv.locals := fun o e _ vs n h => by
  obtain ⟨m, ⟨o', es, ep, e', d, _⟩, _⟩ := c.ns
  rw [e] at e'; cases e'; rw [d] at h; cases h
theorem CE.ntD (c : CE V cenv D sB τ out s) : NT s.heap D := fun o e hc vs n h => by
  obtain ⟨ys, n', e', _⟩ := c.acc
  rw [e] at e'; cases e'; exact absurd hc (by show ¬ Value.type _ = Value.type _; decide)
theorem CE.DC (c : CE V cenv D sB τ out s) : D ≠ cenv.locals := fun h => by
  obtain ⟨m, ⟨o', es, ep, e', d, _⟩, _⟩ := c.ns
  obtain ⟨ys, n', e, _⟩ := c.acc
  rw [h, e'] at e; cases e; cases d
theorem CE.safe (c : CE V cenv D sB τ out s) (g : GI V sB) : ∀ b ∈ [D, cenv.locals], Safe V s.heap b := fun b hb => by
  simp only [List.mem_cons, List.not_mem_nil, or_false] at hb
  rcases hb with rfl | rfl
  · refine ⟨g.noH0 c.newD, fun o e => .inr fun vs h => ?_⟩
    obtain ⟨ys, n', e', _⟩ := c.acc
    rw [e] at e'; cases e'; cases h
  · refine ⟨g.noH0 c.newC, fun o e => .inr fun vs h => ?_⟩
    obtain ⟨m, ⟨o', es, ep, e', d, _⟩, _⟩ := c.ns
    rw [e] at e'; cases e'; rw [d] at h; cases h
theorem CE.nt (c : CE V cenv D sB τ out s) : ∀ b ∈ [D, cenv.locals], NT s.heap b := fun b hb => by
  simp only [List.mem_cons, List.not_mem_nil, or_false] at hb
  rcases hb with rfl | rfl
  · exact c.ntD
  · exact c.ntC
theorem CE.renv (c : CE V cenv D sB τ out s) (g : GI V sB) (R : REnv K cenv sB.heap ρ) (hτ : ∀ x i, (x, i) ∈ τ → K.lookup x = some .local) : REnv K cenv s.heap (bd ρ τ) := by
  have R' := R.ok g c.ok
  refine ⟨R.kind, R.names, R.glob, R.blt, fun x p hx => ?_⟩
  unfold bd at hx
  cases hl : τ.lookup x with
  | none => rw [hl] at hx; exact R'.vars x p hx
  | some i =>
    rw [hl] at hx
    cases hx
    obtain ⟨m, hn, hm⟩ := c.ns
    obtain ⟨v, hv, hi⟩ := hm x i (mem_of_lookup hl)
    exact ⟨v, .inl ⟨by unfold Env.kindOf; rw [R.names]; exact hτ x i (mem_of_lookup hl), m, hn, hv⟩, hi⟩
theorem CE.mo {wr : List Addr} (c : CE V cenv D sB τ out s) (m : Mo V wr s s') (hw : ∀ b ∈ wr, sB.heap.get? b = none) (hD : D ∉ wr) (hC : cenv.locals ∉ wr)
    (hi : ∀ y x, (y, x) ∈ τ → ∀ v, x.is s.heap v → x.is s'.heap v) (ho : ∀ vs, Its s.heap out vs → Its s'.heap out vs) : CE V cenv D sB τ out s' := by
  refine ⟨c.ok.mod m hw, c.newC, c.newD, ?_, ?_⟩
  · obtain ⟨m', ⟨o, es, ep, e, d, r⟩, h⟩ := c.ns
    exact ⟨m', ⟨o, es, ep, m.atD c.ok.gi e hC (fun vs h => by rw [d] at h; cases h), d, r⟩, fun x i hx => let ⟨v, hv, hz⟩ := h x i hx; ⟨v, hv, hi x i hx v hz⟩⟩
  · obtain ⟨ys, n, e, h⟩ := c.acc
    exact ⟨ys, n, m.at c.ok.gi e hD (by first | exact ns rfl | exact nIt rfl | exact nAcc rfl | nofun), ho _ h⟩
theorem CE.after (c : CE V cenv D sB τ out s) (o : Ok V s s') : CE V cenv D sB τ out s' :=
  c.mo (wr := []) o.mo (fun _ h => (by cases h)) (fun h => (by cases h)) (fun h => (by cases h)) (fun y x _ v h => o.it c.ok.gi h) (fun vs h => o.its c.ok.gi h)

theorem CE.store {A : Around} {x : Str} {i : It} {v : Value} (c : CE V cenv D sB τ out s) (g : GI V sB) (R : REnv K cenv sB.heap ρ) (hx : K.lookup x = some .local) (hn : τ.lookup x = none) (hv : i.is s.heap v) :
    wpAny (model prog V.w) A (storeName cenv x v) (fun _ s' => CE V cenv D sB ((x, i) :: τ) out s' ∧ Mo V [cenv.locals] s s') No s := by
  obtain ⟨m, hns, hm⟩ := c.ns
  refine wpAny_storeName_local (by unfold Env.kindOf; rw [R.names]; exact hx) hns (fun h' hn' hs' => ?_) (by rw [R.kind]; rfl)
  have mo : Mo V [cenv.locals] s { s with heap := h', toks := s.toks + 1 } := Mo.of c.ok.gi (fun b hb => c.safe g b (by rw [List.mem_singleton] at hb; rw [hb]; simp)) fun b o hb e => hs'.extBut b o (fun e' => hb (by rw [e']; simp)) e
  have hit : ∀ (x : It) v, x.is s.heap v → x.is h' v := fun x v h => mo.it c.ok.gi (fun b hb => by rw [List.mem_singleton] at hb; rw [hb]; exact c.ntC) h
  refine ⟨⟨c.ok.mod mo fun b hb => by rw [List.mem_singleton] at hb; rw [hb]; exact c.newC, c.newC, c.newD, ⟨_, hn', fun y j hy => ?_⟩, ?_⟩, mo⟩
  · rcases List.mem_cons.mp hy with e | hy2
    · cases e
      exact ⟨v, by simp, hit i v hv⟩
    · obtain ⟨u, hu, hz⟩ := hm y j hy2
      have hne : y ≠ x := by
        rintro rfl
        exact not_mem_of_lookup hn hy2
      exact ⟨u, by rw [if_neg hne]; exact hu, hit j u hz⟩
  · obtain ⟨ys, n, e, h⟩ := c.acc
    exact ⟨ys, n, hs'.extBut D _ c.DC e, mo.its c.ok.gi (fun b hb => by rw [List.mem_singleton] at hb; rw [hb]; exact c.ntC) h⟩

inductive Tg (K : List (Str × NameKind)) : Expr → It → List (Str × It) → List (Str × It) → Prop
  | name {y : Str} {p : Pos} {x : It} {τ : List (Str × It)} (hk : K.lookup y = some .local) (hn : τ.lookup y = none) : Tg K (.Name y p) x τ ((y, x) :: τ)
  | pair {a b : Str} {p q r : Pos} {kk : Nat} {u v : At} {τ : List (Str × It)} (ha : K.lookup a = some .local) (hb : K.lookup b = some .local) (hn : τ.lookup a = none) (hm : τ.lookup b = none) (hab : (b == a) = false) :
      Tg K (.Tuple [.Name a p, .Name b q] kk r) (.tup [u, v]) τ ((b, .at v) :: (a, .at u) :: τ)
theorem Ats.pair {u v : At} {vs : Array Value} (h : Ats [u, v] vs.toList) : ∃ x y, vs = #[x, y] ∧ u.is x ∧ v.is y := by
  obtain ⟨x, t, e, hx, y, t', e', hy, e''⟩ := h
  have e3 : t' = [] := e''
  subst e3; subst e'
  refine ⟨x, y, ?_, hx, hy⟩
  have := congrArg List.toArray e
  simpa using this
set_option tactic.hygienic true in
theorem CE.asg {A : Around} {t : Expr} {x : It} {τ' : List (Str × It)} {v : Value} (F : Fit A k) (c : CE V cenv D sB τ out s) (g : GI V sB) (R : REnv K cenv sB.heap ρ) (ht : Tg K t x τ τ') (hv : x.is s.heap v) :
    wpAny (model prog V.w) A (assign t cenv v) (fun _ s' => CE V cenv D sB τ' out s' ∧ Mo V [cenv.locals] s s') No s := by
  cases ht with
  | name hk hn => exact wpAny_assign_Name (c.store g R hk hn hv)
  | pair ha hb hn hm hab =>
    rename_i a b p q r kk u w
    obtain ⟨T, vs, rfl, hT, hat⟩ := hv
    obtain ⟨x, y, rfl, hx, hy⟩ := hat.pair
    refine wpAny_assign_Tuple F.handled hT rfl rfl fun h' he => ?_
    have o1 : Ok V s { s with heap := h' } := Ok.grow (tk := s.toks) c.ok.gi fun b o e => he b o (Nat.ne_of_lt (Heap.lt_size e)) e
    have c1 := c.after o1
    have asg : ∀ (n : Str) (p : Pos), assign (.Name n p) cenv = fun v => (do standAt p; bindName cenv n v) := fun n p => by funext v; rfl
    show wpAny _ A (assignInOrder [assign (.Name a p) cenv, assign (.Name b q) cenv] [x, y]) _ _ _
    unfold assignInOrder
    refine wpAny_bind (wpAny_holding (wpAny_assign_Name (wpAny_mono (c1.store g R ha hn (i := .at u) hx) (fun _ s2 h2 => ?_) fun _ _ x => x)))
    unfold assignInOrder
    refine wpAny_bind (wpAny_holding (wpAny_assign_Name (wpAny_mono (h2.1.store g R hb (by rw [List.lookup_cons, hab]; exact hm) (i := .at w) hy) (fun _ s3 h3 => ?_) fun _ _ x => x)))
    unfold assignInOrder
    exact wpAny_pure ⟨h3.1, ((o1.mo (wr := [cenv.locals])).trans h2.2 (fun _ h => h) (fun _ h => .inl h)).trans h3.2 (fun _ h => h) (fun _ h => .inl h)⟩
end
end
section
open PySem PySem.Calls PyProof.Rows PySem.W

noncomputable def Ts (V : Wo) (k : Nat) (K : List (Str × NameKind)) (ρ : Vars) : List Expr → Bool → Prop
  | [], b => b = true
  | [c], b => ET V k K ρ c b
  | _, _ => False
noncomputable def Em (V : Wo) (k : Nat) (K : List (Str × NameKind)) (ρ : Vars) (inner : Env → Value → Sem Unit) (τ : List (Str × It)) (zs : List It) : Prop :=
  ∀ (A : Around) (cenv : Env) (D : Addr) (sB s : Shared) (out : List It), Fit A k → GI V sB → REnv K cenv sB.heap ρ → (∀ x i, (x, i) ∈ τ → K.lookup x = some .local) → CE V cenv D sB τ out s → out.length + zs.length ≤ 1000000 →
    wpAny (model prog V.w) A (inner cenv (.ref D)) (fun _ s' => CE V cenv D sB τ (out ++ zs) s' ∧ Mo V [D, cenv.locals] s s') No s
noncomputable def Tn (V : Wo) (k : Nat) (K : List (Str × NameKind)) (ρ : Vars) (target : Expr) (ifs : List Expr) (inner : Env → Value → Sem Unit) (τ : List (Str × It)) (x : It) (zs : List It) : Prop :=
  ∃ τ' b, Tg K target x τ τ' ∧ Ts V k K (bd ρ τ') ifs b ∧ (b = true → Em V k K ρ inner τ' zs) ∧ (b = false → zs = [])

section
variable {V : Wo} {k : Nat} {K : List (Str × NameKind)} {ρ : Vars} {cenv : Env} {D : Addr} {sB s s' : Shared} {τ τ' : List (Str × It)} {out : List It}
theorem Tg.sub {t : Expr} {x : It} (h : Tg K t x τ τ') : ∀ y ∈ τ, y ∈ τ' := by
  cases h with
  | name _ _ => exact fun y hy => List.mem_cons_of_mem _ hy
  | pair _ _ _ _ _ => exact fun y hy => List.mem_cons_of_mem _ (List.mem_cons_of_mem _ hy)
theorem Tg.loc {t : Expr} {x : It} (h : Tg K t x τ τ') (hτ : ∀ x i, (x, i) ∈ τ → K.lookup x = some .local) : ∀ x i, (x, i) ∈ τ' → K.lookup x = some .local := by
  cases h with
  | name hk _ => intro y i hy; rcases List.mem_cons.mp hy with e | hy; (cases e; exact hk); exact hτ y i hy
  | pair ha hb _ _ _ =>
    intro y i hy
    rcases List.mem_cons.mp hy with e | hy
    · cases e; exact hb
    · rcases List.mem_cons.mp hy with e | hy
      · cases e; exact ha
      · exact hτ y i hy
theorem CE.drop (c : CE V cenv D sB τ' out s) (h : ∀ y ∈ τ, y ∈ τ') : CE V cenv D sB τ out s :=
  ⟨c.ok, c.newC, c.newD, let ⟨m, hn, hm⟩ := c.ns; ⟨m, hn, fun x i hx => hm x i (h _ hx)⟩, c.acc⟩
theorem wp_tests {A : Around} {ifs : List Expr} {b : Bool} {env : Env} (F : Fit A k) (g : GI V s) (R : REnv K env s.heap ρ) (h : Ts V k K ρ ifs b) :
    wpAny (model prog V.w) A (forIn ifs true fun c r => if r = true then do let ok ← isTrue c env (eval c env); pure (ForInStep.yield ok) else pure (ForInStep.yield r)) (fun ok s' => ok = b ∧ Ok V s s') No s := by
  match ifs, h with
  | [], h => exact wpAny_tests_nil ⟨h.symm, .refl g⟩
  | [c], h => exact wpAny_tests_one (h A env s F g R)
theorem Its.atoms {h h' : Heap} : ∀ {l : List It} {vs : List Value}, (∀ z ∈ l, ∃ a, z = .at a) → Its h l vs → Its h' l vs
  | [], _, _, x => x
  | a :: r, _, ha, ⟨v, t, e, hv, ht⟩ => by
    obtain ⟨b, rfl⟩ := ha a List.mem_cons_self
    exact ⟨v, t, e, hv, Its.atoms (fun z hz => ha z (List.mem_cons_of_mem _ hz)) ht⟩

theorem Em.elt {elt : Expr} {z : It} (h : EV V k false K (bd ρ τ) elt (.it z)) : Em V k K ρ (fun env acc => do let _ ← call (.builtin "list.append") [acc, ← eval elt env]) τ [z] := by
  intro A cenv D sB s out F g R hτ c hsz
  refine wpAny_bind (wpAny_mono (h A cenv s F c.ok.gi (c.renv g R hτ)) (fun v s1 h1 => ?_) fun _ _ x => x)
  obtain ⟨o1, hv, _⟩ := h1
  have c1 := c.after o1
  obtain ⟨ys, n, e, hi⟩ := c1.acc
  have hys : ys.size ≤ sizeLine := by
    have := hi.length
    simp only [Array.length_toList] at this
    simp only [List.length_singleton] at hsz
    simp only [sizeLine]
    (first | lia | omega)
  refine wpAny_bind (wpAny_list_append_plain (hsz := hys) ⟨n, e⟩ fun h' hl hs => wpAny_pure ?_)
  have mo : Mo V [D] s1 { s1 with heap := h' } := Mo.of (tk := s1.toks) o1.gi (fun b hb => c1.safe g b (by rw [List.mem_singleton] at hb; rw [hb]; simp)) fun b o hb e => hs.extBut b o (fun e' => hb (by rw [e']; simp)) e
  have nt : ∀ b ∈ [D], NT s1.heap b := fun b hb => by rw [List.mem_singleton] at hb; rw [hb]; exact c1.ntD
  refine ⟨⟨c1.ok.mod mo fun b hb => by rw [List.mem_singleton] at hb; rw [hb]; exact c.newD, c.newC, c.newD, ?_, ?_⟩, (o1.mo (wr := [D])).trans mo (fun b hb => by rw [List.mem_singleton] at hb; rw [hb]; simp) (fun b hb => .inl (by rw [List.mem_singleton] at hb; rw [hb]; simp))⟩
  · obtain ⟨m, hn, hm⟩ := c1.ns
    refine ⟨m, hn.sameBut hs (Ne.symm c1.DC), fun x i hx => ?_⟩
    obtain ⟨u, hu, hz⟩ := hm x i hx
    exact ⟨u, hu, mo.it o1.gi nt hz⟩
  · obtain ⟨n', e'⟩ := hl
    exact ⟨_, n', e', by rw [Array.toList_push]; exact (mo.its o1.gi nt hi).snoc (mo.it o1.gi nt hv)⟩

noncomputable def turnOf (p : Pos) (target : Expr) (ifs : List Expr) (inner : Env → Value → Sem Fin → Sem Fin) (c : Code) (it acc : Value) (env : Env) : Sem Fin := do
  standAt p
  match ← pyNext it with
  | none => pure (.done .next)
  | some v =>
    letOwnedTupleGo target it v
    assign target env v
    let mut ok := true
    for c in ifs do
      if ok then ok ← isTrue c env (eval c env)
    if ok then inner env acc (again c) else again c

theorem take_flat {α β : Type} (f : α → List β) : ∀ (l : List α) (i : Nat) (x : α), l[i]? = some x → (l.take (i + 1)).flatMap f = (l.take i).flatMap f ++ f x
  | [], i, x, h => by simp at h
  | a :: r, 0, x, h => by simp at h; subst h; simp
  | a :: r, i + 1, x, h => by
    simp only [List.getElem?_cons_succ] at h
    rw [List.take_succ_cons, List.take_succ_cons, List.flatMap_cons, List.flatMap_cons, take_flat f r i x h, List.append_assoc]
theorem flat_le {α β : Type} (f : α → List β) (l : List α) (i : Nat) : ((l.take i).flatMap f).length ≤ (l.flatMap f).length := by
  have := congrArg (fun z => (z.flatMap f).length) (List.take_append_drop i l)
  simp only [List.flatMap_append, List.length_append] at this
  (first | lia | omega)

theorem loop {elt : Expr} {gens : List Comprehension} {scope : Scope} {pos : Pos} {depth : Nat} {p : Pos} {target : Expr} {ifs : List Expr} {inner : Env → Value → Sem Unit} {innerK : Env → Value → Sem Fin → Sem Fin} {I : Addr} {l : List It} {f : It → List It} {fp wr : List Addr} {tg : Expr → Prop} {q : Bool}
    {St : Nat → Heap → Prop} {Mid : Nat → Value → Heap → Prop} {sb s₁ : Shared} {A : Around} {R : Result → Shared → Prop}
    (hturn : ∀ it acc env, compTurn (.ListComp elt gens scope pos) depth it acc env = turnOf p target ifs innerK (.compLoop (.ListComp elt gens scope pos) depth it acc env) it acc env)
    (hinner : ∀ (env : Env) (acc : Value) (kk : Sem Fin) (Q : Fin → Shared → Prop) (E : Value → Shared → Prop) (s : Shared), wpAny (model prog V.w) A (inner env acc) (fun _ s' => wpAny (model prog V.w) A kk Q E s') E s → wpAny (model prog V.w) A (innerK env acc kk) Q E s)
    (F : Fit A k) (W : Src V k sb I l fp wr tg q St Mid) (ht : tg target) (g : GI V sB) (RE : REnv K cenv sB.heap ρ) (hτ : ∀ x i, (x, i) ∈ τ → K.lookup x = some .local)
    (hT : ∀ x ∈ l, Tn V k K ρ target ifs inner τ x (f x)) (c₁ : CE V cenv D sB τ out s₁) (hst : St 0 s₁.heap) (kp : Kp V sb s₁)
    (hB : ∀ b ∈ wr, sB.heap.get? b = none) (hD : D ∉ fp) (hC : cenv.locals ∉ fp) (hfp : ∀ b ∈ fp, b ∉ tabAddrs)
    (hk : q = true ∨ (τ = [] ∧ sb = sB ∧ (∀ z ∈ out, ∃ a, z = .at a) ∧ ∀ x ∈ l, ∀ z ∈ f x, ∃ a, z = .at a)) (hsz : out.length + (l.flatMap f).length ≤ 1000000)
    (hR : ∀ s', CE V cenv D sB τ (out ++ l.flatMap f) s' → Kp V sb s' → Mo V (D :: cenv.locals :: wr) s₁ s' → R (.ok .next) s') :
    codeAny (model prog V.w) A (.compLoop (.ListComp elt gens scope pos) depth (.ref I) (.ref D) cenv) R s₁ := by
  have hCw : cenv.locals ∉ wr := fun h => hC (W.sub _ h)
  have hDw : D ∉ wr := fun h => hD (W.sub _ h)
  refine codeAny_loop rfl (fun n s => ∃ i, n = l.length + 1 - i ∧ i ≤ l.length ∧ St i s.heap ∧ CE V cenv D sB τ (out ++ (l.take i).flatMap f) s ∧ Kp V sb s ∧ Mo V (D :: cenv.locals :: wr) s₁ s) ?_ (l.length + 1)
    ⟨0, rfl, Nat.zero_le _, hst, by simpa using c₁, kp, (Ok.refl c₁.ok.gi).mo⟩
  rintro n s ⟨i, rfl, hi, hst, c, kp, mo⟩
  show wpAny _ A ((compTurn (.ListComp elt gens scope pos) depth (.ref I) (.ref D) cenv).onRaise (fun x => do noteFrame x cenv; theTreesLotGoes x)) _ _ s
  refine wpAny_noted ?_
  rw [hturn]
  unfold turnOf
  refine wpAny_bind (wpAny_standAt (wpAny_bind ?_))
  -- what a step of the walk keeps
  have keepI : ∀ {s s' : Shared}, CE V cenv D sB τ (out ++ (l.take i).flatMap f) s → Mo V wr s s' → (q = true → ∀ b ∈ wr, NV s.heap b) → CE V cenv D sB τ (out ++ (l.take i).flatMap f) s' := by
    intro s s' c m hnv
    rcases hk with hq | ⟨h0, _, h2, h3⟩
    · have nt : ∀ b ∈ wr, NT s.heap b := fun b hb => (hnv hq b hb).nt
      exact c.mo m hB hDw hCw (fun y x _ v h => m.it c.ok.gi nt h) (fun vs h => m.its c.ok.gi nt h)
    · refine c.mo m hB hDw hCw (fun y x hx => by rw [h0] at hx; cases hx) (fun vs h => Its.atoms (fun z hz => ?_) h)
      rcases List.mem_append.mp hz with hz | hz
      · exact h2 z hz
      · obtain ⟨x, hx, hz⟩ := List.mem_flatMap.mp hz
        exact h3 x (List.mem_of_mem_take hx) z hz
  have keepK : ∀ {s s' : Shared}, Kp V sb s → CE V cenv D sB τ (out ++ (l.take i).flatMap f) s' → Mo V wr s s' → (q = true → ∀ b ∈ wr, NV s.heap b) → Kp V sb s' := by
    intro s s' kp c m hnv
    rcases hk with hq | ⟨_, h1, _⟩
    · exact kp.mo m fun b hb => (hnv hq b hb).nt
    · subst h1; exact c.ok.kp g
  by_cases hlt : i < l.length
  · have hx : l[i]? = some l[i] := List.getElem?_eq_getElem hlt
    generalize l[i] = x at hx
    have hxl : x ∈ l := List.mem_of_getElem? hx
    refine wpAny_mono (W.next A i s x F kp hst hx) (fun r s2 h2 => ?_) fun _ _ f => f.elim
    obtain ⟨v, rfl, hv, hmid, m2⟩ := h2
    have nv1 : q = true → ∀ b ∈ wr, NV s.heap b := fun e => (W.nv e).1 i _ hst
    have c2 := keepI c m2 nv1
    have kp2 := keepK kp c2 m2 nv1
    have nv2 : q = true → ∀ b ∈ wr, NV s2.heap b := fun e => (W.nv e).2 i v _ hmid
    dsimp only
    refine wpAny_bind (wpAny_mono (W.go target A i v s2 F ht hmid kp2) (fun _ s3 h3 => ?_) fun _ _ f => f.elim)
    obtain ⟨hst3, m3, hv3⟩ := h3
    have c3 := keepI c2 m3 nv2
    have kp3 := keepK kp2 c3 m3 nv2
    obtain ⟨τ', b, htg, hts, hem, hno⟩ := hT x hxl
    refine wpAny_bind (wpAny_mono (c3.asg F g RE htg (hv3 x hv)) (fun _ s4 h4 => ?_) fun _ _ f => f.elim)
    obtain ⟨c4, m4⟩ := h4
    have c4d := c4.drop htg.sub
    refine wpAny_bind (wpAny_mono (wp_tests F c4.ok.gi (c4.renv g RE (htg.loc hτ)) hts) (fun ok s5 h5 => ?_) fun _ _ f => f.elim)
    obtain ⟨rfl, o5⟩ := h5
    have c5 := c4.after o5
    -- from s3 on only D and C are written
    have fin : ∀ s6, CE V cenv D sB τ' (out ++ (l.take (i + 1)).flatMap f) s6 → Mo V [D, cenv.locals] s3 s6 → ∃ m, m < l.length + 1 - i ∧ ∃ i', m = l.length + 1 - i' ∧ i' ≤ l.length ∧ St i' s6.heap ∧ CE V cenv D sB τ (out ++ (l.take i').flatMap f) s6 ∧ Kp V sb s6 ∧ Mo V (D :: cenv.locals :: wr) s₁ s6 := by
      intro s6 c6 m6
      have c6d := c6.drop htg.sub
      refine ⟨l.length + 1 - (i + 1), by (first | lia | omega), i + 1, rfl, hlt, W.frame _ _ _ hst3 fun b hb o e => m6.keep b o ?_ (hfp b hb) e, c6d, ?_, ?_⟩
      · intro h
        simp only [List.mem_cons, List.not_mem_nil, or_false] at h
        rcases h with rfl | rfl
        · exact hD hb
        · exact hC hb
      · rcases hk with hq | ⟨_, h1, _⟩
        · exact kp3.mo m6 c3.nt
        · subst h1; exact c6.ok.kp g
      · refine (((mo.trans m2 (w2 := D :: cenv.locals :: wr) (fun _ h => h) (fun b h => .inl (by simp [h]))).trans m3 (w2 := D :: cenv.locals :: wr) (fun _ h => h) (fun b h => .inl (by simp [h]))).trans m6 (fun _ h => h) (fun b h => .inl ?_))
        simp only [List.mem_cons, List.not_mem_nil, or_false] at h
        rcases h with rfl | rfl <;> simp
    have m35 : Mo V [D, cenv.locals] s3 s5 := m4.trans o5.mo (wr' := []) (fun b h => by simp at h; simp [h]) (fun _ h => (by cases h))
    cases ok with
    | false =>
      refine wpAny_pure ⟨rfl, fin s5 ?_ m35⟩
      rw [take_flat f l i x hx, hno rfl, List.append_nil]; exact c5
    | true =>
      have e2 := take_flat f l i x hx
      have e3 : (l.take i).flatMap f ++ f x = (l.take (i + 1)).flatMap f := e2.symm
      have hs2 : (out ++ (l.take i).flatMap f).length + (f x).length ≤ 1000000 := by
        have h1 := flat_le f l (i + 1)
        rw [e2] at h1
        simp only [List.length_append] at h1 ⊢
        (first | lia | omega)
      refine hinner _ _ _ _ _ _ (wpAny_mono (hem rfl A cenv D sB s5 _ F g RE (htg.loc hτ) c5 hs2) (fun _ s6 h6 => wpAny_pure ⟨rfl, fin s6 ?_ ?_⟩) fun _ _ f => f.elim)
      · have := h6.1
        rw [List.append_assoc, e3] at this
        exact this
      · exact m35.trans h6.2 (fun _ h => h) (fun _ h => .inl h)
  · have hil : i = l.length := by (first | lia | omega)
    subst hil
    refine wpAny_mono (W.done A s F kp hst) (fun r s2 h2 => ?_) fun _ _ f => f.elim
    obtain ⟨rfl, m2⟩ := h2
    have nv1 : q = true → ∀ b ∈ wr, NV s.heap b := fun e => (W.nv e).1 _ _ hst
    have c2 := keepI c m2 nv1
    refine wpAny_pure (hR s2 ?_ (keepK kp c2 m2 nv1) (mo.trans m2 (fun _ h => h) (fun b h => .inl (by simp [h]))))
    rw [List.take_of_length_le (Nat.le_refl _)] at c2
    exact c2
end
end
section
open PySem PySem.Calls PyProof.Rows PySem.W

noncomputable abbrev eltOf (elt : Expr) : Env → Value → Sem Unit := fun env acc => do let _ ← call (.builtin "list.append") [acc, ← eval elt env]
noncomputable def clauseOf (e : Expr) (iter : Expr) : Env → Value → Sem Unit := fun env acc => do
  let x ← eval iter env
  standAt iter.pos
  let x ← foldedSetIterable iter env x
  let _ ← runOwn (.compStart e 1 (← holding [x] (pyIter x)) acc env) env

noncomputable def eltK (elt : Expr) : Env → Value → Sem Fin → Sem Fin := fun env acc kk => eltOf elt env acc >>= fun _ => kk
noncomputable def clauseK (e : Expr) (iter : Expr) : Env → Value → Sem Fin → Sem Fin := fun env acc kk => do
  let x ← eval iter env
  standAt iter.pos
  let x ← foldedSetIterable iter env x
  let _ ← runOwn (.compStart e 1 (← holding [x] (pyIter x)) acc env) env
  kk
theorem turn1 (elt target iter : Expr) (ifs : List Expr) (scope : Scope) (pos : Pos) (it acc : Value) (env : Env) :
    compTurn (.ListComp elt [⟨target, iter, ifs, 0⟩] scope pos) 0 it acc env = turnOf iter.pos target ifs (eltK elt) (.compLoop (.ListComp elt [⟨target, iter, ifs, 0⟩] scope pos) 0 it acc env) it acc env := by rfl
theorem turn2a (elt t1 i1 t2 i2 : Expr) (f1 f2 : List Expr) (scope : Scope) (pos : Pos) (it acc : Value) (env : Env) :
    compTurn (.ListComp elt [⟨t1, i1, f1, 0⟩, ⟨t2, i2, f2, 0⟩] scope pos) 0 it acc env =
      turnOf i1.pos t1 f1 (clauseK (.ListComp elt [⟨t1, i1, f1, 0⟩, ⟨t2, i2, f2, 0⟩] scope pos) i2) (.compLoop (.ListComp elt [⟨t1, i1, f1, 0⟩, ⟨t2, i2, f2, 0⟩] scope pos) 0 it acc env) it acc env := by rfl
theorem turn2b (elt t1 i1 t2 i2 : Expr) (f1 f2 : List Expr) (scope : Scope) (pos : Pos) (it acc : Value) (env : Env) :
    compTurn (.ListComp elt [⟨t1, i1, f1, 0⟩, ⟨t2, i2, f2, 0⟩] scope pos) 1 it acc env =
      turnOf i2.pos t2 f2 (eltK elt) (.compLoop (.ListComp elt [⟨t1, i1, f1, 0⟩, ⟨t2, i2, f2, 0⟩] scope pos) 1 it acc env) it acc env := by rfl
theorem eltK_wp {prog : Program} {w : World} {A : Around} {elt : Expr} {env : Env} {acc : Value} {kk : Sem Fin} {Q : Fin → Shared → Prop} {E : Value → Shared → Prop} {s : Shared}
    (h : wpAny (model prog w) A (eltOf elt env acc) (fun _ s' => wpAny (model prog w) A kk Q E s') E s) : wpAny (model prog w) A (eltK elt env acc kk) Q E s := wpAny_bind h

theorem clauseK_wp {prog : Program} {w : World} {A : Around} {e iter : Expr} {env : Env} {acc : Value} {kk : Sem Fin} {Q : Fin → Shared → Prop} {E : Value → Shared → Prop} {s : Shared}
    (h : wpAny (model prog w) A (clauseOf e iter env acc) (fun _ s' => wpAny (model prog w) A kk Q E s') E s) : wpAny (model prog w) A (clauseK e iter env acc kk) Q E s := by
  have e2 : clauseK e iter env acc kk = (clauseOf e iter env acc >>= fun _ => kk) := by
    unfold clauseOf clauseK
    simp only [bind_assoc, pure_bind]
  rw [e2]
  exact wpAny_bind h

section
variable {prog : Program} {w : World} {A : Around} {R : Result → Shared → Prop} {s : Shared}
theorem start2 {elt t1 i1 t2 i2 : Expr} {f1 f2 : List Expr} {scope : Scope} {pos : Pos} {it acc : Value} {env : Env}
    (h0 : codeAny (model prog w) A (.compLoop (.ListComp elt [⟨t1, i1, f1, 0⟩, ⟨t2, i2, f2, 0⟩] scope pos) 1 it acc env) R s)
    (h : wpAny (model prog w) A (pyIter it) (fun it' s' => codeAny (model prog w) A (.compLoop (.ListComp elt [⟨t1, i1, f1, 0⟩, ⟨t2, i2, f2, 0⟩] scope pos) 1 it' acc env) R s') No s) :
    codeAny (model prog w) A (.compStart (.ListComp elt [⟨t1, i1, f1, 0⟩, ⟨t2, i2, f2, 0⟩] scope pos) 1 it acc env) R s := by
  refine codeAny_of_tree ?_
  show wpAny _ _ ((compStart (.ListComp elt [⟨t1, i1, f1, 0⟩, ⟨t2, i2, f2, 0⟩] scope pos) 1 it acc env).onRaise (fun x => do noteFrame x env; standAt theWindowsPlace)) _ _ s
  refine wpAny_notedAt ?_
  unfold compStart
  show wpAny _ _ (ask >>= _) _ _ s
  refine wpAny_bind (wpAny_askSetting (wpAny_ite ?_))
  split
  · first
      | exact wpAny_bind (wpAny_pure (wpAny_pure (And.intro rfl h0)))
      | exact wpAny_pure (And.intro rfl h0)
  · first
      | exact wpAny_bind (wpAny_rule (wpAny_bind (wpAny_standAt (wpAny_bind (wpAny_mono h (fun it' s' h' => wpAny_pure (And.intro rfl h')) fun _ _ x => x.elim)))))
      | (refine wpAny_bind (wpAny_rule ?_); show wpAny _ _ (standAt i2.pos >>= _) _ _ s; exact wpAny_bind (wpAny_standAt (wpAny_bind (wpAny_mono h (fun it' s' h' => wpAny_pure (And.intro rfl h')) fun _ _ x => x.elim))))
end

section
variable {V : Wo} {k : Nat} {K : List (Str × NameKind)} {ρ : Vars} {cenv : Env} {D : Addr} {sB s s' : Shared} {τ τ' : List (Str × It)} {out : List It}
theorem Em.clause {elt t1 i1 t2 i2 : Expr} {f1 f2 : List Expr} {scope : Scope} {pos : Pos} {l : List It} {tg : Expr → Prop} {f : It → List It} (hI : IE V k K (bd ρ τ) i2 l tg true true false) (ht : tg t2) (hT : ∀ x ∈ l, Tn V k K ρ t2 f2 (eltOf elt) τ x (f x))
    (hfold : ∀ env x, foldedSetIterable i2 env x = pure x := by intro _ _; rfl) : Em V k K ρ (clauseOf (.ListComp elt [⟨t1, i1, f1, 0⟩, ⟨t2, i2, f2, 0⟩] scope pos) i2) τ (l.flatMap f) := by
  intro A cenv D sB s out F g R hτ c hsz
  refine wpAny_bind (wpAny_mono (hI A cenv s F c.ok.gi (c.renv g R hτ)) (fun x s1 h1 => wpAny_bind (wpAny_standAt (wpAny_bind (wpAny_of_eq (hfold cenv x) (wpAny_bind (wpAny_holding (wpAny_mono h1 (fun it s2 h2 => ?_) fun _ _ x => x))))))) fun _ _ x => x)
  obtain ⟨sb, I, fp, wr, St, Mid, rfl, o1, o2, W, hst, hfp, hpz, hpf⟩ := h2
  have o12 := o1.trans o2
  have hex : ∀ {b o}, s.heap.get? b = some o → b ∉ fp := fun {b o} e hb => by
    have := o1.fresh (W.new b (hpz rfl b hb))
    rw [e] at this; cases this
  have hD : D ∉ fp := by obtain ⟨ys, n, e, _⟩ := c.acc; exact hex e
  have hC : cenv.locals ∉ fp := by obtain ⟨m, ⟨o, _, _, e, _⟩, _⟩ := c.ns; exact hex e
  refine wpAny_bind (wpAny_runOwn ?_)
  have loopAt : codeAny (model PySem.Challenge.pw_wz0006_01 V.w) A (.compLoop (.ListComp elt [⟨t1, i1, f1, 0⟩, ⟨t2, i2, f2, 0⟩] scope pos) 1 (.ref I) (.ref D) cenv)
      (fun r s' => match r with | .ok _ => wpAny (model PySem.Challenge.pw_wz0006_01 V.w) A (pure PUnit.unit) (fun _ s' => CE V cenv D sB τ (out ++ l.flatMap f) s' ∧ Mo V [D, cenv.locals] s s') No s' | .error e => cameBackBy (model PySem.Challenge.pw_wz0006_01 V.w) A cenv No e s') s2 := by
    refine loop (sb := sb) (turn2b elt t1 i1 t2 i2 f1 f2 scope pos) (fun _ _ _ _ _ _ h => eltK_wp h) F W ht g R hτ hT (c.after o12) hst (o2.kp o1.gi) (fun b hb => (c.ok.trans o1).fresh (W.new b hb)) hD hC (fun b hb => (hfp b hb).2) (.inl rfl) hsz fun s' c' kp' m' => ?_
    · refine wpAny_pure ⟨c', (o12.mo (wr := [D, cenv.locals])).trans m' (fun _ h => h) fun b hb => ?_⟩
      rcases List.mem_cons.mp hb with e | hb
      · exact .inl (by rw [e]; simp)
      · rcases List.mem_cons.mp hb with e | hb
        · exact .inl (by rw [e]; simp)
        · exact .inr (o1.fresh (W.new b hb))
  exact start2 loopAt (wpAny_mono (W.self A 0 s2 F hst) (fun r s' h => by obtain ⟨rfl, rfl⟩ := h; exact loopAt) fun _ _ x => x)

noncomputable def Made (V : Wo) (s₀ : Shared) (out : List It) (acc : Value) (C : Addr) (s' : Shared) : Prop :=
  ∃ D ys n, acc = .ref D ∧ s₀.heap.get? D = none ∧ s₀.heap.get? C = none ∧ D ≠ C ∧ (∃ m, s'.heap.Ns C m) ∧ s'.heap.get? D = some { cls := .type "list", data := .seq ys n } ∧ Its s'.heap out ys.toList ∧ Ok V s₀ s'

theorem block {A : Around} {env : Env} {s₀ s₂ : Shared} {e : Expr} {scope : Scope} {cl : List (Str × Addr)} {it : Value} {l : List It} {tg : Expr → Prop} {q pz pf : Bool} {target : Expr} {ifs : List Expr} {inner : Env → Value → Sem Unit} {f : It → List It} {RR : Value → Addr → Result → Shared → Prop}
    {elt i1 : Expr} {rest : List Comprehension} {pos : Pos} {innerK : Env → Value → Sem Fin → Sem Fin} {p : Pos} (he : e = .ListComp elt (⟨target, i1, ifs, 0⟩ :: rest) scope pos)
    (hturn : ∀ it acc env, compTurn e 0 it acc env = turnOf p target ifs innerK (.compLoop e 0 it acc env) it acc env)
    (hinner : ∀ (env : Env) (acc : Value) (kk : Sem Fin) (Q : Fin → Shared → Prop) (E : Value → Shared → Prop) (s : Shared), wpAny (model PySem.Challenge.pw_wz0006_01 V.w) A (inner env acc) (fun _ s' => wpAny (model PySem.Challenge.pw_wz0006_01 V.w) A kk Q E s') E s → wpAny (model PySem.Challenge.pw_wz0006_01 V.w) A (innerK env acc kk) Q E s)
    (F : Fit A k) (g : GI V s₀) (R : REnv K env s₀.heap ρ) (hs : ScOk K scope ρ) (hcl : ∀ n, (n, NameKind.free) ∈ scope.names → cl.lookup n = env.cells.lookup n ∧ (cl.lookup n).isSome = true)
    (W : Wk V k s₀ l tg q pz pf it s₂) (ht : tg target) (hT : ∀ x ∈ l, Tn V k (relab K scope) (inC scope ρ) target ifs inner [] x (f x))
    (hk : q = true ∨ ∀ x ∈ l, ∀ z ∈ f x, ∃ a, z = .at a) (hsz : (l.flatMap f).length ≤ 1000000)
    (hRR : ∀ acc C s', Made V s₀ (l.flatMap f) acc C s' → RR acc C (.ok .next) s') :
    wpAny (model PySem.Challenge.pw_wz0006_01 V.w) A (newList []) (fun acc s₃ => wpAny (model PySem.Challenge.pw_wz0006_01 V.w) A (newFunctionEnv scope env.globals cl [] env.qual none .none (some env)) (fun cenv s₄ =>
      codeAny (model PySem.Challenge.pw_wz0006_01 V.w) A (.compStart e 0 it acc { cenv with scope := relabel scope env }) (RR acc cenv.locals) s₄) No s₃) No s₂ := by
  subst he
  obtain ⟨sb, I, fp, wr, St, Mid, rfl, o1, o2, W, hst, hfp, hpz, hpf⟩ := W
  refine wpAny_newObj_type (wpAny_newFunctionEnv hs.noCell (by intro y hy; simp at hy) (fun h₁ hns₁ hsb₁ => ?_) hs.kind)
  dsimp only at hns₁ hsb₁ ⊢
  generalize hH2 : s₂.heap.push { cls := .type "list", dict := none, data := .seq ([] : List Value).toArray } = H2 at hns₁ hsb₁ ⊢
  have hC : H2.objs.size = s₂.heap.objs.size + 1 := by rw [← hH2, Heap.size_push]
  have hDC : s₂.heap.objs.size ≠ H2.objs.size := by rw [hC]; exact Nat.ne_of_lt (Nat.lt_succ_self _)
  have old : ∀ b o, s₂.heap.get? b = some o → h₁.get? b = some o := fun b o e => hsb₁.extBut b o (by have := Heap.lt_size e; rw [hC]; exact Nat.ne_of_lt (Nat.lt_succ_of_lt this)) (Heap.get?_push_of_some _ (hH2 ▸ Heap.get?_push_of_some _ e))
  have fr : ∀ a, s₂.heap.objs.size ≤ a → sb.heap.get? a = none := fun a ha => o2.fresh (fresh_none ha)
  have fr0 : ∀ a, s₂.heap.objs.size ≤ a → s₀.heap.get? a = none := fun a ha => (o1.trans o2).fresh (fresh_none ha)
  have g4 : Ok V s₂ { s₂ with heap := h₁, toks := s₂.toks + ([] : List (Str × Value)).length } := Ok.grow o2.gi old
  have RB := (R.ok g o1).comp (C := H2.objs.size) hs hcl
  have c4 : CE V (compEnvC scope cl H2.objs.size env) s₂.heap.objs.size sb [] [] { s₂ with heap := h₁, toks := s₂.toks + ([] : List (Str × Value)).length } := by
    refine ⟨o2.trans g4, fr _ (by show s₂.heap.objs.size ≤ H2.objs.size; rw [hC]; exact Nat.le_succ _), fr _ (Nat.le_refl _), ⟨_, hns₁, fun x i hx => (by cases hx)⟩, #[], 0, ?_, rfl⟩
    exact hsb₁.extBut _ _ hDC (Heap.get?_push_of_some _ (hH2 ▸ Heap.get?_push_size _ rfl))
  have hDf : s₂.heap.objs.size ∉ fp := fun hm => Nat.lt_irrefl _ (Heap.lt_size (hfp _ hm).1.choose_spec)
  have hCf : H2.objs.size ∉ fp := fun hm => by have := Heap.lt_size (hfp _ hm).1.choose_spec; rw [hC] at this; exact Nat.lt_irrefl _ (Nat.lt_of_succ_lt this)
  have st4 : St 0 h₁ := W.frame _ _ _ hst fun b _ o e => old b o e
  have go : codeAny (model PySem.Challenge.pw_wz0006_01 V.w) A (.compLoop (.ListComp elt (⟨target, i1, ifs, 0⟩ :: rest) scope pos) 0 (.ref I) (.ref s₂.heap.objs.size) (compEnvC scope cl H2.objs.size env)) (RR (.ref s₂.heap.objs.size) H2.objs.size)
      { s₂ with heap := h₁, toks := s₂.toks + ([] : List (Str × Value)).length } := by
    refine loop (V := V) (k := k) (sb := sb) hturn hinner F W ht o1.gi RB (fun x i hx => (by cases hx)) hT c4 st4 ((o2.trans g4).kp o1.gi) W.new hDf hCf (fun b hb => (hfp b hb).2) (hk.elim .inl fun h => .inr ⟨rfl, rfl, fun z hz => (by cases hz), h⟩) (by simpa using hsz) fun s' c' _ _ => ?_
    obtain ⟨ys, n, e, hi⟩ := c'.acc
    obtain ⟨m, hm, _⟩ := c'.ns
    refine hRR _ _ s' ⟨_, ys, n, rfl, fr0 _ (Nat.le_refl _), fr0 _ (by rw [hC]; exact Nat.le_succ _), hDC, ⟨m, hm⟩, e, by simpa using hi, o1.trans c'.ok⟩
  exact codeAny_compStart_list go (wpAny_mono (W.self A 0 _ F st4) (fun r s' h => by obtain ⟨rfl, rfl⟩ := h; exact go) fun _ _ x => x.elim)


theorem Ok.letGo {s₀ s' : Shared} {C : Addr} {m : Str → Option Value} {h' : Heap} (o : Ok V s₀ s') (g : GI V s₀) (hC : s₀.heap.get? C = none) (hn : s'.heap.Ns C m) (hs : Heap.SameBut C s'.heap h') : Ok V s₀ { s' with heap := h' } := by
  refine o.mod (wr := [C]) (Mo.of (tk := s'.toks) o.gi (fun b hb => ?_) fun b o hb e => hs.extBut b o (fun e' => hb (by rw [e']; simp)) e) fun b hb => by rw [List.mem_singleton] at hb; rw [hb]; exact hC
  rw [List.mem_singleton] at hb
  subst hb
  refine ⟨g.noH0 hC, fun o e => .inr fun vs h => ?_⟩
  obtain ⟨o', es, ep, e', d, _⟩ := hn
  rw [e] at e'; cases e'; rw [d] at h; cases h
theorem Made.done {s₀ s' : Shared} {acc : Value} {C : Addr} {out : List It} {m : Str → Option Value} {h' : Heap} (x : Made V s₀ out acc C s') (g : GI V s₀) (hn : s'.heap.Ns C m) (hs : Heap.SameBut C s'.heap h') :
    Ok V s₀ { s' with heap := h' } ∧ (PV.list out).is h' acc ∧ Fresh s₀ acc (.list out) := by
  obtain ⟨D, ys, n, rfl, hD, hC, hDC, _, e, hi, o⟩ := x
  refine ⟨o.letGo g hC hn hs, ⟨D, ys, n, rfl, hs.extBut _ _ hDC e, Its.keeps (fun b o hd _ e => ?_) hi⟩, fun a _ e => by cases e; exact hD⟩
  obtain ⟨vs, n, hd⟩ := hd
  refine hs.extBut b o (fun h => ?_) e
  subst h
  obtain ⟨o', es, ep, e', d, _⟩ := hn
  rw [e] at e'; cases e'; rw [d] at hd; cases hd

theorem EV.comp {fr : Bool} {scope : Scope} {l : List It} {tg : Expr → Prop} {q : Bool} {target : Expr} {ifs : List Expr} {inner : Env → Value → Sem Unit} {f : It → List It}
    {elt i1 : Expr} {rest : List Comprehension} {pos : Pos} {innerK : Env → Value → Sem Fin → Sem Fin} {p : Pos}
    (hturn : ∀ it acc env, compTurn (.ListComp elt (⟨target, i1, ifs, 0⟩ :: rest) scope pos) 0 it acc env = turnOf p target ifs innerK (.compLoop (.ListComp elt (⟨target, i1, ifs, 0⟩ :: rest) scope pos) 0 it acc env) it acc env)
    (hinner : ∀ (A : Around) (env : Env) (acc : Value) (kk : Sem Fin) (Q : Fin → Shared → Prop) (E : Value → Shared → Prop) (s : Shared), wpAny (model PySem.Challenge.pw_wz0006_01 V.w) A (inner env acc) (fun _ s' => wpAny (model PySem.Challenge.pw_wz0006_01 V.w) A kk Q E s') E s → wpAny (model PySem.Challenge.pw_wz0006_01 V.w) A (innerK env acc kk) Q E s)
    (hs : ScOk K scope ρ) (hI : IE V k K ρ i1 l tg q false false) (ht : tg target) (hT : ∀ x ∈ l, Tn V k (relab K scope) (inC scope ρ) target ifs inner [] x (f x))
    (hk : q = true ∨ ∀ x ∈ l, ∀ z ∈ f x, ∃ a, z = .at a) (hsz : (l.flatMap f).length ≤ 1000000) (hfold : ∀ env x, foldedSetIterable i1 env x = pure x := by intro _ _; rfl) :
    EV V k fr K ρ (.ListComp elt (⟨target, i1, ifs, 0⟩ :: rest) scope pos) (.list (l.flatMap f)) := EV.weak fun A env s₀ F g R => by
  obtain ⟨cl, hclos, hcl⟩ := closure_ok R hs
  rw [show Gv V A (eval (.ListComp elt (⟨target, i1, ifs, 0⟩ :: rest) scope pos) env) true (.list (l.flatMap f)) s₀ = wpAny (model PySem.Challenge.pw_wz0006_01 V.w) A (eval (.ListComp elt (⟨target, i1, ifs, 0⟩ :: rest) scope pos) env) _ _ s₀ from rfl, eval_ListComp]
  refine wpAny_comprehension_free (use := Option.none) rfl (hfold env) hclos hs.kind hs.loc (wpAny_mono (hI A env s₀ F g R) (fun xv s₁ h₁ => wpAny_mono h₁ (fun it s₂ h₂ => ?_) fun _ _ e => e) fun _ _ e => e)
  refine block (RR := fun acc C => compPost (model PySem.Challenge.pw_wz0006_01 V.w) A No Option.none _ acc C) rfl hturn (hinner A) F g R hs hcl h₂ ht hT hk hsz fun acc C s' hm => ?_
  obtain ⟨D, ys, n, e, hD, hC, hDC, ⟨m, hn⟩, r⟩ := id hm
  exact ⟨m, hn, fun h' hs' => let ⟨a, b, c⟩ := hm.done g hn hs'; ⟨a, b, fun _ => c⟩⟩
theorem EV.comp1 {fr : Bool} {scope : Scope} {l : List It} {tg : Expr → Prop} {q : Bool} {target : Expr} {ifs : List Expr} {f : It → List It} {elt i1 : Expr} {pos : Pos}
    (hs : ScOk K scope ρ) (hI : IE V k K ρ i1 l tg q false false) (ht : tg target) (hT : ∀ x ∈ l, Tn V k (relab K scope) (inC scope ρ) target ifs (eltOf elt) [] x (f x))
    (hk : q = true ∨ ∀ x ∈ l, ∀ z ∈ f x, ∃ a, z = .at a) (hsz : (l.flatMap f).length ≤ 1000000) (hfold : ∀ env x, foldedSetIterable i1 env x = pure x := by intro _ _; rfl) :
    EV V k fr K ρ (.ListComp elt [⟨target, i1, ifs, 0⟩] scope pos) (.list (l.flatMap f)) :=
  EV.comp (turn1 elt target i1 ifs scope pos) (fun _ _ _ _ _ _ _ h => eltK_wp h) hs hI ht hT hk hsz hfold
theorem EV.comp2 {fr : Bool} {scope : Scope} {l : List It} {tg : Expr → Prop} {q : Bool} {t1 t2 : Expr} {f1 f2 : List Expr} {f : It → List It} {elt i1 i2 : Expr} {pos : Pos}
    (hs : ScOk K scope ρ) (hI : IE V k K ρ i1 l tg q false false) (ht : tg t1) (hT : ∀ x ∈ l, Tn V k (relab K scope) (inC scope ρ) t1 f1 (clauseOf (.ListComp elt [⟨t1, i1, f1, 0⟩, ⟨t2, i2, f2, 0⟩] scope pos) i2) [] x (f x))
    (hk : q = true ∨ ∀ x ∈ l, ∀ z ∈ f x, ∃ a, z = .at a) (hsz : (l.flatMap f).length ≤ 1000000) (hfold : ∀ env x, foldedSetIterable i1 env x = pure x := by intro _ _; rfl) :
    EV V k fr K ρ (.ListComp elt [⟨t1, i1, f1, 0⟩, ⟨t2, i2, f2, 0⟩] scope pos) (.list (l.flatMap f)) :=
  EV.comp (turn2a elt t1 i1 t2 i2 f1 f2 scope pos) (fun _ _ _ _ _ _ _ h => clauseK_wp h) hs hI ht hT hk hsz hfold
end
end
section
open PySem PySem.Calls PyProof.Rows PySem.W

noncomputable def PV.addr : PV → Option Addr
  | .own a _ => some a
  | .acc a _ _ _ => some a
  | _ => none
theorem PV.addr_is {p : PV} {a : Addr} {h : Heap} {v : Value} (e : p.addr = some a) (x : p.is h v) : v = .ref a ∧ ∃ o vs n, h.get? a = some o ∧ o.data = .seq vs n ∧ o.cls ≠ .type "tuple" ∧ o.cls ≠ .type "dict" ∧ o.cls ≠ .none := by
  cases p with
  | it i => cases e
  | list l => cases e
  | fn f => cases e
  | own b l =>
    cases e
    obtain ⟨vs, n, rfl, ho, _⟩ := x
    exact ⟨rfl, _, vs, n, ho, rfl, by show Value.type _ ≠ _; decide, by show Value.type _ ≠ _; decide, by nofun⟩
  | acc b d f l =>
    cases e
    obtain ⟨vs, n, _, _, _, rfl, ho, _⟩ := x
    exact ⟨rfl, _, vs, n, ho, rfl, by nofun, by nofun, by nofun⟩

structure Fr (V : Wo) (K : List (Str × NameKind)) (env : Env) (s₀ : Shared) (W : List Addr) (ρ : Vars) (s : Shared) : Prop where
  mo : Mo V W s₀ s
  renv : REnv K env s.heap ρ
  locN : s₀.heap.get? env.locals = none
  loc : ∃ m, s.heap.Ns env.locals m
  cellN : ∀ x, K.lookup x = some .cell → ∃ c, env.cells.lookup x = some c ∧ s₀.heap.get? c = none ∧ ∃ v, s.heap.IsCell c v
  apart : ∀ x y c, env.cells.lookup x = some c → env.cells.lookup y = some c → x = y
  acc : ∀ x a d f l, ρ x = some (.acc a d f l) → d ≠ env.locals ∧ (a ∈ W ∨ s₀.heap.get? d = none)
  own : ∀ x p a, ρ x = some p → p.addr = some a → a ∈ W ∨ s₀.heap.get? a = none
  uniq : ∀ x y p q a, ρ x = some p → ρ y = some q → p.addr = some a → q.addr = some a → x = y
  iso : ∀ x p a, ρ x = some p → p.addr = some a → ∀ y l v, ρ y = some (.list l) → Lk env s.heap y v → v ≠ .ref a
  wex : ∀ a ∈ W, (∃ o, s₀.heap.get? a = some o) ∧ ∃ o, s.heap.get? a = some o ∧ o.cls ≠ .type "tuple" ∧ o.cls ≠ .none
theorem Fr.gi {V : Wo} {K} {env : Env} {s₀ s : Shared} {W : List Addr} {ρ : Vars} (F : Fr V K env s₀ W ρ s) : GI V s := F.mo.gi

theorem Lk.uniq {env : Env} {h : Heap} {x : Str} {v u : Value} (a : Lk env h x v) (b : Lk env h x u) : v = u := by
  rcases a with ⟨k1, m, hn, hm⟩ | ⟨k1, c, hc, hv⟩
  · rcases b with ⟨k2, m', hn', hm'⟩ | ⟨k2, _⟩
    · obtain ⟨o, es, ep, ho, hd, _, hf⟩ := hn
      obtain ⟨o', es', ep', ho', hd', _, hf'⟩ := hn'
      rw [ho] at ho'; cases ho'
      rw [hd] at hd'; cases hd'
      rw [← hf] at hm; rw [← hf'] at hm'
      rw [hm] at hm'; cases hm'; rfl
    · rw [k1] at k2; rcases k2 with k2 | k2 <;> cases k2
  · rcases b with ⟨k2, m', hn', hm'⟩ | ⟨k2, c', hc', hv'⟩
    · rw [k2] at k1; rcases k1 with k1 | k1 <;> cases k1
    · rw [hc] at hc'; cases hc'
      obtain ⟨o, ho, hd⟩ := hv
      obtain ⟨o', ho', hd'⟩ := hv'
      rw [ho] at ho'; cases ho'
      rw [hd] at hd'; cases hd'; rfl

section
variable {V : Wo} {k : Nat} {K : List (Str × NameKind)} {env : Env} {s₀ s s' : Shared} {W : List Addr} {ρ : Vars}

theorem Lk.ok {x : Str} {v : Value} (l : Lk env s.heap x v) (g : GI V s) (o : Ok V s s') : Lk env s'.heap x v := by
  rcases l with ⟨hk, m, hn, hm⟩ | ⟨hk, c, hc, hv⟩
  · exact .inl ⟨hk, m, o.ns g hn, hm⟩
  · exact .inr ⟨hk, c, hc, o.cell g hv⟩
theorem Fr.vars (F : Fr V K env s₀ W ρ s) {x : Str} {p : PV} (e : ρ x = some p) : ∃ v, Lk env s.heap x v ∧ p.is s.heap v := F.renv.vars x p e
theorem Fr.after (F : Fr V K env s₀ W ρ s) (o : Ok V s s') : Fr V K env s₀ W ρ s' where
  mo := F.mo.trans (o.mo (wr := [])) (fun _ h => h) fun _ h => (by cases h)
  renv := F.renv.ok F.gi o
  locN := F.locN
  loc := let ⟨m, h⟩ := F.loc; ⟨m, o.ns F.gi h⟩
  cellN := fun x hx => let ⟨c, a, b, v, h⟩ := F.cellN x hx; ⟨c, a, b, v, o.cell F.gi h⟩
  apart := F.apart
  acc := F.acc
  own := F.own
  uniq := F.uniq
  iso := fun x p a hx ha y l v hy hl => by
    obtain ⟨u, hu, _⟩ := F.vars hy
    rw [hl.uniq (hu.ok F.gi o)]
    exact F.iso x p a hx ha y l u hy hu
  wex := fun a ha => let ⟨h0, o', e, c, c'⟩ := F.wex a ha; ⟨h0, o', o.atC F.gi e c', c, c'⟩

structure At1 (b : Addr) (s s' : Shared) : Prop where
  keep : ∀ c o, c ≠ b → s.heap.get? c = some o → s'.heap.get? c = some o
  os : s'.os = s.os
  gens : s'.gens = s.gens
theorem At1.mo {b : Addr} (x : At1 b s s') (g : GI V s) (hs : Safe V s.heap b) : Mo V [b] s s' :=
  ⟨fun c o hc _ e => x.keep c o (fun h => hc (by rw [h]; simp)) e, fun c o hc e => ⟨o, x.keep c o (fun h => hc (by rw [h]; simp)) e⟩, x.os, g.but (wr := [b]) (fun c hc => by rw [List.mem_singleton] at hc; rw [hc]; exact hs) (fun c o hc e => x.keep c o (fun h => hc (by rw [h]; simp)) e) (by rw [x.gens]; exact g.bare)⟩
theorem PV.but {b : Addr} {p : PV} {v : Value} (x : At1 b s s') (hp : p.is s.heap v) (hb : ∀ o, s.heap.get? b = some o → (∀ vs n, o.data ≠ .seq vs n)) (hd : ∀ a d f l, p = .acc a d f l → d ≠ b) : p.is s'.heap v := by
  have kS : ∀ c o, (∃ vs n, o.data = .seq vs n) → s.heap.get? c = some o → s'.heap.get? c = some o := fun c o ⟨vs, n, h⟩ e => x.keep c o (fun h' => by subst h'; exact hb o e vs n h) e
  cases p with
  | it i => exact It.keeps (fun c o h _ e => kS c o h e) hp
  | list l => obtain ⟨a, vs, n, e, ho, hi⟩ := hp; exact ⟨a, vs, n, e, kS _ _ ⟨vs, n, rfl⟩ ho, hi.keeps fun c o h _ e => kS c o h e⟩
  | fn f => exact hp
  | own a l => obtain ⟨vs, n, e, ho, hi⟩ := hp; exact ⟨vs, n, e, kS _ _ ⟨vs, n, rfl⟩ ho, hi.keeps fun c o h _ e => kS c o h e⟩
  | acc a d f l =>
    obtain ⟨vs, n, es, m, t, e, ho, hi, hdd, r⟩ := hp
    exact ⟨vs, n, es, m, t, e, kS _ _ ⟨vs, n, rfl⟩ ho, hi.keeps fun c o h _ e => kS c o h e, x.keep _ _ (hd a d f l rfl) hdd, r⟩

noncomputable def Mine (K : List (Str × NameKind)) (x : Str) : Prop := K.lookup x = some .local ∨ K.lookup x = some .cell
theorem Fr.storeK {A : Around} {x : Str} {p : PV} {v : Value} (F : Fr V K env s₀ W ρ s) (g₀ : GI V s₀) (hx : Mine K x) (hv : p.is s.heap v) (hacc : ∀ a d f l, p = .acc a d f l → d ≠ env.locals ∧ (a ∈ W ∨ s₀.heap.get? d = none))
    (hown : ∀ a, p.addr = some a → a ∈ W ∨ s₀.heap.get? a = none) (huniq : ∀ y q a, y ≠ x → ρ y = some q → p.addr = some a → q.addr ≠ some a)
    (hiso : ∀ a, p.addr = some a → ∀ y l u, y ≠ x → ρ y = some (.list l) → Lk env s.heap y u → u ≠ .ref a)
    (hiso' : ∀ l, p = .list l → ∀ y q a, y ≠ x → ρ y = some q → q.addr = some a → v ≠ .ref a) :
    wpAny (model PySem.Challenge.pw_wz0006_01 V.w) A (storeName env x v) (fun _ s' => (Fr V K env s₀ W (up ρ x p) s' ∧ ∃ b, At1 b s s' ∧ (b = env.locals ∨ (K.lookup x = some .cell ∧ env.cells.lookup x = some b))) ∧ ∀ y, y ≠ x → ∀ u, Lk env s.heap y u → Lk env s'.heap y u) No s := by
  have kx : ∀ y, env.kindOf y = K.lookup y := fun y => by unfold Env.kindOf; rw [F.renv.names]
  obtain ⟨m, hns⟩ := F.loc
  -- b: the written place
  have fin : ∀ (b : Addr) (s' : Shared), (b = env.locals ∨ (K.lookup x = some .cell ∧ env.cells.lookup x = some b)) → At1 b s s' → Safe V s.heap b → s₀.heap.get? b = none → (∀ o, s.heap.get? b = some o → ∀ vs n, o.data ≠ .seq vs n) → (∀ d, d ≠ env.locals → (∃ es n, s.heap.get? d = some { cls := .type "dict", data := .dict es n }) → d ≠ b) →
      (∃ m', s'.heap.Ns env.locals m') → (∀ y, y ≠ x → ∀ u, Lk env s.heap y u → Lk env s'.heap y u) → Lk env s'.heap x v → (∀ y, K.lookup y = some .cell → ∀ c, env.cells.lookup y = some c → ∃ u, s'.heap.IsCell c u) → (Fr V K env s₀ W (up ρ x p) s' ∧ ∃ b, At1 b s s' ∧ (b = env.locals ∨ (K.lookup x = some .cell ∧ env.cells.lookup x = some b))) ∧ ∀ y, y ≠ x → ∀ u, Lk env s.heap y u → Lk env s'.heap y u := by
    intro b s' hbl x1 hsafe hb0 hseq hdict hloc hlk hlx hcell
    have mo1 := x1.mo (V := V) F.gi hsafe
    have pv : ∀ (q : PV) (u : Value), q.is s.heap u → (∀ a d f l, q = .acc a d f l → d ≠ env.locals) → q.is s'.heap u := fun q u hq hd => PV.but x1 hq hseq fun a d f l e => by
      subst e
      obtain ⟨vs, n, es, m, t, _, _, _, hdd, _⟩ := hq
      exact hdict d (hd a d f l rfl) ⟨es, m, hdd⟩
    have lkb : ∀ y, y ≠ x → ∀ q, ρ y = some q → ∀ u, Lk env s'.heap y u → Lk env s.heap y u := fun y hy q hq u hl => by
      obtain ⟨w, hw, _⟩ := F.vars hq
      rw [hl.uniq (hlk y hy w hw)]; exact hw
    refine ⟨⟨?_, b, x1, hbl⟩, hlk⟩
    refine ⟨F.mo.trans mo1 (fun _ h => h) fun c hc => .inr (by rw [List.mem_singleton] at hc; rw [hc]; exact hb0), ⟨F.renv.kind, F.renv.names, F.renv.glob, F.renv.blt, fun y q hy => ?_⟩, F.locN, hloc, fun y hy => ?_, F.apart, fun y a d f l hy => ?_, fun y q a hy ha => ?_, fun y z q r a hy hz hq hr => ?_, fun y q a hy ha z l u hz hl => ?_, fun a ha => ?_⟩
    · unfold up at hy
      by_cases e : y = x
      · rw [if_pos e] at hy; cases hy; subst e
        exact ⟨v, hlx, pv p v hv fun a d f l e => (hacc a d f l e).1⟩
      · rw [if_neg e] at hy
        obtain ⟨u, hu, hq⟩ := F.vars hy
        exact ⟨u, hlk y e u hu, pv q u hq fun a d f l e' => (F.acc y a d f l (by rw [hy, e'])).1⟩
    · obtain ⟨c, hc, hc0, _⟩ := F.cellN y hy
      exact ⟨c, hc, hc0, hcell y hy c hc⟩
    · unfold up at hy
      by_cases e : y = x
      · rw [if_pos e] at hy; cases hy; exact hacc a d f l rfl
      · rw [if_neg e] at hy; exact F.acc y a d f l hy
    · unfold up at hy
      by_cases e : y = x
      · rw [if_pos e] at hy; cases hy; exact hown a ha
      · rw [if_neg e] at hy; exact F.own y q a hy ha
    · unfold up at hy hz
      by_cases e : y = x
      · by_cases e' : z = x
        · rw [e, e']
        · rw [if_pos e] at hy; rw [if_neg e'] at hz; cases hy
          exact absurd hr (huniq z r a e' hz hq)
      · by_cases e' : z = x
        · rw [if_neg e] at hy; rw [if_pos e'] at hz; cases hz
          exact absurd hq (huniq y q a e hy hr)
        · rw [if_neg e] at hy; rw [if_neg e'] at hz
          exact F.uniq y z q r a hy hz hq hr
    · unfold up at hy hz
      by_cases e : y = x
      · rw [if_pos e] at hy; cases hy
        by_cases e' : z = x
        · rw [if_pos e'] at hz; cases hz; cases ha
        · rw [if_neg e'] at hz
          exact hiso a ha z l u e' hz (lkb z e' _ hz u hl)
      · rw [if_neg e] at hy
        by_cases e' : z = x
        · rw [if_pos e'] at hz; cases hz
          subst e'
          rw [hl.uniq hlx]
          exact hiso' l rfl y q a e hy ha
        · rw [if_neg e'] at hz
          exact F.iso y q a hy ha z l u hz (lkb z e' _ hz u hl)
    · obtain ⟨⟨o0, e0⟩, o, e, c⟩ := F.wex a ha
      exact ⟨⟨o0, e0⟩, o, x1.keep a o (fun h => by rw [h, hb0] at e0; cases e0) e, c⟩
  have hloc0 : ∀ o, s.heap.get? env.locals = some o → ∃ es ep, o.data = .dict es ep := fun o e => by
    obtain ⟨o', es, ep, e', d, _⟩ := hns
    rw [e] at e'; cases e'; exact ⟨es, ep, d⟩
  rcases hx with hx | hx
  · refine wpAny_storeName_local ((kx x).trans hx) hns (fun h' hn' hs' => ?_) (by rw [F.renv.kind]; rfl)
    refine fin env.locals { s with heap := h', toks := s.toks + 1 } (.inl rfl) ⟨fun c o hc e => hs'.extBut c o hc e, rfl, rfl⟩ ⟨g₀.noH0 F.locN, fun o e => .inr fun vs h => by obtain ⟨es, ep, d⟩ := hloc0 o e; rw [d] at h; cases h⟩ F.locN
      (fun o e vs n h => by obtain ⟨es, ep, d⟩ := hloc0 o e; rw [d] at h; cases h) (fun d hd _ => hd) ⟨_, hn'⟩ (fun y hy u hl => ?_) (.inl ⟨(kx x).trans hx, _, hn', by simp⟩) (fun y hy c hc => ?_)
    · rcases hl with ⟨hk, m1, hn1, hm1⟩ | ⟨hk, c, hc, hcv⟩
      · refine .inl ⟨hk, _, hn', ?_⟩
        rw [if_neg hy]
        obtain ⟨o, es, ep, ho, hd, _, hf⟩ := hns
        obtain ⟨o', es', ep', ho', hd', _, hf'⟩ := hn1
        rw [ho] at ho'; cases ho'
        rw [hd] at hd'; cases hd'
        rw [← hf, hf']; exact hm1
      · refine .inr ⟨hk, c, hc, hcv.sameBut hs' ?_⟩
        rintro rfl
        obtain ⟨o, ho, hd⟩ := hcv
        obtain ⟨es, ep, d⟩ := hloc0 o ho
        rw [d] at hd; cases hd
    · obtain ⟨c', hc', _, u, hu⟩ := F.cellN y hy
      rw [hc] at hc'; cases hc'
      refine ⟨u, hu.sameBut hs' ?_⟩
      rintro rfl
      obtain ⟨o, ho, hd⟩ := hu
      obtain ⟨es, ep, d⟩ := hloc0 o ho
      rw [d] at hd; cases hd
  · obtain ⟨c, hc, hc0, u0, hu0⟩ := F.cellN x hx
    obtain ⟨oc, hoc, hdc⟩ := hu0
    refine wpAny_storeName_cell F.renv.kind ((kx x).trans hx) hc ⟨oc, hoc, hdc⟩ fun h' hc' hs' => ?_
    refine fin c { s with heap := h' } (.inr ⟨hx, hc⟩) ⟨fun c' o h e => hs'.extBut c' o h e, rfl, rfl⟩ ⟨g₀.noH0 hc0, fun o e => .inr fun vs h => by rw [hoc] at e; cases e; rw [hdc] at h; cases h⟩ hc0
      (fun o e vs n h => by rw [hoc] at e; cases e; rw [hdc] at h; cases h) (fun d _ ⟨es, n, e⟩ h => by subst h; rw [hoc] at e; cases e; cases hdc) ⟨m, hns.sameBut hs' ?_⟩ (fun y hy u hl => ?_) (.inr ⟨.inl ((kx x).trans hx), c, hc, hc'⟩) (fun y hy c1 hc1 => ?_)
    · rintro rfl
      obtain ⟨es, ep, d⟩ := hloc0 _ hoc
      rw [d] at hdc; cases hdc
    · rcases hl with ⟨hk, m1, hn1, hm1⟩ | ⟨hk, c1, hc1, hcv⟩
      · refine .inl ⟨hk, m1, hn1.sameBut hs' ?_, hm1⟩
        rintro rfl
        obtain ⟨es, ep, d⟩ := hloc0 _ hoc
        rw [d] at hdc; cases hdc
      · refine .inr ⟨hk, c1, hc1, hcv.sameBut hs' ?_⟩
        rintro rfl
        exact hy (F.apart y x _ hc1 hc)
    · by_cases e : c1 = c
      · exact ⟨_, e ▸ hc'⟩
      · obtain ⟨c2, hc2, _, u, hu⟩ := F.cellN y hy
        rw [hc1] at hc2; cases hc2
        exact ⟨u, hu.sameBut hs' e⟩
theorem Fr.store {A : Around} {x : Str} {p : PV} {v : Value} (F : Fr V K env s₀ W ρ s) (g₀ : GI V s₀) (hx : Mine K x) (hv : p.is s.heap v) (hacc : ∀ a d f l, p = .acc a d f l → d ≠ env.locals ∧ (a ∈ W ∨ s₀.heap.get? d = none))
    (hown : ∀ a, p.addr = some a → a ∈ W ∨ s₀.heap.get? a = none) (huniq : ∀ y q a, y ≠ x → ρ y = some q → p.addr = some a → q.addr ≠ some a)
    (hiso : ∀ a, p.addr = some a → ∀ y l u, y ≠ x → ρ y = some (.list l) → Lk env s.heap y u → u ≠ .ref a)
    (hiso' : ∀ l, p = .list l → ∀ y q a, y ≠ x → ρ y = some q → q.addr = some a → v ≠ .ref a) :
    wpAny (model PySem.Challenge.pw_wz0006_01 V.w) A (storeName env x v) (fun _ s' => Fr V K env s₀ W (up ρ x p) s' ∧ ∃ b, At1 b s s' ∧ (b = env.locals ∨ (K.lookup x = some .cell ∧ env.cells.lookup x = some b))) No s :=
  wpAny_mono (F.storeK g₀ hx hv hacc hown huniq hiso hiso') (fun _ _ h => h.1) fun _ _ x => x
theorem Fr.storeIt {A : Around} {x : Str} {i : It} {v : Value} (F : Fr V K env s₀ W ρ s) (g₀ : GI V s₀) (hx : Mine K x) (hv : i.is s.heap v) : wpAny (model PySem.Challenge.pw_wz0006_01 V.w) A (storeName env x v) (fun _ s' => Fr V K env s₀ W (up ρ x (.it i)) s' ∧ ∃ b, At1 b s s' ∧ (b = env.locals ∨ (K.lookup x = some .cell ∧ env.cells.lookup x = some b))) No s :=
  F.store g₀ hx (p := .it i) hv (fun _ _ _ _ e => (by cases e)) (fun _ e => (by cases e)) (fun _ _ _ _ _ e => (by cases e)) (fun _ e => (by cases e)) fun _ e => (by cases e)
theorem Fr.storeNew {A : Around} {x : Str} {p : PV} {a : Addr} {l : List It} {s1 : Shared} (F : Fr V K env s₀ W ρ s) (g₀ : GI V s₀) (F1 : Fr V K env s₀ W ρ s1) (o : Ok V s1 s) (hn : s1.heap.get? a = none) (hx : Mine K x) (hv : p.is s.heap (.ref a)) (hp : p = .list l ∨ p = .own a l) :
    wpAny (model PySem.Challenge.pw_wz0006_01 V.w) A (storeName env x (.ref a)) (fun _ s' => Fr V K env s₀ W (up ρ x p) s' ∧ ∃ b, At1 b s s' ∧ (b = env.locals ∨ (K.lookup x = some .cell ∧ env.cells.lookup x = some b))) No s := by
  have h0 : s₀.heap.get? a = none := by
    cases q : s₀.heap.get? a with
    | none => rfl
    | some o' =>
      by_cases hw : a ∈ W
      · obtain ⟨_, o2, e, _⟩ := F1.wex a hw; rw [hn] at e; cases e
      · obtain ⟨o2, e⟩ := F1.mo.there a o' hw q; rw [hn] at e; cases e
  have hne : ∀ y q b, ρ y = some q → q.addr = some b → a ≠ b := fun y q b hy hb e => by
    subst e
    obtain ⟨u, _, hq⟩ := F1.vars hy
    obtain ⟨_, o, _, _, ho, _⟩ := PV.addr_is hb hq
    rw [hn] at ho; cases ho
  have hpa : ∀ b, p.addr = some b → b = a := fun b hb => by rcases hp with rfl | rfl <;> cases hb; rfl
  refine F.store g₀ hx hv (fun a d f l e => by rcases hp with rfl | rfl <;> cases e) (fun b hb => .inr (by rw [hpa b hb]; exact h0)) (fun y q b _ hy hb hq => hne y q b hy hq (hpa b hb).symm) (fun b hb y l u _ hy hl e => ?_) (fun l' e y q b _ hy hb e' => by cases e'; exact hne y q _ hy hb rfl)
  rw [hpa b hb] at e
  subst e
  obtain ⟨u', hu', hq⟩ := F1.vars hy
  obtain ⟨c, vs, n, e2, ho, _⟩ := hq
  have := hl.uniq (hu'.ok F1.gi o)
  rw [e2] at this; cases this
  rw [hn] at ho; cases ho
end
end
section
open PySem PySem.Calls PyProof.Rows PySem.W

section
variable {V : Wo} {k : Nat} {K : List (Str × NameKind)} {env : Env} {s₀ s s' : Shared} {W : List Addr} {ρ : Vars}
theorem Fr.mod {b : Addr} (F : Fr V K env s₀ W ρ s) (x : At1 b s s') (hs : Safe V s.heap b) (hb0 : s₀.heap.get? b = none) (hL : env.locals ≠ b) (hseq : ∀ o, s.heap.get? b = some o → ∀ vs n, o.data ≠ .seq vs n) (hcell : ∀ o, s.heap.get? b = some o → ∀ v, o.data ≠ .cell v)
    (hd : ∀ y a d f l, ρ y = some (.acc a d f l) → d ≠ b) : Fr V K env s₀ W ρ s' := by
  have mo1 := x.mo (V := V) F.gi hs
  have hns : ∀ {m}, s.heap.Ns env.locals m → s'.heap.Ns env.locals m := fun {m} ⟨o, es, ep, ho, r⟩ => ⟨o, es, ep, x.keep _ _ hL ho, r⟩
  have hic : ∀ {c u}, s.heap.IsCell c u → s'.heap.IsCell c u := fun {c u} ⟨o, ho, hdc⟩ => ⟨o, x.keep _ _ (fun h => by subst h; exact hcell o ho _ hdc) ho, hdc⟩
  have lk : ∀ {y u}, Lk env s.heap y u → Lk env s'.heap y u := fun {y u} l => by
    rcases l with ⟨hk, m, hn, hm⟩ | ⟨hk, c, hc, hv⟩
    · exact .inl ⟨hk, m, hns hn, hm⟩
    · exact .inr ⟨hk, c, hc, hic hv⟩
  refine ⟨F.mo.trans mo1 (fun _ h => h) fun c hc => .inr (by rw [List.mem_singleton] at hc; rw [hc]; exact hb0), ⟨F.renv.kind, F.renv.names, F.renv.glob, F.renv.blt, fun y q hy => ?_⟩, F.locN, let ⟨m, h⟩ := F.loc; ⟨m, hns h⟩,
    fun y hy => let ⟨c, a, b, u, h⟩ := F.cellN y hy; ⟨c, a, b, u, hic h⟩, F.apart, F.acc, F.own, F.uniq, fun y p a hy ha z l u hz hl => ?_, fun a ha => ?_⟩
  · obtain ⟨u, hu, hq⟩ := F.vars hy
    exact ⟨u, lk hu, PV.but x hq hseq fun a d f l e => hd y a d f l (by rw [hy, e])⟩
  · obtain ⟨w, hw, _⟩ := F.vars hz
    rw [hl.uniq (lk hw)]
    exact F.iso y p a hy ha z l w hz hw
  · obtain ⟨⟨o0, e0⟩, o, e, c⟩ := F.wex a ha
    exact ⟨⟨o0, e0⟩, o, x.keep a o (fun h => by rw [h, hb0] at e0; cases e0) e, c⟩

theorem Fr.write {x : Str} {p p' : PV} {a : Addr} (F : Fr V K env s₀ W ρ s) (e : ρ x = some p) (ha : p.addr = some a) (m : Mo V [a] s s') (hv : p'.is s'.heap (.ref a)) (hpa : p'.addr = some a)
    (hacc : ∀ b d f l, p' = .acc b d f l → d ≠ env.locals ∧ (b ∈ W ∨ s₀.heap.get? d = none)) : Fr V K env s₀ W (up ρ x p') s' := by
  obtain ⟨v, hlx, hp⟩ := F.vars e
  obtain ⟨rfl, o, vs, n, ho, hd, hct, hcd, hcn⟩ := PV.addr_is ha hp
  have hat : ∀ {c o'}, s.heap.get? c = some o' → (∀ vs n, o'.data ≠ .seq vs n) → (∀ vs, o'.data ≠ .fields vs) → s'.heap.get? c = some o' := fun {c o'} h1 h2 h3 => m.atD F.gi h1 (fun hm => by rw [List.mem_singleton] at hm; subst hm; rw [ho] at h1; cases h1; exact h2 _ _ hd) h3
  have hns : ∀ {m}, s.heap.Ns env.locals m → s'.heap.Ns env.locals m := fun {m} ⟨o', es, ep, ho', hd', r⟩ => ⟨o', es, ep, hat ho' (fun _ _ h => by rw [hd'] at h; cases h) (fun _ h => by rw [hd'] at h; cases h), hd', r⟩
  have hic : ∀ {c u}, s.heap.IsCell c u → s'.heap.IsCell c u := fun {c u} ⟨o', ho', hd'⟩ => ⟨o', hat ho' (fun _ _ h => by rw [hd'] at h; cases h) (fun _ h => by rw [hd'] at h; cases h), hd'⟩
  have lk : ∀ {y u}, Lk env s.heap y u → Lk env s'.heap y u := fun {y u} l => by
    rcases l with ⟨hk, m, hn, hm⟩ | ⟨hk, c, hc, hv⟩
    · exact .inl ⟨hk, m, hns hn, hm⟩
    · exact .inr ⟨hk, c, hc, hic hv⟩
  have its : ∀ {l vs}, Its s.heap l vs → Its s'.heap l vs := fun {l vs} h => m.its F.gi (fun b hb => by rw [List.mem_singleton] at hb; subst hb; intro o' e' hc; rw [ho] at e'; cases e'; exact absurd hc hct) h
  have pv : ∀ y q u, y ≠ x → ρ y = some q → Lk env s.heap y u → q.is s.heap u → q.is s'.heap u := fun y q u hyx hy hl hq => by
    have hne : q.addr ≠ some a := fun h => hyx (F.uniq y x q p a hy e h ha)
    cases q with
    | it i => exact m.it F.gi (fun b hb => by rw [List.mem_singleton] at hb; subst hb; intro o' e' hc; rw [ho] at e'; cases e'; exact absurd hc hct) hq
    | list l =>
      obtain ⟨b, vs', n', rfl, hb, hi⟩ := hq
      have : b ≠ a := fun h => F.iso x p a e ha y l _ hy hl (by rw [h])
      exact ⟨b, vs', n', rfl, m.at F.gi hb (by simpa using this) (by first | exact ns rfl | exact nIt rfl | exact nAcc rfl | nofun), its hi⟩
    | fn f => exact hq
    | own b l =>
      obtain ⟨vs', n', rfl, hb, hi⟩ := hq
      have : b ≠ a := fun h => hne (by subst h; rfl)
      exact ⟨vs', n', rfl, m.at F.gi hb (by simpa using this) (by first | exact ns rfl | exact nIt rfl | exact nAcc rfl | nofun), its hi⟩
    | acc b d f l =>
      obtain ⟨vs', n', es, mm, t, rfl, hb, hi, hdd, r⟩ := hq
      have : b ≠ a := fun h => hne (by subst h; rfl)
      exact ⟨vs', n', es, mm, t, rfl, m.at F.gi hb (by simpa using this) (by first | exact ns rfl | exact nIt rfl | exact nAcc rfl | nofun), its hi, hat hdd (by first | exact ns rfl | exact nIt rfl | exact nAcc rfl | nofun) (by first | exact ns rfl | exact nIt rfl | exact nAcc rfl | nofun), r⟩
  have hWs : ∀ b ∈ [a], b ∈ W ∨ s₀.heap.get? b = none := fun b hb => by rw [List.mem_singleton] at hb; subst hb; exact F.own x p _ e ha
  refine ⟨F.mo.trans m (fun _ h => h) hWs, ⟨F.renv.kind, F.renv.names, F.renv.glob, F.renv.blt, fun y q hy => ?_⟩, F.locN, let ⟨mm, h⟩ := F.loc; ⟨mm, hns h⟩,
    fun y hy => let ⟨c, a', b, u, h⟩ := F.cellN y hy; ⟨c, a', b, u, hic h⟩, F.apart, fun y b d f l hy => ?_, fun y q b hy hb => ?_, fun y z q r b hy hz hq hr => ?_, fun y q b hy hb z l u hz hl => ?_, fun b hb => ?_⟩
  · unfold up at hy
    by_cases h : y = x
    · rw [if_pos h] at hy; cases hy; subst h; exact ⟨_, lk hlx, hv⟩
    · rw [if_neg h] at hy
      obtain ⟨u, hu, hq⟩ := F.vars hy
      exact ⟨u, lk hu, pv y q u h hy hu hq⟩
  · unfold up at hy
    by_cases h : y = x
    · rw [if_pos h] at hy; cases hy; exact hacc b d f l rfl
    · rw [if_neg h] at hy; exact F.acc y b d f l hy
  · unfold up at hy
    by_cases h : y = x
    · rw [if_pos h] at hy; cases hy; rw [hpa] at hb; cases hb; exact F.own x p _ e ha
    · rw [if_neg h] at hy; exact F.own y q b hy hb
  · unfold up at hy hz
    have kx : ∀ y q b, (if y = x then some p' else ρ y) = some q → q.addr = some b → ∃ q', ρ y = some q' ∧ q'.addr = some b := fun y q b hy hb => by
      by_cases h : y = x
      · rw [if_pos h] at hy; cases hy; rw [hpa] at hb; cases hb; subst h; exact ⟨p, e, ha⟩
      · rw [if_neg h] at hy; exact ⟨q, hy, hb⟩
    obtain ⟨q', hq', hqa⟩ := kx y q b hy hq
    obtain ⟨r', hr', hra⟩ := kx z r b hz hr
    exact F.uniq y z q' r' b hq' hr' hqa hra
  · unfold up at hy hz
    by_cases h : z = x
    · rw [if_pos h] at hz; cases hz; cases hpa
    · rw [if_neg h] at hz
      obtain ⟨w, hw, _⟩ := F.vars hz
      rw [hl.uniq (lk hw)]
      by_cases h' : y = x
      · rw [if_pos h'] at hy; cases hy; rw [hpa] at hb; cases hb
        exact F.iso x p _ e ha z l w hz hw
      · rw [if_neg h'] at hy
        exact F.iso y q b hy hb z l w hz hw
  · obtain ⟨h0, o', e', c, c'⟩ := F.wex b hb
    by_cases h : b ∈ [a]
    · rw [List.mem_singleton] at h
      subst h
      obtain ⟨_, o2, _, _, h2, _, h3, _, h4⟩ := PV.addr_is hpa hv
      exact ⟨h0, o2, h2, h3, h4⟩
    · exact ⟨h0, o', m.at F.gi e' h c', c, c'⟩

noncomputable def Pl (K : List (Str × NameKind)) (env : Env) (W : List Addr) (ρ : Vars) (b : Addr) : Prop :=
  b = env.locals ∨ (∃ y, K.lookup y = some .cell ∧ env.cells.lookup y = some b) ∨ b ∈ W ∨ ∃ x p, ρ x = some p ∧ p.addr = some b
structure Mv (V : Wo) (K : List (Str × NameKind)) (env : Env) (W : List Addr) (ρ ρ' : Vars) (s s' : Shared) : Prop where
  keep : ∀ b o, ¬ Pl K env W ρ b → b ∉ tabAddrs → s.heap.get? b = some o → s'.heap.get? b = some o
  own : ∀ x p b, ρ' x = some p → p.addr = some b → Pl K env W ρ b ∨ s.heap.get? b = none
theorem Pl.own {x : Str} {p : PV} {b : Addr} (h : ρ x = some p) (hp : p.addr = some b) : Pl K env W ρ b := .inr (.inr (.inr ⟨x, p, h, hp⟩))
theorem Mv.refl : Mv V K env W ρ ρ s s := ⟨fun _ _ _ _ e => e, fun x p b h hp => .inl (Pl.own h hp)⟩
theorem Mv.ok (o : Ok V s s') : Mv V K env W ρ ρ s s' := ⟨fun b o' _ ht e => o.keep b o' ht e, fun x p b h hp => .inl (Pl.own h hp)⟩
theorem Mv.trans {ρ1 ρ2 : Vars} {s1 s2 : Shared} (a : Mv V K env W ρ ρ1 s s1) (b : Mv V K env W ρ1 ρ2 s1 s2) (g1 : GI V s1) : Mv V K env W ρ ρ2 s s2 := by
  have pl : ∀ c o, ¬ Pl K env W ρ c → s.heap.get? c = some o → ¬ Pl K env W ρ1 c := fun c o hn e h => by
    rcases h with h | h | h | ⟨x, p, hx, hp⟩
    · exact hn (.inl h)
    · exact hn (.inr (.inl h))
    · exact hn (.inr (.inr (.inl h)))
    · rcases a.own x p c hx hp with h | h
      · exact hn h
      · rw [e] at h; cases h
  refine ⟨fun c o hn ht e => b.keep c o (pl c o hn e) ht (a.keep c o hn ht e), fun x p c hx hp => ?_⟩
  by_cases hn : Pl K env W ρ c
  · exact .inl hn
  · refine .inr ?_
    cases e : s.heap.get? c with
    | none => rfl
    | some o =>
      rcases b.own x p c hx hp with h | h
      · exact absurd h (pl c o hn e)
      · by_cases ht : c ∈ tabAddrs
        · obtain ⟨ps, e'⟩ := g1.tabObj ht
          rw [h] at e'; cases e'
        · rw [a.keep c o hn ht e] at h; cases h
theorem Mv.at1 {x : Str} {p : PV} {b : Addr} (h : At1 b s s') (hb : b = env.locals ∨ (K.lookup x = some .cell ∧ env.cells.lookup x = some b)) (hp : ∀ c, p.addr = some c → Pl K env W ρ c ∨ s.heap.get? c = none) : Mv V K env W ρ (up ρ x p) s s' :=
  ⟨fun c o hn _ e => h.keep c o (fun h' => hn (by subst h'; exact hb.elim .inl fun y => .inr (.inl ⟨x, y⟩))) e, fun y q c hy hq => by
    unfold up at hy
    by_cases e : y = x
    · rw [if_pos e] at hy; cases hy; exact hp c hq
    · rw [if_neg e] at hy; exact .inl (Pl.own hy hq)⟩
noncomputable def Out (V : Wo) (K : List (Str × NameKind)) (env : Env) (s₀ : Shared) (W : List Addr) (ρ : Vars) (s : Shared) (Φn : Vars → Prop) (Φr : Vars → PV → Prop) (fl : Flow) (s' : Shared) : Prop :=
  match fl with
  | .next => ∃ ρ', Φn ρ' ∧ Fr V K env s₀ W ρ' s' ∧ Mv V K env W ρ ρ' s s'
  | .ret v => ∃ ρ' p, Φr ρ' p ∧ Fr V K env s₀ W ρ' s' ∧ p.is s'.heap v ∧ Fresh s₀ v p
  | _ => False
theorem Out.pre {Φn : Vars → Prop} {Φr : Vars → PV → Prop} {fl : Flow} {ρ1 : Vars} {s1 : Shared} (m : Mv V K env W ρ ρ1 s s1) (g : GI V s1) (h : Out V K env s₀ W ρ1 s1 Φn Φr fl s') : Out V K env s₀ W ρ s Φn Φr fl s' := by
  cases fl with
  | next => obtain ⟨ρ', a, b, c⟩ := h; exact ⟨ρ', a, b, m.trans c g⟩
  | ret v => exact h
  | brk => exact h
  | cont => exact h
noncomputable def Bk (V : Wo) (k : Nat) (K : List (Str × NameKind)) (W : List Addr) (ρ : Vars) (body : List Stmt) (Φn : Vars → Prop) (Φr : Vars → PV → Prop) : Prop :=
  ∀ (A : Around) (env : Env) (s₀ s : Shared), Fit A k → GI V s₀ → Fr V K env s₀ W ρ s → wpAny (model PySem.Challenge.pw_wz0006_01 V.w) A (execs body env) (Out V K env s₀ W ρ s Φn Φr) No s
noncomputable def St1 (V : Wo) (k : Nat) (K : List (Str × NameKind)) (W : List Addr) (ρ : Vars) (st : Stmt) (Φn : Vars → Prop) (Φr : Vars → PV → Prop) : Prop :=
  ∀ (A : Around) (env : Env) (s₀ s : Shared), Fit A k → GI V s₀ → Fr V K env s₀ W ρ s → wpAny (model PySem.Challenge.pw_wz0006_01 V.w) A (exec st env) (Out V K env s₀ W ρ s Φn Φr) No s

variable {Φn Φm : Vars → Prop} {Φr : Vars → PV → Prop}
theorem Bk.nil (h : Φn ρ) : Bk V k K W ρ [] Φn Φr := fun A env s₀ s F g Fx => wpAny_execs_nil ⟨ρ, h, Fx, .refl⟩
theorem Bk.cons {st : Stmt} {rest : List Stmt} (h : St1 V k K W ρ st Φm Φr) (hr : ∀ ρ', Φm ρ' → Bk V k K W ρ' rest Φn Φr) : Bk V k K W ρ (st :: rest) Φn Φr := fun A env s₀ s F g Fx => by
  refine wpAny_execs_cons (wpAny_mono (h A env s₀ s F g Fx) (fun fl s' x => ?_) fun _ _ x => x)
  cases fl with
  | next => obtain ⟨ρ', h1, h2, h3⟩ := x; exact wpAny_mono (hr ρ' h1 A env s₀ s' F g h2) (fun _ _ y => y.pre h3 h2.gi) fun _ _ y => y
  | ret v => exact x
  | brk => exact x
  | cont => exact x
theorem Bk.step {st : Stmt} {rest : List Stmt} {ρ1 : Vars} (h : St1 V k K W ρ st (fun ρ' => ρ' = ρ1) Φr) (hr : Bk V k K W ρ1 rest Φn Φr) : Bk V k K W ρ (st :: rest) Φn Φr := Bk.cons h fun ρ' e => e ▸ hr
theorem Bk.last {st : Stmt} {rest : List Stmt} (h : St1 V k K W ρ st (fun _ => False) Φr) : Bk V k K W ρ (st :: rest) Φn Φr := Bk.cons h fun ρ' e => e.elim

noncomputable def noComp : Expr → Bool
  | .ListComp .. => false
  | .SetComp .. => false
  | .DictComp .. => false
  | _ => true
theorem swaps_none {value : Expr} {t : Option Expr} {n : Nat} (h : noComp value = true) : swapsWith value t n env = pure false := by cases value <;> first | rfl | cases h
theorem St1.assign {x : Str} {e : Expr} {i : It} {q pos : Pos} (he : EV V k false K ρ e (.it i)) (hx : Mine K x) (hn : noComp e = true := by rfl) : St1 V k K W ρ (.Assign [.Name x q] e pos) (fun ρ' => ρ' = up ρ x (.it i)) Φr := fun A env s₀ s F g Fx =>
  wpAny_Assign_Name (wpAny_mono (he A env s F Fx.gi Fx.renv) (fun v s1 h1 => wpAny_mono ((Fx.after h1.1).storeIt g hx h1.2.1) (fun _ s2 h2 => by
    obtain ⟨h2, b, hb, hbl⟩ := h2
    exact ⟨_, rfl, h2, (Mv.ok h1.1).trans (Mv.at1 hb hbl (by first | exact ns rfl | exact nIt rfl | exact nAcc rfl | nofun)) h1.1.gi⟩) fun _ _ x => x) fun _ _ x => x) (swaps_none hn)
theorem PV.list_ref {h : Heap} {l : List It} {v : Value} (x : (PV.list l).is h v) : ∃ a, v = .ref a := let ⟨a, _, _, e, _⟩ := x; ⟨a, e⟩
theorem St1.assignL {x : Str} {e : Expr} {l : List It} {q pos : Pos} (he : EV V k true K ρ e (.list l)) (hx : Mine K x) (hn : noComp e = true := by rfl) : St1 V k K W ρ (.Assign [.Name x q] e pos) (fun ρ' => ρ' = up ρ x (.list l)) Φr := fun A env s₀ s F g Fx =>
  wpAny_Assign_Name (wpAny_mono (he A env s F Fx.gi Fx.renv) (fun v s1 h1 => by
    obtain ⟨o, hv, hf⟩ := h1
    obtain ⟨a, rfl⟩ := PV.list_ref hv
    exact wpAny_mono ((Fx.after o).storeNew g Fx o (hf rfl a (by first | exact ns rfl | exact nIt rfl | exact nAcc rfl | nofun) rfl) hx hv (.inl rfl)) (fun _ s2 h2 => by
      obtain ⟨h2, b, hb, hbl⟩ := h2
      exact ⟨_, rfl, h2, (Mv.ok o).trans (Mv.at1 hb hbl (by first | exact ns rfl | exact nIt rfl | exact nAcc rfl | nofun)) o.gi⟩) fun _ _ x => x) fun _ _ x => x) (swaps_none hn)
noncomputable def NewAt (ρ : Vars) (a : Addr) : Prop := ∀ y p, ρ y = some p → p.addr ≠ some a
theorem Fr.newAt {a : Addr} (Fx : Fr V K env s₀ W ρ s) (hn : s.heap.get? a = none) : NewAt ρ a ∧ a ∉ W :=
  ⟨fun y p hy hp => (by
    obtain ⟨u, _, hq⟩ := Fx.vars hy
    obtain ⟨_, o2, _, _, h3, _⟩ := PV.addr_is hp hq
    rw [hn] at h3; cases h3), fun hw => (by obtain ⟨_, o2, h3, _⟩ := Fx.wex a hw; rw [hn] at h3; cases h3)⟩
theorem PV.toOwn {h : Heap} {l : List It} {a : Addr} (x : (PV.list l).is h (.ref a)) : (PV.own a l).is h (.ref a) := by obtain ⟨b, vs, n, e, r⟩ := x; cases e; exact ⟨vs, n, rfl, r⟩
theorem St1.assignO {x : Str} {e : Expr} {l : List It} {q pos : Pos} (he : EV V k true K ρ e (.list l)) (hx : Mine K x) (hn : noComp e = true := by rfl) : St1 V k K W ρ (.Assign [.Name x q] e pos) (fun ρ' => ∃ a, (NewAt ρ a ∧ a ∉ W) ∧ ρ' = up ρ x (.own a l)) Φr := fun A env s₀ s F g Fx =>
  wpAny_Assign_Name (wpAny_mono (he A env s F Fx.gi Fx.renv) (fun v s1 h1 => by
    obtain ⟨o, hv, hf⟩ := h1
    obtain ⟨a, rfl⟩ := PV.list_ref hv
    have hn := hf rfl a (by first | exact ns rfl | exact nIt rfl | exact nAcc rfl | nofun) rfl
    exact wpAny_mono ((Fx.after o).storeNew g Fx o hn hx (PV.toOwn hv) (.inr rfl)) (fun _ s2 h2 => by
      obtain ⟨h2, b, hb, hbl⟩ := h2
      refine ⟨_, ⟨a, Fx.newAt hn, rfl⟩, h2, ?_⟩
      have m := (Mv.ok (W := W) (K := K) (env := env) (ρ := ρ) o).trans (ρ2 := up ρ x (.list l)) (Mv.at1 hb hbl (by first | exact ns rfl | exact nIt rfl | exact nAcc rfl | nofun)) o.gi
      refine ⟨m.keep, fun y p c hy hc => ?_⟩
      unfold up at hy
      by_cases e : y = x
      · rw [if_pos e] at hy; cases hy; cases hc; exact .inr hn
      · rw [if_neg e] at hy; exact .inl (Pl.own hy hc)) fun _ _ x => x) fun _ _ x => x) (swaps_none hn)
theorem St1.ite {test : Expr} {body orelse : List Stmt} {pos : Pos} {b : Bool} (ht : ET V k K ρ test b) (h1 : b = true → Bk V k K W ρ body Φn Φr) (h2 : b = false → Bk V k K W ρ orelse Φn Φr) : St1 V k K W ρ (.If test body orelse pos) Φn Φr := fun A env s₀ s F g Fx => by
  refine wpAny_If (wpAny_mono (ht A env s F Fx.gi Fx.renv) (fun c s1 h => ?_) fun _ _ x => x)
  obtain ⟨rfl, o⟩ := h
  cases c with
  | true => exact wpAny_mono (h1 rfl A env s₀ s1 F g (Fx.after o)) (fun _ _ y => y.pre (Mv.ok o) o.gi) fun _ _ y => y
  | false => exact wpAny_mono (h2 rfl A env s₀ s1 F g (Fx.after o)) (fun _ _ y => y.pre (Mv.ok o) o.gi) fun _ _ y => y
theorem Fr.freshUp (Fx : Fr V K env s₀ W ρ s) {a : Addr} (h : s.heap.get? a = none) : s₀.heap.get? a = none := by
  cases q : s₀.heap.get? a with
  | none => rfl
  | some o' =>
    by_cases hw : a ∈ W
    · obtain ⟨_, o2, e, _⟩ := Fx.wex a hw; rw [h] at e; cases e
    · obtain ⟨o2, e⟩ := Fx.mo.there a o' hw q; rw [h] at e; cases e
theorem St1.ret {e : Expr} {p : PV} {pos : Pos} (he : EV V k true K ρ e p) (h : Φr ρ p) : St1 V k K W ρ (.Return (some e) pos) Φn Φr := fun A env s₀ s F g Fx =>
  wpAny_Return_some (wpAny_mono (he A env s F Fx.gi Fx.renv) (fun v s1 h1 => ⟨ρ, p, h, Fx.after h1.1, h1.2.1, fun a hp e => Fx.freshUp (h1.2.2 rfl a hp e)⟩) fun _ _ x => x)
theorem St1.retOwn {x : Str} {q : Pos} {a : Addr} {l : List It} {pos : Pos} (hx : ρ x = some (.own a l)) (ha : a ∉ W) (h : Φr ρ (.list l)) (hd : (x == ("__debug__" : Str)) = false := by decide) (hn : (x == ("__classdict__" : Str)) = false := by decide) :
    St1 V k K W ρ (.Return (some (.Name x q)) pos) Φn Φr := fun A env s₀ s F g Fx => by
  obtain ⟨v, hl, hv⟩ := Fx.vars hx
  refine wpAny_Return_some (wp_name Fx.renv.kind hl ?_ hd hn)
  obtain ⟨vs, n, rfl, r⟩ := hv
  exact ⟨ρ, _, h, Fx, ⟨a, vs, n, rfl, r⟩, fun b _ e => by cases e; exact (Fx.own x _ a hx rfl).resolve_left ha⟩
end
end
section
open PySem PySem.Calls PyProof.Rows PySem.W

section
variable {V : Wo} {k : Nat} {K : List (Str × NameKind)} {env : Env} {s₀ s s' : Shared} {W : List Addr} {ρ ρ' : Vars} {Φn Φm : Vars → Prop} {Φr : Vars → PV → Prop}

theorem Fr.mods {wr : List Addr} (F : Fr V K env s₀ W ρ s) (m : Mo V wr s s') (h0 : ∀ b ∈ wr, s₀.heap.get? b = none) (hp : ∀ b ∈ wr, ¬ Pl K env W ρ b) (hnv : ∀ b ∈ wr, NV s.heap b) : Fr V K env s₀ W ρ s' := by
  have at1 : ∀ {c o}, s.heap.get? c = some o → ((∃ vs n, o.data = .seq vs n) ∨ o.cls = .type "dict" ∨ ∃ v, o.data = .cell v) → (∀ vs, o.data ≠ .fields vs) → s'.heap.get? c = some o := fun {c o} e h hf => m.atD F.gi e (fun hm => by
    obtain ⟨h1, h2, h3⟩ := hnv c hm o e
    rcases h with ⟨vs, n, h⟩ | h | ⟨v, h⟩
    · exact h1 _ _ h
    · exact h2 h
    · exact h3 _ h) hf
  have hL : env.locals ∉ wr := fun h => hp _ h (.inl rfl)
  have hns : ∀ {mm}, s.heap.Ns env.locals mm → s'.heap.Ns env.locals mm := fun {mm} ⟨o, es, ep, ho, hd, r⟩ => ⟨o, es, ep, m.atD F.gi ho hL (fun _ h => by rw [hd] at h; cases h), hd, r⟩
  have hic : ∀ {c u}, s.heap.IsCell c u → s'.heap.IsCell c u := fun {c u} ⟨o, ho, hdc⟩ => ⟨o, at1 ho (.inr (.inr ⟨_, hdc⟩)) (fun _ h => by rw [hdc] at h; cases h), hdc⟩
  have lk : ∀ {y u}, Lk env s.heap y u → Lk env s'.heap y u := fun {y u} l => by
    rcases l with ⟨hk, mm, hn, hm⟩ | ⟨hk, c, hc, hv⟩
    · exact .inl ⟨hk, mm, hns hn, hm⟩
    · exact .inr ⟨hk, c, hc, hic hv⟩
  refine ⟨F.mo.trans m (fun _ h => h) fun c hc => .inr (h0 c hc), ⟨F.renv.kind, F.renv.names, F.renv.glob, F.renv.blt, fun y q hy => ?_⟩, F.locN, let ⟨mm, h⟩ := F.loc; ⟨mm, hns h⟩,
    fun y hy => let ⟨c, a, b, u, h⟩ := F.cellN y hy; ⟨c, a, b, u, hic h⟩, F.apart, F.acc, F.own, F.uniq, fun y p a hy ha z l u hz hl => ?_, fun a ha => ?_⟩
  · obtain ⟨u, hu, hq⟩ := F.vars hy
    refine ⟨u, lk hu, PV.keeps (fun c o h e => ?_) hq⟩
    rcases h with ⟨vs, n, h⟩ | h
    · exact at1 e (.inl ⟨vs, n, h⟩) (fun _ h' => by rw [h] at h'; cases h')
    · exact m.at F.gi e (fun hm => (hnv c hm o e).2.1 h) (by rw [h]; nofun)
  · obtain ⟨w, hw, _⟩ := F.vars hz
    rw [hl.uniq (lk hw)]
    exact F.iso y p a hy ha z l w hz hw
  · obtain ⟨h0, o, e, c, c'⟩ := F.wex a ha
    exact ⟨h0, o, m.at F.gi e (fun h => hp a h (.inr (.inr (.inl ha)))) c', c, c'⟩

inductive FT (K : List (Str × NameKind)) (ρ : Vars) : Expr → It → Vars → Prop
  | name {y : Str} {p : Pos} {x : It} (hk : Mine K y) : FT K ρ (.Name y p) x (up ρ y (.it x))
  | pair {a b : Str} {p q r : Pos} {kk : Nat} {u v : At} (ha : Mine K a) (hb : Mine K b) : FT K ρ (.Tuple [.Name a p, .Name b q] kk r) (.tup [u, v]) (up (up ρ a (.it (.at u))) b (.it (.at v)))
set_option tactic.hygienic true in
theorem Fr.asg {A : Around} {t : Expr} {x : It} {v : Value} (F : Fit A k) (g : GI V s₀) (Fx : Fr V K env s₀ W ρ s) (ht : FT K ρ t x ρ') (hv : x.is s.heap v) :
    wpAny (model PySem.Challenge.pw_wz0006_01 V.w) A (assign t env v) (fun _ s' => Fr V K env s₀ W ρ' s' ∧ Mv V K env W ρ ρ' s s') No s := by
  cases ht with
  | name hk =>
    refine wpAny_assign_Name (wpAny_mono (Fx.storeIt g hk hv) (fun _ s2 h2 => ?_) fun _ _ x => x)
    obtain ⟨h2, b, hb, hbl⟩ := h2
    exact ⟨h2, Mv.at1 hb hbl (fun c h => (by cases h))⟩
  | pair ha hb =>
    rename_i a b p q r kk u w
    obtain ⟨T, vs, rfl, hT, hat⟩ := hv
    obtain ⟨x, y, rfl, hx, hy⟩ := hat.pair
    refine wpAny_assign_Tuple F.handled hT rfl rfl fun h' he => ?_
    have o1 : Ok V s { s with heap := h' } := Ok.grow (tk := s.toks) Fx.gi fun b o e => he b o (Nat.ne_of_lt (Heap.lt_size e)) e
    show wpAny _ A (assignInOrder [assign (.Name a p) env, assign (.Name b q) env] [x, y]) _ _ _
    unfold assignInOrder
    refine wpAny_bind (wpAny_holding (wpAny_assign_Name (wpAny_mono ((Fx.after o1).storeIt g ha (i := .at u) hx) (fun _ s2 h2 => ?_) fun _ _ x => x)))
    obtain ⟨h2, b2, hb2, hbl2⟩ := h2
    unfold assignInOrder
    refine wpAny_bind (wpAny_holding (wpAny_assign_Name (wpAny_mono (h2.storeIt g hb (i := .at w) hy) (fun _ s3 h3 => ?_) fun _ _ x => x)))
    obtain ⟨h3, b3, hb3, hbl3⟩ := h3
    unfold assignInOrder
    exact wpAny_pure ⟨h3, ((Mv.ok o1).trans (Mv.at1 hb2 hbl2 (fun c h => (by cases h))) o1.gi).trans (Mv.at1 hb3 hbl3 (fun c h => (by cases h))) h2.gi⟩

noncomputable def IF (V : Wo) (k : Nat) (K : List (Str × NameKind)) (W : List Addr) (ρ : Vars) (e : Expr) (l : List It) (tg : Expr → Prop) : Prop :=
  ∀ (A : Around) (env : Env) (s₀ s : Shared), Fit A k → GI V s₀ → Fr V K env s₀ W ρ s →
    wpAny (model PySem.Challenge.pw_wz0006_01 V.w) A (eval e env) (fun x s₁ => wpAny (model PySem.Challenge.pw_wz0006_01 V.w) A (pyIter x) (fun it s' => ∃ sb I fp wr St Mid, it = .ref I ∧ Ok V s sb ∧ Ok V sb s' ∧ Src V k sb I l fp wr tg true St Mid ∧ St 0 s'.heap ∧
      (∀ b ∈ fp, (∃ o, s'.heap.get? b = some o) ∧ b ∉ tabAddrs) ∧ ∀ b ∈ fp, ¬ Pl K env W ρ b) No s₁) No s
theorem Fr.notPl (Fx : Fr V K env s₀ W ρ s) {b : Addr} (h : s.heap.get? b = none) : ¬ Pl K env W ρ b := fun hp => by
  rcases hp with rfl | ⟨y, hy, hc⟩ | hw | ⟨x, p, hx, ha⟩
  · obtain ⟨m, o, _, _, e, _⟩ := Fx.loc; rw [h] at e; cases e
  · obtain ⟨c, hc', _, u, o, e, _⟩ := Fx.cellN y hy
    rw [hc] at hc'; cases hc'; rw [h] at e; cases e
  · obtain ⟨_, o, e, _⟩ := Fx.wex b hw; rw [h] at e; cases e
  · obtain ⟨u, _, hq⟩ := Fx.vars hx
    obtain ⟨_, o, _, _, e, _⟩ := PV.addr_is ha hq
    rw [h] at e; cases e
theorem IF.of {e : Expr} {l : List It} {tg : Expr → Prop} (h : IE V k K ρ e l tg true false true) : IF V k K W ρ e l tg := fun A env s₀ s F g Fx =>
  wpAny_mono (h A env s F Fx.gi Fx.renv) (fun x s1 h1 => wpAny_mono h1 (fun it s2 h2 => by
    obtain ⟨sb, I, fp, wr, St, Mid, e, o1, o2, Wk, hst, hfp, _, hpf⟩ := h2
    exact ⟨sb, I, fp, wr, St, Mid, e, o1, o2, Wk, hst, hfp, fun b hb => Fx.notPl (hpf rfl b hb)⟩) fun _ _ x => x) fun _ _ x => x

inductive ForInv (V : Wo) (K : List (Str × NameKind)) (W : List Addr) (ρ : Vars) (N : Nat) (Inv : Nat → Vars → Prop) (env : Env) (s₀ s sb : Shared) (fp : List Addr) (St : Nat → Heap → Prop) (n : Nat) (s' : Shared) : Prop
  | mk (i : Nat) (ρi : Vars) (hn : n = N + 1 - i) (hi : i ≤ N) (hv : Inv i ρi) (hs : St i s'.heap) (hf : Fr V K env s₀ W ρi s') (hk : Kp V sb s') (hm : Mv V K env W ρ ρi s s') (hp : ∀ b ∈ fp, ¬ Pl K env W ρi b) (he : ∀ b ∈ fp, ∃ o, s'.heap.get? b = some o)
theorem St1.for {target iter : Expr} {body : List Stmt} {pos : Pos} {l : List It} {tg : Expr → Prop} (Inv : Nat → Vars → Prop) (hI : IF V k K W ρ iter l tg) (ht : tg target) (h0 : Inv 0 ρ)
    (hb : ∀ i x ρ1, l[i]? = some x → Inv i ρ1 → ∃ ρ2, FT K ρ1 target x ρ2 ∧ Bk V k K W ρ2 body (Inv (i + 1)) Φr)
    (hfold : ∀ env x, foldedSetIterable iter env x = pure x := by intro _ _; rfl) : St1 V k K W ρ (.For target iter body [] pos) (Inv l.length) Φr := fun A env s₀ s F g Fx => by
  refine wpAny_For (wpAny_mono (hI A env s₀ s F g Fx) (fun x s1 h1 => wpAny_mono h1 (fun it s2 h2 => ?_) fun _ _ x => x) fun _ _ x => x) (hfold env)
  obtain ⟨sb, I, fp, wr, St, Mid, rfl, o1, o2, Wk, hst, hfp, hpl⟩ := h2
  have hws : ∀ b ∈ wr, s.heap.get? b = none := fun b hb => o1.fresh (Wk.new b hb)
  have hw0 : ∀ b ∈ wr, s₀.heap.get? b = none := fun b hb => Fx.freshUp (hws b hb)
  refine codeAny_loop' rfl (ForInv V K W ρ l.length Inv env s₀ s sb fp St) ?_ (l.length + 1)
    ⟨0, ρ, rfl, Nat.zero_le _, h0, hst, Fx.after (o1.trans o2), o2.kp o1.gi, Mv.ok (o1.trans o2), hpl, fun b hb => (hfp b hb).1⟩
  rintro n s3 ⟨i, ρi, rfl, hi, hinv, hst, F3, kp, mv, hpl, hex⟩
  show wpAny _ A ((forTurn target (.ref I) body [] env).onRaise (fun x => do noteFrame x env; theTreesLotGoes x)) _ _ s3
  refine wpAny_noted ?_
  simp only [forTurn]
  have stepO : ∀ {s4}, Mv V K env W ρ ρi s s3 → Mo V wr s3 s4 → Mv V K env W ρ ρi s s4 := fun {s4} mv m => ⟨fun b o hn ht e => m.keep b o (fun h => by rw [hws b h] at e; cases e) ht (mv.keep b o hn ht e), mv.own⟩
  by_cases hlt : i < l.length
  · have hx : l[i]? = some l[i] := List.getElem?_eq_getElem hlt
    generalize l[i] = x at hx
    refine wpAny_bind (wpAny_standAt (wpAny_bind (wpAny_onRaise (wpAny_mono (Wk.next A i s3 x F kp hst hx) (fun r s4 h4 => ?_) fun _ _ f => f.elim))))
    obtain ⟨v, rfl, hv, hmid, m4⟩ := h4
    have nv3 := (Wk.nv rfl).1 i _ hst
    have F4 := F3.mods m4 hw0 (fun b hb => hpl b (Wk.sub b hb)) nv3
    have kp4 := kp.mo m4 fun b hb => (nv3 b hb).nt
    have nv4 := (Wk.nv rfl).2 i v _ hmid
    have ex4 : ∀ b ∈ fp, ∃ o, s4.heap.get? b = some o := fun b hb => if hw : b ∈ wr then (Wk.ex).2 i v _ hmid b hw else let ⟨o, e⟩ := hex b hb; m4.there b o hw e
    dsimp only
    refine wpAny_bind (wpAny_mono (Wk.go target A i v s4 F ht hmid kp4) (fun _ s5 h5 => ?_) fun _ _ f => f.elim)
    obtain ⟨hst5, m5, hv5⟩ := h5
    have F5 := F4.mods m5 hw0 (fun b hb => hpl b (Wk.sub b hb)) nv4
    have kp5 := kp4.mo m5 fun b hb => (nv4 b hb).nt
    have ex5 : ∀ b ∈ fp, ∃ o, s5.heap.get? b = some o := fun b hb => if hw : b ∈ wr then (Wk.ex).1 _ _ hst5 b hw else let ⟨o, e⟩ := ex4 b hb; m5.there b o hw e
    have mv5 : Mv V K env W ρ ρi s s5 := ⟨fun b o hn ht e => m5.keep b o (fun h => by rw [hws b h] at e; cases e) ht (m4.keep b o (fun h => by rw [hws b h] at e; cases e) ht (mv.keep b o hn ht e)), mv.own⟩
    obtain ⟨ρ2, hft, hbk⟩ := hb i x ρi hx hinv
    refine wpAny_bind (wpAny_mono (F5.asg F g hft (hv5 x hv)) (fun _ s6 h6 => ?_) fun _ _ f => f.elim)
    obtain ⟨F6, mv6⟩ := h6
    refine wpAny_bind (wpAny_mono (hbk A env s₀ s6 F g F6) (fun fl s7 h7 => ?_) fun _ _ f => f.elim)
    cases fl with
    | brk => exact h7.elim
    | cont => exact h7.elim
    | ret v => exact wpAny_pure h7
    | next =>
      obtain ⟨ρ3, hinv3, F7, mv7⟩ := h7
      have mv57 := mv6.trans mv7 F6.gi
      have kall : ∀ b o, b ∈ fp → s5.heap.get? b = some o → s7.heap.get? b = some o := fun b o hb e => mv57.keep b o (hpl b hb) (hfp b hb).2 e
      refine wpAny_pure (.inl ⟨rfl, _, ?_, i + 1, ρ3, rfl, hlt, hinv3, Wk.frame _ _ _ hst5 fun b hb o e => kall b o hb e, F7, ?_, mv5.trans mv57 F5.gi, ?_, ?_⟩)
      · (first | lia | omega)
      · refine ⟨F7.gi, fun x v hx => ?_⟩
        refine It.keeps (fun b o hd hc e => mv57.keep b o (fun hp => ?_) (F5.gi.notTabC e (by rw [hc]; nofun)) e) (kp5.it x v hx)
        obtain ⟨vs, n, hd⟩ := hd
        rcases hp with rfl | ⟨y, hy, hcl⟩ | hw | ⟨y, q, hy, ha⟩
        · obtain ⟨m, o', es, ep, e', d, _⟩ := F5.loc
          rw [e] at e'; cases e'; rw [d] at hd; cases hd
        · obtain ⟨c, hc', _, u, o', e', d⟩ := F5.cellN y hy
          rw [hcl] at hc'; cases hc'
          rw [e] at e'; cases e'; rw [d] at hd; cases hd
        · obtain ⟨_, o', e', c, _⟩ := F5.wex b hw
          rw [e] at e'; cases e'; exact c hc
        · obtain ⟨u, _, hq⟩ := F5.vars hy
          obtain ⟨_, o', _, _, e', _, ht, _⟩ := PV.addr_is ha hq
          rw [e] at e'; cases e'; exact ht hc
      · intro b hb hp
        obtain ⟨o, e⟩ := ex5 b hb
        rcases hp with h | h | h | ⟨y, q, hy, ha⟩
        · exact hpl b hb (.inl h)
        · exact hpl b hb (.inr (.inl h))
        · exact hpl b hb (.inr (.inr (.inl h)))
        · rcases mv57.own y q b hy ha with h | h
          · exact hpl b hb h
          · rw [e] at h; cases h
      · intro b hb
        obtain ⟨o, e⟩ := ex5 b hb
        exact ⟨o, kall b o hb e⟩
  · have hil : i = l.length := by (first | lia | omega)
    subst hil
    refine wpAny_bind (wpAny_standAt (wpAny_bind (wpAny_onRaise (wpAny_mono (Wk.done A s3 F kp hst) (fun r s4 h4 => ?_) fun _ _ f => f.elim))))
    obtain ⟨rfl, m4⟩ := h4
    have nv3 := (Wk.nv rfl).1 _ _ hst
    have F4 := F3.mods m4 hw0 (fun b hb => hpl b (Wk.sub b hb)) nv3
    exact wpAny_pure (.inr ⟨rfl, codeAny_block (wpAny_execs_nil ⟨ρi, hinv, F4, stepO mv m4⟩)⟩)
end
end
section
open PySem PySem.Calls PyProof.Rows PySem.W

section
variable {V : Wo} {k : Nat} {K : List (Str × NameKind)} {env : Env} {s₀ s s' : Shared} {W : List Addr} {ρ ρ' : Vars} {Φn Φm : Vars → Prop} {Φr : Vars → PV → Prop}

theorem St1.while {test : Expr} {body : List Stmt} {pos : Pos} (Inv : Nat → Vars → Prop) (n0 : Nat) (h0 : Inv n0 ρ)
    (hb : ∀ n ρ1, Inv n ρ1 → ∃ b, ET V k K ρ1 test b ∧ (b = true → ∃ m, m < n ∧ Bk V k K W ρ1 body (Inv m) Φr) ∧ (b = false → Φn ρ1)) : St1 V k K W ρ (.While test body [] pos) Φn Φr := fun A env s₀ s F g Fx => by
  refine wpAny_While ?_
  refine codeAny_whileLoop (fun n s' => ∃ ρi, Inv n ρi ∧ Fr V K env s₀ W ρi s' ∧ Mv V K env W ρ ρi s s') ?_ n0 ⟨ρ, h0, Fx, .refl⟩
  rintro n s1 ⟨ρi, hi, F1, mv⟩
  obtain ⟨b, ht, h1, h2⟩ := hb n ρi hi
  refine wpAny_mono (ht A env s1 F F1.gi F1.renv) (fun c s2 h => ?_) fun _ _ x => x.elim
  obtain ⟨rfl, o⟩ := h
  cases c with
  | false => exact wpAny_execs_nil ⟨ρi, h2 rfl, F1.after o, mv.trans (Mv.ok o) F1.gi⟩
  | true =>
    obtain ⟨m, hm, hbk⟩ := h1 rfl
    refine wpAny_mono (hbk A env s₀ s2 F g (F1.after o)) (fun fl s3 h3 => ?_) fun _ _ x => x.elim
    cases fl with
    | brk => exact h3.elim
    | cont => exact h3.elim
    | ret v => exact h3
    | next =>
      obtain ⟨ρ3, h4, F3, mv3⟩ := h3
      exact ⟨m, hm, ρ3, h4, F3, (mv.trans (Mv.ok o) F1.gi).trans mv3 o.gi⟩

theorem St1.comp {scope : Scope} {l : List It} {tg : Expr → Prop} {q : Bool} {target : Expr} {ifs : List Expr} {inner : Env → Value → Sem Unit} {f : It → List It}
    {elt i1 : Expr} {rest : List Comprehension} {pos spos py : Pos} {innerK : Env → Value → Sem Fin → Sem Fin} {p : Pos} {y : Str}
    (hturn : ∀ it acc env, compTurn (.ListComp elt (⟨target, i1, ifs, 0⟩ :: rest) scope pos) 0 it acc env = turnOf p target ifs innerK (.compLoop (.ListComp elt (⟨target, i1, ifs, 0⟩ :: rest) scope pos) 0 it acc env) it acc env)
    (hinner : ∀ (A : Around) (env : Env) (acc : Value) (kk : Sem Fin) (Q : Fin → Shared → Prop) (E : Value → Shared → Prop) (s : Shared), wpAny (model PySem.Challenge.pw_wz0006_01 V.w) A (inner env acc) (fun _ s' => wpAny (model PySem.Challenge.pw_wz0006_01 V.w) A kk Q E s') E s → wpAny (model PySem.Challenge.pw_wz0006_01 V.w) A (innerK env acc kk) Q E s)
    (hy : Mine K y) (hs : ScOk K scope ρ) (hI : IE V k K ρ i1 l tg q false false) (ht : tg target) (hT : ∀ x ∈ l, Tn V k (relab K scope) (inC scope ρ) target ifs inner [] x (f x))
    (hk : q = true ∨ ∀ x ∈ l, ∀ z ∈ f x, ∃ a, z = .at a) (hsz : (l.flatMap f).length ≤ 1000000) (hfold : ∀ env x, foldedSetIterable i1 env x = pure x := by intro _ _; rfl) :
    St1 V k K W ρ (.Assign [.Name y py] (.ListComp elt (⟨target, i1, ifs, 0⟩ :: rest) scope pos) spos) (fun ρ' => ρ' = up ρ y (.list (l.flatMap f))) Φr := fun A env s₀ s F g Fx => by
  have hE : EV V k true K ρ (.ListComp elt (⟨target, i1, ifs, 0⟩ :: rest) scope pos) (.list (l.flatMap f)) := EV.comp hturn hinner hs hI ht hT hk hsz hfold
  have hsw : ∃ b, swapsWith (.ListComp elt (⟨target, i1, ifs, 0⟩ :: rest) scope pos) (some (.Name y py)) spos.line env = pure b := ⟨_, rfl⟩
  obtain ⟨b, hsw⟩ := hsw
  cases b with
  | false =>
    refine wpAny_Assign_Name (wpAny_mono (hE A env s F Fx.gi Fx.renv) (fun v s1 h1 => by
      obtain ⟨o, hv, hf⟩ := h1
      obtain ⟨a, rfl⟩ := PV.list_ref hv
      exact wpAny_mono ((Fx.after o).storeNew g Fx o (hf rfl a (by first | exact ns rfl | exact nIt rfl | exact nAcc rfl | nofun) rfl) hy hv (.inl rfl)) (fun _ s2 h2 => by
        obtain ⟨h2, b, hb, hbl⟩ := h2
        exact ⟨_, rfl, h2, (Mv.ok o).trans (Mv.at1 hb hbl (by first | exact ns rfl | exact nIt rfl | exact nAcc rfl | nofun)) o.gi⟩) fun _ _ x => x) fun _ _ x => x) hsw
  | true =>
    obtain ⟨cl, hclos, hcl⟩ := closure_ok Fx.renv hs
    rw [exec_Assign_Name_used _ _ _ _ hsw]
    refine wpAny_bind (wpAny_standAt (wpAny_bind ?_))
    show wpAny _ A (do let _ ← comprehension (.ListComp elt (⟨target, i1, ifs, 0⟩ :: rest) scope pos) scope env _ (newList []) false (eval i1 env) (some (PySem.assign (.Name y py) env))) _ _ s
    refine wpAny_bind (wpAny_mono (wpAny_comprehension_free (use := some (PySem.assign (.Name y py) env)) (Q := fun _ s' => Out V K env s₀ W ρ s (fun ρ' => ρ' = up ρ y (.list (l.flatMap f))) Φr .next s') rfl (hfold env) hclos hs.kind hs.loc
      (wpAny_mono (hI A env s F Fx.gi Fx.renv) (fun xv s₁ h₁ => wpAny_mono h₁ (fun it s₂ h₂ => ?_) fun _ _ e => e) fun _ _ e => e)) (fun _ s' hq => wpAny_pure (wpAny_pure hq)) fun _ _ e => e)
    refine block (RR := fun acc C => compPost (model PySem.Challenge.pw_wz0006_01 V.w) A No (some (PySem.assign (.Name y py) env)) (fun _ s' => Out V K env s₀ W ρ s (fun ρ' => ρ' = up ρ y (.list (l.flatMap f))) Φr .next s') acc C) rfl hturn (hinner A) F Fx.gi Fx.renv hs hcl h₂ ht hT hk hsz fun acc C s' hm => ?_
    obtain ⟨D, ys, n, rfl, hD, hC, hDC, ⟨m, hn⟩, hl, hi, o⟩ := hm
    show wpAny _ A (PySem.assign (.Name y py) env (.ref D)) _ _ _
    have F1 := Fx.after o
    refine wpAny_assign_Name (wpAny_mono (F1.storeNew g Fx o hD hy (p := .list (l.flatMap f)) ⟨D, ys, n, rfl, hl, hi⟩ (.inl rfl)) (fun _ s2 h2 => ?_) fun _ _ x => x)
    obtain ⟨F2, b, hb, hbl⟩ := h2
    have hbC : C ≠ b := by
      rintro rfl
      rcases hbl with e | ⟨hk, e⟩
      · obtain ⟨m', o', _, _, e', _⟩ := Fx.loc; rw [← e, hC] at e'; cases e'
      · obtain ⟨c, hc, _, u, o', e', _⟩ := Fx.cellN y hk
        rw [e] at hc; cases hc; rw [hC] at e'; cases e'
    have hn2 : s2.heap.Ns C m := let ⟨o', es, ep, e, r⟩ := hn; ⟨o', es, ep, hb.keep C o' hbC e, r⟩
    refine ⟨m, hn2, fun h' hs' => ?_⟩
    have hCd : ∀ o', s2.heap.get? C = some o' → ∃ es ep, o'.data = .dict es ep := fun o' e => by
      obtain ⟨o2, es, ep, e', d, _⟩ := hn2
      rw [e] at e'; cases e'; exact ⟨es, ep, d⟩
    have hCL : env.locals ≠ C := by
      rintro rfl
      obtain ⟨m', o', _, _, e', _⟩ := Fx.loc; rw [hC] at e'; cases e'
    have F3 : Fr V K env s₀ W (up ρ y (.list (l.flatMap f))) { s2 with heap := h' } := by
      refine F2.mod (b := C) ⟨fun c o' hc e => hs'.extBut c o' hc e, rfl, rfl⟩ ⟨g.noH0 (Fx.freshUp hC), fun o' e => .inr fun vs h => ?_⟩ (Fx.freshUp hC) hCL (fun o' e vs n h => ?_) (fun o' e v h => ?_) (fun z a d f' l' hz => ?_)
      · obtain ⟨es, ep, d⟩ := hCd o' e; rw [d] at h; cases h
      · obtain ⟨es, ep, d⟩ := hCd o' e; rw [d] at h; cases h
      · obtain ⟨es, ep, d⟩ := hCd o' e; rw [d] at h; cases h
      · unfold up at hz
        by_cases e : z = y
        · rw [if_pos e] at hz; cases hz
        · rw [if_neg e] at hz
          rintro rfl
          obtain ⟨u, _, hq⟩ := Fx.vars hz
          obtain ⟨vs, n, es, m, t, _, _, _, hd, _⟩ := hq
          rw [hC] at hd; cases hd
    refine ⟨_, rfl, F3, ?_⟩
    have m1 := (Mv.ok (W := W) (K := K) (env := env) (ρ := ρ) o).trans (ρ2 := up ρ y (.list (l.flatMap f))) (Mv.at1 hb hbl (by first | exact ns rfl | exact nIt rfl | exact nAcc rfl | nofun)) o.gi
    exact ⟨fun c o' hc ht e => hs'.extBut c o' (fun h => by rw [h, hC] at e; cases e) (m1.keep c o' hc ht e), m1.own⟩
end
end
section
open PySem PySem.Calls PyProof.Rows PySem.W

noncomputable def ini (names : List Str) (ps : List PV) : Vars := fun x => (names.zip ps).lookup x
theorem cellsFrom_has {x : Str} : ∀ (names : List (Str × NameKind)) (n : Nat) (acc : List (Str × Addr)), ((x, NameKind.cell) ∈ names ∨ (acc.lookup x).isSome = true) → ((cellsFrom n names acc).lookup x).isSome = true
  | [], _, _, h => h.elim (fun h => nomatch h) id
  | (name, kind) :: r, n, acc, h => by
    unfold cellsFrom
    by_cases hk : kind = .cell
    · subst hk
      refine cellsFrom_has r _ _ ?_
      by_cases hx : (x == name) = true
      · exact .inr (by rw [List.lookup_cons, hx]; rfl)
      · rcases h with h | h
        · rcases List.mem_cons.mp h with e | h
          · cases e; simp at hx
          · exact .inl h
        · exact .inr (by rw [List.lookup_cons, show (x == name) = false by simpa using hx]; exact h)
    · rw [show (kind == NameKind.cell) = false by simpa using hk]
      refine cellsFrom_has r _ _ ?_
      rcases h with h | h
      · rcases List.mem_cons.mp h with e | h
        · cases e; exact absurd rfl hk
        · exact .inl h
      · exact .inr h
section
variable {kindOf : Str → Option NameKind}
theorem bindL_not {x : Str} : ∀ (binds : List (Str × Value)) (m : Str → Option Value), (∀ v, (x, v) ∉ binds) → bindL kindOf binds m x = m x
  | [], _, _ => rfl
  | (n, v) :: r, m, h => by
    unfold bindL
    rw [bindL_not r _ fun u hu => h u (List.mem_cons_of_mem _ hu)]
    split
    · have : x ≠ n := by rintro rfl; exact h v List.mem_cons_self
      simp [this]
    · rfl
theorem bindC_not {x : Str} : ∀ (binds : List (Str × Value)) (m : Str → Option Value), (∀ v, (x, v) ∉ binds) → bindC kindOf binds m x = m x
  | [], _, _ => rfl
  | (n, v) :: r, m, h => by
    unfold bindC
    rw [bindC_not r _ fun u hu => h u (List.mem_cons_of_mem _ hu)]
    split
    · rfl
    · have : x ≠ n := by rintro rfl; exact h v List.mem_cons_self
      simp [this]
theorem bindL_at {x : Str} {v : Value} (hk : kindOf x = some .local) : ∀ (binds : List (Str × Value)) (m : Str → Option Value), (binds.map (·.1)).Nodup → (x, v) ∈ binds → bindL kindOf binds m x = some v
  | [], _, _, h => nomatch h
  | (n, u) :: r, m, hd, h => by
    obtain ⟨h1, h2⟩ := List.nodup_cons.mp hd
    unfold bindL
    rcases List.mem_cons.mp h with e | h
    · cases e
      rw [bindL_not r _ fun w hw => h1 (List.mem_map.mpr ⟨_, hw, rfl⟩), if_pos hk]
      simp
    · exact bindL_at hk r _ h2 h
theorem bindC_at {x : Str} {v : Value} (hk : kindOf x ≠ some .local) : ∀ (binds : List (Str × Value)) (m : Str → Option Value), (binds.map (·.1)).Nodup → (x, v) ∈ binds → bindC kindOf binds m x = some v
  | [], _, _, h => nomatch h
  | (n, u) :: r, m, hd, h => by
    obtain ⟨h1, h2⟩ := List.nodup_cons.mp hd
    unfold bindC
    rcases List.mem_cons.mp h with e | h
    · cases e
      rw [bindC_not r _ fun w hw => h1 (List.mem_map.mpr ⟨_, hw, rfl⟩), if_neg hk]
      simp
    · exact bindC_at hk r _ h2 h
end
theorem zip_mem {h : Heap} {x : Str} {p : PV} : ∀ {names : List Str} {ps : List PV} {vs : List Value}, PVs h ps vs → (names.zip ps).lookup x = some p → ∃ v, (x, v) ∈ names.zip vs ∧ p.is h v
  | [], ps, vs, _, e => by cases e
  | n :: r, [], vs, _, e => by cases e
  | n :: r, q :: ps, _, ⟨v, t, rfl, hv, ht⟩, e => by
    rw [List.zip_cons_cons, List.lookup_cons] at e
    by_cases hx : (x == n) = true
    · rw [hx] at e; cases e
      rw [beq_iff_eq.mp hx]
      exact ⟨v, List.mem_cons_self, hv⟩
    · rw [show (x == n) = false by simpa using hx] at e
      obtain ⟨u, hu, hp⟩ := zip_mem ht e
      exact ⟨u, List.mem_cons_of_mem _ hu, hp⟩
theorem PVs.length {h : Heap} : ∀ {ps : List PV} {vs : List Value}, PVs h ps vs → vs.length = ps.length
  | [], _, e => by rw [show _ = [] from e]; rfl
  | _ :: _, _, ⟨v, t, e, _, ht⟩ => by rw [e, List.length_cons, List.length_cons, PVs.length ht]

noncomputable def simple (ps : List Arg) : Arguments := ⟨[], ps, none, [], [], none, []⟩
theorem one_of {vs : List Value} (h : vs.length = 1) : ∃ v, vs = [v] := List.length_eq_one_iff.mp h
theorem two_of {vs : List Value} (h : vs.length = 2) : ∃ v u, vs = [v, u] := by
  cases vs with
  | nil => cases h
  | cons v t => obtain ⟨u, rfl⟩ := one_of (Nat.succ.inj h); exact ⟨v, u, rfl⟩
theorem three_of {vs : List Value} (h : vs.length = 3) : ∃ v u w, vs = [v, u, w] := by
  cases vs with
  | nil => cases h
  | cons v t => obtain ⟨u, w, rfl⟩ := two_of (Nat.succ.inj h); exact ⟨v, u, w, rfl⟩
theorem bind1 {fd : FuncData} {a : Arg} {v : Value} (hp : fd.params = simple [a]) (hd : fd.defaults = .none) :
    bindArgs fd ⟨[v], []⟩ = pure [(a.arg, v)] := by
  have l0 : List.lookup a.arg [(a.arg, v)] = some v := by rw [List.lookup_cons, beq_self_eq_true]
  have hm : ([a.arg].filter fun n => (List.lookup n [(a.arg, v)]).isNone) = [] := by
    rw [List.filter_cons, l0]; rfl
  have hn : ([a.arg].filterMap fun n => (List.lookup n [(a.arg, v)]).map (n, ·)) = [(a.arg, v)] := by
    rw [List.filterMap_cons, l0]; rfl
  rw [← hn]
  generalize hN : ([a.arg].filterMap fun n => (List.lookup n [(a.arg, v)]).map (n, ·)) = N
  unfold bindArgs
  rw [hp, hd]
  show (if (!([a.arg].filter fun n => (List.lookup n [(a.arg, v)]).isNone).isEmpty) = true then _ else _) = _
  rw [hm, ← hN]
  rfl
theorem bind2 {fd : FuncData} {a b : Arg} {v u : Value} (hp : fd.params = simple [a, b]) (hd : fd.defaults = .none) (hab : (b.arg == a.arg) = false) :
    bindArgs fd ⟨[v, u], []⟩ = pure [(a.arg, v), (b.arg, u)] := by
  have l0 : List.lookup a.arg [(a.arg, v), (b.arg, u)] = some v := by rw [List.lookup_cons, beq_self_eq_true]
  have l1 : List.lookup b.arg [(a.arg, v), (b.arg, u)] = some u := by rw [List.lookup_cons, hab, List.lookup_cons, beq_self_eq_true]
  have hm : ([a.arg, b.arg].filter fun n => (List.lookup n [(a.arg, v), (b.arg, u)]).isNone) = [] := by
    rw [List.filter_cons, l0, List.filter_cons, l1]; rfl
  have hn : ([a.arg, b.arg].filterMap fun n => (List.lookup n [(a.arg, v), (b.arg, u)]).map (n, ·)) = [(a.arg, v), (b.arg, u)] := by
    rw [List.filterMap_cons, l0, List.filterMap_cons, l1]; rfl
  rw [← hn]
  generalize hN : ([a.arg, b.arg].filterMap fun n => (List.lookup n [(a.arg, v), (b.arg, u)]).map (n, ·)) = N
  unfold bindArgs
  rw [hp, hd]
  show (if (!([a.arg, b.arg].filter fun n => (List.lookup n [(a.arg, v), (b.arg, u)]).isNone).isEmpty) = true then _ else _) = _
  rw [hm, ← hN]
  rfl
theorem bind3 {fd : FuncData} {a b c : Arg} {v u w : Value} (hp : fd.params = simple [a, b, c]) (hd : fd.defaults = .none) (hab : (b.arg == a.arg) = false) (hac : (c.arg == a.arg) = false) (hbc : (c.arg == b.arg) = false) :
    bindArgs fd ⟨[v, u, w], []⟩ = pure [(a.arg, v), (b.arg, u), (c.arg, w)] := by
  have l0 : List.lookup a.arg [(a.arg, v), (b.arg, u), (c.arg, w)] = some v := by rw [List.lookup_cons, beq_self_eq_true]
  have l1 : List.lookup b.arg [(a.arg, v), (b.arg, u), (c.arg, w)] = some u := by rw [List.lookup_cons, hab, List.lookup_cons, beq_self_eq_true]
  have l2 : List.lookup c.arg [(a.arg, v), (b.arg, u), (c.arg, w)] = some w := by rw [List.lookup_cons, hac, List.lookup_cons, hbc, List.lookup_cons, beq_self_eq_true]
  have hm : ([a.arg, b.arg, c.arg].filter fun n => (List.lookup n [(a.arg, v), (b.arg, u), (c.arg, w)]).isNone) = [] := by
    rw [List.filter_cons, l0, List.filter_cons, l1, List.filter_cons, l2]; rfl
  have hn : ([a.arg, b.arg, c.arg].filterMap fun n => (List.lookup n [(a.arg, v), (b.arg, u), (c.arg, w)]).map (n, ·)) = [(a.arg, v), (b.arg, u), (c.arg, w)] := by
    rw [List.filterMap_cons, l0, List.filterMap_cons, l1, List.filterMap_cons, l2]; rfl
  rw [← hn]
  generalize hN : ([a.arg, b.arg, c.arg].filterMap fun n => (List.lookup n [(a.arg, v), (b.arg, u), (c.arg, w)]).map (n, ·)) = N
  unfold bindArgs
  rw [hp, hd]
  show (if (!([a.arg, b.arg, c.arg].filter fun n => (List.lookup n [(a.arg, v), (b.arg, u), (c.arg, w)]).isNone).isEmpty) = true then _ else _) = _
  rw [hm, ← hN]
  rfl

section
variable {V : Wo} {k : Nat} {s s1 : Shared} {ps : List PV} {vs : List Value} {names : List Str} {fd : FuncData} {a : Addr}
theorem Fr.enter (g : GI V s) (hk : fd.scope.kind = .function) (hg : fd.globals = mainGlobals) (hb : fd.builtins = builtinsNs) (hnd : names.Nodup) (hlen : names.length = vs.length) (hm : ∀ x ∈ names, Mine fd.scope.names x) (hp : PVs s.heap ps vs)
    (hac : ∀ x p a, ini names ps x = some p → p.addr ≠ some a)
    (x : InCallC s (callEnvC fd s.heap.objs.size a).locals (bindL (callEnvC fd s.heap.objs.size a).kindOf (names.zip vs) fun _ => none) (callEnvC fd s.heap.objs.size a).cells (bindC (callEnvC fd s.heap.objs.size a).kindOf (names.zip vs) fun _ => none) s1) :
    Fr V fd.scope.names (callEnvC fd s.heap.objs.size a) s [] (ini names ps) s1 := by
  have o1 : Ok V s s1 := by
    obtain ⟨h, tk, rfl⟩ := x.toInCall.same
    exact Ok.grow g x.toInCall.keep
  have hL : s.heap.get? (callEnvC fd s.heap.objs.size a).locals = none := fresh_none x.toInCall.fresh
  have hnm : ((names.zip vs).map (·.1)).Nodup := by
    have : (names.zip vs).map (·.1) = names := by rw [List.map_fst_zip]; (first | lia | omega)
    rw [this]; exact hnd
  refine ⟨o1.mo, ⟨hk, rfl, hg, hb, fun y p hy => ?_⟩, hL, ⟨_, x.toInCall.ns⟩, fun y hy => ?_, fun y z c hc hc' => name_of_addr x.apart (mem_of_lookup hc) (mem_of_lookup hc'), fun y b d f l hy => absurd rfl (hac y _ b hy), fun y p b hy hb => absurd hb (hac y p b hy), fun y z p q b hy hz hpb => absurd hpb (hac y p b hy), fun y p b hy hpb => absurd hpb (hac y p b hy), fun b hb => (by cases hb)⟩
  · obtain ⟨v, hv, hpv⟩ := zip_mem hp hy
    have hyn : y ∈ names := (List.of_mem_zip hv).1
    refine ⟨v, ?_, o1.pv g hpv⟩
    rcases hm y hyn with hl | hl
    · have hk' : (callEnvC fd s.heap.objs.size a).kindOf y = some .local := hl
      exact .inl ⟨hk', _, x.toInCall.ns, bindL_at hk' _ _ hnm hv⟩
    · have hk' : (callEnvC fd s.heap.objs.size a).kindOf y = some .cell := hl
      have hc := cellsFrom_has (x := y) fd.scope.names (s.heap.objs.size + 1) [] (.inl (mem_of_lookup hl))
      obtain ⟨c, hc⟩ := Option.isSome_iff_exists.mp hc
      have hcell := x.cell y c hc
      rw [bindC_at (by rw [hk']; decide) _ _ hnm hv] at hcell
      exact .inr ⟨.inl hk', c, hc, hcell⟩
  · have hc := cellsFrom_has (x := y) fd.scope.names (s.heap.objs.size + 1) [] (.inl (mem_of_lookup hy))
    obtain ⟨c, hc⟩ := Option.isSome_iff_exists.mp hc
    refine ⟨c, hc, fresh_none ?_, _, x.cell y c hc⟩
    have := x.above y c (mem_of_lookup hc)
    have h2 := x.toInCall.fresh
    exact Nat.le_of_lt (Nat.lt_of_le_of_lt h2 this)

theorem Mo.ok {s s' : Shared} (m : Mo V [] s s') : Ok V s s' := ⟨fun b o h e => m.keep b o (fun h => (by cases h)) h e, fun b o e => m.there b o (fun h => (by cases h)) e, m.os, m.gi⟩
theorem Cl.fnE {sr : Option (Arguments × List Stmt × Scope)} {n q : Str} {c : Addr} {params : Arguments} {body : List Stmt} {scope : Scope} {r : PV} (h : FnAt V.h0 sr n q a c [] .none) (hsr : sr = some (params, body, scope)) (hnd : names.Nodup) (hlen : names.length = ps.length)
    (hm : ∀ x ∈ names, Mine scope.names x) (hac : ∀ x p a, ini names ps x = some p → p.addr ≠ some a)
    (hbind : ∀ fd : FuncData, fd.params = params → fd.defaults = .none → ∀ vs : List Value, vs.length = ps.length → bindArgs fd ⟨vs, []⟩ = pure (names.zip vs))
    (hbody : ∀ (A : Around) (env : Env) (s₀ s : Shared), Fit A k → GI V s₀ → Fr V scope.names env s₀ [] (ini names ps) s → env.code = .ref c → env.qual = q ++ ".<locals>." →
      wpAny (model PySem.Challenge.pw_wz0006_01 V.w) A (execs body env) (Out V scope.names env s₀ [] (ini names ps) s (fun _ => False) (fun _ p => p = r)) No s)
    (hk : scope.kind = .function := by rfl) (hco : scope.isCoroutine = false := by rfl) (hgen : scope.isGenerator = false := by rfl) : Cl V (k + 1) (.ref a) ps r := fun A s vs F g hp => by
  obtain ⟨fd, ho, hn, hq, hs, ⟨b, hb⟩, hcl, hgl, hbl, hdf, hkd, hcode⟩ := h.obj
  have e := hsr.symm.trans hs
  simp only [Option.some.injEq, Prod.mk.injEq] at e
  obtain ⟨ep, eb, es⟩ := e
  rw [hb] at eb
  have eb : body = b := eb
  subst eb
  refine wpAny_call (codeAny_call_cells F.room (g.keep _ _ ho) rfl (g.ok.nolimit.keeps g.keep) ((by rw [hcode, hq]; exact h.code.keeps g.keep)) hb (hbind fd ep.symm hdf vs hp.length) hcl (fun x hx => ?_) (fun s₁ hs₁ => ?_) (es ▸ hco) (es ▸ hgen) (es ▸ hk))
  · have hxn := (List.of_mem_zip (a := x.1) (b := x.2) hx).1
    rw [← es]
    rcases hm x.1 hxn with h' | h'
    · exact .inl h'
    · exact .inr ⟨h', cellsFrom_has _ _ _ (.inl (mem_of_lookup h'))⟩
  · have Fx := Fr.enter g (es ▸ hk) hgl hbl hnd (by rw [hlen, hp.length]) (by rw [← es]; exact hm) hp hac hs₁
    rw [← es] at Fx
    refine wpAny_mono (hbody (A.deeper (callEnvC fd s.heap.objs.size a)) _ s s₁ (F.deeper _) g Fx hcode (by rw [← hq]; rfl)) (fun fl s' x => ?_) fun _ _ x => x.elim
    cases fl with
    | next => obtain ⟨_, h, _⟩ := x; exact h.elim
    | brk => exact x.elim
    | cont => exact x.elim
    | ret v =>
      obtain ⟨ρ', p, rfl, F', hp', hf⟩ := x
      exact ⟨F'.mo.ok, hp', fun _ => hf⟩
theorem Cl.fn {sr : Option (Arguments × List Stmt × Scope)} {n q : Str} {c : Addr} {params : Arguments} {body : List Stmt} {scope : Scope} {r : PV} (h : FnAt V.h0 sr n q a c [] .none) (hsr : sr = some (params, body, scope)) (hnd : names.Nodup) (hlen : names.length = ps.length)
    (hm : ∀ x ∈ names, Mine scope.names x) (hac : ∀ x p a, ini names ps x = some p → p.addr ≠ some a)
    (hbind : ∀ fd : FuncData, fd.params = params → fd.defaults = .none → ∀ vs : List Value, vs.length = ps.length → bindArgs fd ⟨vs, []⟩ = pure (names.zip vs))
    (hbody : Bk V k scope.names [] (ini names ps) body (fun _ => False) (fun _ p => p = r))
    (hk : scope.kind = .function := by rfl) (hco : scope.isCoroutine = false := by rfl) (hgen : scope.isGenerator = false := by rfl) : Cl V (k + 1) (.ref a) ps r :=
  Cl.fnE h hsr hnd hlen hm hac hbind (fun A env s₀ s F g Fx _ _ => hbody A env s₀ s F g Fx) hk hco hgen
theorem mineAll {K : List (Str × NameKind)} {names : List Str} (h : (names.all fun x => K.lookup x == some .local || K.lookup x == some .cell) = true) : ∀ x ∈ names, Mine K x := fun x hx => by
  have := List.all_eq_true.mp h x hx
  simpa [Mine] using this
theorem ini_addr {names : List Str} {ps : List PV} (h : ∀ p ∈ ps, p.addr = none) : ∀ x p a, ini names ps x = some p → p.addr ≠ some a := fun x p a hx => by
  rw [h p (List.of_mem_zip (mem_of_lookup hx)).2]; nofun
theorem Cl.fn1 {sr : Option (Arguments × List Stmt × Scope)} {n q : Str} {c : Addr} {b : Arg} {body : List Stmt} {scope : Scope} {p r : PV} (h : FnAt V.h0 sr n q a c [] .none) (hsr : sr = some (simple [b], body, scope)) (hb : Mine scope.names b.arg) (hp : p.addr = none)
    (hbody : Bk V k scope.names [] (ini [b.arg] [p]) body (fun _ => False) (fun _ p => p = r))
    (hk : scope.kind = .function := by rfl) (hco : scope.isCoroutine = false := by rfl) (hgen : scope.isGenerator = false := by rfl) : Cl V (k + 1) (.ref a) [p] r :=
  Cl.fn (names := [b.arg]) h hsr (by simp) rfl (by simpa using hb) (ini_addr (by simpa using hp)) (fun fd hp hd vs hl => by
    obtain ⟨v, rfl⟩ := one_of hl
    exact bind1 hp hd) hbody hk hco hgen
theorem Cl.fn2 {sr : Option (Arguments × List Stmt × Scope)} {n q : Str} {c : Addr} {b d : Arg} {body : List Stmt} {scope : Scope} {p1 p2 r : PV} (h : FnAt V.h0 sr n q a c [] .none) (hsr : sr = some (simple [b, d], body, scope)) (hb : Mine scope.names b.arg) (hd : Mine scope.names d.arg) (hbd : (d.arg == b.arg) = false) (hp1 : p1.addr = none) (hp2 : p2.addr = none)
    (hbody : Bk V k scope.names [] (ini [b.arg, d.arg] [p1, p2]) body (fun _ => False) (fun _ p => p = r))
    (hk : scope.kind = .function := by rfl) (hco : scope.isCoroutine = false := by rfl) (hgen : scope.isGenerator = false := by rfl) : Cl V (k + 1) (.ref a) [p1, p2] r :=
  Cl.fn (names := [b.arg, d.arg]) h hsr (by simp; intro e; rw [e] at hbd; simp at hbd) rfl (by simp; exact ⟨hb, hd⟩) (ini_addr (by simp; exact ⟨hp1, hp2⟩)) (fun fd hp hdf vs hl => by
    obtain ⟨v, u, rfl⟩ := two_of hl
    exact bind2 hp hdf hbd) hbody hk hco hgen
theorem Cl.fn3 {sr : Option (Arguments × List Stmt × Scope)} {n q : Str} {c : Addr} {b d e : Arg} {body : List Stmt} {scope : Scope} {p1 p2 p3 r : PV} (h : FnAt V.h0 sr n q a c [] .none) (hsr : sr = some (simple [b, d, e], body, scope)) (hb : Mine scope.names b.arg) (hd : Mine scope.names d.arg) (he : Mine scope.names e.arg) (hbd : (d.arg == b.arg) = false) (hbe : (e.arg == b.arg) = false) (hde : (e.arg == d.arg) = false)
    (hp1 : p1.addr = none) (hp2 : p2.addr = none) (hp3 : p3.addr = none)
    (hbody : Bk V k scope.names [] (ini [b.arg, d.arg, e.arg] [p1, p2, p3]) body (fun _ => False) (fun _ p => p = r))
    (hk : scope.kind = .function := by rfl) (hco : scope.isCoroutine = false := by rfl) (hgen : scope.isGenerator = false := by rfl) : Cl V (k + 1) (.ref a) [p1, p2, p3] r :=
  Cl.fn (names := [b.arg, d.arg, e.arg]) h hsr (by
    have h1 : b.arg ≠ d.arg := fun e => by rw [e] at hbd; simp at hbd
    have h2 : b.arg ≠ e.arg := fun e => by rw [e] at hbe; simp at hbe
    have h3 : d.arg ≠ e.arg := fun e => by rw [e] at hde; simp at hde
    simp [h1, h2, h3]) rfl (by simp; exact ⟨hb, hd, he⟩) (ini_addr (by simp; exact ⟨hp1, hp2, hp3⟩)) (fun fd hp hdf vs hl => by
    obtain ⟨v, u, w, rfl⟩ := three_of hl
    exact bind3 hp hdf hbd hbe hde) hbody hk hco hgen
end
end
local macro_rules | `(tactic| trivial) => `(tactic| first | exact EV.int | exact EV.nameIt rfl | exact EV.name rfl | exact EV.str rfl | exact EV.none | (exact EV.nameIt (by assumption)) | exact EV.bytes)
section
open PySem PySem.Calls PyProof.Rows PySem.W

noncomputable def srcN (i : Nat) : Option (Arguments × List Stmt × Scope) := match prog.main.body[i]? with
  | some (.FunctionDef _ args body _ _ _ scope _ _ _) => some (args, body, scope)
  | _ => none
noncomputable def bodyN (i : Nat) : List Stmt := match prog.main.body[i]? with
  | some (.FunctionDef _ _ body _ _ _ _ _ _ _) => body
  | _ => []
noncomputable def namesN (i : Nat) : List (Str × NameKind) := match prog.main.body[i]? with
  | some (.FunctionDef _ _ _ _ _ _ scope _ _ _) => scope.names
  | _ => []
noncomputable def FnOk (V : Wo) (x : Str) (i : Nat) (a c : Addr) : Prop := Gl V x (.ref a) ∧ FnAt V.h0 (srcN i) x x a c [] .none

structure Facts (V : Wo) : Prop where
  len : Gl V "len" (.builtin "len")
  sum : Gl V "sum" (.builtin "sum")
  ord : Gl V "ord" (.builtin "ord")
  max : Gl V "max" (.builtin "max")
  abs : Gl V "abs" (.builtin "abs")
  divmod : Gl V "divmod" (.builtin "divmod")
  sorted : Gl V "sorted" (.builtin "sorted")
  int : Gl V "int" (.type "int")
  range : Gl V "range" (.type "range")
  enumerate : Gl V "enumerate" (.type "enumerate")
  zip : Gl V "zip" (.type "zip")
  reversed : Gl V "reversed" (.type "reversed")
  set : Gl V "set" (.type "set")
  limit : ∃ t, Gl V "_DIV_LIMIT" (.int 4000 t)
  div2n1n : FnOk V "_div2n1n" 6 111 110
  int2digits : FnOk V "_int2digits" 8 125 124
  digits2int : FnOk V "_digits2int" 9 132 131
  divmodPos : FnOk V "_divmod_pos" 10 139 138
  intDivmod : FnOk V "int_divmod" 11 146 145
  int2AP : FnOk V "Int2AP" 13 153 152
  cells : FnOk V "_law_cells" 15 158 157
  worth : FnOk V "_law_worth" 16 163 162
  stems : FnOk V "_law_stems" 17 170 169
  wish : FnOk V "_law_wish" 18 175 174
  free : FnOk V "_law_free" 19 180 179
  beside : FnOk V "_law_beside" 20 185 184
  read : FnOk V "_law_read" 21 190 189
  law : FnOk V "law" 22 195 194
  bmain : ∃ bm ob, V.mg "__builtins__" = some (.ref bm) ∧ bm ≠ builtinsNs ∧ bm ≠ mainGlobals ∧ V.h0.get? bm = some ob ∧ ob.cls = .type "module" ∧ ob.dict = some builtinsNs ∧ ob.data = .plain


theorem ILe (l : List Int) : IL l = .list ((l.map At.int).map It.at) := by simp [IL, iIt, List.map_map, Function.comp_def]
theorem SLe (l : List (List Nat)) : SL l = .list ((l.map At.str).map It.at) := by simp [SL, sIt, List.map_map, Function.comp_def]
theorem flat1 {α β : Type} (l : List α) (f : α → β) : (l.flatMap fun a => [f a]) = l.map f := by induction l <;> simp_all
theorem mem_map_rev {α β : Type} {f : α → β} {l : List α} {P : β → Prop} (h : ∀ a ∈ l, P (f a)) : ∀ b ∈ l.map f, P b := fun b hb => by
  obtain ⟨a, ha, rfl⟩ := List.mem_map.mp hb; exact h a ha

noncomputable def cellAt (script : List Int) (n : Nat) (place cell : Int) : Int := cell + ((pickNums script (some place) (some 60) (some n)).map (·.fmod 1000003)).sum
noncomputable def cellsL (script cells : List Int) : List Int := cells.zipIdx.map fun p => cellAt script cells.length p.2 p.1
noncomputable def cellF (script : List Int) (n : Nat) : It → List It
  | .tup [.int place, .int cell] => [iIt (cellAt script n place cell)]
  | _ => []
noncomputable def modF : It → List It
  | .at (.int n) => [iIt (n.fmod 1000003)]
  | _ => []

theorem intsOf : ∀ ns : List Int, IntsAre (ns.map fun n => Value.int n 0) ns
  | [] => .nil
  | n :: r => .cons n 0 (intsOf r)
theorem pick_le (ns : List Int) (lo hi st : Option Int) : (pickNums ns lo hi st).length ≤ ns.length := length_pickNums_le (intsOf ns) lo hi st
theorem flat_map1 {α β γ : Type} (l : List α) (g : α → β) (f : β → List γ) (h : α → γ) (e : ∀ a ∈ l, f (g a) = [h a]) : (l.map g).flatMap f = l.map h := by
  rw [List.flatMap_map, ← flat1]
  induction l with
  | nil => rfl
  | cons a r ih => rw [List.flatMap_cons, List.flatMap_cons, e a List.mem_cons_self, ih fun b hb => e b (List.mem_cons_of_mem _ hb)]

section
variable {V : Wo} {k : Nat}
theorem Cl.lenI {l : List Int} (hl : l.length < 1000000) : Cl V k (.builtin "len") [IL l] (I l.length) := by
  have := Cl.lenL (V := V) (k := k) (l := l.map iIt) (by simpa using hl)
  rwa [List.length_map] at this
theorem Cl.lenSL {l : List (List Nat)} (hl : l.length < 1000000) : Cl V k (.builtin "len") [SL l] (I l.length) := by
  have := Cl.lenL (V := V) (k := k) (l := l.map sIt) (by simpa using hl)
  rwa [List.length_map] at this
theorem cells_body (X : Facts V) (script cells : List Int) (hs : script.length < 1000) (hc : cells.length < 1000) (h0 : cells ≠ []) :
    Bk V k (namesN 15) [] (ini ["script", "cells"] [IL script, IL cells]) (bodyN 15) (fun _ => False) (fun _ p => p = IL (cellsL script cells)) := by
  have hpick : ∀ lo hi st, (pickNums script lo hi st).length < 1000 := fun lo hi st => Nat.lt_of_le_of_lt (pick_le _ _ _ _) hs
  refine Bk.step (St1.assign (x := "step") (EV.call (ps := [IL cells]) rfl X.len Kept.builtin (.cons (by first | exact ns rfl | exact nIt rfl | exact nAcc rfl | nofun) (by trivial) .nil) (Cl.lenI (by (first | lia | omega)))) (.inr rfl)) ?_
  refine Bk.last (St1.ret (p := IL (cellsL script cells)) ?_ rfl)
  have e : IL (cellsL script cells) = .list (((enumL (cells.map .int)).map .tup).flatMap (cellF script cells.length)) := by
    unfold cellsL enumL IL
    congr 1
    rw [List.zipIdx_map, List.map_map, List.map_map, List.map_map]
    rw [flat_map1 _ _ _ (fun p : Int × Nat => iIt (cellAt script cells.length p.2 p.1)) fun a _ => rfl]
    rfl
  rw [e]
  refine EV.comp1 (q := true) rfl (IE.enum (l := cells.map .int) rfl X.enumerate (by first | exact ns rfl | exact nIt rfl | exact nAcc rfl | nofun) (ILe cells ▸ EV.name rfl)) trivial ?_ (.inl rfl) ?_
  · refine mem_map_rev fun a ha => ?_
    unfold enumL at ha
    rw [List.zipIdx_map, List.map_map] at ha
    obtain ⟨⟨cell, place⟩, hp, rfl⟩ := List.mem_map.mp ha
    refine ⟨_, true, .pair rfl rfl rfl rfl (by decide), rfl, fun _ => Em.elt ?_, (by first | exact ns rfl | exact nIt rfl | exact nAcc rfl | nofun)⟩
    refine EV.bin (by trivial) (EV.call (ps := [IL ((pickNums script (some place) (some 60) (some cells.length)).map (·.fmod 1000003))]) rfl X.sum Kept.builtin (.cons (by first | exact ns rfl | exact nIt rfl | exact nAcc rfl | nofun) ?_ .nil) Cl.sum) Bi.add
    have e2 : IL ((pickNums script (some place) (some 60) (some cells.length)).map (·.fmod 1000003)) = .list (((pickNums script (some place) (some 60) (some cells.length)).map iIt).flatMap modF) := by
      unfold IL
      rw [List.map_map, flat_map1 _ _ _ (fun n => iIt (n.fmod 1000003)) fun a _ => rfl]
      rfl
    rw [e2]
    refine EV.comp1 (q := true) rfl (IE.list (EV.slice Base.list (by trivial) (.some (by trivial)) (.some (by trivial)) (.some (by trivial)) (Sc.steps ?_ (by (first | lia | omega))))) (.inl trivial) ?_ (.inl rfl) ?_
    · intro e
      have : (cells.length : Int) = 0 := by injection e
      have := List.length_pos_iff.mpr h0
      (first | lia | omega)
    · refine mem_map_rev fun a ha => ?_
      exact ⟨_, true, .name rfl rfl, rfl, fun _ => Em.elt (EV.bin (by trivial) (by trivial) (Bi.mod (by decide))), (by first | exact ns rfl | exact nIt rfl | exact nAcc rfl | nofun)⟩
    · rw [flat_map1 _ _ _ (fun n => iIt (n.fmod 1000003)) fun a _ => rfl, List.length_map]
      have := hpick (some place) (some 60) (some cells.length)
      (first | lia | omega)
  · unfold enumL
    rw [List.zipIdx_map, List.map_map, List.map_map, flat_map1 _ _ _ (fun p : Int × Nat => iIt (cellAt script cells.length p.2 p.1)) fun a _ => rfl]
    simp
    (first | lia | omega)
theorem cells_cl (X : Facts V) (script cells : List Int) (hs : script.length < 1000) (hc : cells.length < 1000) (h0 : cells ≠ []) : Cl V (k + 1) (.ref 158) [IL script, IL cells] (IL (cellsL script cells)) := by
  exact Cl.fn2 X.cells.2 rfl (.inr rfl) (.inl rfl) (by decide) rfl rfl (cells_body X script cells hs hc h0)
end
end
section
open PySem PySem.Calls PyProof.Rows PySem.W


noncomputable def Wo.re (V : Wo) (h : Heap) (l : List Addr) : Wo := { V with h0 := hideAll h (tabAddrs ++ l) }
section
variable {V : Wo} {s s' : Shared} {l : List Addr}
theorem re_sub (g : GI V s) (hl : ∀ b ∈ l, V.h0.get? b = none) : ∀ b o, V.h0.get? b = some o → (V.re s.heap l).h0.get? b = some o := fun b o e =>
  hideAll_get _ (g.keep b o e) fun m => by
    rcases List.mem_append.mp m with m | m
    · rw [g.off b m] at e; cases e
    · rw [hl b m] at e; cases e
theorem re_at {b : Addr} {o : Obj} (e : s.heap.get? b = some o) (ht : b ∉ tabAddrs) (hl : b ∉ l) : (V.re s.heap l).h0.get? b = some o := hideAll_get _ e fun m => (List.mem_append.mp m).elim ht hl
theorem GI.re (g : GI V s) (hl : ∀ b ∈ l, V.h0.get? b = none) : GI (V.re s.heap l) s :=
  ⟨⟨g.ok.g.keeps (re_sub g hl), g.ok.b.keeps (re_sub g hl), g.ok.nolimit.keeps (re_sub g hl)⟩, fun b o e => of_hideAll _ e, g.tab, g.bare, fun P hP => hideAll_none _ (List.mem_append_left _ hP)⟩
theorem GI.un {h : Heap} (g0 : GI V s) (hh : ∀ b o, V.h0.get? b = some o → (V.re h l).h0.get? b = some o) (g : GI (V.re h l) s') : GI V s' := ⟨g0.ok, fun b o e => g.keep b o (hh b o e), g.tab, g.bare, g0.off⟩
theorem Ok.un {h : Heap} {s0 : Shared} (g0 : GI V s0) (hh : ∀ b o, V.h0.get? b = some o → (V.re h l).h0.get? b = some o) (o : Ok (V.re h l) s s') : Ok V s s' := ⟨o.keep, o.there, o.os, GI.un g0 hh o.gi⟩
theorem Mo.un {h : Heap} {s0 : Shared} {wr : List Addr} (g0 : GI V s0) (hh : ∀ b o, V.h0.get? b = some o → (V.re h l).h0.get? b = some o) (o : Mo (V.re h l) wr s s') : Mo V wr s s' := ⟨o.keep, o.there, o.os, GI.un g0 hh o.gi⟩
end

theorem TabOk.grow {h h' : Heap} {c P Q : Addr} {pos : Pos} {q : Str} {ps : Array Value} (x : TabOk h c P pos q) (hQ : h.get? Q = some { cls := .none, data := .fields ps }) (hne : P ≠ Q) (hx : Heap.ExtBut Q h h') : TabOk h' c P pos q := by
  obtain ⟨qs, h1, ⟨⟨o, vs, a, ac, r⟩, t⟩, h3⟩ := x
  have hc : c ≠ Q := fun e => by rw [e, hQ] at a; cases a; cases ac
  refine ⟨qs, h1.extBut hx hc hne, ⟨⟨o, vs, hx _ _ hc a, ac, r⟩, hx _ _ hne t⟩, ?_⟩
  rcases h3 with h3 | ⟨c', e, ⟨c2, o2, vs2, t2, e2, g2, r2⟩, o', ho, hco⟩
  · exact .inl h3
  · have hc' : c' ≠ Q := fun e => by rw [e, hQ] at ho; cases ho; cases hco
    cases e2
    exact .inr ⟨c', e, ⟨c', o2, vs2, t2, rfl, hx _ _ hc' g2, r2⟩, o', hx _ _ hc' ho, hco⟩
theorem tab_uniq : ∀ t ∈ tabList, ∀ t' ∈ tabList, t.2.1 = t'.2.1 → t = t' := by
  simp only [tabList, List.mem_cons, List.not_mem_nil, or_false]
  rintro _ (rfl | rfl | rfl | rfl) _ (rfl | rfl | rfl | rfl) h <;> first | rfl | exact absurd h (by decide)
theorem tab_addr : ∀ t ∈ tabList, t.2.1 ∈ tabAddrs := by
  simp only [tabList, List.mem_cons, List.not_mem_nil, or_false]
  rintro _ (rfl | rfl | rfl | rfl) <;> decide

section
variable {V : Wo} {k : Nat} {K : List (Str × NameKind)} {env : Env} {s₀ s s' : Shared} {W : List Addr} {ρ ρ' : Vars}

theorem wp_make {A : Around} {name q : Str} {params : Arguments} {body : List Stmt} {scope : Scope} {c P : Addr} {pos : Pos} {clos : List (Str × Addr)} (g : GI V s) (hg : env.globals = mainGlobals) (hcode : env.code = .ref c) (ht : (c, P, pos, q) ∈ tabList)
    (hb : ∃ bm ob, V.mg "__builtins__" = some (.ref bm) ∧ bm ≠ builtinsNs ∧ bm ≠ mainGlobals ∧ V.h0.get? bm = some ob ∧ ob.cls = .type "module" ∧ ob.dict = some builtinsNs ∧ ob.data = .plain)
    (hcl : closureFor scope env = pure clos) (hne : clos ≠ []) :
    wpAny (model PySem.Challenge.pw_wz0006_01 V.w) A (makeFunction name q params (.stmts body) scope env [] [] [] pos pos.line) (fun v s' => ∃ f c', v = .ref f ∧ s.heap.get? f = none ∧ Ok V s s' ∧ FnAt s'.heap (some (params, body, scope)) name q f c' clos .none) No s := by
  obtain ⟨ps, hIs, hTab, hps⟩ := g.tab _ ht
  have hPt : P ∈ tabAddrs := tab_addr _ ht
  obtain ⟨bm, ob, b1, b2, b3, b4, b5, b6, b7⟩ := hb
  have hbP : bm ≠ P := fun e => by rw [e, g.off P hPt] at b4; cases b4
  have hbA : s.heap.BuiltinsAt V.mg P := ⟨bm, ob, b1, b2, b3, hbP, g.keep _ _ b4, b5, b6, b7⟩
  have hgP : mainGlobals ≠ P := fun e => by rw [← e] at hPt; exact absurd hPt (by decide)
  have hgn := g.ok.g.keeps g.keep
  have trip : ∀ c', TriplesOk (#[rawInt pos.line, rawInt pos.col, Value.ref c'] : Array Value).toList := fun c' => (trivial : TriplesOk [])
  rw [makeFunction_eq]
  simp only [List.zip_nil_right, List.filterMap_nil, List.isEmpty_nil, if_true, pure_bind]
  unfold makeTail
  rw [hcl, hg]
  refine wpAny_bind (wpAny_pure ?_)
  rw [show clos.isEmpty = false by cases clos with | nil => exact absurd rfl hne | cons _ _ => rfl]
  simp only [Bool.false_eq_true, if_false]
  refine wpAny_bind (wpAny_newTextTuple ?_)
  generalize hT : ({ cls := .type "tuple", dict := none, data := .seq ((clos.mergeSort fun a b => a.1.cps.toList ≤ b.1.cps.toList).map (Value.ref ·.2)).toArray } : Obj) = oT
  have up1 : ∀ b o, s.heap.get? b = some o → (s.heap.push oT).get? b = some o := fun b o e => Heap.get?_push_of_some _ e
  have o1 : Ok V s { s with heap := s.heap.push oT } := Ok.grow (tk := s.toks) g up1
  have fin : ∀ (s2 : Shared) (c' : Addr), Ok V s s2 → s2.heap.CodeRec (.ref c') q → wpAny (model PySem.Challenge.pw_wz0006_01 V.w) A (do
      let __do_lift ← builtinsFor mainGlobals env.builtins
      let __do_lift_1 ← nsGet mainGlobals "__name__"
      let __do_lift_2 ← (match docOf body with | some s => mkText s | none => pure .none)
      newObj (.type "function") (.func { name, qualname := q, params, body := .stmts body, scope, globals := mainGlobals, closure := clos, closureTuple := .ref s.heap.objs.size, code := .ref c', builtins := __do_lift, defaults := .none, kwdefaults := .none, annotations := none, pyModule := __do_lift_1.getD .none, doc := __do_lift_2 }))
      (fun v s' => ∃ f c', v = .ref f ∧ s.heap.get? f = none ∧ Ok V s s' ∧ FnAt s'.heap (some (params, body, scope)) name q f c' clos .none) No s2 := by
    intro s2 c' o2 hrec
    have hgs := g.ok.g.keeps o2.gi.keep
    refine wpAny_bind (wpAny_builtinsFor hgs b1 b2 (o2.gi.keep _ _ b4) b5 b6 b7 ?_)
    refine wpAny_bind (wpAny_nsGet hgs ?_)
    have last : ∀ (doc : Value) (tk : Tok), wpAny (model PySem.Challenge.pw_wz0006_01 V.w) A (newObj (.type "function") (.func { name, qualname := q, params, body := .stmts body, scope, globals := mainGlobals, closure := clos, closureTuple := .ref s.heap.objs.size, code := .ref c', builtins := builtinsNs, defaults := .none, kwdefaults := .none, annotations := none, pyModule := (V.mg "__name__").getD .none, doc }))
        (fun v s' => ∃ f c', v = .ref f ∧ s.heap.get? f = none ∧ Ok V s s' ∧ FnAt s'.heap (some (params, body, scope)) name q f c' clos .none) No { s2 with toks := tk } := fun doc tk => by
      refine wpAny_newObj_type ?_ (by size_fits)
      refine ⟨_, c', rfl, o2.fresh (fresh_none (Nat.le_refl _)), o2.trans (Ok.grow o2.gi fun b o e => Heap.get?_push_of_some _ e), ⟨_, Heap.get?_push_size _ rfl, rfl, rfl, rfl, ⟨_, rfl⟩, rfl, rfl, rfl, rfl, rfl, rfl⟩, hrec.keeps fun b o e => Heap.get?_push_of_some _ e⟩
    cases hdoc : docOf body with
    | none => exact wpAny_bind (wpAny_pure (last .none s2.toks))
    | some t => exact wpAny_bind (wpAny_mkText (last _ _))
  rcases hps with rfl | ⟨c', rfl, hrec, o, ho, hco⟩
  · refine wpAny_bind (wpAny_functionCodeX hcode (hIs.push _) (hTab.push _) rfl fun c' h' tk hx hge hlt hIs' hrec hTab' hT' => ?_)
    obtain ⟨P', _, _, ⟨⟨oc', vc', hoc', hcc', _⟩, _⟩⟩ := hT'
    have hxs : ∀ b o, b ≠ P → s.heap.get? b = some o → h'.get? b = some o := fun b o hb e => hx b o hb (up1 b o e)
    have o2 : Ok V s { s with heap := h', toks := tk } := by
      refine ⟨fun b o hb e => hxs b o (fun e' => hb (e' ▸ hPt)) e, fun b o e => ?_, rfl, ⟨g.ok, fun b o e => hxs b o (fun e' => by rw [e', g.off P hPt] at e; cases e) (g.keep b o e), fun t htm => ?_, g.bare, g.off⟩⟩
      · by_cases hb : b = P
        · subst hb; exact ⟨_, hTab'.2⟩
        · exact ⟨o, hxs b o hb e⟩
      · by_cases hP : t.2.1 = P
        · have := tab_uniq t htm _ ht hP
          subst this
          refine ⟨_, hIs', hTab', .inr ⟨c', by simp, hrec, oc', hoc', hcc'⟩⟩
        · exact (g.tab t htm).grow hTab.2 hP fun b o hb e => hxs b o hb e
    exact fin _ c' o2 hrec
  · refine wpAny_bind (wpAny_functionCode_hit hcode (c := c) (P := P) (ps := #[rawInt pos.line, rawInt pos.col, .ref c']) (hIs.push _) (c' := .ref c') ?_ ?_)
    · simp [codeAmong, rawInt]
    · exact fin _ c' o1 (hrec.keeps up1)

theorem closure_fr {scope : Scope} (Fx : Fr V K env s₀ W ρ s) (hfree : ∀ n, (n, NameKind.free) ∈ scope.names → K.lookup n = some .cell) :
    ∃ cl, closureFor scope env = pure cl ∧ (∀ n c, cl.lookup n = some c → env.cells.lookup n = some c) ∧ ∀ n, (n, NameKind.free) ∈ scope.names → (cl.lookup n).isSome = true := by
  obtain ⟨cl, e, a, b⟩ := closure_go (env := env) (fun (x : Str × NameKind) (cs : List (Str × Addr)) => match x with | (name, kind) => if kind == .free then (do let c ← cellOf env name; pure (.yield ((name, c) :: cs))) else pure (.yield cs)) (fun _ _ _ => rfl) scope.names [] (fun n hn => let ⟨c, h, _⟩ := Fx.cellN n (hfree n hn); ⟨c, h⟩) (fun _ _ h => (by cases h))
  refine ⟨cl, ?_, a, fun n hn => b n (.inr hn)⟩
  have e2 : closureFor scope env = (forIn scope.names [] (fun (x : Str × NameKind) (cs : List (Str × Addr)) => match x with | (name, kind) => if kind == .free then (do let c ← cellOf env name; pure (.yield ((name, c) :: cs))) else pure (.yield cs)) >>= fun cs => pure cs) := rfl
  rw [e2, e]; rfl

theorem wp_nest {A : Around} {name q : Str} {params : Arguments} {body : List Stmt} {scope : Scope} {c P : Addr} {pos : Pos} (g₀ : GI V s₀) (Fx : Fr V K env s₀ W ρ s) (hcode : env.code = .ref c) (ht : (c, P, pos, q) ∈ tabList) (hq : qualnameIn env name name = q)
    (hb : ∃ bm ob, V.mg "__builtins__" = some (.ref bm) ∧ bm ≠ builtinsNs ∧ bm ≠ mainGlobals ∧ V.h0.get? bm = some ob ∧ ob.cls = .type "module" ∧ ob.dict = some builtinsNs ∧ ob.data = .plain)
    (hx : K.lookup name = some .cell) (hfree : ∀ n, (n, NameKind.free) ∈ scope.names → K.lookup n = some .cell) (hself : (name, NameKind.free) ∈ scope.names) (hd0 : params.defaults = []) (hk0 : params.kw_defaults = []) (ha : annTrees params none env = []) :
    wpAny (model PySem.Challenge.pw_wz0006_01 V.w) A (exec (.FunctionDef name params body [] none [] scope none name pos) env) (fun fl s' => fl = .next ∧ ∃ f c' cl, Fr V K env s₀ W (up ρ name (.fn f)) s' ∧ s.heap.get? f = none ∧ FnAt s'.heap (some (params, body, scope)) name q f c' cl .none ∧
      (∀ n c, cl.lookup n = some c → env.cells.lookup n = some c) ∧ ∀ n, (n, NameKind.free) ∈ scope.names → (cl.lookup n).isSome = true) No s := by
  obtain ⟨cl, hcl, h1, h2⟩ := closure_fr Fx hfree
  have hne : cl ≠ [] := fun e => by have := h2 name hself; rw [e] at this; cases this
  refine nestDef_K hd0 hk0 ha ?_
  rw [hq]
  refine wpAny_mono (wp_make Fx.gi Fx.renv.glob hcode ht hb hcl hne) (fun v s1 hv => ?_) fun _ _ x => x
  obtain ⟨f, c', rfl, hf, o, hfn⟩ := hv
  have F1 := Fx.after o
  refine wpAny_mono (F1.store g₀ (.inr hx) (p := .fn f) rfl (fun _ _ _ _ e => (by cases e)) (fun _ e => (by cases e)) (fun _ _ _ _ _ e => (by cases e)) (fun _ e => (by cases e)) fun _ e => (by cases e)) (fun _ s2 h => ?_) fun _ _ x => x
  obtain ⟨F2, b, hb, hbl⟩ := h
  have hcellb : ∃ o, s1.heap.get? b = some o ∧ ((∃ es ep, o.data = .dict es ep) ∨ ∃ v, o.data = .cell v) := by
    rcases hbl with e | ⟨_, e⟩
    · obtain ⟨m, o, es, ep, h, d, _⟩ := F1.loc; rw [e]; exact ⟨o, h, .inl ⟨es, ep, d⟩⟩
    · obtain ⟨c2, hc2, _, u, o, h, d⟩ := F1.cellN name hx
      rw [e] at hc2; cases hc2; exact ⟨o, h, .inr ⟨u, d⟩⟩
  obtain ⟨ob, hob, hbd⟩ := hcellb
  refine ⟨rfl, f, c', cl, F2, hf, ?_, h1, h2⟩
  obtain ⟨⟨fd, e, r⟩, ⟨cc, oc, vs, t, e1, e2, e3, e4⟩⟩ := hfn
  have n1 : f ≠ b := fun h => by subst h; rw [e] at hob; cases hob; rcases hbd with ⟨_, _, h⟩ | ⟨_, h⟩ <;> cases h
  have n2 : cc ≠ b := fun h => by subst h; rw [e2] at hob; cases hob; rw [e3] at hbd; rcases hbd with ⟨_, _, h⟩ | ⟨_, h⟩ <;> cases h
  exact ⟨⟨fd, hb.keep _ _ n1 e, r⟩, ⟨cc, oc, vs, t, e1, hb.keep _ _ n2 e2, e3, e4⟩⟩

noncomputable def iniC (names : List Str) (ps : List PV) (cap : List (Str × PV)) : Vars := fun x => match (names.zip ps).lookup x with
  | some p => some p
  | none => cap.lookup x
noncomputable def CapAt (h : Heap) (K : List (Str × NameKind)) (cl : List (Str × Addr)) (x : Str) (p : PV) : Prop := K.lookup x = some .free ∧ ∃ c v, cl.lookup x = some c ∧ h.IsCell c (some v) ∧ p.is h v

theorem Fr.enterC {ps : List PV} {vs : List Value} {names : List Str} {fd : FuncData} {a : Addr} {cap : List (Str × PV)} {h₁ : Heap} (g : GI V s) (hk : fd.scope.kind = .function) (hg : fd.globals = mainGlobals) (hb : fd.builtins = builtinsNs) (hnd : names.Nodup) (hlen : names.length = vs.length)
    (hm : ∀ x ∈ names, fd.scope.names.lookup x = some .local) (hnc : ∀ x ∈ fd.scope.names, x.2 ≠ .cell) (hp : PVs s.heap ps vs) (hap : ∀ x y c, fd.closure.lookup x = some c → fd.closure.lookup y = some c → x = y)
    (hcap : ∀ x p, cap.lookup x = some p → CapAt s.heap fd.scope.names fd.closure x p) (hin : ∀ x p, ini names ps x = some p → p.addr = none) (hW : ∀ x p a, cap.lookup x = some p → p.addr = some a → a ∈ W)
    (hacc : ∀ x p, cap.lookup x = some p → ∀ a d f l, p ≠ .acc a d f l) (huq : ∀ x y p q a, cap.lookup x = some p → cap.lookup y = some q → p.addr = some a → q.addr = some a → x = y) (hlist : ∀ x p a, iniC names ps cap x = some p → p.addr = some a → ∀ y l, iniC names ps cap y = some (.list l) → False)
    (hwex : ∀ a ∈ W, ∃ o, s.heap.get? a = some o ∧ o.cls ≠ .type "tuple" ∧ o.cls ≠ .none)
    (hns : h₁.Ns s.heap.objs.size (fun x => (names.zip vs).reverse.lookup x)) (hkeep : ∀ b o, s.heap.get? b = some o → h₁.get? b = some o) (tk : Nat) :
    Fr V fd.scope.names (callEnv fd s.heap.objs.size a) s W (iniC names ps cap) { s with heap := h₁, toks := tk } := by
  have o1 : Ok V s { s with heap := h₁, toks := tk } := Ok.grow g hkeep
  have hL : s.heap.get? s.heap.objs.size = none := fresh_none (Nat.le_refl _)
  have hin' : ∀ x p, (names.zip ps).lookup x = some p → p.addr = none := hin
  have split : ∀ x p, iniC names ps cap x = some p → (names.zip ps).lookup x = some p ∨ cap.lookup x = some p := fun x p h => by
    unfold iniC at h
    cases e : (names.zip ps).lookup x with
    | some q => rw [e] at h; exact .inl h
    | none => rw [e] at h; exact .inr h
  have capOf : ∀ x p a, iniC names ps cap x = some p → p.addr = some a → cap.lookup x = some p := fun x p a h ha => (split x p h).elim (fun h' => by rw [hin' x p h'] at ha; cases ha) id
  have hnm : ((names.zip vs).map (·.1)).Nodup := by
    have : (names.zip vs).map (·.1) = names := by rw [List.map_fst_zip]; (first | lia | omega)
    rw [this]; exact hnd
  have look : ∀ {l : List (Str × Value)} {x : Str} {v : Value}, (l.map (·.1)).Nodup → (x, v) ∈ l → l.reverse.lookup x = some v := by
    intro l x v hnd hm
    have : (x, v) ∈ l.reverse := List.mem_reverse.mpr hm
    have hnd' : (l.reverse.map (·.1)).Nodup := by rw [List.map_reverse]; exact List.pairwise_reverse.mpr (hnd.imp fun h => Ne.symm h)
    generalize l.reverse = r at this hnd'
    induction r with
    | nil => cases this
    | cons y r ih =>
      obtain ⟨n, u⟩ := y
      obtain ⟨q1, q2⟩ := List.nodup_cons.mp hnd'
      rw [List.lookup_cons]
      rcases List.mem_cons.mp this with e | h
      · cases e; simp
      · have : x ≠ n := by rintro rfl; exact q1 (List.mem_map.mpr ⟨_, h, rfl⟩)
        rw [show (x == n) = false by simpa using this]
        exact ih h q2
  refine ⟨o1.mo, ⟨hk, rfl, hg, hb, fun y p hy => ?_⟩, hL, ⟨_, hns⟩, fun y hy => absurd rfl (hnc _ (mem_of_lookup hy)), hap, fun y b d f l hy => ?_, fun y p b hy hb => .inl (hW y p b (capOf y p b hy hb) hb), fun y z p q b hy hz hpb hqb => huq y z p q b (capOf y p b hy hpb) (capOf z q b hz hqb) hpb hqb, fun y p b hy hpb z l v hz _ => (hlist y p b hy hpb z l hz).elim, fun b hb => ?_⟩
  · rcases split y p hy with hy | hy
    · obtain ⟨v, hv, hpv⟩ := zip_mem hp hy
      have hyn : y ∈ names := (List.of_mem_zip hv).1
      exact ⟨v, .inl ⟨hm y hyn, _, hns, look hnm hv⟩, o1.pv g hpv⟩
    · obtain ⟨hkf, c, v, hc, hcell, hpv⟩ := hcap y p hy
      exact ⟨v, .inr ⟨.inr hkf, c, hc, o1.cell g hcell⟩, o1.pv g hpv⟩
  · rcases split y _ hy with hy | hy
    · have := hin' y _ hy; cases this
    · exact absurd rfl (hacc y _ hy b d f l)
  · obtain ⟨o, e, c1, c2⟩ := hwex b hb
    exact ⟨⟨o, e⟩, o, hkeep _ _ e, c1, c2⟩
end
end
section
open PySem PySem.Calls PyProof.Rows PySem.W

theorem Cl.mono {V : Wo} {k k' : Nat} {f : Value} {ps : List PV} {r : PV} (h : Cl V k' f ps r) (hk : k' ≤ k) : Cl V k f ps r := fun A s vs F g hp => h A s vs (F.mono hk) g hp
section
variable {V : Wo} {k : Nat} {fr : Bool} {K : List (Str × NameKind)} {ρ : Vars}
theorem EV.callL {x : Str} {xp pos : Pos} {f : Addr} {es : List Expr} {ps : List PV} {r : PV} (hx : ρ x = some (.fn f)) (hk : Kept V (.ref f)) (ha : EVs V k K ρ es ps) (hc : Cl V k (.ref f) ps r)
    (hd : (x == ("__debug__" : Str)) = false := by decide) (hn : (x == ("__classdict__" : Str)) = false := by decide) : EV V k fr K ρ (.Call (.Name x xp) es [] pos) r := EV.weak fun A env s F g R => by
  obtain ⟨v, l, hv⟩ := R.vars x _ hx
  have hv : v = .ref f := hv
  subst hv
  show wpAny _ A (do callWith pos (← eval (.Name x xp) env) [] (backTo pos (starEach es env)) (backToKw pos (keywordEach [] env))) _ _ s
  refine wpAny_bind (wp_name R.kind l ?_ hd hn)
  refine wp_callWith (ha.plain env pos) hk (wp_args pos ha F g R fun vs s' o hp => ⟨o.gi, ?_⟩)
  exact wpAny_mono (hc A s' vs F o.gi hp) (fun v s'' x => ⟨o.trans x.1, x.2.1, fun _ => (x.2.2 rfl).ok o⟩) fun _ _ x => x

theorem Kept.fnC {sr} {n q : Str} {a c : Addr} {cl} {dV} (h : FnAt V.h0 sr n q a c cl dV) : Kept V (.ref a) := Kept.fn h

theorem Cl.fnC {n q : Str} {a c : Addr} {cl : List (Str × Addr)} {params : Arguments} {body : List Stmt} {scope : Scope} {names : List Str} {ps : List PV} {cap : List (Str × PV)} {r : PV} (h : FnAt V.h0 (some (params, body, scope)) n q a c cl .none) (hnd : names.Nodup) (hlen : names.length = ps.length)
    (hm : ∀ x ∈ names, scope.names.lookup x = some .local) (hnc : ∀ x ∈ scope.names, x.2 ≠ .cell) (hap : ∀ x y c, cl.lookup x = some c → cl.lookup y = some c → x = y)
    (hcap : ∀ x p, cap.lookup x = some p → CapAt V.h0 scope.names cl x p ∧ p.addr = none) (hin : ∀ p ∈ ps, p.addr = none)
    (hbind : ∀ fd : FuncData, fd.params = params → fd.defaults = .none → ∀ vs : List Value, vs.length = ps.length → bindArgs fd ⟨vs, []⟩ = pure (names.zip vs))
    (hbody : Bk V k scope.names [] (iniC names ps cap) body (fun _ => False) (fun _ p => p = r))
    (hk : scope.kind = .function := by rfl) (hco : scope.isCoroutine = false := by rfl) (hgen : scope.isGenerator = false := by rfl) : Cl V (k + 1) (.ref a) ps r := fun A s vs F g hp => by
  obtain ⟨fd, ho, hn, hq, hs, ⟨b, hb⟩, hcl, hgl, hbl, hdf, hkd, hcode⟩ := h.obj
  simp only [Option.some.injEq, Prod.mk.injEq] at hs
  obtain ⟨ep, eb, es⟩ := hs
  rw [hb] at eb
  have eb : body = b := eb
  subst eb
  refine wpAny_call (codeAny_call_def (binds := names.zip vs) F.room (g.keep _ _ ho) rfl (g.ok.nolimit.keeps g.keep) (by rw [hcode, hq]; exact h.code.keeps g.keep) hb (.of_eq (hbind fd ep.symm hdf vs hp.length)) (es ▸ hnc) (fun x hx => ?_) (fun h₁ hns hkeep => ?_) (es ▸ hco) (es ▸ hgen) (es ▸ hk))
  · rw [← es]; exact hm x.1 (List.of_mem_zip (a := x.1) (b := x.2) hx).1
  · have capn : ∀ x p, cap.lookup x = some p → p.addr = none := fun x p h => (hcap x p h).2
    have Fx := Fr.enterC (V := V) (W := []) (a := a) (fd := fd) (names := names) (ps := ps) (vs := vs) (cap := cap) (h₁ := h₁) g (es ▸ hk) hgl hbl hnd (by rw [hlen, hp.length]) (by rw [← es]; exact hm) (es ▸ hnc) hp (hcl ▸ hap)
      (fun x p hx => by
        obtain ⟨⟨h1, cc, v, h2, h3, h4⟩, _⟩ := hcap x p hx
        exact ⟨by rw [← es]; exact h1, cc, v, by rw [hcl]; exact h2, h3.keeps g.keep, PV.keeps (fun b o _ e => g.keep b o e) h4⟩)
      (fun x p hx => hin p (List.of_mem_zip (mem_of_lookup hx)).2) (fun x p a' hx ha => by rw [capn x p hx] at ha; cases ha) (fun x p hx a' d f l e => by have := capn x p hx; rw [e] at this; cases this)
      (fun x y p q a' hx _ ha _ => by rw [capn x p hx] at ha; cases ha) (fun x p a' hx ha y l _ => by
        unfold iniC at hx
        cases e : (names.zip ps).lookup x with
        | some q => rw [e] at hx; cases hx; rw [hin p (List.of_mem_zip (mem_of_lookup e)).2] at ha; cases ha
        | none => rw [e] at hx; rw [capn x p hx] at ha; cases ha) (fun b hb => nomatch hb) hns hkeep (s.toks + (names.zip vs).length)
    rw [← es] at Fx
    refine wpAny_mono (hbody (A.deeper (callEnv fd s.heap.objs.size a)) _ s _ (F.deeper _) g Fx) (fun fl s' x => ?_) fun _ _ x => x.elim
    cases fl with
    | next => obtain ⟨_, h, _⟩ := x; exact h.elim
    | brk => exact x.elim
    | cont => exact x.elim
    | ret v =>
      obtain ⟨ρ', p, rfl, F', hp', hf⟩ := x
      exact ⟨F'.mo.ok, hp', fun _ => hf⟩
end

noncomputable def dval (n : Nat) : List Int → Int
  | [] => 0
  | d :: r => d + 2 ^ n * dval n r
theorem dval_append (n : Nat) : ∀ l m : List Int, dval n (l ++ m) = dval n l + 2 ^ (n * l.length) * dval n m
  | [], m => by simp [dval]
  | d :: r, m => by
    rw [List.cons_append, dval, dval, dval_append n r m, List.length_cons, Nat.mul_succ, Int.pow_add, Int.mul_add, ← Int.mul_assoc, ← Int.add_assoc]
    congr 2
    rw [Int.mul_comm]
theorem dval_pos (n : Nat) : ∀ l : List Int, (∀ d ∈ l, 0 ≤ d ∧ d < 2 ^ n) → 0 ≤ dval n l ∧ dval n l < 2 ^ (n * l.length)
  | [], _ => by simp [dval]
  | d :: r, h => by
    obtain ⟨h1, h2⟩ := h d List.mem_cons_self
    obtain ⟨h3, h4⟩ := dval_pos n r fun x hx => h x (List.mem_cons_of_mem _ hx)
    rw [dval, List.length_cons, Nat.mul_succ, Nat.add_comm, Int.pow_add]
    have p : (0 : Int) < 2 ^ n := Int.pow_pos (by decide)
    refine ⟨Int.add_nonneg h1 (Int.mul_nonneg (Int.le_of_lt p) h3), ?_⟩
    have h5 : (2 ^ n : Int) * dval n r ≤ 2 ^ n * (2 ^ (n * r.length) - 1) := Int.mul_le_mul_of_nonneg_left (by (first | lia | omega)) (Int.le_of_lt p)
    rw [Int.mul_sub, Int.mul_one] at h5
    (first | lia | omega)
theorem bits_le {a : Int} {m : Nat} (h0 : 0 ≤ a) (h : a < 2 ^ m) : Builtin.Int.intBits a ≤ m := by
  unfold Builtin.Int.intBits
  by_cases e : a = 0
  · simp [e]
  · have : (a == 0) = false := by simpa using e
    rw [this]
    simp only [Bool.false_eq_true, if_false]
    obtain ⟨n, rfl⟩ := Int.eq_ofNat_of_zero_le h0
    have h' : n < 2 ^ m := by exact_mod_cast h
    have hn : n ≠ 0 := fun h => e (by simp [h])
    simp only [Int.natAbs_natCast]
    exact (Nat.log2_lt hn).mpr h'

theorem Truth.list {V : Wo} {k : Nat} {l : List It} (hl : l.length < 1000000) : Truth V k (.list l) (!l.isEmpty) := fun A s a F g ha => by
  obtain ⟨b, its, rfl, hL, hi⟩ := PV.isList ha
  have e : its.size = l.length := by have := hi.length; simpa using this
  refine wpAny_truthy_list hL (by (first | lia | omega)) ⟨?_, Ok.tok g⟩
  have : its.isEmpty = l.isEmpty := by
    rw [Bool.eq_iff_iff, Array.isEmpty_iff_size_eq_zero, e, List.isEmpty_iff_length_eq_zero]
  rw [this]
section
variable {V : Wo} {k : Nat}
noncomputable def d2iBody : List Stmt := match bodyN 9 with
  | .FunctionDef _ _ body _ _ _ _ _ _ _ :: _ => body
  | _ => []
noncomputable def d2iScope : Scope := match bodyN 9 with
  | .FunctionDef _ _ _ _ _ _ scope _ _ _ :: _ => scope
  | _ => default
noncomputable def d2iParams : Arguments := match bodyN 9 with
  | .FunctionDef _ args _ _ _ _ _ _ _ _ :: _ => args
  | _ => ⟨[], [], none, [], [], none, []⟩
noncomputable abbrev d2iCap (d : List Int) (n : Nat) (f : Addr) : List (Str × PV) := [("digits", IL d), ("n", I n), ("inner", PV.fn f)]
theorem d2i_inner {f c : Addr} {cl : List (Str × Addr)} (d : List Int) (n : Nat) (h : FnAt V.h0 (some (d2iParams, d2iBody, d2iScope)) "inner" "_digits2int.<locals>.inner" f c cl .none) (hd : ∀ x ∈ d, 0 ≤ x ∧ x < 2 ^ n) (hn : n * d.length ≤ 1000000) (hl : d.length < 1000)
    (hap : ∀ x y c, cl.lookup x = some c → cl.lookup y = some c → x = y) (hcap : ∀ x p, List.lookup x (d2iCap d n f) = some p → CapAt V.h0 d2iScope.names cl x p) :
    ∀ m L R : Nat, L < R → R ≤ d.length → R - L ≤ m → Cl V (k + m) (.ref f) [I L, I R] (I (dval n ((d.drop L).take (R - L)))) := by
  intro m
  induction m with
  | zero => intro L R h1 h2 h3; exact absurd h1 (Nat.not_lt.mpr (Nat.sub_eq_zero_iff_le.mp (Nat.le_zero.mp h3)))
  | succ m ih =>
    intro L R h1 h2 h3
    refine Cl.fnC (names := ["L", "R"]) (cap := d2iCap d n f) h (by decide) rfl (by decide) (by decide) hap (fun x p hx => ⟨hcap x p hx, ?_⟩) (by simp [PV.addr]) ?_ ?_
    · have := mem_of_lookup hx
      simp only [d2iCap, List.mem_cons, List.not_mem_nil, or_false, Prod.mk.injEq] at this
      rcases this with ⟨_, rfl⟩ | ⟨_, rfl⟩ | ⟨_, rfl⟩ <;> rfl
    · intro fd hp hdf vs hl
      obtain ⟨v, u, rfl⟩ := two_of hl
      exact bind2 hp hdf (by decide)
    · refine Bk.cons (Φm := fun ρ => L + 1 ≠ R ∧ ρ = iniC ["L", "R"] [I L, I R] (d2iCap d n f)) (St1.ite (ET.cmp (EV.bin (by trivial) (by trivial) Bi.add) (by trivial) Bi.eqI) (fun hb => ?_) (fun hb => Bk.nil ⟨?_, rfl⟩)) ?_
      · have hR : R = L + 1 := by have : (L : Int) + 1 = R := by simpa using hb
                                  exact Int.ofNat_inj.mp this.symm
        subst hR
        have hL : L < d.length := h2
        have hx : d[L]? = some d[L] := List.getElem?_eq_getElem hL
        have e : dval n ((d.drop L).take (L + 1 - L)) = d[L] := by
          rw [Nat.add_sub_cancel_left, List.drop_eq_getElem_cons hL, List.take_succ_cons, List.take_zero, dval, dval]
          (first | lia | omega)
        refine Bk.last (St1.ret (p := I (dval n ((d.drop L).take (L + 1 - L)))) ?_ rfl)
        rw [e]
        exact EV.sub Base.list (by trivial) (by trivial) (Bi.itemL (by (first | lia | omega)) (by (first | lia | omega)) (by simp [hx]))
      · intro e
        have : ¬ ((L : Int) + 1 = R) := by simpa using hb
        exact this (congrArg (Int.ofNat) e)
      · rintro _ ⟨hne, rfl⟩
        obtain ⟨M, hmid, hLM, hMR⟩ := mid_of h1 hne
        have hsh : ((M : Int) - L) * n = ((M - L) * n : Nat) := by rw [Int.natCast_mul, Int.ofNat_sub (Nat.le_of_lt hLM)]
        have hsh2 : (M - L) * n ≤ 1000000 := by
          have : (M - L) * n ≤ d.length * n := Nat.mul_le_mul_right n (sub_le' (Nat.le_trans (Nat.le_of_lt hMR) h2))
          rw [Nat.mul_comm d.length n] at this
          exact Nat.le_trans this hn
        refine Bk.step (St1.assign (x := "mid") (i := .at (.int M)) (hmid ▸ EV.bin (EV.bin (by trivial) (by trivial) Bi.add) (by trivial) (Bi.shr (by decide))) (.inl rfl)) ?_
        refine Bk.step (St1.assign (x := "shift") (i := .at (.int (((M : Int) - L) * n))) (EV.bin (EV.bin (by trivial) (by trivial) Bi.sub) (by trivial) (Bi.mul ?_)) (.inl rfl)) ?_
        · exact mulOk_sub (Nat.le_trans (Nat.le_of_lt hMR) (Nat.le_trans h2 (Nat.le_of_lt hl))) (Nat.le_of_lt hLM)
        · have h1' := ih M R hMR h2 (subM_hi hLM hMR h3)
          have h2' := ih L M hLM (Nat.le_trans (Nat.le_of_lt hMR) h2) (subM_lo (Nat.le_of_lt hLM) hMR h3)
          refine Bk.last (St1.ret (p := I (dval n ((d.drop M).take (R - M)) * 2 ^ (((M : Int) - L) * n).toNat + dval n ((d.drop L).take (M - L)))) ?_ ?_)
          · refine EV.bin (EV.bin (EV.callL rfl (Kept.fnC h) (.cons (by first | exact ns rfl | exact nIt rfl | exact nAcc rfl | nofun) (by trivial) (.cons (by first | exact ns rfl | exact nIt rfl | exact nAcc rfl | nofun) (by trivial) .nil)) h1') (by trivial) (Bi.shl ?_ ?_)) (EV.callL rfl (Kept.fnC h) (.cons (by first | exact ns rfl | exact nIt rfl | exact nAcc rfl | nofun) (by trivial) (.cons (by first | exact ns rfl | exact nIt rfl | exact nAcc rfl | nofun) (by trivial) .nil)) h2') Bi.add
            · rw [hsh]; exact Int.natCast_nonneg _
            · have hp := dval_pos n ((d.drop M).take (R - M)) fun x hx => hd x (List.mem_of_mem_drop (List.mem_of_mem_take hx))
              have hb := bits_le hp.1 hp.2
              have hlen : n * ((d.drop M).take (R - M)).length ≤ n * d.length := Nat.mul_le_mul_left n (by rw [List.length_take, List.length_drop]; exact Nat.le_trans (Nat.min_le_right _ _) (Nat.sub_le _ _))
              rw [hsh]
              (first | lia | omega)
          · congr 2
            congr 1
            congr 1
            rw [hsh, Int.toNat_natCast]
            have e : (d.drop L).take (R - L) = (d.drop L).take (M - L) ++ (d.drop M).take (R - M) := by
              rw [subM (Nat.le_of_lt hLM) (Nat.le_of_lt hMR), List.take_add, List.drop_drop, Nat.add_sub_cancel' (Nat.le_of_lt hLM)]
            have e2 : ((d.drop L).take (M - L)).length = M - L := by rw [List.length_take, List.length_drop]; exact Nat.min_eq_left (Nat.sub_le_sub_right (Nat.le_trans (Nat.le_of_lt hMR) h2) L)
            rw [e, dval_append, e2, Nat.mul_comm n (M - L)]
            rw [Int.mul_comm, Int.add_comm]

theorem GI.noRec {s : Shared} (g : GI V s) {P : Addr} {o : Obj} {vs : Array Value} {q : Str} {t : Tok} (hP : P ∈ tabAddrs) (e : s.heap.get? P = some o) (hd : o.data = .fields vs) : vs[1]? ≠ some (.str q t) := by
  have key : ∀ x ∈ tabList, x.2.1 = P → vs[1]? ≠ some (.str q t) := fun x hx hxP => by
    obtain ⟨ps, _, ht, hps⟩ := g.tab x hx
    have := ht.2
    rw [hxP, e] at this
    cases this
    cases hd
    rcases hps with rfl | ⟨c', rfl, _⟩
    · simp
    · simp [rawInt]
  simp only [tabAddrs, List.mem_cons, List.not_mem_nil, or_false] at hP
  rcases hP with rfl | rfl | rfl | rfl
  · exact key _ (by unfold tabList; exact .head _) rfl
  · exact key _ (by unfold tabList; exact .tail _ (.head _)) rfl
  · exact key _ (by unfold tabList; exact .tail _ (.tail _ (.head _))) rfl
  · exact key _ (by unfold tabList; exact .tail _ (.tail _ (.tail _ (.head _)))) rfl
theorem FnAt.re {s : Shared} {l : List Addr} {sr n q a c cl dV} (x : FnAt s.heap sr n q a c cl dV) (g : GI V s) (hl : ∀ b ∈ l, ∀ o, s.heap.get? b = some o → (∀ fd, o.data ≠ .func fd) ∧ ∀ vs, o.data ≠ .fields vs) : FnAt (V.re s.heap l).h0 sr n q a c cl dV := by
  obtain ⟨⟨fd, e, r⟩, ⟨cc, oc, vs, t, e1, e2, e3, e4⟩⟩ := x
  refine ⟨⟨fd, re_at e (g.notTabC e (by first | exact ns rfl | exact nIt rfl | exact nAcc rfl | nofun)) (fun m => (hl _ m _ e).1 fd rfl), r⟩, ⟨cc, oc, vs, t, e1, re_at e2 (fun m => g.noRec m e2 e3 e4) (fun m => (hl _ m _ e2).2 vs e3), e3, e4⟩⟩
theorem PV.re {s : Shared} {l : List Addr} {p : PV} {v : Value} (x : p.is s.heap v) (g : GI V s) (hl : ∀ b ∈ l, ∀ o, s.heap.get? b = some o → ¬ ((∃ vs n, o.data = .seq vs n) ∨ o.cls = .type "dict")) : p.is (V.re s.heap l).h0 v :=
  PV.keeps (fun b o h e => re_at e (by
    rcases h with ⟨vs, n, h⟩ | h
    · exact g.notTab e fun vs' h' => by rw [h] at h'; cases h'
    · exact g.notTabC e (by rw [h]; nofun)) fun m => hl b m o e h) x
theorem Fr.cap {K : List (Str × NameKind)} {env : Env} {s₀ s : Shared} {W : List Addr} {ρ : Vars} {Ki : List (Str × NameKind)} {cl : List (Str × Addr)} {x : Str} {p : PV} {l : List Addr} (Fx : Fr V K env s₀ W ρ s) (hx : ρ x = some p) (hk : K.lookup x = some .cell) (hki : Ki.lookup x = some .free)
    (h1 : ∀ n c, cl.lookup n = some c → env.cells.lookup n = some c) (h2 : (cl.lookup x).isSome = true) (hl : ∀ b ∈ l, ∀ o, s.heap.get? b = some o → (∀ v, o.data ≠ .cell v) ∧ ¬ ((∃ vs n, o.data = .seq vs n) ∨ o.cls = .type "dict")) : CapAt (V.re s.heap l).h0 Ki cl x p := by
  obtain ⟨v, hlk, hp⟩ := Fx.vars hx
  obtain ⟨c, hc⟩ := Option.isSome_iff_exists.mp h2
  rcases hlk with ⟨hk', _⟩ | ⟨_, c', hc', hcell⟩
  · have e : K.lookup x = some .local := by rw [← Fx.renv.names]; exact hk'
    rw [hk] at e; cases e
  · have := h1 x c hc
    rw [hc'] at this; cases this
    refine ⟨hki, c, v, hc, ?_, PV.re hp Fx.gi fun b m o e => (hl b m o e).2⟩
    obtain ⟨o, ho, hd⟩ := hcell
    exact ⟨o, re_at ho (Fx.gi.notTab ho fun vs h => by rw [hd] at h; cases h) (fun m => (hl _ m o ho).1 _ hd), hd⟩

theorem d2i_cl (X : Facts V) (d : List Int) (n : Nat) (hd : ∀ x ∈ d, 0 ≤ x ∧ x < 2 ^ n) (hn : n * d.length ≤ 1000000) (hl : d.length < 1000) : Cl V (k + d.length + 1) (.ref 132) [IL d, I n] (I (dval n d)) := by
  refine Cl.fnE (names := ["digits", "n"]) X.digits2int.2 rfl (by decide) rfl (mineAll rfl) (ini_addr (by simp [PV.addr])) (fun fd hp hdf vs hl => ?_) fun A env s₀ s F g Fx hcode hqual => ?_
  · obtain ⟨v, u, rfl⟩ := two_of hl
    exact bind2 hp hdf (by decide)
  refine wpAny_execs_cons (wpAny_mono (wp_nest (P := 127) (q := "_digits2int.<locals>.inner") g Fx hcode ?_ ?_ X.bmain rfl ?_ ?_ rfl rfl rfl) (fun fl s2 h => ?_) fun _ _ x => x)
  · unfold tabList; simp
  · unfold qualnameIn Env.kindOf
    rw [Fx.renv.names, hqual]
    rfl
  · have : ∀ y ∈ d2iScope.names, y.2 = .free → List.lookup y.1 (namesN 9) = some .cell := by decide
    exact fun n hn => this _ hn rfl
  · show _ ∈ d2iScope.names
    decide
  obtain ⟨rfl, f, c', cl, F2, hf, hfn, h1, h2⟩ := h
  dsimp only
  have g2 := F2.gi
  have gr : GI (V.re s2.heap []) s2 := g2.re fun b hb => (by cases hb)
  have sub := re_sub (l := []) g2 fun b hb => (by cases hb)
  have hin := d2i_inner (V := V.re s2.heap []) (k := k) (f := f) (c := c') (cl := cl) d n (FnAt.re hfn g2 fun b hb => (by cases hb)) hd hn hl (fun x y c hx hy => F2.apart x y c (h1 x c hx) (h1 y c hy)) (fun x p hx => ?_) d.length 0 d.length
  · refine wpAny_execs_cons (wpAny_Return_some (wpAny_mono (?_ : Gv (V.re s2.heap []) A _ true (I (dval n d)) s2) (fun v s3 h3 => ?_) fun _ _ x => x))
    · refine EV.ite (V := V.re s2.heap []) (k := k + d.length) (fr := true) (b := !d.isEmpty) (ET.name (p := IL d) rfl ?_) (fun hb => ?_) (fun hb => ?_) A env s2 F gr F2.renv
      · have := Truth.list (V := V.re s2.heap []) (k := k + d.length) (l := d.map iIt) (by simp; (first | lia | omega))
        simpa using this
      · have hne : d ≠ [] := by simpa using hb
        have hpos := List.length_pos_iff.mpr hne
        have := hin hpos (Nat.le_refl _) (by (first | lia | omega))
        simp only [List.drop_zero, Nat.sub_zero, List.take_length] at this
        exact EV.callL rfl (Kept.fnC (FnAt.re hfn g2 fun b hb => (by cases hb))) (.cons (by first | exact ns rfl | exact nIt rfl | exact nAcc rfl | nofun) EV.int (.cons (by first | exact ns rfl | exact nIt rfl | exact nAcc rfl | nofun) (EV.call (ps := [IL d]) rfl X.len Kept.builtin (.cons (by first | exact ns rfl | exact nIt rfl | exact nAcc rfl | nofun) (by trivial) .nil) (Cl.lenI (by (first | lia | omega)))) .nil)) this
      · have : d = [] := by simpa using hb
        subst this
        exact EV.int
    · exact ⟨_, _, rfl, F2.after (Ok.un g2 sub h3.1), h3.2.1, Fresh.it⟩
  · have hm := mem_of_lookup hx
    have nil : ∀ b ∈ ([] : List Addr), ∀ o, s2.heap.get? b = some o → (∀ v, o.data ≠ .cell v) ∧ ¬ ((∃ vs n, o.data = .seq vs n) ∨ o.cls = .type "dict") := fun b hb => (by cases hb)
    simp only [d2iCap, List.mem_cons, List.not_mem_nil, or_false, Prod.mk.injEq] at hm
    rcases hm with ⟨rfl, rfl⟩ | ⟨rfl, rfl⟩ | ⟨rfl, rfl⟩
    · exact F2.cap rfl rfl rfl h1 (h2 _ (by show _ ∈ d2iScope.names; decide)) nil
    · exact F2.cap rfl rfl rfl h1 (h2 _ (by show _ ∈ d2iScope.names; decide)) nil
    · exact F2.cap rfl rfl rfl h1 (h2 _ (by show _ ∈ d2iScope.names; decide)) nil
end
end
section
open PySem PySem.Calls PyProof.Rows PySem.W

theorem EVs.plainAll {V : Wo} {k : Nat} {K} {ρ : Vars} {es : List Expr} {ps : List PV} (h : EVs V k K ρ es ps) (env : Env) (pos : Pos) : (backTo pos (starEach es env)).all (fun x => !x.1) = true := by
  induction h with
  | nil => rfl
  | cons hs h t ih => rw [starEach_cons hs, backTo_cons, List.all_cons, ih]; rfl
section
variable {V : Wo} {k : Nat} {fr : Bool} {K : List (Str × NameKind)} {ρ : Vars}
structure Meth (V : Wo) (p : PV) (T : String) (name : Str) (id : String) : Prop where
  pa : PlainAttrs T
  slot : Slot T name id
  ty : typeOf (.builtin id) = pure (.type "method_descriptor")
  on : ∀ s v, GI V s → p.is s.heap v → s.TypeIs v T ∧ ∀ a, v = .ref a → ∃ ob, s.heap.get? a = some ob ∧ ob.dict = none
theorem EV.meth {o : Expr} {name : Str} {apos pos : Pos} {args : List Expr} {ps : List PV} {p r : PV} {T id : String} (m : Meth V p T name id) (ho : EV V k false K ρ o p) (ha : EVs V k K ρ args ps) (hc : Cl V k (.builtin id) (p :: ps) r) (hl : args.length < 25 := by decide)
    (hline : (apos.endLine == pos.line) = true := by rfl) (hb : ∀ env, attributeBase o name env (eval o env) = eval o env := by intro _; rfl) : EV V k fr K ρ (.Call (.Attribute o name apos) args [] pos) r := EV.weak fun A env s F g R => by
  refine wpAny_Call_method_lateS (hb env) ?_ hline (wpAny_mono (ho A env s F g R) (fun v s1 h1 => ?_) fun _ _ x => x)
  · have := ha.plainAll env pos
    simp only [this, Bool.true_and]
    show (true && decide (args.length + 0 + 0 < 30)) = true
    simp; (first | lia | omega)
  · obtain ⟨o1, hv, _⟩ := h1
    obtain ⟨hT, hd⟩ := m.on s1 v o1.gi hv
    refine ⟨T, id, m.pa, m.slot, m.ty, hT, hd, wp_callWith (ha.plain env pos) Kept.builtin (wp_args pos ha F o1.gi (R.ok g o1) fun vs s2 o2 hp => ⟨o2.gi, ?_⟩)⟩
    have o12 := o1.trans o2
    exact wpAny_mono (hc A s2 (v :: vs) F o2.gi ⟨v, vs, rfl, o2.pv o1.gi hv, hp⟩) (fun v s'' x => ⟨o12.trans x.1, x.2.1, fun _ => (x.2.2 rfl).ok o12⟩) fun _ _ x => x

theorem Meth.bitlen {a : Int} : Meth V (I a) "int" "bit_length" "int.bit_length" := ⟨F.plainAttrs_int, F.slot_int_bit_length, F.type_int_bit_length, fun s v _ hv => by obtain ⟨t, rfl⟩ := hv; exact ⟨typeIs_int s a t, (by first | exact ns rfl | exact nIt rfl | exact nAcc rfl | nofun)⟩⟩
theorem Cl.bitlen {a : Int} : Cl V k (.builtin "int.bit_length") [I a] (I (Builtin.Int.intBits a)) := fun A s vs F g hp => by
  obtain ⟨v, rfl, t, rfl⟩ := hp.one
  exact call_int_bit_length ⟨Ok.tok g, ⟨_, rfl⟩, fun _ => Fresh.it⟩
theorem Meth.join {x : List Nat} : Meth V (S x) "str" "join" "str.join" := ⟨F.plainAttrs_str, F.slot_str_join, F.type_str_join, fun s v _ hv => by obtain ⟨t, rfl⟩ := hv; exact ⟨typeIs_str s _ t, (by first | exact ns rfl | exact nIt rfl | exact nAcc rfl | nofun)⟩⟩

theorem glue_go (l : List (List Nat)) : ∀ acc : List Nat, (l.map fun x => (⟨x.toArray⟩ : Str)).foldl (fun acc p => acc ++ #[] ++ p.cps) acc.toArray = (acc ++ l.flatten).toArray := by
  induction l with
  | nil => intro acc; simp
  | cons x r ih =>
    intro acc
    rw [List.map_cons, List.foldl_cons]
    have : acc.toArray ++ #[] ++ (⟨x.toArray⟩ : Str).cps = (acc ++ x).toArray := by simp
    rw [this, ih]
    simp
theorem joinE : ∀ l : List (List Nat), Txt.join ⟨#[]⟩ (l.map fun x => (⟨x.toArray⟩ : Str)) = ⟨l.flatten.toArray⟩
  | [] => rfl
  | x :: r => by
    rw [List.map_cons]
    show (⟨List.foldl _ _ _⟩ : Str) = _
    exact congrArg Str.mk (glue_go r x)
theorem foldl_len (l : List (List Nat)) : ∀ n, (l.map fun x => (⟨x.toArray⟩ : Str)).toArray.foldl (· + ·.length + (⟨#[]⟩ : Str).length) n = n + l.flatten.length := by
  induction l with
  | nil => intro n; simp
  | cons x r ih =>
    intro n
    have := ih (n + x.length)
    simp only [List.map_cons, List.foldl_toArray', List.foldl_cons, List.flatten_cons, List.length_append] at *
    have e : (⟨#[]⟩ : Str).length = 0 := rfl
    simp only [e, Nat.add_zero, strLen] at *
    rw [this]; (first | lia | omega)
theorem strPairs {h : Heap} : ∀ {l : List (List Nat)} {vs : List Value}, Its h (l.map sIt) vs → ∃ m : List (Str × Tok), vs = strValues m ∧ m.map (·.1) = l.map fun x => (⟨x.toArray⟩ : Str)
  | [], vs, e => ⟨[], by rw [show vs = [] from e]; rfl, rfl⟩
  | a :: r, _, ⟨v, t, e, ⟨tk, hv⟩, ht⟩ => by
    obtain ⟨m, e1, e2⟩ := strPairs ht
    subst hv; subst e; subst e1
    exact ⟨(⟨a.toArray⟩, tk) :: m, rfl, congrArg _ e2⟩
theorem Cl.join {l : List (List Nat)} (hl : l.flatten.length < 1000000) : Cl V k (.builtin "str.join") [S [], SL l] (S l.flatten) := fun A s vs F g hp => by
  obtain ⟨v, u, rfl, ⟨t, rfl⟩, hu⟩ := hp.two
  obtain ⟨a, its, rfl, hL, hi⟩ := PV.isList hu
  obtain ⟨m, e1, e2⟩ := strPairs hi
  have e3 : its = (strValues m).toArray := by rw [← e1]
  rw [e3] at hL
  refine SC.join hL e2 ?_ fun t' k => ⟨Ok.tok g, ⟨t', by rw [joinE]⟩, fun _ => Fresh.it⟩
  unfold JoinOk
  rw [foldl_len]
  unfold Builtin.Str.tooLong sizeLine
  have : ¬ (0 + l.flatten.length > 2 ^ 24) := by (first | lia | omega)
  simpa using this
end
theorem ascii_find (l : List UInt8) (p : Nat) (hp : p < l.length) (h : (l.getD p 0).toNat < 128) : Builtin._codecs.asciiDecoder.find true l.toArray p = .char (l.getD p 0).toNat (p + 1) := by
  unfold Builtin._codecs.asciiDecoder
  simp only []
  have e : l.toArray.getD p 0 = l.getD p 0 := by simp [Array.getD, List.getD, hp]
  rw [e, if_pos h]
theorem ascii_loop {α : Type} (l : List UInt8) (st : α) (f : Nat → Nat × Array Nat × α → Sem (ForInStep (Nat × Array Nat × α)))
    (hf : ∀ x p out, p < l.length → out.size ≤ 1000 → f x (p, out, st) = pure (.yield (p + 1, out ++ [(l.getD p 0).toNat].toArray, st))) (hsz : l.length ≤ 1000) :
    ∀ n i p, p + n = l.length → forIn (List.range' i n) (p, ((l.take p).map UInt8.toNat).toArray, st) f = pure (l.length, (l.map UInt8.toNat).toArray, st)
  | 0, i, p, h => by
    rw [List.range'_zero, List.forIn_nil, ← h, Nat.add_zero, List.take_of_length_le (by (first | lia | omega))]
  | n + 1, i, p, h => by
    rw [List.range'_succ, List.forIn_cons, hf i p _ (by (first | lia | omega)) (by simp; (first | lia | omega)), pure_bind]
    have e : ((l.take p).map UInt8.toNat).toArray ++ [(l.getD p 0).toNat].toArray = ((l.take (p + 1)).map UInt8.toNat).toArray := by
      have hp : p < l.length := by (first | lia | omega)
      have e0 : l.getD p 0 = l[p] := by simp [List.getD, hp]
      rw [e0]
      simp
      rw [List.take_add_one]
      simp [hp]
    rw [e]
    exact ascii_loop l st f hf hsz n (i + 1) (p + 1) (by (first | lia | omega))
theorem runAscii (id : String) (l : List UInt8) (h : ∀ c ∈ l, c.toNat < 128) (hsz : l.length ≤ 1000) : Builtin._codecs.runDecoder id Builtin._codecs.asciiDecoder none true l.toArray 0 [] = pure ((l.map UInt8.toNat).toArray, l.length) := by
  unfold Builtin._codecs.runDecoder
  simp only [Std.Legacy.Range.forIn_eq_forIn_range', Std.Legacy.Range.size]
  rw [show (l.toArray.size - 0 + 1 - 1) / 1 = l.length by simp]
  rw [show (#[] : Array Nat) = ((l.take 0).map UInt8.toNat).toArray by simp, ascii_loop l ({ } : Builtin._codecs.Faults) _ ?_ hsz l.length 0 0 (by (first | lia | omega))]
  · rfl
  · intro x p out hp ho
    have h1 : ¬ out.size > sizeLine := by simp only [sizeLine]; (first | lia | omega)
    have h2 : ¬ p ≥ l.toArray.size := by simp; (first | lia | omega)
    have e0 : l.getD p 0 = l[p] := by simp [List.getD, hp]
    have hc : (l.getD p 0).toNat < 128 := by
      rw [e0]; exact h _ (List.getElem_mem hp)
    dsimp only
    rw [if_neg h1, if_neg h2, ascii_find l p hp hc]
    rfl

theorem ascii_args (a b : Value) : argsOk "bytes.decode" ⟨[a, b], []⟩ := by
  unfold argsOk; rw [signature?_of (id := "bytes.decode") (n := ['e', 'd', 'o', 'c', 'e', 'd']) (o := ['s', 'e', 't', 'y', 'b']) (by kernel_rfl) FB.owner_bytes]; kernel_rfl
section
variable {b : Array UInt8} {c : UInt8} {cs : List UInt8} {t : Tok} {x : PySem.Str} {n : Nat}
theorem ascii_road {id : String} : Builtin._codecs.decodeRoad id b (PySem.Str.ofString "ascii") none [] = (Builtin._codecs.runDecoder id Builtin._codecs.asciiDecoder none true b 0 [] >>= fun r => mkStr ⟨r.1⟩) := by kernel_rfl
theorem ascii_text {t1 t2 : Tok} {d : PySem.Str} (hd : ∀ id, Builtin._codecs.runDecoder id Builtin._codecs.asciiDecoder none true b 0 [] = pure (x.cps, n)) :
    Meets (Builtin.«_codecs.decode.text» ⟨[.bytes b t, .str (PySem.Str.ofString "ascii") t1, .none, .str d t2], []⟩) (fun _ R s => x.length ≤ sizeLine ∧ R (.ok (.ret (.str x s.toks))) { s with toks := s.toks + 1 }) := by
  refine .of_wp fun prog w A R s hS => ?_
  obtain ⟨hsz, h⟩ := hS
  show wpAny _ _ (Builtin.Bytes.bytesLike _ (.bytes b t) >>= fun r => _) _ _ s
  refine wpAny_bind (wpAny_of_eq KBd.like_eq ?_)
  refine wpAny_bind (wpAny_of_eq KBd.held_eq ?_)
  show wpAny _ _ (Builtin._codecs.decodeRoad _ b (PySem.Str.ofString "ascii") none [] >>= fun v => _) _ _ s
  rw [ascii_road, hd]
  refine wpAny_bind (wpAny_bind (wpAny_pure ?_))
  exact wpAny_mkStr (wpAny_pure ⟨_, rfl, h⟩) hsz
theorem ascii_entry {t1 : Tok} : Builtin.«bytes.decode» ⟨[.bytes (c :: cs).toArray t, .str (PySem.Str.ofString "ascii") t1], []⟩ = (mkStr (PySem.Str.ofString "utf-8") >>= fun _ => mkStr (PySem.Str.ofString "ascii") >>= fun e => mkStr (PySem.Str.ofString "bytes.decode") >>= fun d =>
    call (.builtin "_codecs.decode.text") [.bytes (c :: cs).toArray t, e, .none, d] >>= fun v => ret v) := by kernel_rfl
theorem ascii_meets {t1 : Tok} (hd : ∀ id, Builtin._codecs.runDecoder id Builtin._codecs.asciiDecoder none true (c :: cs).toArray 0 [] = pure (x.cps, n)) :
    Meets (Builtin.«bytes.decode» ⟨[.bytes (c :: cs).toArray t, .str (PySem.Str.ofString "ascii") t1], []⟩) (fun _ R s => x.length ≤ sizeLine ∧ ∀ t' k, R (.ok (.ret (.str x t'))) { s with toks := k }) := by
  refine .of_wp fun prog w A R s hS => ?_
  obtain ⟨hsz, h⟩ := hS
  rw [ascii_entry]
  refine wpAny_bind (wpAny_mkStr ?_ (by decide))
  refine wpAny_bind (wpAny_mkStr ?_ (by decide))
  refine wpAny_bind (wpAny_mkStr ?_ (by decide))
  exact wpAny_bind (call_function_meets KBd.kind_text KBd.plain_text KBd.entry_text (KBd.args_text _ _ _ _) (ascii_text hd) ⟨hsz, wpAny_pure ⟨_, rfl, h _ _⟩⟩)
end
noncomputable abbrev asciiL : List Nat := [97, 115, 99, 105, 105]
section
variable {V : Wo} {k : Nat}
theorem Meth.decode {l : List UInt8} : Meth V (By l) "bytes" "decode" "bytes.decode" := ⟨FB.plainAttrs_bytes, FB.slot_bytes_decode, FB.type_bytes_decode, fun s v _ hv => by obtain ⟨t, rfl⟩ := hv; exact ⟨typeIs_bytes s _ t, (by first | exact ns rfl | exact nIt rfl | exact nAcc rfl | nofun)⟩⟩
theorem Cl.decode {l : List UInt8} (hne : l ≠ []) (h : ∀ c ∈ l, c.toNat < 128) (hl : l.length ≤ 1000) : Cl V k (.builtin "bytes.decode") [By l, S asciiL] (S (l.map UInt8.toNat)) := fun A s vs F g hp => by
  obtain ⟨v, u, rfl, ⟨t, rfl⟩, ⟨t2, rfl⟩⟩ := hp.two
  cases l with
  | nil => exact absurd rfl hne
  | cons c cs =>
    have e : (⟨asciiL.toArray⟩ : Str) = PySem.Str.ofString "ascii" := by decide
    rw [e]
    refine call_meets FB.slot_bytes_decode (typeIs_bytes _ _ _) FB.entry_bytes_decode (ascii_args _ _) (ascii_meets (x := ⟨((c :: cs).map UInt8.toNat).toArray⟩) (n := (c :: cs).length) fun id => runAscii id (c :: cs) h hl) ⟨?_, fun t' k => ⟨Ok.tok g, ⟨t', rfl⟩, fun _ => Fresh.it⟩⟩
    rw [strLen, List.length_map]
    simp only [sizeLine]
    (first | lia | omega)
end
end
section
open PySem PySem.Calls PyProof.Rows PySem.W
section
variable {prog : Program} {w : World} {A : Around} {E : Value → Shared → Prop} {s : Shared}
set_option maxRecDepth 512 in
theorem setItem_exact {l : Addr} {items : Array Value} {ne : Nat} {k : Int} {t : Tok} {v : Value} {Q : Unit → Shared → Prop} (ho : s.heap.get? l = some { cls := .type "list", data := .seq items ne })
    (h0 : 0 ≤ k) (hfit : k < 2 ^ 63) (hn : k < items.size)
    (hQ : Q () { s with heap := s.heap.update l (Obj.mapSeq (·.setIfInBounds k.toNat v)) }) :
    wpAny (model prog w) A (setItem (.ref l) (.int k t) v) Q E s := by
  have hl : s.heap.IsList l items := ⟨_, ho, rfl, ne, rfl⟩
  unfold setItem
  try with_reducible refine wpAny_holding ?_
  refine wpAny_bind (wpAny_sequenceKey hl.typeIs (by decide) ?_)
  refine wpAny_bind (wpAny_callSpecial?_slot (name := Str.ofString "__setitem__") hl.typeIs slot_list_setitem
    (wpAny_call_entry slot_list_setitem hl.typeIs entry_list_setitem ?_ (args_list_setitem _ _ _)))
  show wpAny _ _ (Builtin.List.listSubscript? (.int k t) >>= _) _ _ s
  refine wpAny_bind (wpAny_listSubscript_int (fitsIndex_of h0 hfit) ?_)
  clear hfit
  obtain ⟨j, rfl⟩ := Int.eq_ofNat_of_zero_le h0
  have hj : j < items.size := by (first | lia | omega)
  have hx' : items[j]? = some items[j] := Array.getElem?_eq_getElem hj
  show wpAny _ _ ((seqItemAt l j >>= fun r => pure (r.map (j, ·))) >>= _) _ _ s
  refine wpAny_bind (wpAny_bind (wpAny_seqItemAt ho rfl (wpAny_pure ?_)))
  rw [hx']
  show wpAny _ _ (setSeqItemAt l j v >>= _) _ _ s
  refine wpAny_bind (wpAny_setSeqItemAt ho rfl ?_)
  first
    | exact wpAny_bind (wpAny_pure (wpAny_pure ⟨.none, rfl, wpAny_pure hQ⟩))
    | exact wpAny_pure ⟨.none, rfl, wpAny_pure hQ⟩
end


section
variable {V : Wo} {k : Nat} {fr : Bool} {K : List (Str × NameKind)} {ρ : Vars} {env : Env} {s₀ s s' : Shared} {W : List Addr} {Φn : Vars → Prop} {Φr : Vars → PV → Prop}

theorem Bi.mulL {x : It} {n : Int} (hn : 0 ≤ n) (h1 : n < 1000000) : Bi V k (binaryOp .Mult) (.list [x]) (I n) (.list (List.replicate n.toNat x)) := fun A s v u Fi g hv hu => by
  obtain ⟨a, vs, m, rfl, ho, hi⟩ := hv
  obtain ⟨t, rfl⟩ := hu
  have hsz : vs.size = 1 := by have := hi.length; simpa using this
  refine wpAny_binaryOp_repeat_ref (T := "list") (U := "int") (by decide) ⟨_, ho, rfl⟩ (fun s' => typeIs_int s' n t) noFill_list_mul F.fills_int_mul F.slot_int_rmul repeat_list F.slot_int_index.lookup
    (call_meets F.slot_int_rmul (typeIs_int s n t) F.entry_int_rmul (F.args_int_rmul_2 _ _) (int___rmul___int_list n t a vs m)
      ⟨ho, rfl, ⟨_, ho, rfl⟩, call_meets F.slot_list_mul ⟨_, ho, rfl⟩ F.entry_list_mul (F.args_list_mul_2 _ _)
        (AutoListH.list___mul___list_int_3 a vs m n t (by simp [Builtin.List.listFitsIndex]; (first | lia | omega)) (by rw [hsz]; (first | lia | omega)) (by rw [hsz]; simp [Builtin.List.listTooLong, sizeLine]; (first | lia | omega)))
        ⟨ho, ?_⟩⟩)
  have hne : vs.isEmpty = false := by simp [Array.isEmpty, hsz]
  rw [hne]
  simp only [Bool.false_eq_true, if_false]
  have e : (List.foldl (fun x1 x2 => x1 ++ x2) #[] (List.replicate n.toNat vs)).toList = (List.replicate n.toNat vs.toList).flatten := by
    have : ∀ (m : Nat) (acc : Array Value), (List.foldl (fun x1 x2 => x1 ++ x2) acc (List.replicate m vs)).toList = acc.toList ++ (List.replicate m vs.toList).flatten := by
      intro m
      induction m with
      | zero => intro acc; simp
      | succ m ih => intro acc; rw [List.replicate_succ, List.foldl_cons, ih, List.replicate_succ]; simp
    rw [this]; simp
  have hz : Its s.heap (List.replicate n.toNat x) (List.foldl (fun x1 x2 => x1 ++ x2) #[] (List.replicate n.toNat vs)).toList := by
    rw [e]
    generalize n.toNat = m
    induction m with
    | zero => rfl
    | succ m ih =>
      rw [List.replicate_succ, List.replicate_succ, List.flatten_cons, show x :: List.replicate m x = [x] ++ List.replicate m x from rfl]
      exact hi.append ih
  have nl := newL (n := 0) g hz
  exact ⟨nl.1, nl.2, fun _ => freshNew⟩
theorem Bi.addL {l m : List It} (hl : l.length + m.length < 1000000) : Bi V k (binaryOp .Add) (.list l) (.list m) (.list (l ++ m)) := fun A s v u F g hv hu => by
  obtain ⟨a, vs, n, rfl, ho, hi⟩ := hv
  obtain ⟨b, ws, n2, rfl, hb, hj⟩ := hu
  have e1 : vs.size = l.length := by have := hi.length; simpa using this
  have e2 : ws.size = m.length := by have := hj.length; simpa using this
  have nl := newL (n := 0) (vs := vs ++ ws) g (by rw [Array.toList_append]; exact hi.append hj)
  exact P.add_list ho hb ⟨nl.1, nl.2, fun _ => freshNew⟩ (by rw [e1, e2]; simp only [sizeLine]; (first | lia | omega))
theorem Bi.addB {a b : List UInt8} (hl : a.length + b.length < 1000000) : Bi V k (binaryOp .Add) (By a) (By b) (By (a ++ b)) := fun A s v u F g hv hu => by
  obtain ⟨t, rfl⟩ := hv
  obtain ⟨t2, rfl⟩ := hu
  exact KBy.add_bytes (by simp; (first | lia | omega)) fun t' kk => ⟨Ok.tok g, ⟨t', by simp⟩, fun _ => Fresh.it⟩

theorem wp_setItem {A : Around} {a : Addr} {l : List It} {i : Nat} {t : Tok} {x : It} {v : Value} (F : Fit A k) (g : GI V s) (hs : V.h0.get? a = none) (hl : (PV.own a l).is s.heap (.ref a)) (hi : i < l.length) (hl2 : l.length < 1000000) (hv : x.is s.heap v) :
    wpAny (model PySem.Challenge.pw_wz0006_01 V.w) A (setItem (.ref a) (.int i t) v) (fun _ s' => Mo V [a] s s' ∧ (PV.own a (l.set i x)).is s'.heap (.ref a)) No s := by
  obtain ⟨vs, n, _, ho, hI⟩ := hl
  have e : vs.size = l.length := by have := hI.length; simpa using this
  have fin : Mo V [a] s { s with heap := s.heap.update a (Obj.mapSeq (·.setIfInBounds i v)) } ∧ (PV.own a (l.set i x)).is (s.heap.update a (Obj.mapSeq (·.setIfInBounds i v))) (.ref a) := by
    have hj : i < vs.size := by (first | lia | omega)
    have sb := Heap.SameBut.update s.heap a (Obj.mapSeq (·.setIfInBounds i v))
    have mo : Mo V [a] s { s with heap := s.heap.update a (Obj.mapSeq (·.setIfInBounds i v)) } := Mo.of (tk := s.toks) g (fun b hb => by
      rw [List.mem_singleton] at hb; subst hb
      exact ⟨hs, fun o e' => .inr fun ws h => by rw [ho] at e'; cases e'; cases h⟩) fun b o hb e' => sb.extBut b o (fun h => hb (by rw [h]; simp)) e'
    have nt : ∀ b ∈ [a], NT s.heap b := fun b hb => by
      rw [List.mem_singleton] at hb; subst hb
      intro o e' hc; rw [ho] at e'; cases e'; exact absurd hc (by show ¬ Value.type _ = Value.type _; decide)
    refine ⟨mo, vs.setIfInBounds i v, _, rfl, Heap.get?_update_self _ ho rfl, ?_⟩
    have hI' := mo.its g nt hI
    have hv' := mo.it g nt hv
    have e2 : (vs.setIfInBounds i v).toList = vs.toList.take i ++ v :: vs.toList.drop (i + 1) := by
      rw [Array.toList_setIfInBounds, List.set_eq_take_append_cons_drop, if_pos (by simpa using hj)]
    have e3 : l.set i x = l.take i ++ x :: l.drop (i + 1) := by rw [List.set_eq_take_append_cons_drop, if_pos hi]
    rw [e2, e3]
    exact (hI'.take i).append ⟨v, _, rfl, hv', hI'.drop (i + 1)⟩
  exact setItem_exact ho (by (first | lia | omega)) (by (first | lia | omega)) (by (first | lia | omega)) fin
theorem Fr.ownH0 {x : Str} {p : PV} {a : Addr} (Fx : Fr V K env s₀ W ρ s) (g₀ : GI V s₀) (hW : ∀ b ∈ W, V.h0.get? b = none) (hx : ρ x = some p) (ha : p.addr = some a) : V.h0.get? a = none := by
  rcases Fx.own x p a hx ha with h | h
  · exact hW a h
  · exact g₀.noH0 h
end
end
section
open PySem PySem.Calls PyProof.Rows PySem.W

noncomputable def CM (V : Wo) (k : Nat) (f : Value) (ps : List PV) (a : Addr) (p p' : PV) : Prop :=
  ∀ (A : Around) (s : Shared) (vs : List Value), Fit A k → GI V s → V.h0.get? a = none → p.is s.heap (.ref a) → PVs s.heap ps vs →
    wpAny (model prog V.w) A (call f vs) (fun v s' => v = .none ∧ Mo V [a] s s' ∧ p'.is s'.heap (.ref a)) No s

section
variable {V : Wo} {k : Nat} {fr : Bool} {K : List (Str × NameKind)} {ρ : Vars} {env : Env} {s₀ s s' : Shared} {W : List Addr} {Φn : Vars → Prop} {Φr : Vars → PV → Prop}
theorem Mv.write {x : Str} {p p' : PV} {a : Addr} (hx : ρ x = some p) (ha : p.addr = some a) (ha' : p'.addr = some a) (m : Mo V [a] s s') : Mv V K env W ρ (up ρ x p') s s' :=
  ⟨fun b o hb ht e => m.keep b o (fun h => by rw [List.mem_singleton] at h; subst h; exact hb (Pl.own hx ha)) ht e, fun y q b hy hq => by
    unfold up at hy
    by_cases e : y = x
    · rw [if_pos e] at hy; cases hy; rw [ha'] at hq; cases hq; exact .inl (Pl.own hx ha)
    · rw [if_neg e] at hy; exact .inl (Pl.own hy hq)⟩
theorem St1.retNone {pos : Pos} (h : Φr ρ N0) : St1 V k K W ρ (.Return none pos) Φn Φr := fun A env s₀ s F g Fx => wpAny_Return_none ⟨ρ, N0, h, Fx, rfl, Fresh.it⟩
theorem St1.setItem {x : Str} {xp sp pos : Pos} {a : Addr} {l : List It} {i : Nat} {ie e : Expr} {z : It} (hx : ρ x = some (.own a l)) (hW : ∀ b ∈ W, V.h0.get? b = none) (he : EV V k false K ρ e (.it z)) (hi : EV V k false K ρ ie (I i)) (hlt : i < l.length) (hl : l.length < 1000000)
    (hn : noComp e = true := by rfl) (hd : (x == ("__debug__" : Str)) = false := by decide) (hcd : (x == ("__classdict__" : Str)) = false := by decide) :
    St1 V k K W ρ (.Assign [.Subscript (.Name x xp) ie sp] e pos) (fun ρ' => ρ' = up ρ x (.own a (l.set i z))) Φr := fun A env s₀ s F g Fx => by
  refine wpAny_Assign_Subscript (wpAny_mono (he A env s F Fx.gi Fx.renv) (fun v s1 h1 => ?_) fun _ _ x => x) (swaps_none hn)
  have F1 := Fx.after h1.1
  obtain ⟨u, hl1, hu⟩ := F1.vars hx
  obtain ⟨vs, n, rfl, r⟩ := id hu
  refine wp_name F1.renv.kind hl1 ?_ hd hcd
  refine wpAny_mono (hi A env s1 F F1.gi F1.renv) (fun iv s2 h2 => ?_) fun _ _ x => x
  obtain ⟨o2, ⟨t, rfl⟩, _⟩ := h2
  have F2 := F1.after o2
  refine wpAny_mono (wp_setItem F F2.gi (Fx.ownH0 g hW hx rfl) (o2.pv F1.gi hu) hlt hl (o2.it F1.gi h1.2.1)) (fun _ s3 h3 => ?_) fun _ _ x => x
  exact ⟨_, rfl, F2.write hx rfl h3.1 h3.2 rfl (by first | exact ns rfl | exact nIt rfl | exact nAcc rfl | nofun), ((Mv.ok (h1.1.trans o2)).trans (Mv.write hx rfl rfl h3.1) F2.gi)⟩
theorem St1.callL {x y : Str} {xp pos spos : Pos} {f a : Addr} {es : List Expr} {ps : List PV} {p p' : PV} (hx : ρ x = some (.fn f)) (hk : Kept V (.ref f)) (ha : EVs V k K ρ es ps) (hy : ρ y = some p) (hp : p.addr = some a) (hp' : p'.addr = some a) (hacc : ∀ b d g l, p' ≠ .acc b d g l) (hW : ∀ b ∈ W, V.h0.get? b = none) (hc : CM V k (.ref f) ps a p p')
    (hd : (x == ("__debug__" : Str)) = false := by decide) (hn : (x == ("__classdict__" : Str)) = false := by decide) :
    St1 V k K W ρ (.Expr (.Call (.Name x xp) es [] pos) spos) (fun ρ' => ρ' = up ρ y p') Φr := fun A env s₀ s F g Fx => by
  refine wpAny_Expr ?_ (by unfold interactive; rw [Fx.renv.kind]; rfl)
  obtain ⟨v, l, hv⟩ := Fx.vars hx
  have hv : v = .ref f := hv
  subst hv
  show wpAny _ A (do callWith pos (← eval (.Name x xp) env) [] (backTo pos (starEach es env)) (backToKw pos (keywordEach [] env))) _ _ s
  refine wpAny_bind (wp_name Fx.renv.kind l ?_ hd hn)
  refine wp_callWith (ha.plain env pos) hk (wp_args pos ha F Fx.gi Fx.renv fun vs s' o hps => ⟨o.gi, ?_⟩)
  have F1 := Fx.after o
  obtain ⟨u, _, hu⟩ := F1.vars hy
  have e := (PV.addr_is hp hu).1
  subst e
  refine wpAny_mono (hc A s' vs F o.gi (Fx.ownH0 g hW hy hp) hu hps) (fun v s2 h2 => ?_) fun _ _ x => x
  obtain ⟨rfl, m, hp2⟩ := h2
  exact ⟨_, rfl, F1.write hy hp m hp2 hp' fun b d g l e => absurd e (hacc b d g l), (Mv.ok o).trans (Mv.write hy hp hp' m) o.gi⟩
end

theorem CM.fnC {V : Wo} {k : Nat} {n q : Str} {fa c a : Addr} {cl : List (Str × Addr)} {params : Arguments} {body : List Stmt} {scope : Scope} {names : List Str} {ps : List PV} {cap : List (Str × PV)} {x : Str} {p p' : PV} (h : FnAt V.h0 (some (params, body, scope)) n q fa c cl .none) (hnd : names.Nodup) (hlen : names.length = ps.length)
    (hm : ∀ x ∈ names, scope.names.lookup x = some .local) (hnc : ∀ x ∈ scope.names, x.2 ≠ .cell) (hap : ∀ x y c, cl.lookup x = some c → cl.lookup y = some c → x = y)
    (hcap : ∀ s, GI V s → p.is s.heap (.ref a) → ∀ y q, cap.lookup y = some q → CapAt s.heap scope.names cl y q) (hone : ∀ y q, cap.lookup y = some q → (∀ b d f l, q ≠ .acc b d f l) ∧ (∀ l, q ≠ .list l) ∧ ∀ b, q.addr = some b → b = a ∧ y = x) (hin : ∀ q ∈ ps, q.addr = none ∧ ∀ l, q ≠ .list l) (hpa : p.addr = some a) (hpa' : p'.addr = some a)
    (hbind : ∀ fd : FuncData, fd.params = params → fd.defaults = .none → ∀ vs : List Value, vs.length = ps.length → bindArgs fd ⟨vs, []⟩ = pure (names.zip vs))
    (hbody : Bk V k scope.names [a] (iniC names ps cap) body (fun ρ' => ρ' x = some p') (fun ρ' r => r = N0 ∧ ρ' x = some p'))
    (hk : scope.kind = .function := by rfl) (hco : scope.isCoroutine = false := by rfl) (hgen : scope.isGenerator = false := by rfl) : CM V (k + 1) (.ref fa) ps a p p' := fun A s vs F g ha0 hp hps => by
  obtain ⟨fd, ho, hn, hq, hs, ⟨b, hb⟩, hcl, hgl, hbl, hdf, hkd, hcode⟩ := h.obj
  simp only [Option.some.injEq, Prod.mk.injEq] at hs
  obtain ⟨ep, eb, es⟩ := hs
  rw [hb] at eb
  have eb : body = b := eb
  subst eb
  obtain ⟨_, o, ws, nn, hao, had, hc1, hc2, hc3⟩ := PV.addr_is hpa hp
  refine wpAny_call (codeAny_call_def (binds := names.zip vs) F.room (g.keep _ _ ho) rfl (g.ok.nolimit.keeps g.keep) (by rw [hcode, hq]; exact h.code.keeps g.keep) hb (.of_eq (hbind fd ep.symm hdf vs hps.length)) (es ▸ hnc) (fun x hx => ?_) (fun h₁ hns hkeep => ?_) (es ▸ hco) (es ▸ hgen) (es ▸ hk))
  · rw [← es]; exact hm x.1 (List.of_mem_zip (a := x.1) (b := x.2) hx).1
  · have split : ∀ x p, iniC names ps cap x = some p → p ∈ ps ∨ cap.lookup x = some p := fun x p h => by
      unfold iniC at h
      cases e : (names.zip ps).lookup x with
      | some q => rw [e] at h; cases h; exact .inl (List.of_mem_zip (mem_of_lookup e)).2
      | none => rw [e] at h; exact .inr h
    have Fx := Fr.enterC (V := V) (W := [a]) (a := fa) (fd := fd) (names := names) (ps := ps) (vs := vs) (cap := cap) (h₁ := h₁) g (es ▸ hk) hgl hbl hnd (by rw [hlen, hps.length]) (by rw [← es]; exact hm) (es ▸ hnc) hps (hcl ▸ hap)
      (fun y q hy => by rw [← es, hcl]; exact hcap s g hp y q hy)
      (fun x p hx => (hin p (List.of_mem_zip (mem_of_lookup hx)).2).1) (fun y q b hy hb => by rw [((hone y q hy).2.2 b hb).1]; simp) (fun y q hy => (hone y q hy).1)
      (fun y z q r b hy hz hb hb' => by rw [((hone y q hy).2.2 b hb).2, ((hone z r hz).2.2 b hb').2]) (fun y q b hy hb z l hz => by
        rcases split z _ hz with hz | hz
        · exact (hin _ hz).2 l rfl
        · exact (hone z _ hz).2.1 l rfl) (fun b hb => by rw [List.mem_singleton] at hb; subst hb; exact ⟨o, hao, hc1, hc3⟩) hns hkeep (s.toks + (names.zip vs).length)
    rw [← es] at Fx
    have fin : ∀ ρ' s', ρ' x = some p' → Fr V scope.names (callEnv fd s.heap.objs.size fa) s [a] ρ' s' → Mo V [a] s s' ∧ p'.is s'.heap (.ref a) := fun ρ' s' hx' F' => by
      obtain ⟨u, _, hu⟩ := F'.vars hx'
      have := (PV.addr_is hpa' hu).1
      subst this
      exact ⟨F'.mo, hu⟩
    refine wpAny_mono (hbody (A.deeper (callEnv fd s.heap.objs.size fa)) _ s _ (F.deeper _) g Fx) (fun fl s' x => ?_) fun _ _ x => x.elim
    cases fl with
    | next =>
      obtain ⟨ρ', hx', F', _⟩ := x
      exact ⟨rfl, fin ρ' s' hx' F'⟩
    | brk => exact x.elim
    | cont => exact x.elim
    | ret v =>
      obtain ⟨ρ', r, ⟨rfl, hx'⟩, F', hr, _⟩ := x
      exact ⟨hr, fin ρ' s' hx' F'⟩

noncomputable def digs (n : Nat) : Nat → Int → List Int
  | 0, _ => []
  | m + 1, x => x % 2 ^ n :: digs n m (x / 2 ^ n)
theorem digs_length (n : Nat) : ∀ m x, (digs n m x).length = m
  | 0, _ => rfl
  | m + 1, x => by rw [digs, List.length_cons, digs_length n m]
theorem digs_append (n : Nat) : ∀ (a b : Nat) (x : Int), digs n (a + b) x = digs n a (x % 2 ^ (n * a)) ++ digs n b (x / 2 ^ (n * a))
  | 0, b, x => by simp [digs]
  | a + 1, b, x => by
    rw [Nat.succ_add, digs, digs, digs_append n a b, List.cons_append]
    have p1 : (0 : Int) < 2 ^ n := Int.pow_pos (by decide)
    have p2 : (0 : Int) < 2 ^ (n * a) := Int.pow_pos (by decide)
    have e : (2 : Int) ^ (n * (a + 1)) = 2 ^ n * 2 ^ (n * a) := by rw [Nat.mul_succ, Int.pow_add, Int.mul_comm]
    have h1 : x % 2 ^ (n * (a + 1)) % 2 ^ n = x % 2 ^ n := by rw [e]; exact Int.emod_emod_of_dvd x (Int.dvd_mul_right _ _)
    have h2 : x % 2 ^ (n * (a + 1)) / 2 ^ n = x / 2 ^ n % 2 ^ (n * a) := by
      rw [e]
      have := Int.emod_def x (2 ^ n * 2 ^ (n * a))
      rw [this, Int.mul_assoc, Int.sub_mul_ediv_left _ _ (Int.ne_of_gt p1), ← Int.ediv_ediv_of_nonneg (Int.le_of_lt p1)]
      rw [Int.emod_def]
    have h3 : x / 2 ^ (n * (a + 1)) = x / 2 ^ n / 2 ^ (n * a) := by rw [e, Int.ediv_ediv_of_nonneg (Int.le_of_lt p1)]
    rw [h1, h2, h3]
noncomputable def fill (n : Nat) (l : List It) (L R : Nat) (x : Int) : List It := l.take L ++ (digs n (R - L) x).map iIt ++ l.drop R

theorem and_high (x s : Nat) : x &&& (x >>> s) <<< s = (x >>> s) <<< s := by
  apply Nat.eq_of_testBit_eq
  intro i
  rw [Nat.testBit_and, Nat.testBit_shiftLeft, Nat.testBit_shiftRight]
  by_cases h : s ≤ i
  · have e : s + (i - s) = i := by (first | lia | omega)
    simp [h, e]
  · simp [h]
theorem xor_lowI {x : Int} (h : 0 ≤ x) (s : Nat) : Builtin.bitXor x (x.fdiv (2 ^ s) * 2 ^ s) = x % 2 ^ s := by
  obtain ⟨n, rfl⟩ := Int.eq_ofNat_of_zero_le h
  have p : (0 : Int) < 2 ^ s := Int.pow_pos (by decide)
  have e1 : ((n : Int).fdiv (2 ^ s) * 2 ^ s) = (((n >>> s) <<< s : Nat) : Int) := by
    rw [Int.fdiv_eq_ediv_of_nonneg _ (Int.le_of_lt p), Nat.shiftLeft_eq, Nat.shiftRight_eq_div_pow]
    norm_cast
  have e2 : (n : Int) % 2 ^ s = n - (n : Int).fdiv (2 ^ s) * 2 ^ s := by
    rw [Int.fdiv_eq_ediv_of_nonneg _ (Int.le_of_lt p), Int.emod_def, Int.mul_comm]
  rw [e2, bitXor_and, e1, bitAnd_pp (Int.natCast_nonneg _) (Int.natCast_nonneg _), Int.toNat_natCast, Int.toNat_natCast, and_high]
  (first | lia | omega)

section
variable {V : Wo} {k : Nat}
noncomputable def i2dBody : List Stmt := match bodyN 8 with
  | _ :: .FunctionDef _ _ body _ _ _ _ _ _ _ :: _ => body
  | _ => []
noncomputable def i2dScope : Scope := match bodyN 8 with
  | _ :: .FunctionDef _ _ _ _ _ _ scope _ _ _ :: _ => scope
  | _ => default
noncomputable def i2dParams : Arguments := match bodyN 8 with
  | _ :: .FunctionDef _ args _ _ _ _ _ _ _ _ :: _ => args
  | _ => ⟨[], [], none, [], [], none, []⟩
noncomputable abbrev i2dCap (n : Nat) (f a : Addr) (l : List It) : List (Str × PV) := [("a_digits", .own a l), ("inner", .fn f), ("n", I n)]
theorem fill_len {n L M : Nat} {l : List It} {x : Int} (h1 : L ≤ M) (h2 : M ≤ l.length) : (fill n l L M x).length = l.length := by
  unfold fill
  rw [List.length_append, List.length_append, List.length_map, digs_length, List.length_take, List.length_drop, Nat.min_eq_left (Nat.le_trans h1 h2), Nat.add_sub_cancel' h1, Nat.add_sub_cancel' h2]
theorem fill_two {n L M R : Nat} {l : List It} {x : Int} (h1 : L ≤ M) (h2 : M ≤ R) (h3 : R ≤ l.length) : fill n (fill n l L M (x % 2 ^ (n * (M - L)))) M R (x / 2 ^ (n * (M - L))) = fill n l L R x := by
  have e := subM h1 h2
  have len : (l.take L ++ (digs n (M - L) (x % 2 ^ (n * (M - L)))).map iIt).length = M := by
    rw [List.length_append, List.length_map, digs_length, List.length_take, Nat.min_eq_left (Nat.le_trans h1 (Nat.le_trans h2 h3)), Nat.add_sub_cancel' h1]
  unfold fill
  rw [e, digs_append, List.map_append, List.take_append_of_le_length (Nat.le_of_eq len.symm), List.take_of_length_le (Nat.le_of_eq len), List.drop_append, List.drop_of_length_le (Nat.le_trans (Nat.le_of_eq len) h2), len, List.nil_append, List.drop_drop]
  have e2 : M + (R - M) = R := Nat.add_sub_cancel' h2
  rw [e2]
  simp only [List.append_assoc]
set_option maxHeartbeats 1000000 in
theorem i2d_inner {f c a : Addr} {cl : List (Str × Addr)} (n : Nat) (h : FnAt V.h0 (some (i2dParams, i2dBody, i2dScope)) "inner" "_int2digits.<locals>.inner" f c cl .none) (hn : n ≤ 10000)
    (hap : ∀ x y c, cl.lookup x = some c → cl.lookup y = some c → x = y) (hcap : CapAt V.h0 i2dScope.names cl "inner" (.fn f) ∧ CapAt V.h0 i2dScope.names cl "n" (I n) ∧ ∃ c, cl.lookup ("a_digits" : Str) = some c ∧ V.h0.IsCell c (some (.ref a))) :
    ∀ m (x : Int) (L R : Nat) (l : List It), L < R → R ≤ l.length → R - L ≤ m → l.length < 1000 → 0 ≤ x → x < 2 ^ (n * (R - L)) → CM V (k + m) (.ref f) [I x, I L, I R] a (.own a l) (.own a (fill n l L R x)) := by
  intro m
  induction m with
  | zero => intro x L R l h1 h2 h3; exact absurd h1 (Nat.not_lt.mpr (Nat.sub_eq_zero_iff_le.mp (Nat.le_zero.mp h3)))
  | succ m ih =>
    intro x L R l h1 h2 h3 hl hx0 hx1 A s vs F g ha0 hpa hps
    have hbody : Bk V (k + m) i2dScope.names [a] (iniC ["x", "L", "R"] [I x, I L, I R] (i2dCap n f a l)) i2dBody (fun ρ' => ρ' "a_digits" = some (.own a (fill n l L R x))) (fun ρ' p => p = N0 ∧ ρ' "a_digits" = some (.own a (fill n l L R x))) := by
      have hW : ∀ b ∈ [a], V.h0.get? b = none := fun b hb => by rw [List.mem_singleton] at hb; rw [hb]; exact ha0
      refine Bk.cons (Φm := fun ρ => L + 1 ≠ R ∧ ρ = iniC ["x", "L", "R"] [I x, I L, I R] (i2dCap n f a l)) (St1.ite (ET.cmp (EV.bin (by trivial) (by trivial) Bi.add) (by trivial) Bi.eqI) (fun hb => ?_) (fun hb => Bk.nil ⟨?_, rfl⟩)) ?_
      · have hR : R = L + 1 := by have : (L : Int) + 1 = R := by simpa using hb
                                  exact Int.ofNat_inj.mp this.symm
        subst hR
        refine Bk.step (St1.setItem (i := L) (z := iIt x) rfl hW (by trivial) (by trivial) (by (first | lia | omega)) (by (first | lia | omega))) ?_
        refine Bk.last (St1.retNone ⟨rfl, ?_⟩)
        have e : fill n l L (L + 1) x = l.set L (iIt x) := by
          unfold fill
          have e1 : L + 1 - L = 1 := Nat.add_sub_cancel_left ..
          have e2 : x % 2 ^ n = x := Int.emod_eq_of_lt hx0 (by rw [e1, Nat.mul_one] at hx1; exact hx1)
          rw [e1, digs, digs, e2, List.set_eq_take_append_cons_drop, if_pos (show L < l.length from h2)]
          simp
        rw [e]; rfl
      · intro e
        have : ¬ ((L : Int) + 1 = R) := by simpa using hb
        exact this (congrArg (Int.ofNat) e)
      · rintro _ ⟨hne, rfl⟩
        obtain ⟨M, hmid, hLM, hMR⟩ := mid_of h1 hne
        have hsh : ((M : Int) - L) * n = (n * (M - L) : Nat) := by rw [Int.natCast_mul, Int.ofNat_sub (Nat.le_of_lt hLM), Int.mul_comm]
        have p2 : (0 : Int) < 2 ^ (n * (M - L)) := Int.pow_pos (by decide)
        have hup : x.fdiv (2 ^ (((n * (M - L) : Nat) : Int)).toNat) = x / 2 ^ (n * (M - L)) := by
          rw [Int.toNat_natCast, Int.fdiv_eq_ediv_of_nonneg _ (Int.le_of_lt p2)]
        have hlow : Builtin.bitXor x (x / 2 ^ (n * (M - L)) * 2 ^ (((n * (M - L) : Nat) : Int)).toNat) = x % 2 ^ (n * (M - L)) := by
          rw [← xor_lowI hx0, Int.toNat_natCast, Int.fdiv_eq_ediv_of_nonneg _ (Int.le_of_lt p2)]
        have hu0 : 0 ≤ x / 2 ^ (n * (M - L)) := Int.ediv_nonneg hx0 (Int.le_of_lt p2)
        have hu1 : x / 2 ^ (n * (M - L)) < 2 ^ (n * (R - M)) := by
          have e : n * (R - L) = n * (R - M) + n * (M - L) := by rw [← Nat.mul_add, ← Nat.add_comm (M - L), subM (Nat.le_of_lt hLM) (Nat.le_of_lt hMR)]
          rw [e, Int.pow_add] at hx1
          exact Int.ediv_lt_of_lt_mul p2 hx1
        refine Bk.step (St1.assign (x := "mid") (i := .at (.int M)) (hmid ▸ EV.bin (EV.bin (by trivial) (by trivial) Bi.add) (by trivial) (Bi.shr (by decide))) (.inl rfl)) ?_
        refine Bk.step (St1.assign (x := "shift") (i := .at (.int ((n * (M - L) : Nat) : Int))) (hsh ▸ EV.bin (EV.bin (by trivial) (by trivial) Bi.sub) (by trivial) (Bi.mul (mulOk_sub (Nat.le_trans (Nat.le_of_lt hMR) (Nat.le_trans h2 (Nat.le_of_lt hl))) (Nat.le_of_lt hLM)))) (.inl rfl)) ?_
        refine Bk.step (St1.assign (x := "upper") (i := .at (.int (x / 2 ^ (n * (M - L))))) (hup ▸ EV.bin (by trivial) (by trivial) (Bi.shr (Int.natCast_nonneg _))) (.inl rfl)) ?_
        have hbits : (Builtin.Int.intBits (x / 2 ^ (n * (M - L))) : Int) + ((n * (M - L) : Nat) : Int) ≤ 2 ^ 27 := by
          have hb := bits_le hu0 hu1
          have b1 : n * (R - M) ≤ n * 1000 := Nat.mul_le_mul_left n (sub_le' (Nat.le_trans h2 (Nat.le_of_lt hl)))
          have b2 : n * (M - L) ≤ n * 1000 := Nat.mul_le_mul_left n (sub_le' (Nat.le_trans (Nat.le_of_lt hMR) (Nat.le_trans h2 (Nat.le_of_lt hl))))
          (first | lia | omega)
        refine Bk.step (St1.assign (x := "lower") (i := .at (.int (x % 2 ^ (n * (M - L))))) (by
          rw [← hlow]
          exact EV.bin (by trivial) (EV.bin (by trivial) (by trivial) (Bi.shl (Int.natCast_nonneg _) hbits)) Bi.xor) (.inl rfl)) ?_
        · have hm0 : 0 ≤ x % 2 ^ (n * (M - L)) := Int.emod_nonneg _ (Int.ne_of_gt p2)
          have hm1 : x % 2 ^ (n * (M - L)) < 2 ^ (n * (M - L)) := Int.emod_lt_of_pos _ p2
          have hMl : M ≤ l.length := Nat.le_trans (Nat.le_of_lt hMR) h2
          have lenf := fill_len (n := n) (x := x % 2 ^ (n * (M - L))) (Nat.le_of_lt hLM) hMl
          refine Bk.step (St1.callL (x := "inner") (y := "a_digits") (f := f) (a := a) (by rfl) (Kept.fnC h) (.cons (by first | exact ns rfl | exact nIt rfl | exact nAcc rfl | nofun) (by trivial) (.cons (by first | exact ns rfl | exact nIt rfl | exact nAcc rfl | nofun) (by trivial) (.cons (by first | exact ns rfl | exact nIt rfl | exact nAcc rfl | nofun) (by trivial) .nil))) (by rfl) (by rfl) (by rfl) (by first | exact ns rfl | exact nIt rfl | exact nAcc rfl | nofun) hW (ih (x % 2 ^ (n * (M - L))) L M l hLM hMl (subM_lo (Nat.le_of_lt hLM) hMR h3) hl hm0 hm1)) ?_
          refine Bk.step (St1.callL (x := "inner") (y := "a_digits") (f := f) (a := a) (by rfl) (Kept.fnC h) (.cons (by first | exact ns rfl | exact nIt rfl | exact nAcc rfl | nofun) (by trivial) (.cons (by first | exact ns rfl | exact nIt rfl | exact nAcc rfl | nofun) (by trivial) (.cons (by first | exact ns rfl | exact nIt rfl | exact nAcc rfl | nofun) (by trivial) .nil))) (by rfl) (by rfl) (by rfl) (by first | exact ns rfl | exact nIt rfl | exact nAcc rfl | nofun) hW (ih (x / 2 ^ (n * (M - L))) M R _ hMR (lenf.symm ▸ h2) (subM_hi hLM hMR h3) (lenf.symm ▸ hl) hu0 hu1)) ?_
          refine Bk.nil ?_
          show some (PV.own a _) = _
          rw [fill_two (Nat.le_of_lt hLM) (Nat.le_of_lt hMR) h2]
    refine CM.fnC (names := ["x", "L", "R"]) (cap := i2dCap n f a l) (x := "a_digits") h (by decide) rfl (by decide) (by decide) hap (fun s g hp y q hy => ?_) (fun y q hy => ?_) (by simp [PV.addr]) rfl rfl (fun fd hp hdf vs hl => ?_) hbody rfl rfl rfl A s vs F g ha0 hpa hps
    · have hm := mem_of_lookup hy
      have kp : ∀ {y q}, CapAt V.h0 i2dScope.names cl y q → CapAt s.heap i2dScope.names cl y q := fun {y q} ⟨c1, c, v, c2, c3, c4⟩ => ⟨c1, c, v, c2, c3.keeps g.keep, PV.keeps (fun b o _ e => g.keep b o e) c4⟩
      simp only [i2dCap, List.mem_cons, List.not_mem_nil, or_false, Prod.mk.injEq] at hm
      rcases hm with ⟨rfl, rfl⟩ | ⟨rfl, rfl⟩ | ⟨rfl, rfl⟩
      · obtain ⟨c, e1, e2⟩ := hcap.2.2
        exact ⟨rfl, c, _, e1, e2.keeps g.keep, hp⟩
      · exact kp hcap.1
      · exact kp hcap.2.1
    · have hm := mem_of_lookup hy
      simp only [i2dCap, List.mem_cons, List.not_mem_nil, or_false, Prod.mk.injEq] at hm
      rcases hm with ⟨rfl, rfl⟩ | ⟨rfl, rfl⟩ | ⟨rfl, rfl⟩
      · exact ⟨(by first | exact ns rfl | exact nIt rfl | exact nAcc rfl | nofun), (by first | exact ns rfl | exact nIt rfl | exact nAcc rfl | nofun), fun b hb => by cases hb; exact ⟨rfl, rfl⟩⟩
      · exact ⟨(by first | exact ns rfl | exact nIt rfl | exact nAcc rfl | nofun), (by first | exact ns rfl | exact nIt rfl | exact nAcc rfl | nofun), fun b hb => by cases hb⟩
      · exact ⟨(by first | exact ns rfl | exact nIt rfl | exact nAcc rfl | nofun), (by first | exact ns rfl | exact nIt rfl | exact nAcc rfl | nofun), fun b hb => by cases hb⟩
    · obtain ⟨v, u, w, rfl⟩ := three_of hl
      exact bind3 hp hdf (by decide) (by decide) (by decide)
end
end
section
open PySem PySem.Calls PyProof.Rows PySem.W

theorem Truth.int {V : Wo} {k : Nat} {a : Int} : Truth V k (I a) (a != 0) := fun A s v _ g ha => by
  obtain ⟨t, rfl⟩ := ha
  exact PySem.P.truthy_int ⟨rfl, .refl g⟩

section
variable {V : Wo} {k : Nat} {K : List (Str × NameKind)} {ρ : Vars} {env : Env} {s₀ s s' : Shared} {W : List Addr} {Φn : Vars → Prop} {Φr : Vars → PV → Prop}
theorem wp_callL {A : Around} {x : Str} {xp pos spos : Pos} {f a : Addr} {es : List Expr} {ps : List PV} {p p' : PV} (F : Fit A k) (g : GI V s) (R : REnv K env s.heap ρ) (hx : ρ x = some (.fn f)) (hk : Kept V (.ref f)) (ha : EVs V k K ρ es ps) (hp : p.is s.heap (.ref a)) (h0 : V.h0.get? a = none) (hc : CM V k (.ref f) ps a p p')
    (hd : (x == ("__debug__" : Str)) = false := by decide) (hn : (x == ("__classdict__" : Str)) = false := by decide) :
    wpAny (model PySem.Challenge.pw_wz0006_01 V.w) A (exec (.Expr (.Call (.Name x xp) es [] pos) spos) env) (fun fl s' => fl = .next ∧ Mo V [a] s s' ∧ p'.is s'.heap (.ref a)) No s := by
  refine wpAny_Expr ?_ (by unfold interactive; rw [R.kind]; rfl)
  obtain ⟨v, l, hv⟩ := R.vars x _ hx
  have hv : v = .ref f := hv
  subst hv
  show wpAny _ A (do callWith pos (← eval (.Name x xp) env) [] (backTo pos (starEach es env)) (backToKw pos (keywordEach [] env))) _ _ s
  refine wpAny_bind (wp_name R.kind l ?_ hd hn)
  refine wp_callWith (ha.plain env pos) hk (wp_args pos ha F g R fun vs s' o hps => ⟨o.gi, ?_⟩)
  refine wpAny_mono (hc A s' vs F o.gi h0 (o.pv g hp) hps) (fun v s2 h2 => ?_) fun _ _ x => x
  obtain ⟨rfl, m, hp2⟩ := h2
  exact ⟨rfl, (o.mo (wr := [a])).trans m (fun _ h => h) (fun _ h => .inl h), hp2⟩
theorem EV.nameOwn {x : Str} {pos : Pos} {a : Addr} {l : List It} (e : ρ x = some (.own a l)) (hd : (x == ("__debug__" : Str)) = false := by decide) (hn : (x == ("__classdict__" : Str)) = false := by decide) : EV V k false K ρ (.Name x pos) (.list l) := fun A env s F g R => by
  obtain ⟨v, l, i⟩ := R.vars x _ e
  obtain ⟨vs, n, rfl, r⟩ := i
  exact wp_name R.kind l ⟨.refl g, ⟨a, vs, n, rfl, r⟩, fun e => (by cases e)⟩ hd hn
theorem Fr.capS {Ki : List (Str × NameKind)} {cl : List (Str × Addr)} {x : Str} {p : PV} {l : List Addr} (Fx : Fr V K env s₀ W ρ s) (hx : ρ x = some p) (hk : K.lookup x = some .cell) (hki : Ki.lookup x = some .free)
    (h1 : ∀ n c, cl.lookup n = some c → env.cells.lookup n = some c) (h2 : (cl.lookup x).isSome = true) (hl : ∀ b ∈ l, ∀ o, s.heap.get? b = some o → ∀ v, o.data ≠ .cell v) :
    ∃ c v, cl.lookup x = some c ∧ (V.re s.heap l).h0.IsCell c (some v) ∧ p.is s.heap v := by
  obtain ⟨v, hlk, hp⟩ := Fx.vars hx
  obtain ⟨c, hc⟩ := Option.isSome_iff_exists.mp h2
  rcases hlk with ⟨hk', _⟩ | ⟨_, c', hc', hcell⟩
  · have e : K.lookup x = some .local := by rw [← Fx.renv.names]; exact hk'
    rw [hk] at e; cases e
  · have := h1 x c hc
    rw [hc'] at this; cases this
    obtain ⟨o, ho, hd⟩ := hcell
    exact ⟨c, v, hc, ⟨o, re_at ho (Fx.gi.notTab ho fun vs h => by rw [hd] at h; cases h) (fun m => hl _ m o ho _ hd), hd⟩, hp⟩
end

theorem fill_all (n m : Nat) (x : Int) : fill n (List.replicate m (iIt 0)) 0 m x = (digs n m x).map iIt := by
  unfold fill
  rw [List.take_zero, Nat.sub_zero, List.nil_append, List.drop_of_length_le (by simp), List.append_nil]

section
variable {V : Wo} {k : Nat}
noncomputable def ndig (n : Nat) (x : Int) : Nat := (Builtin.Int.intBits x + n - 1) / n
set_option maxHeartbeats 4000000 in
theorem i2d_cl (X : Facts V) (x : Int) (n : Nat) (h0 : 0 ≤ x) (hn0 : 0 < n) (hn : n ≤ 10000) (hl : ndig n x < 1000) : Cl V (k + ndig n x + 1) (.ref 125) [I x, I n] (IL (digs n (ndig n x) x)) := by
  have hbn : Builtin.Int.intBits x ≤ n * ndig n x := by
    unfold ndig
    have h1 := Nat.div_add_mod (Builtin.Int.intBits x + n - 1) n
    have h2 := Nat.mod_lt (Builtin.Int.intBits x + n - 1) hn0
    omega
  have hx1 : x < 2 ^ (n * ndig n x) := by
    refine Int.lt_of_lt_of_le (b := (2 : Int) ^ Builtin.Int.intBits x) ?_ (by exact_mod_cast Nat.pow_le_pow_right (by decide : 0 < 2) hbn)
    unfold Builtin.Int.intBits
    by_cases e : x = 0
    · simp [e]
    · rw [show (x == 0) = false by simpa using e]
      simp only [Bool.false_eq_true, if_false]
      obtain ⟨y, rfl⟩ := Int.eq_ofNat_of_zero_le h0
      rw [Int.natAbs_natCast]
      exact_mod_cast Nat.lt_log2_self
  have hbs : n * ndig n x ≤ n * 1000 := Nat.mul_le_mul_left n (by omega)
  have hcount : (((Builtin.Int.intBits x : Int) + n - 1)).fdiv n = (ndig n x : Nat) := by
    rw [Int.fdiv_eq_ediv_of_nonneg _ (by omega)]
    unfold ndig
    rw [Int.natCast_ediv, Int.ofNat_sub (by omega)]
    rfl
  refine Cl.fnE (names := ["a", "n"]) X.int2digits.2 rfl (by decide) rfl (mineAll rfl) (ini_addr (by simp [PV.addr])) (fun fd hp hdf vs hl => ?_) fun A env s₀ s F g Fx hcode hqual => ?_
  · obtain ⟨v, u, rfl⟩ := two_of hl
    exact bind2 hp hdf (by decide)
  have st1 : St1 V (k + ndig n x) (namesN 8) [] (ini ["a", "n"] [I x, I n]) _ _ (fun _ p => p = IL (digs n (ndig n x) x)) := St1.assignO (x := "a_digits") (l := List.replicate (ndig n x) (iIt 0)) (q := ⟨66, 4, 66, 12⟩) (pos := ⟨66, 4, 66, 52⟩) (e := match bodyN 8 with | .Assign _ e _ :: _ => e | _ => .Tuple [] 0 ⟨0, 0, 0, 0⟩) (by
    have := Bi.mulL (V := V) (k := k + ndig n x) (x := iIt 0) (n := (ndig n x : Nat)) (Int.natCast_nonneg _) (by omega)
    rw [Int.toNat_natCast] at this
    refine EV.bin (p := .list [iIt 0]) (q := I (ndig n x : Nat)) (EV.list (l := [iIt 0]) (.cons (by first | exact ns rfl | exact nIt rfl | exact nAcc rfl | nofun) EV.int .nil) (by simp)) ?_ this
    rw [← hcount]
    refine EV.bin (EV.bin (EV.bin (EV.meth (ps := []) Meth.bitlen (by trivial) .nil Cl.bitlen) (by trivial) Bi.add) (by trivial) Bi.sub) (by trivial) (Bi.fdiv (by omega) ?_)
    exact PyProof.noPylong_small (by omega)) (.inr rfl)
  refine wpAny_execs_cons (wpAny_mono (st1 A env s₀ s F g Fx) (fun fl s1 h => ?_) fun _ _ x => x)
  cases fl with
  | ret v => exact h
  | brk => exact h
  | cont => exact h
  | next =>
  obtain ⟨ρ1, ⟨a, ⟨hnew, haW⟩, rfl⟩, F1, mv1⟩ := h
  dsimp only
  refine wpAny_execs_cons (wpAny_mono (wp_nest (P := 120) (q := "_int2digits.<locals>.inner") g F1 hcode ?_ ?_ X.bmain rfl ?_ ?_ rfl rfl rfl) (fun fl s2 h => ?_) fun _ _ x => x)
  · unfold tabList; simp
  · unfold qualnameIn Env.kindOf
    rw [Fx.renv.names, hqual]
    rfl
  · have : ∀ y ∈ i2dScope.names, y.2 = .free → List.lookup y.1 (namesN 8) = some .cell := by decide
    exact fun n hn => this _ hn rfl
  · show _ ∈ i2dScope.names
    decide
  obtain ⟨rfl, f, c', cl, F2, hf, hfn, h1, h2⟩ := h
  dsimp only
  have g2 := F2.gi
  have ha0 : V.h0.get? a = none := F1.ownH0 g (fun b hb => (by cases hb)) (x := "a_digits") rfl rfl
  obtain ⟨va, hla, hpa⟩ := F2.vars (x := "a_digits") (p := .own a (List.replicate (ndig n x) (iIt 0))) rfl
  obtain ⟨rfl, oa, wsa, na, hoa, hda, _⟩ := PV.addr_is (p := .own a (List.replicate (ndig n x) (iIt 0))) rfl hpa
  have hl1 : ∀ b ∈ [a], V.h0.get? b = none := fun b hb => by rw [List.mem_singleton] at hb; rw [hb]; exact ha0
  have gr : GI (V.re s2.heap [a]) s2 := g2.re hl1
  have sub := re_sub (l := [a]) g2 hl1
  have hra : (V.re s2.heap [a]).h0.get? a = none := hideAll_none _ (by simp)
  have onlyA : ∀ b ∈ [a], ∀ o, s2.heap.get? b = some o → o.data = .seq wsa na := fun b hb o e => by rw [List.mem_singleton] at hb; subst hb; rw [hoa] at e; cases e; exact hda
  have hfr : FnAt (V.re s2.heap [a]).h0 (some (i2dParams, i2dBody, i2dScope)) "inner" "_int2digits.<locals>.inner" f c' cl .none := FnAt.re hfn g2 fun b hb o e => ⟨fun fd h => (by rw [onlyA b hb o e] at h; cases h), fun vs h => (by rw [onlyA b hb o e] at h; cases h)⟩
  have nc : ∀ b ∈ [a], ∀ o, s2.heap.get? b = some o → ∀ v, o.data ≠ .cell v := fun b hb o e v h => by rw [onlyA b hb o e] at h; cases h
  have hin := i2d_inner (V := V.re s2.heap [a]) (k := k) (f := f) (c := c') (a := a) (cl := cl) n hfr hn (fun x y c hx hy => F2.apart x y c (h1 x c hx) (h1 y c hy)) ⟨?_, ?_, ?_⟩ (ndig n x) x 0 (ndig n x) (List.replicate (ndig n x) (iIt 0))
  rotate_left
  · obtain ⟨c, v, e1, e2, e3⟩ := F2.capS (Ki := i2dScope.names) (l := [a]) (x := "inner") rfl rfl rfl h1 (h2 _ (by show _ ∈ i2dScope.names; decide)) nc
    exact ⟨rfl, c, v, e1, e2, e3⟩
  · obtain ⟨c, v, e1, e2, e3⟩ := F2.capS (Ki := i2dScope.names) (l := [a]) (x := "n") rfl rfl rfl h1 (h2 _ (by show _ ∈ i2dScope.names; decide)) nc
    exact ⟨rfl, c, v, e1, e2, e3⟩
  · obtain ⟨c, v, e1, e2, e3⟩ := F2.capS (Ki := i2dScope.names) (l := [a]) (x := "a_digits") rfl rfl rfl h1 (h2 _ (by show _ ∈ i2dScope.names; decide)) nc
    obtain ⟨rfl, _⟩ := PV.addr_is (p := .own a (List.replicate (ndig n x) (iIt 0))) rfl e3
    exact ⟨c, e1, e2⟩
  have last : ∀ s3 ρ3, ρ3 "a_digits" = some (.own a ((digs n (ndig n x) x).map iIt)) → Fr V (namesN 8) env s₀ [] ρ3 s3 → wpAny (model PySem.Challenge.pw_wz0006_01 V.w) A (execs (match bodyN 8 with | _ :: _ :: _ :: r => r | _ => []) env)
      (Out V (namesN 8) env s₀ [] (ini ["a", "n"] [I x, I n]) s (fun _ => False) (fun _ p => p = IL (digs n (ndig n x) x))) No s3 := fun s3 ρ3 hρ F3 => by
    have b := Bk.last (V := V) (k := k + ndig n x) (W := []) (Φn := fun _ => False) (Φr := fun _ p => p = IL (digs n (ndig n x) x)) (rest := []) (St1.retOwn (V := V) (k := k + ndig n x) (K := namesN 8) (pos := ⟨80, 4, 80, 19⟩) (q := ⟨80, 11, 80, 19⟩) hρ (fun h => (by cases h)) rfl)
    refine wpAny_mono (b A env s₀ s3 F g F3) (fun fl s4 h => ?_) fun _ _ x => x
    cases fl with
    | ret v => exact h
    | brk => exact h
    | cont => exact h
    | next => obtain ⟨_, h, _⟩ := h; exact h.elim
  refine wpAny_execs_cons (wpAny_If (wpAny_mono ((ET.name (V := V) (k := k + ndig n x) (p := I x) rfl Truth.int : ET V (k + ndig n x) (namesN 8) _ (.Name "a" ⟨78, 7, 78, 8⟩) (x != 0)) A env s2 F g2 F2.renv) (fun b s3 h3 => ?_) fun _ _ x => x))
  obtain ⟨rfl, o3⟩ := h3
  have F3 := F2.after o3
  by_cases hx : x = 0
  · subst hx
    show wpAny _ A (execs [] env) _ _ s3
    have hz : ndig n 0 = 0 := by
      unfold ndig
      exact Nat.div_eq_of_lt (by simp [Builtin.Int.intBits]; omega)
    refine wpAny_execs_nil (last s3 _ ?_ F3)
    rw [hz]; rfl
  · have hb : (x != 0) = true := by simpa using hx
    have hpos : 0 < ndig n x := by
      unfold ndig
      refine Nat.div_pos ?_ hn0
      have : 0 < Builtin.Int.intBits x := by
        unfold Builtin.Int.intBits
        rw [show (x == 0) = false by simpa using hx]
        simp
      omega
    rw [hb]
    have hc := hin hpos (by simp) (by omega) (by simpa using hl) h0 (by simpa using hx1)
    rw [fill_all] at hc
    have gr3 : GI (V.re s2.heap [a]) s3 := ⟨gr.ok, fun b o e => o3.keep b o (fun hb => by rw [gr.off b hb] at e; cases e) (gr.keep b o e), o3.gi.tab, o3.gi.bare, gr.off⟩
    refine wpAny_execs_cons (wpAny_mono (wp_callL (V := V.re s2.heap [a]) (k := k + ndig n x) (ps := [I x, I 0, I (ndig n x)]) F gr3 F3.renv rfl (Kept.fnC hfr) (.cons (by first | exact ns rfl | exact nIt rfl | exact nAcc rfl | nofun) (by trivial) (.cons (by first | exact ns rfl | exact nIt rfl | exact nAcc rfl | nofun) (by trivial) (.cons (by first | exact ns rfl | exact nIt rfl | exact nAcc rfl | nofun) (EV.call (ps := [.list (List.replicate (ndig n x) (iIt 0))]) rfl X.len Kept.builtin (.cons (by first | exact ns rfl | exact nIt rfl | exact nAcc rfl | nofun) (EV.nameOwn rfl) .nil) ?_) .nil))) (o3.pv g2 hpa) hra hc) (fun fl s4 h4 => ?_) fun _ _ x => x)
    · have := Cl.lenL (V := V.re s2.heap [a]) (k := k + ndig n x) (l := List.replicate (ndig n x) (iIt 0)) (by simp; omega)
      simpa using this
    · obtain ⟨rfl, m4, hp4⟩ := h4
      have F4 := F3.write (x := "a_digits") rfl rfl (Mo.un g2 sub m4) hp4 rfl (by first | exact ns rfl | exact nIt rfl | exact nAcc rfl | nofun)
      exact wpAny_execs_nil (last s4 _ rfl F4)
end
end
section
open PySem PySem.Calls PyProof.Rows PySem.W

section
variable {V : Wo} {k : Nat} {fr : Bool} {K : List (Str × NameKind)} {ρ : Vars} {env : Env} {s₀ s s' : Shared} {W : List Addr} {Φn : Vars → Prop} {Φr : Vars → PV → Prop}

noncomputable def CW (V : Wo) (k : Nat) (id : String) (ps : List PV) (a : Addr) (p p' : PV) : Prop :=
  ∀ (A : Around) (s : Shared) (vs : List Value), Fit A k → GI V s → V.h0.get? a = none → p.is s.heap (.ref a) → PVs s.heap ps vs →
    wpAny (model prog V.w) A (call (.builtin id) (.ref a :: vs)) (fun v s' => v = .none ∧ Mo V [a] s s' ∧ p'.is s'.heap (.ref a)) No s
theorem St1.meth {x : Str} {xp apos pos spos : Pos} {name : Str} {id : String} {a : Addr} {l l' : List It} {args : List Expr} {ps : List PV} (hx : ρ x = some (.own a l)) (slot : Slot "list" name id) (ty : typeOf (.builtin id) = pure (.type "method_descriptor")) (ha : EVs V k K ρ args ps) (hW : ∀ b ∈ W, V.h0.get? b = none)
    (hc : CW V k id ps a (.own a l) (.own a l')) (hl : args.length < 25 := by decide) (hline : (apos.endLine == pos.line) = true := by rfl) (hd : (x == ("__debug__" : Str)) = false := by decide) (hn : (x == ("__classdict__" : Str)) = false := by decide)
    (hb : ∀ env, attributeBase (.Name x xp) name env (eval (.Name x xp) env) = eval (.Name x xp) env := by intro _; rfl) :
    St1 V k K W ρ (.Expr (.Call (.Attribute (.Name x xp) name apos) args [] pos) spos) (fun ρ' => ρ' = up ρ x (.own a l')) Φr := fun A env s₀ s F g Fx => by
  refine wpAny_Expr ?_ (by unfold interactive; rw [Fx.renv.kind]; rfl)
  refine wpAny_Call_method_lateS (hb env) ?_ hline ?_
  · have := ha.plainAll env pos
    simp only [this, Bool.true_and]
    show (true && decide (args.length + 0 + 0 < 30)) = true
    simp; (first | lia | omega)
  obtain ⟨v, hlk, hv⟩ := Fx.vars hx
  have hv' := hv
  obtain ⟨vs0, n, rfl, ho, hi⟩ := hv'
  refine wp_name Fx.renv.kind hlk ?_ hd hn
  refine ⟨"list", id, PySem.F.plainAttrs_list, slot, ty, ⟨_, ho, rfl⟩, fun b hb => by cases hb; exact ⟨_, ho, rfl⟩, wp_callWith (ha.plain env pos) Kept.builtin (wp_args pos ha F Fx.gi Fx.renv fun vs s2 o hps => ⟨o.gi, ?_⟩)⟩
  have F1 := Fx.after o
  refine wpAny_mono (hc A s2 vs F o.gi (Fx.ownH0 g hW hx rfl) (o.pv Fx.gi hv) hps) (fun v s3 h => ?_) fun _ _ x => x
  obtain ⟨rfl, m, hp⟩ := h
  exact ⟨_, rfl, F1.write hx rfl m hp rfl (by first | exact ns rfl | exact nIt rfl | exact nAcc rfl | nofun), (Mv.ok o).trans (Mv.write hx rfl rfl m) o.gi⟩

theorem own_mo {a : Addr} {l : List It} {h' : Heap} {vs : Array Value} {n : Nat} (g : GI V s) (h0 : V.h0.get? a = none) (ho : s.heap.get? a = some { cls := .type "list", data := .seq vs n }) (hs : Heap.SameBut a s.heap h') : Mo V [a] s { s with heap := h' } ∧ ∀ b ∈ [a], NT s.heap b :=
  ⟨Mo.of (tk := s.toks) g (fun b hb => by
    rw [List.mem_singleton] at hb; subst hb
    exact ⟨h0, fun o e' => .inr fun ws h => by rw [ho] at e'; cases e'; cases h⟩) fun b o hb e' => hs.extBut b o (fun h => hb (by rw [h]; simp)) e', fun b hb => by
    rw [List.mem_singleton] at hb; subst hb
    intro o e' hc; rw [ho] at e'; cases e'; exact absurd hc (by show ¬ Value.type _ = Value.type _; decide)⟩
theorem CW.append {a : Addr} {l : List It} {x : It} (hl : l.length < 1000000) : CW V k "list.append" [.it x] a (.own a l) (.own a (l ++ [x])) := fun A s vs F g h0 hp hps => by
  obtain ⟨v, rfl, hv⟩ := hps.one
  obtain ⟨ws, n, _, ho, hi⟩ := hp
  have e : ws.size = l.length := by have := hi.length; simpa using this
  refine wpAny_list_append_plain (hsz := by rw [e]; simp only [sizeLine]; (first | lia | omega)) ⟨n, ho⟩ fun h' hl' hs => ?_
  obtain ⟨mo, nt⟩ := own_mo (l := l) g h0 ho hs
  obtain ⟨n', e'⟩ := hl'
  exact ⟨rfl, mo, ws.push v, n', rfl, e', by rw [Array.toList_push]; exact (mo.its g nt hi).snoc (mo.it g nt hv)⟩
theorem Its.reverse {h : Heap} : ∀ {l : List It} {vs : List Value}, Its h l vs → Its h l.reverse vs.reverse
  | [], vs, e => by rw [show vs = [] from e]; rfl
  | a :: r, _, ⟨v, t, e, hv, ht⟩ => by
    subst e
    rw [List.reverse_cons, List.reverse_cons]
    exact (Its.reverse ht).append ⟨v, [], rfl, hv, rfl⟩
theorem CW.reverse {a : Addr} {l : List It} (hl : l.length < 1000000) : CW V k "list.reverse" [] a (.own a l) (.own a l.reverse) := fun A s vs Fi g h0 hp hps => by
  rw [show vs = [] from hps]
  obtain ⟨ws, n, _, ho, hi⟩ := hp
  have e : ws.size = l.length := by have := hi.length; simpa using this
  refine call_meets F.slot_list_reverse ⟨_, ho, rfl⟩ F.entry_list_reverse (F.args_list_reverse_1 _) (AutoSeq1.list_reverse_list_0 a ws n (by rw [e]; simp only [sizeLine]; (first | lia | omega))) ⟨ho, ?_⟩
  have hs := Heap.SameBut.update s.heap a (Obj.mapSeq fun x => x.reverse)
  obtain ⟨mo, nt⟩ := own_mo (l := l) g h0 ho hs
  exact ⟨rfl, mo, ws.reverse, _, rfl, Heap.get?_update_self _ ho rfl, by rw [Array.toList_reverse]; exact (mo.its g nt hi).reverse⟩

theorem wp_evalCallG {A : Around} {x : Str} {xp pos : Pos} {fv : Value} {e : Expr} {Q : Value → Shared → Prop} (g : GI V s) (R : REnv K env s.heap ρ)
    (hx : K.lookup x = some .globalImplicit) (hv : Gl V x fv) (hk : Kept V fv) (hs : ∀ e' q, e ≠ .Starred e' q) (he : wpAny (model prog V.w) A (eval e env) (fun v s1 => GI V s1 ∧ wpAny (model prog V.w) A (call fv [v]) Q No s1) No s)
    (hd : (x == ("__debug__" : Str)) = false := by decide) : wpAny (model prog V.w) A (eval (.Call (.Name x xp) [e] [] pos) env) Q No s := by
  show wpAny _ A (do callWith pos (← eval (.Name x xp) env) [] (backTo pos (starEach [e] env)) (backToKw pos (keywordEach [] env))) _ _ s
  refine wpAny_bind (wp_global g R hx hv ?_ hd)
  refine wp_callWith (by rw [starEach_cons hs, backTo_cons]; rfl) hk ?_
  rw [starEach_cons hs, backTo_cons]
  exact evalArgs_plain (spliced_cons (wpAny_mono he (fun v s1 h1 => spliced_nil h1) fun _ _ x => x))
theorem IF.revName {x : Str} {xp rp pos : Pos} {l : List It} (hr : K.lookup ("reversed" : Str) = some .globalImplicit) (hv : Gl V ("reversed" : Str) (.type "reversed")) (hx : ρ x = some (.list l)) (hW : W = []) (hd : (x == ("__debug__" : Str)) = false := by decide) (hn : (x == ("__classdict__" : Str)) = false := by decide) :
    IF V k K W ρ (.Call (.Name "reversed" rp) [.Name x xp] [] pos) l.reverse isName := fun A env s₀ s F g Fx => by
  obtain ⟨v, hlk, hv1⟩ := Fx.vars hx
  refine wp_evalCallG Fx.gi Fx.renv hr hv Kept.type (by first | exact ns rfl | exact nIt rfl | exact nAcc rfl | nofun) (wp_name Fx.renv.kind hlk ⟨Fx.gi, ?_⟩ hd hn)
  obtain ⟨a, its, rfl, hl, hi⟩ := PV.isList hv1
  have e : its.size = l.length := by have := hi.length; simpa using this
  have hlt : a < s.heap.objs.size := by obtain ⟨o, ho, _⟩ := hl; exact Heap.lt_size ho
  have e2 : l.reverse.length = its.size := by simp [e]
  refine call_reversed_list hl ?_
  have st0 : (s.heap.push (revObj a ((its.size : Int) - 1))).IsRevIter s.heap.objs.size a ((its.size : Int) - 1) := ⟨_, Heap.get?_push_size _ rfl, rfl, rfl⟩
  refine wpAny_pyIter_revIter st0 ?_
  refine ⟨s, s.heap.objs.size, _, _, _, _, rfl, .refl Fx.gi, Ok.grow (s := s) (tk := s.toks) Fx.gi fun b o e => Heap.get?_push_of_some _ e,
    Src.ofW (fun A hA => Walks.listRev hA s.heap.objs.size a (Nat.ne_of_lt hlt) its) e2.symm Fx.gi (above fun b hb => by rw [List.mem_singleton] at hb; rw [hb]; exact Nat.le_refl _) (fun i h st => ?_) (fun i v x hp hx => ?_) (fun t A i v s ht st => goName ht), ?_, ?_, fun b hb => ?_⟩
  · obtain ⟨o, ho, hc, hd⟩ := st.2.1
    exact iter_sat ho hd (by rw [hc]; decide) (by rw [hc]; nofun) (by rw [hc]; decide)
  · obtain ⟨hlt', _⟩ := List.getElem?_eq_some_iff.mp hx
    rw [List.getElem?_reverse (by simpa using hlt')] at hx
    obtain ⟨v', hv', hx'⟩ := hi.get hx
    rw [Array.getElem?_toList, ← e, hp] at hv'
    cases hv'; exact hx'
  · exact ⟨Nat.zero_le _, by simpa using st0, hl.push _⟩
  · obtain ⟨oa, hoa, _⟩ := id hl
    exact fp2 (Heap.get?_push_size _ rfl) (Heap.get?_push_of_some _ hoa) (fun b hb => fresh_tab Fx.gi hb) (list_tab Fx.gi hl)
  · simp only [List.mem_cons, List.not_mem_nil, or_false] at hb
    rcases hb with rfl | rfl
    · exact Fx.notPl (fresh_none (Nat.le_refl _))
    · intro hp
      obtain ⟨oa, hoa, hca, na, hda⟩ := id hl
      rcases hp with rfl | ⟨y, hy, hc⟩ | hw | ⟨y, q, hy, ha⟩
      · obtain ⟨m, o, es, ep, e1, d, _⟩ := Fx.loc
        rw [hoa] at e1; cases e1; rw [hda] at d; cases d
      · obtain ⟨c, hc', _, u, o, e1, d⟩ := Fx.cellN y hy
        rw [hc] at hc'; cases hc'; rw [hoa] at e1; cases e1; rw [hda] at d; cases d
      · rw [hW] at hw; cases hw
      · exact Fx.iso y q _ hy ha x l _ hx hlk rfl

theorem St1.pair {a b : Str} {p q r pos : Pos} {kk : Nat} {e : Expr} {u v : At} (he : EV V k false K ρ e (.it (.tup [u, v]))) (ha : Mine K a) (hb : Mine K b) (hn : noComp e = true := by rfl) (hw : ∀ env, swappedStores [.Tuple [.Name a p, .Name b q] kk r] e env = pure Option.none := by intro _; rfl) :
    St1 V k K W ρ (.Assign [.Tuple [.Name a p, .Name b q] kk r] e pos) (fun ρ' => ρ' = up (up ρ a (.it (.at u))) b (.it (.at v))) Φr := fun A env s₀ s F g Fx => by
  refine wpAny_Assign_stores (wpAny_mono (he A env s F Fx.gi Fx.renv) (fun w s1 h1 => ?_) fun _ _ x => x) (by unfold swapsWithSole; exact swaps_none hn) (hw env)
  refine wpAny_mono ((Fx.after h1.1).asg F g (.pair ha hb) h1.2.1) (fun _ s2 h2 => ?_) fun _ _ x => x
  exact ⟨_, rfl, h2.1, (Mv.ok h1.1).trans h2.2 h1.1.gi⟩
end

section
variable {V : Wo} {k : Nat}
theorem div2n1n_cl (X : Facts V) (a b n : Int) (ha : 0 ≤ a) (hb : 0 < b) (hs : (Builtin.Int.intBits a : Int) - n ≤ 4000) (hp : Builtin.divisionGoesByPylong a b = false) : Cl V (k + 1) (.ref 111) [I a, I b, I n] (.it (.tup [.int (a / b), .int (a % b)])) := by
  obtain ⟨t, hlim⟩ := X.limit
  refine Cl.fn3 X.div2n1n.2 rfl (.inl rfl) (.inl rfl) (.inl rfl) (by decide) (by decide) (by decide) rfl rfl rfl ?_
  refine Bk.last (St1.ite (b := true) ?_ (fun _ => ?_) (fun h => (by cases h)))
  · have := Bi.leI (V := V) (k := k) (a := (Builtin.Int.intBits a : Int) - n) (b := 4000)
    rw [decide_eq_true hs] at this
    exact ET.cmp (EV.bin (EV.meth (ps := []) Meth.bitlen (by trivial) .nil Cl.bitlen) (by trivial) Bi.sub) (EV.global (i := .at (.int 4000)) rfl hlim fun h => ⟨t, rfl⟩) this
  · refine Bk.last (St1.ret ?_ rfl)
    have := Cl.divmod (V := V) (k := k) (a := a) (b := b) (by (first | lia | omega)) hp
    rw [Int.fdiv_eq_ediv_of_nonneg _ (by (first | lia | omega)), Int.fmod_eq_emod_of_nonneg _ (by (first | lia | omega))] at this
    exact EV.call (ps := [I a, I b]) rfl X.divmod Kept.builtin (.cons (by first | exact ns rfl | exact nIt rfl | exact nAcc rfl | nofun) (by trivial) (.cons (by first | exact ns rfl | exact nIt rfl | exact nAcc rfl | nofun) (by trivial) .nil)) this
end
end
section
open PySem PySem.Calls PyProof.Rows PySem.W

theorem dval_digs (n : Nat) : ∀ (m : Nat) (x : Int), dval n (digs n m x) = x % 2 ^ (n * m)
  | 0, x => by simp [digs, dval, Int.emod_one]
  | m + 1, x => by
    rw [digs, dval, dval_digs n m]
    have e : (2 : Int) ^ (n * (m + 1)) = 2 ^ n * 2 ^ (n * m) := by rw [Nat.mul_succ, Int.pow_add, Int.mul_comm]
    have p : (0 : Int) < 2 ^ n := Int.pow_pos (by decide)
    rw [e, Int.emod_def x (2 ^ n * 2 ^ (n * m)), Int.emod_def (x / 2 ^ n), Int.emod_def x (2 ^ n), ← Int.ediv_ediv_of_nonneg (Int.le_of_lt p), Int.mul_sub, ← Int.mul_assoc]
    (first | lia | omega)
theorem digs_mem (n : Nat) : ∀ (m : Nat) (x : Int), ∀ d ∈ digs n m x, 0 ≤ d ∧ d < 2 ^ n
  | 0, x, d, h => by simp [digs] at h
  | m + 1, x, d, h => by
    have p : (0 : Int) < 2 ^ n := Int.pow_pos (by decide)
    rw [digs] at h
    rcases List.mem_cons.mp h with rfl | h
    · exact ⟨Int.emod_nonneg _ (Int.ne_of_gt p), Int.emod_lt_of_pos _ p⟩
    · exact digs_mem n m _ d h

theorem lt_ndig {n : Nat} {x : Int} (h0 : 0 ≤ x) (hn0 : 0 < n) : x < 2 ^ (n * ndig n x) := by
  have hbn : Builtin.Int.intBits x ≤ n * ndig n x := by
    unfold ndig
    have h1 := Nat.div_add_mod (Builtin.Int.intBits x + n - 1) n
    have h2 := Nat.mod_lt (Builtin.Int.intBits x + n - 1) hn0
    (first | lia | omega)
  refine Int.lt_of_lt_of_le (b := (2 : Int) ^ Builtin.Int.intBits x) ?_ (by exact_mod_cast Nat.pow_le_pow_right (by decide : 0 < 2) hbn)
  unfold Builtin.Int.intBits
  by_cases e : x = 0
  · simp [e]
  · rw [show (x == 0) = false by simpa using e]
    simp only [Bool.false_eq_true, if_false]
    obtain ⟨y, rfl⟩ := Int.eq_ofNat_of_zero_le h0
    rw [Int.natAbs_natCast]
    exact_mod_cast Nat.lt_log2_self

section
variable {V : Wo} {k : Nat}
theorem div_step {v d b r : Int} {n : Nat} (hb : 0 < b) (hr : r = v % b) : (v * 2 ^ n + d) / b = (v / b) * 2 ^ n + (r * 2 ^ n + d) / b ∧ (v * 2 ^ n + d) % b = (r * 2 ^ n + d) % b := by
  have e : v * 2 ^ n + d = (r * 2 ^ n + d) + (v / b * 2 ^ n) * b := by
    have := Int.mul_ediv_add_emod v b
    subst hr
    calc v * 2 ^ n + d = (b * (v / b) + v % b) * 2 ^ n + d := by rw [this]
      _ = _ := by rw [Int.add_mul, Int.mul_comm b, Int.mul_right_comm]; (first | lia | omega)
  rw [e, Int.add_mul_ediv_right _ _ (Int.ne_of_gt hb), Int.add_mul_emod_self_right]
  exact ⟨by (first | lia | omega), rfl⟩
set_option maxHeartbeats 2000000 in
theorem divmodPos_cl (X : Facts V) (a b : Int) (ha : 0 ≤ a) (hb : 0 < b) (hb2 : b < 2 ^ 100) (hm : ndig (Builtin.Int.intBits b) a < 1000) : Cl V (k + ndig (Builtin.Int.intBits b) a + 2) (.ref 139) [I a, I b] (.it (.tup [.int (a / b), .int (a % b)])) := by
  have hbits : Builtin.Int.intBits b ≤ 100 := bits_le (Int.le_of_lt hb) hb2
  have hpos : 0 < Builtin.Int.intBits b := by
    unfold Builtin.Int.intBits
    rw [show (b == 0) = false by simp; (first | lia | omega)]
    simp
  have hblt : b < 2 ^ Builtin.Int.intBits b := by
    unfold Builtin.Int.intBits
    rw [show (b == 0) = false by simp; (first | lia | omega)]
    simp only [Bool.false_eq_true, if_false]
    obtain ⟨y, rfl⟩ := Int.eq_ofNat_of_zero_le (Int.le_of_lt hb)
    rw [Int.natAbs_natCast]
    exact_mod_cast Nat.lt_log2_self
  have halt := lt_ndig (n := Builtin.Int.intBits b) ha hpos
  generalize hn : Builtin.Int.intBits b = n at *
  generalize hM : ndig n a = m at *
  have hlen : (digs n m a).length = m := digs_length n m a
  refine Cl.fn2 X.divmodPos.2 rfl (.inl rfl) (.inl rfl) (by decide) rfl rfl ?_
  refine Bk.step (St1.assign (x := "n") (i := .at (.int n)) (hn ▸ EV.meth (ps := []) Meth.bitlen (by trivial) .nil Cl.bitlen) (.inl rfl)) ?_
  refine Bk.step (St1.assignL (x := "a_digits") (l := (digs n m a).map iIt) (EV.call (ps := [I a, I n]) rfl X.int2digits.1 (Kept.fn X.int2digits.2) (.cons (by first | exact ns rfl | exact nIt rfl | exact nAcc rfl | nofun) (by trivial) (.cons (by first | exact ns rfl | exact nIt rfl | exact nAcc rfl | nofun) (by trivial) .nil)) (hM ▸ i2d_cl X a n ha hpos (by (first | lia | omega)) (by (first | lia | omega)))) (.inl rfl)) ?_
  refine Bk.step (St1.assign (x := "r") (by trivial) (.inl rfl)) ?_
  refine Bk.cons (St1.assignO (x := "q_digits") (l := []) (EV.list (l := []) .nil (by simp)) (.inl rfl)) ?_
  rintro _ ⟨qa, _, rfl⟩
  have p : (0 : Int) < 2 ^ n := Int.pow_pos (by decide)
  have pc : ∀ l, dval n l * 2 ^ n = 2 ^ n * dval n l := fun l => Int.mul_comm _ _
  refine Bk.cons (St1.for (fun i ρ => ∃ (qs : List Int) (r : Int), ρ "n" = some (I n) ∧ ρ "b" = some (I b) ∧ ρ "r" = some (I r) ∧ ρ "q_digits" = some (.own qa (qs.map iIt)) ∧ qs.length = i ∧ (∀ q ∈ qs, 0 ≤ q ∧ q < 2 ^ n) ∧
      dval n qs.reverse = dval n ((digs n m a).reverse.take i).reverse / b ∧ r = dval n ((digs n m a).reverse.take i).reverse % b) (IF.revName (l := (digs n m a).map iIt) rfl X.reversed rfl rfl) trivial ?_ ?_) ?_
  · exact ⟨[], 0, rfl, rfl, rfl, rfl, rfl, by simp, by simp [dval], by simp [dval]⟩
  · intro i x ρ1 hx hinv
    obtain ⟨qs, r, h1, h2, h3, h4, h5, h6, h7, h8⟩ := hinv
    rw [← List.map_reverse, List.getElem?_map] at hx
    obtain ⟨d, hd, rfl⟩ := Option.map_eq_some_iff.mp hx
    have hdm := digs_mem n m a d (List.mem_reverse.mp (List.mem_of_getElem? hd))
    generalize hv : dval n ((digs n m a).reverse.take i).reverse = v at *
    have hr0 : 0 ≤ r := by rw [h8]; exact Int.emod_nonneg _ (Int.ne_of_gt hb)
    have hrb : r < b := by rw [h8]; exact Int.emod_lt_of_pos _ hb
    have hv' : dval n ((digs n m a).reverse.take (i + 1)).reverse = v * 2 ^ n + d := by
      rw [List.take_add_one, hd]
      simp only [Option.toList_some, List.reverse_append, List.reverse_singleton, List.singleton_append, dval]
      rw [hv, Int.mul_comm]; (first | lia | omega)
    obtain ⟨e1, e2⟩ := div_step (n := n) (d := d) hb h8
    have hrn0 : 0 ≤ r * 2 ^ n := Int.mul_nonneg hr0 (Int.le_of_lt p)
    have hq0 : 0 ≤ (r * 2 ^ n + d) / b := Int.ediv_nonneg (by (first | lia | omega)) (by (first | lia | omega))
    have hrn : (r + 1) * 2 ^ n ≤ b * 2 ^ n := Int.mul_le_mul_of_nonneg_right (by (first | lia | omega)) (Int.le_of_lt p)
    rw [Int.add_mul, Int.one_mul] at hrn
    have hq1 : (r * 2 ^ n + d) / b < 2 ^ n := Int.ediv_lt_of_lt_mul hb (by rw [Int.mul_comm (2 ^ n)]; (first | lia | omega))
    refine ⟨_, .name (.inl rfl), ?_⟩
    refine Bk.step (St1.pair (a := "q_digit") (b := "r") (u := .int ((r * 2 ^ n + d) / b)) (v := .int ((r * 2 ^ n + d) % b)) (EV.call (ps := [I (r * 2 ^ n + d), I b, I n]) rfl X.div2n1n.1 (Kept.fn X.div2n1n.2) (.cons (by first | exact ns rfl | exact nIt rfl | exact nAcc rfl | nofun) (EV.bin (EV.bin (EV.nameIt h3) (EV.nameIt h1) ?_) (EV.nameIt rfl) Bi.add) (.cons (by first | exact ns rfl | exact nIt rfl | exact nAcc rfl | nofun) (EV.nameIt h2) (.cons (by first | exact ns rfl | exact nIt rfl | exact nAcc rfl | nofun) (EV.nameIt h1) .nil))) ?_) (.inl rfl) (.inl rfl)) ?_
    · have := Bi.shl (V := V) (k := k + m + 1) (a := r) (n := n) (Int.natCast_nonneg _) ?_
      · rwa [Int.toNat_natCast] at this
      · have := bits_le (m := n) hr0 (Int.lt_trans hrb hblt)
        (first | lia | omega)
    · refine (div2n1n_cl (k := k + m) X _ b n (by (first | lia | omega)) hb ?_ ?_)
      · have : Builtin.Int.intBits (r * 2 ^ n + d) ≤ n + n := bits_le (by (first | lia | omega)) (by
          rw [Int.pow_add]
          have : b * 2 ^ n < 2 ^ n * 2 ^ n := Int.mul_lt_mul_of_pos_right hblt p
          (first | lia | omega))
        (first | lia | omega)
      · refine PyProof.noPylong_of_log2 ?_
        have : b.natAbs.log2 < 100 := (Nat.log2_lt (by (first | lia | omega))).mpr (by (first | lia | omega))
        (first | lia | omega)
    · refine Bk.step (St1.meth (x := "q_digits") (l := qs.map iIt) (l' := (qs ++ [(r * 2 ^ n + d) / b]).map iIt) h4 PySem.F.slot_list_append PySem.F.type_list_append (.cons (by first | exact ns rfl | exact nIt rfl | exact nAcc rfl | nofun) (EV.nameIt rfl) .nil) (fun b hb => (by cases hb)) ?_) (Bk.nil ?_)
      · have := CW.append (V := V) (k := k + m + 1) (a := qa) (l := qs.map iIt) (x := iIt ((r * 2 ^ n + d) / b)) (by
          have : i < m := by
            have := (List.getElem?_eq_some_iff.mp hd).1
            simpa [hlen] using this
          simp; (first | lia | omega))
        simpa using this
      · refine ⟨qs ++ [(r * 2 ^ n + d) / b], (r * 2 ^ n + d) % b, h1, h2, rfl, rfl, by simp [h5], ?_, ?_, ?_⟩
        · intro q hq
          rcases List.mem_append.mp hq with hq | hq
          · exact h6 q hq
          · rw [List.mem_singleton] at hq; subst hq; exact ⟨hq0, hq1⟩
        · rw [hv', e1, List.reverse_append, List.reverse_singleton, List.singleton_append, dval, h7, Int.mul_comm (2 ^ n) (v / b)]; (first | lia | omega)
        · rw [hv', e2]
  · rintro ρ1 ⟨qs, r, h1, h2, h3, h4, h5, h6, h7, h8⟩
    rw [List.length_reverse, List.length_map, hlen] at h5
    have hfull : dval n ((digs n m a).reverse.take (((digs n m a).map iIt).reverse.length)).reverse = a := by
      rw [List.take_of_length_le (by simp), List.reverse_reverse, dval_digs, Int.emod_eq_of_lt ha halt]
    rw [hfull] at h7 h8
    have hmm : n * m ≤ n * 1000 := Nat.mul_le_mul_left n (by (first | lia | omega))
    refine Bk.step (St1.meth (x := "q_digits") (l := qs.map iIt) (l' := qs.reverse.map iIt) h4 PySem.F.slot_list_reverse PySem.F.type_list_reverse .nil (fun b hb => (by cases hb)) ?_) ?_
    · have := CW.reverse (V := V) (k := k + m + 1) (a := qa) (l := qs.map iIt) (by simp; (first | lia | omega))
      rwa [← List.map_reverse] at this
    · have hd := d2i_cl (V := V) (k := k) X qs.reverse n (fun x hx => h6 x (List.mem_reverse.mp hx)) (by rw [List.length_reverse, h5]; (first | lia | omega)) (by rw [List.length_reverse, h5]; (first | lia | omega))
      rw [List.length_reverse, h5, h7] at hd
      refine Bk.step (St1.assign (x := "q") (i := .at (.int (a / b))) (EV.call (ps := [IL qs.reverse, I n]) rfl X.digits2int.1 (Kept.fn X.digits2int.2) (.cons (by first | exact ns rfl | exact nIt rfl | exact nAcc rfl | nofun) (EV.nameOwn rfl) (.cons (by first | exact ns rfl | exact nIt rfl | exact nAcc rfl | nofun) (EV.nameIt h1) .nil)) hd) (.inl rfl)) ?_
      refine Bk.last (St1.ret (EV.tup (l := [.int (a / b), .int (a % b)]) (.cons (by first | exact ns rfl | exact nIt rfl | exact nAcc rfl | nofun) (EV.nameIt rfl) (.cons (by first | exact ns rfl | exact nIt rfl | exact nAcc rfl | nofun) (EV.nameIt (h8 ▸ h3)) .nil)) (by simp)) rfl)
end
end
section
open PySem PySem.Calls PyProof.Rows PySem.W

theorem ndig_le {n : Nat} {x : Int} {m : Nat} (hn : 0 < n) (h0 : 0 ≤ x) (h : x < 2 ^ m) : ndig n x ≤ m := by
  unfold ndig
  have := bits_le h0 h
  by_cases e : Builtin.Int.intBits x = 0
  · rw [e]
    rw [Nat.div_eq_of_lt (by (first | lia | omega))]; (first | lia | omega)
  · refine Nat.le_trans ?_ this
    refine Nat.div_le_of_le_mul ?_
    have h1 : n * Builtin.Int.intBits x = (n - 1) * Builtin.Int.intBits x + Builtin.Int.intBits x := by
      conv => lhs; rw [show n = (n - 1) + 1 by (first | lia | omega), Nat.add_mul, Nat.one_mul]
    have h2 : (n - 1) * 1 ≤ (n - 1) * Builtin.Int.intBits x := Nat.mul_le_mul_left _ (by (first | lia | omega))
    (first | lia | omega)
theorem bits_pos {b : Int} (hb : 0 < b) : 0 < Builtin.Int.intBits b := by
  unfold Builtin.Int.intBits
  rw [show (b == 0) = false by simp; (first | lia | omega)]
  simp
section
variable {V : Wo} {k : Nat}
noncomputable abbrev QR (q r : Int) : PV := .it (.tup [.int q, .int r])
theorem idm_pos (X : Facts V) (a b : Int) (ha : 0 ≤ a) (hb : 0 < b) (ha2 : a < 2 ^ 60) (hb2 : b < 2 ^ 60) : Cl V (k + 63) (.ref 146) [I a, I b] (QR (a / b) (a % b)) := by
  have hm := ndig_le (n := Builtin.Int.intBits b) (bits_pos hb) ha ha2
  have hpos := (divmodPos_cl (V := V) (k := k) X a b ha hb (Int.lt_trans hb2 (by decide)) (by (first | lia | omega))).mono (k := k + 62) (by (first | lia | omega))
  refine Cl.fn2 X.intDivmod.2 rfl (.inl rfl) (.inl rfl) (by decide) rfl rfl ?_
  have e0 : (b == 0) = false := by simp; (first | lia | omega)
  have e1 : decide (b < 0) = false := by simp; (first | lia | omega)
  have e2 : decide (a < 0) = false := by simp; (first | lia | omega)
  refine Bk.last (St1.ite (b := false) (e0 ▸ ET.cmp (by trivial) (by trivial) Bi.eqI) (fun h => (by cases h)) fun _ => ?_)
  refine Bk.last (St1.ite (b := false) (e1 ▸ ET.cmp (by trivial) (by trivial) Bi.ltI) (fun h => (by cases h)) fun _ => ?_)
  refine Bk.last (St1.ite (b := false) (e2 ▸ ET.cmp (by trivial) (by trivial) Bi.ltI) (fun h => (by cases h)) fun _ => ?_)
  exact Bk.last (St1.ret (EV.call (ps := [I a, I b]) rfl X.divmodPos.1 (Kept.fn X.divmodPos.2) (.cons (by first | exact ns rfl | exact nIt rfl | exact nAcc rfl | nofun) (by trivial) (.cons (by first | exact ns rfl | exact nIt rfl | exact nAcc rfl | nofun) (by trivial) .nil)) hpos) rfl)
theorem idm (X : Facts V) (a b : Int) (hb : 0 < b) (ha1 : -(2 ^ 60) < a) (ha2 : a < 2 ^ 60) (hb2 : b < 2 ^ 60) : Cl V (k + 64) (.ref 146) [I a, I b] (QR (a / b) (a % b)) := by
  by_cases ha : 0 ≤ a
  · exact (idm_pos (k := k) X a b ha hb ha2 hb2).mono (by (first | lia | omega))
  have hp := idm_pos (V := V) (k := k) X (-a - 1) b (by (first | lia | omega)) hb (by (first | lia | omega)) hb2
  refine Cl.fn2 X.intDivmod.2 rfl (.inl rfl) (.inl rfl) (by decide) rfl rfl ?_
  have e0 : (b == 0) = false := by simp; (first | lia | omega)
  have e1 : decide (b < 0) = false := by simp; (first | lia | omega)
  have e2 : decide (a < 0) = true := by simp; (first | lia | omega)
  refine Bk.last (St1.ite (b := false) (e0 ▸ ET.cmp (by trivial) (by trivial) Bi.eqI) (fun h => (by cases h)) fun _ => ?_)
  refine Bk.last (St1.ite (b := false) (e1 ▸ ET.cmp (by trivial) (by trivial) Bi.ltI) (fun h => (by cases h)) fun _ => ?_)
  refine Bk.last (St1.ite (b := true) (e2 ▸ ET.cmp (by trivial) (by trivial) Bi.ltI) (fun _ => ?_) fun h => (by cases h))
  refine Bk.step (St1.pair (EV.call (ps := [I (-a - 1), I b]) rfl X.intDivmod.1 (Kept.fn X.intDivmod.2) (.cons (by first | exact ns rfl | exact nIt rfl | exact nAcc rfl | nofun) (EV.un (by trivial) Un.inv) (.cons (by first | exact ns rfl | exact nIt rfl | exact nAcc rfl | nofun) (by trivial) .nil)) hp) (.inl rfl) (.inl rfl)) ?_
  have f1 : -((-a - 1) / b) - 1 = a / b ∧ b + (-((-a - 1) % b) - 1) = a % b := by
    have h1 := Int.mul_ediv_add_emod (-a - 1) b
    have h2 := Int.emod_nonneg (-a - 1) (Int.ne_of_gt hb)
    have h3 := Int.emod_lt_of_pos (-a - 1) hb
    have e : a = (b - 1 - (-a - 1) % b) + b * (-((-a - 1) / b) - 1) := by
      rw [Int.mul_sub, Int.mul_neg]; (first | lia | omega)
    generalize (-a - 1) / b = q at *
    generalize (-a - 1) % b = r at *
    subst e
    rw [Int.add_mul_ediv_left _ _ (Int.ne_of_gt hb), Int.add_mul_emod_self_left, Int.ediv_eq_zero_of_lt (by (first | lia | omega)) (by (first | lia | omega)), Int.emod_eq_of_lt (by (first | lia | omega)) (by (first | lia | omega))]
    (first | lia | omega)
  refine Bk.last (St1.ret (p := QR (-((-a - 1) / b) - 1) (b + (-((-a - 1) % b) - 1))) (EV.tup (l := [.int _, .int _]) (.cons (by first | exact ns rfl | exact nIt rfl | exact nAcc rfl | nofun) (EV.un (by trivial) Un.inv) (.cons (by first | exact ns rfl | exact nIt rfl | exact nAcc rfl | nofun) (EV.bin (by trivial) (EV.un (by trivial) Un.inv) Bi.add) .nil)) (by simp)) ?_)
  rw [f1.1, f1.2]
theorem idm_neg (X : Facts V) (a b : Int) (ha : 0 ≤ a) (hb : 0 < b) (ha2 : a < 2 ^ 60) (hb2 : b < 2 ^ 60) : Cl V (k + 64) (.ref 146) [I (-a), I (-b)] (QR (a / b) (-(a % b))) := by
  have hp := idm_pos (V := V) (k := k) X a b ha hb ha2 hb2
  refine Cl.fn2 X.intDivmod.2 rfl (.inl rfl) (.inl rfl) (by decide) rfl rfl ?_
  have e0 : (-b == 0) = false := by simp; (first | lia | omega)
  have e1 : decide (-b < 0) = true := by simp; (first | lia | omega)
  refine Bk.last (St1.ite (b := false) (e0 ▸ ET.cmp (by trivial) (by trivial) Bi.eqI) (fun h => (by cases h)) fun _ => ?_)
  refine Bk.last (St1.ite (b := true) (e1 ▸ ET.cmp (by trivial) (by trivial) Bi.ltI) (fun _ => ?_) fun h => (by cases h))
  refine Bk.step (St1.pair (u := .int (a / b)) (v := .int (a % b)) (EV.call (ps := [I (- -a), I (- -b)]) rfl X.intDivmod.1 (Kept.fn X.intDivmod.2) (.cons (by first | exact ns rfl | exact nIt rfl | exact nAcc rfl | nofun) (EV.un (by trivial) Un.neg) (.cons (by first | exact ns rfl | exact nIt rfl | exact nAcc rfl | nofun) (EV.un (by trivial) Un.neg) .nil)) (by rw [Int.neg_neg, Int.neg_neg]; exact hp)) (.inl rfl) (.inl rfl)) ?_
  exact Bk.last (St1.ret (EV.tup (l := [.int (a / b), .int (-(a % b))]) (.cons (by first | exact ns rfl | exact nIt rfl | exact nAcc rfl | nofun) (by trivial) (.cons (by first | exact ns rfl | exact nIt rfl | exact nAcc rfl | nofun) (EV.un (by trivial) Un.neg) .nil)) (by simp)) rfl)
end
end
section
open PySem PySem.Calls PyProof.Rows PySem.W

noncomputable def lett (m : Nat) (x : Nat) : List Nat := (List.range m).reverse.map fun i => 65 + x / 16 ^ i % 16
theorem lett_length (m x : Nat) : (lett m x).length = m := by simp [lett]
theorem lett_succ (m x : Nat) : lett (m + 1) x = (65 + x / 16 ^ m % 16) :: lett m x := by
  unfold lett
  rw [List.range_succ, List.reverse_append]; rfl
theorem lett_snoc : ∀ m x : Nat, lett (m + 1) x = lett m (x / 16) ++ [65 + x % 16]
  | 0, x => by simp [lett]
  | m + 1, x => by
    rw [lett_succ (m + 1), lett_snoc m x, lett_succ m, List.cons_append]
    congr 2
    rw [Nat.pow_succ', Nat.div_div_eq_div_mul]
noncomputable def apB : List UInt8 := [65, 66, 67, 68, 69, 70, 71, 72, 73, 74, 75, 76, 77, 78, 79, 80]
noncomputable def toB (l : List Nat) : List UInt8 := l.map UInt8.ofNat
theorem cut_ap : ∀ d < 16, (apB.drop d).take 1 = toB [65 + d] := by decide
section
variable {V : Wo} {k : Nat}
set_option maxHeartbeats 1000000 in
theorem int2AP_cl (X : Facts V) (x m : Nat) (h1 : 16 ^ m ≤ x) (h2 : x < 16 ^ (m + 1)) (hm : m < 1000) : Cl V (k + 1) (.ref 153) [I x] (By (toB (lett (m + 1) x))) := by
  refine Cl.fn1 X.int2AP.2 rfl (.inl rfl) rfl ?_
  refine Bk.step (St1.assign (x := "val") (i := .at (.bytes [])) (by trivial) (.inl rfl)) ?_
  refine Bk.step (St1.assign (x := "AP") (i := .at (.bytes apB)) (by trivial) (.inl rfl)) ?_
  have ha : (if (x : Int) < 0 then -(x : Int) else x) = x := by rw [if_neg (by (first | lia | omega))]
  refine Bk.step (St1.assign (x := "num") (i := .at (.int x)) (EV.call (ps := [I x]) rfl X.int Kept.type (.cons (by first | exact ns rfl | exact nIt rfl | exact nAcc rfl | nofun) (EV.call (ps := [I x]) rfl X.abs Kept.builtin (.cons (by first | exact ns rfl | exact nIt rfl | exact nAcc rfl | nofun) (by trivial) .nil) (ha ▸ Cl.abs)) .nil) Cl.int) (.inl rfl)) ?_
  refine Bk.cons (St1.while (Φn := fun ρ => ρ "val" = some (By (toB (lett (m + 1) x)))) (fun n ρ => ∃ i, n = m + 1 - i ∧ i ≤ m + 1 ∧ ρ "num" = some (I (x / 16 ^ i : Nat)) ∧ ρ "val" = some (By (toB (lett i x))) ∧ ρ "AP" = some (By apB)) (m + 1) ⟨0, rfl, by (first | lia | omega), by simp; rfl, rfl, rfl⟩ ?_) ?_
  · rintro n ρ1 ⟨i, rfl, hi, e1, e2, e3⟩
    have hz : x / 16 ^ i = 0 ↔ i = m + 1 := by
      constructor
      · intro h
        rcases Nat.lt_or_ge i (m + 1) with hlt | hge
        · have : 16 ^ i ≤ 16 ^ m := Nat.pow_le_pow_right (by decide) (by (first | lia | omega))
          have := Nat.div_pos (Nat.le_trans this h1) (Nat.pow_pos (by decide))
          (first | lia | omega)
        · (first | lia | omega)
      · rintro rfl; exact Nat.div_eq_of_lt h2
    refine ⟨((x / 16 ^ i : Nat) : Int) != 0, ET.name e1 Truth.int, fun hb => ?_, fun hb => ?_⟩
    · have hne : x / 16 ^ i ≠ 0 := fun h => by rw [h] at hb; simp at hb
      have hlt : i < m + 1 := by (first | lia | omega)
      have hd := Cl.divmod (V := V) (k := k) (a := ((x / 16 ^ i : Nat) : Int)) (b := 16) (by decide) (PyProof.noPylong_small (by decide))
      have f1 : ((x / 16 ^ i : Nat) : Int).fdiv 16 = ((x / 16 ^ (i + 1) : Nat) : Int) := by
        rw [Int.fdiv_eq_ediv_of_nonneg _ (by decide), Nat.pow_succ, ← Nat.div_div_eq_div_mul]; norm_cast
      have f2 : ((x / 16 ^ i : Nat) : Int).fmod 16 = ((x / 16 ^ i % 16 : Nat) : Int) := by
        rw [Int.fmod_eq_emod_of_nonneg _ (by decide)]; norm_cast
      rw [f1, f2] at hd
      have hmod : x / 16 ^ i % 16 < 16 := Nat.mod_lt _ (by decide)
      refine ⟨m + 1 - (i + 1), by (first | lia | omega), ?_⟩
      refine Bk.step (St1.pair (EV.call (ps := [I ((x / 16 ^ i : Nat) : Int), I 16]) rfl X.divmod Kept.builtin (.cons (by first | exact ns rfl | exact nIt rfl | exact nAcc rfl | nofun) (EV.nameIt e1) (.cons (by first | exact ns rfl | exact nIt rfl | exact nAcc rfl | nofun) (by trivial) .nil)) hd) (.inl rfl) (.inl rfl)) ?_
      refine Bk.step (St1.assign (x := "val") (i := .at (.bytes (toB (lett (i + 1) x)))) ?_ (.inl rfl)) (Bk.nil ⟨i + 1, rfl, by (first | lia | omega), rfl, rfl, e3⟩)
      have e : toB (lett (i + 1) x) = toB [65 + x / 16 ^ i % 16] ++ toB (lett i x) := by
        rw [lett_succ]; rfl
      rw [e]
      refine EV.bin (p := By (toB [65 + x / 16 ^ i % 16])) (EV.slice (p := By apB) Base.bytes (EV.nameIt e3) (.some (EV.nameIt rfl)) (.some (EV.bin (by trivial) (by trivial) Bi.add)) .none ?_) (EV.nameIt e2) (Bi.addB (by simp [toB, lett_length]; (first | lia | omega)))
      have hc := Sc.bytes (V := V) (k := k) (l := apB) (lo := some ((x / 16 ^ i % 16 : Nat) : Int)) (hi := some (((x / 16 ^ i % 16 + 1 : Nat)) : Int)) (by decide)
      rw [cut_run, Nat.add_sub_cancel_left, cut_ap _ hmod] at hc
      exact_mod_cast hc
    · have : i = m + 1 := by
        rw [← hz]
        have hb' : ((x / 16 ^ i : Nat) : Int) = 0 := by simpa only [bne_eq_false_iff_eq] using hb
        generalize x / 16 ^ i = z at hb'
        (first | lia | omega)
      subst this
      exact e2
  · intro ρ1 h
    exact Bk.last (St1.ret (EV.nameIt h) rfl)
end
end
section
open PySem PySem.Calls PyProof.Rows PySem.W

noncomputable def worth (l : List Nat) : Int := dval 4 (l.reverse.map fun c : Nat => (c : Int) - 65)
noncomputable def isL (c : Nat) : Prop := 65 ≤ c ∧ c < 81
noncomputable def ordF : It → List It
  | .at (.str [c]) => [iIt ((c : Int) - 65)]
  | _ => []
section
variable {V : Wo} {k : Nat}
theorem worth_cl (X : Facts V) (l : List Nat) (hl : ∀ c ∈ l, isL c) (hs : l.length < 1000) : Cl V (k + l.length + 2) (.ref 163) [S l] (I (worth l)) := by
  refine Cl.fn1 X.worth.2 rfl (.inl rfl) rfl ?_
  have hd := d2i_cl (V := V) (k := k) X (l.reverse.map fun c : Nat => (c : Int) - 65) 4 (fun x hx => by
    obtain ⟨c, hc, rfl⟩ := List.mem_map.mp hx
    have := hl c (List.mem_reverse.mp hc)
    unfold isL at this
    (first | lia | omega)) (by simp; (first | lia | omega)) (by simpa using hs)
  rw [List.length_map, List.length_reverse] at hd
  refine Bk.last (St1.ret (EV.call (ps := [IL (l.reverse.map fun c : Nat => (c : Int) - 65), I 4]) rfl X.digits2int.1 (Kept.fn X.digits2int.2) (.cons (by first | exact ns rfl | exact nIt rfl | exact nAcc rfl | nofun) ?_ (.cons (by first | exact ns rfl | exact nIt rfl | exact nAcc rfl | nofun) (by trivial) .nil)) hd) rfl)
  have e : IL (l.reverse.map fun c : Nat => (c : Int) - 65) = .list ((l.reverse.map fun c => sIt [c]).flatMap ordF) := by
    unfold IL
    rw [List.map_map, flat_map1 _ _ _ (fun c : Nat => iIt ((c : Int) - 65)) fun a _ => rfl]
    rfl
  rw [e]
  refine EV.comp1 (q := true) rfl (IE.str (EV.slice Base.str (by trivial) .none .none (.some (EV.un (by trivial) Un.neg)) (Sc.strRev (by (first | lia | omega))))) trivial ?_ (.inl rfl) ?_
  · refine mem_map_rev fun c _ => ⟨_, true, .name rfl rfl, rfl, fun _ => Em.elt (EV.bin (EV.call (ps := [S [c]]) rfl X.ord Kept.builtin (.cons (by first | exact ns rfl | exact nIt rfl | exact nAcc rfl | nofun) (by trivial) .nil) Cl.ord) (by trivial) Bi.sub), (by first | exact ns rfl | exact nIt rfl | exact nAcc rfl | nofun)⟩
  · rw [flat_map1 _ _ _ (fun c : Nat => iIt ((c : Int) - 65)) fun a _ => rfl]
    simp; (first | lia | omega)

noncomputable def clash (stem w : List Nat) : Bool := decide (w.take stem.length = stem) || decide (stem.take w.length = w)
noncomputable def freeB (stem : List Nat) (given : List (List Nat)) (edge : List Nat) : Bool := !decide ((stem ++ [65, 65, 65]).take 3 < edge) && given.all fun w => !clash stem w
noncomputable def clashF (stem : List Nat) : It → List It
  | .at (.str w) => if clash stem w then [iIt 1] else []
  | _ => []
theorem flat_nil {α : Type} (l : List α) (c : α → Bool) (x : It) : decide (PV.list (l.flatMap fun a => if c a then [x] else []) = PV.list []) = l.all fun a => !c a := by
  rw [Bool.eq_iff_iff, decide_eq_true_eq, List.all_eq_true]
  constructor
  · intro h a ha
    have h' : (l.flatMap fun a => if c a then [x] else []) = [] := by injection h
    rw [List.flatMap_eq_nil_iff] at h'
    have := h' a ha
    cases hc : c a with
    | false => rfl
    | true => rw [hc] at this; simp at this
  · intro h
    congr 1
    rw [List.flatMap_eq_nil_iff]
    intro a ha
    have := h a ha
    simp at this
    simp [this]
theorem free_cl (X : Facts V) (stem : List Nat) (given : List (List Nat)) (edge : List Nat) (h1 : stem.length < 1000) (h2 : given.length < 1000) (h3 : ∀ w ∈ given, w.length < 1000) : Cl V (k + 1) (.ref 180) [S stem, SL given, S edge] (B (freeB stem given edge)) := by
  refine Cl.fn3 X.free.2 rfl (.inr rfl) (.inl rfl) (.inl rfl) (by decide) (by decide) (by decide) rfl rfl rfl ?_
  refine Bk.last (St1.ret (p := B (freeB stem given edge)) ?_ rfl)
  unfold freeB
  refine EV.and ?_ fun _ => ?_
  · have hc := Sc.str (V := V) (k := k) (l := stem ++ [65, 65, 65]) (lo := none) (hi := some ((3 : Nat) : Int)) (by simp; (first | lia | omega))
    rw [cut_upto] at hc
    exact EV.cmp (EV.slice Base.str (EV.bin (by trivial) (by trivial) (Bi.addS (by simp; (first | lia | omega)))) .none (.some (by trivial)) .none hc) (by trivial) Bi.geS
  · have hb : (given.all fun w => !clash stem w) = (decide (PV.list ((given.map sIt).flatMap (clashF stem)) = PV.list [])) := by
      rw [List.flatMap_map]
      exact (flat_nil given (clash stem) (iIt 1)).symm
    rw [hb]
    refine EV.cmp ?_ (EV.list (l := []) .nil (by simp)) (Bi.eq ?_ rfl)
    · refine EV.comp1 (q := true) rfl (IE.list (by trivial)) (.inl trivial) ?_ (.inl rfl) ?_
      · refine mem_map_rev fun w hw => ?_
        have hwl := h3 w hw
        refine ⟨_, clash stem w, .name rfl rfl, ?_, fun hb => ?_, fun hb => ?_⟩
        · show ET _ _ _ _ _ _
          unfold clash
          have hc1 := Sc.str (V := V) (k := k) (l := w) (lo := none) (hi := some (stem.length : Int)) (by (first | lia | omega))
          have hc2 := Sc.str (V := V) (k := k) (l := stem) (lo := none) (hi := some (w.length : Int)) (by (first | lia | omega))
          rw [cut_upto] at hc1 hc2
          refine ET.or (ET.cmp (EV.slice Base.str (by trivial) .none (.some (EV.call (ps := [S stem]) rfl X.len Kept.builtin (.cons (by first | exact ns rfl | exact nIt rfl | exact nAcc rfl | nofun) (by trivial) .nil) (Cl.lenS (by (first | lia | omega))))) .none hc1) (by trivial) Bi.eqS) fun _ => ?_
          exact ET.cmp (EV.slice Base.str (by trivial) .none (.some (EV.call (ps := [S w]) rfl X.len Kept.builtin (.cons (by first | exact ns rfl | exact nIt rfl | exact nAcc rfl | nofun) (by trivial) .nil) (Cl.lenS (by (first | lia | omega))))) .none hc2) (by trivial) Bi.eqS
        · have : clashF stem (sIt w) = [iIt 1] := by simp [clashF, hb]
          rw [this]
          exact Em.elt (by trivial)
        · simp [clashF, hb]
      · have : ((given.map sIt).flatMap (clashF stem)).length ≤ given.length := by
          rw [List.flatMap_map]
          clear h2 h3 hb
          induction given with
          | nil => simp
          | cons a r ih =>
            rw [List.flatMap_cons, List.length_append, List.length_cons]
            have : (clashF stem (sIt a)).length ≤ 1 := by simp only [clashF]; split <;> simp
            (first | lia | omega)
        (first | lia | omega)
    · show (List.all _ _) = true
      rw [List.all_eq_true]
      intro z hz
      obtain ⟨y, hy, hz⟩ := List.mem_flatMap.mp hz
      obtain ⟨w, hw, rfl⟩ := List.mem_map.mp hy
      simp only [clashF] at hz
      split at hz
      · rw [List.mem_singleton] at hz; subst hz; rfl
      · cases hz
end
end
section
open PySem PySem.Calls PyProof.Rows PySem.W PySem.Spec

noncomputable def leW (a b : List Nat) : Bool := !decide (b < a)
noncomputable def srt (l : List (List Nat)) : List (List Nat) := l.mergeSort leW
theorem leW_trans (a b c : List Nat) (h1 : leW a b = true) (h2 : leW b c = true) : leW a c = true := by
  simp only [leW, Bool.not_eq_true', decide_eq_false_iff_not, List.not_lt] at *
  exact List.le_trans h1 h2
theorem leW_total (a b : List Nat) : (leW a b || leW b a) = true := by
  simp only [leW, Bool.or_eq_true, Bool.not_eq_true', decide_eq_false_iff_not, List.not_lt]
  exact List.le_total a b
theorem leW_anti (a b : List Nat) (h1 : leW a b = true) (h2 : leW b a = true) : a = b := by
  simp only [leW, Bool.not_eq_true', decide_eq_false_iff_not, List.not_lt] at *
  exact List.le_antisymm h1 h2
theorem srt_perm (l : List (List Nat)) : (srt l).Perm l := List.mergeSort_perm l leW
theorem srt_sorted (l : List (List Nat)) : (srt l).Pairwise fun a b => leW a b = true := List.pairwise_mergeSort leW_trans leW_total l
theorem srt_unique {l l' : List (List Nat)} (hp : l'.Perm l) (hs : l'.Pairwise fun a b => leW a b = true) : l' = srt l :=
  List.Perm.eq_of_pairwise (fun a b _ _ h1 h2 => leW_anti a b h1 h2) hs (srt_sorted l) (hp.trans (srt_perm l).symm)
theorem srt_length (l : List (List Nat)) : (srt l).length = l.length := (srt_perm l).length_eq
theorem srt_mem {l : List (List Nat)} {x : List Nat} : x ∈ srt l ↔ x ∈ l := (srt_perm l).mem_iff

theorem rising_pw : ∀ (p : Str) (l : List Str), risingS p l = true → ((p :: l).map fun x => x.cps.toList).Pairwise fun a b => leW a b = true
  | p, [], _ => by simp
  | p, x :: r, h => by
    have h' : (!ltCps x.cps.toList p.cps.toList && risingS x r) = true := h
    rw [Bool.and_eq_true] at h'
    have ih := rising_pw x r h'.2
    have hpx : leW p.cps.toList x.cps.toList = true := by
      unfold leW
      rw [← ltCps_eq]
      exact h'.1
    rw [List.map_cons]
    refine List.pairwise_cons.mpr ⟨fun a ha => ?_, ih⟩
    rw [List.map_cons] at ha
    rcases List.mem_cons.mp ha with rfl | ha
    · exact hpx
    · exact leW_trans _ _ _ hpx ((List.pairwise_cons.mp ih).1 a ha)
theorem sorted_pw {l : List Str} (h : sortedS l = true) : (l.map fun x => x.cps.toList).Pairwise fun a b => leW a b = true := by
  cases l with
  | nil => simp
  | cons x r => exact rising_pw x r h
section
variable {V : Wo} {k : Nat}
theorem Cl.sorted {l : List (List Nat)} (hl : l.length < 64) : Cl V k (.builtin "sorted") [SL l] (SL (srt l)) := fun A s vs Fi g hp => by
  obtain ⟨v, rfl, hv⟩ := hp.one
  obtain ⟨a, its, rfl, hl', hi⟩ := PV.isList hv
  have e : its.toList.length = l.length := by have := hi.length; simpa using this
  refine sorted_strs (vs := its.toList) (by simpa using hl') hi.strs (by (first | lia | omega)) fun out ss' h1 h2 h3 => ?_
  obtain ⟨ep, he⟩ := sortedAll_at s.heap its.toList out
  have hu : (ss'.map fun x => x.cps.toList) = srt l := srt_unique (by
    have := h2.map fun x => x.cps.toList
    rw [List.map_map] at this
    simpa [Function.comp_def] using this) (sorted_pw h3)
  refine ⟨Ok.grow (tk := s.toks) g fun b o e => sortedAll_old e, ⟨_, out, ep, rfl, he, ?_⟩, fun _ b _ e => ?_⟩
  · have := Its.ofStrs (h := sortedAll s.heap its.toList out) h1
    rw [hu] at this
    exact this
  · cases e
    exact fresh_none (Nat.le_succ _)
end
end
section
open PySem PySem.Calls PyProof.Rows PySem.W PySem.Spec

noncomputable def wOf : Value → List Nat
  | .str x _ => x.cps.toList
  | _ => []
structure SetP (V : Wo) (h : Heap) (a : Addr) (l : List (List Nat)) (es : Array (Int × Value)) (ep : Nat) (t : SetTable) : Prop where
  obj : h.get? a = some { cls := .type "set", dict := none, data := .set es ep t }
  el : ElemsOf (strKind prog V.w) es.toList
  fits : t.fits es.size = true
  room : es.size < scanBound
  plain : es.size ≠ 0 → t.plain = false
  vals : (es.toList.map fun e => wOf e.2).Perm l

set_option tactic.hygienic true in
theorem relay_plain {t : SetTable} (h : t.plain = false) (es : Array (Int × Value)) (n : Nat) : (relayAll t es n).2.1.plain = false := by
  unfold relayAll
  split
  · rename_i t' order ht
    dsimp only
    split
    · unfold SetTable.relaid SetTable.laid at ht
      rw [Option.bind_eq_bind, Option.bind_eq_some_iff] at ht
      obtain ⟨ow, _, e⟩ := ht
      simp only [Option.pure_def, Option.some.injEq, Prod.mk.injEq] at e
      rw [← e.1]
      exact h
    · rfl
  · rfl
theorem isStr_w {k : Str} {v : Value} {V : Wo} (h : (strKind prog V.w).is k v = true) : ∃ t, v = .str k t := Value.isStrOf_shape h
theorem isStr_of {k : Str} {t : Tok} {V : Wo} : (strKind prog V.w).is k (.str k t) = true := by
  show Value.isStrOf k (.str k t) = true
  simp [Value.isStrOf]
noncomputable def addW (l : List (List Nat)) (w : List Nat) : List (List Nat) := if w ∈ l then l else l ++ [w]

section
variable {V : Wo} {A : Around} {E : Value → Shared → Prop} {s : Shared}
theorem SetP.store {a : Addr} {l : List (List Nat)} {es : Array (Int × Value)} {ep : Nat} {t : SetTable} {h : Heap} (x : SetP V h a l es ep t) {l' : List (List Nat)} {es' : Array (Int × Value)} {t' : SetTable}
    (el : ElemsOf (strKind prog V.w) es'.toList) (fits : t'.fits es'.size = true) (room : es'.size < scanBound) (plain : t'.plain = false) (vals : (es'.toList.map fun e => wOf e.2).Perm l') :
    SetP V (h.update a (Obj.putSet es' t')) a l' es' (ep + 1) t' :=
  ⟨by have := Heap.get?_update_self (Obj.putSet es' t') x.obj (by rw [putSet_of es' t' rfl]; rfl)
      rw [putSet_of es' t' rfl] at this; exact this, el, fits, room, fun _ => plain, vals⟩
theorem set_add {a : Addr} {l : List (List Nat)} {es : Array (Int × Value)} {ep : Nat} {t : SetTable} {x : Str} {tk : Tok} {Q : Bool → Shared → Prop} (hS : SetP V s.heap a l es ep t) (hroom : l.length + 1 < scanBound)
    (h : ∀ b h' es' ep' t', Heap.SameBut a s.heap h' → SetP V h' a (addW l x.cps.toList) es' ep' t' → Q b { s with heap := h' }) :
    wpAny (model prog V.w) A (setAddHashed a (.str x tk) ((strKind prog V.w).hash x)) Q E s := by
  have hn : es.size = l.length := by have := hS.vals.length_eq; simpa using this
  have hgw : ∀ (b : Bool) {s₁ : Shared} {Q' : Unit → Shared → Prop}, Q' () s₁ → wpAny (model prog V.w) A (match b with | true => rule "set.scan.the-table-gave-way" | false => pure ()) Q' E s₁ :=
    fun b s₁ Q' hq => by cases b <;> first | exact wpAny_pure hq | exact wpAny_rule hq
  unfold setAddHashed setAddHashedIn
  refine wpAny_holding (wpAny_bind (wpAny_setState_of hS.obj rfl hS.fits ?_))
  dsimp only
  rw [byScan_of (by rfl) hS.room hS.el]
  simp only [↓reduceIte]
  unfold setAddByScan
  refine wpAny_bind (wpAny_bind (wpAny_rule (wpAny_bind (wpAny_setScan_of isStr_of hS.obj rfl hS.fits hS.el ?_))))
  cases hr : List.findIdx? (fun e => (strKind prog V.w).is x e.2) es.toList with
  | some j =>
    dsimp only
    obtain ⟨hj, hpj, _⟩ := List.findIdx?_eq_some_iff_getElem.mp hr
    obtain ⟨u, hu⟩ := isStr_w hpj
    have hm : x.cps.toList ∈ l := hS.vals.mem_iff.mp (List.mem_map.mpr ⟨_, List.getElem_mem hj, by rw [hu]; rfl⟩)
    refine wpAny_pure (wpAny_pure ?_)
    refine h false s.heap es ep t (Heap.SameBut.refl a s.heap) ?_
    rw [addW, if_pos hm]
    exact hS
  | none =>
    dsimp only
    have hm : x.cps.toList ∉ l := fun hm => by
      obtain ⟨e, he, hw⟩ := List.mem_map.mp (hS.vals.mem_iff.mpr hm)
      have := List.findIdx?_eq_none_iff.mp hr e he
      obtain ⟨⟨k, hk, _⟩, _⟩ := hS.el e he
      obtain ⟨u, hu⟩ := isStr_w hk
      rw [hu] at hw this
      have e2 : k = x := by
        cases k; cases x
        simp only [wOf] at hw
        rw [Array.toList_inj.mp hw]
      rw [e2, isStr_of] at this
      cases this
    have hp := layNew_perm t es ((strKind prog V.w).hash x) (.str x tk)
    have hf := layNew_fits t es ((strKind prog V.w).hash x) (.str x tk)
    generalize hL : layNew t es ((strKind prog V.w).hash x) (.str x tk) = L at hp hf ⊢
    obtain ⟨es1, t1, wasDummy, gave⟩ := L
    dsimp only at hp hf ⊢
    rw [Array.toList_push] at hp
    have hel1 : ElemsOf (strKind prog V.w) es1.toList := (hS.el.push isStr_of rfl).perm hp
    have hsz1 : es1.size = es.size + 1 := by rw [← Array.length_toList, hp.length_eq, List.length_append, Array.length_toList]; rfl
    have hv1 : (es1.toList.map fun e => wOf e.2).Perm (addW l x.cps.toList) := by
      rw [addW, if_neg hm]
      refine (hp.map _).trans ?_
      rw [List.map_append]
      exact hS.vals.append_right _
    have hb1 : es1.size < scanBound := by rw [hsz1, hn]; exact hroom
    refine wpAny_bind (hgw _ ?_)
    have fin : ∀ t2 : SetTable, t2.fits es1.size = true → t2.plain = false →
        wpAny (model prog V.w) A (do
          storeSet a es1 t2
          if (!wasDummy && t2.tooFull) = true then do
              (fun b : Bool => (match b with | true => rule "set.scan.the-table-gave-way" | false => pure () : Sem Unit)) (relayAll t2 es1 (SetTable.grown es1.size)).2.2
              storeSet a (relayAll t2 es1 (SetTable.grown es1.size)).1 (relayAll t2 es1 (SetTable.grown es1.size)).2.1
              pure (some true)
            else pure (some true)) (fun (r : Option Bool) s' => r = some true ∧ ∃ h' es' ep' t', s' = { s with heap := h' } ∧ Heap.SameBut a s.heap h' ∧ SetP V h' a (addW l x.cps.toList) es' ep' t') E s := by
      intro t2 hf2 hp2
      have st1 := hS.store hel1 hf2 hb1 hp2 hv1
      have sb1 := Heap.SameBut.update s.heap a (Obj.putSet es1 t2)
      refine wpAny_bind (wpAny_storeSet_of hS.obj rfl ?_ (fits_of_scanBound hb1))
      split
      · have hp3 := relayAll_perm t2 es1 (SetTable.grown es1.size)
        have hf3 := relayAll_fits t2 es1 (SetTable.grown es1.size)
        have hpl3 := relay_plain hp2 es1 (SetTable.grown es1.size)
        generalize relayAll t2 es1 (SetTable.grown es1.size) = R at hp3 hf3 hpl3 ⊢
        obtain ⟨es2, t3, gave2⟩ := R
        dsimp only at hp3 hf3 hpl3 ⊢
        have hsz2 : es2.size = es1.size := by rw [← Array.length_toList, hp3.length_eq, Array.length_toList]
        have hb2 : es2.size < scanBound := by rw [hsz2]; exact hb1
        refine wpAny_bind (hgw _ ?_)
        refine wpAny_bind (wpAny_storeSet_of st1.obj rfl ?_ (fits_of_scanBound hb2))
        exact wpAny_pure ⟨rfl, _, es2, _, t3, rfl, sb1.trans (Heap.SameBut.update _ a _), st1.store (hel1.perm hp3) hf3 hb2 hpl3 ((hp3.map _).trans hv1)⟩
      · exact wpAny_pure ⟨rfl, _, es1, _, t2, rfl, sb1, st1⟩
    cases hpl : t1.plain with
    | true =>
      simp only [↓reduceIte]
      refine wpAny_bind ?_
      rw [hashByValue_scannable 8 (by rfl)]
      refine wpAny_pure ?_
      refine wpAny_mono (fin { t1 with plain := false } (SetTable.fits_plain_off hf) rfl) (fun r s' hq => ?_) fun _ _ e => e
      obtain ⟨rfl, h', es', ep', t', rfl, hsb, hx⟩ := hq
      dsimp only
      exact wpAny_pure (h true h' es' ep' t' hsb hx)
    | false =>
      simp only [Bool.false_eq_true, ↓reduceIte]
      refine wpAny_bind (wpAny_pure ?_)
      simp only [↓reduceIte]
      refine wpAny_mono (fin t1 hf hpl) (fun r s' hq => ?_) fun _ _ e => e
      obtain ⟨rfl, h', es', ep', t', rfl, hsb, hx⟩ := hq
      dsimp only
      exact wpAny_pure (h true h' es' ep' t' hsb hx)
end

noncomputable def nubW (l : List (List Nat)) : List (List Nat) := l.foldl addW []
theorem nubW_length (l : List (List Nat)) : (nubW l).length ≤ l.length := by
  have : ∀ (l a : List (List Nat)), (l.foldl addW a).length ≤ a.length + l.length := by
    intro l
    induction l with
    | nil => intro a; simp
    | cons w r ih =>
      intro a
      rw [List.foldl_cons]
      have h1 := ih (addW a w)
      have h2 : (addW a w).length ≤ a.length + 1 := by unfold addW; split <;> simp
      simp; (first | lia | omega)
  simpa [nubW] using this l []
theorem nubW_take (l : List (List Nat)) {i : Nat} {w : List Nat} (h : l[i]? = some w) : nubW (l.take (i + 1)) = addW (nubW (l.take i)) w := by
  unfold nubW
  rw [List.take_add_one, h, List.foldl_append]
  rfl

section
variable {V : Wo} {A : Around} {R : Result → Shared → Prop} {I : Addr} {fp wr : List Addr} {G : Array GenState → Array GenState → Prop} {P : Nat → Value → Prop} {St : Nat → Shared → Prop}
theorem set_loop (l : List (List Nat)) (W : WalksS prog V.w A.in1 I fp wr G l.length P St) (S : Addr) (hSf : S ∉ fp) (hval : ∀ i v, P i v → ∃ w, l[i]? = some w ∧ (At.str w).is v) (hb : l.length + 1 < scanBound) :
    ∀ (k i : Nat) (s : Shared) es ep t, l.length - i = k → i ≤ l.length → St i s → SetP V s.heap S (nubW (l.take i)) es ep t →
      (∀ s' es ep t, Moved (S :: wr) G s s' → SetP V s'.heap S (nubW l) es ep t → R (.ok (.ret .none)) s') →
      codeAny (model prog V.w) A (.builtin "set.update.loop" ⟨[.ref S, .ref I], []⟩) R s := by
  have hSw : S ∉ wr := fun h => hSf (W.sub _ h)
  have hsub : ∀ b ∈ wr, b ∈ S :: wr := fun b hb => List.mem_cons_of_mem _ hb
  intro k
  induction k with
  | zero =>
    intro i s es ep t hk hi hst hS hR
    have hin : i = l.length := by (first | lia | omega)
    subst hin
    refine codeAny_builtin PyProof.Rows.F.entry_set_update_loop ?_
    rw [Around.under_plainId PyProof.Rows.F.plain_set_update_loop _]
    show wpAny _ A.in1 (pyNext (.ref I) >>= _) _ _ s
    refine wpAny_bind (W.done s _ _ hst fun s' hm => ?_)
    show wpAny _ A.in1 (ret Value.none) _ _ s'
    rw [List.take_length] at hS
    exact wpAny_pure (hR s' es ep t (hm.mono hsub) ⟨hm.heap S _ hSw hS.obj, hS.el, hS.fits, hS.room, hS.plain, hS.vals⟩)
  | succ k ih =>
    intro i s es ep t hk hi hst hS hR
    have hlt : i < l.length := by (first | lia | omega)
    refine codeAny_builtin PyProof.Rows.F.entry_set_update_loop ?_
    rw [Around.under_plainId PyProof.Rows.F.plain_set_update_loop _]
    show wpAny _ A.in1 (pyNext (.ref I) >>= _) _ _ s
    refine wpAny_bind (W.item i s _ _ hlt hst fun v s' hP hst' hm => ?_)
    obtain ⟨w, hw, tk, rfl⟩ := hval i v hP
    have hS' : SetP V s'.heap S (nubW (l.take i)) es ep t := ⟨hm.heap S _ hSw hS.obj, hS.el, hS.fits, hS.room, hS.plain, hS.vals⟩
    show wpAny _ A.in1 (holding [Value.str ⟨w.toArray⟩ tk] (setAdd S (.str ⟨w.toArray⟩ tk)) >>= _) _ _ s'
    refine wpAny_bind (wpAny_holding ?_)
    unfold setAdd
    refine wpAny_holding ?_
    refine wpAny_bind ((strKind prog V.w).pyHash (k := ⟨w.toArray⟩) isStr_of ?_)
    refine set_add (s := { s' with toks := s'.toks + 1 }) hS' (by have := nubW_length (l.take i); rw [List.length_take] at this; (first | lia | omega)) fun b h' es' ep' t' hsb hS2 => ?_
    have hS3 : SetP V h' S (nubW (l.take (i + 1))) es' ep' t' := by rw [nubW_take l hw]; simpa using hS2
    refine wpAny_pure ⟨plainId_quiet PyProof.Rows.F.plain_set_update_loop _, ih (i + 1) _ es' ep' t' (by (first | lia | omega)) hlt (W.frame _ s' _ _ hst' (Nat.le_succ _) fun b hb o e => ?_) hS3 fun s'' es2 ep2 t2 hm'' hS'' => ?_⟩
    · rw [hsb.2 b (fun h : b = S => hSf (by rw [← h]; exact hb))]; exact e
    · refine hR s'' es2 ep2 t2 (Moved.trans W.gtrans ((hm.mono hsub).then_heap (Nat.le_succ _) fun b o hb e => ?_) hm'') hS''
      rw [hsb.2 b (fun h : b = S => hb (by rw [h]; exact List.mem_cons_self))]; exact e
end
end
section
open PySem PySem.Calls PyProof.Rows PySem.W PySem.Spec

noncomputable abbrev set0 (led : Bool) : Obj := { cls := .type "set", dict := none, data := .set #[] 0 (.fresh 0 0 led) }
section
variable {V : Wo} {A : Around} {E : Value → Shared → Prop} {s : Shared}
theorem set0P (h : Heap) (led : Bool) : SetP V (h.push (set0 led)) h.objs.size [] #[] 0 (.fresh 0 0 led) :=
  ⟨Heap.get?_push_size _ rfl, fun e he => by simp at he, rfl, by decide, fun h => absurd rfl h, by simp⟩

set_option maxHeartbeats 3200000 in
theorem set_init {g : Nat → Bool} {l : Addr} {its : Array Value} {ws : List (List Nat)} {S : Addr} {led : Bool} {s₀ : Shared} {R : Result → Shared → Prop} (hh : A.handled = none) (hl : s₀.heap.IsList l its) (hi : Its s₀.heap (ws.map sIt) its.toList) (hb : ws.length + 1 < scanBound) (eS : S = s₀.heap.objs.size) (es : s = { s₀ with heap := s₀.heap.push (set0 led) })
    (hR : ∀ (h' : Heap) tk es ep t, SetP V h' S (nubW ws) es ep t → (∀ b o, s₀.heap.get? b = some o → h'.get? b = some o) → R (.ok (.ret .none)) { s₀ with heap := h', toks := tk }) :
    wpAny (model prog V.w) A.in1 (Builtin.«set.__init__» ⟨[.ref S, .ref l], []⟩) (fun fin s' => match fin with | .done f => R (.ok f) s' | .again c' => c'.quiet = true ∧ codeAny (model prog V.w) A c' R s') (fun e s' => R (.error e) s') s := by
  subst eS; subst es
  have hw : its.size = ws.length := by have := hi.length; simpa using this
  have hS := set0P (V := V) s₀.heap led
  have hlt : l < s₀.heap.objs.size := by obtain ⟨o, ho, _⟩ := hl; exact Heap.lt_size ho
  obtain ⟨ol, hol, hcl, nl, hdl⟩ := id hl
  obtain ⟨ocls, odict, odata, oslots⟩ := ol
  simp only at hcl hdl
  subst hcl; subst hdl
  have hol' : (s₀.heap.push (set0 led)).get? l = some { cls := .type "list", dict := odict, data := .seq its nl, slots := oslots } := Heap.get?_push_of_some _ hol
  have hl1 : (s₀.heap.push (set0 led)).IsList l its := ⟨_, hol', rfl, nl, rfl⟩
  have hSo : (s₀.heap.push (set0 led)).get? s₀.heap.objs.size = some (set0 led) := hS.obj
  have hsls := PySem.F.sub_list_set
  have hslf := PySem.F.sub_list_frozenset
  have hne : (Value.type "list" == Value.type "dict") = false := by decide
  unfold Builtin.«set.__init__» noKeywords Builtin.Frozenset.updateFrom
  generalize hPI : pyIter = PI
  wp_walk
  subst hPI
  refine wpAny_pyIter_list hl1 ?_
  refine wpAny_bind (wpAny_runValue ?_)
  have e2 : (s₀.heap.push (set0 led)).objs.size = s₀.heap.objs.size + 1 := by rw [Heap.size_push]
  have hh3 : A.in1.in1.in1.handled = none := by simp [hh]
  refine set_loop (V := V) ws (S := s₀.heap.objs.size) (by rw [← hw]; exact (Walks.list (A := A.in1.in1) (by simp [hh]) (s₀.heap.push (set0 led)).objs.size l (by rw [e2]; exact Nat.ne_of_lt (Nat.lt_succ_of_lt hlt)) its).toS) ?_ (fun i v hv => ?_) hb (ws.length - 0) 0 _ #[] 0 (.fresh 0 0 led) rfl (Nat.zero_le _) ?_ ?_ ?_
  · rw [e2]; simp only [List.mem_cons, List.not_mem_nil, or_false, not_or]; exact ⟨Nat.ne_of_lt (Nat.lt_succ_self _), Nat.ne_of_gt hlt⟩
  · obtain ⟨hlt', _⟩ := Array.getElem?_eq_some_iff.mp hv
    have hx : (ws.map sIt)[i]? = some (sIt ws[i]) := by rw [List.getElem?_map, List.getElem?_eq_getElem (by (first | lia | omega))]; rfl
    obtain ⟨u, hu, hxu⟩ := hi.get hx
    rw [Array.getElem?_toList, hv] at hu
    cases hu
    exact ⟨ws[i], List.getElem?_eq_getElem (by (first | lia | omega)), hxu⟩
  · exact ⟨⟨_, Heap.get?_push_size _ rfl, rfl, rfl⟩, hl1.push _⟩
  · exact ⟨Heap.get?_push_of_some _ hSo, hS.el, hS.fits, hS.room, hS.plain, hS.vals⟩
  · intro s' es ep t hm hx
    obtain ⟨h', g', d', tk', os'⟩ := s'
    have eg : g' = s₀.gens := hm.gens
    have ed : d' = s₀.drawn := hm.drawn
    have eo : os' = s₀.os := hm.os
    subst eg; subst ed; subst eo
    refine wpAny_pure ?_
    refine wpAny_pure ?_
    refine hR h' tk' es ep t hx fun b o e => ?_
    have := Heap.lt_size e
    refine hm.heap b o ?_ (Heap.get?_push_of_some _ (Heap.get?_push_of_some _ e))
    rw [e2]; simp only [List.mem_cons, List.not_mem_nil, or_false, not_or]; exact ⟨Nat.ne_of_lt this, Nat.ne_of_lt (Nat.lt_succ_of_lt this)⟩

set_option maxHeartbeats 3200000 in
theorem call_setW {l : Addr} {its : Array Value} {ws : List (List Nat)} {Q : Value → Shared → Prop} (hh : A.handled = none) (hl : s.heap.IsList l its) (hi : Its s.heap (ws.map sIt) its.toList) (hb : ws.length + 1 < scanBound)
    (h : ∀ (h' : Heap) tk es ep t, SetP V h' s.heap.objs.size (nubW ws) es ep t → (∀ b o, s.heap.get? b = some o → h'.get? b = some o) → Q (.ref s.heap.objs.size) { s with heap := h', toks := tk }) :
    wpAny (model prog V.w) A (call (.type "set") [.ref l]) Q E s := by
  obtain ⟨c, tl, hmro⟩ := PySem.F.called_set.mro
  have hmade := PySem.F.called_set.made
  have hsub := PySem.F.called_set.sub
  refine wpAny_call (codeAny_of_tree ?_)
  show wpAny _ _ (callAny (.type "set") _) _ _ _
  refine wpAny_pure ⟨Code.quiet_builtin _ (by decide +kernel), codeAny_builtin PySem.F.entry_type_call ?_⟩
  rw [Around.under_plain (weight_type_call_type "set" [.ref l] []) rfl]
  have h1 := PySem.F.called_set.notType
  have h2 := PySem.F.called_set.canCreate
  have hct := PySem.F.typeCall_set_1 (.ref l)
  repeat (any_goals (first | assumption | wp_step))
  refine codeAny_mono (code_set_new_1 (.ref l) (E := E) (Q₁ := fun obj s₁ => ∃ led : Bool, obj = .ref s.heap.objs.size ∧ s₁ = { s with heap := s.heap.push (set0 led) }) fun led => ⟨led, rfl, rfl⟩) fun r s₁ hr => ?_
  cases r with
  | error e => exact hr
  | ok fl =>
    cases fl with
    | ret obj =>
      obtain ⟨led, rfl, rfl⟩ := hr
      have hS : (s.heap.push (set0 led)).get? s.heap.objs.size = some (set0 led) := Heap.get?_push_size _ rfl
      have hT : Shared.TypeIs { s with heap := s.heap.push (set0 led) } (.ref s.heap.objs.size) "set" := ⟨_, hS, rfl⟩
      have hli := PySem.F.called_set.init.lookup
      have hbi := PySem.F.called_set.init.bind (.ref s.heap.objs.size)
      repeat (any_goals (first | assumption | wp_step))
      refine codeAny_mono (codeAny_call_builtin (R := wants (fun r s₂ => r = .none ∧ ∃ h' tk es ep t, s₂ = { s with heap := h', toks := tk } ∧ SetP V h' s.heap.objs.size (nubW ws) es ep t ∧ (∀ b o, s.heap.get? b = some o → h'.get? b = some o)) E)
        PySem.F.called_set.init.plain PySem.F.entry_set_init (check_set_init_1 hT (set_init (g := fun _ => true) (s₀ := s) (led := led) ?_ hl hi hb rfl rfl fun h' tk es ep t hx hk => ?_))) fun r₂ s₂ hr₂ => ?_
      · simp [hh]
      · exact ⟨rfl, h', tk, es, ep, t, rfl, hx, hk⟩
      · cases r₂ with
        | error e => exact hr₂
        | ok fl₂ =>
          cases fl₂ with
          | ret r =>
            obtain ⟨rfl, h', tk, es, ep, t, rfl, hx, hk⟩ := hr₂
            repeat (any_goals (first | assumption | wp_step))
            exact h h' tk es ep t hx hk
          | _ => exact hr₂.elim
    | _ => exact hr.elim
end
end
section
open PySem PySem.Calls PyProof.Rows PySem.W PySem.Spec

theorem slot_sit_next : Slot "set_iterator" "__next__" "set_iterator.__next__" :=
  .of (owner := "set_iterator") (n := "__next__") (by rw [typeLookup_type, builtinLookup_eq_fast]; kernel_rfl) (by decide +kernel) (by decide +kernel) (by decide +kernel)
    (by first | exact .inl (by decide +kernel) | exact .inr (by decide +kernel)) (by rw [isSubtype_type]; kernel_rfl)
theorem slot_sit_iter : Slot "set_iterator" "__iter__" "set_iterator.__iter__" :=
  .of (owner := "set_iterator") (n := "__iter__") (by rw [typeLookup_type, builtinLookup_eq_fast]; kernel_rfl) (by decide +kernel) (by decide +kernel) (by decide +kernel)
    (by first | exact .inl (by decide +kernel) | exact .inr (by decide +kernel)) (by rw [isSubtype_type]; kernel_rfl)
theorem entry_sit_iter : entryFor table "set_iterator.__iter__" = some Builtin.«dict_keyiterator.__iter__» :=
  entryFor_alias (id' := "dict_keyiterator.__iter__") (by rw [fastTable_eq_tree]; kernel_rfl) rfl (by decide +kernel) (by rw [fastTable_eq_tree]; kernel_rfl)
theorem args_sit_iter (a : Value) : argsOk "set_iterator.__iter__" ⟨[a], []⟩ := by
  unfold argsOk; rw [signature?_of (id := "set_iterator.__iter__") (n := ['_', '_', 'r', 'e', 't', 'i', '_', '_']) (o := ['r', 'o', 't', 'a', 'r', 'e', 't', 'i', '_', 't', 'e', 's']) (by kernel_rfl) (by kernel_rfl : Manifest.owners.lookup _ = some Manifest.sig_set_iterator)]; kernel_rfl
theorem entry_sit_next : entryFor table "set_iterator.__next__" = some Builtin.«set_iterator.__next__» := entryFor_of_tree (by kernel_rfl)
theorem args_sit_next (a : Value) : argsOk "set_iterator.__next__" ⟨[a], []⟩ := by
  unfold argsOk; rw [signature?_of (id := "set_iterator.__next__") (n := ['_', '_', 't', 'x', 'e', 'n', '_', '_']) (o := ['r', 'o', 't', 'a', 'r', 'e', 't', 'i', '_', 't', 'e', 's']) (by kernel_rfl) (by kernel_rfl : Manifest.owners.lookup _ = some Manifest.sig_set_iterator)]; kernel_rfl
theorem entry_set_iter : entryFor table "set.__iter__" = some Builtin.«frozenset.__iter__» :=
  entryFor_alias (id' := "frozenset.__iter__") (by rw [fastTable_eq_tree]; kernel_rfl) rfl (by decide +kernel) (by rw [fastTable_eq_tree]; kernel_rfl)

section
variable {M : Model} {A : Around} {E : Value → Shared → Prop} {s : Shared}
theorem wp_choice {src : Source} {n : Nat} {Q : Nat → Shared → Prop} (hn : n ≠ 0) (h : ∀ x d, x < n → Q x { s with drawn := d }) : wpAny M A (choose src n) Q E s := fun Γ p hΓ => by
  show Sem.wp M Γ (Sem.choose src n .pure) _ _ p s
  rw [Sem.wp_choose]
  exact ⟨hn, by
    rw [Sem.wp_pure]
    exact h _ _ (Nat.mod_lt _ (Nat.pos_of_ne_zero hn))⟩
theorem wp_draw {α : Type} : ∀ (n : Nat) (xs : List α) (s : Shared) (Q : List α → Shared → Prop), xs.length = n → (∀ ys d, ys.Perm xs → Q ys { s with drawn := d }) → wpAny M A (drawOrder n xs) Q E s
  | 0, xs, s, Q, hl, h => by
    rw [List.length_eq_zero_iff.mp hl]
    unfold drawOrder
    have := h [] s.drawn (by rw [List.length_eq_zero_iff.mp hl])
    exact wpAny_pure this
  | n + 1, [], s, Q, hl, h => by cases hl
  | n + 1, x :: r, s, Q, hl, h => by
    unfold drawOrder
    refine wpAny_bind (wp_choice (by simp) fun i d hi => ?_)
    rw [List.getElem?_eq_getElem hi]
    dsimp only
    refine wpAny_bind (wp_draw n _ _ _ (by rw [List.length_eraseIdx_of_lt hi]; (first | lia | omega)) fun ys d' hp => ?_)
    refine wpAny_pure (h _ d' ?_)
    refine (List.Perm.cons _ hp).trans ?_
    rw [List.eraseIdx_eq_take_drop_succ]
    refine List.perm_middle.symm.trans ?_
    have e : (x :: r).take i ++ ((x :: r)[i] :: (x :: r).drop (i + 1)) = x :: r := by
      rw [List.getElem_cons_drop, List.take_append_drop]
    rw [e]
end

theorem pick_perm {α : Type} (next : Nat → Nat) : ∀ (fuel k : Nat) (left : List α) (out : Array α), left.length = fuel → (pickOrder.go next fuel k left out).toList.Perm (out.toList ++ left)
  | 0, k, left, out, hl => by
    rw [List.length_eq_zero_iff.mp hl, List.append_nil]
    exact List.Perm.refl _
  | fuel + 1, k, left, out, hl => by
    unfold pickOrder.go
    have hi : next k % left.length < left.length := Nat.mod_lt _ (by (first | lia | omega))
    rw [List.getElem?_eq_getElem hi]
    dsimp only
    refine (pick_perm next fuel (k + 1) _ _ (by rw [List.length_eraseIdx_of_lt hi]; (first | lia | omega))).trans ?_
    rw [Array.toList_push, List.append_assoc, List.singleton_append]
    refine List.Perm.append_left _ ?_
    rw [List.eraseIdx_eq_take_drop_succ]
    refine List.perm_middle.symm.trans ?_
    rw [List.getElem_cons_drop, List.take_append_drop]
theorem pickOrder_perm {α : Type} (next : Nat → Nat) (xs : Array α) : (pickOrder next xs).toList.Perm xs.toList := by
  have := pick_perm next xs.size 0 xs.toList #[] (by simp)
  simpa [pickOrder] using this

structure SIt (h : Heap) (I S : Addr) (first : Value) (i n ep : Nat) : Prop where
  obj : h.get? I = some { cls := .type "set_iterator", data := .fields #[first, .int i 0, .ref S, .int n 0, .int ep 0] }
noncomputable def How (w : World) (h : Heap) (S T : Addr) (es : Array (Int × Value)) (ep : Nat) (first : Value) (ord : List Value) : Prop :=
  (∃ ps : List Nat, first = .ref T ∧ h.get? T = some { cls := .type "tuple", data := .seq ((ps.map fun p : Nat => Value.int p 0).toArray) 0 } ∧ ps.length = ord.length ∧ ∀ (j p : Nat), ps[j]? = some p → (es[p]?).map (fun e : Int × Value => e.2) = ord[j]?) ∨
  (first = .int 0 0 ∧ w.params.followText "set-order" = true ∧ ord = (pickOrder (w.params.setOrder S ep) es).toList.map (·.2))
section
variable {V : Wo} {A : Around} {E : Value → Shared → Prop} {s : Shared}
theorem sit_item {I S T : Addr} {first x : Value} {i ep : Nat} {l : List (List Nat)} {es : Array (Int × Value)} {t : SetTable} {ord : List Value} {Q : Option Value → Shared → Prop} (hI : SIt s.heap I S first i es.size ep) (hS : SetP V s.heap S l es ep t) (hw : How V.w s.heap S T es ep first ord) (hx : ord[i]? = some x)
    (hQ : ∀ h', SIt h' I S first (i + 1) es.size ep → Heap.SameBut I s.heap h' → Q (some x) { s with heap := h' }) : wpAny (model prog V.w) A (pyNext (.ref I)) Q E s := by
  have hT : s.TypeIs (.ref I) "set_iterator" := ⟨_, hI.obj, rfl⟩
  unfold pyNext
  refine wpAny_bind (wpAny_attempt (wpAny_callSpecial?_slot (name := Str.ofString "__next__") hT slot_sit_next (wpAny_call_entry slot_sit_next hT entry_sit_next ?_ (args_sit_next _))))
  unfold Builtin.«set_iterator.__next__»
  refine wpAny_bind (wpAny_pure ?_)
  refine wpAny_bind (wpAny_fieldsOf hI.obj rfl ?_)
  dsimp only
  refine wpAny_bind (wpAny_setEntries_of hS.obj rfl hS.fits ?_)
  rw [if_neg (by simp)]
  refine wpAny_bind (wpAny_pure ?_)
  rcases hw with ⟨ps, rfl, hTu, hl, hp⟩ | ⟨rfl, hb, rfl⟩
  · dsimp only
    refine wpAny_bind (wpAny_seqItems hTu rfl ?_)
    dsimp only
    have hi : i < ps.length := by
      rw [hl]
      exact (List.getElem?_eq_some_iff.mp hx).1
    have e1 : ((ps.map fun p : Nat => Value.int p 0).toArray)[i]? = some (.int (ps[i] : Nat) 0) := by simp [hi]
    have e2 : (es[ps[i]]?).map (fun e : Int × Value => e.2) = some x := by rw [hp i ps[i] (List.getElem?_eq_getElem hi), hx]
    rw [Int.toNat_natCast, e1]
    dsimp only
    rw [Int.toNat_natCast, Int.toNat_natCast]
    refine wpAny_bind ?_
    unfold setNextDrawn
    refine wpAny_bind (wpAny_setState_of hS.obj rfl hS.fits ?_)
    dsimp only
    rw [if_neg (by simp)]
    refine wpAny_bind (wpAny_pure ?_)
    obtain ⟨q, hq, hqx⟩ := Option.map_eq_some_iff.mp e2
    rw [hq]
    obtain ⟨qh, qx⟩ := q
    have hqx : qx = x := hqx
    subst hqx
    dsimp only
    refine wpAny_pure ?_
    refine wpAny_bind (wpAny_setField hI.obj rfl (by simp) ?_)
    refine wpAny_pure ⟨_, rfl, wpAny_pure (hQ _ ⟨?_⟩ (Heap.SameBut.update ..))⟩
    have := Heap.get?_update_self (Obj.mapFields (·.setIfInBounds 1 (rawInt ((i : Int) + 1)))) hI.obj rfl
    simpa [rawInt, Obj.mapFields] using this
  · dsimp only
    refine wpAny_bind ?_
    unfold setNext
    refine wpAny_bind (wpAny_setState_of hS.obj rfl hS.fits ?_)
    dsimp only
    refine wpAny_bind ?_
    unfold setsByText
    refine wpAny_bind (wpAny_askSetting (wpAny_pure ?_))
    show wpAny _ _ (if V.w.params.followText "set-order" = true then _ else _) _ _ _
    rw [if_pos hb]
    rw [if_neg (by simp)]
    refine wpAny_bind ?_
    unfold setWalk
    refine wpAny_bind (wpAny_setState_of hS.obj rfl hS.fits ?_)
    dsimp only
    refine wpAny_bind ?_
    unfold setsByText
    refine wpAny_bind (wpAny_askSetting (wpAny_pure ?_))
    show wpAny _ _ (if V.w.params.followText "set-order" = true then _ else _) _ _ _
    rw [if_pos hb]
    refine wpAny_bind (wpAny_askSetting (wpAny_pure ?_))
    rw [List.getElem?_map, Array.getElem?_toList] at hx
    obtain ⟨q, hq, hqx⟩ := Option.map_eq_some_iff.mp hx
    have hq' : (pickOrder ((⟨(model prog V.w).prog, (model prog V.w).w.params⟩ : Setting).params.setOrder S ep) es)[(i : Int).toNat]? = some q := by rw [Int.toNat_natCast]; exact hq
    refine wpAny_pure ?_
    rw [hq']
    obtain ⟨qh, qx⟩ := q
    have hqx : qx = x := hqx
    subst hqx
    dsimp only [Option.map]
    refine wpAny_bind (wpAny_setField hI.obj rfl (by simp) ?_)
    have h1 := Heap.get?_update_self (Obj.mapFields (·.setIfInBounds 0 (rawInt (((0 : Int).toNat : Nat) : Int)))) hI.obj rfl
    refine wpAny_bind (wpAny_setField h1 rfl (by simp) ?_)
    have h2 := Heap.get?_update_self (Obj.mapFields (·.setIfInBounds 1 (rawInt ((i : Int) + 1)))) h1 rfl
    refine wpAny_pure ⟨_, rfl, wpAny_pure (hQ _ ⟨?_⟩ ((Heap.SameBut.update ..).trans (Heap.SameBut.update ..)))⟩
    simpa [rawInt, Obj.mapFields] using h2

theorem stop_end {α : Type} {A' : Around} {F : α → Shared → Prop} {Q : Option Value → Shared → Prop} (hh : A'.handled = none) (hQ : ∀ h', (∀ b o, s.heap.get? b = some o → h'.get? b = some o) → Q Option.none { s with heap := h' }) :
    wpAny (model prog V.w) A' (newExc (.type "StopIteration") [] >>= fun e => raiseNew (α := α) e) F (fun e s' => wpAny (model prog V.w) A (do
      let b ← isInstance e (.type "StopIteration")
      if b = true then pure Option.none else throw e) Q E s') s := by
  refine wpAny_bind ?_
  simp only [newExc, newTuple]
  refine wpAny_bind (wpAny_newObj_type ?_ (by size_fits))
  refine wpAny_bind (m := firstArgMember _ _) (wpAny_of_eq (a := Value.none) (by first | rfl | (simp only [firstArgMember]; rfl)) ?_)
  refine wpAny_newObj_type ?_ (by size_fits)
  simp only [raiseNew]
  refine wpAny_bind (wpAny_handled ?_)
  rw [hh]
  refine wpAny_bind (wpAny_pure (wpAny_throw ?_))
  refine wpAny_bind (wpAny_isInstance (T := "StopIteration") (b := true) ⟨_, Heap.get?_push_size _ rfl, rfl⟩ isSubtype_stop ?_)
  exact wpAny_pure (hQ _ fun b o e => Heap.get?_push_of_some _ (Heap.get?_push_of_some _ e))
theorem sit_end {I S T : Addr} {first : Value} {ep : Nat} {l : List (List Nat)} {es : Array (Int × Value)} {t : SetTable} {ord : List Value} {Q : Option Value → Shared → Prop} (hh : A.handled = none) (hI : SIt s.heap I S first ord.length es.size ep) (hS : SetP V s.heap S l es ep t) (hw : How V.w s.heap S T es ep first ord)
    (hQ : ∀ h', Heap.ExtBut I s.heap h' → Q Option.none { s with heap := h' }) : wpAny (model prog V.w) A (pyNext (.ref I)) Q E s := by
  have hT : s.TypeIs (.ref I) "set_iterator" := ⟨_, hI.obj, rfl⟩
  unfold pyNext
  refine wpAny_bind (wpAny_attempt (wpAny_callSpecial?_slot (name := Str.ofString "__next__") hT slot_sit_next (wpAny_call_entry slot_sit_next hT entry_sit_next ?_ (args_sit_next _))))
  unfold Builtin.«set_iterator.__next__»
  refine wpAny_bind (wpAny_pure ?_)
  refine wpAny_bind (wpAny_fieldsOf hI.obj rfl ?_)
  dsimp only
  refine wpAny_bind (wpAny_setEntries_of hS.obj rfl hS.fits ?_)
  rw [if_neg (by simp)]
  refine wpAny_bind (wpAny_pure ?_)
  rcases hw with ⟨ps, rfl, hTu, hl, hp⟩ | ⟨rfl, hb, hord⟩
  · dsimp only
    refine wpAny_bind (wpAny_seqItems hTu rfl ?_)
    dsimp only
    have e1 : ((ps.map fun p : Nat => Value.int p 0).toArray)[ord.length]? = Option.none := by simp [hl]
    rw [Int.toNat_natCast, e1]
    dsimp only
    refine wpAny_bind (wpAny_setField hI.obj rfl (by simp) ?_)
    have h1 := Heap.get?_update_self (Obj.mapFields (·.setIfInBounds 0 (rawInt 0))) hI.obj rfl
    refine wpAny_bind (wpAny_setField h1 rfl (by simp) ?_)
    refine stop_end (by exact hh) fun h' hk => hQ h' fun b o hb e => hk b o ?_
    exact (Heap.get?_update_other _ _ (Ne.symm hb)).trans ((Heap.get?_update_other _ _ (Ne.symm hb)).trans e)
  · dsimp only
    refine wpAny_bind ?_
    unfold setNext
    refine wpAny_bind (wpAny_setState_of hS.obj rfl hS.fits ?_)
    dsimp only
    refine wpAny_bind ?_
    unfold setsByText
    refine wpAny_bind (wpAny_askSetting (wpAny_pure ?_))
    show wpAny _ _ (if V.w.params.followText "set-order" = true then _ else _) _ _ _
    rw [if_pos hb]
    rw [if_neg (by simp)]
    refine wpAny_bind ?_
    unfold setWalk
    refine wpAny_bind (wpAny_setState_of hS.obj rfl hS.fits ?_)
    dsimp only
    refine wpAny_bind ?_
    unfold setsByText
    refine wpAny_bind (wpAny_askSetting (wpAny_pure ?_))
    show wpAny _ _ (if V.w.params.followText "set-order" = true then _ else _) _ _ _
    rw [if_pos hb]
    refine wpAny_bind (wpAny_askSetting (wpAny_pure ?_))
    have hq' : (pickOrder ((⟨(model prog V.w).prog, (model prog V.w).w.params⟩ : Setting).params.setOrder S ep) es)[(ord.length : Int).toNat]? = Option.none := by
      rw [Int.toNat_natCast, hord, List.length_map, Array.length_toList]
      exact Array.getElem?_eq_none (Nat.le_refl _)
    refine wpAny_pure ?_
    rw [hq']
    dsimp only [Option.map]
    refine wpAny_bind (wpAny_setField hI.obj rfl (by simp) ?_)
    refine stop_end (by exact hh) fun h' hk => hQ h' fun b o hb e => hk b o ?_
    exact (Heap.get?_update_other _ _ (Ne.symm hb)).trans e
theorem sit_self {I S : Addr} {first : Value} {i n ep : Nat} {Q : Value → Shared → Prop} (hI : SIt s.heap I S first i n ep) (h : Q (.ref I) s) : wpAny (model prog V.w) A (pyIter (.ref I)) Q E s := by
  have hT : s.TypeIs (.ref I) "set_iterator" := ⟨_, hI.obj, rfl⟩
  refine wpAny_pyIter_slot hT slot_sit_iter (wpAny_call_entry slot_sit_iter hT entry_sit_iter ?_ (args_sit_iter _))
  show wpAny _ _ (ret (.ref I)) _ _ s
  exact wpAny_pure ⟨_, rfl, "set_iterator", _, hT, slot_sit_next.lookup, h⟩
theorem set_pyIter {S : Addr} {ep : Nat} {l : List (List Nat)} {es : Array (Int × Value)} {t : SetTable} {Q : Value → Shared → Prop} (hS : SetP V s.heap S l es ep t) (h2 : 2 ≤ es.size)
    (hQ : ∀ h' d I T first ord, (∀ b o, s.heap.get? b = some o → h'.get? b = some o) → s.heap.objs.size ≤ I → I < h'.objs.size → T ≠ I → T < h'.objs.size → (T = S ∨ s.heap.objs.size ≤ T) → SIt h' I S first 0 es.size ep → How V.w h' S T es ep first ord → ord.Perm (es.toList.map (·.2)) → Q (.ref I) { s with heap := h', drawn := d }) :
    wpAny (model prog V.w) A (pyIter (.ref S)) Q E s := by
  have hT : s.TypeIs (.ref S) "set" := ⟨_, hS.obj, rfl⟩
  have hlt : S < s.heap.objs.size := Heap.lt_size hS.obj
  refine wpAny_pyIter_slot hT PySem.F.slot_set_iter (wpAny_call_entry PySem.F.slot_set_iter hT entry_set_iter ?_ (PySem.F.args_set_iter_1 _))
  unfold Builtin.«frozenset.__iter__»
  refine wpAny_bind (wpAny_pure ?_)
  unfold Builtin.Frozenset.sizeOf
  refine wpAny_bind (wpAny_bind (wpAny_setEntries_of hS.obj rfl hS.fits (wpAny_pure ?_)))
  refine wpAny_bind ?_
  unfold setDrawn
  refine wpAny_bind (wpAny_setState_of hS.obj rfl hS.fits ?_)
  dsimp only
  refine wpAny_bind ?_
  unfold setsByText
  refine wpAny_bind (wpAny_askSetting (wpAny_pure ?_))
  refine wpAny_pure ?_
  show wpAny _ _ (if (!(V.w.params.followText "set-order") && (!t.plain && decide (es.size > 1))) = true then _ else _) _ _ _
  rw [hS.plain (by (first | lia | omega))]
  have hz : es.size < sizeLine := by have h1 := hS.room; have h3 : scanBound = 4096 := rfl; rw [sizeLine_eq]; (first | lia | omega)
  cases hb : V.w.params.followText "set-order" with
  | true =>
    rw [if_neg (by simp)]
    refine wpAny_bind (wpAny_pure ?_)
    refine wpAny_bind (wpAny_setEpoch_of hS.obj rfl hS.fits ?_)
    refine wpAny_bind (wpAny_newObj_type (wpAny_pure ⟨_, rfl, "set_iterator", _, ⟨_, Heap.get?_push_size _ rfl, rfl⟩, slot_sit_next.lookup, ?_⟩))
    refine hQ _ s.drawn s.heap.objs.size S (.int 0 0) _ (fun b o e => Heap.get?_push_of_some _ e) (Nat.le_refl _) (by rw [Heap.size_push]; exact Nat.lt_succ_self _) (Nat.ne_of_lt hlt) (by rw [Heap.size_push]; exact Nat.lt_succ_of_lt hlt) (.inl rfl) ⟨Heap.get?_push_size _ rfl⟩ (.inr ⟨rfl, hb, rfl⟩) ((pickOrder_perm _ es).map _)
  | false =>
    rw [if_pos (by simp; (first | lia | omega))]
    refine wpAny_bind ?_
    refine wp_draw _ _ _ _ (by simp) fun ys d hp => ?_
    have hyl : ys.length = es.size := by rw [hp.length_eq, List.length_range]
    refine wpAny_bind (wpAny_newTuple (items := ys.map fun i : Nat => rawInt i) ?_ (by rw [List.length_map, hyl]; exact Nat.le_of_lt hz))
    refine wpAny_bind (wpAny_setEpoch_of (o := { cls := .type "set", dict := none, data := .set es ep t }) (Heap.get?_push_of_some _ hS.obj) rfl hS.fits ?_)
    refine wpAny_bind (wpAny_newObj_type (wpAny_pure ⟨_, rfl, "set_iterator", _, ⟨_, Heap.get?_push_size _ rfl, rfl⟩, slot_sit_next.lookup, ?_⟩))
    have hle : ∀ p ∈ ys, p < es.size := fun p hp' => List.mem_range.mp (hp.mem_iff.mp hp')
    refine hQ _ d _ s.heap.objs.size (.ref s.heap.objs.size) (ys.filterMap fun p => (es[p]?).map fun e : Int × Value => e.2) (fun b o e => Heap.get?_push_of_some _ (Heap.get?_push_of_some _ e)) (by rw [Heap.size_push]; exact Nat.le_succ _) (Heap.lt_size (Heap.get?_push_size _ rfl)) (by rw [Heap.size_push]; exact Nat.ne_of_lt (Nat.lt_succ_self _)) (by rw [Heap.size_push, Heap.size_push]; exact Nat.lt_succ_of_lt (Nat.lt_succ_self _)) (.inr (Nat.le_refl _)) ⟨Heap.get?_push_size _ rfl⟩ (.inl ⟨ys, rfl, ?_, ?_, ?_⟩) ?_
    · refine Heap.get?_push_of_some _ ?_
      have := Heap.get?_push_size s.heap (o := { cls := .type "tuple", data := .seq (ys.map fun i : Nat => rawInt i).toArray }) rfl
      exact this
    · have : ∀ ys : List Nat, (∀ p ∈ ys, p < es.size) → ys.length = (ys.filterMap fun p => (es[p]?).map fun e : Int × Value => e.2).length := by
        intro ys
        induction ys with
        | nil => intro _; rfl
        | cons p r ih =>
          intro h
          rw [List.filterMap_cons, Array.getElem?_eq_getElem (h p List.mem_cons_self)]
          simp only [Option.map_some, List.length_cons]
          rw [← ih fun q hq => h q (List.mem_cons_of_mem _ hq)]
      exact this ys hle
    · have : ∀ (ys : List Nat), (∀ p ∈ ys, p < es.size) → ∀ (j p : Nat), ys[j]? = some p → (es[p]?).map (fun e : Int × Value => e.2) = (ys.filterMap fun p => (es[p]?).map fun e : Int × Value => e.2)[j]? := by
        intro ys
        induction ys with
        | nil => intro _ j p h; simp at h
        | cons q r ih =>
          intro h j p hj
          rw [List.filterMap_cons, Array.getElem?_eq_getElem (h q List.mem_cons_self)]
          simp only [Option.map_some]
          cases j with
          | zero =>
            simp only [List.getElem?_cons_zero, Option.some.injEq] at hj ⊢
            subst hj
            rw [Array.getElem?_eq_getElem (h q List.mem_cons_self)]
            rfl
          | succ j =>
            simp only [List.getElem?_cons_succ] at hj ⊢
            exact ih (fun q hq => h q (List.mem_cons_of_mem _ hq)) j p hj
      exact this ys hle
    · refine (hp.filterMap _).trans ?_
      have : ((List.range es.size).filterMap fun p => (es[p]?).map fun e : Int × Value => e.2) = es.toList.map fun e : Int × Value => e.2 := by
        have e1 : ∀ l : List (Int × Value), ((List.range l.length).filterMap fun p => (l[p]?).map fun e : Int × Value => e.2) = l.map fun e : Int × Value => e.2 := by
          intro l
          induction l with
          | nil => rfl
          | cons a r ih =>
            rw [List.length_cons, List.range_succ_eq_map, List.filterMap_cons]
            simp only [List.getElem?_cons_zero, Option.map_some, List.map_cons]
            rw [List.filterMap_map]
            exact congrArg _ ih
        have := e1 es.toList
        rw [Array.length_toList] at this
        simpa using this
      rw [this]
end
end
section
open PySem PySem.Calls PyProof.Rows PySem.W PySem.Spec

section
variable {V : Wo} {A : Around} {E : Value → Shared → Prop} {s : Shared}
theorem How.keeps {w : World} {h h' : Heap} {S T : Addr} {es : Array (Int × Value)} {ep : Nat} {first : Value} {ord : List Value} (x : How w h S T es ep first ord) (k : ∀ o, h.get? T = some o → h'.get? T = some o) : How w h' S T es ep first ord := by
  rcases x with ⟨ps, rfl, hT, hl, hp⟩ | hr
  · exact .inl ⟨ps, rfl, k _ hT, hl, hp⟩
  · exact .inr hr
theorem setWalks {I S T : Addr} {first : Value} {ep : Nat} {l : List (List Nat)} {es : Array (Int × Value)} {t : SetTable} {ord : List Value} (hh : A.handled = none) (hSI : S ≠ I) (hTI : T ≠ I) (hlen : ord.length = es.size) :
    Walks prog V.w A I [I, S, T] [I] ord.length (fun i v => ord[i]? = some v) (fun i h => SIt h I S first i es.size ep ∧ SetP V h S l es ep t ∧ How V.w h S T es ep first ord) where
  sub := fun b hb => by simp at hb; simp [hb]
  frame := fun _ _ _ st hk => ⟨⟨hk I (by simp) _ st.1.obj⟩, ⟨hk S (by simp) _ st.2.1.obj, st.2.1.el, st.2.1.fits, st.2.1.room, st.2.1.plain, st.2.1.vals⟩, st.2.2.keeps fun o e => hk T (by simp) o e⟩
  item := fun i s Q E hi st hQ => by
    refine sit_item st.1 st.2.1 st.2.2 (List.getElem?_eq_getElem hi) fun h' hI hs => ?_
    have hk : ∀ b o, b ≠ I → s.heap.get? b = some o → h'.get? b = some o := fun b o hb e => hs.extBut b o hb e
    exact hQ _ h' s.toks (List.getElem?_eq_getElem hi) ⟨hI, ⟨hk _ _ hSI st.2.1.obj, st.2.1.el, st.2.1.fits, st.2.1.room, st.2.1.plain, st.2.1.vals⟩, st.2.2.keeps fun o e => hk T o hTI e⟩ fun b o hb e => hk b o (fun h => hb (by simp [h])) e
  done := fun s Q E st hQ => by
    refine sit_end hh st.1 st.2.1 st.2.2 fun h' he => hQ h' s.toks fun b o hb e => he b o (fun h => hb (by simp [h])) e
  self := fun _ _ _ _ st hQ => sit_self st.1 hQ

theorem set_hint {S : Addr} {Q : Bool → Shared → Prop} (hT : s.TypeIs (.ref S) "set") (h : Q false s) : wpAny (model prog V.w) A (Builtin.List.listLengthHint (.ref S)) Q E s := by
  unfold Builtin.List.listLengthHint
  refine wpAny_bind (wpAny_specialOf hT PySem.F.slot_set_len.lookup ?_)
  generalize hid : ("set.__len__" : String) = id0
  wp_delta
  rw [show splitId id0 = some ("set", "__len__") from by subst hid; decide +kernel]
  subst hid
  refine wpAny_bind (wpAny_isInstance (T := "set") (b := true) hT (by rw [isSubtype_type]; kernel_rfl) ?_)
  refine wpAny_ite_split (fun hab => absurd hab (by decide)) (fun _ => ?_)
  refine wpAny_ite_split (fun _ => ?_) (fun hab => absurd (by decide +kernel) hab)
  refine wpAny_bind (wpAny_typeOf hT ?_)
  exact wpAny_pure h

theorem set_extend {L S : Addr} {c₀ ep : Nat} {l : List (List Nat)} {es : Array (Int × Value)} {t : SetTable} {R : Result → Shared → Prop} {res : Value} (hh : A.handled = none) (hS : SetP V s.heap S l es ep t) (h2 : 2 ≤ es.size) (hLS : L ≠ S) (hL : s.heap.get? L = some { cls := .type "list", data := .seq #[] c₀ })
    (hR : ∀ h' d tk acc c, (∀ b o, b ≠ L → s.heap.get? b = some o → h'.get? b = some o) → h'.get? L = some { cls := .type "list", dict := none, data := .seq acc c, slots := #[] } → acc.toList.Perm (es.toList.map (·.2)) → R (.ok (.ret res)) { s with heap := h', drawn := d, toks := tk }) :
    wpAny (model prog V.w) A.in1 (Builtin.List.listExtendWith (.ref L) (.ref S) res)
      (fun fin s' => match fin with | .done f => R (.ok f) s' | .again c' => c'.quiet = true ∧ codeAny (model prog V.w) A c' R s') (fun e s' => R (.error e) s') s := by
  have hz : es.size ≤ sizeLine := by have h1 := hS.room; have h3 : scanBound = 4096 := rfl; rw [sizeLine_eq]; (first | lia | omega)
  have hT : s.TypeIs (.ref S) "set" := ⟨_, hS.obj, rfl⟩
  unfold Builtin.List.listExtendWith
  refine wpAny_bind (wpAny_typeOf (T := "set") hT ?_)
  have h1 : Builtin.List.listSameRef (.ref L) (.ref S) = false := by simp [Builtin.List.listSameRef, hLS]
  have n1 : (Value.type "set" == Value.type "list") = false := by decide
  have n2 : (Value.type "set" == Value.type "tuple") = false := by decide
  simp only [h1, n1, n2, Bool.or_false, Bool.false_eq_true, if_false]
  refine wpAny_bind (set_pyIter hS h2 fun h1 d I T first ord hk hIge hIlt hTI hTlt hTge hI hw hp => ?_)
  have hlen : ord.length = es.size := by have := hp.length_eq; simpa using this
  have hLI : L ≠ I := fun e => absurd (Heap.lt_size hL) (by rw [e]; exact Nat.not_lt.mpr hIge)
  have hSI : S ≠ I := fun e => absurd (Heap.lt_size hS.obj) (by rw [e]; exact Nat.not_lt.mpr hIge)
  have hLT : L ≠ T := fun e => by
    rcases hTge with h | h
    · exact hLS (e.trans h)
    · exact absurd (Heap.lt_size hL) (by rw [e]; exact Nat.not_lt.mpr h)
  have hLf : L ∉ [I, S, T] := by simp only [List.mem_cons, List.not_mem_nil, or_false, not_or]; exact ⟨hLI, hLS, hLT⟩
  have hS1 : SetP V h1 S l es ep t := ⟨hk _ _ hS.obj, hS.el, hS.fits, hS.room, hS.plain, hS.vals⟩
  have key : ∀ (h : Heap) (c₁ tk : Nat), (∀ b o, b ≠ L → h1.get? b = some o → h.get? b = some o) → h.get? L = some { cls := .type "list", data := .seq #[] c₁ } →
      codeAny (model prog V.w) A (.builtin "list.extend.loop" ⟨[.ref L, .ref I, res], []⟩) R { s with heap := h, drawn := d, toks := tk } := by
    intro h c₁ tk hk2 hL2
    have W := (setWalks (V := V) (A := A.in1) (first := first) (ep := ep) (l := l) (es := es) (t := t) (ord := ord) (by exact hh) hSI hTI hlen).toS
    refine codeAny_extend_loopS W (by rw [hlen]; exact hz) L hLf res ord.length 0 _ #[] c₁ rfl (Nat.zero_le _) ⟨⟨hk2 _ _ (Ne.symm hLI) hI.obj⟩, ⟨hk2 _ _ (Ne.symm hLS) hS1.obj, hS.el, hS.fits, hS.room, hS.plain, hS.vals⟩, hw.keeps fun o e => hk2 _ _ (Ne.symm hLT) e⟩ hL2 (ItemsOf.nil _) fun s' acc c hm hL' hacc => ?_
    rw [Moved.eq_with hm]
    refine hR s'.heap d s'.toks acc c (fun b o hb e => hm.heap b o (fun hmem => ?_) (hk2 b o hb (hk b o e))) hL' ?_
    · rcases List.mem_cons.mp hmem with e' | hmem
      · exact hb e'
      · exact absurd (Heap.lt_size e) (by rw [List.mem_singleton.mp hmem]; exact Nat.not_lt.mpr hIge)
    · have : acc.toList = ord := by
        refine List.ext_getElem? fun j => ?_
        cases hj : acc.toList[j]? with
        | some v => exact (hacc.2 j v (by rw [← Array.getElem?_toList]; exact hj)).symm
        | none =>
          have h1 := List.getElem?_eq_none_iff.mp hj
          rw [Array.length_toList, hacc.1] at h1
          exact (List.getElem?_eq_none h1).symm
      rw [this]; exact hp
  have hL1 := hk _ _ hL
  refine wpAny_bind (wpAny_holding (set_hint (s := { s with heap := h1, drawn := d }) ⟨_, hS1.obj, rfl⟩ ?_))
  refine wpAny_ite_split (fun _ => ?_) (fun _ => wpAny_pure ⟨plainId_quiet PySem.F.plain_extend_loop _, key _ c₀ _ (fun b o _ e => e) hL1⟩)
  refine wpAny_bind (wpAny_rule ?_)
  refine wpAny_bind ?_
  show wpAny _ _ (updateSeq L (·.push .none) >>= fun _ => updateSeq L (·.pop)) _ _ _
  refine wpAny_bind (wpAny_updateSeq (s := { s with heap := h1, drawn := d }) hL1 rfl ?_)
  have hL₂ := Heap.get?_update_self (Obj.mapSeq (·.push Value.none)) hL1 rfl
  refine wpAny_updateSeq (hz := by seq_fits) hL₂ rfl ?_
  have hL₃ := Heap.get?_update_self (Obj.mapSeq (·.pop)) hL₂ rfl
  refine wpAny_pure ⟨plainId_quiet PySem.F.plain_extend_loop _, key _ _ _ (fun b o hb e => ?_) hL₃⟩
  exact (Heap.get?_update_other _ _ (Ne.symm hb)).trans ((Heap.get?_update_other _ _ (Ne.symm hb)).trans e)

theorem set_collect {S : Addr} {ep : Nat} {l : List (List Nat)} {es : Array (Int × Value)} {t : SetTable} {R : List Value → Shared → Prop} (hh : A.handled = none) (hS : SetP V s.heap S l es ep t) (h2 : 2 ≤ es.size)
    (hR : ∀ h' d tk acc, (∀ b o, s.heap.get? b = some o → h'.get? b = some o) → acc.Perm (es.toList.map (·.2)) → R acc { s with heap := h', drawn := d, toks := tk }) :
    wpAny (model prog V.w) A (collect (.ref S)) R E s := by
  have hlt : S < s.heap.objs.size := Heap.lt_size hS.obj
  unfold collect
  refine wpAny_bind (wpAny_runValue (codeAny_builtin entry_proto_collect' ?_))
  rw [Around.under_plainId PySem.F.plain_proto_collect _]
  show wpAny _ A.in1 (newList [] >>= fun l => again (.builtin "list.__iadd__" ⟨[l, .ref S], []⟩)) _ _ s
  refine wpAny_bind (wpAny_newObj_type ?_)
  refine wpAny_pure ⟨plainId_quiet PySem.F.plain_list_iadd _, codeAny_builtin entry_list_iadd' ?_⟩
  rw [Around.under_plainId PySem.F.plain_list_iadd _]
  have hL : (s.heap.push { cls := .type "list", data := .seq ([] : List Value).toArray }).get? s.heap.objs.size = some { cls := .type "list", data := .seq #[] } := Heap.get?_push_size _ rfl
  show wpAny _ A.in1 (Builtin.List.listExtendWith (.ref s.heap.objs.size) (.ref S) (.ref s.heap.objs.size)) _ _ _
  have key := set_extend (V := V) (A := A) (s := { s with heap := s.heap.push { cls := .type "list", data := .seq ([] : List Value).toArray } }) (res := .ref s.heap.objs.size)
    (R := fun (q : Result) (s' : Shared) => ∃ (h' : Heap) (d : Drawn) (tk : Nat) (acc : Array Value) (c : Nat), q = .ok (.ret (.ref s.heap.objs.size)) ∧ s' = { s with heap := h', drawn := d, toks := tk } ∧
      (∀ b o, s.heap.get? b = some o → h'.get? b = some o) ∧ h'.get? s.heap.objs.size = some { cls := .type "list", dict := none, data := .seq acc c, slots := #[] } ∧ acc.toList.Perm (es.toList.map (·.2)))
    hh ⟨Heap.get?_push_of_some _ hS.obj, hS.el, hS.fits, hS.room, hS.plain, hS.vals⟩ h2 (Nat.ne_of_gt hlt) hL
    (fun h' d tk acc c hk hL' hp => ⟨h', d, tk, acc, c, rfl, rfl, fun b o e => hk b o (Nat.ne_of_lt (Heap.lt_size e)) (Heap.get?_push_of_some _ e), hL', hp⟩)
  refine wpAny_mono key (fun fin s' x => ?_) fun e s' x => ?_
  · cases fin with
    | done f =>
      obtain ⟨h', d, tk, acc, c, e, rfl, hk, hL', hp⟩ := x
      cases e
      show wpAny _ A (load s.heap.objs.size >>= _) _ _ _
      refine wpAny_bind (wpAny_load hL' ?_)
      exact wpAny_pure (hR h' d tk acc.toList hk hp)
    | again c₁ =>
      refine ⟨x.1, codeAny_mono x.2 fun q s₂ y => ?_⟩
      obtain ⟨h', d, tk, acc, c, rfl, rfl, hk, hL', hp⟩ := y
      show wpAny _ A (load s.heap.objs.size >>= _) _ _ _
      refine wpAny_bind (wpAny_load hL' ?_)
      exact wpAny_pure (hR h' d tk acc.toList hk hp)
  · obtain ⟨_, _, _, _, _, e', _⟩ := x
    cases e'
theorem call_sorted_set {S : Addr} {ep : Nat} {l : List (List Nat)} {es : Array (Int × Value)} {t : SetTable} {Q : Value → Shared → Prop} (hh : A.handled = none) (hS : SetP V s.heap S l es ep t) (h2 : 2 ≤ es.size) (h64 : l.length < 64)
    (hQ : ∀ h' d tk a, (∀ b o, s.heap.get? b = some o → h'.get? b = some o) → s.heap.get? a = none → (SL (srt l)).is h' (.ref a) → Q (.ref a) { s with heap := h', drawn := d, toks := tk }) :
    wpAny (model prog V.w) A (call (.builtin "sorted") [.ref S]) Q E s := by
  have hn : es.size = l.length := by have := hS.vals.length_eq; simpa using this
  refine call_function_entry kind_sorted plain_sorted entry_sorted (args_sorted1 _) ?_
  unfold Builtin.«sorted»
  refine wpAny_bind (m := checkCount "sorted" 1 1 _) (wpAny_pure ?_)
  refine wpAny_bind (set_collect (A := A.in1) hh hS h2 fun h' d tk acc hk hp => ?_)
  have hla : acc.length = es.size := by have := hp.length_eq; simpa using this
  have hacc : ∀ v, v ∈ acc → ∃ x t, v = .str x t := fun v hv => by
    obtain ⟨e, he, rfl⟩ := List.mem_map.mp (hp.mem_iff.mp hv)
    obtain ⟨⟨k, hk, _⟩, _⟩ := hS.el e he
    obtain ⟨u, hu⟩ := isStr_w hk
    exact ⟨k, u, hu⟩
  have hSt : StrsAre acc (acc.map strOf) := strsAre_map acc hacc
  refine wpAny_bind (wpAny_newList ?_ (by rw [hla, hn, sizeLine_eq]; (first | lia | omega)))
  have hoL : (h'.push (seqObj "list" acc.toArray 0)).get? h'.objs.size = some (seqObj "list" acc.toArray 0) := Heap.get?_push_size _ rfl
  refine wpAny_bind (wpAny_holding (wpAny_call_entry slot_list_sort ⟨_, hoL, rfl⟩ entry_list_sort (list_sort_treeK strKind_oneLt hoL hSt.keysOf (fun v₁ v₂ rest e => keyKind_strs (by rw [← e]; exact hSt)) (by rw [hla, hn]; exact h64) fun st' a1 a2 => ⟨_, rfl, ?_⟩) (args_list_sort _)))
  obtain ⟨ss', h1, h2', h3⟩ := sorted_out_str hSt a1 a2
  obtain ⟨e, he⟩ := sortedHeap_at (out := (arrOf st').map (·.2)) hoL
  refine wpAny_pure ⟨_, rfl, hQ _ d tk h'.objs.size (fun b o e' => ?_) ?_ ⟨_, _, e, rfl, he, ?_⟩⟩
  · have hlt := Heap.lt_size (hk b o e')
    rw [sortedHeap_old (Nat.ne_of_lt hlt) (by rw [Heap.size_push]; exact Nat.lt_succ_of_lt hlt)]
    exact Heap.get?_push_of_some _ (hk b o e')
  · cases e' : s.heap.get? h'.objs.size with
    | none => rfl
    | some o => exact absurd (Heap.lt_size (hk _ _ e')) (Nat.lt_irrefl _)
  · have hu : (ss'.map fun x => x.cps.toList) = srt l := srt_unique (by
      have e1 := (h2'.map fun x : Str => x.cps.toList)
      rw [List.map_map] at e1
      refine e1.trans ?_
      have e2 : ∀ vs : List Value, (∀ v, v ∈ vs → ∃ x t, v = .str x t) → vs.map ((fun x : Str => x.cps.toList) ∘ strOf) = vs.map wOf := fun vs h => List.map_congr_left fun v hv => by
        obtain ⟨x, t, rfl⟩ := h v hv
        rfl
      rw [e2 acc hacc]
      refine (hp.map wOf).trans ?_
      rw [List.map_map]
      exact hS.vals) (sorted_pw h3)
    have := Its.ofStrs (h := sortedHeap (h'.push (seqObj "list" acc.toArray 0)) h'.objs.size acc ((arrOf st').map (·.2))) h1
    rw [hu] at this
    exact this
end
end
section
open PySem PySem.Calls PyProof.Rows PySem.W PySem.Spec

theorem Ok.growD {V : Wo} {s : Shared} {h' : Heap} {tk : Nat} {d : Drawn} (g : GI V s) (hk : ∀ b o, s.heap.get? b = some o → h'.get? b = some o) : Ok V s { s with heap := h', drawn := d, toks := tk } :=
  ⟨fun b o _ e => hk b o e, fun b o e => ⟨o, hk b o e⟩, rfl, g.keeps hk g.bare⟩

section
variable {V : Wo} {k : Nat} {fr : Bool} {K : List (Str × NameKind)} {ρ : Vars}
theorem EV.sortedSet {e : Expr} {l : List (List Nat)} {q1 q2 p1 p2 : Pos} (X : Facts V) (h1 : K.lookup ("sorted" : Str) = some .globalImplicit) (h2 : K.lookup ("set" : Str) = some .globalImplicit) (he : EV V k false K ρ e (SL l)) (hs : ∀ e' q, e ≠ .Starred e' q)
    (hl : l.length + 1 < 4096) (hn : 2 ≤ (nubW l).length) (h64 : (nubW l).length < 64) :
    EV V k fr K ρ (.Call (.Name "sorted" q1) [.Call (.Name "set" q2) [e] [] p2] [] p1) (SL (srt (nubW l))) := fun A env s F g R => by
  refine wp_evalCallG g R h1 X.sorted Kept.builtin (by first | exact ns rfl | exact nIt rfl | exact nAcc rfl | nofun) (wp_evalCallG g R h2 X.set Kept.type hs (wpAny_mono (he A env s F g R) (fun v s1 x => ⟨x.1.gi, ?_⟩) fun _ _ x => x))
  obtain ⟨o1, hv, _⟩ := x
  obtain ⟨a, its, rfl, hli, hi⟩ := PV.isList hv
  refine call_setW F.handled hli hi (by have : scanBound = 4096 := rfl; rw [this]; exact hl) fun h' tk es ep t hS hk => ?_
  have o2 : Ok V s1 { s1 with heap := h', toks := tk } := Ok.grow o1.gi hk
  refine ⟨o2.gi, ?_⟩
  have e2 : es.size = (nubW l).length := by have := hS.vals.length_eq; simpa using this
  refine call_sorted_set F.handled (s := { s1 with heap := h', toks := tk }) hS (by rw [e2]; exact hn) h64 fun h2 d tk2 a2 hk2 hf hp => ?_
  have o3 : Ok V { s1 with heap := h', toks := tk } { s1 with heap := h2, drawn := d, toks := tk2 } := Ok.growD (s := { s1 with heap := h', toks := tk }) o2.gi hk2
  exact ⟨(o1.trans o2).trans o3, hp, fun _ b _ e => by cases e; exact (o1.trans o2).fresh hf⟩
end

noncomputable def headsOf (given : List (List Nat)) (edge : List Nat) : List (List Nat) := (given ++ [edge]).flatMap fun w => (List.range w.length).map fun p => w.take p
noncomputable def abc : List Nat := [65, 66, 67, 68, 69, 70, 71, 72, 73, 74, 75, 76, 77, 78, 79, 80]
noncomputable def heads2 (given : List (List Nat)) (edge : List Nat) : List (List Nat) := (srt (nubW (headsOf given edge))).filter fun h => !freeB h given edge
noncomputable def kids (given : List (List Nat)) (edge : List Nat) : List (List Nat) := (heads2 given edge).flatMap fun h => (abc.map fun c => h ++ [c]).filter fun w => freeB w given edge
noncomputable def pickF (p : List Nat → Bool) : It → List It
  | .at (.str w) => if p w then [sIt w] else []
  | _ => []
theorem pick_flat (p : List Nat → Bool) (l : List (List Nat)) : (l.map sIt).flatMap (pickF p) = (l.filter p).map sIt := by
  induction l with
  | nil => rfl
  | cons a r ih =>
    rw [List.map_cons, List.flatMap_cons, ih, List.filter_cons]
    show (if p a then [sIt a] else []) ++ _ = _
    cases p a <;> rfl
noncomputable def cutF (w : List Nat) : It → List It
  | .at (.int p) => [sIt (w.take p.toNat)]
  | _ => []
noncomputable def headF : It → List It
  | .at (.str w) => ((List.range w.length).map fun i : Nat => iIt i).flatMap (cutF w)
  | _ => []
noncomputable def kidF (h : List Nat) (p : List Nat → Bool) : It → List It
  | .at (.str c) => if p (h ++ c) then [sIt (h ++ c)] else []
  | _ => []
noncomputable def kidsF (p : List Nat → Bool) : It → List It
  | .at (.str h) => (abc.map fun c => sIt [c]).flatMap (kidF h p)
  | _ => []
theorem head_flat (l : List (List Nat)) : (l.map sIt).flatMap headF = (l.flatMap fun w => (List.range w.length).map fun p => w.take p).map sIt := by
  rw [List.flatMap_map, List.map_flatMap]
  refine congrArg (fun f => l.flatMap f) (funext fun w => ?_)
  show ((List.range w.length).map fun i : Nat => iIt i).flatMap (cutF w) = _
  rw [List.flatMap_map, List.map_map]
  exact flat1 _ fun p : Nat => sIt (w.take p)
theorem kids_flat (p : List Nat → Bool) (l : List (List Nat)) : (l.map sIt).flatMap (kidsF p) = (l.flatMap fun h => (abc.map fun c => h ++ [c]).filter p).map sIt := by
  rw [List.flatMap_map, List.map_flatMap]
  refine congrArg (fun f => l.flatMap f) (funext fun h => ?_)
  show (abc.map fun c => sIt [c]).flatMap (kidF h p) = _
  generalize abc = cs
  induction cs with
  | nil => rfl
  | cons c r ih =>
    rw [List.map_cons, List.flatMap_cons, ih, List.map_cons, List.filter_cons]
    show (if p (h ++ [c]) then [sIt (h ++ [c])] else []) ++ _ = _
    cases p (h ++ [c]) <;> rfl

section
variable {V : Wo} {k : Nat}
theorem heads_len {given : List (List Nat)} {edge : List Nat} (h2 : ∀ w ∈ given, w.length < 10) (h3 : edge.length < 10) : ∀ h ∈ headsOf given edge, h.length < 10 := by
  intro h hh
  obtain ⟨w, hw, hm⟩ := List.mem_flatMap.mp hh
  obtain ⟨p, _, rfl⟩ := List.mem_map.mp hm
  have : w.length < 10 := by
    rcases List.mem_append.mp hw with hw | hw
    · exact h2 w hw
    · rw [List.mem_singleton] at hw; subst hw; exact h3
  rw [List.length_take]; (first | lia | omega)
set_option tactic.hygienic true in
theorem nubW_mem {l : List (List Nat)} {w : List Nat} : w ∈ nubW l ↔ w ∈ l := by
  have : ∀ (l a : List (List Nat)), w ∈ l.foldl addW a ↔ w ∈ a ∨ w ∈ l := by
    intro l
    induction l with
    | nil => intro a; simp
    | cons x r ih =>
      intro a
      rw [List.foldl_cons, ih]
      unfold addW
      split
      · rename_i hx
        constructor
        · rintro (h | h)
          · exact .inl h
          · exact .inr (List.mem_cons_of_mem _ h)
        · rintro (h | h)
          · exact .inl h
          · rcases List.mem_cons.mp h with rfl | h
            · exact .inl hx
            · exact .inr h
      · simp [or_assoc]
  simpa [nubW] using this l []
theorem headsOf_length {given : List (List Nat)} {edge : List Nat} (h2 : ∀ w ∈ given, w.length < 10) (h3 : edge.length < 10) : (headsOf given edge).length ≤ 10 * (given.length + 1) := by
  have : ∀ l : List (List Nat), (∀ w ∈ l, w.length < 10) → (l.flatMap fun w => (List.range w.length).map fun p => w.take p).length ≤ 10 * l.length := by
    intro l
    induction l with
    | nil => intro _; simp
    | cons a r ih =>
      intro h
      rw [List.flatMap_cons, List.length_append, List.length_cons, List.length_map, List.length_range]
      have h1 := h a List.mem_cons_self
      have h2 := ih fun w hw => h w (List.mem_cons_of_mem _ hw)
      (first | lia | omega)
  have := this (given ++ [edge]) (fun w hw => by
    rcases List.mem_append.mp hw with hw | hw
    · exact h2 w hw
    · rw [List.mem_singleton] at hw; subst hw; exact h3)
  simpa [headsOf] using this

set_option maxHeartbeats 4000000 in
theorem beside_cl (X : Facts V) (given : List (List Nat)) (edge : List Nat) (h1 : given.length < 100) (h2 : ∀ w ∈ given, w.length < 10) (h3 : edge.length < 10) (hn : 2 ≤ (nubW (headsOf given edge)).length) (h64 : (nubW (headsOf given edge)).length < 64) (hk : (kids given edge).length < 64) :
    Cl V (k + 2) (.ref 185) [SL given, S edge] (SL (srt (kids given edge))) := by
  refine Cl.fn2 X.beside.2 rfl (.inr rfl) (.inr rfl) (by decide) rfl rfl ?_
  have hlen := headsOf_length h2 h3
  have hsm : ∀ w ∈ srt (nubW (headsOf given edge)), w.length < 10 := fun w hw => heads_len h2 h3 w (nubW_mem.mp (srt_mem.mp hw))
  refine Bk.step (ρ1 := up (ini ["given", "edge"] [SL given, S edge]) "heads" (SL (srt (nubW (headsOf given edge))))) (St1.assignL (EV.sortedSet X rfl rfl (l := headsOf given edge) ?_ (by first | exact ns rfl | exact nIt rfl | exact nAcc rfl | nofun) (by (first | lia | omega)) hn h64) (.inl rfl)) ?_
  · show EV _ _ _ _ _ _ (PV.list ((headsOf given edge).map sIt))
    unfold headsOf
    rw [← head_flat]
    refine EV.comp2 (q := true) rfl (IE.list (f := false) (EV.bin (by trivial) (EV.list (l := [sIt edge]) (.cons (by first | exact ns rfl | exact nIt rfl | exact nAcc rfl | nofun) (by trivial) .nil) (by simp)) (z := SL (given ++ [edge])) ?_)) (.inl trivial) ?_ (.inl rfl) ?_
    · have := Bi.addL (V := V) (k := k + 1) (l := given.map sIt) (m := [sIt edge]) (by simp; (first | lia | omega))
      unfold SL
      rw [List.map_append]
      exact this
    · refine mem_map_rev fun w hw => ?_
      have hw10 : w.length < 10 := by
        rcases List.mem_append.mp hw with hw | hw
        · exact h2 w hw
        · rw [List.mem_singleton] at hw; subst hw; exact h3
      refine ⟨_, true, .name rfl rfl, rfl, fun _ => ?_, (by first | exact ns rfl | exact nIt rfl | exact nAcc rfl | nofun)⟩
      show Em _ _ _ _ _ _ (((List.range w.length).map fun i : Nat => iIt i).flatMap (cutF w))
      refine Em.clause (tg := isName) ?_ trivial ?_
      · have e0 : List.range w.length = List.range ((w.length : Int)).toNat := by rw [Int.toNat_natCast]
        rw [e0]
        exact IE.range rfl X.range (by first | exact ns rfl | exact nIt rfl | exact nAcc rfl | nofun) (EV.call (ps := [S w]) rfl X.len Kept.builtin (.cons (by first | exact ns rfl | exact nIt rfl | exact nAcc rfl | nofun) (by trivial) .nil) (Cl.lenS (by (first | lia | omega)))) (by (first | lia | omega)) (by (first | lia | omega))
      · refine mem_map_rev fun p hp => ?_
        have hp' := List.mem_range.mp hp
        refine ⟨_, true, .name rfl rfl, rfl, fun _ => ?_, (by first | exact ns rfl | exact nIt rfl | exact nAcc rfl | nofun)⟩
        have hc := Sc.str (V := V) (k := k + 1) (l := w) (lo := none) (hi := some (p : Int)) (by (first | lia | omega))
        rw [cut_upto] at hc
        exact Em.elt (EV.slice Base.str (by trivial) .none (.some (by trivial)) .none hc)
    · rw [head_flat, List.length_map]
      show (headsOf given edge).length ≤ _
      (first | lia | omega)
  refine Bk.step (ρ1 := up (up (ini ["given", "edge"] [SL given, S edge]) "heads" (SL (srt (nubW (headsOf given edge))))) "heads" (SL (heads2 given edge))) ?_ ?_
  · have e : SL (heads2 given edge) = .list (((srt (nubW (headsOf given edge))).map sIt).flatMap (pickF fun h => !freeB h given edge)) := by
      rw [pick_flat]; rfl
    rw [e]
    refine St1.comp (turn1 _ _ _ _ _ _) (fun _ _ _ _ _ _ _ h => eltK_wp h) (q := true) (.inl rfl) rfl (IE.list (f := false) (by trivial)) (.inl trivial) ?_ (.inl rfl) ?_
    · refine mem_map_rev fun h hh => ?_
      have hl := hsm h hh
      refine ⟨_, !freeB h given edge, .name rfl rfl, ?_, fun hb => ?_, fun hb => ?_⟩
      · show ET _ _ _ _ _ _
        refine ET.not (ET.val (by intro _ _; rfl) (EV.call (ps := [S h, SL given, S edge]) rfl X.free.1 (Kept.fn X.free.2) (.cons (by first | exact ns rfl | exact nIt rfl | exact nAcc rfl | nofun) (by trivial) (.cons (by first | exact ns rfl | exact nIt rfl | exact nAcc rfl | nofun) (by trivial) (.cons (by first | exact ns rfl | exact nIt rfl | exact nAcc rfl | nofun) (by trivial) .nil))) (free_cl X h given edge (by (first | lia | omega)) (by (first | lia | omega)) fun w hw => by have := h2 w hw; (first | lia | omega))) Truth.bool)
      · have : pickF (fun h => !freeB h given edge) (sIt h) = [sIt h] := by show (if _ then _ else _) = _; rw [if_pos hb]
        rw [this]
        exact Em.elt (by trivial)
      · exact if_neg (by show ¬ ((!freeB h given edge) = true); rw [hb]; nofun)
    · rw [pick_flat, List.length_map]
      have := List.length_filter_le (fun h => !freeB h given edge) (srt (nubW (headsOf given edge)))
      rw [srt_length] at this
      (first | lia | omega)
  refine Bk.last (St1.ret (EV.call (ps := [SL (kids given edge)]) rfl X.sorted Kept.builtin (.cons (by first | exact ns rfl | exact nIt rfl | exact nAcc rfl | nofun) ?_ .nil) (Cl.sorted hk)) rfl)
  have e : SL (kids given edge) = .list (((heads2 given edge).map sIt).flatMap (kidsF fun w => freeB w given edge)) := by
    rw [kids_flat]; rfl
  rw [e]
  refine EV.comp2 (q := true) rfl (IE.list (f := false) (by trivial)) (.inl trivial) ?_ (.inl rfl) ?_
  · refine mem_map_rev fun h hh => ?_
    have hl := hsm h (List.mem_filter.mp hh).1
    refine ⟨_, true, .name rfl rfl, rfl, fun _ => ?_, (by first | exact ns rfl | exact nIt rfl | exact nAcc rfl | nofun)⟩
    show Em _ _ _ _ _ _ ((abc.map fun c => sIt [c]).flatMap (kidF h fun w => freeB w given edge))
    refine Em.clause (tg := isName) (IE.str (EV.str (l := abc))) trivial ?_
    refine mem_map_rev fun c hc => ?_
    have hadd : ∀ {ρ : Vars} {K : List (Str × NameKind)} {fr : Bool} {e1 e2 : Expr} {p : Pos}, EV V (k + 1) false K ρ e1 (S h) → EV V (k + 1) false K ρ e2 (S [c]) → EV V (k + 1) fr K ρ (.BinOp e1 .Add e2 p) (S (h ++ [c])) := fun a b => EV.bin a b (Bi.addS (by simp; (first | lia | omega)))
    refine ⟨_, freeB (h ++ [c]) given edge, .name rfl rfl, ?_, fun hb => ?_, fun hb => ?_⟩
    · show ET _ _ _ _ _ _
      refine ET.val (by intro _ _; rfl) (EV.call (ps := [S (h ++ [c]), SL given, S edge]) rfl X.free.1 (Kept.fn X.free.2) (.cons (by first | exact ns rfl | exact nIt rfl | exact nAcc rfl | nofun) (hadd (by trivial) (by trivial)) (.cons (by first | exact ns rfl | exact nIt rfl | exact nAcc rfl | nofun) (by trivial) (.cons (by first | exact ns rfl | exact nIt rfl | exact nAcc rfl | nofun) (by trivial) .nil))) (free_cl X (h ++ [c]) given edge (by simp; (first | lia | omega)) (by (first | lia | omega)) fun w hw => by have := h2 w hw; (first | lia | omega))) Truth.bool
    · have : kidF h (fun w => freeB w given edge) (sIt [c]) = [sIt (h ++ [c])] := by show (if _ then _ else _) = _; rw [if_pos hb]
      rw [this]
      exact Em.elt (hadd (by trivial) (by trivial))
    · exact if_neg (by show ¬ (freeB (h ++ [c]) given edge = true); rw [hb]; nofun)
  · rw [kids_flat, List.length_map]
    show (kids given edge).length ≤ _
    (first | lia | omega)
end
end
section
open PySem PySem.Calls PyProof.Rows PySem.W PySem.Spec

section
variable {V : Wo} {k : Nat} {K : List (Str × NameKind)} {ρ : Vars} {env : Env} {s₀ s s' : Shared} {W : List Addr}
noncomputable abbrev Bl (K : List (Str × NameKind)) (env : Env) (x : Str) (b : Addr) : Prop := b = env.locals ∨ (K.lookup x = some .cell ∧ env.cells.lookup x = some b)
theorem Fr.noSeq {x : Str} {b : Addr} (Fx : Fr V K env s₀ W ρ s) (hb : Bl K env x b) : (∀ o, s.heap.get? b = some o → ∀ vs n, o.data ≠ .seq vs n) ∧ ∀ d, d ≠ env.locals → (∃ es n, s.heap.get? d = some { cls := .type "dict", data := .dict es n }) → d ≠ b := by
  rcases hb with rfl | ⟨hx, hc⟩
  · obtain ⟨m, o', es, ep, e', d, _⟩ := Fx.loc
    exact ⟨fun o e vs n h => (by rw [e] at e'; cases e'; rw [d] at h; cases h), fun d hd _ => hd⟩
  · obtain ⟨c, hc', _, u, oc, hoc, hdc⟩ := Fx.cellN x hx
    rw [hc] at hc'; cases hc'
    exact ⟨fun o e vs n h => (by rw [e] at hoc; cases hoc; rw [hdc] at h; cases h), fun d _ ⟨es, n, e⟩ h => (by subst h; rw [e] at hoc; cases hoc; cases hdc)⟩

structure Rdy (V : Wo) (K : List (Str × NameKind)) (env : Env) (s₀ : Shared) (W : List Addr) (ρ : Vars) (s : Shared) (p : PV) (v : Value) : Prop where
  is : p.is s.heap v
  acc : ∀ a d f l, p = .acc a d f l → d ≠ env.locals ∧ (a ∈ W ∨ s₀.heap.get? d = none)
  own : ∀ a, p.addr = some a → a ∈ W ∨ s₀.heap.get? a = none
  uniq : ∀ y q a, ρ y = some q → p.addr = some a → q.addr ≠ some a
  iso : ∀ a, p.addr = some a → ∀ y l u, ρ y = some (.list l) → Lk env s.heap y u → u ≠ .ref a
  iso' : ∀ l, p = .list l → ∀ y q a, ρ y = some q → q.addr = some a → v ≠ .ref a
theorem Rdy.it {i : It} {v : Value} (h : i.is s.heap v) : Rdy V K env s₀ W ρ s (.it i) v :=
  ⟨h, fun _ _ _ _ e => (by cases e), fun _ e => (by cases e), fun _ _ _ _ e => (by cases e), fun _ e => (by cases e), fun _ e => (by cases e)⟩
theorem Rdy.store {A : Around} {x : Str} {p : PV} {v : Value} (r : Rdy V K env s₀ W ρ s p v) (Fx : Fr V K env s₀ W ρ s) (g₀ : GI V s₀) (hx : Mine K x) :
    wpAny (model PySem.Challenge.pw_wz0006_01 V.w) A (storeName env x v) (fun _ s' => (Fr V K env s₀ W (up ρ x p) s' ∧ ∃ b, At1 b s s' ∧ Bl K env x b) ∧ ∀ y, y ≠ x → ∀ u, Lk env s.heap y u → Lk env s'.heap y u) No s :=
  Fx.storeK g₀ hx r.is r.acc r.own (fun y q a _ hy ha => r.uniq y q a hy ha) (fun a ha y l u _ hy hl => r.iso a ha y l u hy hl) fun l e y q a _ hy ha => r.iso' l e y q a hy ha
theorem Rdy.keep {x : Str} {b : Addr} {p p' : PV} {v : Value} (r : Rdy V K env s₀ W ρ s p v) (Fx : Fr V K env s₀ W ρ s) (x1 : At1 b s s') (hb : Bl K env x b) (hlk : ∀ y, y ≠ x → ∀ u, Lk env s.heap y u → Lk env s'.heap y u) (hnl : ∀ l, p' ≠ .list l)
    (h1 : ∀ a, p.addr = some a → p'.addr ≠ some a) (h2 : ∀ l, p = .list l → ∀ c, p'.addr = some c → v ≠ .ref c) : Rdy V K env s₀ W (up ρ x p') s' p v := by
  obtain ⟨n1, n2⟩ := Fx.noSeq hb
  refine ⟨PV.but x1 r.is n1 fun a d f l e => ?_, r.acc, r.own, fun y q a hy ha => ?_, fun a ha y l u hy hl => ?_, fun l e y q a hy ha => ?_⟩
  · subst e
    obtain ⟨vs, n, es, m, t, _, _, _, hdd, _⟩ := id r.is
    exact n2 d (r.acc a d f l rfl).1 ⟨es, m, hdd⟩
  · unfold up at hy
    by_cases e : y = x
    · rw [if_pos e] at hy; cases hy; exact h1 a ha
    · rw [if_neg e] at hy; exact r.uniq y q a hy ha
  · unfold up at hy
    by_cases e : y = x
    · rw [if_pos e] at hy; cases hy; exact absurd rfl (hnl l)
    · rw [if_neg e] at hy
      obtain ⟨w, hw, _⟩ := Fx.vars hy
      have : u = w := hl.uniq (hlk y e w hw)
      rw [this]
      exact r.iso a ha y l w hy hw
  · unfold up at hy
    by_cases e' : y = x
    · rw [if_pos e'] at hy; cases hy; exact h2 l e a ha
    · rw [if_neg e'] at hy; exact r.iso' l e y q a hy ha
theorem Rdy.new {p : PV} {a : Addr} (Fx : Fr V K env s₀ W ρ s) (o : Ok V s s') (hf : s.heap.get? a = none) (hv : p.is s'.heap (.ref a)) (hacc : ∀ c d f l, p = .acc c d f l → s.heap.get? d = none) : Rdy V K env s₀ W ρ s' p (.ref a) := by
  have hpa : ∀ b, p.addr = some b → b = a := fun b hb => by
    obtain ⟨e, _⟩ := PV.addr_is hb hv
    cases e; rfl
  have hne : ∀ y q b, ρ y = some q → q.addr = some b → a ≠ b := fun y q b hy hb e => by
    subst e
    obtain ⟨u, _, hq⟩ := Fx.vars hy
    obtain ⟨_, o, _, _, ho, _⟩ := PV.addr_is hb hq
    rw [hf] at ho; cases ho
  refine ⟨hv, fun c d f l e => ?_, fun b hb => .inr (by rw [hpa b hb]; exact Fx.freshUp hf), fun y q b hy hb hq => hne y q b hy hq (hpa b hb).symm, fun b hb y l u hy hl e => ?_, fun l e y q b hy hb e' => by cases e'; exact hne y q _ hy hb rfl⟩
  · have hd := hacc c d f l e
    refine ⟨fun e' => ?_, .inr (Fx.freshUp hd)⟩
    obtain ⟨m, ol, es, ep, hol, _⟩ := Fx.loc
    rw [e', hol] at hd; cases hd
  · rw [hpa b hb] at e
    subst e
    obtain ⟨u', hu', hq⟩ := Fx.vars hy
    obtain ⟨c, vs, n, e2, ho, _⟩ := hq
    have := hl.uniq (hu'.ok Fx.gi o)
    rw [e2] at this; cases this
    rw [hf] at ho; cases ho

noncomputable def EX (V : Wo) (k : Nat) (K : List (Str × NameKind)) (ρ : Vars) (e : Expr) (P : PV → Prop) : Prop :=
  ∀ (A : Around) (env : Env) (s : Shared), Fit A k → GI V s → REnv K env s.heap ρ →
    wpAny (model prog V.w) A (eval e env) (fun v s' => Ok V s s' ∧ ∃ p, P p ∧ p.is s'.heap v ∧ Fresh s v p ∧ ∀ a d f l, p = .acc a d f l → s.heap.get? d = none) No s
theorem EX.it {e : Expr} {i : It} (h : EV V k false K ρ e (.it i)) : EX V k K ρ e (fun p => p = .it i) := fun A env s F g R =>
  wpAny_mono (h A env s F g R) (fun v s' x => ⟨x.1, _, rfl, x.2.1, Fresh.it, fun _ _ _ _ e => (by cases e)⟩) fun _ _ x => x
theorem EX.own {e : Expr} {l : List It} (h : EV V k true K ρ e (.list l)) : EX V k K ρ e (fun p => ∃ a, p = .own a l) := fun A env s F g R =>
  wpAny_mono (h A env s F g R) (fun v s' x => by
    obtain ⟨a, rfl⟩ := PV.list_ref x.2.1
    exact ⟨x.1, _, ⟨a, rfl⟩, PV.toOwn x.2.1, fun b _ e => x.2.2 rfl b (by first | exact ns rfl | exact nIt rfl | exact nAcc rfl | nofun) e, fun _ _ _ _ e => (by cases e)⟩) fun _ _ x => x
theorem Rdy.made {p : PV} {v : Value} (Fx : Fr V K env s₀ W ρ s) (o : Ok V s s') (hv : p.is s'.heap v) (hf : Fresh s v p) (hacc : ∀ a d f l, p = .acc a d f l → s.heap.get? d = none) : Rdy V K env s₀ W ρ s' p v := by
  cases p with
  | it i => exact Rdy.it hv
  | fn f => exact ⟨hv, fun _ _ _ _ e => (nomatch e), fun _ e => (nomatch e), fun _ _ _ _ e => (nomatch e), fun _ e => (nomatch e), fun _ e => (nomatch e)⟩
  | list l =>
    obtain ⟨a, rfl⟩ := PV.list_ref hv
    exact Rdy.new Fx o (hf a (by first | exact ns rfl | exact nIt rfl | exact nAcc rfl | nofun) rfl) hv hacc
  | own a l =>
    obtain ⟨rfl, _⟩ := PV.addr_is (a := a) rfl hv
    exact Rdy.new Fx o (hf a (by first | exact ns rfl | exact nIt rfl | exact nAcc rfl | nofun) rfl) hv hacc
  | acc a d f l =>
    obtain ⟨rfl, _⟩ := PV.addr_is (a := a) rfl hv
    exact Rdy.new Fx o (hf a (by first | exact ns rfl | exact nIt rfl | exact nAcc rfl | nofun) rfl) hv hacc
theorem PV.there {p : PV} {v : Value} {a : Addr} {h : Heap} (hv : p.is h v) (e : p.addr = some a) : ∃ o, h.get? a = some o := by
  obtain ⟨_, o, _, _, ho, _⟩ := PV.addr_is e hv
  exact ⟨o, ho⟩
theorem PV.notIt {p : PV} {a : Addr} (e : p.addr = some a) : ∀ i, p ≠ .it i := fun i h => by subst h; cases e
theorem apart2 {p1 p2 : PV} {v1 v2 : Value} {s1 s2 : Shared} (g1 : GI V s1) (o : Ok V s1 s2) (h1 : p1.is s1.heap v1) (h2 : p2.is s2.heap v2) (f2 : Fresh s1 v2 p2) :
    (∀ a, p1.addr = some a → p2.addr ≠ some a ∧ ((∀ i, p2 ≠ .it i) → v2 ≠ .ref a)) ∧ (∀ a, p2.addr = some a → p1.addr ≠ some a ∧ ((∃ l, p1 = .list l) → v1 ≠ .ref a)) := by
  refine ⟨fun a ha => ⟨fun hb => ?_, fun hi e => ?_⟩, fun a ha => ⟨fun hb => ?_, fun ⟨l, hl⟩ e => ?_⟩⟩
  · obtain ⟨e, _⟩ := PV.addr_is hb h2
    obtain ⟨o1, ho1⟩ := PV.there h1 ha
    rw [f2 a (PV.notIt hb) e] at ho1; cases ho1
  · obtain ⟨o1, ho1⟩ := PV.there h1 ha
    rw [f2 a hi e] at ho1; cases ho1
  · obtain ⟨e, _⟩ := PV.addr_is ha h2
    obtain ⟨o1, ho1⟩ := PV.there h1 hb
    rw [f2 a (PV.notIt ha) e] at ho1; cases ho1
  · subst hl; subst e
    obtain ⟨b, vs, n, e, ho, _⟩ := h1
    cases e
    obtain ⟨e2, _⟩ := PV.addr_is ha h2
    rw [f2 a (PV.notIt ha) e2] at ho; cases ho

theorem up_swap {x y : Str} {p q : PV} (h : x ≠ y) : up (up ρ y q) x p = up (up ρ x p) y q := by
  funext z
  unfold up
  by_cases h1 : z = x
  · by_cases h2 : z = y
    · exact absurd (h1.symm.trans h2) h
    · rw [if_pos h1, if_neg h2, if_pos h1]
  · by_cases h2 : z = y
    · rw [if_neg h1, if_pos h2, if_pos h2]
    · rw [if_neg h1, if_neg h2, if_neg h2, if_neg h1]
theorem store2 {A : Around} {x y : Str} {p q : PV} {v u : Value} {s0 : Shared} {Q : Unit → Shared → Prop} {T : Sem Unit} (Fx : Fr V K env s₀ W ρ s) (g₀ : GI V s₀) (m0 : Mv V K env W ρ ρ s0 s) (hx : Mine K x) (hy : Mine K y) (hxy : x ≠ y) (r1 : Rdy V K env s₀ W ρ s p v) (r2 : Rdy V K env s₀ W ρ s q u) (hnl : ∀ l, p ≠ .list l) (h1 : ∀ a, q.addr = some a → p.addr ≠ some a) (hnl2 : ∀ l, q ≠ .list l)
    (hn1 : ∀ c, p.addr = some c → s0.heap.get? c = none) (hn2 : ∀ c, q.addr = some c → s0.heap.get? c = none)
    (hT : ∀ {Q' : Unit → Shared → Prop} {s1 : Shared}, wpAny (model PySem.Challenge.pw_wz0006_01 V.w) A (storeName env x v) (fun _ s2 => wpAny (model PySem.Challenge.pw_wz0006_01 V.w) A (storeName env y u) Q' No s2) No s1 → wpAny (model PySem.Challenge.pw_wz0006_01 V.w) A T Q' No s1)
    (hQ : ∀ s', Fr V K env s₀ W (up (up ρ x p) y q) s' → Mv V K env W ρ (up (up ρ x p) y q) s0 s' → Q () s') : wpAny (model PySem.Challenge.pw_wz0006_01 V.w) A T Q No s := by
  refine hT (wpAny_mono (r1.store Fx g₀ hx) (fun _ s2 x2 => ?_) fun _ _ e => e)
  obtain ⟨⟨F2, b, hb, hbl⟩, hlk⟩ := x2
  have r2' := r2.keep Fx hb hbl hlk hnl h1 (fun l e => absurd e (hnl2 l))
  refine wpAny_mono (r2'.store F2 g₀ hy) (fun _ s3 x3 => ?_) fun _ _ e => e
  obtain ⟨⟨F3, b3, hb3, hbl3⟩, _⟩ := x3
  refine hQ s3 F3 ⟨fun c o hn ht e => ?_, fun z r c hz hc => ?_⟩
  · have hne : ∀ {w : Str} {b : Addr}, Bl K env w b → c ≠ b := fun {w b} hb e' => hn (by subst e'; exact hb.elim .inl fun y => .inr (.inl ⟨w, y⟩))
    exact hb3.keep c o (hne hbl3) (hb.keep c o (hne hbl) (m0.keep c o hn ht e))
  · unfold up at hz
    by_cases e1 : z = y
    · rw [if_pos e1] at hz; cases hz; exact .inr (hn2 c hc)
    · rw [if_neg e1] at hz
      by_cases e2 : z = x
      · rw [if_pos e2] at hz; cases hz; exact .inr (hn1 c hc)
      · rw [if_neg e2] at hz; exact .inl (Pl.own hz hc)
variable {Φr : Vars → PV → Prop}
theorem St1.duo {x y : Str} {px py q1 q2 pos : Pos} {kk uu : Nat} {e1 e2 : Expr} {P1 P2 : PV → Prop} (sw : Bool) (h1 : EX V k K ρ e1 P1) (h2 : EX V k K ρ e2 P2) (hs1 : ∀ e' q, e1 ≠ .Starred e' q) (hs2 : ∀ e' q, e2 ≠ .Starred e' q) (hx : Mine K x) (hy : Mine K y) (hxy : x ≠ y) (hnl1 : ∀ p, P1 p → ∀ l, p ≠ .list l) (hnl2 : ∀ p, P2 p → ∀ l, p ≠ .list l)
    (hw : ∀ env : Env, env.scope.kind = .function → env.scope.names = K → swappedStores [.Tuple [.Name x px, .Name y py] kk q1] (.Tuple [e1, e2] uu q2) env = pure (if sw then some [x, y] else Option.none)) :
    St1 V k K W ρ (.Assign [.Tuple [.Name x px, .Name y py] kk q1] (.Tuple [e1, e2] uu q2) pos) (fun ρ' => ∃ p1 p2, P1 p1 ∧ P2 p2 ∧ (∀ a, p1.addr = some a → NewAt ρ a ∧ a ∉ W) ∧ (∀ a, p2.addr = some a → NewAt ρ a ∧ a ∉ W) ∧ ρ' = up (up ρ x p1) y p2) Φr := fun A env s₀ s F g Fx => by
  have key : ∀ {Q : Value → Shared → Prop}, (∀ (s2 s3 : Shared) T v1 v2 p1 p2, Ok V s s2 → Ok V s2 s3 → s3.heap.IsTuple T #[v1, v2] → P1 p1 → P2 p2 → p1.is s2.heap v1 → p2.is s2.heap v2 → Fresh s v1 p1 → Fresh s v2 p2 → (∀ a d f l, p1 = .acc a d f l → s.heap.get? d = none) → (∀ a d f l, p2 = .acc a d f l → s.heap.get? d = none) →
      (∀ a, p1.addr = some a → p2.addr ≠ some a ∧ ((∀ i, p2 ≠ .it i) → v2 ≠ .ref a)) → (∀ a, p2.addr = some a → p1.addr ≠ some a ∧ ((∃ l, p1 = .list l) → v1 ≠ .ref a)) → Q (.ref T) s3) → wpAny (model prog V.w) A (eval (.Tuple [e1, e2] uu q2) env) Q No s := by
    intro Q hQ
    show wpAny _ A (do standAt q2; newTuple (← spliced (backTo q2 (starEach [e1, e2] env)))) _ _ s
    refine wpAny_bind (wpAny_standAt (wpAny_bind ?_))
    rw [starEach_cons hs1, backTo_cons, starEach_cons hs2, backTo_cons]
    refine spliced_cons (wpAny_mono (h1 A env s F Fx.gi Fx.renv) (fun v1 s1 x1 => ?_) fun _ _ e => e)
    obtain ⟨o1, p1, hp1, hv1, hf1, ha1⟩ := x1
    refine spliced_cons (wpAny_mono (h2 A env s1 F o1.gi (Fx.after o1).renv) (fun v2 s2 x2 => ?_) fun _ _ e => e)
    obtain ⟨o2, p2, hp2, hv2, hf2, ha2⟩ := x2
    refine spliced_nil ?_
    obtain ⟨c1, c2⟩ := apart2 o1.gi o2 hv1 hv2 hf2
    have o3 := Ok.grow (s := s2) (tk := s2.toks) o2.gi fun b o e => Heap.get?_push_of_some (h := s2.heap) { cls := .type "tuple", data := .seq [v1, v2].toArray } e
    refine wpAny_newObj_type (hQ s2 _ s2.heap.objs.size v1 v2 p1 p2 (o1.trans o2) o3 ⟨_, Heap.get?_push_size _ rfl, rfl, 0, rfl⟩ hp1 hp2 (o2.pv o1.gi hv1) hv2 hf1 (hf2.ok o1) ha1 (fun a d f l e => o1.fresh (ha2 a d f l e)) c1 c2) (by show 2 ≤ sizeLine; rw [sizeLine_eq]; (first | lia | omega))
  have fin : ∀ {s3 : Shared} {v1 v2 : Value} {p1 p2 : PV} {s' : Shared}, Ok V s s3 → P1 p1 → P2 p2 → p1.is s3.heap v1 → p2.is s3.heap v2 → Fresh s v1 p1 → Fresh s v2 p2 → Fr V K env s₀ W (up (up ρ x p1) y p2) s' → Mv V K env W ρ (up (up ρ x p1) y p2) s s' →
      Out V K env s₀ W ρ s (fun ρ' => ∃ p1 p2, P1 p1 ∧ P2 p2 ∧ (∀ a, p1.addr = some a → NewAt ρ a ∧ a ∉ W) ∧ (∀ a, p2.addr = some a → NewAt ρ a ∧ a ∉ W) ∧ ρ' = up (up ρ x p1) y p2) Φr .next s' := fun {s3 v1 v2 p1 p2 s'} o3 hp1 hp2 hv1 hv2 hf1 hf2 F' m' => by
    refine ⟨_, ⟨p1, p2, hp1, hp2, fun a ha => Fx.newAt ?_, fun a ha => Fx.newAt ?_, rfl⟩, F', m'⟩
    · exact hf1 a (PV.notIt ha) (PV.addr_is ha hv1).1
    · exact hf2 a (PV.notIt ha) (PV.addr_is ha hv2).1
  cases sw with
  | false =>
    refine wpAny_Assign_stores (key fun s2 s3 T v1 v2 p1 p2 o2 o3 hT hp1 hp2 hv1 hv2 hf1 hf2 ha1 ha2 c1 c2 => ?_) rfl (hw env Fx.renv.kind Fx.renv.names)
    refine wpAny_assign_Tuple (x1 := kk) F.handled hT rfl rfl fun h' he => ?_
    have o4 : Ok V s3 { s3 with heap := h' } := Ok.grow (tk := s3.toks) o3.gi fun b o e => he b o (Nat.ne_of_lt (Heap.lt_size e)) e
    have o34 := o3.trans o4
    have oa := o2.trans o34
    have hv1' := o34.pv o2.gi hv1
    have hv2' := o34.pv o2.gi hv2
    refine store2 (Fx.after oa) g (Mv.ok oa) hx hy hxy (Rdy.made Fx oa hv1' hf1 ha1) (Rdy.made Fx oa hv2' hf2 ha2) (hnl1 p1 hp1) (fun a ha hb => (c1 a hb).1 ha) (hnl2 p2 hp2) (fun c hc => hf1 c (PV.notIt hc) (PV.addr_is hc hv1).1) (fun c hc => hf2 c (PV.notIt hc) (PV.addr_is hc hv2).1) ?_ (fun s' F' m' => fin oa hp1 hp2 hv1' hv2' hf1 hf2 F' m')
    intro Q' s1 h
    show wpAny _ A (assignInOrder [PySem.assign (.Name x px) env, PySem.assign (.Name y py) env] [v1, v2]) _ _ _
    unfold assignInOrder
    refine wpAny_bind (wpAny_holding (wpAny_assign_Name (wpAny_mono h (fun _ s2 h2 => ?_) fun _ _ x => x)))
    unfold assignInOrder
    refine wpAny_bind (wpAny_holding (wpAny_assign_Name (wpAny_mono h2 (fun _ s3 h3 => ?_) fun _ _ x => x)))
    unfold assignInOrder
    exact wpAny_pure h3
  | true =>
    refine Assign_Tuple_swapped (names := [x, y]) (key fun s2 s3 T v1 v2 p1 p2 o2 o3 hT hp1 hp2 hv1 hv2 hf1 hf2 ha1 ha2 c1 c2 => ?_) rfl (hw env Fx.renv.kind Fx.renv.names)
    refine wpAny_unpackItems_tuple (items := #[v1, v2]) F.handled hT fun h' he => ?_
    have o4 : Ok V s3 { s3 with heap := h' } := Ok.grow (tk := s3.toks) o3.gi fun b o e => he b o (Nat.ne_of_lt (Heap.lt_size e)) e
    have o34 := o3.trans o4
    have oa := o2.trans o34
    have hv1' := o34.pv o2.gi hv1
    have hv2' := o34.pv o2.gi hv2
    refine store2 (Fx.after oa) g (Mv.ok oa) hy hx (Ne.symm hxy) (Rdy.made Fx oa hv2' hf2 ha2) (Rdy.made Fx oa hv1' hf1 ha1) (hnl2 p2 hp2) (fun a ha hb => (c1 a ha).1 hb) (hnl1 p1 hp1) (fun c hc => hf2 c (PV.notIt hc) (PV.addr_is hc hv2).1) (fun c hc => hf1 c (PV.notIt hc) (PV.addr_is hc hv1).1) ?_ (fun s' F' m' => by
      rw [up_swap hxy] at F' m'
      exact fin oa hp1 hp2 hv1' hv2' hf1 hf2 F' m')
    intro Q' s1 h
    show wpAny _ A (assignInOrder [bindName env y, bindName env x] [v2, v1]) _ _ _
    unfold assignInOrder
    refine wpAny_bind (wpAny_holding (wpAny_bindName (wpAny_mono h (fun _ s2 h2 => ?_) fun _ _ x => x)))
    unfold assignInOrder
    refine wpAny_bind (wpAny_holding (wpAny_bindName (wpAny_mono h2 (fun _ s3 h3 => ?_) fun _ _ x => x)))
    unfold assignInOrder
    exact wpAny_pure h3
end
end
section
open PySem PySem.Calls PyProof.Rows PySem.W PySem.Spec

section
variable {V : Wo} {k : Nat} {K : List (Str × NameKind)} {ρ : Vars} {env : Env} {s₀ s s' : Shared} {W : List Addr} {Φr : Vars → PV → Prop}
theorem St1.trio {x y z : Str} {px py pz q1 q2 pos : Pos} {kk uu : Nat} {e1 e2 e3 : Expr} {i1 i2 : It} {l : List It} (h1 : EV V k false K ρ e1 (.it i1)) (h2 : EV V k false K ρ e2 (.it i2)) (h3 : EV V k true K ρ e3 (.list l)) (hs1 : ∀ e' q, e1 ≠ .Starred e' q) (hs2 : ∀ e' q, e2 ≠ .Starred e' q) (hs3 : ∀ e' q, e3 ≠ .Starred e' q)
    (hx : Mine K x) (hy : Mine K y) (hz : Mine K z) (hw : ∀ env : Env, env.scope.kind = .function → env.scope.names = K → swappedStores [.Tuple [.Name x px, .Name y py, .Name z pz] kk q1] (.Tuple [e1, e2, e3] uu q2) env = pure Option.none) :
    St1 V k K W ρ (.Assign [.Tuple [.Name x px, .Name y py, .Name z pz] kk q1] (.Tuple [e1, e2, e3] uu q2) pos) (fun ρ' => ∃ a, (NewAt ρ a ∧ a ∉ W) ∧ ρ' = up (up (up ρ x (.it i1)) y (.it i2)) z (.own a l)) Φr := fun A env s₀ s F g Fx => by
  refine wpAny_Assign_stores (Q := _) ?_ rfl (hw env Fx.renv.kind Fx.renv.names)
  show wpAny _ A (do standAt q2; newTuple (← spliced (backTo q2 (starEach [e1, e2, e3] env)))) _ _ s
  refine wpAny_bind (wpAny_standAt (wpAny_bind ?_))
  rw [starEach_cons hs1, backTo_cons, starEach_cons hs2, backTo_cons, starEach_cons hs3, backTo_cons]
  refine spliced_cons (wpAny_mono (h1 A env s F Fx.gi Fx.renv) (fun v1 s1 x1 => ?_) fun _ _ e => e)
  obtain ⟨o1, hv1, _⟩ := x1
  refine spliced_cons (wpAny_mono (h2 A env s1 F o1.gi (Fx.after o1).renv) (fun v2 s2 x2 => ?_) fun _ _ e => e)
  obtain ⟨o2, hv2, _⟩ := x2
  have o12 := o1.trans o2
  refine spliced_cons (wpAny_mono (h3 A env s2 F o2.gi (Fx.after o12).renv) (fun v3 s3 x3 => ?_) fun _ _ e => e)
  obtain ⟨o3, hv3, hf3⟩ := x3
  obtain ⟨a, rfl⟩ := PV.list_ref hv3
  have ha := o12.fresh (hf3 rfl a (by first | exact ns rfl | exact nIt rfl | exact nAcc rfl | nofun) rfl)
  refine spliced_nil ?_
  have o4 := Ok.grow (s := s3) (tk := s3.toks) o3.gi fun b o e => Heap.get?_push_of_some (h := s3.heap) { cls := .type "tuple", data := .seq [v1, v2, .ref a].toArray } e
  refine wpAny_newObj_type ?_ (by show 3 ≤ sizeLine; rw [sizeLine_eq]; (first | lia | omega))
  refine wpAny_assign_Tuple (x1 := kk) (items := #[v1, v2, .ref a]) F.handled ⟨_, Heap.get?_push_size _ rfl, rfl, 0, rfl⟩ rfl rfl fun h' he => ?_
  have o5 : Ok V { s3 with heap := s3.heap.push { cls := .type "tuple", data := .seq [v1, v2, .ref a].toArray } } { s3 with heap := h' } := Ok.grow (s := { s3 with heap := s3.heap.push { cls := .type "tuple", data := .seq [v1, v2, .ref a].toArray } }) (tk := s3.toks) o4.gi fun b o e => he b o (Nat.ne_of_lt (Heap.lt_size e)) e
  have o45 := o4.trans o5
  have o35 := o3.trans o45
  have oa := o12.trans o35
  have Fa := Fx.after oa
  have hv1' := (o2.trans o35).pv o1.gi hv1
  have hv2' := o35.pv o2.gi hv2
  have r3 : Rdy V K env s₀ W ρ { s3 with heap := h' } (.own a l) (.ref a) := Rdy.new Fx oa ha (PV.toOwn (o45.pv o3.gi hv3)) (fun _ _ _ _ e => (by cases e))
  show wpAny _ A (assignInOrder [PySem.assign (.Name x px) env, PySem.assign (.Name y py) env, PySem.assign (.Name z pz) env] [v1, v2, .ref a]) _ _ _
  unfold assignInOrder
  refine wpAny_bind (wpAny_holding (wpAny_assign_Name (wpAny_mono ((Rdy.it hv1').store Fa g hx) (fun _ s6 x6 => ?_) fun _ _ x => x)))
  obtain ⟨⟨F6, b6, hb6, hbl6⟩, hlk6⟩ := x6
  have hv2'' : (PV.it i2).is s6.heap v2 := PV.but hb6 hv2' (Fa.noSeq hbl6).1 (fun _ _ _ _ e => (by cases e))
  have r6 := r3.keep Fa hb6 hbl6 hlk6 (p' := .it i1) (by first | exact ns rfl | exact nIt rfl | exact nAcc rfl | nofun) (fun _ _ => by nofun) (fun _ e => (by cases e))
  unfold assignInOrder
  refine wpAny_bind (wpAny_holding (wpAny_assign_Name (wpAny_mono ((Rdy.it hv2'').store F6 g hy) (fun _ s7 x7 => ?_) fun _ _ x => x)))
  obtain ⟨⟨F7, b7, hb7, hbl7⟩, hlk7⟩ := x7
  have r7 := r6.keep F6 hb7 hbl7 hlk7 (p' := .it i2) (by first | exact ns rfl | exact nIt rfl | exact nAcc rfl | nofun) (fun _ _ => by nofun) (fun _ e => (by cases e))
  unfold assignInOrder
  refine wpAny_bind (wpAny_holding (wpAny_assign_Name (wpAny_mono (r7.store F7 g hz) (fun _ s8 x8 => ?_) fun _ _ x => x)))
  obtain ⟨⟨F8, b8, hb8, hbl8⟩, _⟩ := x8
  unfold assignInOrder
  refine wpAny_pure ⟨_, ⟨a, Fx.newAt ha, rfl⟩, F8, ⟨fun c o hn ht e => ?_, fun w r c hw hc => ?_⟩⟩
  · have hne : ∀ {w : Str} {b : Addr}, Bl K env w b → c ≠ b := fun {w b} hb e' => hn (by subst e'; exact hb.elim .inl fun y => .inr (.inl ⟨w, y⟩))
    exact hb8.keep c o (hne hbl8) (hb7.keep c o (hne hbl7) (hb6.keep c o (hne hbl6) ((Mv.ok oa).keep c o hn ht e)))
  · unfold up at hw
    by_cases e1 : w = z
    · rw [if_pos e1] at hw; cases hw; cases hc; exact .inr ha
    · rw [if_neg e1] at hw
      by_cases e2 : w = y
      · rw [if_pos e2] at hw; cases hw; cases hc
      · rw [if_neg e2] at hw
        by_cases e3 : w = x
        · rw [if_pos e3] at hw; cases hw; cases hc
        · rw [if_neg e3] at hw; exact .inl (Pl.own hw hc)
theorem ScOk.up {scope : Scope} {ρ0 : Vars} (h : ScOk K scope ρ0) (hm : ∀ n, (ρ0 n).isSome = true → (ρ n).isSome = true) : ScOk K scope ρ := by
  unfold ScOk scopeOk at *
  rw [Bool.and_eq_true, List.all_eq_true] at *
  refine ⟨h.1, fun y hy => ?_⟩
  have := h.2 y hy
  cases hk : y.2 <;> rw [hk] at this <;> dsimp only at this ⊢ <;> first | exact this | (rw [Bool.and_eq_true] at *; exact ⟨this.1, hm _ this.2⟩)
end
end
section
open PySem PySem.Calls PyProof.Rows PySem.W PySem.Spec

theorem worth_snoc (l : List Nat) (c : Nat) : worth (l ++ [c]) = 16 * worth l + ((c : Int) - 65) := by
  unfold worth
  rw [List.reverse_append, List.reverse_singleton, List.singleton_append, List.map_cons]
  show ((c : Int) - 65) + 2 ^ 4 * _ = _
  (first | lia | omega)
theorem list_snoc {α : Type} {P : List α → Prop} (h0 : P []) (h1 : ∀ l a, P l → P (l ++ [a])) : ∀ l, P l := fun l => by
  have : ∀ r : List α, P r.reverse := fun r => by
    induction r with
    | nil => exact h0
    | cons a r ih => rw [List.reverse_cons]; exact h1 _ _ ih
  have h := this l.reverse
  rwa [List.reverse_reverse] at h
theorem worth_append (a b : List Nat) : worth (a ++ b) = worth a * 16 ^ b.length + worth b := by
  refine list_snoc (P := fun b => worth (a ++ b) = worth a * 16 ^ b.length + worth b) ?_ (fun l c ih => ?_) b
  · simp [worth, dval]
  · rw [← List.append_assoc, worth_snoc, worth_snoc, ih, List.length_append, List.length_singleton, Int.pow_succ, Int.mul_add, ← Int.mul_assoc, Int.mul_comm 16 (worth a), Int.mul_assoc (worth a), Int.mul_comm 16]
    (first | lia | omega)
theorem worth_bound (l : List Nat) : (∀ c ∈ l, isL c) → 0 ≤ worth l ∧ worth l < 16 ^ l.length := by
  refine list_snoc (P := fun l => (∀ c ∈ l, isL c) → 0 ≤ worth l ∧ worth l < 16 ^ l.length) (fun _ => by simp [worth, dval]) (fun l c ih h => ?_) l
  obtain ⟨h1, h2⟩ := ih fun x hx => h x (List.mem_append_left _ hx)
  have hc := h c (by simp)
  unfold isL at hc
  rw [worth_snoc, List.length_append, List.length_singleton, Int.pow_succ]
  (first | lia | omega)
theorem worth_inj (l : List Nat) : ∀ m : List Nat, l.length = m.length → (∀ c ∈ l, isL c) → (∀ c ∈ m, isL c) → worth l = worth m → l = m := by
  refine list_snoc (P := fun l => ∀ m : List Nat, l.length = m.length → (∀ c ∈ l, isL c) → (∀ c ∈ m, isL c) → worth l = worth m → l = m) (fun m hl _ _ _ => (List.length_eq_zero_iff.mp hl.symm).symm) (fun l c ih m hl h1 h2 hw => ?_) l
  refine list_snoc (P := fun m => (l ++ [c]).length = m.length → (∀ c ∈ m, isL c) → worth (l ++ [c]) = worth m → l ++ [c] = m) (fun hl _ _ => by simp at hl) (fun m d _ hl h2 hw => ?_) m hl h2 hw
  rw [worth_snoc, worth_snoc] at hw
  have hc := h1 c (by simp)
  have hd := h2 d (by simp)
  unfold isL at hc hd
  have e1 : worth l = worth m := by (first | lia | omega)
  have e2 : c = d := by (first | lia | omega)
  rw [ih m (by simpa using hl) (fun x hx => h1 x (List.mem_append_left _ hx)) (fun x hx => h2 x (List.mem_append_left _ hx)) e1, e2]
theorem worth_div (a b : List Nat) (hb : ∀ c ∈ b, isL c) : worth (a ++ b) / 16 ^ b.length = worth a := by
  obtain ⟨h1, h2⟩ := worth_bound b hb
  have p : (0 : Int) < 16 ^ b.length := Int.pow_pos (by decide)
  rw [worth_append, Int.add_comm, Int.add_mul_ediv_right _ _ (Int.ne_of_gt p), Int.ediv_eq_zero_of_lt h1 h2]
  (first | lia | omega)
theorem worth_mod (a b : List Nat) (hb : ∀ c ∈ b, isL c) : worth (a ++ b) % 16 ^ b.length = worth b := by
  obtain ⟨h1, h2⟩ := worth_bound b hb
  rw [worth_append, Int.add_comm, Int.add_mul_emod_self_right, Int.emod_eq_of_lt h1 h2]
theorem fits_iff {v t : List Nat} (hv : ∀ c ∈ v, isL c) (ht : ∀ c ∈ t, isL c) (hl : v.length ≤ t.length) : worth t / 16 ^ (t.length - v.length) = worth v ↔ v = t.take v.length := by
  have e : worth t / 16 ^ (t.length - v.length) = worth (t.take v.length) := by
    have := worth_div (t.take v.length) (t.drop v.length) (fun c hc => ht c (List.mem_of_mem_drop hc))
    rwa [List.take_append_drop, List.length_drop] at this
  rw [e]
  constructor
  · intro h
    refine (worth_inj (t.take v.length) v (by rw [List.length_take]; (first | lia | omega)) (fun c hc => ht c (List.mem_of_mem_take hc)) hv h).symm
  · intro h; rw [← h]
theorem filter_one {α : Type} [DecidableEq α] {l : List α} {w : α} {p : α → Bool} (hn : l.Nodup) (hw : w ∈ l) (hp : ∀ v ∈ l, p v = true ↔ v = w) : l.filter p = [w] := by
  induction l with
  | nil => cases hw
  | cons a r ih =>
    obtain ⟨h1, h2⟩ := List.nodup_cons.mp hn
    by_cases e : a = w
    · subst e
      rw [List.filter_cons, if_pos ((hp a List.mem_cons_self).mpr rfl)]
      congr 1
      rw [List.filter_eq_nil_iff]
      intro v hv hpv
      have := (hp v (List.mem_cons_of_mem _ hv)).mp hpv
      rw [this] at hv; exact h1 hv
    · rw [List.filter_cons, if_neg (fun h => e ((hp a List.mem_cons_self).mp h))]
      rcases List.mem_cons.mp hw with h | h
      · exact absurd h.symm e
      · exact ih h2 h fun v hv => hp v (List.mem_cons_of_mem _ hv)
theorem fit_one {given : List (List Nat)} {w r : List Nat} (hn : given.Nodup) (hg : ∀ v ∈ given, ∀ c ∈ v, isL c) (hpf : ∀ v ∈ given, ∀ u ∈ given, v <+: u → v = u) (hw : w ∈ given) (hr : ∀ c ∈ r, isL c) :
    given.filter (fun v => decide (v.length ≤ (w ++ r).length) && decide (worth (w ++ r) / 16 ^ ((w ++ r).length - v.length) = worth v)) = [w] := by
  have ht : ∀ c ∈ w ++ r, isL c := fun c hc => by
    rcases List.mem_append.mp hc with h | h
    · exact hg w hw c h
    · exact hr c h
  refine filter_one hn hw fun v hv => ?_
  rw [Bool.and_eq_true, decide_eq_true_eq, decide_eq_true_eq]
  constructor
  · rintro ⟨h1, h2⟩
    have h3 := (fits_iff (hg v hv) ht h1).mp h2
    have p1 : v <+: w ++ r := by rw [h3]; exact List.take_prefix _ _
    rcases List.prefix_or_prefix_of_prefix p1 (List.prefix_append w r) with h | h
    · exact hpf v hv w hw h
    · exact (hpf w hw v hv h).symm
  · rintro rfl
    have h1 : v.length ≤ (v ++ r).length := by simp
    refine ⟨h1, (fits_iff (hg v hv) ht h1).mpr (by simp)⟩
end
section
open PySem PySem.Calls PyProof.Rows PySem.W PySem.Spec

noncomputable def pairW (w : List Nat) : It := .tup [.str w, .int (worth w)]
noncomputable def worthsF : It → List It
  | .at (.str w) => [pairW w]
  | _ => []
noncomputable def fit1F (n : Nat) : It → List It
  | .tup [.str w, .int x] => if w.length ≤ n then [.tup [.str w, .int x]] else []
  | _ => []
noncomputable def fit2F (p : List Nat → Bool) : It → List It
  | .tup [.str w, .int _] => if p w then [sIt w] else []
  | _ => []
theorem pow16 {n m : Nat} (h : n ≤ m) : (16 : Int) ^ n ≤ 16 ^ m := by
  exact_mod_cast Nat.pow_le_pow_right (by decide : 0 < 16) h
theorem fit1_flat (n : Nat) (l : List (List Nat)) : (l.map pairW).flatMap (fit1F n) = (l.filter fun v => decide (v.length ≤ n)).map pairW := by
  induction l with
  | nil => rfl
  | cons a r ih =>
    rw [List.map_cons, List.flatMap_cons, ih, List.filter_cons]
    show (if a.length ≤ n then [pairW a] else []) ++ _ = _
    by_cases h : a.length ≤ n <;> simp [h]
theorem fit2_flat (p : List Nat → Bool) (l : List (List Nat)) : (l.map pairW).flatMap (fit2F p) = (l.filter p).map sIt := by
  induction l with
  | nil => rfl
  | cons a r ih =>
    rw [List.map_cons, List.flatMap_cons, ih, List.filter_cons]
    show (if p a then [sIt a] else []) ++ _ = _
    cases p a <;> rfl
section
variable {V : Wo} {k : Nat}
set_option maxHeartbeats 4000000 in
theorem read_cl (X : Facts V) (given message : List (List Nat)) (hn : given.Nodup) (hg : ∀ v ∈ given, 1 ≤ v.length ∧ v.length ≤ 3 ∧ ∀ c ∈ v, isL c) (hpf : ∀ v ∈ given, ∀ u ∈ given, v <+: u → v = u) (hgl : given.length < 100) (hm : ∀ w ∈ message, w ∈ given) (htl : message.flatten.length < 10) :
    Cl V (k + 100) (.ref 190) [S message.flatten, SL given] (SL message) := by
  have hL : ∀ c ∈ message.flatten, isL c := fun c hc => by
    obtain ⟨w, hw, hcw⟩ := List.mem_flatten.mp hc
    exact (hg w (hm w hw)).2.2 c hcw
  have hml : message.length ≤ message.flatten.length := by
    clear htl hL
    induction message with
    | nil => simp
    | cons a r ih =>
      have h1 := (hg a (hm a List.mem_cons_self)).1
      have h2 := ih fun w hw => hm w (List.mem_cons_of_mem _ hw)
      rw [List.flatten_cons, List.length_append, List.length_cons]; (first | lia | omega)
  generalize hT : message.flatten = text at *
  refine Cl.fn2 X.read.2 rfl (.inl rfl) (.inl rfl) (by decide) rfl rfl ?_
  have wc := fun (w : List Nat) (h : ∀ c ∈ w, isL c) (hl : w.length < 10) => (worth_cl (V := V) (k := k + 60) X w h (by (first | lia | omega))).mono (k := k + 99) (by (first | lia | omega))
  refine Bk.cons (St1.trio (i1 := .at (.int (worth text))) (i2 := .at (.int text.length)) (l := []) (EV.call (ps := [S text]) rfl X.worth.1 (Kept.fn X.worth.2) (.cons (by first | exact ns rfl | exact nIt rfl | exact nAcc rfl | nofun) (by trivial) .nil) (wc text hL htl)) (EV.call (ps := [S text]) rfl X.len Kept.builtin (.cons (by first | exact ns rfl | exact nIt rfl | exact nAcc rfl | nofun) (by trivial) .nil) (Cl.lenS (by (first | lia | omega)))) (EV.list (l := []) .nil (by simp)) (by first | exact ns rfl | exact nIt rfl | exact nAcc rfl | nofun) (by first | exact ns rfl | exact nIt rfl | exact nAcc rfl | nofun) (by first | exact ns rfl | exact nIt rfl | exact nAcc rfl | nofun) (.inr rfl) (.inr rfl) (.inl rfl) ?_) ?_
  · intro env h1 h2
    cases env with
    | mk scope =>
      cases scope
      simp only at h1 h2
      subst h1
      subst h2
      rfl
  rintro _ ⟨wa, hwa, rfl⟩
  have eW : (given.map sIt).flatMap worthsF = given.map pairW := flat_map1 _ _ _ pairW fun a _ => rfl
  refine Bk.cons (St1.comp (l := given.map sIt) (f := worthsF) (turn1 _ _ _ _ _ _) (fun _ _ _ _ _ _ _ h => eltK_wp h) (q := true) (.inl rfl) rfl (IE.list (f := false) (by trivial)) (.inl trivial) ?_ (.inl rfl) ?_) ?_
  · refine mem_map_rev fun w hw => ?_
    obtain ⟨h1, h2, h3⟩ := hg w hw
    refine ⟨_, true, .name rfl rfl, rfl, fun _ => Em.elt (EV.tup (l := [.str w, .int (worth w)]) (.cons (by first | exact ns rfl | exact nIt rfl | exact nAcc rfl | nofun) (by trivial) (.cons (by first | exact ns rfl | exact nIt rfl | exact nAcc rfl | nofun) (EV.call (ps := [S w]) rfl X.worth.1 (Kept.fn X.worth.2) (.cons (by first | exact ns rfl | exact nIt rfl | exact nAcc rfl | nofun) (by trivial) .nil) (wc w h3 (by (first | lia | omega)))) .nil)) (by simp)), (by first | exact ns rfl | exact nIt rfl | exact nAcc rfl | nofun)⟩
  · rw [eW, List.length_map]; (first | lia | omega)
  rw [eW]
  rintro _ rfl
  refine Bk.cons (St1.for (fun i ρ => ρ "text" = some (S text) ∧ ρ "number" = some (I (worth (message.drop i).flatten)) ∧ ρ "letters" = some (I (message.drop i).flatten.length) ∧ ρ "words" = some (.own wa ((message.take i).map sIt)) ∧ ρ "worths" = some (.list (given.map pairW))) (IF.of (IE.range (n := (text.length : Int)) rfl X.range (by first | exact ns rfl | exact nIt rfl | exact nAcc rfl | nofun) (EV.call (ps := [S text]) rfl X.len Kept.builtin (.cons (by first | exact ns rfl | exact nIt rfl | exact nAcc rfl | nofun) (by trivial) .nil) (Cl.lenS (by (first | lia | omega)))) (by (first | lia | omega)) (by (first | lia | omega)))) trivial ?_ ?_) ?_
  · refine ⟨rfl, ?_, ?_, rfl, rfl⟩
    · rw [List.drop_zero, hT]; rfl
    · rw [List.drop_zero, hT]; rfl
  · intro i x ρ1 hx hinv
    obtain ⟨h1, h2, h3, h4, h5⟩ := hinv
    refine ⟨_, .name (.inl rfl), ?_⟩
    have key : ∀ (b : Bool), True := fun _ => trivial
    generalize hrest : (message.drop i).flatten = rest at *
    have hrl : ∀ c ∈ rest, isL c := fun c hc => by
      rw [← hrest] at hc
      obtain ⟨w, hw, hcw⟩ := List.mem_flatten.mp hc
      exact (hg w (hm w (List.mem_of_mem_drop hw))).2.2 c hcw
    have hrt : rest.length ≤ text.length := by
      have : text = (message.take i).flatten ++ rest := by rw [← hrest, ← List.flatten_append, List.take_append_drop, hT]
      rw [this, List.length_append]; (first | lia | omega)
    refine Bk.cons (St1.ite (b := decide (0 < (rest.length : Int))) (ET.cmp (EV.nameIt h3) (by trivial) Bi.gtI) (fun hb => ?_) (fun hb => Bk.nil ?_)) (fun ρ' h => Bk.nil h)
    · have hb := of_decide_eq_true hb
      have hi : i < message.length := by
        refine Nat.lt_of_not_le fun h => ?_
        rw [List.drop_eq_nil_of_le h] at hrest
        rw [← hrest] at hb
        simp at hb
      generalize hw : message[i] = w at *
      generalize hr : (message.drop (i + 1)).flatten = r at *
      have e1 : rest = w ++ r := by rw [← hrest, ← hr, ← hw, List.drop_eq_getElem_cons hi, List.flatten_cons]
      have hwm : w ∈ given := hm w (by rw [← hw]; exact List.getElem_mem hi)
      have hwl := hg w hwm
      have hrl' : ∀ c ∈ r, isL c := fun c hc => hrl c (by rw [e1]; exact List.mem_append_right _ hc)
      have hfit := fit_one hn (fun v hv => (hg v hv).2.2) hpf hwm hrl'
      rw [← e1] at hfit
      have hsc : ∀ {K : List (Str × NameKind)} {scope : Scope} {ρ : Vars}, ScOk K scope (fun n => if n = "letters" then some N0 else if n = "number" then some N0 else none) → (∃ p, ρ "letters" = some p) → (∃ p, ρ "number" = some p) → ScOk K scope ρ := fun h h1 h2 => h.up fun n hn => by
        by_cases e1 : n = "letters"
        · obtain ⟨p, hp⟩ := h1; rw [e1, hp]; rfl
        · by_cases e2 : n = "number"
          · obtain ⟨p, hp⟩ := h2; rw [e2, hp]; rfl
          · simp only [e1, e2, if_false] at hn; cases hn
      have eA := fit1_flat rest.length given
      have eB := fit2_flat (fun v => decide (worth rest / 16 ^ (rest.length - v.length) = worth v)) (given.filter fun v => decide (v.length ≤ rest.length))
      have eC : ((given.filter fun v => decide (v.length ≤ rest.length)).filter fun v => decide (worth rest / 16 ^ (rest.length - v.length) = worth v)) = [w] := by
        rw [List.filter_filter, ← hfit]
        exact congrArg (fun p => given.filter p) (funext fun v => Bool.and_comm _ _)
      rw [eC] at eB
      obtain ⟨b1, b2⟩ := worth_bound rest hrl
      have hpw : (16 : Int) ^ rest.length ≤ 16 ^ 9 := pow16 (by (first | lia | omega))
      refine Bk.cons (St1.comp (l := given.map pairW) (f := fit1F rest.length) (turn1 _ _ _ _ _ _) (fun _ _ _ _ _ _ _ h => eltK_wp h) (q := true) (.inl rfl) (hsc rfl ⟨_, h3⟩ ⟨_, h2⟩) (IE.list (f := false) (EV.name h5)) (.inr trivial) ?_ (.inl rfl) ?_) ?_
      · refine mem_map_rev fun v hv => ?_
        have hvl := hg v hv
        refine ⟨_, decide (v.length ≤ rest.length), .pair rfl rfl rfl rfl rfl, ?_, fun hb => ?_, fun hb => ?_⟩
        · show ET _ _ _ _ _ _
          have hle := Bi.leI (V := V) (k := k + 99) (a := (v.length : Int)) (b := (rest.length : Int))
          rw [show decide ((v.length : Int) ≤ (rest.length : Int)) = decide (v.length ≤ rest.length) by simp] at hle
          exact ET.cmp (EV.call (ps := [S v]) rfl X.len Kept.builtin (.cons (by first | exact ns rfl | exact nIt rfl | exact nAcc rfl | nofun) (by trivial) .nil) (Cl.lenS (by (first | lia | omega)))) (EV.nameIt h3) hle
        · have : fit1F rest.length (pairW v) = [pairW v] := if_pos (of_decide_eq_true hb)
          rw [this]
          exact Em.elt (EV.tup (l := [.str v, .int (worth v)]) (.cons (by first | exact ns rfl | exact nIt rfl | exact nAcc rfl | nofun) (by trivial) (.cons (by first | exact ns rfl | exact nIt rfl | exact nAcc rfl | nofun) (by trivial) .nil)) (by simp))
        · exact if_neg (of_decide_eq_false hb)
      · rw [eA, List.length_map]
        have := List.length_filter_le (fun v : List Nat => decide (v.length ≤ rest.length)) given
        (first | lia | omega)
      rw [eA]
      rintro _ rfl
      refine Bk.cons (St1.comp (l := (given.filter fun v => decide (v.length ≤ rest.length)).map pairW) (f := fit2F fun v => decide (worth rest / 16 ^ (rest.length - v.length) = worth v)) (turn1 _ _ _ _ _ _) (fun _ _ _ _ _ _ _ h => eltK_wp h) (q := true) (.inl rfl) (hsc rfl ⟨_, h3⟩ ⟨_, h2⟩) (IE.list (f := false) (EV.name rfl)) (.inr trivial) ?_ (.inl rfl) ?_) ?_
      · refine mem_map_rev fun v hv => ?_
        obtain ⟨hv, hvr⟩ := List.mem_filter.mp hv
        have hvr := of_decide_eq_true hvr
        have hvl := hg v hv
        have hp0 : (0 : Int) < 16 ^ (rest.length - v.length) := Int.pow_pos (by decide)
        have hp1 : (16 : Int) ^ (rest.length - v.length) ≤ 16 ^ 9 := pow16 (by (first | lia | omega))
        refine ⟨_, decide (worth rest / 16 ^ (rest.length - v.length) = worth v), .pair rfl rfl rfl rfl rfl, ?_, fun hb => ?_, fun hb => ?_⟩
        · show ET _ _ _ _ _ _
          have hpow := Bi.pow (V := V) (k := k + 99) (a := 16) (n := (rest.length : Int) - (v.length : Int)) (by (first | lia | omega)) (by (first | lia | omega)) (by decide)
          rw [show ((rest.length : Int) - (v.length : Int)).toNat = rest.length - v.length by (first | lia | omega)] at hpow
          refine ET.cmp (EV.sub (p := QR (worth rest / 16 ^ (rest.length - v.length)) (-(worth rest % 16 ^ (rest.length - v.length)))) Base.tup (EV.call (ps := [I (-(worth rest)), I (-(16 ^ (rest.length - v.length)))]) rfl X.intDivmod.1 (Kept.fn X.intDivmod.2) (.cons (by first | exact ns rfl | exact nIt rfl | exact nAcc rfl | nofun) (EV.un (EV.nameIt h2) Un.neg) (.cons (by first | exact ns rfl | exact nIt rfl | exact nAcc rfl | nofun) (EV.un (EV.bin (by trivial) (EV.bin (EV.nameIt h3) (EV.call (ps := [S v]) rfl X.len Kept.builtin (.cons (by first | exact ns rfl | exact nIt rfl | exact nAcc rfl | nofun) (by trivial) .nil) (Cl.lenS (by (first | lia | omega)))) Bi.sub) hpow) Un.neg) .nil)) ((idm_neg (k := k + 35) X _ _ b1 hp0 (by (first | lia | omega)) (by (first | lia | omega))))) (by trivial) (Bi.itemT (i := 0) (by (first | lia | omega)) rfl)) (by trivial) Bi.eqI
        · have : fit2F (fun v => decide (worth rest / 16 ^ (rest.length - v.length) = worth v)) (pairW v) = [sIt v] := if_pos hb
          rw [this]
          exact Em.elt (by trivial)
        · exact if_neg (by show ¬ (decide (worth rest / 16 ^ (rest.length - v.length) = worth v) = true); rw [hb]; nofun)
      · rw [eB]; simp
      rw [eB]
      rintro _ rfl
      have hne := Bi.neI (V := V) (k := k + 99) (a := 1) (b := 1)
      refine Bk.cons (St1.ite (Φn := fun ρ' => ρ' = _) (b := false) (ET.cmp (EV.call (ps := [.list [sIt w]]) rfl X.len Kept.builtin (.cons (by first | exact ns rfl | exact nIt rfl | exact nAcc rfl | nofun) (EV.name rfl) .nil) (Cl.lenL (by simp))) (by trivial) hne) (fun h => (by cases h)) (fun _ => Bk.nil rfl)) ?_
      rintro _ rfl
      have hit := Bi.itemL (V := V) (k := k + 99) (l := [sIt w]) (i := 0) (x := sIt w) (by (first | lia | omega)) (by (first | lia | omega)) rfl
      refine Bk.step (St1.meth (x := "words") (l := (message.take i).map sIt) (l' := (message.take i).map sIt ++ [sIt w]) h4 PySem.F.slot_list_append PySem.F.type_list_append (.cons (by first | exact ns rfl | exact nIt rfl | exact nAcc rfl | nofun) (EV.sub Base.list (EV.name rfl) (by trivial) hit) .nil) (fun b hb => (by cases hb)) (CW.append (by rw [List.length_map, List.length_take]; (first | lia | omega)))) ?_
      refine Bk.step (St1.assign (x := "letters") (i := .at (.int ((rest.length : Int) - (w.length : Int)))) (EV.bin (EV.nameIt h3) (EV.call (ps := [S w]) rfl X.len Kept.builtin (.cons (by first | exact ns rfl | exact nIt rfl | exact nAcc rfl | nofun) (EV.sub Base.list (EV.name rfl) (by trivial) hit) .nil) (Cl.lenS (by (first | lia | omega)))) Bi.sub) (.inr rfl)) ?_
      have erl : rest.length = w.length + r.length := by rw [e1, List.length_append]
      have hp0 : (0 : Int) < 16 ^ r.length := Int.pow_pos (by decide)
      have hp1 : (16 : Int) ^ r.length ≤ 16 ^ 9 := pow16 (by (first | lia | omega))
      have hpow := Bi.pow (V := V) (k := k + 99) (a := 16) (n := (rest.length : Int) - (w.length : Int)) (by (first | lia | omega)) (by (first | lia | omega)) (by decide)
      rw [show ((rest.length : Int) - (w.length : Int)).toNat = r.length by (first | lia | omega)] at hpow
      refine Bk.step (St1.assign (x := "number") (i := .at (.int (-(-(worth rest % 16 ^ r.length))))) (EV.un (EV.sub (p := QR (worth rest / 16 ^ r.length) (-(worth rest % 16 ^ r.length))) Base.tup (EV.call (ps := [I (-(worth rest)), I (-(16 ^ r.length))]) rfl X.intDivmod.1 (Kept.fn X.intDivmod.2) (.cons (by first | exact ns rfl | exact nIt rfl | exact nAcc rfl | nofun) (EV.un (EV.nameIt h2) Un.neg) (.cons (by first | exact ns rfl | exact nIt rfl | exact nAcc rfl | nofun) (EV.un (EV.bin (by trivial) (EV.nameIt rfl) hpow) Un.neg) .nil)) (idm_neg (k := k + 35) X _ _ b1 hp0 (by (first | lia | omega)) (by (first | lia | omega)))) (by trivial) (Bi.itemT (i := 1) (by (first | lia | omega)) rfl)) Un.neg) (.inr rfl)) (Bk.nil ?_)
      have em : -(-(worth rest % 16 ^ r.length)) = worth r := by rw [Int.neg_neg, e1, worth_mod w r hrl']
      refine ⟨h1, ?_, ?_, ?_, h5⟩
      · show some (I _) = _; rw [em]
      · show some (I _) = _; rw [show (rest.length : Int) - (w.length : Int) = (r.length : Int) by (first | lia | omega)]
      · show some (PV.own wa _) = _
        rw [List.take_add_one, List.getElem?_eq_getElem hi, hw, List.map_append]
        rfl
    · have hb := of_decide_eq_false hb
      have hi : message.length ≤ i := by
        refine Nat.le_of_not_lt fun h => ?_
        have h7 := (hg _ (hm _ (List.getElem_mem h))).1
        rw [List.drop_eq_getElem_cons h, List.flatten_cons] at hrest
        rw [← hrest, List.length_append] at hb
        (first | lia | omega)
      rw [List.drop_eq_nil_of_le hi] at hrest
      rw [List.drop_eq_nil_of_le (by (first | lia | omega)), List.take_of_length_le (by (first | lia | omega))]
      rw [List.take_of_length_le hi] at h4
      rw [hrest]
      exact ⟨h1, h2, h3, h4, h5⟩
  · rintro ρ1 ⟨h1, h2, h3, h4, h5⟩
    refine Bk.last (St1.retOwn h4 hwa.2 ?_)
    rw [List.length_map, List.length_range, Int.toNat_natCast, List.take_of_length_le (by (first | lia | omega))]
end
end
section
open PySem PySem.Calls PyProof.Rows PySem.W PySem.Spec

structure AccFacts (V : Wo) : Prop where
  own : ∀ n id, (n, id) ∈ ([("__iter__", "list.__iter__"), ("__getitem__", "list.__getitem__"), ("__setitem__", "list.__setitem__"), ("append", "list.append"), ("__new__", "list.__new__")] : List (Str × String)) → Looks (model prog V.w) V.h0 (typeLookup (.ref accCls) n) (some (.builtin id))
  fns : ∀ n f, (n, f) ∈ ([("__init__", 38), ("push", 45), ("pop_from", 53), ("__len__", 67), ("__str__", 74), ("part_count", 97)] : List (Str × Addr)) → Looks (model prog V.w) V.h0 (typeLookup (.ref accCls) n) (some (.ref f))
  sub : Looks (model prog V.w) V.h0 (isSubtype (.ref accCls) (.type "list")) true
  ga : Looks (model prog V.w) V.h0 (typeLookup (.ref accCls) "__getattribute__") (some (.builtin "list.__getattribute__"))
  gn : Looks (model prog V.w) V.h0 (typeLookup (.ref accCls) "__getattr__") none
  fnT : ∀ f, f ∈ ([38, 45, 53, 67, 74, 97] : List Addr) → Looks (model prog V.w) V.h0 (typeOf (.ref f)) (.type "function")

section
variable {V : Wo} {k : Nat} {A : Around} {E : Value → Shared → Prop} {s : Shared} {a d : Addr} {vs : Array Value} {n : Nat}
theorem acc_type (ho : s.heap.get? a = some (accObj d vs n)) : Looks (model prog V.w) s.heap (typeOf (.ref a)) (.ref accCls) :=
  (show Looks (model prog V.w) s.heap (typeOf (.ref a)) (accObj d vs n).cls from (Looks.ld ho).andThen .now)
theorem acc_inst (X : AccFacts V) (g : GI V s) (ho : s.heap.get? a = some (accObj d vs n)) : Looks (model prog V.w) s.heap (isInstance (.ref a) (.type "list")) true :=
  (acc_type ho).andThen (X.sub.keeps g.keep)
theorem acc_special (X : AccFacts V) (g : GI V s) (ho : s.heap.get? a = some (accObj d vs n)) {nm : Str} {r : Option Value} (h : Looks (model prog V.w) V.h0 (typeLookup (.ref accCls) nm) r) : Looks (model prog V.w) s.heap (specialOf (.ref a) nm) r :=
  (acc_type ho).andThen (h.keeps g.keep)
theorem acc_check (X : AccFacts V) (g : GI V s) (ho : s.heap.get? a = some (accObj d vs n)) {id m : String} {rest : List Value} {Q : Unit → Shared → Prop} (hsplit : splitId id = some ("list", m))
    (hkind : (Manifest.find? "list").bind (·.attrs.lookup m) = some .slot ∨ (Manifest.find? "list").bind (·.attrs.lookup m) = some .method) (ha : argsOk id ⟨.ref a :: rest, []⟩) (hQ : Q () s) : wpAny (model prog V.w) A (checkBuiltinCall id ⟨.ref a :: rest, []⟩) Q E s := by
  have hk : builtinKind id = (Manifest.find? "list").bind (·.attrs.lookup m) := by simp only [builtinKind, hsplit]
  rcases hkind with h | h <;>
  · simp only [checkBuiltinCall, hk, h, hsplit]
    refine wpAny_bind ((acc_inst X g ho).here ?_)
    simp only [Bool.not_true, Bool.false_eq_true, if_false]
    cases hsig : Manifest.signature? id with
    | none => exact wpAny_pure hQ
    | some sig =>
      simp only [argsOk, hsig] at ha
      have h2 : Bind.checkArgs id sig ⟨.ref a :: rest, []⟩ = pure () := ha
      show wpAny _ A (Bind.checkArgs id sig ⟨.ref a :: rest, []⟩) Q E s
      rw [h2]; exact wpAny_pure hQ
theorem acc_call (X : AccFacts V) (g : GI V s) (ho : s.heap.get? a = some (accObj d vs n)) {id m : String} {b : Builtin} {rest : List Value} {Q : Value → Shared → Prop} (hsplit : splitId id = some ("list", m))
    (hkind : (Manifest.find? "list").bind (·.attrs.lookup m) = some .slot ∨ (Manifest.find? "list").bind (·.attrs.lookup m) = some .method) (hp : plainId id = true) (hb : entryFor table id = some b) (ha : argsOk id ⟨.ref a :: rest, []⟩)
    (hc : wpAny (model prog V.w) A.in1 (b ⟨.ref a :: rest, []⟩) (fun fin s' => ∃ v, fin = .done (.ret v) ∧ Q v s') E s) : wpAny (model prog V.w) A (call (.builtin id) (.ref a :: rest)) Q E s := by
  refine wpAny_call (codeAny_call_builtin hp hb (acc_check X g ho hsplit hkind ha (wpAny_mono hc (fun fin s' h' => ?_) fun _ _ h' => h')))
  obtain ⟨v, rfl, hv⟩ := h'; exact hv
theorem acc_pyIter (X : AccFacts V) (g : GI V s) (ho : s.heap.get? a = some (accObj d vs n)) {Q : Value → Shared → Prop}
    (hQ : Q (.ref s.heap.objs.size) { s with heap := s.heap.push { cls := .type "list_iterator", data := .fields #[.ref a, .int 0 0] } }) : wpAny (model prog V.w) A (pyIter (.ref a)) Q E s := by
  have hl := acc_special X g ho (X.own "__iter__" "list.__iter__" (by simp))
  have one : wpAny (model prog V.w) A (call (.builtin "list.__iter__") [.ref a]) (fun v s' => v = .ref s.heap.objs.size ∧ s' = { s with heap := s.heap.push { cls := .type "list_iterator", data := .fields #[.ref a, .int 0 0] } }) E s := by
    refine acc_call X g ho (m := "__iter__") (by decide +kernel) (by first | exact .inl (by decide +kernel) | exact .inr (by decide +kernel)) slot_list_iter.plain entry_list_iter (args_list_iter _) ?_
    show wpAny _ _ (do ret (← newFields "list_iterator" [.ref a, rawInt 0])) _ _ s
    exact wpAny_bind (wpAny_newObj_type (wpAny_pure ⟨_, rfl, rfl, rfl⟩))
  unfold pyIter
  refine wpAny_bind (hl.here ?_)
  have two : ∀ refuse : Sem Value, wpAny (model prog V.w) A (callSpecialIfBoundUnlessNone? (.ref a) "__iter__" refuse) (fun r s' => r = some (.ref s.heap.objs.size) ∧ s' = { s with heap := s.heap.push { cls := .type "list_iterator", data := .fields #[.ref a, .int 0 0] } }) E s := by
    intro refuse
    simp only [callSpecialIfBoundUnlessNone?, bindSpecialIfBound?]
    refine wpAny_holding (wpAny_bind (wpAny_bind (hl.here ?_)))
    have fin2 : wpAny (model prog V.w) A (if (Value.builtin "list.__iter__" == Value.none) = true then (refuse >>= fun v => pure (some v)) else (call (.builtin "list.__iter__") [.ref a] >>= fun v => pure (some v))) (fun r s' => r = some (.ref s.heap.objs.size) ∧ s' = { s with heap := s.heap.push { cls := .type "list_iterator", data := .fields #[.ref a, .int 0 0] } }) E s := by
      rw [if_neg (fun h => by have h' := eq_of_beq h; cases h')]
      exact wpAny_bind (wpAny_mono one (fun v s' h => wpAny_pure ⟨by rw [h.1], h.2⟩) fun _ _ e => e)
    simp only [slot_list_iter.bind]
    refine wpAny_bind (wpAny_askSetting (wpAny_ite ?_))
    split
    · exact wpAny_bind (wpAny_pure (wpAny_pure (by exact fin2)))
    · exact wpAny_tryCatch (wpAny_bind (wpAny_pure (wpAny_pure (by exact fin2))))
  show wpAny _ A (callSpecialIfBoundUnlessNone? (.ref a) "__iter__" _ >>= _) Q E s
  refine wpAny_bind (wpAny_mono (two _) (fun r s' hr => ?_) fun _ _ z => z)
  obtain ⟨rfl, rfl⟩ := hr
  refine wpAny_bind (wpAny_specialOf (T := "list_iterator") ⟨_, Heap.get?_push_size _ rfl, rfl⟩ slot_listiter_next.lookup ?_)
  exact wpAny_pure hQ

theorem acc_next {I : Addr} {i : Nat} {x : Value} {Q : Option Value → Shared → Prop} (hI : s.heap.IsListIter I a i) (ho : s.heap.get? a = some (accObj d vs n)) (hx : vs[i]? = some x)
    (hQ : ∀ h', h'.IsListIter I a (i + 1) → Heap.SameBut I s.heap h' → Q (some x) { s with heap := h' }) : wpAny (model prog V.w) A (pyNext (.ref I)) Q E s := by
  obtain ⟨o, hoI, hc, hd⟩ := id hI
  unfold pyNext
  refine wpAny_bind (wpAny_attempt (wpAny_callSpecial?_slot (name := Str.ofString "__next__") hI.typeIs slot_listiter_next (wpAny_call_entry slot_listiter_next hI.typeIs entry_listiter_next ?_ (args_listiter_next _))))
  show wpAny _ _ (field (.ref I) 0 >>= _) _ _ s
  refine wpAny_bind (wpAny_field hoI hd (x := .ref a) rfl ?_)
  show wpAny _ _ (if (Value.ref a == Value.none) = true then _ else _) _ _ s
  rw [if_neg (show ¬ ((Value.ref a == Value.none) = true) from Bool.false_ne_true)]
  show wpAny _ _ (field (.ref I) 1 >>= _) _ _ s
  refine wpAny_bind (wpAny_field hoI hd (x := .int i 0) rfl ?_)
  show wpAny _ _ (seqItems? (.ref a) >>= _) _ _ s
  refine wpAny_bind (wpAny_seqItems ho rfl ?_)
  simp only [Int.toNat_natCast, hx]
  refine wpAny_bind (wpAny_setField hoI hd (by simp) (wpAny_pure ⟨x, rfl, wpAny_pure (hQ _ ?_ (Heap.SameBut.update ..))⟩))
  exact ⟨_, Heap.get?_update_self _ hoI (Obj.isFreed_of_fields (Obj.data_mapFields hd _)), (Obj.cls_mapFields ..).trans hc, by
    rw [Obj.data_mapFields hd]; simp [rawInt]⟩
theorem acc_end {I : Addr} {i : Nat} {Q : Option Value → Shared → Prop} (hh : A.handled = none) (hI : s.heap.IsListIter I a i) (ho : s.heap.get? a = some (accObj d vs n)) (hx : vs[i]? = none)
    (hQ : ∀ h', Heap.ExtBut I s.heap h' → Q none { s with heap := h' }) : wpAny (model prog V.w) A (pyNext (.ref I)) Q E s := by
  obtain ⟨o, hoI, hc, hd⟩ := id hI
  unfold pyNext
  refine wpAny_bind (wpAny_attempt (wpAny_callSpecial?_slot (name := Str.ofString "__next__") hI.typeIs slot_listiter_next (wpAny_call_entry slot_listiter_next hI.typeIs entry_listiter_next ?_ (args_listiter_next _))))
  show wpAny _ _ (field (.ref I) 0 >>= _) _ _ s
  refine wpAny_bind (wpAny_field hoI hd (x := .ref a) rfl ?_)
  show wpAny _ _ (if (Value.ref a == Value.none) = true then _ else _) _ _ s
  rw [if_neg (show ¬ ((Value.ref a == Value.none) = true) from Bool.false_ne_true)]
  show wpAny _ _ (field (.ref I) 1 >>= _) _ _ s
  refine wpAny_bind (wpAny_field hoI hd (x := .int i 0) rfl ?_)
  show wpAny _ _ (seqItems? (.ref a) >>= _) _ _ s
  refine wpAny_bind (wpAny_seqItems ho rfl ?_)
  simp only [Int.toNat_natCast, hx]
  refine wpAny_bind (wpAny_rule (wpAny_bind (wpAny_setField hoI hd (by simp) ?_)))
  refine stop_end (by exact hh) fun h' hk => hQ h' fun b o hb e => hk b o ?_
  exact (Heap.get?_update_other _ _ (Ne.symm hb)).trans e
theorem accWalks (hh : A.handled = none) (I a d : Addr) (n : Nat) (hne : a ≠ I) (vs : Array Value) :
    Walks prog V.w A I [I, a] [I] vs.size (fun i v => vs[i]? = some v) (fun i h => h.IsListIter I a i ∧ h.get? a = some (accObj d vs n)) where
  sub := fun b hb => by simp at hb; simp [hb]
  frame := fun _ _ _ st hk => ⟨st.1.at fun o e => hk I (by simp) o e, hk a (by simp) _ st.2⟩
  item := fun i s Q E hi st hQ => by
    refine acc_next st.1 st.2 (x := vs[i]) (by simp [hi]) fun h' hI hs => ?_
    exact hQ _ h' s.toks (by simp [hi]) ⟨hI, hs.extBut a _ hne st.2⟩ fun b o hb e => hs.extBut b o (fun h => hb (by simp [h])) e
  done := fun s Q E st hQ => acc_end hh st.1 st.2 (by simp) fun h' he => hQ h' s.toks fun b o hb e => he b o (fun h => hb (by simp [h])) e
  self := fun _ _ _ _ st hQ => wpAny_pyIter_listiter st.1 hQ
end
end
section
open PySem PySem.Calls PyProof.Rows PySem.W PySem.Spec
section
variable {V : Wo} {k : Nat} {fr : Bool} {K : List (Str × NameKind)} {ρ : Vars}
theorem PV.isAcc {h : Heap} {a d : Addr} {f : Int} {l : List (List Nat × List Nat)} {v : Value} (x : (PV.acc a d f l).is h v) : ∃ vs n, v = .ref a ∧ h.get? a = some (accObj d vs n) ∧ Its h (accItems l) vs.toList := by
  obtain ⟨vs, n, es, m, t, e, ho, hi, _⟩ := x
  exact ⟨vs, n, e, ho, hi⟩
theorem IE.acc {e : Expr} {a d : Addr} {first : Int} {l : List (List Nat × List Nat)} (X : AccFacts V) (h : EV V k false K ρ e (.acc a d first l)) : IE V k K ρ e (accItems l) (fun t => isName t ∨ isTup t) true false false := fun A env s₀ F g R => by
  refine wpAny_mono (h A env s₀ F g R) (fun x s₁ h₁ => ?_) fun _ _ x => x
  obtain ⟨o1, hx, hfr⟩ := h₁
  obtain ⟨vs, n, rfl, ho, hi⟩ := PV.isAcc hx
  refine acc_pyIter X o1.gi ho ?_
  have hlt : a < s₁.heap.objs.size := Heap.lt_size ho
  have e : vs.size = (accItems l).length := by have := hi.length; simpa using this
  refine ⟨s₁, s₁.heap.objs.size, _, [s₁.heap.objs.size], _, _, rfl, o1, Ok.grow (s := s₁) (tk := s₁.toks) o1.gi fun b o e => Heap.get?_push_of_some _ e,
    Src.ofW (P := fun i v => vs[i]? = some v) (fun A hA => accWalks hA s₁.heap.objs.size a d n (Nat.ne_of_lt hlt) vs) e o1.gi (above fun b hb => by rw [List.mem_singleton] at hb; rw [hb]; exact Nat.le_refl _) (fun i h st => ?_) (fun i v x hp hx => ?_) (fun t A i v s ht st => goList ht st.1), ?_, ?_, (by first | exact ns rfl | exact nIt rfl | exact nAcc rfl | nofun), (by first | exact ns rfl | exact nIt rfl | exact nAcc rfl | nofun)⟩
  · obtain ⟨o, ho, hc, hd⟩ := st.1
    exact iter_sat ho hd (by rw [hc]; decide) (by rw [hc]; nofun) (by rw [hc]; decide)
  · obtain ⟨v', hv', hx'⟩ := hi.get hx
    rw [Array.getElem?_toList] at hv'
    rw [hp] at hv'; cases hv'; exact hx'
  · exact ⟨⟨_, Heap.get?_push_size _ rfl, rfl, rfl⟩, Heap.get?_push_of_some _ ho⟩
  · exact fp2 (Heap.get?_push_size _ rfl) (Heap.get?_push_of_some _ ho) (fun b hb => fresh_tab o1.gi hb) (o1.gi.notTab ho (fun vs e => by cases e))
end
end
section
open PySem PySem.Calls PyProof.Rows PySem.W PySem.Spec
section
variable {V : Wo} {k : Nat} {A : Around} {E : Value → Shared → Prop} {s : Shared} {a d : Addr}
theorem acc_method {first : Int} {l : List (List Nat × List Nat)} {nm : Str} {f : Addr} {pl : Sem Bool} {Q : Value × List Value → Shared → Prop} (X : AccFacts V) (g : GI V s) (hp : (PV.acc a d first l).is s.heap (.ref a))
    (hl : Looks (model prog V.w) V.h0 (typeLookup (.ref accCls) nm) (some (.ref f))) (hf : f ∈ ([38, 45, 53, 67, 74, 97] : List Addr)) (hn : nm ≠ ("_initial_size" : Str)) (h : Q (.ref f, [.ref a]) s) : wpAny (model prog V.w) A (getMethod (.ref a) nm pl) Q E s := by
  obtain ⟨vs, n, es, m, t, _, ho, hi, hd, hk, hfind⟩ := hp
  have hns : s.heap.Ns d (fun x => if x = ("_initial_size" : Str) then some (.int first t) else none) := ⟨_, es, m, hd, rfl, hk, hfind⟩
  unfold getMethod
  refine wpAny_bind ((acc_special X g ho X.ga).here ?_)
  have hc : (Manifest.canonical "list.__getattribute__" != "object.__getattribute__") = false := by decide +kernel
  dsimp only
  rw [hc]
  simp only [Bool.false_eq_true, if_false]
  refine wpAny_bind ((acc_special X g ho X.gn).here ?_)
  simp only [Option.isSome_none, Bool.false_eq_true, if_false]
  refine wpAny_bind ((acc_special X g ho hl).here ?_)
  dsimp only
  refine wpAny_bind (((X.fnT f hf).keeps g.keep).here ?_)
  have ht : (Value.type "function" != Value.type "function" && Value.type "function" != Value.type "method_descriptor" && Value.type "function" != Value.type "wrapper_descriptor") = false := by decide
  rw [ht]
  simp only [Bool.false_eq_true, if_false]
  refine wpAny_bind (wpAny_loadPart ho ?_)
  try dsimp only [accObj]
  refine wpAny_bind (wpAny_nsGet hns ?_)
  rw [if_neg hn]
  simp only [Option.isSome_none, Bool.false_eq_true, if_false]
  exact wpAny_bind (wpAny_rule (wpAny_pure h))
theorem acc_methodB {first : Int} {l : List (List Nat × List Nat)} {nm : Str} {id : String} {pl : Sem Bool} {Q : Value × List Value → Shared → Prop} (X : AccFacts V) (g : GI V s) (hp : (PV.acc a d first l).is s.heap (.ref a))
    (hl : Looks (model prog V.w) V.h0 (typeLookup (.ref accCls) nm) (some (.builtin id))) (hf : typeOf (.builtin id) = pure (.type "method_descriptor")) (hn : nm ≠ ("_initial_size" : Str)) (h : Q (.builtin id, [.ref a]) s) : wpAny (model prog V.w) A (getMethod (.ref a) nm pl) Q E s := by
  obtain ⟨vs, n, es, m, t, _, ho, hi, hd, hk, hfind⟩ := hp
  have hns : s.heap.Ns d (fun x => if x = ("_initial_size" : Str) then some (.int first t) else none) := ⟨_, es, m, hd, rfl, hk, hfind⟩
  unfold getMethod
  refine wpAny_bind ((acc_special X g ho X.ga).here ?_)
  have hc : (Manifest.canonical "list.__getattribute__" != "object.__getattribute__") = false := by decide +kernel
  dsimp only
  rw [hc]
  simp only [Bool.false_eq_true, if_false]
  refine wpAny_bind ((acc_special X g ho X.gn).here ?_)
  simp only [Option.isSome_none, Bool.false_eq_true, if_false]
  refine wpAny_bind ((acc_special X g ho hl).here ?_)
  dsimp only
  rw [hf]
  refine wpAny_bind (wpAny_pure ?_)
  have ht : (Value.type "method_descriptor" != Value.type "function" && Value.type "method_descriptor" != Value.type "method_descriptor" && Value.type "method_descriptor" != Value.type "wrapper_descriptor") = false := by decide
  rw [ht]
  simp only [Bool.false_eq_true, if_false]
  refine wpAny_bind (wpAny_loadPart ho ?_)
  try dsimp only [accObj]
  refine wpAny_bind (wpAny_nsGet hns ?_)
  rw [if_neg hn]
  simp only [Option.isSome_none, Bool.false_eq_true, if_false]
  exact wpAny_bind (wpAny_rule (wpAny_pure h))
end
end
section
open PySem PySem.Calls PyProof.Rows PySem.W PySem.Spec
section
variable {V : Wo} {k : Nat} {A : Around} {E : Value → Shared → Prop} {s : Shared} {a d : Addr}
theorem acc_append {vs : Array Value} {n : Nat} {x : Value} {Q : Value → Shared → Prop} (X : AccFacts V) (g : GI V s) (ho : s.heap.get? a = some (accObj d vs n)) (hsz : vs.size ≤ 1000000)
    (hQ : ∀ h' n', h'.get? a = some (accObj d (vs.push x) n') → Heap.SameBut a s.heap h' → Q .none { s with heap := h' }) : wpAny (model prog V.w) A (call (.builtin "list.append") [.ref a, x]) Q E s := by
  refine acc_call X g ho (m := "append") (by decide +kernel) (by first | exact .inl (by decide +kernel) | exact .inr (by decide +kernel)) PySem.F.slot_list_append.plain PySem.F.entry_list_append (PySem.F.args_list_append_2 _ _) ?_
  show wpAny _ _ (updateSeq a (·.push x) >>= fun _ => ret .none) _ _ s
  refine wpAny_bind ?_
  have e := Heap.get?_update_self (Obj.mapSeq (·.push x)) ho rfl
  have hs : vs.size ≤ sizeLine := by rw [sizeLine_eq]; (first | lia | omega)
  refine wpAny_updateSeq ho rfl (wpAny_pure ⟨.none, rfl, hQ _ _ e (Heap.SameBut.update ..)⟩) hs (by show (vs.push x).size ≤ sizeLine + 1; rw [Array.size_push]; (first | lia | omega))
end
end
section
open PySem PySem.Calls PyProof.Rows PySem.W PySem.Spec
section
variable {prog : Program} {w : World} {A : Around} {E : Value → Shared → Prop} {s : Shared} {env : Env}
theorem wp_callMethod {o : Expr} {name : Str} {apos pos : Pos} {args : List Expr} {Q : Value → Shared → Prop} (hbase : attributeBase o name env (eval o env) = eval o env)
    (hfew : ((backTo pos (starEach args env)).all (fun x => !x.1) && (backToKw pos (keywordEach [] env)).all (fun x => x.1.isSome) && decide (args.length + ([] : List Keyword).length + (if ([] : List Keyword).isEmpty then 0 else 1) < 30)) = true)
    (hline : (apos.endLine == pos.line) = true)
    (h : wpAny (model prog w) A (eval o env) (fun ov s₁ => ∀ pl, wpAny (model prog w) A (getMethod ov name pl) (fun gm s₂ => wpAny (model prog w) A (callWith pos gm.1 gm.2 (backTo pos (starEach args env)) []) Q E s₂) E s₁) E s) :
    wpAny (model prog w) A (eval (.Call (.Attribute o name apos) args [] pos) env) Q E s := by
  rw [arm_eval_Call, hbase]
  refine wpAny_bind (wpAny_mono h (fun ov s₁ h₁ => ?_) fun _ _ e => e)
  refine wpAny_bind (wpAny_standAt ?_)
  have hform : methodCallForm (args.length + ([] : List Keyword).length) (backTo pos (starEach args env)) (backToKw pos (keywordEach [] env)) = true := hfew
  have hpos : methodCallPos true o env apos pos = pure pos := by unfold methodCallPos; simp [hline]
  unfold methodCall
  rw [hform]
  refine wpAny_bind (wpAny_holding (wpAny_mono (h₁ _) (fun gm s₂ h₂ => ?_) fun _ _ e => e))
  exact wpAny_bind (wpAny_of_eq hpos h₂)
end
end
section
open PySem PySem.Calls PyProof.Rows PySem.W PySem.Spec
section
variable {V : Wo} {k : Nat} {K : List (Str × NameKind)} {ρ : Vars} {W : List Addr} {Φr : Vars → PV → Prop}
noncomputable def CWV (V : Wo) (k : Nat) (fv : Value) (ps : List PV) (a : Addr) (p p' : PV) : Prop :=
  ∀ (A : Around) (s : Shared) (vs : List Value), Fit A k → GI V s → V.h0.get? a = none → p.is s.heap (.ref a) → PVs s.heap ps vs →
    wpAny (model prog V.w) A (call fv (.ref a :: vs)) (fun v s' => v = .none ∧ Mo V [a] s s' ∧ p'.is s'.heap (.ref a)) No s
theorem St1.methA {x : Str} {xp apos pos spos : Pos} {name : Str} {fv : Value} {a d : Addr} {first : Int} {l l' : List (List Nat × List Nat)} {args : List Expr} {ps : List PV} (hx : ρ x = some (.acc a d first l))
    (hm : ∀ (A : Around) (s : Shared) (pl : Sem Bool) (Q : Value × List Value → Shared → Prop), GI V s → (PV.acc a d first l).is s.heap (.ref a) → Q (fv, [.ref a]) s → wpAny (model prog V.w) A (getMethod (.ref a) name pl) Q No s)
    (hk : Kept V fv) (ha : EVs V k K ρ args ps) (hW : ∀ b ∈ W, V.h0.get? b = none)
    (hc : CWV V k fv ps a (.acc a d first l) (.acc a d first l')) (hl : args.length < 25 := by decide) (hline : (apos.endLine == pos.line) = true := by rfl) (hd : (x == ("__debug__" : Str)) = false := by decide) (hn : (x == ("__classdict__" : Str)) = false := by decide)
    (hb : ∀ env, attributeBase (.Name x xp) name env (eval (.Name x xp) env) = eval (.Name x xp) env := by intro _; rfl) :
    St1 V k K W ρ (.Expr (.Call (.Attribute (.Name x xp) name apos) args [] pos) spos) (fun ρ' => ρ' = up ρ x (.acc a d first l')) Φr := fun A env s₀ s F g Fx => by
  refine wpAny_Expr ?_ (by unfold interactive; rw [Fx.renv.kind]; rfl)
  refine wp_callMethod (hb env) ?_ hline ?_
  · have := ha.plainAll env pos
    simp only [this, Bool.true_and]
    show (true && decide (args.length + 0 + 0 < 30)) = true
    simp; (first | lia | omega)
  obtain ⟨v, hlk, hv⟩ := Fx.vars hx
  have hv' := hv
  obtain ⟨vs0, n, rfl, ho, hi⟩ := PV.isAcc hv'
  refine wp_name Fx.renv.kind hlk (fun pl => hm A s pl _ Fx.gi hv ?_) hd hn
  refine wp_callWith (ha.plain env pos) hk (wp_args pos ha F Fx.gi Fx.renv fun vs s2 o hps => ⟨o.gi, ?_⟩)
  have F1 := Fx.after o
  refine wpAny_mono (hc A s2 vs F o.gi (Fx.ownH0 g hW hx rfl) (o.pv Fx.gi hv) hps) (fun v s3 h => ?_) fun _ _ x => x
  obtain ⟨rfl, m, hp⟩ := h
  exact ⟨_, rfl, F1.write hx rfl m hp rfl (fun b d' f' l'' e => by cases e; exact F1.acc x _ _ _ _ hx), (Mv.ok o).trans (Mv.write hx rfl rfl m) o.gi⟩
end
end
section
open PySem PySem.Calls PyProof.Rows PySem.W PySem.Spec
section
variable {V : Wo} {k : Nat} {s s1 : Shared} {ps : List PV} {vs : List Value} {names : List Str} {fd : FuncData} {a : Addr} {W : List Addr}
theorem call_cellsB {prog : Program} {w : World} {A : Around} {R : Result → Shared → Prop} {a : Addr} {o : Obj} {fd : FuncData} {body : List Stmt} {vals : List Value} {binds : List (Str × Value)}
    (hroom : A.depth < recursionLimit) (ho : s.heap.get? a = some o) (hdata : o.data = .func fd) (hlim : s.heap.NoLimit) (hcd : s.heap.CodeRec fd.code fd.qualname)
    (hbody : fd.body = .stmts body) (hbind : BindsTo s fd ⟨vals, []⟩ binds) (hclo : fd.closure = [])
    (hkind : ∀ x ∈ binds, fd.scope.names.lookup x.1 = some .local ∨ (fd.scope.names.lookup x.1 = some .cell ∧ ((cellsFrom (s.heap.objs.size + 1) fd.scope.names []).lookup x.1).isSome = true))
    (h : ∀ s₁, InCallC s (callEnvC fd s.heap.objs.size a).locals (bindL (callEnvC fd s.heap.objs.size a).kindOf binds fun _ => none) (callEnvC fd s.heap.objs.size a).cells
        (bindC (callEnvC fd s.heap.objs.size a).kindOf binds fun _ => none) s₁ →
      wpAny (model prog w) (A.deeper (callEnvC fd s.heap.objs.size a)) (execs body (callEnvC fd s.heap.objs.size a)) (fun f s' => R (.ok (.ret (match f with | .ret v => v | _ => .none))) s')
        (fun e s' => wpAny (model prog w) (A.deeper (callEnvC fd s.heap.objs.size a)) (leaving (callEnvC fd s.heap.objs.size a) e) (fun _ s'' => R (.error e) s'') (fun e' s'' => R (.error e') s'') s') s₁)
    (hco : fd.scope.isCoroutine = false := by rfl) (hgen : fd.scope.isGenerator = false := by rfl) (hk : fd.scope.kind = .function := by rfl) :
    codeAny (model prog w) A (.call (.ref a) ⟨vals, []⟩) R s := by
  refine codeAny_call_function hroom ho hdata hco hgen hbody hcd (hbind _ _ _ _ ?_)
  rw [hclo]
  refine wpAny_newFunctionEnv_cells hk hkind fun env he s' x => ?_
  subst he
  exact ⟨hlim.keeps x.toInCall.keep, codeAny_func (h s' x)⟩

theorem Fr.enterW (g : GI V s) (hk : fd.scope.kind = .function) (hg : fd.globals = mainGlobals) (hb : fd.builtins = builtinsNs) (hnd : names.Nodup) (hlen : names.length = vs.length) (hm : ∀ x ∈ names, Mine fd.scope.names x) (hp : PVs s.heap ps vs)
    (haW : ∀ x p a, ini names ps x = some p → p.addr = some a → a ∈ W) (huq : ∀ x y p q a, ini names ps x = some p → ini names ps y = some q → p.addr = some a → q.addr = some a → x = y)
    (hl : ∀ x p a, ini names ps x = some p → p.addr = some a → ∀ y l, ini names ps y ≠ some (.list l)) (hwex : ∀ a ∈ W, ∃ o, s.heap.get? a = some o ∧ o.cls ≠ .type "tuple" ∧ o.cls ≠ .none)
    (x : InCallC s (callEnvC fd s.heap.objs.size a).locals (bindL (callEnvC fd s.heap.objs.size a).kindOf (names.zip vs) fun _ => none) (callEnvC fd s.heap.objs.size a).cells (bindC (callEnvC fd s.heap.objs.size a).kindOf (names.zip vs) fun _ => none) s1) :
    Fr V fd.scope.names (callEnvC fd s.heap.objs.size a) s W (ini names ps) s1 := by
  have o1 : Ok V s s1 := by
    obtain ⟨h, tk, rfl⟩ := x.toInCall.same
    exact Ok.grow g x.toInCall.keep
  have hL : s.heap.get? (callEnvC fd s.heap.objs.size a).locals = none := fresh_none x.toInCall.fresh
  have hnm : ((names.zip vs).map (·.1)).Nodup := by
    have : (names.zip vs).map (·.1) = names := by rw [List.map_fst_zip]; (first | lia | omega)
    rw [this]; exact hnd
  refine ⟨o1.mo, ⟨hk, rfl, hg, hb, fun y p hy => ?_⟩, hL, ⟨_, x.toInCall.ns⟩, fun y hy => ?_, fun y z c hc hc' => name_of_addr x.apart (mem_of_lookup hc) (mem_of_lookup hc'), fun y b d f l hy => ?_, fun y p b hy hb => .inl (haW y p b hy hb), fun y z p q b hy hz hpb hqb => huq y z p q b hy hz hpb hqb, fun y p b hy hpb z l v hz => absurd hz (hl y p b hy hpb z l), fun b hb => ?_⟩
  · obtain ⟨v, hv, hpv⟩ := zip_mem hp hy
    have hyn : y ∈ names := (List.of_mem_zip hv).1
    refine ⟨v, ?_, o1.pv g hpv⟩
    rcases hm y hyn with hl | hl
    · have hk' : (callEnvC fd s.heap.objs.size a).kindOf y = some .local := hl
      exact .inl ⟨hk', _, x.toInCall.ns, bindL_at hk' _ _ hnm hv⟩
    · have hk' : (callEnvC fd s.heap.objs.size a).kindOf y = some .cell := hl
      have hc := cellsFrom_has (x := y) fd.scope.names (s.heap.objs.size + 1) [] (.inl (mem_of_lookup hl))
      obtain ⟨c, hc⟩ := Option.isSome_iff_exists.mp hc
      have hcell := x.cell y c hc
      rw [bindC_at (by rw [hk']; decide) _ _ hnm hv] at hcell
      exact .inr ⟨.inl hk', c, hc, hcell⟩
  · have hc := cellsFrom_has (x := y) fd.scope.names (s.heap.objs.size + 1) [] (.inl (mem_of_lookup hy))
    obtain ⟨c, hc⟩ := Option.isSome_iff_exists.mp hc
    refine ⟨c, hc, fresh_none ?_, _, x.cell y c hc⟩
    have := x.above y c (mem_of_lookup hc)
    have h2 := x.toInCall.fresh
    exact Nat.le_of_lt (Nat.lt_of_le_of_lt h2 this)
  · obtain ⟨v, hv, hpv⟩ := zip_mem hp hy
    obtain ⟨vs', n, es, m, t, _, _, _, hdd, _⟩ := hpv
    exact ⟨fun e => (by rw [e, hL] at hdd; cases hdd), .inl (haW y _ b hy rfl)⟩
  · obtain ⟨o, e, c1, c2⟩ := hwex b hb
    exact ⟨⟨o, e⟩, o, o1.atC g e c2, c1, c2⟩

noncomputable def CWr (V : Wo) (k : Nat) (fv : Value) (ps : List PV) (a : Addr) (p p' r : PV) : Prop :=
  ∀ (A : Around) (s : Shared) (vs : List Value), Fit A k → GI V s → V.h0.get? a = none → p.is s.heap (.ref a) → PVs s.heap ps vs →
    wpAny (model prog V.w) A (call fv (.ref a :: vs)) (fun v s' => r.is s'.heap v ∧ Mo V [a] s s' ∧ p'.is s'.heap (.ref a) ∧ Fresh s v r) No s
theorem CWr.toV {fv : Value} {p p' : PV} (h : CWr V k fv ps a p p' (.it (.at .none))) : CWV V k fv ps a p p' := fun A s vs F g h0 hp hps =>
  wpAny_mono (h A s vs F g h0 hp hps) (fun v s' x => ⟨x.1, x.2.1, x.2.2.1⟩) fun _ _ x => x
theorem CWr.mono {k' : Nat} {fv : Value} {p p' r : PV} (h : CWr V k fv ps a p p' r) (hk : k ≤ k') : CWr V k' fv ps a p p' r := fun A s vs F => h A s vs (F.mono hk)
theorem CWr.fn {sr : Option (Arguments × List Stmt × Scope)} {n q : Str} {fa c : Addr} {dV : Value} {params : Arguments} {body : List Stmt} {scope : Scope} {self : Str} {p p' r : PV} {ps' : List PV} (h : FnAt V.h0 sr n q fa c [] dV) (hsr : sr = some (params, body, scope)) (hnd : (self :: names).Nodup) (hlen : names.length = ps'.length)
    (hm : ∀ x ∈ self :: names, Mine scope.names x) (hpa : p.addr = some a) (hpa' : p'.addr = some a) (hin : ∀ q ∈ ps', q.addr = none ∧ ∀ l, q ≠ .list l)
    (hbind : ∀ (fd : FuncData) (s : Shared) (v : Value) (vs : List Value), fd.params = params → fd.defaults = dV → GI V s → PVs s.heap ps vs → ∃ vs', PVs s.heap ps' vs' ∧ BindsTo s fd ⟨v :: vs, []⟩ ((self :: names).zip (v :: vs')))
    (hbody : V.h0.get? a = none → Bk V k scope.names [a] (ini (self :: names) (p :: ps')) body (fun ρ' => r = .it (.at .none) ∧ ρ' self = some p') (fun ρ' r' => r' = r ∧ ρ' self = some p'))
    (hk : scope.kind = .function := by rfl) (hco : scope.isCoroutine = false := by rfl) (hgen : scope.isGenerator = false := by rfl) : CWr V (k + 1) (.ref fa) ps a p p' r := fun A s vs F g h0 hp hps => by
  obtain ⟨fd, ho, hn, hq, hs, ⟨b, hb⟩, hcl, hgl, hbl, hdf, hkd, hcode⟩ := h.obj
  have e := hsr.symm.trans hs
  simp only [Option.some.injEq, Prod.mk.injEq] at e
  obtain ⟨ep, eb, es⟩ := e
  rw [hb] at eb
  have eb : body = b := eb
  subst eb
  obtain ⟨vs', hps', hbd⟩ := hbind fd s (.ref a) vs ep.symm hdf g hps
  obtain ⟨_, o, ws, nn, hao, had, hc1, hc2, hc3⟩ := PV.addr_is hpa hp
  have hpp : PVs s.heap (p :: ps') (.ref a :: vs') := ⟨_, _, rfl, hp, hps'⟩
  have hmem : ∀ x q, ini (self :: names) (p :: ps') x = some q → (x = self ∧ q = p) ∨ q ∈ ps' := fun x q hx => by
    unfold ini at hx
    rw [List.zip_cons_cons, List.lookup_cons] at hx
    by_cases e : (x == self) = true
    · rw [e] at hx; cases hx; exact .inl ⟨beq_iff_eq.mp e, rfl⟩
    · rw [show (x == self) = false by simpa using e] at hx; exact .inr (List.of_mem_zip (mem_of_lookup hx)).2
  refine wpAny_call (call_cellsB F.room (g.keep _ _ ho) rfl (g.ok.nolimit.keeps g.keep) ((by rw [hcode, hq]; exact h.code.keeps g.keep)) hb hbd hcl (fun x hx => ?_) (fun s₁ hs₁ => ?_) (es ▸ hco) (es ▸ hgen) (es ▸ hk))
  · have hxn := (List.of_mem_zip (a := x.1) (b := x.2) hx).1
    rw [← es]
    rcases hm x.1 hxn with h' | h'
    · exact .inl h'
    · exact .inr ⟨h', cellsFrom_has _ _ _ (.inl (mem_of_lookup h'))⟩
  · have Fx := Fr.enterW (W := [a]) g (es ▸ hk) hgl hbl hnd (by rw [List.length_cons, List.length_cons, hlen, hps'.length]) (by rw [← es]; exact hm) hpp
      (fun x q b hx hb => by
        rcases hmem x q hx with ⟨_, rfl⟩ | hq
        · rw [hpa] at hb; cases hb; simp
        · rw [(hin q hq).1] at hb; cases hb)
      (fun x y q1 q2 b hx hy h1 h2 => by
        rcases hmem x q1 hx with ⟨rfl, rfl⟩ | hq
        · rcases hmem y q2 hy with ⟨rfl, rfl⟩ | hq
          · rfl
          · rw [(hin q2 hq).1] at h2; cases h2
        · rw [(hin q1 hq).1] at h1; cases h1)
      (fun x q b hx hb y l hy => by
        rcases hmem y _ hy with ⟨_, e⟩ | hq
        · rw [← e] at hpa; cases hpa
        · exact (hin _ hq).2 l rfl)
      (fun b hb => by rw [List.mem_singleton] at hb; subst hb; exact ⟨o, hao, hc1, hc3⟩) hs₁
    rw [← es] at Fx
    have fin : ∀ {ρ'' s'}, ρ'' self = some p' → Fr V scope.names (callEnvC fd s.heap.objs.size fa) s [a] ρ'' s' → p'.is s'.heap (.ref a) := fun {ρ'' s'} hx F' => by
      obtain ⟨u, _, hu⟩ := F'.vars hx
      have := (PV.addr_is hpa' hu).1
      subst this
      exact hu
    refine wpAny_mono (hbody h0 (A.deeper (callEnvC fd s.heap.objs.size fa)) _ s s₁ (F.deeper _) g Fx) (fun fl s' x => ?_) fun _ _ x => x.elim
    cases fl with
    | next =>
      obtain ⟨ρ', ⟨rfl, hx⟩, F', _⟩ := x
      exact ⟨rfl, F'.mo, fin hx F', Fresh.it⟩
    | brk => exact x.elim
    | cont => exact x.elim
    | ret v =>
      obtain ⟨ρ', q, ⟨rfl, hx⟩, F', hr, hf⟩ := x
      exact ⟨hr, F'.mo, fin hx F', hf⟩
end

structure AccFns (V : Wo) : Prop where
  push : FnAt V.h0 (srcIn accBody "push") "push" "_Accumulator.push" 45 44 [] .none
  popFrom : FnAt V.h0 (srcIn accBody "pop_from") "pop_from" "_Accumulator.pop_from" 53 52 [] (.ref 46)
  zero : ∃ t, V.h0.IsTuple 46 #[.int 0 t]
  len : FnAt V.h0 (srcIn accBody "__len__") "__len__" "_Accumulator.__len__" 67 66 [] .none
  str : FnAt V.h0 (srcIn accBody "__str__") "__str__" "_Accumulator.__str__" 74 73 [] .none

section
variable {V : Wo} {k : Nat}
theorem CWV.append {a d : Addr} {first : Int} {l : List (List Nat × List Nat)} {x : List Nat × List Nat} (X : AccFacts V) (hl : l.length < 1000000) : CWV V k (.builtin "list.append") [.it (.tup [.str x.1, .str x.2])] a (.acc a d first l) (.acc a d first (l ++ [x])) := fun A s vs F g h0 hp hps => by
  obtain ⟨v, rfl, hv⟩ := hps.one
  obtain ⟨ws, n, es, m, t, _, ho, hi, hd, hk, hf⟩ := hp
  have e : ws.size = l.length := by have := hi.length; simpa [accItems] using this
  refine acc_append X g ho (by (first | lia | omega)) fun h' n' ho' hs => ?_
  have mo : Mo V [a] s { s with heap := h' } := Mo.of (tk := s.toks) g (fun b hb => by
    rw [List.mem_singleton] at hb; subst hb
    exact ⟨h0, fun o e' => .inr fun ws h => by rw [ho] at e'; cases e'; cases h⟩) fun b o hb e' => hs.extBut b o (fun h => hb (by rw [h]; simp)) e'
  have nt : ∀ b ∈ [a], NT s.heap b := fun b hb => by
    rw [List.mem_singleton] at hb; subst hb
    intro o e' hc; rw [ho] at e'; cases e'; exact absurd hc (by show ¬ Value.ref _ = Value.type _; nofun)
  have hda : d ≠ a := fun h => by rw [h, ho] at hd; cases hd
  refine ⟨rfl, mo, ws.push v, n', es, m, t, rfl, ho', ?_, hs.extBut _ _ hda hd, hk, hf⟩
  rw [Array.toList_push, show accItems (l ++ [x]) = accItems l ++ [.tup [.str x.1, .str x.2]] by simp [accItems]]
  exact (mo.its g nt hi).snoc (mo.it g nt hv)
theorem push_cl {a d : Addr} {first : Int} {l : List (List Nat × List Nat)} {u v : List Nat} (X : AccFacts V) (Y : AccFns V) (hl : l.length < 1000000) : CWr V (k + 1) (.ref 45) [S u, S v] a (.acc a d first l) (.acc a d first (l ++ [(u, v)])) (.it (.at .none)) := by
  refine CWr.fn (self := "self") (names := ["fws", "string"]) (ps' := [S u, S v]) Y.push rfl (by decide) rfl (mineAll (by decide)) rfl rfl (by simp [PV.addr]) (fun fd s v vs hp hd g hps => ⟨vs, hps, ?_⟩) fun h0 => ?_
  · have := hps.length
    obtain ⟨v1, v2, rfl⟩ := two_of this
    exact .of_eq (bind3 hp hd (by decide) (by decide) (by decide))
  · refine Bk.step (St1.methA (x := "self") rfl (fun A s pl Q g hp h => acc_methodB X g hp (X.own "append" "list.append" (by simp)) rfl (by decide) h) Kept.builtin (.cons (by first | exact ns rfl | exact nIt rfl | exact nAcc rfl | nofun) (EV.tup (l := [.str u, .str v]) (.cons (by first | exact ns rfl | exact nIt rfl | exact nAcc rfl | nofun) (by trivial) (.cons (by first | exact ns rfl | exact nIt rfl | exact nAcc rfl | nofun) (by trivial) .nil)) (by simp)) .nil) (by simpa using h0) (CWV.append (x := (u, v)) X hl)) (Bk.nil ⟨rfl, rfl⟩)
end
end
section
open PySem PySem.Calls PyProof.Rows PySem.W PySem.Spec
section
variable {V : Wo} {k : Nat} {A : Around} {E : Value → Shared → Prop} {s : Shared} {a d : Addr} {vs : Array Value} {n : Nat}
noncomputable def AccSeq (V : Wo) : Prop := Looks (model prog V.w) V.h0 (seqItemTypes.anyM fun n => isSubtype (.ref accCls) (.type n)) false
theorem acc_seqKey (Z : AccSeq V) (g : GI V s) (ho : s.heap.get? a = some (accObj d vs n)) {i : Value} {nm : Str} {Q : Value → Shared → Prop} (h : Q i s) : wpAny (model prog V.w) A (sequenceKey (.ref a) i nm) Q E s := by
  unfold sequenceKey
  refine wpAny_bind ((acc_type ho).here ?_)
  refine wpAny_bind ((Z.keeps g.keep).here ?_)
  rw [if_pos (show (!false) = true from rfl)]
  exact wpAny_pure h
theorem acc_callSpecial (X : AccFacts V) (g : GI V s) (ho : s.heap.get? a = some (accObj d vs n)) {nm : Str} {id : String} {args : List Value} {Q : Option Value → Shared → Prop} (hl : Looks (model prog V.w) V.h0 (typeLookup (.ref accCls) nm) (some (.builtin id))) (hb : ∀ self, bindSpecial (.builtin id) self = pure (.builtin id, [self]))
    (hc : wpAny (model prog V.w) A (call (.builtin id) (.ref a :: args)) (fun v => Q (some v)) E s) : wpAny (model prog V.w) A (callSpecial? (.ref a) nm args) Q E s := by
  simp only [callSpecial?]
  refine wpAny_bind ((acc_special X g ho hl).here ?_)
  simp only [hb]
  exact wpAny_holding (wpAny_bind (wpAny_pure (wpAny_bind (wpAny_mono hc (fun v s' h' => wpAny_pure h') fun _ _ h' => h'))))
theorem acc_getSlice {sl : Addr} {vl vu vk : Value} {lo hi st : Option Int} {Q : Value → Shared → Prop} (X : AccFacts V) (Z : AccSeq V) (g : GI V s) (ho : s.heap.get? a = some (accObj d vs n))
    (hs : s.heap.IsSliceOf sl vl vu vk) (pl : IsPart vl lo) (pu : IsPart vu hi) (ps : IsPart vk st) (h0 : st ≠ some 0)
    (h : Q (.ref s.heap.objs.size) { s with heap := s.heap.push { cls := .type "list", data := .seq (slicePick vs lo hi st) } })
    (hsz : vs.size ≤ sizeLine) : wpAny (model prog V.w) A (getItem (.ref a) (.ref sl)) Q E s := by
  obtain ⟨os, hos, hcs, hds⟩ := id hs
  have hTs : s.TypeIs (.ref sl) "slice" := ⟨os, hos, hcs⟩
  unfold getItem
  try with_reducible refine wpAny_holding ?_
  refine wpAny_bind (acc_seqKey Z g ho ?_)
  refine wpAny_bind (acc_callSpecial X g ho (X.own "__getitem__" "list.__getitem__" (by simp)) slot_list_getitem.bind ?_)
  refine acc_call X g ho (m := "__getitem__") (by decide +kernel) (by first | exact .inl (by decide +kernel) | exact .inr (by decide +kernel)) slot_list_getitem.plain entry_list_getitem (args_list_getitem _ _) ?_
  show wpAny _ _ (Builtin.List.listSubscript? (.ref sl) >>= _) _ _ s
  refine wpAny_bind ?_
  · unfold Builtin.List.listSubscript?
    refine wpAny_bind (wpAny_specialOf hTs slice_no_index ?_)
    simp only [Option.isNone_none, if_true]
    refine wpAny_pure ?_
    show wpAny _ _ (typeOf (.ref sl) >>= _) _ _ s
    refine wpAny_bind (wpAny_typeOf hTs ?_)
    rw [if_neg (by decide)]
    rw [listSliceParts_eq]
    have hstep : ¬ ((rawPart st == rawInt 0) = true) := by
      cases st with
      | none => exact Bool.false_ne_true
      | some c =>
        intro hh
        have : c = 0 := by simpa [rawPart, rawInt] using hh
        exact h0 (by rw [this])
    refine wpAny_bind (wpAny_bind (wpAny_field hos hds (x := vk) rfl (wpAny_bind (wpAny_listPart ps ?_))))
    rw [if_neg hstep]
    refine wpAny_bind (wpAny_field hos hds (x := vl) rfl (wpAny_bind (wpAny_listPart pl ?_)))
    refine wpAny_bind (wpAny_field hos hds (x := vu) rfl (wpAny_bind (wpAny_listPart pu (wpAny_pure ?_))))
    refine wpAny_bind (m := Builtin.List.listItems (.ref a)) ?_
    · unfold Builtin.List.listItems
      refine wpAny_bind (wpAny_seqItems ho rfl (wpAny_pure ?_))
      refine wpAny_bind (wpAny_of_eq (sliceIndices_raw lo hi st vs.size h0) ?_)
      refine wpAny_bind (wpAny_newObj_type (wpAny_pure ⟨_, rfl, wpAny_pure h⟩) (Nat.le_trans (slicePick_size_le vs lo hi st) hsz))

theorem wp_listItems {b : Addr} {o : Obj} {xs : Array Value} {m : Nat} {Q : Array Value → Shared → Prop} (ho : s.heap.get? b = some o) (hd : o.data = .seq xs m) (h : Q xs s) : wpAny (model prog V.w) A (Builtin.List.listItems (.ref b)) Q E s := by
  unfold Builtin.List.listItems
  exact wpAny_bind (wpAny_seqItems ho hd (wpAny_pure h))
theorem wp_listAll {b : Addr} {xs : Array Value} {m : Nat} {msg : String} {Q : Array Value → Shared → Prop} (he : s.heap.get? b = some { cls := .type "list", data := .seq xs m }) (h : Q xs s) : wpAny (model prog V.w) A (Builtin.List.listAllItems (.ref b) msg) Q E s := by
  unfold Builtin.List.listAllItems
  refine wpAny_bind (wpAny_typeOf (T := "list") ⟨_, he, rfl⟩ ?_)
  rw [if_pos (by decide)]
  exact wp_listItems he rfl h
theorem acc_cutSlice {sl e : Addr} {u : Tok} {i ne : Nat} {Q : Unit → Shared → Prop} (X : AccFacts V) (Z : AccSeq V) (g : GI V s) (ho : s.heap.get? a = some (accObj d vs n))
    (hs : s.heap.IsSliceOf sl (.int i u) .none .none) (he : s.heap.get? e = some { cls := .type "list", data := .seq #[] ne }) (hsz : vs.size < 1000000)
    (h : Q () { s with heap := s.heap.update a (Obj.mapSeq fun xs => xs.extract 0 (min i vs.size) ++ #[] ++ xs.extract vs.size xs.size) }) : wpAny (model prog V.w) A (setItem (.ref a) (.ref sl) (.ref e)) Q E s := by
  obtain ⟨os, hos, hcs, hds⟩ := id hs
  have hTs : s.TypeIs (.ref sl) "slice" := ⟨os, hos, hcs⟩
  have hTe : s.TypeIs (.ref e) "list" := ⟨_, he, rfl⟩
  have hae : a ≠ e := fun h => by rw [h, he] at ho; cases ho
  unfold setItem
  try with_reducible refine wpAny_holding ?_
  refine wpAny_bind (acc_seqKey Z g ho ?_)
  refine wpAny_bind (acc_callSpecial X g ho (X.own "__setitem__" "list.__setitem__" (by simp)) slot_list_setitem.bind ?_)
  refine acc_call X g ho (m := "__setitem__") (by decide +kernel) (by first | exact .inl (by decide +kernel) | exact .inr (by decide +kernel)) slot_list_setitem.plain entry_list_setitem (args_list_setitem _ _ _) ?_
  show wpAny _ _ (Builtin.List.listSubscript? (.ref sl) >>= _) _ _ s
  refine wpAny_bind ?_
  unfold Builtin.List.listSubscript?
  refine wpAny_bind (wpAny_specialOf hTs slice_no_index ?_)
  simp only [Option.isNone_none, if_true]
  refine wpAny_pure ?_
  show wpAny _ _ (typeOf (.ref sl) >>= _) _ _ s
  refine wpAny_bind (wpAny_typeOf hTs ?_)
  rw [if_neg (by decide)]
  rw [listSliceParts_eq]
  have hstep : ¬ ((rawPart Option.none == rawInt 0) = true) := Bool.false_ne_true
  refine wpAny_bind (wpAny_bind (wpAny_field hos hds (x := .none) rfl (wpAny_bind (wpAny_listPart .none ?_))))
  rw [if_neg hstep]
  refine wpAny_bind (wpAny_field hos hds (x := .int i u) rfl (wpAny_bind (wpAny_listPart (.int _ _) ?_)))
  refine wpAny_bind (wpAny_field hos hds (x := .none) rfl (wpAny_bind (wpAny_listPart .none (wpAny_pure ?_))))
  dsimp only
  rw [if_neg (by show ¬ ((a == e) = true); simpa using hae)]
  refine wpAny_bind (wp_listAll he ?_)
  refine wpAny_bind (wp_listItems ho rfl ?_)
  refine wpAny_bind (wpAny_of_eq (sliceIndices_raw (some (i : Int)) Option.none Option.none vs.size (by first | exact ns rfl | exact nIt rfl | exact nAcc rfl | nofun)) ?_)
  have hb : sliceBounds (some (i : Int)) none none vs.size = (((min i vs.size : Nat) : Int), (vs.size : Int), 1) := by
    simp only [sliceBounds, Option.getD_none]
    have h1 : ¬ ((i : Int) < 0) := Int.not_lt.mpr (Int.natCast_nonneg _)
    simp only [h1, if_false, show (1 : Int) > 0 by decide, if_true]
    rw [maxmin]
  rw [hb]
  dsimp only
  rw [if_pos (by decide)]
  refine wpAny_bind (wpAny_rule ?_)
  rw [if_neg (by show ¬ (Builtin.List.listTooLong (vs.size + 0) = true); unfold Builtin.List.listTooLong; rw [sizeLine_eq]; simp; (first | lia | omega))]
  unfold Builtin.List.listUpdate
  have hm : (max (((min i vs.size : Nat) : Int)) (vs.size : Int)).toNat = vs.size := maxN
  rw [hm, Int.toNat_natCast]
  have hs1 : (vs.extract 0 (min i vs.size) ++ #[] ++ vs.extract vs.size).size ≤ sizeLine + 1 := by
    rw [sizeLine_eq]; simp; (first | lia | omega)
  refine wpAny_bind (wpAny_updateSeq ho rfl (wpAny_bind (wpAny_letGo (wpAny_pure ⟨_, rfl, wpAny_pure h⟩))) (by rw [sizeLine_eq]; (first | lia | omega)) hs1)
theorem acc_subTail {value slice : Expr} {i : Value} {ops : List Value} {P : Value → Shared → Prop} (X : AccFacts V) (g : GI V s) (ho : s.heap.get? a = some (accObj d vs n))
    (hs : subscripted slice false (.ref a) i = operate ops (getItem (.ref a) i)) (h : wpAny (model prog V.w) A (getItem (.ref a) i) P No s) :
    wpAny (model prog V.w) A (subscriptTail value slice (.ref a) i) P No s := by
  unfold subscriptTail
  refine wpAny_bind ?_
  rw [getitemInPython_of_ne (by first | exact ns rfl | exact nIt rfl | exact nAcc rfl | nofun)]
  refine wpAny_bind ((acc_special X g ho (X.own "__getitem__" "list.__getitem__" (by simp))).here ?_)
  have fin : wpAny (model prog V.w) A (subscripted slice false (.ref a) i) (fun r s₃ => wpAny (model prog V.w) A (letTemporaryGo value (.ref a) r >>= fun _ => pure r) P No s₃) No s := by
    rw [hs]
    exact wpAny_operating (wpAny_mono h (fun r s₃ h₃ => wpAny_bind (wpAny_letTemporaryGo (wpAny_pure h₃))) fun _ _ x => x)
  first
    | exact wpAny_pure (wpAny_bind fin)
    | exact wpAny_bind (wpAny_pure (wpAny_bind fin))
    | exact wpAny_bind fin
end
section
variable {V : Wo} {k : Nat} {fr : Bool} {K : List (Str × NameKind)} {ρ : Vars} {W : List Addr} {Φr : Vars → PV → Prop}
theorem accItems_drop (l : List (List Nat × List Nat)) (i : Nat) : accItems (l.drop i) = (accItems l).drop i := by simp [accItems]
theorem accItems_take (l : List (List Nat × List Nat)) (i : Nat) : accItems (l.take i) = (accItems l).take i := by simp [accItems]
theorem ev_tailAcc {x : Str} {xp p pos : Pos} {ie : Expr} {a d : Addr} {first : Int} {l : List (List Nat × List Nat)} {i : Nat} (X : AccFacts V) (Z : AccSeq V) (hx : ρ x = some (.acc a d first l)) (hi : EV V k false K ρ ie (I i)) (hl : l.length < 1000000) (hd : (x == ("__debug__" : Str)) = false := by decide) (hn : (x == ("__classdict__" : Str)) = false := by decide) :
    EV V k fr K ρ (.Subscript (.Name x xp) (.Slice (some ie) none none p) pos) (.list (accItems (l.drop i))) := EV.weak fun A env s F g R => by
  rw [show Gv V A (eval (.Subscript (.Name x xp) (.Slice (some ie) none none p) pos) env) true (.list (accItems (l.drop i))) s = wpAny (model prog V.w) A (eval (.Subscript (.Name x xp) (.Slice (some ie) none none p) pos) env) _ _ s from rfl, eval_Subscript]
  obtain ⟨v, hlk, hv⟩ := R.vars x _ hx
  refine wpAny_bind (wp_name R.kind hlk (wpAny_bind (wpAny_holding ?_)) hd hn)
  show wpAny _ A (do
    let l ← valueOrNone (evalOpt (some ie) env)
    let u ← holding [l] (valueOrNone (evalOpt none env))
    let s ← holding [l, u] (valueOrNone (evalOpt none env))
    newFields "slice" [l, u, s]) _ _ s
  refine wpAny_bind (wpAny_mono ((EVo.some hi).wp F g R) (fun vl s₂ h₂ => ?_) fun _ _ x => x)
  refine wpAny_bind (wpAny_holding (wpAny_pure (wpAny_bind (wpAny_holding (wpAny_pure ?_)))))
  refine wpAny_newObj_type (T := "slice") (data := .fields #[vl, .none, .none]) (dict := Option.none) (wpAny_bind (wpAny_standAt ?_)) (by simp [sizeOk, sizeLine])
  have o45 : Ok V s₂ { s₂ with heap := s₂.heap.push { cls := .type "slice", dict := Option.none, data := .fields #[vl, .none, .none] } } := Ok.grow (s := s₂) (tk := s₂.toks) h₂.1.gi fun b o e => Heap.get?_push_of_some _ e
  have o15 := h₂.1.trans o45
  have hv2 := o15.pv g hv
  obtain ⟨vs, n, rfl, ho, hits⟩ := PV.isAcc hv2
  have e : vs.size = l.length := by have := hits.length; simpa [accItems] using this
  refine acc_subTail X o45.gi ho (ops := [.ref s₂.heap.objs.size, .ref a]) rfl ?_
  have hz : Its (s₂.heap.push { cls := .type "slice", dict := Option.none, data := .fields #[vl, .none, .none] }) (accItems (l.drop i)) (slicePick vs (some (i : Int)) none none).toList := by
    have e2 : vs.size = (accItems l).length := by have := hits.length; simpa using this
    have h1 : Its (s₂.heap.push { cls := .type "slice", dict := Option.none, data := .fields #[vl, .none, .none] }) (cut (accItems l) (some (i : Int)) none) (slicePick vs (some (i : Int)) none none).toList := by
      rw [slicePick_plain]
      unfold cut
      rw [e2, List.toList_toArray]
      exact (hits.drop _).take _
    rw [cut_from] at h1
    rw [accItems_drop]
    exact h1
  have nn := newL (s := { s₂ with heap := s₂.heap.push { cls := .type "slice", dict := Option.none, data := .fields #[vl, .none, .none] } }) (n := 0) o45.gi hz
  exact acc_getSlice X Z o45.gi ho (Heap.IsSliceOf.new _ _ _ _) h₂.2 .none .none (by first | exact ns rfl | exact nIt rfl | exact nAcc rfl | nofun) ⟨o15.trans nn.1, nn.2, fun _ => (freshNew).ok o15⟩ (by rw [sizeLine_eq]; (first | lia | omega))
theorem st_cutAcc {x : Str} {xp p sp lp pos : Pos} {ie : Expr} {a d : Addr} {first : Int} {l : List (List Nat × List Nat)} {i : Nat} (X : AccFacts V) (Z : AccSeq V) (hx : ρ x = some (.acc a d first l)) (hW : ∀ b ∈ W, V.h0.get? b = none) (hi : EV V k false K ρ ie (I i)) (hl : l.length < 1000000) (hd : (x == ("__debug__" : Str)) = false := by decide) (hn : (x == ("__classdict__" : Str)) = false := by decide) :
    St1 V k K W ρ (.Assign [.Subscript (.Name x xp) (.Slice (some ie) none none p) sp] (.List [] lp) pos) (fun ρ' => ρ' = up ρ x (.acc a d first (l.take i))) Φr := fun A env s₀ s F g Fx => by
  refine wpAny_Assign_Subscript (wpAny_mono ((EV.list (fr := true) (l := []) .nil (by simp)) A env s F Fx.gi Fx.renv) (fun v s1 h1 => ?_) fun _ _ x => x) (swaps_none rfl)
  obtain ⟨o1, hv1, _⟩ := h1
  obtain ⟨e, vse, ne, rfl, hev, hie⟩ := hv1
  have hie : vse.toList = [] := hie
  have hie : vse = #[] := Array.toList_inj.mp (by simpa using hie)
  subst hie
  have F1 := Fx.after o1
  obtain ⟨u, hl1, hu⟩ := F1.vars hx
  obtain ⟨_, _, rfl, _⟩ := PV.isAcc hu
  refine wp_name F1.renv.kind hl1 ?_ hd hn
  refine wpAny_Slice (wpAny_mono (hi A env s1 F F1.gi F1.renv) (fun iv s2 h2 => ?_) fun _ _ x => x)
  obtain ⟨o2, ⟨t, rfl⟩, _⟩ := h2
  refine wpAny_pure (wpAny_pure ?_)
  have o3 : Ok V s2 { s2 with heap := s2.heap.push { cls := .type "slice", data := .fields #[.int i t, .none, .none] } } := Ok.grow (s := s2) (tk := s2.toks) o2.gi fun b o e => Heap.get?_push_of_some _ e
  have o23 := o2.trans o3
  have F3 := F1.after o23
  have hu3 := o23.pv F1.gi hu
  obtain ⟨vs, n, es, m, tt, _, ho, hits, hdd, hk, hf⟩ := hu3
  have e2 : vs.size = l.length := by have := hits.length; simpa [accItems] using this
  have hev3 := o23.at o1.gi hev (by first | exact ns rfl | exact nIt rfl | exact nAcc rfl | nofun)
  refine acc_cutSlice X Z o3.gi ho (Heap.IsSliceOf.new _ _ _ _) hev3 (by (first | lia | omega)) ?_
  have hau := Heap.get?_update_self (Obj.mapSeq fun xs => xs.extract 0 (min i vs.size) ++ #[] ++ xs.extract vs.size xs.size) ho rfl
  have hs := Heap.SameBut.update (s2.heap.push { cls := .type "slice", data := .fields #[.int i t, .none, .none] }) a (Obj.mapSeq fun xs => xs.extract 0 (min i vs.size) ++ #[] ++ xs.extract vs.size xs.size)
  have ha0 := Fx.ownH0 g hW hx rfl
  have mo : Mo V [a] { s2 with heap := s2.heap.push { cls := .type "slice", data := .fields #[.int i t, .none, .none] } } { s2 with heap := (s2.heap.push { cls := .type "slice", data := .fields #[.int i t, .none, .none] }).update a (Obj.mapSeq fun xs => xs.extract 0 (min i vs.size) ++ #[] ++ xs.extract vs.size xs.size) } := Mo.of (tk := s2.toks) o3.gi (fun b hb => by
    rw [List.mem_singleton] at hb; subst hb
    exact ⟨ha0, fun o e' => .inr fun ws h => by rw [ho] at e'; cases e'; cases h⟩) fun b o hb e' => hs.extBut b o (fun h => hb (by rw [h]; simp)) e'
  have nt : ∀ b ∈ [a], NT (s2.heap.push { cls := .type "slice", data := .fields #[.int i t, .none, .none] }) b := fun b hb => by
    rw [List.mem_singleton] at hb; subst hb
    intro o e' hc; rw [ho] at e'; cases e'; exact absurd hc (by show ¬ Value.ref _ = Value.type _; nofun)
  have hda : d ≠ a := fun h => by rw [h, ho] at hdd; cases hdd
  have hp : (PV.acc a d first (l.take i)).is ((s2.heap.push { cls := .type "slice", data := .fields #[.int i t, .none, .none] }).update a (Obj.mapSeq fun xs => xs.extract 0 (min i vs.size) ++ #[] ++ xs.extract vs.size xs.size)) (.ref a) := by
    refine ⟨_, _, es, m, tt, rfl, hau, ?_, hs.extBut _ _ hda hdd, hk, hf⟩
    have hz : (vs.extract 0 (min i vs.size) ++ #[] ++ vs.extract vs.size vs.size).toList = vs.toList.take i := by
      simp
    rw [hz, accItems_take]
    exact (mo.its o3.gi nt hits).take i
  exact ⟨_, rfl, F3.write hx rfl mo hp rfl (fun b d' f' l'' e => by cases e; exact F3.acc x _ _ _ _ hx), (Mv.ok (o1.trans o23)).trans (Mv.write hx rfl rfl mo) o3.gi⟩
end
end
section
open PySem PySem.Calls PyProof.Rows PySem.W PySem.Spec
section
variable {V : Wo} {k : Nat}
theorem bindD2 {s : Shared} {fd : FuncData} {p1 p2 : Pos} {e : Expr} {v u x : Value} {T : Addr} (hp : fd.params = ⟨[], [{ arg := "self", annotation := none, pos := p1 }, { arg := "i", annotation := none, pos := p2 }], none, [], [], none, [e]⟩) (hd : fd.defaults = .ref T) (hT : s.heap.IsTuple T #[x]) :
    BindsTo s fd ⟨[v, u], []⟩ [("self", v), ("i", u)] ∧ BindsTo s fd ⟨[v], []⟩ [("self", v), ("i", x)] := by
  obtain ⟨o, ho, hc, n, hs⟩ := hT
  cases fd
  cases hp
  cases hd
  exact ⟨fun M A E Q hq => wpAny_bind (wpAny_pure (wpAny_bind (wpAny_seqItems ho hs (wpAny_pure hq)))), fun M A E Q hq => wpAny_bind (wpAny_pure (wpAny_bind (wpAny_seqItems ho hs (wpAny_pure hq))))⟩
theorem bindS2 {s : Shared} {fd : FuncData} {p1 p2 : Pos} {e : Expr} {v u x : Value} {T : Addr} (hp : fd.params = ⟨[], [{ arg := "self", annotation := none, pos := p1 }, { arg := "initial_size", annotation := none, pos := p2 }], none, [], [], none, [e]⟩) (hd : fd.defaults = .ref T) (hT : s.heap.IsTuple T #[x]) :
    BindsTo s fd ⟨[v, u], []⟩ [("self", v), ("initial_size", u)] := by
  obtain ⟨o, ho, hc, n, hs⟩ := hT
  cases fd
  cases hp
  cases hd
  exact fun M A E Q hq => wpAny_bind (wpAny_pure (wpAny_bind (wpAny_seqItems ho hs (wpAny_pure hq))))
theorem popFrom_body {a d : Addr} {first : Int} {l : List (List Nat × List Nat)} {i : Nat} (X : AccFacts V) (Y : AccFns V) (Z : AccSeq V) (hl : l.length < 1000000) {ps : List PV}
    (hbind : ∀ (fd : FuncData) (s : Shared) (v : Value) (vs : List Value), fd.params = (((srcIn accBody "pop_from").getD default).1) → fd.defaults = .ref 46 → GI V s → PVs s.heap ps vs → ∃ vs', PVs s.heap [I i] vs' ∧ BindsTo s fd ⟨v :: vs, []⟩ ((["self", "i"] : List Str).zip (v :: vs'))) :
    CWr V (k + 1) (.ref 53) ps a (.acc a d first l) (.acc a d first (l.take i)) (.list (accItems (l.drop i))) := by
  refine CWr.fn (self := "self") (names := ["i"]) (ps' := [I i]) Y.popFrom rfl (by decide) rfl (mineAll (by decide)) rfl rfl (by simp [PV.addr]) hbind fun h0 => ?_
  refine Bk.cons (St1.assignO (x := "popped") (l := accItems (l.drop i)) (ev_tailAcc X Z rfl (by trivial) hl) (.inl rfl)) ?_
  rintro _ ⟨b, ⟨hn, hnW⟩, rfl⟩
  refine Bk.step (st_cutAcc (x := "self") (l := l) (i := i) X Z rfl (by simpa using h0) (by trivial) hl) ?_
  exact Bk.last (St1.retOwn (x := "popped") (a := b) (l := accItems (l.drop i)) rfl hnW ⟨rfl, rfl⟩)
theorem popFrom_cl {a d : Addr} {first : Int} {l : List (List Nat × List Nat)} {i : Nat} (X : AccFacts V) (Y : AccFns V) (Z : AccSeq V) (hl : l.length < 1000000) :
    CWr V (k + 1) (.ref 53) [I i] a (.acc a d first l) (.acc a d first (l.take i)) (.list (accItems (l.drop i))) := by
  refine popFrom_body X Y Z hl fun fd s v vs hp hd g hps => ?_
  obtain ⟨u, rfl, hu⟩ := hps.one
  obtain ⟨t, hT⟩ := Y.zero
  exact ⟨[u], hps, (bindD2 hp hd (let ⟨o, e, r⟩ := hT; ⟨o, g.keep _ _ e, r⟩)).1⟩
theorem popFrom_all {a d : Addr} {first : Int} {l : List (List Nat × List Nat)} (X : AccFacts V) (Y : AccFns V) (Z : AccSeq V) (hl : l.length < 1000000) :
    CWr V (k + 1) (.ref 53) [] a (.acc a d first l) (.acc a d first []) (.list (accItems l)) := by
  have := popFrom_body (k := k) (i := 0) (a := a) (d := d) (first := first) (ps := []) X Y Z hl fun fd s v vs hp hd g hps => by
    obtain ⟨t, hT⟩ := Y.zero
    rw [show vs = [] from hps]
    exact ⟨[.int 0 t], ⟨_, _, rfl, ⟨t, rfl⟩, rfl⟩, (bindD2 (u := .none) hp hd (let ⟨o, e, r⟩ := hT; ⟨o, g.keep _ _ e, r⟩)).2⟩
  simpa using this
end
end
section
open PySem PySem.Calls PyProof.Rows PySem.W PySem.Spec
section
variable {V : Wo} {A : Around}
structure AccSt (a d : Addr) (n : Nat) (vs : Array Value) (l : List (List Nat × List Nat)) (I : Addr) (fp : List Addr) (i : Nat) (h : Heap) : Prop where
  it : h.IsListIter I a i
  obj : h.get? a = some (accObj d vs n)
  tup : ∀ (j : Nat) (p : List Nat × List Nat), l[j]? = some p → ∃ (T : Addr) (ta tb : Tok), vs[j]? = some (Value.ref T) ∧ T ∈ fp ∧ T ≠ I ∧ h.IsTuple T #[Value.str ⟨p.1.toArray⟩ ta, Value.str ⟨p.2.toArray⟩ tb]
theorem accWalksU (hh : A.handled = none) {I a d : Addr} {n : Nat} {vs : Array Value} {l : List (List Nat × List Nat)} {fp : List Addr} (hl : vs.size = l.length) (hne : a ≠ I) (hI : I ∈ fp) (ha : a ∈ fp) :
    WalksU prog V.w A I fp [I] l.length (fun i vals => ∃ (p : List Nat × List Nat) (ta tb : Tok), l[i]? = some p ∧ vals = #[Value.str ⟨p.1.toArray⟩ ta, Value.str ⟨p.2.toArray⟩ tb]) (AccSt a d n vs l I fp) (fun i T h => T ≠ I ∧ AccSt a d n vs l I fp (i + 1) h) where
  sub := fun b hb => by simp at hb; simp [hb, hI]
  frame := fun i h h' st hk => ⟨st.it.at fun o e => hk I hI o e, hk a ha _ st.obj, fun j p hp => by
    obtain ⟨T, ta, tb, e1, e2, e3, o, e4, e5⟩ := st.tup j p hp
    exact ⟨T, ta, tb, e1, e2, e3, o, hk T e2 _ e4, e5⟩⟩
  item := fun i s Q E hi st hQ => by
    obtain ⟨T, ta, tb, e1, e2, e3, o, e4, e5⟩ := st.tup i l[i] (List.getElem?_eq_getElem hi)
    refine acc_next st.it st.obj e1 fun h' hI' hs => ?_
    refine hQ T _ h' s.toks ⟨l[i], ta, tb, List.getElem?_eq_getElem hi, rfl⟩ ⟨o, hs.extBut T _ e3 e4, e5⟩ ⟨e3, ⟨hI', hs.extBut a _ hne st.obj, fun j p hp => ?_⟩⟩ fun b o hb e => hs.extBut b o (fun h => hb (by simp [h])) e
    obtain ⟨T, ta, tb, e1, e2, e3, o, e4, e5⟩ := st.tup j p hp
    exact ⟨T, ta, tb, e1, e2, e3, o, hs.extBut T _ e3 e4, e5⟩
  go := fun elts k pos i T s Q E hm hQ => by
    refine wpAny_mono (goList (.inr trivial) hm.2.it) (fun _ s' e => ?_) fun _ _ x => x.elim
    subst e
    exact hQ s'.heap hm.2 fun _ _ _ e => e
  apart := fun i T h hm => by simpa using hm.1
  done := fun s Q E st hQ => acc_end hh st.it st.obj (by rw [Array.getElem?_eq_none (by (first | lia | omega))]) fun h' he => hQ h' s.toks fun b o hb e => he b o (fun h => hb (by simp [h])) e
  self := fun i s Q E st hQ => wpAny_pyIter_listiter st.it hQ

noncomputable def GenOf (V : Wo) (A : Around) (s s5 : Shared) (I : Addr) (n : Nat) (P : Nat → Value → Prop) : Prop :=
  ∃ fp wr gi St, WalksS prog V.w A.in4 I fp wr (GenOnlyQ gi) n P St ∧ St 0 s5 ∧ (∀ i s', St i s' → s'.TypeIs (.ref I) "generator") ∧ I ∈ fp ∧ (∀ b ∈ fp, b < s5.heap.objs.size) ∧
    ∀ s', Moved wr (GenOnlyQ gi) s5 s' → Ok V s s'

theorem passing_all (n : Nat) : ∀ m i, n - i = m → i ≤ n → passing (fun _ => true) n i = List.range' i m := by
  intro m
  induction m with
  | zero =>
    intro i h hi
    have : i = n := Nat.le_antisymm hi (Nat.sub_eq_zero_iff_le.mp h)
    subst this
    rw [passing_end]; rfl
  | succ m ih =>
    intro i h hi
    have hl : i < n := Nat.lt_of_sub_pos (h ▸ Nat.succ_pos m)
    rw [passing_true hl rfl, List.range'_succ, ih (i + 1) (sub_eq_succ h) hl]
theorem WalksS.weakP {I : Addr} {fp wr : List Addr} {G : Array GenState → Array GenState → Prop} {n n' : Nat} {P P' : Nat → Value → Prop} {St : Nat → Shared → Prop} (W : WalksS prog V.w A I fp wr G n P St) (hn : n = n') (h : ∀ i v, P i v → P' i v) : WalksS prog V.w A I fp wr G n' P' St := by
  subst hn
  exact {
    sub := W.sub
    grefl := W.grefl
    gtrans := W.gtrans
    frame := W.frame
    item := fun i s Q E hi st hQ => W.item i s Q E hi st fun v s' hp => hQ v s' (h i v hp)
    done := W.done
    self := W.self }
theorem Its.pairs {h : Heap} : ∀ {l : List (List Nat × List Nat)} {vs : List Value}, Its h (accItems l) vs → ∀ (j : Nat) (p : List Nat × List Nat), l[j]? = some p → ∃ (T : Addr) (ta tb : Tok), vs[j]? = some (Value.ref T) ∧ h.IsTuple T #[Value.str ⟨p.1.toArray⟩ ta, Value.str ⟨p.2.toArray⟩ tb] := by
  intro l vs hi j p hp
  have : (accItems l)[j]? = some (.tup [.str p.1, .str p.2]) := by unfold accItems; rw [List.getElem?_map, hp]; rfl
  obtain ⟨v, hv, T, xs, rfl, hT, hat⟩ := hi.get this
  obtain ⟨x, y, hxy, ⟨ta, rfl⟩, ⟨tb, rfl⟩⟩ := hat.pair
  refine ⟨T, ta, tb, hv, ?_⟩
  have : xs = #[Value.str ⟨p.1.toArray⟩ ta, Value.str ⟨p.2.toArray⟩ tb] := by first | exact hxy | (apply Array.toList_inj.mp; simpa using hxy)
  rw [← this]; exact hT
theorem wp_genAcc {k : Nat} {K : List (Str × NameKind)} {ρ : Vars} {s : Shared} {env : Env} {elt : Expr} {xa xb self : Str} {pa pb pt sp pos : Pos} {kt : Nat} {scope : Scope} {a d c P : Addr} {first : Int} {l : List (List Nat × List Nat)} {q : Str} {Q : Value → Shared → Prop} (X : AccFacts V) (F : Fit A (k + 1)) (g : GI V s) (R : REnv K env s.heap ρ) (hcode : env.code = .ref c) (ht : (c, P, pos, q) ∈ tabList) (hq : env.qual ++ "<genexpr>" = q) (hx : ρ self = some (.acc a d first l))
    (hb : ∃ bm ob, V.mg "__builtins__" = some (.ref bm) ∧ bm ≠ builtinsNs ∧ bm ≠ mainGlobals ∧ V.h0.get? bm = some ob ∧ ob.cls = .type "module" ∧ ob.dict = some builtinsNs ∧ ob.data = .plain)
    (hd : (self == ("__debug__" : Str)) = false) (hn : (self == ("__classdict__" : Str)) = false)
    (hco : scope.isCoroutine = false) (hclos : closureFor scope env = pure []) (hcell : ∀ y ∈ scope.names, y.2 ≠ .cell) (h0 : scope.names.lookup (".0" : Str) = some NameKind.local)
    (hxa : scope.names.lookup xa = some .local) (hxb : scope.names.lookup xb = some .local) (hab : xa ≠ xb) (hkind : scope.kind = .function) (f : List Nat × List Nat → Value → Prop)
    (helt : ∀ (A' : Around) E' (cenv : Env) (s₂ : Shared) m₂ (p : List Nat × List Nat) (ta tb : Tok), A'.handled = none → A'.depth ≤ A.depth + 1 → A'.units ≤ A.units + 8 → cenv.scope = scope → cenv.globals = mainGlobals → cenv.builtins = builtinsNs → p ∈ l → s₂.heap.Ns cenv.locals m₂ → m₂ xa = some (.str ⟨p.1.toArray⟩ ta) → m₂ xb = some (.str ⟨p.2.toArray⟩ tb) →
      (∀ b o, V.h0.get? b = some o → s₂.heap.get? b = some o) → wpAny (model prog V.w) A' (eval elt cenv) (fun y s₃ => f p y ∧ Keeps s₂ s₃) E' s₂)
    (hQ : ∀ I s5, Ok V s s5 → GenOf V A s s5 I l.length (fun j y => ∃ p, l[j]? = some p ∧ f p y) → Q (.ref I) s5) :
    wpAny (model prog V.w) A (eval (.GeneratorExp elt [⟨.Tuple [.Name xa pa, .Name xb pb] kt pt, .Name self sp, [], 0⟩] scope pos) env) Q No s := by
  obtain ⟨v, hlk, hv⟩ := R.vars self _ hx
  obtain ⟨vs, n, rfl, ho, hi⟩ := PV.isAcc hv
  have hsz : vs.size = l.length := by have := hi.length; simpa [accItems] using this
  have hPt : P ∈ tabAddrs := tab_addr _ ht
  obtain ⟨ps, hIs, hTab, hps⟩ := g.tab _ ht
  refine wpAny_GeneratorExp_walksQTD F.handled hco hclos hcell h0 hxa hxb hab hkind F.room ?_ (fun _ => rfl)
  refine wp_name R.kind hlk ?_ hd hn
  refine acc_pyIter X g ho ?_
  have hI0 : s.heap.get? s.heap.objs.size = none := fresh_none (Nat.le_refl _)
  have o2 : Ok V s { s with heap := s.heap.push { cls := .type "list_iterator", data := .fields #[.ref a, .int 0 0] } } := Ok.grow (s := s) (tk := s.toks) g fun b o e => Heap.get?_push_of_some _ e
  refine ⟨g.ok.nolimit.keeps o2.gi.keep, ?_⟩
  rw [hq]
  obtain ⟨bm, ob, b1, b2, b3, b4, b5, b6, b7⟩ := hb
  have hPs : ∃ o, s.heap.get? P = some o := ⟨_, hTab.2⟩
  have hIP : s.heap.objs.size ≠ P := fun e => by rw [← e, hI0] at hPs; obtain ⟨_, h⟩ := hPs; cases h
  have hitr : (s.heap.push { cls := .type "list_iterator", data := .fields #[.ref a, .int 0 0] }).get? s.heap.objs.size = some { cls := .type "list_iterator", data := .fields #[.ref a, .int 0 0] } := Heap.get?_push_size _ rfl
  have fin : ∀ (s₃ : Shared) (c' : Addr), Ok V { s with heap := s.heap.push { cls := .type "list_iterator", data := .fields #[.ref a, .int 0 0] } } s₃ →
      wpAny (model prog V.w) A (builtinsFor env.globals env.builtins) (fun bi s₄ =>
        ∃ I fp wr n₀ Pt St₀ Mid pz F, Value.ref s.heap.objs.size = .ref I ∧ (∀ A' : Around, A'.handled = none → WalksU prog V.w A' I fp wr n₀ Pt St₀ Mid) ∧ (∀ i vals, Pt i vals → ∃ va vb, vals = #[va, vb]) ∧ St₀ 0 s₄.heap ∧ (∀ b ∈ fp, b < s₄.heap.objs.size) ∧ s₄.heap.NoLimit ∧ cStatics ∉ wr ∧
          (∀ href : Heap, (∀ b o, s₄.heap.get? b = some o → href.get? b = some o) →
            QuietGenTD prog V.w (genEnv scope [] s₄.heap.objs.size (.ref c') bi env) xa xb [] elt (List.range s₄.heap.objs.size) wr Pt pz F href (A.depth + 1) (A.units + 8)) ∧
          (∀ a h₅ tk gs, gs.bare = true → s₄.heap.objs.size < a → h₅.objs.size = a + 1 → (∀ b o, s₄.heap.get? b = some o → h₅.get? b = some o) →
            WalksS prog V.w A.in4 a (a :: s₄.heap.objs.size :: List.range s₄.heap.objs.size) (s₄.heap.objs.size :: wr) (GenOnlyQ s₄.gens.size) (passing pz n₀ 0).length
              (fun j y => ∃ i, (passing pz n₀ 0)[j]? = some i ∧ F i y) (GenAt prog V.w A.in4 a s₄.gens.size s₄.heap.objs.size (List.range s₄.heap.objs.size) wr pz n₀ F) →
            GenAt prog V.w A.in4 a s₄.gens.size s₄.heap.objs.size (List.range s₄.heap.objs.size) wr pz n₀ F 0 { s₄ with gens := s₄.gens.push gs, toks := tk, heap := h₅ } →
            Q (.ref a) { s₄ with gens := s₄.gens.push gs, toks := tk, heap := h₅ })) No s₃ := by
    intro s₃ c' o3
    have g3 := o3.gi
    have o03 := o2.trans o3
    have hgs := g3.ok.g.keeps g3.keep
    rw [R.glob, R.blt]
    refine wpAny_builtinsFor hgs b1 b2 (g3.keep _ _ b4) b5 b6 b7 ?_
    have hit3 : s₃.heap.get? s.heap.objs.size = some { cls := .type "list_iterator", data := .fields #[.ref a, .int 0 0] } := o3.atC o2.gi hitr (by first | exact ns rfl | exact nIt rfl | exact nAcc rfl | nofun)
    have ho3 := o03.at g ho (by first | exact ns rfl | exact nIt rfl | exact nAcc rfl | nofun)
    have hlt3 : ∀ b o, s.heap.get? b = some o → b < s₃.heap.objs.size := fun b o e => by
      obtain ⟨o', e'⟩ := o03.there b o e
      exact Heap.lt_size e'
    have hcs : ∃ o, s.heap.get? cStatics = some o := by
      obtain ⟨m, ⟨o, _, _, e, _⟩, _⟩ := g.ok.nolimit.keeps g.keep
      exact ⟨o, e⟩
    have st0 : AccSt a d n vs l s.heap.objs.size (List.range s₃.heap.objs.size) 0 s₃.heap := ⟨⟨_, hit3, rfl, rfl⟩, ho3, fun j p hp => by
      obtain ⟨T, ta, tb, e1, o, e2, e3, e4⟩ := hi.pairs j p hp
      refine ⟨T, ta, tb, by rw [← Array.getElem?_toList]; exact e1, List.mem_range.mpr (hlt3 T o e2), fun e => ?_, o, o03.atC g e2 (by rw [e3]; nofun), e3, e4⟩
      rw [e, hI0] at e2; cases e2⟩
    refine ⟨s.heap.objs.size, List.range s₃.heap.objs.size, [s.heap.objs.size], l.length, _, _, _, fun _ => true, fun i y => ∃ p, l[i]? = some p ∧ f p y, rfl,
      fun A' hA => accWalksU hA hsz (fun e => by rw [e, hI0] at ho; cases ho) (List.mem_range.mpr (Heap.lt_size hit3)) (List.mem_range.mpr (Heap.lt_size ho3)), fun i vals ⟨p, ta, tb, _, e⟩ => ⟨_, _, e⟩, st0, fun b hb => List.mem_range.mp hb, g3.ok.nolimit.keeps g3.keep, ?_, fun href hk => ⟨?_, ?_⟩, ?_⟩
    · intro hm
      rw [List.mem_singleton] at hm
      obtain ⟨o, e⟩ := hcs
      rw [hm, hI0] at e; cases e
    · intro A' E' i va vb s₂ m₂ hA hD hU hP hns hma hmb hkk
      exact wpAny_pure ⟨rfl, s₂.heap, s₂.toks, rfl, fun _ _ e => e⟩
    · intro A' E' i va vb s₂ m₂ hA hD hU hP hpz hns hma hmb hkk
      obtain ⟨p, ta, tb, hp, e⟩ := hP
      obtain ⟨e1, e2⟩ : va = .str ⟨p.1.toArray⟩ ta ∧ vb = .str ⟨p.2.toArray⟩ tb := by simpa using congrArg Array.toList e
      subst e1; subst e2
      refine wpAny_mono (helt A' E' (genEnv scope [] s₃.heap.objs.size (.ref c') builtinsNs env) s₂ m₂ p ta tb hA hD hU rfl R.glob rfl (List.mem_of_getElem? hp) hns hma hmb fun b o e => ?_) (fun y s3 h => ⟨⟨p, hp, h.1⟩, h.2⟩) fun _ _ x => x
      have e3 := g3.keep b o e
      refine hkk b (List.mem_range.mpr (Heap.lt_size e3)) (fun hm => ?_) o (hk b o e3)
      rw [List.mem_singleton] at hm
      have e0 := g.keep b o e
      rw [hm, hI0] at e0; cases e0
    · intro I h₅ tk gs hgb hI5 hsz5 hk5 W hat
      have hC : s₃.heap.get? s₃.heap.objs.size = none := fresh_none (Nat.le_refl _)
      have o5 : Ok V s₃ { s₃ with gens := s₃.gens.push gs, toks := tk, heap := h₅ } := ⟨fun b o _ e => hk5 b o e, fun b o e => ⟨o, hk5 b o e⟩, rfl, g3.keeps (s' := { s₃ with gens := s₃.gens.push gs, toks := tk, heap := h₅ }) hk5 (AllBare.push g3.bare hgb)⟩
      have hpl : (passing (fun _ => true) l.length 0) = List.range' 0 l.length := passing_all l.length l.length 0 (Nat.sub_zero _) (Nat.zero_le _)
      refine hQ I _ (o03.trans o5) ⟨_, _, _, _, WalksS.weakP (P' := fun j y => ∃ p, l[j]? = some p ∧ f p y) W (by rw [hpl, List.length_range']) ?_, hat, fun i s' st => st.1.typeIs, List.mem_cons_self, ?_, ?_⟩
      · rintro j y ⟨i, hi', p, hp, hf⟩
        rw [hpl, List.getElem?_range'] at hi'
        · simp at hi'
          subst hi'
          exact ⟨p, hp, hf⟩
        · rcases Nat.lt_or_ge j l.length with h | h
          · exact h
          · rw [List.getElem?_eq_none (by simpa using h)] at hi'; cases hi'
      · intro b hb
        show b < h₅.objs.size
        rw [hsz5]
        rcases List.mem_cons.mp hb with rfl | hb
        · exact Nat.lt_succ_self _
        · rcases List.mem_cons.mp hb with rfl | hb
          · exact Nat.lt_succ_of_lt hI5
          · exact Nat.lt_succ_of_lt (Nat.lt_trans (List.mem_range.mp hb) hI5)
      · intro s' m
        have hk' : ∀ b o, b ∉ [s.heap.objs.size] → s₃.heap.get? b = some o → s'.heap.get? b = some o := fun b o hb e => m.heap b o (fun hm => by
          rcases List.mem_cons.mp hm with rfl | hm
          · rw [hC] at e; cases e
          · exact hb hm) (hk5 b o e)
        have hnI : ∀ b o, s.heap.get? b = some o → b ∉ [s.heap.objs.size] := fun b o e hm => by
          rw [List.mem_singleton] at hm
          rw [hm, hI0] at e; cases e
        refine ⟨fun b o hb e => hk' b o (hnI b o e) (o03.keep b o hb e), fun b o e => ?_, m.os.trans o03.os, g3.but (wr := [s.heap.objs.size]) (fun b hb => ?_) hk' ((AllBare.push g3.bare hgb).moved m.gens)⟩
        · obtain ⟨o', e'⟩ := o03.there b o e
          exact ⟨o', hk' b o' (hnI b o e) e'⟩
        · rw [List.mem_singleton] at hb
          subst hb
          refine ⟨g.noH0 hI0, fun o e => .inl ?_⟩
          rw [hit3] at e; cases e
          exact ⟨by show Value.type _ ≠ Value.type _; decide, by nofun⟩
  obtain ⟨ps, hIs, hTab, hps⟩ := o2.gi.tab _ ht
  rcases hps with rfl | ⟨c', rfl, hrec, o, ho', hco'⟩
  · refine wpAny_genexprCodeX hcode hIs hTab rfl fun c' h' tk hx hge hlt hIs' hrec hTab' hT' => ?_
    obtain ⟨P', _, _, ⟨⟨oc', vc', hoc', hcc', _⟩, _⟩⟩ := hT'
    refine fin _ c' ⟨fun b o hb e => hx b o (fun e' => hb (e' ▸ hPt)) e, fun b o e => ?_, rfl, ⟨g.ok, fun b o e => hx b o (fun e' => by rw [e', g.off P hPt] at e; cases e) (o2.gi.keep b o e), fun t htm => ?_, g.bare, g.off⟩⟩
    · by_cases hb : b = P
      · subst hb; exact ⟨_, hTab'.2⟩
      · exact ⟨o, hx b o hb e⟩
    · by_cases hP : t.2.1 = P
      · have := tab_uniq t htm _ ht hP
        subst this
        refine ⟨_, hIs', hTab', .inr ⟨c', by simp, hrec, oc', hoc', hcc'⟩⟩
      · exact (o2.gi.tab t htm).grow hTab.2 hP fun b o hb e => hx b o hb e
  · refine wpAny_genexprCode_hit hcode hIs (c' := .ref c') ?_ ?_
    · simp [codeAmong, rawInt]
    · exact fin _ c' (.refl o2.gi)
end
end
section
open PySem PySem.Calls PyProof.Rows PySem.W PySem.Spec
section
variable {prog : Program} {w : World} {A : Around} {E : Value → Shared → Prop} {s : Shared}
theorem args_sum2 (a b : Value) : argsOk "sum" ⟨[a, b], []⟩ := by unfold argsOk; kernel_rfl
noncomputable def shiftV (f : Int) (val : Nat → Int) : Nat → Int
  | 0 => f
  | i + 1 => val i
theorem preSum_shift (f : Int) (val : Nat → Int) : ∀ n, preSum (shiftV f val) (n + 1) = f + preSum val n
  | 0 => by simp [preSum, shiftV]
  | n + 1 => by
    rw [preSum, preSum_shift f val n, preSum]
    show f + preSum val n + val n = _
    (first | lia | omega)
noncomputable def shiftP (P : Nat → Value → Prop) : Nat → Value → Prop
  | 0 => fun _ => False
  | i + 1 => P i
noncomputable def shiftS (St : Nat → Shared → Prop) : Nat → Shared → Prop
  | 0 => fun _ => False
  | i + 1 => St i
theorem WalksS.shift {I : Addr} {fp wr : List Addr} {G : Array GenState → Array GenState → Prop} {n : Nat} {P : Nat → Value → Prop} {St : Nat → Shared → Prop} (W : WalksS prog w A I fp wr G n P St) : WalksS prog w A I fp wr G (n + 1) (shiftP P) (shiftS St) where
  sub := W.sub
  grefl := W.grefl
  gtrans := W.gtrans
  frame := fun i s h' tk st => match i, st with
    | i + 1, st => W.frame i s h' tk st
  item := fun i s Q E hi st hQ => match i, st with
    | i + 1, st => W.item i s Q E (by (first | lia | omega)) st fun v s' hp st' m => hQ v s' hp st' m
  done := fun s Q E st hQ => W.done s Q E st hQ
  self := fun i s Q E st hQ => match i, st with
    | i + 1, st => W.self i s Q E st hQ
theorem call_sum_start {x : Value} {f : Int} {tf : Tok} {Q : Value → Shared → Prop}
    (h : wpAny (model prog w) A.in1 (pyIter x) (fun it s₂ => ∃ I fp wr G n P St val, it = .ref I ∧ WalksS prog w A.in1 I fp wr G n P St ∧ St 0 s₂ ∧ (∀ b ∈ fp, b < s₂.heap.objs.size) ∧
      (∀ i v, P i v → ∃ t, v = .int (val i) t) ∧
      ∀ s' t', Moved wr G s₂ s' → Q (.int (f + preSum val n) t') s') E s) :
    wpAny (model prog w) A (call (.builtin "sum") [x, .int f tf]) Q E s := by
  refine call_function_tree PySem.F.kind_sum PySem.F.plain_sum PySem.F.entry_sum (args_sum2 _ _) ?_
  unfold Builtin.«sum»
  simp only [List.length_cons, List.length_nil]
  rw [if_neg (by decide)]
  refine wpAny_bind (wpAny_of_eq (show Builtin.Builtins.bindParams "sum" ["start"] 0 ⟨[.int f tf], []⟩ = pure [some (.int f tf)] from rfl) ?_)
  refine wpAny_bind (wpAny_mono h (fun it s₂ h₂ => ?_) fun _ _ e => e)
  obtain ⟨I, fp, wr, G, n, P, St, val, rfl, W, hst, hfp, hval, hQ⟩ := h₂
  have hSf : s₂.heap.objs.size ∉ fp := fun hm => Nat.lt_irrefl _ (hfp _ hm)
  have hv' : ∀ i v, shiftP P i v → ∃ t, v = .int (shiftV f val i) t := fun i v => match i with
    | 0 => fun h => h.elim
    | i + 1 => fun h => hval i v h
  have h1 : preSum (shiftV f val) 1 = f := by rw [preSum_shift]; simp [preSum]
  dsimp only
  split
  · refine wpAny_bind (wpAny_rule (wpAny_bind (wpAny_mkInt (wpAny_bind (wpAny_pure ?_)))))
    simp only [List.forIn_cons, List.forIn_nil]
    refine wpAny_bind (wpAny_bind (wpAny_bind (wpAny_isInstance (T := "int") (b := false) (typeIs_int _ _ _) PySem.sub_int_str ?_)))
    simp only [Bool.false_eq_true, if_false]
    refine wpAny_pure (wpAny_bind (wpAny_bind (wpAny_isInstance (T := "int") (b := false) (typeIs_int _ _ _) PySem.sub_int_bytes ?_)))
    simp only [Bool.false_eq_true, if_false]
    refine wpAny_pure (wpAny_bind (wpAny_bind (wpAny_isInstance (T := "int") (b := false) (typeIs_int _ _ _) PySem.sub_int_bytearray ?_)))
    simp only [Bool.false_eq_true, if_false]
    refine wpAny_pure (wpAny_pure ?_)
    refine wpAny_bind (wpAny_newObj_type ?_)
    refine wpAny_pure ⟨plainId_quiet PySem.F.plain_sum_loop _, codeAny_sum_loopAnyS (WalksS.shift W) (shiftV f val) hv' s₂.heap.objs.size hSf n 1 _ s₂.toks 0 0 (.inl rfl) (by (first | lia | omega)) (by (first | lia | omega))
      (W.frame 0 s₂ _ _ hst (by first | exact Nat.le_refl _ | exact Nat.le_succ _ | (first | lia | omega)) fun b _ o e => Heap.get?_push_of_some _ e) ?_ fun s' t' hm => ?_⟩
    · rw [h1]
      exact Heap.get?_push_size _ rfl
    · rw [preSum_shift]
      exact hQ s' t' (hm.drop_new (by first | exact Nat.le_refl _ | exact Nat.le_succ _ | (first | lia | omega)))
  · refine wpAny_bind (wpAny_pure ?_)
    simp only [List.forIn_cons, List.forIn_nil]
    refine wpAny_bind (wpAny_bind (wpAny_bind (wpAny_isInstance (T := "int") (b := false) (typeIs_int _ _ _) PySem.sub_int_str ?_)))
    simp only [Bool.false_eq_true, if_false]
    refine wpAny_pure (wpAny_bind (wpAny_bind (wpAny_isInstance (T := "int") (b := false) (typeIs_int _ _ _) PySem.sub_int_bytes ?_)))
    simp only [Bool.false_eq_true, if_false]
    refine wpAny_pure (wpAny_bind (wpAny_bind (wpAny_isInstance (T := "int") (b := false) (typeIs_int _ _ _) PySem.sub_int_bytearray ?_)))
    simp only [Bool.false_eq_true, if_false]
    refine wpAny_pure (wpAny_pure ?_)
    refine wpAny_bind (wpAny_newObj_type ?_)
    refine wpAny_pure ⟨plainId_quiet PySem.F.plain_sum_loop _, codeAny_sum_loopAnyS (WalksS.shift W) (shiftV f val) hv' s₂.heap.objs.size hSf n 1 _ tf 0 2 (.inr rfl) (by (first | lia | omega)) (by (first | lia | omega))
      (W.frame 0 s₂ _ _ hst (by first | exact Nat.le_refl _ | exact Nat.le_succ _ | (first | lia | omega)) fun b _ o e => Heap.get?_push_of_some _ e) ?_ fun s' t' hm => ?_⟩
    · rw [h1]
      exact Heap.get?_push_size _ rfl
    · rw [preSum_shift]
      exact hQ s' t' (hm.drop_new (by first | exact Nat.le_refl _ | exact Nat.le_succ _ | (first | lia | omega)))
end
end
section
open PySem PySem.Calls PyProof.Rows PySem.W PySem.Spec
structure AccMore (V : Wo) : Prop where
  miss : Looks (model prog V.w) V.h0 (typeLookup (.ref accCls) "_initial_size") none
  sa : Looks (model prog V.w) V.h0 (typeLookup (.ref accCls) "__setattr__") (some (.builtin "object.__setattr__"))
  obj : Looks (model prog V.w) V.h0 (isSubtype (.ref accCls) (.type "object")) true
  mro : Looks (model prog V.w) V.h0 (mroOf (.ref accCls)) [.ref accCls, .type "list", .type "object"]
  cls : ∃ o cd, V.h0.get? accCls = some o ∧ o.data = .cls cd ∧ cd.hasDict = true
section
variable {V : Wo} {k : Nat} {A : Around} {E : Value → Shared → Prop} {s : Shared} {a d : Addr}
theorem entry_list_ga : entryFor table "list.__getattribute__" = some Builtin.«object.__getattribute__» := entryFor_alias (id' := "object.__getattribute__") (by rw [fastTable_eq_tree]; kernel_rfl) (by first | rfl | decide +kernel) (by decide +kernel) (by rw [fastTable_eq_tree]; kernel_rfl)
theorem args_list_ga (a b : Value) : argsOk "list.__getattribute__" ⟨[a, b], []⟩ := by unfold argsOk; kernel_rfl
theorem looks_classData {w : World} {h : Heap} {o : Obj} {cd : ClassData} {c : Addr} (e : h.get? c = some o) (hd : o.data = .cls cd) : Looks (model prog w) h (classData c) cd := by
  unfold classData
  refine (Looks.ld e).andThen ?_
  rw [hd]
  exact .now
theorem acc_instDict {vs : Array Value} {n : Nat} {b : Bool} {Q : Option Addr → Shared → Prop} (Z : AccMore V) (g : GI V s) (ho : s.heap.get? a = some (accObj d vs n)) (h : Q (some d) s) : wpAny (model prog V.w) A (instanceDict a b) Q E s := by
  obtain ⟨o, cd, e, hd, hh⟩ := Z.cls
  unfold instanceDict
  refine wpAny_bind (wpAny_loadPart ho ?_)
  dsimp only [accObj]
  refine wpAny_bind ((looks_classData (g.keep _ _ e) hd).here ?_)
  rw [hh]
  exact wpAny_pure h
theorem acc_getAttr {first : Int} {l : List (List Nat × List Nat)} {Q : Value → Shared → Prop} (X : AccFacts V) (Z : AccMore V) (g : GI V s) (hp : (PV.acc a d first l).is s.heap (.ref a)) (h : ∀ t, Q (.int first t) { s with toks := s.toks + 1 }) : wpAny (model prog V.w) A (getAttr (.ref a) "_initial_size" true) Q E s := by
  obtain ⟨vs, n, es, m, t, _, ho, hi, hd, hk, hfind⟩ := hp
  have hns : s.heap.Ns d (fun x => if x = ("_initial_size" : Str) then some (.int first t) else none) := ⟨_, es, m, hd, rfl, hk, hfind⟩
  unfold getAttr getAttrBy
  refine wpAny_bind (wpAny_mkText (wpAny_holding (wpAny_bind ?_)))
  have g1 : GI V { s with toks := s.toks + 1 } := (Ok.tok g).gi
  refine (acc_type (V := V) (s := { s with toks := s.toks + 1 }) ho).here ?_
  refine wpAny_bind ((X.ga.keeps g1.keep).here ?_)
  show wpAny _ _ (getAttrByItsOwn (.ref a) (.str "_initial_size" s.toks) (.ref accCls) (.builtin "list.__getattribute__") true true) _ _ _
  unfold getAttrByItsOwn hookBefore callGetattribute boundAndCalled
  show wpAny _ _ (typeLookup (.ref accCls) "__getattr__" >>= _) _ _ _
  refine wpAny_bind ((X.gn.keeps g1.keep).here ?_)
  refine wpAny_bind (wpAny_attempt (wpAny_holding ?_))
  show wpAny _ _ (bindSpecial (.builtin "list.__getattribute__") (.ref a) >>= _) _ _ _
  refine wpAny_bind (wpAny_of_eq (PySem.F.slot_list_getattribute.bind _) ?_)
  refine wpAny_mono (Q := fun v s' => v = .int first t ∧ s' = { s with toks := s.toks + 1 }) (E := fun _ _ => False)
    (acc_call X g1 (s := { s with toks := s.toks + 1 }) ho (m := "__getattribute__") (by decide +kernel) (by first | exact .inl (by decide +kernel) | exact .inr (by decide +kernel)) PySem.F.slot_list_getattribute.plain entry_list_ga (args_list_ga _ _) ?_) (fun v s' hv => ?_) fun _ _ z => z.elim
  · unfold Builtin.«object.__getattribute__»
    refine wpAny_bind (wpAny_pure ?_)
    refine wpAny_bind (wpAny_pure ?_)
    refine wpAny_bind ((acc_type (V := V) (s := { s with toks := s.toks + 1 }) ho).here ?_)
    unfold Builtin.ObjectAttr.find
    refine wpAny_bind (wpAny_bind ((Z.miss.keeps g1.keep).here ?_))
    refine wpAny_bind (wpAny_pure ?_)
    refine wpAny_bind (wpAny_pure ?_)
    dsimp only
    unfold Builtin.ObjectAttr.ownThenClass Builtin.ObjectAttr.inOwnDict Builtin.ObjectAttr.ownDict
    refine wpAny_bind (wpAny_bind (wpAny_bind (wpAny_loadPart ho ?_)))
    dsimp only [accObj]
    refine acc_instDict Z g1 ho ?_
    unfold Builtin.ObjectAttr.inDict
    refine wpAny_nsGet hns ?_
    rw [if_pos rfl]
    dsimp only
    refine wpAny_bind (wpAny_rule (wpAny_pure ?_))
    exact wpAny_pure ⟨_, rfl, rfl, rfl⟩
  · obtain ⟨rfl, rfl⟩ := hv
    exact wpAny_pure (h t)
end
end
section
open PySem PySem.Calls PyProof.Rows PySem.W PySem.Spec
section
variable {V : Wo} {k : Nat}
theorem Cl.fnR {sr : Option (Arguments × List Stmt × Scope)} {n q : Str} {fa c a : Addr} {b : Arg} {e : Expr} {pos : Pos} {scope : Scope} {p r : PV} (h : FnAt V.h0 sr n q fa c [] .none) (hsr : sr = some (simple [b], [.Return (some e) pos], scope)) (hb : Mine scope.names b.arg) (hpa : p.addr = some a)
    (hE : ∀ (A : Around) (env : Env) (s : Shared), Fit A k → GI V s → REnv scope.names env s.heap (ini [b.arg] [p]) → env.code = .ref c → env.qual = q ++ ".<locals>." → Gv V A (eval e env) true r s)
    (hk : scope.kind = .function := by rfl) (hco : scope.isCoroutine = false := by rfl) (hgen : scope.isGenerator = false := by rfl) : Cl V (k + 1) (.ref fa) [p] r := fun A s vs F g hps => by
  obtain ⟨v, rfl, hp⟩ := hps.one
  obtain ⟨fd, ho, hn, hq, hs, ⟨bd, hbd⟩, hcl, hgl, hbl, hdf, hkd, hcode⟩ := h.obj
  have e1 := hsr.symm.trans hs
  simp only [Option.some.injEq, Prod.mk.injEq] at e1
  obtain ⟨ep, eb, es⟩ := e1
  rw [hbd] at eb
  have eb : [Stmt.Return (some e) pos] = bd := eb
  subst eb
  obtain ⟨rfl, o, ws, nn, hao, had, hc1, hc2, hc3⟩ := PV.addr_is hpa hp
  have hmem : ∀ x q, ini [b.arg] [p] x = some q → x = b.arg ∧ q = p := fun x q hx => by
    have := mem_of_lookup hx
    simpa using this
  refine wpAny_call (call_cellsB F.room (g.keep _ _ ho) rfl (g.ok.nolimit.keeps g.keep) ((by rw [hcode, hq]; exact h.code.keeps g.keep)) hbd (.of_eq (bind1 ep.symm hdf)) hcl (fun x hx => ?_) (fun s₁ hs₁ => ?_) (es ▸ hco) (es ▸ hgen) (es ▸ hk))
  · rw [List.mem_singleton] at hx
    subst hx
    rw [← es]
    rcases hb with h' | h'
    · exact .inl h'
    · exact .inr ⟨h', cellsFrom_has _ _ _ (.inl (mem_of_lookup h'))⟩
  · have Fx := Fr.enterW (names := [b.arg]) (W := [a]) g (es ▸ hk) hgl hbl (by simp) rfl (by rw [← es]; simpa using hb) hps
      (fun x q c' hx hb' => by
        obtain ⟨_, rfl⟩ := hmem x q hx
        rw [hpa] at hb'; cases hb'; simp)
      (fun x y q1 q2 c' hx hy h1 h2 => by rw [(hmem x q1 hx).1, (hmem y q2 hy).1])
      (fun x q c' hx hb' y l hy => by
        have := (hmem y _ hy).2
        rw [← this] at hpa; cases hpa)
      (fun b hb => by rw [List.mem_singleton] at hb; subst hb; exact ⟨o, hao, hc1, hc3⟩) hs₁
    rw [← es] at Fx
    have o1 : Ok V s s₁ := by
      obtain ⟨h', tk, rfl⟩ := hs₁.toInCall.same
      exact Ok.grow g hs₁.toInCall.keep
    refine wpAny_execs_cons (wpAny_Return_some (wpAny_mono (hE (A.deeper (callEnvC fd s.heap.objs.size fa)) _ s₁ (F.deeper _) o1.gi Fx.renv hcode (by rw [← hq]; rfl)) (fun v s' x => ?_) fun _ _ x => x.elim))
    exact ⟨o1.trans x.1, x.2.1, fun _ => (x.2.2 rfl).ok o1⟩

theorem wp_callH {A : Around} {s : Shared} {E : Value → Shared → Prop} {id : String} {first : List Value} {args : List (Bool × Sem Value)} {pos : Pos} {Q : Value → Shared → Prop} (hp : args.any (·.1) = false)
    (h : wpAny (model prog V.w) A (evalArgs (.builtin id) true args []) (fun a s1 => wpAny (model prog V.w) A (call (.builtin id) (first ++ a.pos) a.kw) Q E s1) E s) : wpAny (model prog V.w) A (callWith pos (.builtin id) first args []) Q E s := by
  unfold callWith
  refine wpAny_bind (wpAny_holding (wpAny_mono h (fun a s₁ h₁ => wpAny_bind (wpAny_standAt ?_)) fun _ _ x => x))
  have L : Looks (model prog V.w) s₁.heap (keeperOf (.builtin id)) Keeper.machine := Looks.of_pure rfl
  simp only [hp, List.any_nil, Bool.or_false]
  refine wpAny_bind (L.here ?_)
  have tail : ∀ {t : Sem Value}, wpAny (model prog V.w) A t Q E s₁ → wpAny (model prog V.w) A (t >>= fun r => holding [r] point >>= fun _ => pure r) Q E s₁ :=
    fun ht => wpAny_bind (wpAny_mono ht (fun r s₂ hr => wpAny_bind (wpAny_holding (wpAny_point (wpAny_pure hr)))) fun _ _ x => x)
  have marked (mk : Value) : wpAny (model prog V.w) A (callMarked mk (.builtin id) (first ++ a.pos) a.kw) Q E s₁ := by unfold callMarked; exact Calls.wpAny_keep h₁
  dsimp only
  first | exact tail h₁ | (split <;> first | exact tail h₁ | exact tail (marked _))
structure See (V : Wo) (env : Env) (h : Heap) : Prop where
  kind : env.scope.kind = .function
  g : h.Ns env.globals V.mg
  b : h.Ns env.builtins V.mb
theorem See.name {A : Around} {s : Shared} {E : Value → Shared → Prop} {env : Env} {x : Str} {pos : Pos} {v : Value} {Q : Value → Shared → Prop} (S : See V env s.heap) (hx : env.kindOf x = some .globalImplicit) (hv : Gl V x v) (h : Q v s) (hd : (x == ("__debug__" : Str)) = false) : wpAny (model prog V.w) A (eval (.Name x pos) env) Q E s := by
  refine Name_function_global S.kind hx ?_ hd
  rcases hv with hv | ⟨h1, h2⟩
  · exact loadGlobal_global S.g hv h
  · exact loadGlobal_builtin S.g h1 S.b h2 h
theorem See.len {A : Around} {s : Shared} {E : Value → Shared → Prop} {env : Env} {x : Str} {xp lp pos : Pos} {m : Str → Option Value} {l : List Nat} {t : Tok} {Q : Value → Shared → Prop} (X : Facts V) (S : See V env s.heap) (hl : env.kindOf "len" = some .globalImplicit) (hx : env.kindOf x = some .local) (hn : s.heap.Ns env.locals m) (hm : m x = some (.str ⟨l.toArray⟩ t)) (hlen : l.length < 1000000) (hd : (x == ("__debug__" : Str)) = false)
    (h : ∀ t' tk, Q (.int l.length t') { s with toks := tk }) : wpAny (model prog V.w) A (eval (.Call (.Name "len" lp) [.Name x xp] [] pos) env) Q E s := by
  show wpAny _ A (do callWith pos (← eval (.Name "len" lp) env) [] (backTo pos (starEach [.Name x xp] env)) (backToKw pos (keywordEach [] env))) _ _ s
  refine wpAny_bind (S.name hl X.len ?_ (by decide))
  refine wp_callH (by rw [starEach_cons (by first | exact ns rfl | exact nIt rfl | exact nAcc rfl | nofun), backTo_cons]; rfl) ?_
  rw [starEach_cons (by first | exact ns rfl | exact nIt rfl | exact nAcc rfl | nofun), backTo_cons]
  refine evalArgs_plain (spliced_cons (wpAny_Name (wpAny_loadName_local S.kind hx hn hm (spliced_nil ?_)) hd))
  exact PyProof.Rows.len_str (by rw [strLen]; (first | lia | omega)) (by rw [strLen]; exact h _ _)
noncomputable def lensL (l : List (List Nat × List Nat)) : Int := (l.map fun p => ((p.1.length : Int) + p.2.length)).sum
theorem preSum_len (l : List (List Nat × List Nat)) : preSum (fun i => (l[i]?.map fun p => ((p.1.length : Int) + p.2.length)).getD 0) l.length = lensL l := by
  unfold lensL
  have key : ∀ n, n ≤ l.length → preSum (fun i => (l[i]?.map fun p => ((p.1.length : Int) + p.2.length)).getD 0) n = ((l.take n).map fun p => ((p.1.length : Int) + p.2.length)).sum := by
    intro n
    induction n with
    | zero => intro _; simp [preSum]
    | succ n ih =>
      intro hn
      have hlt : n < l.length := by (first | lia | omega)
      rw [preSum, ih (by (first | lia | omega)), List.take_add_one, List.getElem?_eq_getElem hlt]
      simp only [Option.map_some, Option.getD_some, Option.toList_some, List.map_append, List.sum_append, List.map_cons, List.map_nil, List.sum_cons, List.sum_nil, Int.add_zero]
  have := key l.length (Nat.le_refl _)
  rw [List.take_length] at this
  exact this
theorem evalAttr {A : Around} {s : Shared} {E : Value → Shared → Prop} {env : Env} {K : List (Str × NameKind)} {ρ : Vars} {a d : Addr} {first : Int} {l : List (List Nat × List Nat)} {x : Str} {xp pos : Pos} {Q : Value → Shared → Prop} (X : AccFacts V) (Z : AccMore V) (g : GI V s) (R : REnv K env s.heap ρ) (hx : ρ x = some (.acc a d first l)) (hd : (x == ("__debug__" : Str)) = false) (hn : (x == ("__classdict__" : Str)) = false)
    (h : ∀ t, Q (.int first t) { s with toks := s.toks + 1 }) : wpAny (model prog V.w) A (eval (.Attribute (.Name x xp) "_initial_size" pos) env) Q E s := by
  rw [arm_eval_Attribute]
  obtain ⟨v, hlk, hv⟩ := R.vars x _ hx
  obtain ⟨_, _, rfl, _⟩ := PV.isAcc hv
  show wpAny _ A (eval (.Name x xp) env >>= _) _ _ s
  refine wpAny_bind (wp_name R.kind hlk ?_ hd hn)
  refine wpAny_bind (wpAny_standAt (wpAny_bind (wpAny_holding (acc_getAttr X Z g hv fun t => ?_))))
  exact wpAny_bind (wpAny_pure (wpAny_pure (h t)))
theorem len_cl {a d : Addr} {first : Int} {l : List (List Nat × List Nat)} (X : Facts V) (Y : AccFacts V) (Yf : AccFns V) (Z : AccMore V) (hl : ∀ p ∈ l, p.1.length < 1000 ∧ p.2.length < 1000) : Cl V (k + 2) (.ref 67) [.acc a d first l] (I (first + lensL l)) := by
  refine Cl.fnR (a := a) Yf.len rfl (.inl rfl) rfl fun A env s F g R hcode hq => ?_
  show wpAny _ A (do callWith _ (← eval (.Name "sum" _) env) [] (backTo _ (starEach [_, _] env)) (backToKw _ (keywordEach [] env))) _ _ s
  refine wpAny_bind (wp_global g R rfl X.sum ?_ (by decide))
  refine wp_callWith (by rw [starEach_cons (by first | exact ns rfl | exact nIt rfl | exact nAcc rfl | nofun), backTo_cons, starEach_cons (by first | exact ns rfl | exact nIt rfl | exact nAcc rfl | nofun), backTo_cons]; rfl) Kept.builtin ?_
  rw [starEach_cons (by first | exact ns rfl | exact nIt rfl | exact nAcc rfl | nofun), backTo_cons, starEach_cons (by first | exact ns rfl | exact nIt rfl | exact nAcc rfl | nofun), backTo_cons]
  refine evalArgs_plain (spliced_cons ?_)
  refine wp_genAcc (a := a) (d := d) (first := first) (l := l) (c := 66) (P := 62) Y F g R hcode (q := "_Accumulator.__len__.<locals>.<genexpr>") (by unfold tabList; exact .head _) (by rw [hq]; decide) rfl X.bmain (by decide) (by decide) rfl rfl (by decide) rfl rfl rfl (by decide) rfl (fun p y => ∃ t, y = .int ((p.1.length : Int) + p.2.length) t) ?_ ?_
  · intro A' E' cenv s₂ m₂ p ta tb hA hD hU hsc hgl hbl hp hns hma hmb hk
    have S : ∀ s3 : Shared, s3.heap = s₂.heap → See V cenv s3.heap := fun s3 e => ⟨by rw [hsc], by rw [hgl, e]; exact g.ok.g.keeps hk, by rw [hbl, e]; exact g.ok.b.keeps hk⟩
    obtain ⟨h1, h2⟩ := hl p hp
    refine wpAny_BinOp ?_
    refine (S s₂ rfl).len X (by unfold Env.kindOf; rw [hsc]; rfl) (by unfold Env.kindOf; rw [hsc]; rfl) hns hma (by (first | lia | omega)) (by decide) fun t1 k1 => ?_
    refine (S { s₂ with toks := k1 } rfl).len X (by unfold Env.kindOf; rw [hsc]; rfl) (by unfold Env.kindOf; rw [hsc]; rfl) hns hmb (by (first | lia | omega)) (by decide) fun t2 k2 => ?_
    exact PyProof.Rows.add_int ⟨⟨_, rfl⟩, s₂.heap, _, rfl, fun _ _ e => e⟩
  · intro I s5 o5 G5
    refine spliced_cons (evalAttr Y Z o5.gi (R.ok g o5) rfl (by decide) (by decide) fun t => spliced_nil ?_)
    obtain ⟨fp, wr, gi, St, W, hst, hT, hI, hfp, hcl⟩ := G5
    refine ⟨(Ok.tok o5.gi).gi, ?_⟩
    have hst' := W.frame 0 s5 s5.heap (s5.toks + 1) hst (Nat.le_succ _) fun _ _ _ e => e
    refine call_sum_start (W.in4_1.self 0 _ _ _ hst' ⟨I, fp, wr, GenOnlyQ gi, _, _, St, fun i => (l[i]?.map fun p => ((p.1.length : Int) + p.2.length)).getD 0, rfl, W.in4_1, hst', hfp, ?_, ?_⟩)
    · rintro i v ⟨p, hp, t, rfl⟩
      exact ⟨t, by dsimp only; rw [hp]; rfl⟩
    · intro s' t' m
      rw [preSum_len]
      have o := hcl s' ((Moved.refl W.grefl).then_heap (s' := s5) (h' := s5.heap) (Nat.le_succ _) (fun _ _ _ e => e) |>.trans W.gtrans m)
      exact ⟨o, ⟨_, rfl⟩, fun _ => Fresh.it⟩
noncomputable def textL (l : List (List Nat × List Nat)) : List Nat := (l.map fun p => p.1 ++ p.2).flatten
theorem itemsOf_strs {l : List (List Nat × List Nat)} {P : Nat → Value → Prop} (hP : ∀ i v, P i v → ∃ p t, l[i]? = some p ∧ v = .str ⟨(p.1 ++ p.2).toArray⟩ t) {m : List (Str × Tok)} (h : ItemsOf P (strValues m).toArray l.length) : m.map (·.1) = (l.map fun p => p.1 ++ p.2).map fun x => (⟨x.toArray⟩ : Str) := by
  obtain ⟨h1, h2⟩ := h
  have hl : m.length = l.length := by simpa [strValues] using h1
  apply List.ext_getElem?
  intro i
  rcases Nat.lt_or_ge i l.length with hi | hi
  · have hm : i < m.length := by (first | lia | omega)
    have hv : (strValues m).toArray[i]? = some (.str m[i].1 m[i].2) := by
      simp [strValues, hm]
    obtain ⟨p, t, hp, e⟩ := hP i _ (h2 i _ hv)
    have e1 : m[i].1 = ⟨(p.1 ++ p.2).toArray⟩ := by injection e
    have e2 : l[i]? = some l[i] := List.getElem?_eq_getElem hi
    rw [e2] at hp
    cases hp
    rw [List.getElem?_map, List.getElem?_map, List.getElem?_map, e2, List.getElem?_eq_getElem hm]
    simp only [Option.map_some, e1]
  · rw [List.getElem?_eq_none (by simp; (first | lia | omega)), List.getElem?_eq_none (by simp; (first | lia | omega))]
theorem str_cl {a d : Addr} {first : Int} {l : List (List Nat × List Nat)} (X : Facts V) (Y : AccFacts V) (Yf : AccFns V) (he : ∃ t, Gl V "EMPTYSTRING" (.str ⟨#[]⟩ t)) (hl : ∀ p ∈ l, p.1.length < 1000 ∧ p.2.length < 1000) (htot : (textL l).length < 1000000) (hn : l.length < 1000000) : Cl V (k + 2) (.ref 74) [.acc a d first l] (S (textL l)) := by
  obtain ⟨te, he⟩ := he
  refine Cl.fnR (a := a) Yf.str rfl (.inl rfl) rfl fun A env s F g R hcode hq => ?_
  refine wpAny_Call_method_lateS rfl ?_ rfl ?_
  · rw [starEach_cons (by first | exact ns rfl | exact nIt rfl | exact nAcc rfl | nofun), backTo_cons]; rfl
  refine wp_global g R rfl he ?_ (by decide)
  refine ⟨"str", "str.join", PySem.F.plainAttrs_str, PySem.F.slot_str_join, PySem.F.type_str_join, typeIs_str _ _ _, (by first | exact ns rfl | exact nIt rfl | exact nAcc rfl | nofun), wp_callWith (by rw [starEach_cons (by first | exact ns rfl | exact nIt rfl | exact nAcc rfl | nofun), backTo_cons]; rfl) Kept.builtin ?_⟩
  rw [starEach_cons (by first | exact ns rfl | exact nIt rfl | exact nAcc rfl | nofun), backTo_cons]
  refine evalArgs_plain (spliced_cons ?_)
  refine wp_genAcc (a := a) (d := d) (first := first) (l := l) (c := 73) (P := 69) Y F g R hcode (q := "_Accumulator.__str__.<locals>.<genexpr>") (by unfold tabList; exact .tail _ (.head _)) (by rw [hq]; decide) rfl X.bmain (by decide) (by decide) rfl rfl (by decide) rfl rfl rfl (by decide) rfl (fun p y => ∃ t, y = .str ⟨(p.1 ++ p.2).toArray⟩ t) ?_ ?_
  · intro A' E' cenv s₂ m₂ p ta tb hA hD hU hsc hgl hbl hp hns hma hmb hk
    have S : See V cenv s₂.heap := ⟨by rw [hsc], by rw [hgl]; exact g.ok.g.keeps hk, by rw [hbl]; exact g.ok.b.keeps hk⟩
    obtain ⟨h1, h2⟩ := hl p hp
    refine wpAny_Call_method_lateS rfl ?_ rfl ?_
    · rw [starEach_cons (by first | exact ns rfl | exact nIt rfl | exact nAcc rfl | nofun), backTo_cons]; rfl
    refine S.name (by unfold Env.kindOf; rw [hsc]; rfl) he ?_ (by decide)
    refine ⟨"str", "str.join", PySem.F.plainAttrs_str, PySem.F.slot_str_join, PySem.F.type_str_join, typeIs_str _ _ _, (by first | exact ns rfl | exact nIt rfl | exact nAcc rfl | nofun), wp_callH (by rw [starEach_cons (by first | exact ns rfl | exact nIt rfl | exact nAcc rfl | nofun), backTo_cons]; rfl) ?_⟩
    rw [starEach_cons (by first | exact ns rfl | exact nIt rfl | exact nAcc rfl | nofun), backTo_cons]
    refine evalArgs_plain (spliced_cons ?_)
    show wpAny _ _ (do standAt _; newTuple (← spliced (backTo _ (starEach [_, _] cenv)))) _ _ _
    rw [starEach_cons (by first | exact ns rfl | exact nIt rfl | exact nAcc rfl | nofun), backTo_cons, starEach_cons (by first | exact ns rfl | exact nIt rfl | exact nAcc rfl | nofun), backTo_cons]
    refine wpAny_bind (wpAny_standAt (wpAny_bind ?_))
    refine spliced_cons (wpAny_Name (wpAny_loadName_local S.kind (by unfold Env.kindOf; rw [hsc]; rfl) hns hma ?_) (by decide))
    refine spliced_cons (wpAny_Name (wpAny_loadName_local S.kind (by unfold Env.kindOf; rw [hsc]; rfl) hns hmb ?_) (by decide))
    refine spliced_nil ?_
    refine wpAny_newObj_type (spliced_nil ?_) (by show 2 ≤ sizeLine; rw [sizeLine_eq]; (first | lia | omega))
    refine PyProof.Rows.join_tuple (ys := [⟨p.1.toArray⟩, ⟨p.2.toArray⟩]) ⟨_, Heap.get?_push_size _ rfl, rfl, 0, rfl⟩ ?_ ?_ fun t' k' => ⟨⟨t', ?_⟩, _, _, rfl, fun b o e => Heap.get?_push_of_some _ e⟩
    · exact .cons _ _ (.cons _ _ .nil)
    · simp [strLen]; (first | lia | omega)
    · have := joinE [p.1, p.2]
      simp only [List.map_cons, List.map_nil] at this
      rw [this]
      simp
  · intro I s5 o5 G5
    refine spliced_nil ?_
    obtain ⟨fp, wr, gi, St, W, hst, hT, hI, hfp, hcl⟩ := G5
    refine ⟨o5.gi, ?_⟩
    refine SC.joinGen W.in4_2 hT hst hfp hI (fun i v ⟨p, hp, t, e⟩ => ⟨_, t, e⟩) (fun s' m hm hi => ?_) (by rw [sizeLine_eq]; (first | lia | omega))
    have e := itemsOf_strs (fun i v ⟨p, hp, t, e⟩ => ⟨p, t, hp, e⟩) hi
    rw [e]
    refine ⟨?_, fun t' k' => ?_⟩
    · unfold JoinOk
      rw [foldl_len]
      unfold Builtin.Str.tooLong sizeLine
      have : ¬ (0 + (textL l).length > 2 ^ 24) := by (first | lia | omega)
      unfold textL at this
      simpa using this
    · rw [joinE]
      have o := hcl s' hm
      exact ⟨o.trans (Ok.tok o.gi), ⟨t', rfl⟩, fun _ => Fresh.it⟩
end
end
section
open PySem PySem.Calls PyProof.Rows PySem.W PySem.Spec
theorem Fit.in1 {A : Around} {k : Nat} (h : Fit A (k + 1)) : Fit A.in1 k := ⟨h.handled, by have := h.depth; show A.depth + 2 * k < 990; (first | lia | omega), by have := h.units; show A.units + 1 + 40 * k < 9800; (first | lia | omega)⟩
section
variable {V : Wo} {k : Nat} {A : Around} {E : Value → Shared → Prop} {s : Shared} {a d : Addr} {vs : Array Value} {n : Nat}
theorem acc_bindFn {f : Addr} {self : Value} (X : AccFacts V) (g : GI V s) (hf : f ∈ ([38, 45, 53, 67, 74, 97] : List Addr)) : Looks (model prog V.w) s.heap (bindSpecial (.ref f) self) (.ref f, [self]) := by
  unfold bindSpecial
  exact ((X.fnT f hf).keeps g.keep).andThen (Looks.of_pure (by kernel_rfl))
theorem acc_specialFn {f : Addr} {nm : Str} {args : List Value} {Q : Option Value → Shared → Prop} (X : AccFacts V) (g : GI V s) (ho : s.heap.get? a = some (accObj d vs n)) (hl : Looks (model prog V.w) V.h0 (typeLookup (.ref accCls) nm) (some (.ref f))) (hf : f ∈ ([38, 45, 53, 67, 74, 97] : List Addr))
    (hc : wpAny (model prog V.w) A (call (.ref f) (.ref a :: args)) (fun v => Q (some v)) E s) : wpAny (model prog V.w) A (callSpecial? (.ref a) nm args) Q E s := by
  simp only [callSpecial?]
  refine wpAny_bind ((acc_special X g ho hl).here ?_)
  dsimp only
  refine wpAny_holding (wpAny_bind ((acc_bindFn X g hf).here ?_))
  exact wpAny_bind (wpAny_mono hc (fun v s' h' => wpAny_pure h') fun _ _ h' => h')
theorem Cl.lenAcc {first m : Int} {l : List (List Nat × List Nat)} (X : AccFacts V) (hc : Cl V k (.ref 67) [.acc a d first l] (I m)) (h0 : 0 ≤ m) (h1 : m < 1000000) : Cl V (k + 1) (.builtin "len") [.acc a d first l] (I m) := fun A s vs F g hps => by
  obtain ⟨v, rfl, hp⟩ := hps.one
  obtain ⟨vs, n, rfl, ho, hi⟩ := PV.isAcc hp
  refine call_function_entry PySem.kind_len PySem.plain_len PySem.entry_len (PySem.args_len1 _) ?_
  unfold Builtin.«len»
  refine wpAny_bind (m := oneArg "len" _) (wpAny_pure ?_)
  refine wpAny_bind (m := callSpecial? (.ref a) (Str.ofString "__len__")) (acc_specialFn X g ho (X.fns "__len__" 67 (by simp)) (by simp) (wpAny_mono (hc A.in1 s [.ref a] F.in1 g ⟨_, _, rfl, hp, rfl⟩) (fun r s' x => ?_) fun _ _ x => x.elim))
  obtain ⟨o, ⟨t, rfl⟩, _⟩ := x
  refine wpAny_bind (wpAny_holding (wpAny_pure ?_))
  refine wpAny_bind (wpAny_letGo ?_)
  show wpAny _ _ (if m < 0 then _ else _) _ _ _
  rw [if_neg (by (first | lia | omega))]
  show wpAny _ _ (if m ≥ 2 ^ 63 then _ else _) _ _ _
  rw [if_neg (by (first | lia | omega))]
  exact wpAny_bind (wpAny_mkInt (wpAny_pure ⟨_, rfl, o.trans (Ok.tok o.gi), ⟨_, rfl⟩, fun _ => Fresh.it⟩))
theorem Cl.strAcc {first : Int} {m : List Nat} {l : List (List Nat × List Nat)} (X : AccFacts V) (hc : Cl V k (.ref 74) [.acc a d first l] (S m)) : Cl V (k + 2) (.type "str") [.acc a d first l] (S m) := fun A s vs F g hps => by
  obtain ⟨v, rfl, hp⟩ := hps.one
  obtain ⟨vs, n, rfl, ho, hi⟩ := PV.isAcc hp
  refine callType_codes (T := "str") (Bi := Builtin.«object.__init__») (Q₁ := fun r s₁ => Ok V s s₁ ∧ (S m).is s₁.heap r) PySem.F.called_str (PySem.F.typeCall_str_1 _) PySem.F.entry_object_init ?_ ?_
  · refine codeAny_of_tree ?_
    show wpAny _ A.in1.in1 (do checkBuiltinCall "str.__new__" ⟨[.type "str", .ref a], []⟩; again (.builtin "str.__new__" ⟨[.type "str", .ref a], []⟩)) _ _ s
    refine wpAny_bind (wpAny_of_eq (PySem.F.newCall_str_1 _) (wpAny_pure ⟨plainId_quiet (by decide +kernel) _, codeAny_builtin PySem.F.entry_str_new ?_⟩))
    rw [Around.under_plainId (by decide +kernel) _]
    rw [str_new_tree]
    refine wpAny_bind (wpAny_pure ?_)
    refine wpAny_bind (wpAny_of_eq isSubtype_str_str ?_)
    refine wpAny_bind ?_
    unfold PySem.Builtin.Str.strOf
    rw [show PySem.Builtin.Str.isExactStr (.ref a) = false from rfl]
    refine wpAny_bind (m := cRoomFor _ _) (wpAny_cRoomFor F.in1.in1.line ?_)
    refine wpAny_bind (m := callSpecial? (.ref a) (Str.ofString "__str__")) (acc_specialFn X g ho (X.fns "__str__" 74 (by simp)) (by simp) (wpAny_mono (hc A.in1.in1 s [.ref a] F.in1.in1 g ⟨_, _, rfl, hp, rfl⟩) (fun r s' x => ?_) fun _ _ x => x.elim))
    obtain ⟨o, ⟨t, rfl⟩, _⟩ := x
    exact wpAny_pure (wpAny_pure ⟨o, t, rfl⟩)
  · rintro obj s₁ ⟨o, t, rfl⟩
    exact ⟨typeIs_str _ _ _, PySem.F.args_object_init_2 _ _, object_init_meets PySem.F.called_str.init.lookup PySem.F.called_str.made (by decide) prog V.w A.in1 _ s₁ ⟨typeIs_str _ _ _, rfl, ⟨o, ⟨t, rfl⟩, fun _ => Fresh.it⟩⟩⟩
end
end
section
open PySem PySem.Calls PyProof.Rows PySem.W PySem.Spec
structure AccSup (V : Wo) : Prop where
  sup : Gl V "super" (.type "super")
  count : FnAt V.h0 (srcIn accBody "part_count") "part_count" "_Accumulator.part_count" 97 96 [("__class__", 25)] .none
  init : FnAt V.h0 (srcIn accBody "__init__") "__init__" "_Accumulator.__init__" 38 37 [("__class__", 25)] (.ref 30)
  zero : ∃ t, V.h0.IsTuple 30 #[.int 0 t]
  cell : V.h0.IsCell 25 (some (.ref accCls))
  file : ∀ c ∈ ([37, 96] : List Addr), ∃ oc vs file tf, V.h0.get? c = some oc ∧ oc.data = .fields vs ∧ vs[2]? = some (.str file tf) ∧ ((prog.main.file : Str) == file) = true
  opq : Looks (model prog V.w) V.h0 (opaqueClassAbove (.ref accCls)) none
  self : Looks (model prog V.w) V.h0 (isSubtype (.ref accCls) (.ref accCls)) true
section
variable {V : Wo} {k : Nat} {A : Around} {E : Value → Shared → Prop} {s : Shared} {a d : Addr} {vs : Array Value} {n : Nat}
noncomputable abbrev supObj (a : Addr) : Obj := { cls := .type "super", dict := none, data := .fields #[.ref accCls, .ref a, .ref accCls], slots := #[] }
noncomputable abbrev wrapObj (id : String) (a : Addr) : Obj := { cls := .type "method-wrapper", data := .fields #[.builtin id, .ref a] }
theorem slot_wd_get : Slot "wrapper_descriptor" "__get__" "wrapper_descriptor.__get__" := .of (owner := "wrapper_descriptor") (n := "__get__") (by rw [typeLookup_type, builtinLookup_eq_fast]; kernel_rfl) (by decide +kernel) (by decide +kernel) (by decide +kernel)
  (by first | exact .inl (by decide +kernel) | exact .inr (by decide +kernel)) (by rw [isSubtype_type]; kernel_rfl)
theorem entry_wd_get : entryFor table "wrapper_descriptor.__get__" = some Builtin.«wrapper_descriptor.__get__» := entryFor_of_tree (by kernel_rfl)
theorem args_wd_get (a b c : Value) : argsOk "wrapper_descriptor.__get__" ⟨[a, b, c], []⟩ := by unfold argsOk; kernel_rfl
set_option maxHeartbeats 4000000 in
theorem sup_ga {so : Addr} {nm : Str} {id : String} {tk : Tok} {Q : Fin → Shared → Prop} (X : AccFacts V) (Z : AccMore V) (Y : AccSup V) (g : GI V s) (ho : s.heap.get? a = some (accObj d vs n)) (hso : s.heap.get? so = some (supObj a))
    (hcls : classOwn (.type "list") nm = pure (some (.builtin id))) (hty : typeOf (.builtin id) = pure (.type "wrapper_descriptor")) (hn : (nm == ("__class__" : Str)) = false)
    (hown : ".".intercalate (id.cutAt '.').dropLast = "list")
    (hq : Q (.done (.ret (.ref s.heap.objs.size))) { s with heap := s.heap.push (wrapObj id a) }) :
    wpAny (model prog V.w) A (Builtin.«super.__getattribute__» ⟨[.ref so, .str nm tk], []⟩) Q E s := by
  have hac : (Value.ref a == Value.ref accCls) = false := by
    obtain ⟨o, cd, e, hd, _⟩ := Z.cls
    have : a ≠ accCls := fun h => by rw [h, g.keep _ _ e] at ho; cases ho; cases hd
    simp [this]
  have hT : s.TypeIs (.builtin id) "wrapper_descriptor" := by
    show typeOf (.builtin id) = pure (.type "wrapper_descriptor")
    exact hty
  obtain ⟨h, gg, dd, t, os⟩ := s
  have hno := Y.opq.keeps g.keep
  have hC := Z.mro.keeps g.keep
  have hdt : (supObj a).data = .fields #[.ref accCls, .ref a, .ref accCls] := rfl
  have f0 : (#[.ref accCls, .ref a, .ref accCls] : Array Value)[0]? = some (.ref accCls) := rfl
  have f1 : (#[.ref accCls, .ref a, .ref accCls] : Array Value)[1]? = some (.ref a) := rfl
  have f2 : (#[.ref accCls, .ref a, .ref accCls] : Array Value)[2]? = some (.ref accCls) := rfl
  have hl : (([Value.ref accCls, .type "list", .type "object"] : List Value).dropWhile (· != .ref accCls)).drop 1 = [.type "list", .type "object"] := by decide
  have hsub : Looks (model prog V.w) h (isSubtype (accObj d vs n).cls (.type "list")) true := X.sub.keeps g.keep
  unfold Builtin.«super.__getattribute__»
  repeat (first
    | (rw [hown]; with_reducible refine Looks.at hsub ?_)
    | (with_reducible refine wpAny_newObj_type ?_ (by size_fits)) | unfold newFields
    | (with_reducible refine wpAny_field hso hdt f0 ?_) | (with_reducible refine wpAny_field hso hdt f1 ?_) | (with_reducible refine wpAny_field hso hdt f2 ?_)
    | (with_reducible refine ks_wpAny_notOpaque hno ?_)
    | (with_reducible refine Looks.at hC ?_; rw [hl, List.forIn_cons, hcls])
    | (with_reducible refine wpAny_of_eq hty ?_)
    | (with_reducible refine wpAny_of_eq slot_wd_get.lookup ?_)
    | (with_reducible refine wpAny_call_entry slot_wd_get hT entry_wd_get ?_ (args_wd_get _ _ _))
    | (with_reducible refine ⟨_, rfl, ?_⟩)
    | (simp only [hn, hac, Bool.or_false, Bool.false_eq_true, if_false])
    | wp_step
    | dsimp only)
  all_goals exact hq
theorem sup_getMethod {so : Addr} {nm : Str} {id : String} {pl : Sem Bool} {Q : Value × List Value → Shared → Prop} (X : AccFacts V) (Z : AccMore V) (Y : AccSup V) (g : GI V s) (ho : s.heap.get? a = some (accObj d vs n)) (hso : s.heap.get? so = some (supObj a))
    (hcls : classOwn (.type "list") nm = pure (some (.builtin id))) (hty : typeOf (.builtin id) = pure (.type "wrapper_descriptor")) (hn : (nm == ("__class__" : Str)) = false)
    (hown : ".".intercalate (id.cutAt '.').dropLast = "list")
    (hq : Q (.ref s.heap.objs.size, []) { s with heap := s.heap.push (wrapObj id a), toks := s.toks + 1 }) :
    wpAny (model prog V.w) A (getMethod (.ref so) nm pl) Q E s := by
  have hlk := PySem.F.ks_slot_super_ga.lookup
  have hcan := PySem.F.ks_canon_super_ga
  have hT : ∀ t', (({ s with toks := t' } : Shared)).TypeIs (.ref so) "super" := fun _ => ⟨_, hso, rfl⟩
  have g1 : GI V { s with toks := s.toks + 1 } := (Ok.tok g).gi
  unfold getMethod
  refine wpAny_bind (wpAny_specialOf (hT s.toks) hlk ?_)
  show wpAny _ _ (if (Manifest.canonical "super.__getattribute__" != "object.__getattribute__") = true then _ else _) _ _ _
  rw [if_pos hcan]
  unfold getAttr getAttrBy
  refine wpAny_bind (wpAny_bind (wpAny_mkText (wpAny_holding (wpAny_bind (wpAny_typeOf (hT _) (wpAny_bind (wpAny_of_eq hlk ?_)))))))
  show wpAny _ _ (getAttrByItsOwn (.ref so) (.str nm s.toks) (.type "super") (.builtin "super.__getattribute__") true false) _ _ _
  unfold getAttrByItsOwn hookBefore callGetattribute boundAndCalled
  refine wpAny_bind (wpAny_of_eq (show (if onTheHeap (.type "super") then typeLookup (.type "super") "__getattr__" else pure none) = pure none from rfl) ?_)
  refine wpAny_bind (wpAny_attempt (wpAny_holding ?_))
  show wpAny _ _ (bindSpecial (.builtin "super.__getattribute__") (.ref so) >>= _) _ _ _
  refine wpAny_bind (wpAny_of_eq (PySem.F.ks_slot_super_ga.bind _) ?_)
  refine wpAny_mono (Q := fun v s' => v = .ref s.heap.objs.size ∧ s' = { s with heap := s.heap.push (wrapObj id a), toks := s.toks + 1 }) (E := fun _ _ => False)
    (wpAny_call_entry PySem.F.ks_slot_super_ga (hT _) PySem.F.ks_entry_super_ga (sup_ga X Z Y g1 ho hso hcls hty hn hown ⟨_, rfl, rfl, rfl⟩) (PySem.F.ks_gaArgs_super _ _)) (fun v s' hv => ?_) fun _ _ z => z.elim
  obtain ⟨rfl, rfl⟩ := hv
  exact wpAny_pure (wpAny_pure hq)
theorem wrap_call {mw : Addr} {id : String} {b : Builtin} {pos : Pos} {Q : Value → Shared → Prop} (hmw : s.heap.get? mw = some (wrapObj id a)) (hchk : checkBoundCall id ⟨[.ref a], []⟩ = pure ()) (hq : plainId id = true) (hb : entryFor table id = some b)
    (h : wpAny (model prog V.w) A.in1 (b ⟨[.ref a], []⟩) (fun fin s' => ∃ v, fin = .done (.ret v) ∧ Q v s') E s) :
    wpAny (model prog V.w) A (callWith pos (.ref mw) [] (backTo pos (starEach [] env)) []) Q E s := by
  unfold callWith
  refine wpAny_bind (wpAny_holding ?_)
  unfold evalArgs
  show wpAny _ A (spliced [] >>= _) _ _ s
  refine wpAny_bind (spliced_nil (wpAny_bind (wpAny_pure (wpAny_holding (wpAny_bind (wpAny_pure (wpAny_bind (wpAny_pure (wpAny_pure (wpAny_bind (wpAny_standAt ?_)))))))))))
  have L : Looks (model prog V.w) s.heap (keeperOf (.ref mw)) Keeper.machine := (Looks.ld (part := none) hmw).andThen .now
  simp only [List.any_nil, Bool.or_false]
  refine wpAny_bind (L.here ?_)
  have one : wpAny (model prog V.w) A (call (.ref mw) []) Q E s := by
    refine wpAny_call (codeAny_of_tree ?_)
    show wpAny _ A.in1 (callAny (.ref mw) _) _ _ _
    unfold callAny
    refine wpAny_bind (wpAny_load hmw ?_)
    try dsimp only
    rw [if_pos (by decide)]
    show wpAny _ A.in1 (if (Value.type "method-wrapper" != Value.type "method") = true then (checkBoundCall id ⟨[.ref a], []⟩ >>= fun _ => again (Code.builtin id ⟨[.ref a], []⟩)) else _) _ _ s
    rw [if_pos (by decide)]
    refine wpAny_bind (wpAny_of_eq hchk ?_)
    refine wpAny_pure ⟨plainId_quiet hq _, codeAny_builtin hb ?_⟩
    rw [Around.under_plainId hq _]
    refine wpAny_mono h (fun fin s' hf => ?_) fun _ _ x => x
    obtain ⟨v, rfl, hv⟩ := hf
    exact hv
  have tail : ∀ {t : Sem Value}, wpAny (model prog V.w) A t Q E s → wpAny (model prog V.w) A (t >>= fun r => holding [r] point >>= fun _ => pure r) Q E s :=
    fun ht => wpAny_bind (wpAny_mono ht (fun r s₂ hr => wpAny_bind (wpAny_holding (wpAny_point (wpAny_pure hr)))) fun _ _ x => x)
  have marked (mk : Value) : wpAny (model prog V.w) A (callMarked mk (.ref mw) [] []) Q E s := by unfold callMarked; exact Calls.wpAny_keep one
  try dsimp only
  first | exact tail one | (split <;> first | exact tail one | exact tail (marked _))
theorem sup_base {fd : FuncData} {L fa c : Addr} {nm : Str} {body : List Stmt} {p0 p1 : Pos} {whole : Sem Value} {ar : Arg} {m : Str → Option Value} {Q : Value → Shared → Prop} (X : AccFacts V) (Z : AccMore V) (Y : AccSup V) (g : GI V s)
    (hs : fd.scope.names.lookup ("super" : Str) = some .globalImplicit) (hc : fd.scope.names.lookup ("__class__" : Str) = some .free) (hself : fd.scope.names.lookup ("self" : Str) = some .local) (hkind : fd.scope.kind = .function) (hcl : fd.closure = [(("__class__" : Str), 25)]) (hgl : fd.globals = mainGlobals) (hbl : fd.builtins = builtinsNs)
    (hcode : fd.code = .ref c) (hcm : c ∈ ([37, 96] : List Addr)) {of : Obj} (hof : s.heap.get? fa = some of) (hofd : of.data = .func fd) (hp : (fd.params.posonlyargs ++ fd.params.args).head? = some ar) (har : ar.arg = "self") (hns : s.heap.Ns L m) (hm : m "self" = some (.ref a)) (ho : s.heap.get? a = some (accObj d vs n)) (hat : (nm == ("__class__" : Str)) = false)
    (h : ∀ h', h'.get? s.heap.objs.size = some (supObj a) → (∀ y o, s.heap.get? y = some o → h'.get? y = some o) → Q (.ref s.heap.objs.size) { s with heap := h' }) :
    _root_.PySem.wpAt (model prog V.w) A (.func body (callEnv fd L fa)) (attributeBase (.Call (.Name "super" p0) [] [] p1) nm (callEnv fd L fa) whole) Q E s := by
  obtain ⟨oc, cvs, file, tf, hoc, hocd, hvs, hfile⟩ := Y.file c hcm
  obtain ⟨oC, cd, hC, hCd, hCh⟩ := Z.cls
  refine ks_wpAt_super_base (env := callEnv fd L fa) hs hc hat rfl hof hofd hp hcode (g.keep _ _ hoc) hocd hvs hfile rfl ?_
  refine ks_loadName_global hkind hs ?_
  have fin : ∀ {Q2 : Value → Shared → Prop}, Q2 (.type "super") s → wpAny (model prog V.w) A (loadGlobal (callEnv fd L fa) "super") Q2 E s := fun {Q2} hq => by
    have hg : s.heap.Ns (callEnv fd L fa).globals V.mg := by show s.heap.Ns fd.globals V.mg; rw [hgl]; exact g.ok.g.keeps g.keep
    have hb : s.heap.Ns (callEnv fd L fa).builtins V.mb := by show s.heap.Ns fd.builtins V.mb; rw [hbl]; exact g.ok.b.keeps g.keep
    rcases Y.sup with hv | ⟨h1, h2⟩
    · exact loadGlobal_global hg hv hq
    · exact loadGlobal_builtin hg h1 hb h2 hq
  refine fin ⟨rfl, ?_⟩
  obtain ⟨o25, h25, d25⟩ := Y.cell
  refine wpAny_loadName_free (c := 25) hkind hc (by show fd.closure.lookup _ = _; rw [hcl]; rfl) ⟨o25, g.keep _ _ h25, d25⟩ ?_
  rw [har]
  refine wpAny_loadName_local hkind hself hns hm ?_
  obtain ⟨hh, gg, dd, t, os⟩ := s
  refine ks_wpAny_isType_cls (g.keep _ _ hC) hCd ⟨rfl, ?_⟩
  refine ks_wpAny_call_super (g.keep _ _ hC) hCd ho rfl (fun c e => by cases e) (Y.self.keeps g.keep) (fun h' e k => ?_)
  exact h h' e k
theorem count_cl {k : Nat} {first : Int} {l : List (List Nat × List Nat)} (X : AccFacts V) (Z : AccMore V) (Y : AccSup V) (hl : l.length < 1000000) : Cl V (k + 2) (.ref 97) [.acc a d first l] (I l.length) := fun A s ws F g hps => by
  obtain ⟨v, rfl, hp⟩ := hps.one
  obtain ⟨fd, hfo, hn, hq, hsr, ⟨bd, hbd⟩, hcl, hgl, hbl, hdf, hkd, hcode⟩ := Y.count.obj
  have e1 : some _ = some _ := (show srcIn accBody "part_count" = some _ from rfl).symm.trans hsr
  simp only [Option.some.injEq, Prod.mk.injEq] at e1
  obtain ⟨ep, eb, es⟩ := e1
  rw [hbd] at eb
  dsimp only at eb
  subst eb
  obtain ⟨vs, n, rfl, ho, hi⟩ := PV.isAcc hp
  have e2 : vs.size = l.length := by have := hi.length; simpa [accItems] using this
  refine wpAny_call (ks_codeAny_call_defAt (binds := [("self", .ref a)]) F.room (g.keep _ _ hfo) rfl (g.ok.nolimit.keeps g.keep) (by rw [hcode, hq]; exact Y.count.code.keeps g.keep) hbd (.of_eq (bind1 (a := { arg := "self", annotation := none, pos := _ }) ep.symm hdf)) (by rw [← es]; decide) (fun x hx => ?_) (fun h₁ hns hkeep => ?_) (by rw [← es]) (by rw [← es]) (by rw [← es]))
  · rw [List.mem_singleton] at hx
    subst hx
    rw [← es]; rfl
  · have o1 : Ok V s { s with heap := h₁, toks := s.toks + ([("self", Value.ref a)] : List (Str × Value)).length } := Ok.grow g hkeep
    refine ks_wpAt_execs_cons (ks_wpAt_Return_some (ks_wpAt_MethodCall (pl := _) (sup_base (nm := "__len__") (c := 96) X Z Y o1.gi (by rw [← es]; rfl) (by rw [← es]; rfl) (by rw [← es]; rfl) (by rw [← es]) hcl hgl hbl hcode (by simp) (o1.at g (g.keep _ _ hfo) (by first | exact ns rfl | exact nIt rfl | exact nAcc rfl | nofun)) rfl (by rw [← ep]; rfl) rfl hns rfl (o1.at g ho (by first | exact ns rfl | exact nIt rfl | exact nAcc rfl | nofun)) (by decide) fun h' hso hk' => ?_)))
    have o2 : Ok V { s with heap := h₁, toks := s.toks + ([("self", Value.ref a)] : List (Str × Value)).length } { s with heap := h', toks := s.toks + ([("self", Value.ref a)] : List (Str × Value)).length } := Ok.grow o1.gi hk'
    have o12 := o1.trans o2
    refine sup_getMethod (id := "list.__len__") X Z Y o2.gi (o12.at g ho (by first | exact ns rfl | exact nIt rfl | exact nAcc rfl | nofun)) hso rfl rfl (by decide) (by decide +kernel) ?_
    refine wrap_call (a := a) (id := "list.__len__") (b := Builtin.«list.__len__») (Heap.get?_push_size _ rfl) (by kernel_rfl) (by decide +kernel) PySem.entry_list_len ?_
    show wpAny _ _ (do retInt (← seqSize a)) _ _ _
    unfold seqSize
    have ho3 : (h'.push (wrapObj "list.__len__" a)).get? a = some (accObj d vs n) := Heap.get?_push_of_some _ (o12.at g ho (by first | exact ns rfl | exact nIt rfl | exact nAcc rfl | nofun))
    refine wpAny_bind (wpAny_bind (wpAny_load ho3 ?_))
    refine wpAny_pure (wpAny_bind (wpAny_mkInt (wpAny_pure ⟨_, rfl, ?_⟩)))
    have o3 : Ok V { s with heap := h', toks := s.toks + ([("self", Value.ref a)] : List (Str × Value)).length } _ := Ok.grow (tk := s.toks + ([("self", Value.ref a)] : List (Str × Value)).length + 1 + 1) o2.gi (fun b o e => Heap.get?_push_of_some (wrapObj "list.__len__" a) e)
    exact ⟨o12.trans o3, ⟨_, by rw [e2]⟩, fun _ => Fresh.it⟩
end
end
section
open PySem PySem.Calls PyProof.Rows PySem.W PySem.Spec
section
variable {V : Wo} {k : Nat} {A : Around} {E : Value → Shared → Prop} {s : Shared} {a d : Addr} {vs : Array Value} {n : Nat}
theorem refuse_list (self : Value) : refuseLoop self "__setattr__" [.type "list", .type "object"] = pure () := by kernel_rfl
noncomputable def oneDict (w : World) (v : Value) (t : Tok) : Obj := { cls := .type "dict", data := .dict #[⟨PyData.keyHash w.params "_initial_size", .str "_initial_size" t, v⟩] 1 }
theorem acc_setAttr {v : Value} {Q : Unit → Shared → Prop} (X : AccFacts V) (Z : AccMore V) (g : GI V s) (ho : s.heap.get? a = some (accObj d vs n)) (hd : s.heap.get? d = some emptyDict) (h0 : V.h0.get? d = none)
    (h : ∀ t tk h', h'.get? d = some (oneDict V.w v t) → Heap.SameBut d s.heap h' → Q () { s with heap := h', toks := tk }) : wpAny (model prog V.w) A (setAttr (.ref a) "_initial_size" v) Q E s := by
  have SF := PySem.F.store_object
  unfold setAttr
  have g1 : GI V { s with toks := s.toks + 1 } := (Ok.tok g).gi
  have ho1 : ({ s with toks := s.toks + 1 } : Shared).heap.get? a = some (accObj d vs n) := ho
  refine wpAny_bind (wpAny_mkText (wpAny_bind (acc_callSpecial X g1 ho1 Z.sa SF.slot.bind ?_)))
  have sub : Looks (model prog V.w) ({ s with toks := s.toks + 1 } : Shared).heap (isInstance (.ref a) (.type "object")) true := (acc_type ho1).andThen (Z.obj.keeps g1.keep)
  refine wpAny_call (codeAny_call_builtin SF.slot.plain SF.entry (check_slot (i := "object.__setattr__") SF.kind SF.split sub (SF.args _ _ _) ?_))
  rw [osa_eq, refuse_eq]
  refine wpAny_bind (wpAny_bind ((acc_type ho1).here (wpAny_bind ((Z.mro.keeps g1.keep).here ?_))))
  rw [refuseLoop_ref, refuse_list]
  refine wpAny_pure (wpAny_bind ((acc_type ho1).here (wpAny_bind ((Z.miss.keeps g1.keep).here ?_))))
  refine wpAny_bind (wpAny_pure ?_)
  dsimp only
  unfold Builtin.ObjectAttr.storeInOwnDict
  refine wpAny_bind (wpAny_pure ?_)
  rw [if_neg (by decide)]
  unfold Builtin.ObjectAttr.ownDictForStores
  refine wpAny_bind (acc_instDict Z g1 ho1 ?_)
  dsimp only
  unfold Builtin.ObjectAttr.storeInDict Builtin.ObjectAttr.newKeyGuard
  refine wpAny_bind (wpAny_pure (wpAny_bind ?_))
  unfold nsSet
  refine wpAny_bind (wpAny_bind (wpAny_askSetting (wpAny_pure (wpAny_bind (wpAny_mkText (wpAny_bind (wpAny_loadPart hd ?_)))))))
  dsimp only
  rw [aRefKeyMayBeTheName_at]
  rw [if_neg (by simp)]
  refine wpAny_updatePart hd ?_
  have e1 : Obj.putName "_initial_size" (PyData.keyHash V.w.params "_initial_size") (.str "_initial_size" (s.toks + 1)) v emptyDict = oneDict V.w v (s.toks + 1) := rfl
  have hdd := Heap.get?_update_self (h := s.heap) (Obj.putName "_initial_size" (PyData.keyHash V.w.params "_initial_size") (.str "_initial_size" (s.toks + 1)) v) hd rfl
  rw [e1] at hdd
  refine wpAny_bind (wpAny_lookBehind hdd (pastItsLine_dict (by show 1 ≤ _; rw [sizeLine_eq]; (first | lia | omega))) ?_)
  exact wpAny_pure (wpAny_pure (h _ _ _ hdd (Heap.SameBut.update ..)))
theorem initTail {first : Int} {t : Tok} {h : Heap} {tk : Tok} {n' : Nat} (ho : h.get? a = some (accObj d #[] n')) (hd : h.get? d = some (oneDict V.w (.int first t) tk)) : (PV.acc a d first []).is h (.ref a) := by
  refine ⟨#[], n', _, 1, t, rfl, ho, rfl, hd, ?_, ?_⟩
  · intro e he
    simp at he
    subst he
    exact ⟨_, _, rfl⟩
  · intro x
    by_cases hx : x = ("_initial_size" : Str)
    · subst hx
      rw [if_pos rfl]
      unfold nsFind findBy
      simp
      show ((Str.ofString "_initial_size") == (Str.ofString "_initial_size")) = true
      simp
    · rw [if_neg hx]
      unfold nsFind findBy
      have : (Value.str (Str.ofString "_initial_size") tk).isStr x = false := by
        show ((Str.ofString "_initial_size") == x) = false
        simpa using fun h => hx h.symm
      simp [this]
theorem init_run {first : Int} {t : Tok} (X : AccFacts V) (Z : AccMore V) (Y : AccSup V) (F : Fit A (k + 1)) (g : GI V s) (ho : s.heap.get? a = some (accObj d #[] n)) (hd : s.heap.get? d = some emptyDict) (h0 : V.h0.get? d = none) (ha0 : V.h0.get? a = none) :
    wpAny (model prog V.w) A (call (.ref 38) [.ref a, .int first t]) (fun v s' => v = .none ∧ Mo V [a, d] s s' ∧ (PV.acc a d first []).is s'.heap (.ref a)) No s := by
  have hda : d ≠ a := fun h => by rw [h, ho] at hd; cases hd
  obtain ⟨fd, hfo, hn, hq, hsr, ⟨bd, hbd⟩, hcl, hgl, hbl, hdf, hkd, hcode⟩ := Y.init.obj
  have e1 := (show srcIn accBody "__init__" = some _ from rfl).symm.trans hsr
  simp only [Option.some.injEq, Prod.mk.injEq] at e1
  obtain ⟨ep, eb, es⟩ := e1
  rw [hbd] at eb
  dsimp only at eb
  subst eb
  obtain ⟨tz, hT⟩ := Y.zero
  refine wpAny_call (ks_codeAny_call_defAt (binds := [("self", .ref a), ("initial_size", .int first t)]) F.room (g.keep _ _ hfo) rfl (g.ok.nolimit.keeps g.keep) (by rw [hcode, hq]; exact Y.init.code.keeps g.keep) hbd (bindS2 (x := .int 0 tz) ep.symm hdf (let ⟨o, e, r⟩ := hT; ⟨o, g.keep _ _ e, r⟩)) (by rw [← es]; decide) (fun x hx => ?_) (fun h₁ hns hkeep => ?_) (by rw [← es]) (by rw [← es]) (by rw [← es]))
  · simp only [List.mem_cons, List.not_mem_nil, or_false] at hx
    rw [← es]
    rcases hx with rfl | rfl <;> rfl
  · have o1 : Ok V s { s with heap := h₁, toks := s.toks + ([("self", Value.ref a), ("initial_size", .int first t)] : List (Str × Value)).length } := Ok.grow g hkeep
    have hL : s.heap.get? s.heap.objs.size = none := fresh_none (Nat.le_refl _)
    have hLd : s.heap.objs.size ≠ d := fun e => by rw [e, hd] at hL; cases hL
    have ho1 := o1.at g ho (by first | exact ns rfl | exact nIt rfl | exact nAcc rfl | nofun)
    have hd1 := o1.at g hd (by first | exact ns rfl | exact nIt rfl | exact nAcc rfl | nofun)
    have hk : fd.scope.kind = .function := by rw [← es]
    refine ks_wpAt_execs_cons (ks_wpAt_Assign_Attr (wpAt_of_wpAny (wpAny_Name (wpAny_loadName_local hk (by show fd.scope.names.lookup _ = _; rw [← es]; rfl) hns rfl ?_) (by decide))))
    refine wpAny_Name (wpAny_loadName_local hk (by show fd.scope.names.lookup _ = _; rw [← es]; rfl) hns rfl ?_) (by decide)
    refine acc_setAttr X Z o1.gi ho1 hd1 h0 fun t2 tk2 h2 hd2 hs2 => ?_
    have m2 : Mo V [d] { s with heap := h₁, toks := s.toks + ([("self", Value.ref a), ("initial_size", .int first t)] : List (Str × Value)).length } { s with heap := h2, toks := tk2 } := Mo.of (s := { s with heap := h₁, toks := s.toks + ([("self", Value.ref a), ("initial_size", .int first t)] : List (Str × Value)).length }) (tk := tk2) o1.gi (fun b hb => by
      rw [List.mem_singleton] at hb; subst hb
      exact ⟨h0, fun o e' => .inr fun ws h => by rw [hd1] at e'; cases e'; cases h⟩) fun b o hb e' => hs2.extBut b o (fun h => hb (by rw [h]; simp)) e'
    have ho2 : h2.get? a = some (accObj d #[] n) := hs2.extBut _ _ (Ne.symm hda) ho1
    refine ks_wpAt_execs_cons (ks_wpAt_Expr_any (ks_wpAt_MethodCall (pl := _) (sup_base (nm := "__init__") (c := 37) (s := { s with heap := h2, toks := tk2 }) X Z Y m2.gi (by rw [← es]; rfl) (by rw [← es]; rfl) (by rw [← es]; rfl) hk hcl hgl hbl hcode (by simp) (m2.gi.keep _ _ hfo) rfl (by rw [← ep]; rfl) rfl (hns.sameBut hs2 hLd) rfl ho2 (by decide) fun h' hso hk' => ?_)) (by unfold interactive; show (fd.scope.kind == _ && _) = _; rw [hk]; rfl))
    have o3 : Ok V { s with heap := h2, toks := tk2 } { s with heap := h', toks := tk2 } := Ok.grow (s := { s with heap := h2, toks := tk2 }) m2.gi hk'
    refine sup_getMethod (id := "list.__init__") (s := { s with heap := h', toks := tk2 }) X Z Y o3.gi (hk' _ _ ho2) hso rfl rfl (by decide) (by decide +kernel) ?_
    have o4 : Ok V { s with heap := h', toks := tk2 } { s with heap := h'.push (wrapObj "list.__init__" a), toks := tk2 + 1 } := Ok.grow (s := { s with heap := h', toks := tk2 }) o3.gi fun b o e => Heap.get?_push_of_some _ e
    refine wrap_call (a := a) (id := "list.__init__") (b := Builtin.«list.__init__») (s := { s with heap := h'.push (wrapObj "list.__init__" a), toks := tk2 + 1 }) (Heap.get?_push_size _ rfl) (by kernel_rfl) (by decide +kernel) PySem.F.entry_list_init ?_
    have ho4 : (h'.push (wrapObj "list.__init__" a)).get? a = some (accObj d #[] n) := Heap.get?_push_of_some _ (hk' _ _ ho2)
    have hd4 : (h'.push (wrapObj "list.__init__" a)).get? d = some (oneDict V.w (.int first t) t2) := Heap.get?_push_of_some _ (hk' _ _ hd2)
    show wpAny _ _ (Builtin.List.listItems (.ref a) >>= fun old => Builtin.List.listUpdate (.ref a) (fun _ => #[]) >>= fun _ => letGo old.toList.reverse >>= fun _ => ret .none) _ _ _
    refine wpAny_bind (wp_listItems ho4 rfl ?_)
    unfold Builtin.List.listUpdate
    have hs4 := Heap.SameBut.update (h'.push (wrapObj "list.__init__" a)) a (Obj.mapSeq fun _ => #[])
    have hau := Heap.get?_update_self (Obj.mapSeq fun _ => #[]) ho4 rfl
    refine wpAny_bind (wpAny_updateSeq ho4 rfl (wpAny_bind (wpAny_letGo (wpAny_pure ⟨_, rfl, ?_⟩))) (by show 0 ≤ _; (first | lia | omega)) (by show 0 ≤ _; (first | lia | omega)))
    refine wpAt_of_wpAny (wpAny_execs_nil ?_)
    have m5 : Mo V [a] { s with heap := h'.push (wrapObj "list.__init__" a), toks := tk2 + 1 } { s with heap := (h'.push (wrapObj "list.__init__" a)).update a (Obj.mapSeq fun _ => #[]), toks := tk2 + 1 } := Mo.of (s := { s with heap := h'.push (wrapObj "list.__init__" a), toks := tk2 + 1 }) (tk := tk2 + 1) o4.gi (fun b hb => by
      rw [List.mem_singleton] at hb; subst hb
      exact ⟨ha0, fun o e' => .inr fun ws h => by rw [ho4] at e'; cases e'; cases h⟩) fun b o hb e' => hs4.extBut b o (fun h => hb (by rw [h]; simp)) e'
    refine ⟨rfl, ?_, initTail hau (hs4.extBut _ _ hda hd4)⟩
    refine Mo.trans (w2 := [a, d]) (Mo.trans (w2 := [a, d]) (o1.mo (wr := [])) m2 (fun _ h => (by cases h)) fun x hx => ?_) (Mo.trans (w2 := [a]) ((o3.trans o4).mo (wr := [])) m5 (fun _ h => (by cases h)) fun x hx => .inl hx) (fun _ h => h) fun x hx => ?_
    · rw [List.mem_singleton] at hx; subst hx; exact .inl (by simp)
    · rw [List.mem_singleton] at hx; subst hx; exact .inl (by simp)
end
end
section
open PySem PySem.Calls PyProof.Rows PySem.W PySem.Spec
structure AccMake (V : Wo) : Prop where
  obj : ∃ oc od cd sl, V.h0.get? accCls = some ⟨oc, od, .cls cd, sl⟩ ∧ cd.abstract = false ∧ cd.hasDel = false ∧ cd.mro.isEmpty = false
  made : Looks (model prog V.w) V.h0 (Bind.madeBy (.ref accCls)) (some "list.__new__")
  base : Looks (model prog V.w) V.h0 (Bind.staticBase (.ref accCls)) (.ref accCls)
  call : Looks (model prog V.w) V.h0 (specialOf (.ref accCls) "__call__") (some (.builtin "type.__call__"))
  typ : Looks (model prog V.w) V.h0 (isInstance (.ref accCls) (.type "type")) true
section
variable {V : Wo} {k : Nat} {A : Around} {E : Value → Shared → Prop} {s : Shared}
theorem ln_kind : builtinKind "list.__new__" = some .builtinFn := by decide +kernel
theorem ln_split : splitId "list.__new__" = some ("list", "__new__") := by decide +kernel
theorem ln_sig : Manifest.signature? "list.__new__" = none ∨ ∃ g, Manifest.signature? "list.__new__" = some g ∧ ∀ a b : Value, Bind.checkArgs "list.__new__" g ⟨[a, b], []⟩ = pure () := by
  cases h : Manifest.signature? "list.__new__" with
  | none => exact .inl rfl
  | some g =>
    refine .inr ⟨g, rfl, fun a b => ?_⟩
    have : argsOk "list.__new__" ⟨[a, b], []⟩ := by unfold argsOk; kernel_rfl
    simp only [argsOk, h] at this
    exact this
theorem acc_new {v : Value} {R : Result → Shared → Prop} (X : AccFacts V) (Y : AccSup V) (M : AccMake V) (g : GI V s)
    (hq : R (.ok (.ret (.ref (s.heap.objs.size + 1)))) { s with heap := (s.heap.push emptyDict).push (accObj s.heap.objs.size #[] 0) }) :
    codeAny (model prog V.w) A (.call (.builtin "list.__new__") ⟨[.ref accCls, v], []⟩) R s := by
  obtain ⟨oc, od, cd, sl, hC0, e1, e2, e4⟩ := M.obj
  have hC := g.keep _ _ hC0
  have made := M.made.keeps g.keep
  have base := M.base.keeps g.keep
  have sub := X.sub.keeps g.keep
  refine codeAny_of_tree ?_
  show wpAny _ A.in1 (do checkBuiltinCall "list.__new__" ⟨[.ref accCls, v], []⟩; again (.builtin "list.__new__" ⟨[.ref accCls, v], []⟩)) _ _ s
  have isT : ∀ {A' : Around} {Q : Bool → Shared → Prop} {E' : Value → Shared → Prop}, Q true s → wpAny (model prog V.w) A' (isType (.ref accCls)) Q E' s := fun {A' Q E'} h => by
    obtain ⟨hh, gg, dd, t, os⟩ := s
    exact ks_wpAny_isType_cls hC rfl h
  have canon : (Manifest.canonical "list.__new__" != Manifest.canonical "list.__new__") = false := by simp
  refine wpAny_bind ?_
  · unfold checkBuiltinCall
    simp only [ln_kind, ln_split]
    rw [if_pos (by decide)]
    refine wpAny_bind (isT ?_)
    simp only [Bool.not_true, Bool.false_eq_true, if_false]
    refine wpAny_bind (sub.here ?_)
    simp only [Bool.not_true, Bool.false_eq_true, if_false]
    refine wpAny_bind (base.here (wpAny_bind (made.here ?_)))
    simp only [canon, Bool.false_eq_true, if_false]
    have fin : wpAny (model prog V.w) A.in1 (again (.builtin "list.__new__" ⟨[.ref accCls, v], []⟩)) (fun fin s' => match fin with | .done f => R (.ok f) s' | .again c' => c'.quiet = true ∧ codeAny (model prog V.w) A c' R s') (fun e s' => R (.error e) s') s := by
      refine wpAny_pure ⟨plainId_quiet PySem.F.plain_list_new _, codeAny_builtin_stack PySem.F.entry_list_new rfl fun p st => ?_⟩
      rw [Around.under_plainId PySem.F.plain_list_new _]
      have hown := owner_list_new
      simp only [hown]
      refine wpAny_bind (isT ?_)
      simp only [Bool.not_true, Bool.false_eq_true, if_false]
      refine wpAny_bind (sub.here ?_)
      simp only [Bool.not_true, Bool.false_eq_true, if_false]
      refine wpAny_bind (wpAny_pure ?_)
      rw [if_neg (by show ¬ ((!true) = true); decide)]
      refine wpAny_bind ?_
      show wpAny _ _ (newObj (.type "dict") (.dict #[])) _ _ _
      refine wpAny_newObj_type ?_
      dsimp only
      refine wpAny_bind ?_
      show wpAny _ _ (newObjAsIs _ _ _) _ _ _
      unfold newObjAsIs classHasDel
      have hC1 : ((s.heap.push emptyDict).push (accObj s.heap.objs.size #[] 0)).get? accCls = some ⟨oc, od, .cls cd, sl⟩ := Heap.get?_push_of_some _ (Heap.get?_push_of_some _ hC)
      refine wpAny_bind (wpAny_alloc (wpAny_bind (wpAny_bind (wpAny_load hC1 (wpAny_pure ?_)))))
      rw [e2]
      refine wpAny_pure (wpAny_pure ?_)
      show R _ _
      rw [Heap.size_push]
      exact hq
    rcases ln_sig with h | ⟨sg, h, hck⟩
    · rw [h]
      exact wpAny_pure fin
    · rw [h]
      exact wpAny_of_eq (hck _ _) fin
theorem acc_make {first : Int} {t : Tok} (X : AccFacts V) (Z : AccMore V) (Y : AccSup V) (M : AccMake V) (F : Fit A (k + 2)) (g : GI V s) :
    wpAny (model prog V.w) A (call (.ref accCls) [.int first t]) (fun v s' => Ok V s s' ∧ ∃ a d, v = .ref a ∧ (PV.acc a d first []).is s'.heap (.ref a) ∧ s.heap.get? a = none ∧ s.heap.get? d = none) No s := by
  obtain ⟨oc, od, cd, sl, hC0, e1, e2, e4⟩ := M.obj
  have hC := g.keep _ _ hC0
  have hcall := M.call.keeps g.keep
  have hmro := Z.mro.keeps g.keep
  have hmade := M.made.keeps g.keep
  have htyp := M.typ.keeps g.keep
  refine wpAny_call (codeAny_of_tree ?_)
  show wpAny _ _ (callAny (.ref accCls) _) _ _ _
  refine nd_load hC ?_
  show wpAny _ _ (callAny.viaDunder (.ref accCls) _) _ _ _
  unfold callAny.viaDunder
  refine wpAny_bind (hcall.here ?_)
  dsimp only
  rw [tc_bind]
  refine wpAny_bind (wpAny_pure (wpAny_bind (wpAny_pure ?_)))
  refine wpAny_pure (a := Fin.again (.call (.builtin "type.__call__") ⟨[.ref accCls, .int first t], []⟩)) (And.intro rfl ?_)
  refine codeAny_call_builtin_at (Code.quiet_builtin _ (by decide +kernel)) entry_typeCall (check_slot tc_kind tc_split htyp (tc_args _ _ _) ?_)
  unfold Builtin.«type.__call__»
  dsimp only
  rw [if_neg (by decide)]
  refine wpAny_bind (hmro.here ?_)
  rw [if_neg (by decide)]
  refine wpAny_bind (hmade.here ?_)
  refine wpAny_bind (wpAny_pure (wpAny_bind (wpAny_holding (wpAny_call (acc_new X Y M g ?_)))))
  have o1 : Ok V s { s with heap := (s.heap.push emptyDict).push (accObj s.heap.objs.size #[] 0) } := Ok.grow (tk := s.toks) g fun b o e => Heap.get?_push_of_some _ (Heap.get?_push_of_some _ e)
  have hd : ((s.heap.push emptyDict).push (accObj s.heap.objs.size #[] 0)).get? s.heap.objs.size = some emptyDict := Heap.get?_push_of_some _ (Heap.get?_push_size _ rfl)
  have ho : ((s.heap.push emptyDict).push (accObj s.heap.objs.size #[] 0)).get? (s.heap.objs.size + 1) = some (accObj s.heap.objs.size #[] 0) := by
    have := Heap.get?_push_size (s.heap.push emptyDict) (o := accObj s.heap.objs.size #[] 0) rfl
    rwa [Heap.size_push] at this
  have hd0 : s.heap.get? s.heap.objs.size = none := fresh_none (Nat.le_refl _)
  have ha0 : s.heap.get? (s.heap.objs.size + 1) = none := fresh_none (Nat.le_succ _)
  have inst : Looks (model prog V.w) ((s.heap.push emptyDict).push (accObj s.heap.objs.size #[] 0)) (isInstance (.ref (s.heap.objs.size + 1)) (.ref accCls)) true := (acc_type (V := V) (s := { s with heap := (s.heap.push emptyDict).push (accObj s.heap.objs.size #[] 0) }) ho).andThen (Y.self.keeps o1.gi.keep)
  show wpAny _ _ (isInstance (.ref (s.heap.objs.size + 1)) (.ref accCls) >>= _) _ _ _
  refine wpAny_bind (inst.here ?_)
  rw [if_neg (by decide)]
  have hw : (Code.builtin "type.__call__" ⟨[.ref accCls, .int first t], []⟩).weight ≤ 2 := by
    rw [show (Code.builtin "type.__call__" ⟨[.ref accCls, .int first t], []⟩).weight = 1 by kernel_rfl]; decide
  have hu : (Code.builtin "type.__call__" ⟨[.ref accCls, .int first t], []⟩).cUnits ≤ 40 := by
    rw [show (Code.builtin "type.__call__" ⟨[.ref accCls, .int first t], []⟩).cUnits = 1 by kernel_rfl]; decide
  have F' : Fit (A.under (.builtin "type.__call__" ⟨[.ref accCls, .int first t], []⟩)) (k + 1) := ⟨F.handled, by have := F.depth; show A.depth + _ + 2 * (k + 1) < 990; (first | lia | omega), by have := F.units; show A.units + _ + 40 * (k + 1) < 9800; (first | lia | omega)⟩
  refine wpAny_bind (wpAny_holding (acc_specialFn X o1.gi ho (X.fns "__init__" 38 (by simp)) (by simp) (wpAny_mono (init_run (a := s.heap.objs.size + 1) (d := s.heap.objs.size) X Z Y F' o1.gi ho hd (g.noH0 hd0) (g.noH0 ha0)) (fun v s' h => ?_) fun _ _ x => x.elim)))
  obtain ⟨rfl, m, hp⟩ := h
  dsimp only
  rw [if_neg (by decide)]
  refine wpAny_pure ⟨o1.mod m (fun x hx => ?_), _, _, rfl, hp, ha0, hd0⟩
  simp only [List.mem_cons, List.not_mem_nil, or_false] at hx
  rcases hx with rfl | rfl
  · exact ha0
  · exact hd0
end
end
section
open PySem PySem.Calls PyProof.Rows PySem.W PySem.Spec
theorem Kept.cls {V : Wo} (M : AccMake V) : Kept V (.ref accCls) := fun s g => by
  obtain ⟨oc, od, cd, sl, hC, _⟩ := M.obj
  refine ⟨.machine, .inr (.inl rfl), ?_⟩
  unfold keeperOf
  refine (Looks.ld (part := none) (g.keep _ _ hC)).andThen ?_
  dsimp only
  refine (M.call.keeps g.keep).andThen ?_
  rw [if_pos (by decide)]
  exact .now
section
variable {V : Wo} {k : Nat} {K : List (Str × NameKind)} {ρ : Vars} {env : Env} {s₀ s s' : Shared} {W : List Addr} {Φr : Vars → PV → Prop}
theorem EX.make {q pos : Pos} {e : Expr} {first : Int} (X : AccFacts V) (Z : AccMore V) (Y : AccSup V) (M : AccMake V) (hg : Gl V "_Accumulator" (.ref accCls)) (hx : K.lookup ("_Accumulator" : Str) = some .globalImplicit) (hs : ∀ e' q, e ≠ .Starred e' q) (he : EV V (k + 2) false K ρ e (I first)) :
    EX V (k + 2) K ρ (.Call (.Name "_Accumulator" q) [e] [] pos) (fun p => ∃ a d, p = .acc a d first []) := fun A env s F g R => by
  refine wp_evalCallG g R hx hg (Kept.cls M) hs (wpAny_mono (he A env s F g R) (fun v s1 x => ⟨x.1.gi, ?_⟩) fun _ _ x => x)
  obtain ⟨o1, ⟨t, rfl⟩, _⟩ := x
  refine wpAny_mono (acc_make X Z Y M F o1.gi) (fun v s2 h => ?_) fun _ _ x => x
  obtain ⟨o2, a, d, rfl, hp, ha, hd⟩ := h
  exact ⟨o1.trans o2, _, ⟨a, d, rfl⟩, hp, fun b _ e => by cases e; exact o1.fresh ha, fun a' d' f' l' e => by cases e; exact o1.fresh hd⟩

noncomputable def EW (V : Wo) (k : Nat) (K : List (Str × NameKind)) (W : List Addr) (ρ : Vars) (e : Expr) (x : Str) (p' r : PV) : Prop :=
  ∀ (A : Around) (env : Env) (s₀ s : Shared), Fit A k → GI V s₀ → Fr V K env s₀ W ρ s →
    wpAny (model prog V.w) A (eval e env) (fun v s' => Fr V K env s₀ W (up ρ x p') s' ∧ Mv V K env W ρ (up ρ x p') s s' ∧ Rdy V K env s₀ W (up ρ x p') s' r v) No s
noncomputable def Outs (r : PV) : Prop := (∃ i, r = .it i) ∨ ∃ l, r = .list l
theorem Outs.addr {r : PV} (h : Outs r) : ∀ a, r.addr ≠ some a := fun a => by rcases h with ⟨i, rfl⟩ | ⟨l, rfl⟩ <;> nofun
theorem rdyW {x : Str} {a d : Addr} {first : Int} {l l' : List (List Nat × List Nat)} {r : PV} {v : Value} {s1 s2 : Shared} (hr : Outs r) (F1 : Fr V K env s₀ W ρ s1) (hx : ρ x = some (.acc a d first l)) (hv : r.is s2.heap v) (hf : Fresh s1 v r) : Rdy V K env s₀ W (up ρ x (.acc a d first l')) s2 r v := by
  refine ⟨hv, fun b d' f' l'' e => (by rcases hr with ⟨i, rfl⟩ | ⟨m, rfl⟩ <;> cases e), fun b hb => absurd hb (hr.addr b), fun y q b hy hb => absurd hb (hr.addr b), fun b hb => absurd hb (hr.addr b), fun m e y q b hy hb e' => ?_⟩
  subst e
  have hfr := hf b (by first | exact ns rfl | exact nIt rfl | exact nAcc rfl | nofun) e'
  have key : ∀ q', ρ y = some q' → q'.addr = some b → False := fun q' hq hb' => by
    obtain ⟨u, _, hu⟩ := F1.vars hq
    obtain ⟨_, o, _, _, ho, _⟩ := PV.addr_is hb' hu
    rw [hfr] at ho; cases ho
  unfold up at hy
  by_cases e2 : y = x
  · rw [if_pos e2] at hy; cases hy
    subst e2
    exact key _ hx hb
  · rw [if_neg e2] at hy; exact key q hy hb
theorem EW.call {f x : Str} {fp xp pos : Pos} {fv : Value} {a d : Addr} {first : Int} {l l' : List (List Nat × List Nat)} {args : List Expr} {ps : List PV} {r : PV} (hfk : K.lookup f = some .globalImplicit) (hfg : Gl V f fv) (hk : Kept V fv) (hx : ρ x = some (.acc a d first l)) (ha : EVs V k K ρ args ps) (hW : ∀ b ∈ W, V.h0.get? b = none) (hr : Outs r)
    (hc : CWr V k fv ps a (.acc a d first l) (.acc a d first l') r) (hfd : (f == ("__debug__" : Str)) = false := by decide) (hd : (x == ("__debug__" : Str)) = false := by decide) (hn : (x == ("__classdict__" : Str)) = false := by decide) :
    EW V k K W ρ (.Call (.Name f fp) (.Name x xp :: args) [] pos) x (.acc a d first l') r := fun A env s₀ s F g Fx => by
  show wpAny _ A (do callWith pos (← eval (.Name f fp) env) [] (backTo pos (starEach (.Name x xp :: args) env)) (backToKw pos (keywordEach [] env))) _ _ s
  refine wpAny_bind (wp_global Fx.gi Fx.renv hfk hfg ?_ hfd)
  have hall : EVs V k K ρ (.Name x xp :: args) (.acc a d first l :: ps) := .cons (by first | exact ns rfl | exact nIt rfl | exact nAcc rfl | nofun) (EV.name hx hd hn) ha
  refine wp_callWith (hall.plain env pos) hk (wp_args pos hall F Fx.gi Fx.renv fun vs s1 o hps => ⟨o.gi, ?_⟩)
  obtain ⟨v, t, rfl, hv, ht⟩ := hps
  have F1 := Fx.after o
  obtain ⟨_, _, rfl, _⟩ := PV.isAcc hv
  refine wpAny_mono (hc A s1 t F o.gi (Fx.ownH0 g hW hx rfl) hv ht) (fun v s3 h => ?_) fun _ _ x => x
  obtain ⟨hrv, m, hp, hf⟩ := h
  exact ⟨F1.write hx rfl m hp rfl (fun b d' f' l'' e => by cases e; exact F1.acc x _ _ _ _ hx), (Mv.ok o).trans (Mv.write hx rfl rfl m) o.gi, rdyW hr F1 hx hrv hf⟩
theorem EW.meth {x : Str} {xp apos pos : Pos} {name : Str} {fv : Value} {a d : Addr} {first : Int} {l l' : List (List Nat × List Nat)} {args : List Expr} {ps : List PV} {r : PV} (hx : ρ x = some (.acc a d first l))
    (hm : ∀ (A : Around) (s : Shared) (pl : Sem Bool) (Q : Value × List Value → Shared → Prop), GI V s → (PV.acc a d first l).is s.heap (.ref a) → Q (fv, [.ref a]) s → wpAny (model prog V.w) A (getMethod (.ref a) name pl) Q No s)
    (hk : Kept V fv) (ha : EVs V k K ρ args ps) (hW : ∀ b ∈ W, V.h0.get? b = none) (hr : Outs r)
    (hc : CWr V k fv ps a (.acc a d first l) (.acc a d first l') r) (hl : args.length < 25 := by decide) (hline : (apos.endLine == pos.line) = true := by rfl) (hd : (x == ("__debug__" : Str)) = false := by decide) (hn : (x == ("__classdict__" : Str)) = false := by decide)
    (hb : ∀ env, attributeBase (.Name x xp) name env (eval (.Name x xp) env) = eval (.Name x xp) env := by intro _; rfl) :
    EW V k K W ρ (.Call (.Attribute (.Name x xp) name apos) args [] pos) x (.acc a d first l') r := fun A env s₀ s F g Fx => by
  refine wp_callMethod (hb env) ?_ hline ?_
  · have := ha.plainAll env pos
    simp only [this, Bool.true_and]
    show (true && decide (args.length + 0 + 0 < 30)) = true
    simp; (first | lia | omega)
  obtain ⟨v, hlk, hv⟩ := Fx.vars hx
  have hv' := hv
  obtain ⟨vs0, n, rfl, ho, hi⟩ := PV.isAcc hv'
  refine wp_name Fx.renv.kind hlk (fun pl => hm A s pl _ Fx.gi hv ?_) hd hn
  refine wp_callWith (ha.plain env pos) hk (wp_args pos ha F Fx.gi Fx.renv fun vs s2 o hps => ⟨o.gi, ?_⟩)
  have F1 := Fx.after o
  refine wpAny_mono (hc A s2 vs F o.gi (Fx.ownH0 g hW hx rfl) (o.pv Fx.gi hv) hps) (fun v s3 h => ?_) fun _ _ x => x
  obtain ⟨hrv, m, hp, hf⟩ := h
  exact ⟨F1.write hx rfl m hp rfl (fun b d' f' l'' e => by cases e; exact F1.acc x _ _ _ _ hx), (Mv.ok o).trans (Mv.write hx rfl rfl m) o.gi, rdyW hr F1 hx hrv hf⟩
theorem EV.methR {fr : Bool} {x : Str} {xp apos pos : Pos} {name : Str} {fv : Value} {a d : Addr} {first : Int} {l : List (List Nat × List Nat)} {r : PV} (hx : ρ x = some (.acc a d first l))
    (hm : ∀ (A : Around) (s : Shared) (pl : Sem Bool) (Q : Value × List Value → Shared → Prop), GI V s → (PV.acc a d first l).is s.heap (.ref a) → Q (fv, [.ref a]) s → wpAny (model prog V.w) A (getMethod (.ref a) name pl) Q No s)
    (hk : Kept V fv) (hc : Cl V k fv [.acc a d first l] r) (hline : (apos.endLine == pos.line) = true := by rfl) (hd : (x == ("__debug__" : Str)) = false := by decide) (hn : (x == ("__classdict__" : Str)) = false := by decide)
    (hb : ∀ env, attributeBase (.Name x xp) name env (eval (.Name x xp) env) = eval (.Name x xp) env := by intro _; rfl) :
    EV V k fr K ρ (.Call (.Attribute (.Name x xp) name apos) [] [] pos) r := EV.weak fun A env s F g R => by
  refine wp_callMethod (hb env) rfl hline ?_
  obtain ⟨v, hlk, hv⟩ := R.vars x _ hx
  have hv' := hv
  obtain ⟨vs0, n, rfl, ho, hi⟩ := PV.isAcc hv'
  refine wp_name R.kind hlk (fun pl => hm A s pl _ g hv ?_) hd hn
  refine wp_callWith rfl hk (wp_args pos (.nil (V := V) (k := k) (K := K) (ρ := ρ)) F g R fun vs s2 o hps => ⟨o.gi, ?_⟩)
  rw [show vs = [] from hps]
  exact wpAny_mono (hc A s2 [.ref a] F o.gi ⟨_, _, rfl, o.pv g hv, rfl⟩) (fun v s3 h => ⟨o.trans h.1, h.2.1, fun _ => (h.2.2 rfl).ok o⟩) fun _ _ x => x
theorem EW.ite {t y z : Expr} {pos : Pos} {b : Bool} {x : Str} {p' r : PV} (ht : ET V k K ρ t b) (hy : b = true → EW V k K W ρ y x p' r) (hz : b = false → EW V k K W ρ z x p' r) : EW V k K W ρ (.IfExp t y z pos) x p' r := fun A env s₀ s F g Fx => by
  show wpAny _ A (do if ← isTrue t env (eval t env) then eval y env else eval z env) _ _ s
  refine wpAny_bind (wpAny_mono (ht A env s F Fx.gi Fx.renv) (fun b' s1 h1 => ?_) fun _ _ x => x)
  obtain ⟨rfl, o1⟩ := h1
  cases b' with
  | true => exact wpAny_mono (hy rfl A env s₀ s1 F g (Fx.after o1)) (fun v s2 h2 => ⟨h2.1, (Mv.ok o1).trans h2.2.1 o1.gi, h2.2.2⟩) fun _ _ x => x
  | false => exact wpAny_mono (hz rfl A env s₀ s1 F g (Fx.after o1)) (fun v s2 h2 => ⟨h2.1, (Mv.ok o1).trans h2.2.1 o1.gi, h2.2.2⟩) fun _ _ x => x
theorem St1.assignW {x y : Str} {e : Expr} {p' r : PV} {q pos : Pos} (hr : Outs r) (he : EW V k K W ρ e x p' r) (hy : Mine K y) (hn : noComp e = true := by rfl) : St1 V k K W ρ (.Assign [.Name y q] e pos) (fun ρ' => ρ' = up (up ρ x p') y r) Φr := fun A env s₀ s F g Fx =>
  wpAny_Assign_Name (wpAny_mono (he A env s₀ s F g Fx) (fun v s1 h1 => by
    obtain ⟨F1, m1, r1⟩ := h1
    exact wpAny_mono (r1.store F1 g hy) (fun _ s2 h2 => by
      obtain ⟨⟨F2, b, hb, hbl⟩, _⟩ := h2
      exact ⟨_, rfl, F2, m1.trans (Mv.at1 hb hbl fun c h => absurd h (hr.addr c)) F1.gi⟩) fun _ _ x => x) fun _ _ x => x) (swaps_none hn)
theorem St1.retAcc {Φn : Vars → Prop} {x : Str} {q : Pos} {a d : Addr} {first : Int} {l : List (List Nat × List Nat)} {pos : Pos} (hx : ρ x = some (.acc a d first l)) (ha : a ∉ W) (h : Φr ρ (.acc a d first l)) (hd : (x == ("__debug__" : Str)) = false := by decide) (hn : (x == ("__classdict__" : Str)) = false := by decide) :
    St1 V k K W ρ (.Return (some (.Name x q)) pos) Φn Φr := fun A env s₀ s F g Fx => by
  obtain ⟨v, hl, hv⟩ := Fx.vars hx
  refine wpAny_Return_some (wp_name Fx.renv.kind hl ?_ hd hn)
  have hv' := hv
  obtain ⟨vs, n, rfl, r⟩ := PV.isAcc hv'
  exact ⟨ρ, _, h, Fx, hv, fun b _ e => by cases e; exact (Fx.own x _ a hx rfl).resolve_left ha⟩
noncomputable def CX (V : Wo) (k : Nat) (fv : Value) (ps : List PV) (P : PV → Prop) : Prop :=
  ∀ (A : Around) (s : Shared) (vs : List Value), Fit A k → GI V s → PVs s.heap ps vs →
    wpAny (model prog V.w) A (call fv vs) (fun v s' => Ok V s s' ∧ ∃ p, P p ∧ p.is s'.heap v ∧ Fresh s v p ∧ ∀ a d f l, p = .acc a d f l → s.heap.get? d = none) No s
theorem EX.call {x : Str} {xp pos : Pos} {f : Value} {es : List Expr} {ps : List PV} {P : PV → Prop} (hx : K.lookup x = some .globalImplicit) (hv : Gl V x f) (hk : Kept V f) (ha : EVs V k K ρ es ps) (hc : CX V k f ps P)
    (hd : (x == ("__debug__" : Str)) = false := by decide) : EX V k K ρ (.Call (.Name x xp) es [] pos) P := fun A env s F g R => by
  show wpAny _ A (do callWith pos (← eval (.Name x xp) env) [] (backTo pos (starEach es env)) (backToKw pos (keywordEach [] env))) _ _ s
  refine wpAny_bind (wp_global g R hx hv ?_ hd)
  refine wp_callWith (ha.plain env pos) hk (wp_args pos ha F g R fun vs s' o hp => ⟨o.gi, ?_⟩)
  refine wpAny_mono (hc A s' vs F o.gi hp) (fun v s'' x => ?_) fun _ _ x => x
  obtain ⟨o2, p, hp, hi, hf, hac⟩ := x
  exact ⟨o.trans o2, p, hp, hi, hf.ok o, fun a d f l e => o.fresh (hac a d f l e)⟩
theorem CX.fn {sr : Option (Arguments × List Stmt × Scope)} {n q : Str} {fa c : Addr} {params : Arguments} {body : List Stmt} {scope : Scope} {names : List Str} {ps : List PV} {P : PV → Prop} (h : FnAt V.h0 sr n q fa c [] .none) (hsr : sr = some (params, body, scope)) (hnd : names.Nodup) (hlen : names.length = ps.length)
    (hm : ∀ x ∈ names, Mine scope.names x) (hac : ∀ x p a, ini names ps x = some p → p.addr ≠ some a)
    (hbind : ∀ fd : FuncData, fd.params = params → fd.defaults = .none → ∀ vs : List Value, vs.length = ps.length → bindArgs fd ⟨vs, []⟩ = pure (names.zip vs))
    (hbody : Bk V k scope.names [] (ini names ps) body (fun _ => False) (fun ρ' p => P p ∧ ∃ x, ρ' x = some p))
    (hk : scope.kind = .function := by rfl) (hco : scope.isCoroutine = false := by rfl) (hgen : scope.isGenerator = false := by rfl) : CX V (k + 1) (.ref fa) ps P := fun A s vs F g hp => by
  obtain ⟨fd, ho, hn, hq, hs, ⟨b, hb⟩, hcl, hgl, hbl, hdf, hkd, hcode⟩ := h.obj
  have e := hsr.symm.trans hs
  simp only [Option.some.injEq, Prod.mk.injEq] at e
  obtain ⟨ep, eb, es⟩ := e
  rw [hb] at eb
  have eb : body = b := eb
  subst eb
  refine wpAny_call (codeAny_call_cells F.room (g.keep _ _ ho) rfl (g.ok.nolimit.keeps g.keep) ((by rw [hcode, hq]; exact h.code.keeps g.keep)) hb (hbind fd ep.symm hdf vs hp.length) hcl (fun x hx => ?_) (fun s₁ hs₁ => ?_) (es ▸ hco) (es ▸ hgen) (es ▸ hk))
  · have hxn := (List.of_mem_zip (a := x.1) (b := x.2) hx).1
    rw [← es]
    rcases hm x.1 hxn with h' | h'
    · exact .inl h'
    · exact .inr ⟨h', cellsFrom_has _ _ _ (.inl (mem_of_lookup h'))⟩
  · have Fx := Fr.enter g (es ▸ hk) hgl hbl hnd (by rw [hlen, hp.length]) (by rw [← es]; exact hm) hp hac hs₁
    rw [← es] at Fx
    refine wpAny_mono (hbody (A.deeper (callEnvC fd s.heap.objs.size fa)) _ s s₁ (F.deeper _) g Fx) (fun fl s' x => ?_) fun _ _ x => x.elim
    cases fl with
    | next => obtain ⟨_, h, _⟩ := x; exact h.elim
    | brk => exact x.elim
    | cont => exact x.elim
    | ret v =>
      obtain ⟨ρ', p, ⟨hP, x, hx⟩, F', hp', hf⟩ := x
      exact ⟨F'.mo.ok, p, hP, hp', hf, fun a d f l e => by subst e; exact (F'.acc x _ _ _ _ hx).2.resolve_left (by simp)⟩
end
end
section
open PySem PySem.Calls PyProof.Rows PySem.W PySem.Spec

noncomputable def bl (p : Nat) : List Nat := (List.replicate p [32]).flatten
theorem bl_len (p : Nat) : (bl p).length = p := by unfold bl; induction p with
  | zero => rfl
  | succ p ih => rw [List.replicate_succ, List.flatten_cons, List.length_append, ih]; simp; (first | lia | omega)
theorem lett_lt (m x : Nat) : ∀ c ∈ lett m x, isL c := fun c hc => by
  unfold lett at hc
  obtain ⟨i, _, rfl⟩ := List.mem_map.mp hc
  unfold isL
  have := Nat.mod_lt (x / 16 ^ i) (show 0 < 16 by decide)
  (first | lia | omega)
theorem lett_add (m : Nat) : ∀ n, lett m (16 ^ m + n) = lett m n := by
  intro n
  unfold lett
  apply List.map_congr_left
  intro i hi
  rw [List.mem_reverse, List.mem_range] at hi
  have e : 16 ^ m = 16 ^ i * (16 * 16 ^ (m - i - 1)) := by
    rw [← Nat.pow_succ', ← Nat.pow_add]; congr 1; (first | lia | omega)
  rw [e, Nat.mul_add_div (Nat.pow_pos (by decide)), Nat.mul_add_mod]
theorem toB_nat : ∀ {l : List Nat}, (∀ c ∈ l, c < 256) → (toB l).map UInt8.toNat = l
  | [], _ => rfl
  | c :: r, h => by
    show (UInt8.ofNat c).toNat :: (toB r).map UInt8.toNat = c :: r
    rw [toB_nat fun x hx => h x (List.mem_cons_of_mem _ hx)]
    congr 1
    have := h c List.mem_cons_self
    simp [UInt8.toNat_ofNat]
    (first | lia | omega)
section
variable {V : Wo} {k : Nat} {fr : Bool} {K : List (Str × NameKind)} {ρ : Vars}
theorem ev_ap {e : Expr} {m n u v : Nat} {p1 p2 p3 p4 p5 p6 p7 p8 : Pos} {x : Int} (X : Facts V) (hK : K.lookup ("Int2AP" : Str) = some .globalImplicit) (hs : ∀ e' q, e ≠ .Starred e' q) (he : EV V (k + 1) false K ρ e (I x)) (hx : x = (16 ^ m + n : Nat)) (hn : n < 16 ^ m) (hm : m < 900) (hline : (p3.endLine == p4.line) = true := by rfl) :
    EV V (k + 1) fr K ρ (.Subscript (.Call (.Attribute (.Call (.Name "Int2AP" p1) [e] [] p2) "decode" p3) [.Constant (.str "ascii") u p5] [] p4) (.Slice (some (.Constant (.int 1) v p6)) none none p7) p8) (S (lett m n)) := by
  subst hx
  have h2 : 16 ^ m + n < 16 ^ (m + 1) := by rw [Nat.pow_succ]; (first | lia | omega)
  have hc := int2AP_cl (V := V) (k := k) X (16 ^ m + n) m (by (first | lia | omega)) h2 (by (first | lia | omega))
  have hl := lett_lt (m + 1) (16 ^ m + n)
  have hd := Cl.decode (V := V) (k := k + 1) (l := toB (lett (m + 1) (16 ^ m + n))) (by rw [lett_succ]; simp [toB]) (fun c hc => by
    obtain ⟨z, hz, rfl⟩ := List.mem_map.mp hc
    have := hl z hz
    unfold isL at this
    simp [UInt8.toNat_ofNat]; (first | lia | omega)) (by simp [toB, lett_length]; (first | lia | omega))
  rw [toB_nat fun c hc => by have := hl c hc; unfold isL at this; (first | lia | omega)] at hd
  have hsl := Sc.str (V := V) (k := k + 1) (l := lett (m + 1) (16 ^ m + n)) (lo := some ((1 : Nat) : Int)) (hi := none) (by rw [lett_length]; (first | lia | omega))
  rw [cut_from, lett_succ, List.drop_succ_cons, List.drop_zero, lett_add] at hsl
  rw [← lett_add m n] at hsl ⊢
  refine EV.slice (p := S (lett (m + 1) (16 ^ m + n))) Base.str (EV.meth (ps := [S asciiL]) Meth.decode (EV.call (ps := [I _]) hK X.int2AP.1 (Kept.fn X.int2AP.2) (.cons hs he .nil) hc) (.cons (by first | exact ns rfl | exact nIt rfl | exact nAcc rfl | nofun) (EV.str rfl) .nil) hd (by simp) hline) (.some EV.int) .none .none ?_
  rw [lett_succ]
  exact hsl
end
theorem digs_get : ∀ (m x i : Nat), i < m → (digs 4 m (x : Int))[i]? = some (((x / 16 ^ i % 16 : Nat)) : Int)
  | 0, _, _, h => by (first | lia | omega)
  | m + 1, x, 0, _ => by
    rw [digs]
    simp
  | m + 1, x, i + 1, h => by
    rw [digs, List.getElem?_cons_succ]
    have e : ((x : Int) / 2 ^ 4) = ((x / 16 : Nat) : Int) := by rw [show (2 : Int) ^ 4 = 16 from rfl]; (first | lia | omega)
    rw [e, digs_get m (x / 16) i (by (first | lia | omega)), Nat.div_div_eq_div_mul, Nat.pow_succ']
noncomputable def begAt (room p : Nat) : Nat := 4096 - room + room % 16 ^ p
noncomputable def stemAt (room p j : Nat) : List Nat × List Nat := (bl p, lett (3 - p) (begAt room p / 16 ^ p + j))
noncomputable def stemsRow (room p c : Nat) : List (List Nat × List Nat) := (List.range c).map (stemAt room p)
noncomputable def stemsUp (room i : Nat) : List (List Nat × List Nat) := (List.range i).flatMap fun p => stemsRow room p (room / 16 ^ p % 16)
theorem stemsRow_succ (room p c : Nat) : stemsRow room p (c + 1) = stemsRow room p c ++ [stemAt room p c] := by
  unfold stemsRow; rw [List.range_succ, List.map_append]; rfl
theorem stemsUp_succ (room i : Nat) : stemsUp room (i + 1) = stemsUp room i ++ stemsRow room i (room / 16 ^ i % 16) := by
  unfold stemsUp; rw [List.range_succ, List.flatMap_append]; simp
theorem begAt_succ {room i : Nat} : begAt room (i + 1) = begAt room i + (room / 16 ^ i % 16) * 16 ^ i := by
  unfold begAt
  rw [Nat.pow_succ, Nat.mod_mul, Nat.mul_comm (16 ^ i)]
  (first | lia | omega)
theorem begAt_dvd {room p : Nat} (h : room ≤ 4096) (hp : p ≤ 3) : begAt room p % 16 ^ p = 0 := by
  unfold begAt
  have h1 := Nat.div_add_mod room (16 ^ p)
  have h2 : (16 : Nat) ^ p ∣ 4096 := by
    have : (4096 : Nat) = 16 ^ 3 := by decide
    rw [this]; exact Nat.pow_dvd_pow 16 hp
  obtain ⟨q, hq⟩ := h2
  have h3 : 4096 - room + room % 16 ^ p = 16 ^ p * (q - room / 16 ^ p) := by
    rw [Nat.mul_sub, ← hq]; (first | lia | omega)
  rw [h3, Nat.mul_mod_right]
end
section
open PySem PySem.Calls PyProof.Rows PySem.W PySem.Spec
structure AccAll (V : Wo) : Prop where
  facts : AccFacts V
  fns : AccFns V
  seq : AccSeq V
  more : AccMore V
  sup : AccSup V
  make : AccMake V
  cls : Gl V "_Accumulator" (.ref accCls)
  empty : ∃ t, Gl V "EMPTYSTRING" (.str ⟨#[]⟩ t)
  str : Gl V "str" (.type "str")
section
variable {V : Wo} {k : Nat}
theorem St1.push {K : List (Str × NameKind)} {ρ : Vars} {W : List Addr} {Φr : Vars → PV → Prop} {x : Str} {xp apos pos spos : Pos} {a d : Addr} {first : Int} {l : List (List Nat × List Nat)} {e1 e2 : Expr} {u v : List Nat} (Y : AccAll V) (hx : ρ x = some (.acc a d first l)) (hl : l.length < 100000)
    (hs1 : ∀ e' q, e1 ≠ .Starred e' q) (hs2 : ∀ e' q, e2 ≠ .Starred e' q) (h1 : EV V (k + 1) false K ρ e1 (S u)) (h2 : EV V (k + 1) false K ρ e2 (S v)) (hW : ∀ b ∈ W, V.h0.get? b = none) (hline : (apos.endLine == pos.line) = true := by rfl) (hd : (x == ("__debug__" : Str)) = false := by decide) (hn : (x == ("__classdict__" : Str)) = false := by decide)
    (hb : ∀ env, attributeBase (.Name x xp) "push" env (eval (.Name x xp) env) = eval (.Name x xp) env := by intro _; rfl) :
    St1 V (k + 1) K W ρ (.Expr (.Call (.Attribute (.Name x xp) "push" apos) [e1, e2] [] pos) spos) (fun ρ' => ρ' = up ρ x (.acc a d first (l ++ [(u, v)]))) Φr :=
  St1.methA hx (fun A s pl Q g hp h => acc_method Y.facts g hp (Y.facts.fns "push" 45 (by simp)) (by simp) (by decide) h) (Kept.fn Y.fns.push) (.cons hs1 h1 (.cons hs2 h2 .nil)) hW (CWr.toV (push_cl Y.facts Y.fns (by (first | lia | omega)))) (by simp) hline hd hn hb
end
end
section
open PySem PySem.Calls PyProof.Rows PySem.W PySem.Spec
theorem stemsRow_len (room p c : Nat) : (stemsRow room p c).length = c := by simp [stemsRow]
theorem stemsUp_len (room i : Nat) : (stemsUp room i).length ≤ 15 * i := by
  induction i with
  | zero => simp [stemsUp]
  | succ i ih =>
    rw [stemsUp_succ, List.length_append, stemsRow_len]
    have := Nat.mod_lt (room / 16 ^ i) (show 0 < 16 by decide)
    (first | lia | omega)
theorem ndig4 {room : Nat} (h : room ≤ 4096) : ndig 4 (room : Int) ≤ 4 := by
  unfold ndig
  have := bits_le (a := (room : Int)) (m := 13) (by (first | lia | omega)) (by (first | lia | omega))
  (first | lia | omega)
theorem bits_lt (n : Nat) : n < 2 ^ Builtin.Int.intBits (n : Int) := by
  unfold Builtin.Int.intBits
  by_cases e : n = 0
  · simp [e]
  · have : ((n : Int) == 0) = false := by simpa using e
    rw [this]
    simp only [Bool.false_eq_true, if_false, Int.natAbs_natCast]
    exact (Nat.log2_lt e).mp (Nat.lt_succ_self _)
theorem ndig4_ge {room : Nat} : room < 16 ^ ndig 4 (room : Int) := by
  unfold ndig
  have h := bits_lt room
  refine Nat.lt_of_lt_of_le h ?_
  rw [show (16 : Nat) = 2 ^ 4 by decide, ← Nat.pow_mul]
  exact Nat.pow_le_pow_right (by decide) (by (first | lia | omega))
section
variable {V : Wo} {k : Nat}
set_option maxHeartbeats 4000000 in
theorem stems_cl (X : Facts V) (Y : AccAll V) (room : Nat) (first : Int) (h1 : 1 ≤ room) (h2 : room ≤ 4096) : CX V (k + 71) (.ref 170) [I room, I first] (fun p => ∃ a d, p = .acc a d first (stemsUp room (ndig 4 (room : Int)))) := by
  have hm := ndig4 h2
  generalize hM : ndig 4 (room : Int) = m at hm
  refine CX.fn (names := ["room", "first"]) X.stems.2 rfl (by decide) rfl (mineAll (by decide)) (ini_addr (by simp [PV.addr])) (fun fd hp hd vs hl => by
    obtain ⟨v, u, rfl⟩ := two_of hl
    exact bind2 hp hd (by decide)) ?_
  refine Bk.cons (St1.duo (x := "free") (y := "start") true (EX.make (k := k + 68) Y.facts Y.more Y.sup Y.make Y.cls rfl (by first | exact ns rfl | exact nIt rfl | exact nAcc rfl | nofun) (by trivial)) (EX.it (i := .at (.int (4096 - (room : Int)))) (EV.bin (by trivial) (by trivial) Bi.sub)) (by first | exact ns rfl | exact nIt rfl | exact nAcc rfl | nofun) (by first | exact ns rfl | exact nIt rfl | exact nAcc rfl | nofun) (.inl rfl) (.inl rfl) (by decide) (by rintro _ ⟨a, d, rfl⟩ l; nofun) (by rintro _ rfl l; nofun) ?_) ?_
  · intro env h1 h2
    cases env with
    | mk scope =>
      cases scope
      simp only at h1 h2
      subst h1
      subst h2
      rfl
  rintro _ ⟨_, _, ⟨a, d, rfl⟩, rfl, ha, _, rfl⟩
  have hW : ∀ b ∈ ([] : List Addr), V.h0.get? b = none := fun b hb => (by cases hb)
  have hi2 := (i2d_cl (V := V) (k := k + 65) X (room : Int) 4 (by (first | lia | omega)) (by decide) (by decide) (by rw [hM]; exact Nat.lt_of_le_of_lt hm (by decide))).mono (k := k + 70) (by rw [hM]; exact Nat.succ_le_succ (Nat.add_le_add_left hm (k + 65)))
  rw [hM] at hi2
  refine Bk.cons (St1.for (fun i ρ => ρ "free" = some (.acc a d first (stemsUp room i)) ∧ ρ "start" = some (I (begAt room i))) (IF.of (IE.enum (f := true) (l := (digs 4 m (room : Int)).map .int) rfl X.enumerate (by first | exact ns rfl | exact nIt rfl | exact nAcc rfl | nofun) (ILe (digs 4 m (room : Int)) ▸ EV.call (ps := [I room, I 4]) rfl X.int2digits.1 (Kept.fn X.int2digits.2) (.cons (by first | exact ns rfl | exact nIt rfl | exact nAcc rfl | nofun) (by trivial) (.cons (by first | exact ns rfl | exact nIt rfl | exact nAcc rfl | nofun) (by trivial) .nil)) hi2))) trivial ?_ ?_) ?_
  · refine ⟨rfl, ?_⟩
    have : ((begAt room 0 : Nat) : Int) = 4096 - (room : Int) := by unfold begAt; rw [Nat.pow_zero, Nat.mod_one, Nat.add_zero, Int.ofNat_sub h2]; rfl
    rw [this]; rfl
  · intro i x ρ1 hx hinv
    obtain ⟨e1, e2⟩ := hinv
    have hi : i < m := by
      have := (List.getElem?_eq_some_iff.mp hx).1
      simpa [enumL, digs_length] using this
    have hx' : x = .tup [.int i, .int (((room / 16 ^ i % 16 : Nat)) : Int)] := by
      unfold enumL at hx
      rw [List.getElem?_map, List.getElem?_map, List.getElem?_zipIdx, List.getElem?_map, digs_get m room i hi] at hx
      simpa using hx.symm
    subst hx'
    generalize hc : room / 16 ^ i % 16 = c at *
    have hc16 : c < 16 := by rw [← hc]; exact Nat.mod_lt _ (by decide)
    have hi3 : i ≤ 3 := Nat.le_of_lt_succ (Nat.lt_of_lt_of_le hi hm)
    have hp16 : (16 : Nat) ^ i ≤ 4096 := by
      have : (4096 : Nat) = 16 ^ 3 := by decide
      rw [this]; exact Nat.pow_le_pow_right (by decide) hi3
    have hp0 : 0 < (16 : Nat) ^ i := Nat.pow_pos (by decide)
    refine ⟨_, .pair (.inl rfl) (.inl rfl), ?_⟩
    refine Bk.cons (St1.for (fun j ρ => ρ "free" = some (.acc a d first (stemsUp room i ++ stemsRow room i j)) ∧ ρ "start" = some (I ((begAt room i + j * 16 ^ i : Nat) : Int)) ∧ ρ "place" = some (I i)) (IF.of (IE.range (n := (c : Int)) rfl X.range (by first | exact ns rfl | exact nIt rfl | exact nAcc rfl | nofun) (by trivial) (Int.natCast_nonneg _) (Int.ofNat_lt.mpr (Nat.lt_trans hc16 (by decide))))) trivial ?_ ?_) ?_
    · refine ⟨?_, ?_, rfl⟩
      · rw [show stemsRow room i 0 = [] from rfl, List.append_nil]; exact e1
      · rw [Nat.zero_mul, Nat.add_zero]; exact e2
    · intro j x ρ2 hx hinv
      obtain ⟨f1, f2, f3⟩ := hinv
      have hj : j < c := by
        have := (List.getElem?_eq_some_iff.mp hx).1
        simpa using this
      refine ⟨_, .name (.inl rfl), ?_⟩
      have hd0 := begAt_dvd h2 hi3
      have hS : begAt room i + (room / 16 ^ i) * 16 ^ i = 4096 := by
        unfold begAt
        have := Nat.div_add_mod room (16 ^ i)
        rw [Nat.mul_comm] at this
        exact row_eq h2 this
      have hjr : j < room / 16 ^ i := Nat.lt_of_lt_of_le hj (by rw [← hc]; exact Nat.mod_le _ _)
      have hq : (begAt room i + j * 16 ^ i) / 16 ^ i = begAt room i / 16 ^ i + j := by
        rw [Nat.add_mul_div_right _ _ hp0]
      have h3i : (16 : Nat) ^ (3 - i) * 16 ^ i = 4096 := by
        rw [← Nat.pow_add, Nat.sub_add_cancel hi3]
      have hsum : begAt room i + j * 16 ^ i < 4096 := by
        have : (j + 1) * 16 ^ i ≤ (room / 16 ^ i) * 16 ^ i := Nat.mul_le_mul_right _ hjr
        rw [Nat.add_mul, Nat.one_mul] at this
        exact Nat.lt_of_lt_of_le (Nat.add_lt_add_left (Nat.lt_add_of_pos_right hp0) _) (Nat.le_trans (Nat.add_le_add_left this _) (Nat.le_of_eq hS))
      have hn : begAt room i / 16 ^ i + j < 16 ^ (3 - i) := by
        rw [← hq]
        exact Nat.div_lt_of_lt_mul (by rw [Nat.mul_comm (16 ^ i) (16 ^ (3 - i)), h3i]; exact hsum)
      have hidm := (idm_pos (V := V) (k := k) X ((begAt room i + j * 16 ^ i : Nat) : Int) ((16 ^ i : Nat) : Int) (Int.natCast_nonneg _) (Int.ofNat_lt.mpr hp0) (Int.lt_trans (Int.ofNat_lt.mpr hsum) (by decide)) (Int.lt_of_le_of_lt (Int.ofNat_le.mpr hp16) (by decide))).mono (k := k + 70) (Nat.add_le_add_left (by decide) k)
      have hq' : ((begAt room i + j * 16 ^ i : Nat) : Int) / ((16 ^ i : Nat) : Int) = ((begAt room i / 16 ^ i + j : Nat) : Int) := by rw [← hq]; exact Int.natCast_ediv _ _ |>.symm
      rw [hq'] at hidm
      have hpow : ∀ {ρ : Vars}, ρ "place" = some (I i) → EV V (k + 70) false (namesN 17) ρ (.BinOp (.Constant (.int 16) 0 ⟨131, 39, 131, 41⟩) .Pow (.Name "place" ⟨131, 45, 131, 50⟩) ⟨131, 39, 131, 50⟩) (I ((16 ^ i : Nat) : Int)) := fun h => by
        exact EV.bin (by trivial) (EV.nameIt h) (Bi.powN hi3)
      have hpow2 : ∀ {ρ : Vars}, ρ "place" = some (I i) → EV V (k + 70) false (namesN 17) ρ (.BinOp (.Constant (.int 16) 0 ⟨133, 28, 133, 30⟩) .Pow (.Name "place" ⟨133, 34, 133, 39⟩) ⟨133, 28, 133, 39⟩) (I ((16 ^ i : Nat) : Int)) := fun h => by
        exact EV.bin (by trivial) (EV.nameIt h) (Bi.powN hi3)
      refine Bk.step (St1.assign (x := "number") (i := .at (.int ((begAt room i / 16 ^ i + j : Nat) : Int))) (EV.sub Base.tup (EV.call (ps := [I ((begAt room i + j * 16 ^ i : Nat) : Int), I ((16 ^ i : Nat) : Int)]) rfl X.intDivmod.1 (Kept.fn X.intDivmod.2) (.cons (by first | exact ns rfl | exact nIt rfl | exact nAcc rfl | nofun) (EV.nameIt f2) (.cons (by first | exact ns rfl | exact nIt rfl | exact nAcc rfl | nofun) (hpow f3) .nil)) hidm) (by trivial) (Bi.itemT (i := 0) (by decide) rfl)) (.inl rfl)) ?_
      have hlen : (stemsUp room i ++ stemsRow room i j).length < 100000 := by
        rw [List.length_append, stemsRow_len]
        exact cap_stem (stemsUp_len room i) hi3 (Nat.le_of_lt (Nat.lt_trans hj hc16))
      have hbl : (List.replicate ((i : Int)).toNat [32]).flatten = bl i := by rw [Int.toNat_natCast]; rfl
      refine Bk.step (St1.push (k := k + 69) (x := "free") (u := bl i) (v := lett (3 - i) (begAt room i / 16 ^ i + j)) Y (by exact f1) hlen (by first | exact ns rfl | exact nIt rfl | exact nAcc rfl | nofun) (by first | exact ns rfl | exact nIt rfl | exact nAcc rfl | nofun) (hbl ▸ EV.bin (by trivial) (EV.nameIt f3) (Bi.mulS (i3_lt hi3) i3_gt rfl)) ?_ hW) ?_
      · refine ev_ap (k := k + 69) (m := 3 - i) (x := ((16 ^ (3 - i) : Nat) : Int) + ((begAt room i / 16 ^ i + j : Nat) : Int)) X rfl (by first | exact ns rfl | exact nIt rfl | exact nAcc rfl | nofun) (EV.bin ?_ (EV.nameIt rfl) Bi.add) (by norm_cast) hn (Nat.lt_of_le_of_lt (Nat.sub_le _ _) (by decide))
        exact EV.bin (by trivial) (EV.bin (by trivial) (EV.nameIt f3) Bi.sub) (Bi.pow3 hi3)
      · refine Bk.step (St1.assign (x := "start") (i := .at (.int ((begAt room i + j * 16 ^ i : Nat) + ((16 ^ i : Nat) : Int)))) (EV.bin (EV.nameIt f2) (hpow2 f3) Bi.add) (.inl rfl)) (Bk.nil ⟨?_, ?_, f3⟩)
        · rw [stemsRow_succ, ← List.append_assoc]
          exact rfl
        · have : ((begAt room i + (j + 1) * 16 ^ i : Nat) : Int) = ((begAt room i + j * 16 ^ i : Nat) + ((16 ^ i : Nat) : Int)) := by
            rw [Nat.add_mul, Nat.one_mul, ← Nat.add_assoc]; rfl
          rw [this]; exact rfl
    · rintro ρ3 ⟨f1, f2, _⟩
      have hlr : ((List.range ((c : Int)).toNat).map fun i : Nat => iIt i).length = c := by simp
      rw [hlr] at f1 f2
      refine Bk.nil ⟨?_, ?_⟩
      · rw [stemsUp_succ, hc]; exact f1
      · rw [begAt_succ, hc]; exact f2
  · rintro ρ3 ⟨e1, _⟩
    have hlm : ((enumL ((digs 4 m (room : Int)).map .int)).map It.tup).length = m := by simp [enumL, digs_length]
    rw [hlm] at e1
    exact Bk.last (St1.retAcc (x := "free") e1 (by simp) ⟨⟨a, d, rfl⟩, _, e1⟩)
end
end
section
open PySem PySem.Calls PyProof.Rows PySem.W PySem.Spec
noncomputable def As (n : Nat) : List Nat := (List.replicate n [65]).flatten
theorem As_len (n : Nat) : (As n).length = n := by unfold As; induction n with
  | zero => rfl
  | succ p ih => rw [List.replicate_succ, List.flatten_cons, List.length_append, ih]; simp; (first | lia | omega)
noncomputable def sgn : List Nat := [66, 67, 68, 69, 70, 71, 72, 73, 74, 75, 76, 77, 78, 79, 80]
noncomputable abbrev Fre := List (List Nat × List Nat)
noncomputable def cntOver (fr : Fre) (size : Nat) : Nat := (fr.filter fun p => decide (size < p.2.length)).length
noncomputable def pieceRow (stem : List Nat) (letters : Nat) : Fre := sgn.map fun c => (bl (3 - letters), stem ++ As (letters - stem.length - 1) ++ [c])
noncomputable def pieces (stem : List Nat) (size : Nat) (i : Nat) : Fre := (List.range i).flatMap fun j => pieceRow stem (size - j)
noncomputable def wishFree (fr : Fre) (size : Nat) : Fre := match fr.drop (cntOver fr size) with
  | [] => fr
  | t :: r => fr.take (cntOver fr size) ++ pieces t.2 size (size - t.2.length) ++ r
noncomputable def wishVal (fr : Fre) (size : Nat) : At := match fr.drop (cntOver fr size) with
  | [] => .none
  | t :: _ => .str (t.2 ++ As (size - t.2.length))
theorem pieces_succ (stem : List Nat) (size i : Nat) : pieces stem size (i + 1) = pieces stem size i ++ pieceRow stem (size - i) := by
  unfold pieces; rw [List.range_succ, List.flatMap_append]; simp
theorem pieceRow_len (stem : List Nat) (l : Nat) : (pieceRow stem l).length = 15 := by simp [pieceRow, sgn]
theorem pieces_len (stem : List Nat) (size i : Nat) : (pieces stem size i).length = 15 * i := by
  induction i with
  | zero => rfl
  | succ i ih => rw [pieces_succ, List.length_append, ih, pieceRow_len]; (first | lia | omega)
noncomputable def overF (size : Nat) : It → List It
  | .tup [.str _, .str s] => if decide (size < s.length) then [iIt 1] else []
  | _ => []
theorem over_len (fr : Fre) (size : Nat) : ((accItems fr).flatMap (overF size)).length = cntOver fr size := by
  unfold cntOver
  induction fr with
  | nil => rfl
  | cons p r ih =>
    rw [show accItems (p :: r) = It.tup [.str p.1, .str p.2] :: accItems r from rfl, List.flatMap_cons, List.length_append, ih, List.filter_cons]
    show (if decide (size < p.2.length) then [iIt 1] else []).length + _ = _
    split <;> simp <;> (first | lia | omega)
section
variable {V : Wo} {k : Nat}
set_option maxHeartbeats 4000000 in
theorem wish_cl (X : Facts V) (Y : AccAll V) {a d : Addr} {first : Int} (fr : Fre) (size : Nat) (hs1 : 1 ≤ size) (hs3 : size ≤ 3) (hfr : fr.length < 1000) (hlen : ∀ p ∈ fr, p.1.length < 1000 ∧ p.2.length < 1000) (ht : ∀ t ∈ fr.drop (cntOver fr size), t.2.length ≤ size) (hpyF : ∀ p ∈ fr, (It.tup [.str p.1, .str p.2]).isPy = true) :
    CWr V (k + 5) (.ref 175) [I size] a (.acc a d first fr) (.acc a d first (wishFree fr size)) (.it (.at (wishVal fr size))) := by
  refine CWr.fn (self := "free") (names := ["size"]) (ps' := [I size]) X.wish.2 rfl (by decide) rfl (mineAll (by decide)) rfl rfl (by simp [PV.addr]) (fun fd s v vs hp hd g hps => ⟨vs, hps, ?_⟩) fun h0 => ?_
  · have := hps.length
    obtain ⟨v1, rfl⟩ := one_of this
    exact .of_eq (bind2 hp hd (by decide))
  have hW : ∀ b ∈ ([a] : List Addr), V.h0.get? b = none := by simpa using h0
  have hcl : ((accItems fr).flatMap (overF size)).length < 1000 := by
    rw [over_len]
    exact Nat.lt_of_le_of_lt (List.length_filter_le _ _) hfr
  refine Bk.step (St1.assign (x := "place") (i := .at (.int (cntOver fr size))) (EV.call (ps := [.list ((accItems fr).flatMap (overF size))]) rfl X.len Kept.builtin (.cons (by first | exact ns rfl | exact nIt rfl | exact nAcc rfl | nofun) (EV.comp1 (q := true) rfl (IE.acc Y.facts (a := a) (d := d) (first := first) (l := fr) (by trivial)) (.inr trivial) ?_ (.inl rfl) (Nat.le_of_lt (lt6 hcl))) .nil) ?_) (.inl rfl)) ?_
  · intro x hx
    obtain ⟨p, hp, rfl⟩ := List.mem_map.mp hx
    have hpl := hlen p hp
    refine ⟨_, decide (size < p.2.length), .pair rfl rfl rfl rfl rfl, ?_, fun hb => ?_, fun hb => ?_⟩
    · show ET _ _ _ _ _ _
      have hgt := Bi.gtI (V := V) (k := k + 4) (a := (p.2.length : Int)) (b := (size : Int))
      rw [show decide ((size : Int) < (p.2.length : Int)) = decide (size < p.2.length) by simp] at hgt
      exact ET.cmp (EV.call (ps := [S p.2]) rfl X.len Kept.builtin (.cons (by first | exact ns rfl | exact nIt rfl | exact nAcc rfl | nofun) (by trivial) .nil) (Cl.lenS (lt6 hpl.2))) (by trivial) hgt
    · have : overF size (It.tup [.str p.1, .str p.2]) = [iIt 1] := if_pos hb
      rw [this]
      exact Em.elt (by trivial)
    · exact if_neg (by rw [hb]; nofun)
  · have := Cl.lenL (V := V) (k := k + 4) (l := (accItems fr).flatMap (overF size)) (lt6 hcl)
    rw [over_len] at this
    exact this
  generalize hc : cntOver fr size = c at *
  have hcf : c ≤ fr.length := by rw [← hc]; exact List.length_filter_le _ _
  refine Bk.step (St1.assignW (x := "free") (y := "taken") (p' := .acc a d first (fr.take c)) (r := .list (accItems (fr.drop c))) (.inr ⟨_, rfl⟩) (EW.ite (b := decide ((0 : Int) < (c : Int))) (ET.cmp (by trivial) (by trivial) Bi.gtI) (fun hb => ?_) fun hb => ?_) (.inl rfl)) ?_
  · exact EW.meth (a := a) (d := d) (first := first) (l := fr) rfl (fun A s pl Q g hp h => acc_method Y.facts g hp (Y.facts.fns "pop_from" 53 (by simp)) (by simp) (by decide) h) (Kept.fn Y.fns.popFrom) (.cons (by first | exact ns rfl | exact nIt rfl | exact nAcc rfl | nofun) (by trivial) .nil) hW (.inr ⟨_, rfl⟩) (popFrom_cl Y.facts Y.fns Y.seq (by (first | lia | omega)))
  · have : c = 0 := by
      have := of_decide_eq_false hb
      exact Nat.le_zero.mp (Int.ofNat_le.mp (Int.not_lt.mp this))
    subst this
    exact EW.meth (a := a) (d := d) (first := first) (l := fr) rfl (fun A s pl Q g hp h => acc_method Y.facts g hp (Y.facts.fns "pop_from" 53 (by simp)) (by simp) (by decide) h) (Kept.fn Y.fns.popFrom) .nil hW (.inr ⟨_, rfl⟩) (popFrom_all Y.facts Y.fns Y.seq (by (first | lia | omega)))
  have hpy : ∀ l : Fre, (∀ p ∈ l, p ∈ fr) → (accItems l).all It.isPy = true := fun l hl => by
    rw [List.all_eq_true]
    intro x hx
    obtain ⟨p, hp, rfl⟩ := List.mem_map.mp hx
    exact hpyF p (hl p hp)
  cases hdrop : fr.drop c with
  | nil =>
    have hall : fr.take c = fr := List.take_of_length_le (List.drop_eq_nil_iff.mp hdrop)
    refine Bk.last (St1.ite (b := true) ?_ (fun _ => ?_) fun h => (by cases h))
    · have := Bi.eq (V := V) (k := k + 4) (p := .list (accItems [])) (q := .list []) rfl rfl
      rw [decide_eq_true (show PV.list (accItems []) = PV.list [] from rfl)] at this
      exact ET.cmp (by trivial) (EV.list (l := []) .nil (by simp)) this
    · refine Bk.last (St1.ret (p := N0) (by trivial) ⟨?_, ?_⟩)
      · unfold wishVal; rw [hc, hdrop]
      · unfold wishFree; rw [hc, hdrop]
        show some (PV.acc a d first (fr.take c)) = some (PV.acc a d first fr)
        rw [hall]
  | cons t r =>
    rw [hdrop] at ht
    have htl : t.2.length ≤ size := ht t List.mem_cons_self
    have ht3 : t.2.length ≤ 3 := Nat.le_trans htl hs3
    have hr : ∀ p ∈ r, p ∈ fr := fun p hp => List.mem_of_mem_drop (i := c) (by rw [hdrop]; exact List.mem_cons_of_mem _ hp)
    have hfl : fr.length = (fr.take c).length + (r.length + 1) := by
      conv => lhs; rw [← List.take_append_drop c fr, hdrop, List.length_append, List.length_cons]
    have eF : wishFree fr size = fr.take c ++ pieces t.2 size (size - t.2.length) ++ r := by unfold wishFree; rw [hc, hdrop]
    have eV : wishVal fr size = .str (t.2 ++ As (size - t.2.length)) := by unfold wishVal; rw [hc, hdrop]
    rw [eF, eV]
    generalize fr.take c = base at *
    have hrf : r.length < 1000 := Nat.lt_of_lt_of_le (Nat.lt_of_lt_of_le (Nat.lt_succ_self _) (Nat.le_add_left _ base.length)) (hfl ▸ Nat.le_of_lt hfr)
    refine Bk.step (St1.ite (b := false) ?_ (fun h => (by cases h)) fun _ => Bk.nil rfl) ?_
    · have := Bi.eq (V := V) (k := k + 4) (p := .list (accItems (t :: r))) (q := .list []) (hpy _ fun p hp => List.mem_of_mem_drop (i := c) (by rw [hdrop]; exact hp)) rfl
      rw [decide_eq_false (show ¬ PV.list (accItems (t :: r)) = PV.list [] by intro e; injection e with e; cases e)] at this
      exact ET.cmp (by trivial) (EV.list (l := []) .nil (by simp)) this
    refine Bk.step (St1.assign (x := "stem") (i := .at (.str t.2)) (EV.sub Base.tup (EV.sub Base.list (by trivial) (by trivial) (Bi.itemL (x := .tup [.str t.1, .str t.2]) (by decide) (by decide) rfl)) (by trivial) (Bi.itemT (i := 1) (by decide) rfl)) (.inl rfl)) ?_
    have hlenS : ∀ {ρ : Vars} {lp np pos : Pos}, ρ "stem" = some (S t.2) → EV V (k + 4) false (namesN 18) ρ (.Call (.Name "len" lp) [.Name "stem" np] [] pos) (I t.2.length) := fun h => EV.call (ps := [S t.2]) rfl X.len Kept.builtin (.cons (by first | exact ns rfl | exact nIt rfl | exact nAcc rfl | nofun) (EV.nameIt h) .nil) (Cl.lenS (lt6 (lt1k ht3)))
    refine Bk.cons (St1.for (fun i ρ => ρ "free" = some (.acc a d first (base ++ pieces t.2 size i)) ∧ ρ "stem" = some (S t.2) ∧ ρ "size" = some (I size) ∧ ρ "taken" = some (.list (accItems (t :: r)))) (IF.of (IE.down (a := (size : Int)) (b := (t.2.length : Int)) rfl X.range (by first | exact ns rfl | exact nIt rfl | exact nAcc rfl | nofun) (by first | exact ns rfl | exact nIt rfl | exact nAcc rfl | nofun) (by first | exact ns rfl | exact nIt rfl | exact nAcc rfl | nofun) (by trivial) (hlenS rfl) (EV.un (by trivial) Un.neg) (Int.natCast_nonneg _) (lt1m hs3) (Int.natCast_nonneg _) (lt1m ht3))) trivial ?_ ?_) ?_
    · refine ⟨?_, rfl, rfl, rfl⟩
      rw [show pieces t.2 size 0 = [] from rfl, List.append_nil]; exact rfl
    · intro i x ρ1 hx hinv
      obtain ⟨e1, e2, e3, e4⟩ := hinv
      have hi : i < size - t.2.length := by
        have := (List.getElem?_eq_some_iff.mp hx).1
        rwa [List.length_map, List.length_range, toNat_sub'] at this
      have hx' : x = iIt ((size - i : Nat) : Int) := by
        rw [List.getElem?_map, List.getElem?_range (by rw [toNat_sub']; exact hi)] at hx
        have : x = iIt ((size : Int) - i) := by simpa using hx.symm
        rw [this, Int.ofNat_sub (Nat.le_trans (Nat.le_of_lt hi) (Nat.sub_le _ _))]
      subst hx'
      refine ⟨_, .name (.inl rfl), ?_⟩
      refine Bk.cons (St1.for (fun j ρ => ρ "free" = some (.acc a d first (base ++ pieces t.2 size i ++ (pieceRow t.2 (size - i)).take j)) ∧ ρ "stem" = some (S t.2) ∧ ρ "size" = some (I size) ∧ ρ "taken" = some (.list (accItems (t :: r))) ∧ ρ "letters" = some (I ((size - i : Nat) : Int))) (IF.of (IE.str (l := sgn) (by trivial))) trivial ?_ ?_) ?_
      · refine ⟨?_, e2, e3, e4, rfl⟩
        rw [List.take_zero, List.append_nil]; exact e1
      · intro j x ρ2 hx hinv
        obtain ⟨f1, f2, f3, f4, f5⟩ := hinv
        have hj : j < sgn.length := by
          have := (List.getElem?_eq_some_iff.mp hx).1
          simpa using this
        have hx' : x = sIt [sgn[j]] := by
          rw [List.getElem?_map, List.getElem?_eq_getElem hj] at hx
          simpa using hx.symm
        subst hx'
        refine ⟨_, .name (.inl rfl), ?_⟩
        have hj15 : j < 15 := hj
        have hlenF : (base ++ pieces t.2 size i ++ (pieceRow t.2 (size - i)).take j).length < 100000 := by
          rw [List.length_append, List.length_append, pieces_len, List.length_take, pieceRow_len]
          exact cap15 hfr (hfl ▸ Nat.le_add_right _ _) (Nat.le_trans (Nat.le_of_lt hi) (sub_le' hs3)) (Nat.le_trans (Nat.min_le_right _ _) (by decide))
        have hb1 : (List.replicate ((3 : Int) - ((size - i : Nat) : Int)).toNat [32]).flatten = bl (3 - (size - i)) := by
          rw [toNat_sub3]; rfl
        have hb2 : (List.replicate ((((size - i : Nat) : Int) - (t.2.length : Int)) - 1).toNat [65]).flatten = As (size - i - t.2.length - 1) := by
          rw [toNat_sub1]; rfl
        refine Bk.step (St1.push (k := k + 3) (x := "free") (u := bl (3 - (size - i))) (v := t.2 ++ As (size - i - t.2.length - 1) ++ [sgn[j]]) Y (by exact f1) hlenF (by first | exact ns rfl | exact nIt rfl | exact nAcc rfl | nofun) (by first | exact ns rfl | exact nIt rfl | exact nAcc rfl | nofun) (hb1 ▸ EV.bin (by trivial) (EV.bin (by trivial) (EV.nameIt f5) Bi.sub) (Bi.mulS s3_lt (s3_gt (sub_le' hs3)) rfl)) ?_ hW) (Bk.nil ⟨?_, f2, f3, f4, f5⟩)
        · refine EV.bin (EV.bin (EV.nameIt f2) (hb2 ▸ EV.bin (by trivial) (EV.bin (EV.bin (EV.nameIt f5) (hlenS (by exact f2)) Bi.sub) (by trivial) Bi.sub) (Bi.mulS (d1_lt (sub_le' hs3)) (d1_gt ht3) rfl)) (Bi.addS (by rw [As_len]; exact le33 ht3 (sub_le' (sub_le' (sub_le' hs3)))))) (by trivial) (Bi.addS (by rw [List.length_append, As_len]; exact Nat.succ_le_succ (le33 ht3 (sub_le' (sub_le' (sub_le' hs3))) (by decide : 6 ≤ 16777215))))
        · have : (pieceRow t.2 (size - i)).take (j + 1) = (pieceRow t.2 (size - i)).take j ++ [(bl (3 - (size - i)), t.2 ++ As (size - i - t.2.length - 1) ++ [sgn[j]])] := by
            rw [List.take_add_one]
            congr 1
            unfold pieceRow
            rw [List.getElem?_map, List.getElem?_eq_getElem hj]; rfl
          rw [this, ← List.append_assoc]
          exact rfl
      · rintro ρ3 ⟨f1, f2, f3, f4, _⟩
        have hl15 : (sgn.map fun c => sIt [c]).length = 15 := rfl
        rw [hl15, List.take_of_length_le (Nat.le_of_eq (pieceRow_len ..))] at f1
        refine Bk.nil ⟨?_, f2, f3, f4⟩
        rw [pieces_succ, ← List.append_assoc]; exact f1
    · rintro ρ3 ⟨e1, e2, e3, e4⟩
      have hlr : ((List.range ((size : Int) - (t.2.length : Int)).toNat).map fun i : Nat => iIt ((size : Int) - i)).length = size - t.2.length := by rw [List.length_map, List.length_range, toNat_sub']
      rw [hlr] at e1
      have hsl := Sc.list (V := V) (k := k + 4) (l := accItems (t :: r)) (lo := some ((1 : Nat) : Int)) (hi := none) (lt6 (by rw [accItems, List.length_map, List.length_cons]; exact Nat.lt_of_le_of_lt (hfl ▸ Nat.le_add_left _ _) hfr))
      rw [cut_from] at hsl
      have hsl : Sc V (k + 4) (.list (accItems (t :: r))) (some ((1 : Nat) : Int)) none none (.list (accItems r)) := hsl
      refine Bk.cons (St1.for (fun i ρ => ρ "free" = some (.acc a d first (base ++ pieces t.2 size (size - t.2.length) ++ r.take i)) ∧ ρ "stem" = some (S t.2) ∧ ρ "size" = some (I size)) (IF.of (IE.list (f := true) (EV.slice Base.list (EV.name e4) (.some (by trivial)) .none .none hsl))) (.inr trivial) ?_ ?_) ?_
      · refine ⟨?_, e2, e3⟩
        rw [List.take_zero, List.append_nil]; exact e1
      · intro i x ρ2 hx hinv
        obtain ⟨f1, f2, f3⟩ := hinv
        have hi : i < r.length := by
          have := (List.getElem?_eq_some_iff.mp hx).1
          simpa [accItems] using this
        have hx' : x = .tup [.str r[i].1, .str r[i].2] := by
          unfold accItems at hx
          rw [List.getElem?_map, List.getElem?_eq_getElem hi] at hx
          simpa using hx.symm
        subst hx'
        refine ⟨_, .pair (.inl rfl) (.inl rfl), ?_⟩
        have hlenF : (base ++ pieces t.2 size (size - t.2.length) ++ r.take i).length < 100000 := by
          rw [List.length_append, List.length_append, pieces_len, List.length_take]
          exact cap15 hfr (hfl ▸ Nat.le_add_right _ _) (sub_le' hs3) (Nat.le_trans (Nat.min_le_left _ _) (Nat.le_of_lt (Nat.lt_trans hi hrf)))
        refine Bk.step (St1.push (k := k + 3) (x := "free") (u := r[i].1) (v := r[i].2) Y (by exact f1) hlenF (by first | exact ns rfl | exact nIt rfl | exact nAcc rfl | nofun) (by first | exact ns rfl | exact nIt rfl | exact nAcc rfl | nofun) (by trivial) (by trivial) hW) (Bk.nil ⟨?_, f2, f3⟩)
        have : r.take (i + 1) = r.take i ++ [(r[i].1, r[i].2)] := by
          rw [List.take_add_one, List.getElem?_eq_getElem hi]; rfl
        rw [this, ← List.append_assoc]
        exact rfl
      · rintro ρ4 ⟨f1, f2, f3⟩
        have hlr : (accItems r).length = r.length := by simp [accItems]
        rw [hlr, List.take_length] at f1
        have hb2 : (List.replicate ((size : Int) - (t.2.length : Int)).toNat [65]).flatten = As (size - t.2.length) := by
          rw [toNat_sub']; rfl
        refine Bk.last (St1.ret (p := S (t.2 ++ As (size - t.2.length))) (EV.bin (EV.nameIt f2) (hb2 ▸ EV.bin (by trivial) (EV.bin (EV.nameIt f3) (hlenS (by exact f2)) Bi.sub) (Bi.mulS (d_lt hs3) (d_gt ht3) rfl)) (Bi.addS (by rw [As_len]; exact le33 ht3 (sub_le' hs3)))) ⟨rfl, f1⟩)
end
end
section
open PySem PySem.Calls PyProof.Rows PySem.W PySem.Spec
noncomputable def val (w : List Nat) : Nat := w.foldl (fun a c => 16 * a + (c - 65)) 0
noncomputable def sz (w : List Nat) : Nat := 16 ^ (3 - w.length)
noncomputable def lo (w : List Nat) : Nat := val w * sz w
noncomputable def hi (w : List Nat) : Nat := lo w + sz w
structure Wd (w : List Nat) : Prop where
  len : w.length ≤ 3
  lets : ∀ c ∈ w, isL c
theorem Wd.cases {w : List Nat} (h : Wd w) : w = [] ∨ (∃ x, isL x ∧ w = [x]) ∨ (∃ x y, isL x ∧ isL y ∧ w = [x, y]) ∨ ∃ x y z, isL x ∧ isL y ∧ isL z ∧ w = [x, y, z] := by
  have h1 := h.len
  have h2 := h.lets
  match w, h1, h2 with
  | [], _, _ => exact .inl rfl
  | [x], _, h2 => exact .inr (.inl ⟨x, h2 x (by simp), rfl⟩)
  | [x, y], _, h2 => exact .inr (.inr (.inl ⟨x, y, h2 x (by simp), h2 y (by simp), rfl⟩))
  | [x, y, z], _, h2 => exact .inr (.inr (.inr ⟨x, y, z, h2 x (by simp), h2 y (by simp), h2 z (by simp), rfl⟩))
  | _ :: _ :: _ :: _ :: _, h1, _ => simp at h1
theorem lo0 : lo [] = 0 ∧ sz [] = 4096 := by decide
theorem sz_pos (w : List Nat) : 0 < sz w := Nat.pow_pos (by decide)
theorem val_append (a b : List Nat) : val (a ++ b) = val a * 16 ^ b.length + val b := by
  refine list_snoc (P := fun b => val (a ++ b) = val a * 16 ^ b.length + val b) (by simp [val]) (fun l c ih => ?_) b
  unfold val at *
  rw [← List.append_assoc, List.foldl_append, ih, List.foldl_append, List.length_append]
  simp only [List.foldl_cons, List.foldl_nil, List.length_singleton, Nat.pow_succ]
  rw [Nat.mul_add, Nat.mul_comm _ 16, ← Nat.mul_assoc, ← Nat.mul_assoc, Nat.mul_comm 16, Nat.mul_assoc, Nat.add_assoc]
theorem val_cons (c : Nat) (w : List Nat) : val (c :: w) = (c - 65) * 16 ^ w.length + val w := by
  have := val_append [c] w
  rwa [show val [c] = c - 65 from Nat.zero_add _] at this
theorem isL_lt {c : Nat} (h : isL c) : c - 65 + 1 ≤ 16 := by unfold isL at h; omega
theorem isL_eq {c d : Nat} (h : isL c) (h' : isL d) (e : c - 65 = d - 65) : c = d := by unfold isL at h h'; lia
theorem up_le {a b c : Nat} (h : b < c) : a * c + b + 1 ≤ (a + 1) * c := by rw [Nat.succ_mul, Nat.add_assoc]; exact Nat.add_le_add_left h _
theorem val_lt : ∀ w : List Nat, (∀ c ∈ w, isL c) → val w < 16 ^ w.length
  | [], _ => Nat.one_pos
  | c :: w, h => by
    rw [val_cons, List.length_cons, Nat.pow_succ, Nat.mul_comm _ 16]
    exact Nat.le_trans (up_le (val_lt w fun d hd => h d (List.mem_cons_of_mem _ hd))) (Nat.mul_le_mul_right _ (isL_lt (h c List.mem_cons_self)))
theorem val_inj : ∀ a b : List Nat, (∀ c ∈ a, isL c) → (∀ c ∈ b, isL c) → a.length = b.length → val a = val b → a = b
  | [], [], _, _, _, _ => rfl
  | [], _ :: _, _, _, h, _ => nomatch h
  | _ :: _, [], _, _, h, _ => nomatch h
  | x :: a, y :: b, ha, hb, hl, e => by
    have l1 : a.length = b.length := Nat.succ.inj hl
    have h1 := val_lt a fun d hd => ha d (List.mem_cons_of_mem _ hd)
    have h2 := val_lt b fun d hd => hb d (List.mem_cons_of_mem _ hd)
    rw [val_cons, val_cons, l1] at e
    rw [l1] at h1
    have p0 : 0 < 16 ^ b.length := Nat.pow_pos (by decide)
    have q := congrArg (· / 16 ^ b.length) e
    rw [Nat.mul_comm, Nat.mul_comm (y - 65), Nat.mul_add_div p0, Nat.mul_add_div p0, Nat.div_eq_of_lt h1, Nat.div_eq_of_lt h2] at q
    have e1 := isL_eq (ha x List.mem_cons_self) (hb y List.mem_cons_self) q
    subst e1
    rw [val_inj a b (fun d hd => ha d (List.mem_cons_of_mem _ hd)) (fun d hd => hb d (List.mem_cons_of_mem _ hd)) l1 (Nat.add_left_cancel e)]
theorem sz_take {a b : List Nat} (hb : b.length ≤ 3) (h : a.length ≤ b.length) : sz a = 16 ^ (b.length - a.length) * sz b := by
  unfold sz
  rw [← Nat.pow_add, Nat.add_comm, Nat.sub_add_sub_cancel hb h]
theorem hi_eq (w : List Nat) : hi w = (val w + 1) * sz w := (Nat.succ_mul _ _).symm
theorem hi_le {w : List Nat} (h : Wd w) : hi w ≤ 4096 := by
  rw [hi_eq, show (4096 : Nat) = 16 ^ w.length * sz w by unfold sz; rw [← Nat.pow_add, show w.length + (3 - w.length) = 3 from Nat.add_sub_cancel' h.len]]
  exact Nat.mul_le_mul_right _ (val_lt w h.lets)
theorem lo_div {w : List Nat} {n : Nat} (h1 : lo w ≤ n) (h2 : n < hi w) : n / sz w = val w := by
  refine Nat.div_eq_of_lt_le h1 ?_
  rw [← hi_eq]; exact h2
theorem over_one {a b : List Nat} (ha : Wd a) (hb : Wd b) {n : Nat} (h1 : lo a ≤ n) (h2 : n < hi a) (h3 : lo b ≤ n) (h4 : n < hi b) (hl : a.length ≤ b.length) : a <+: b := by
  have e1 := lo_div h1 h2
  have e2 := lo_div h3 h4
  rw [sz_take hb.len hl, Nat.mul_comm, ← Nat.div_div_eq_div_mul, e2] at e1
  have e3 := val_append (b.take a.length) (b.drop a.length)
  rw [List.take_append_drop, List.length_drop] at e3
  have h5 := val_lt (b.drop a.length) fun c hc => hb.lets c (List.mem_of_mem_drop hc)
  rw [List.length_drop] at h5
  have p0 : 0 < 16 ^ (b.length - a.length) := Nat.pow_pos (by decide)
  rw [e3, Nat.mul_comm, Nat.mul_add_div p0, Nat.div_eq_of_lt h5, Nat.add_zero] at e1
  exact List.prefix_iff_eq_take.mpr (val_inj _ _ ha.lets (fun c hc => hb.lets c (List.mem_of_mem_take hc)) (by rw [List.length_take, Nat.min_eq_left hl]) e1.symm)
theorem over_pre {a b : List Nat} (ha : Wd a) (hb : Wd b) {n : Nat} (h1 : lo a ≤ n) (h2 : n < hi a) (h3 : lo b ≤ n) (h4 : n < hi b) : a <+: b ∨ b <+: a :=
  (Nat.le_total a.length b.length).elim (fun h => .inl (over_one ha hb h1 h2 h3 h4 h)) fun h => .inr (over_one hb ha h3 h4 h1 h2 h)
theorem pre_in {a b : List Nat} (ha : Wd a) (hb : Wd b) (h : a <+: b) : lo a ≤ lo b ∧ hi b ≤ hi a := by
  obtain ⟨t, rfl⟩ := h
  have hs := sz_take (a := a) hb.len (by rw [List.length_append]; exact Nat.le_add_right _ _)
  rw [List.length_append, Nat.add_sub_cancel_left] at hs
  have hv := val_lt t fun c hc => hb.lets c (List.mem_append_right _ hc)
  rw [hi_eq, hi_eq, hs]
  unfold lo
  rw [hs, val_append, ← Nat.mul_assoc, ← Nat.mul_assoc]
  exact ⟨Nat.mul_le_mul_right _ (Nat.le_add_right _ _), Nat.mul_le_mul_right _ (up_le hv)⟩
theorem lex_lt : ∀ (n : Nat) (a b : List Nat), a.length ≤ n → b.length ≤ n → (∀ c ∈ a, isL c) → (∀ c ∈ b, isL c) → val a * 16 ^ (n - a.length) < val b * 16 ^ (n - b.length) → a < b
  | _, _, [], _, _, _, _, h => absurd (show _ < 0 by rwa [show val [] = 0 from rfl, Nat.zero_mul] at h) (Nat.not_lt_zero _)
  | _, [], y :: b, _, _, _, _, _ => List.nil_lt_cons _ _
  | 0, x :: a, y :: b, h, _, _, _, _ => nomatch h
  | n + 1, x :: a, y :: b, h1, h2, h3, h4, h => by
    have l1 : a.length ≤ n := Nat.le_of_succ_le_succ h1
    have l2 : b.length ≤ n := Nat.le_of_succ_le_succ h2
    have k1 := fun d hd => h3 d (List.mem_cons_of_mem x hd)
    have k2 := fun d hd => h4 d (List.mem_cons_of_mem y hd)
    have full : ∀ {w : List Nat}, w.length ≤ n → 16 ^ w.length * 16 ^ (n - w.length) = 16 ^ n := fun {w} hw => by rw [← Nat.pow_add, Nat.add_sub_cancel' hw]
    rw [val_cons, val_cons, List.length_cons, List.length_cons, Nat.add_sub_add_right, Nat.add_sub_add_right, Nat.add_mul, Nat.add_mul, Nat.mul_assoc, Nat.mul_assoc, full l1, full l2] at h
    have b2 : val b * 16 ^ (n - b.length) < 16 ^ n := by rw [← full l2]; exact Nat.mul_lt_mul_of_pos_right (val_lt b k2) (Nat.pow_pos (by decide))
    rw [List.cons_lt_cons_iff]
    rcases Nat.lt_trichotomy x y with q | rfl | q
    · exact .inl q
    · exact .inr ⟨rfl, lex_lt n a b l1 l2 k1 k2 (Nat.lt_of_add_lt_add_left h)⟩
    · exfalso
      have hy := (h4 y List.mem_cons_self).1
      have : y - 65 + 1 ≤ x - 65 := Nat.sub_lt_sub_right hy q
      exact Nat.lt_irrefl _ (Nat.lt_of_lt_of_le (Nat.lt_of_le_of_lt (Nat.le_add_right _ _) h) (Nat.le_trans (Nat.le_of_succ_le (up_le b2)) (Nat.mul_le_mul_right _ this)))
theorem lo_lt {a b : List Nat} (ha : Wd a) (hb : Wd b) (h : lo a < lo b) : a < b := lex_lt 3 a b ha.len hb.len ha.lets hb.lets h
theorem lo_inj {a b : List Nat} (ha : Wd a) (hb : Wd b) (h : lo a = lo b) (hl : a.length = b.length) : a = b := by
  have e : sz a = sz b := by unfold sz; rw [hl]
  unfold lo at h
  rw [e] at h
  exact val_inj a b ha.lets hb.lets hl (Nat.eq_of_mul_eq_mul_right (sz_pos b) h)
end
section
open PySem PySem.Calls PyProof.Rows PySem.W PySem.Spec
noncomputable abbrev Words := List (List Nat)
noncomputable def ind (x : Nat) (w : List Nat) : Nat := if lo w ≤ x ∧ x < hi w then 1 else 0
noncomputable def cov (ws : Words) (x : Nat) : Nat := (ws.map (ind x)).sum
theorem cov_nil (x : Nat) : cov [] x = 0 := rfl
theorem cov_cons (a : List Nat) (ws : Words) (x : Nat) : cov (a :: ws) x = ind x a + cov ws x := by simp [cov]
theorem cov_append (a b : Words) (x : Nat) : cov (a ++ b) x = cov a x + cov b x := by simp [cov]
theorem cov_mem {w : List Nat} {ws : Words} (h : w ∈ ws) (x : Nat) : ind x w ≤ cov ws x := by
  induction ws with
  | nil => cases h
  | cons a r ih =>
    rw [cov_cons]
    rcases List.mem_cons.mp h with rfl | h
    · omega
    · have := ih h; omega
theorem cov_two {a b : List Nat} {ws : Words} (ha : a ∈ ws) (hb : b ∈ ws) (hab : a ≠ b) (x : Nat) : ind x a + ind x b ≤ cov ws x := by
  induction ws with
  | nil => cases ha
  | cons c r ih =>
    rw [cov_cons]
    rcases List.mem_cons.mp ha with e1 | ha'
    · rcases List.mem_cons.mp hb with e2 | hb'
      · exact absurd (e1.trans e2.symm) hab
      · have := cov_mem hb' x; rw [e1]; omega
    · rcases List.mem_cons.mp hb with e2 | hb'
      · have := cov_mem ha' x; rw [e2]; omega
      · have := ih ha' hb'; omega
theorem cov_zero {ws : Words} {x : Nat} (h : ∀ w ∈ ws, ind x w = 0) : cov ws x = 0 := by
  induction ws with
  | nil => rfl
  | cons a r ih =>
    rw [cov_cons, h a List.mem_cons_self, ih fun w hw => h w (List.mem_cons_of_mem _ hw)]
theorem cov_filter (p : List Nat → Bool) (ws : Words) (x : Nat) : cov (ws.filter p) x + cov (ws.filter fun w => !p w) x = cov ws x := by
  induction ws with
  | nil => rfl
  | cons a r ih =>
    rw [List.filter_cons, List.filter_cons, cov_cons]
    cases p a <;> simp only [Bool.not_false, Bool.not_true, if_true, Bool.false_eq_true, if_false, cov_cons] <;> omega
theorem ind_one {x : Nat} {w : List Nat} (h1 : lo w ≤ x) (h2 : x < hi w) : ind x w = 1 := if_pos ⟨h1, h2⟩
theorem ind_zero {x : Nat} {w : List Nat} (h : ¬ (lo w ≤ x ∧ x < hi w)) : ind x w = 0 := if_neg h
noncomputable def sumN : Nat → (Nat → Nat) → Nat
  | 0, _ => 0
  | n + 1, f => sumN n f + f n
theorem sumN_add (n : Nat) (f g : Nat → Nat) : sumN n (fun x => f x + g x) = sumN n f + sumN n g := by
  induction n with
  | zero => rfl
  | succ n ih => simp only [sumN, ih]; omega
theorem sumN_lt (a : Nat) : ∀ n, sumN n (fun x => if x < a then 1 else 0) = min n a
  | 0 => (Nat.zero_min a).symm
  | n + 1 => by
    show sumN n _ + (if n < a then 1 else 0) = _
    rw [sumN_lt a n]
    rcases Nat.lt_or_ge n a with h | h
    · rw [if_pos h, Nat.min_eq_left h, Nat.min_eq_left (Nat.le_of_lt h)]
    · rw [if_neg (Nat.not_lt.mpr h), Nat.min_eq_right h, Nat.min_eq_right (Nat.le_succ_of_le h)]; rfl
theorem sumN_if (a b : Nat) (hab : a ≤ b) (n : Nat) (hb : b ≤ n) : sumN n (fun x => if a ≤ x ∧ x < b then 1 else 0) + a = b := by
  have h := sumN_add n (fun x => if a ≤ x ∧ x < b then 1 else 0) (fun x => if x < a then 1 else 0)
  rw [sumN_lt, Nat.min_eq_right (Nat.le_trans hab hb), show (fun x => (if a ≤ x ∧ x < b then 1 else 0) + (if x < a then 1 else 0)) = fun x => if x < b then 1 else 0 from funext fun x => ?_, sumN_lt, Nat.min_eq_right hb] at h
  · exact h.symm
  · rcases Nat.lt_or_ge x a with q | q
    · rw [if_pos q, if_neg fun k => Nat.not_lt.mpr k.1 q, if_pos (Nat.lt_of_lt_of_le q hab)]
    · rw [if_neg (Nat.not_lt.mpr q)]
      by_cases k : x < b
      · rw [if_pos ⟨q, k⟩, if_pos k]
      · rw [if_neg fun z => k z.2, if_neg k]
theorem sumN_ind {w : List Nat} (h : Wd w) : sumN 4096 (fun x => ind x w) = sz w := by
  have := sumN_if (lo w) (hi w) (Nat.le_add_right _ _) 4096 (hi_le h)
  exact Nat.add_right_cancel (this.trans (Nat.add_comm (lo w) (sz w)))
theorem sumN_cov {ws : Words} (h : ∀ w ∈ ws, Wd w) : sumN 4096 (cov ws) = (ws.map sz).sum := by
  induction ws with
  | nil =>
    have : cov [] = fun _ => 0 := by funext x; rfl
    rw [this]
    have z : ∀ n, sumN n (fun _ => 0) = 0 := fun n => by induction n with
      | zero => rfl
      | succ n ih => simp only [sumN, ih]
    rw [z]; rfl
  | cons a r ih =>
    have : cov (a :: r) = fun x => ind x a + cov r x := by funext x; exact cov_cons _ _ _
    rw [this, sumN_add, sumN_ind (h a List.mem_cons_self)]
    show sz a + sumN 4096 (cov r) = _
    rw [ih fun w hw => h w (List.mem_cons_of_mem _ hw)]
    simp
noncomputable def cntL (ws : Words) (L : Nat) : Nat := (ws.filter fun w => decide (w.length = L)).length
theorem cntL_cons (a : List Nat) (r : Words) (L : Nat) : cntL (a :: r) L = (if a.length = L then 1 else 0) + cntL r L := by
  unfold cntL
  rw [List.filter_cons]
  by_cases h : a.length = L <;> simp [h] <;> omega
theorem cntL_append (a b : Words) (L : Nat) : cntL (a ++ b) L = cntL a L + cntL b L := by unfold cntL; simp
theorem four_of {n : Nat} (h : n ≤ 3) : n = 0 ∨ n = 1 ∨ n = 2 ∨ n = 3 := by omega
theorem sz_if {w : List Nat} (h : Wd w) : sz w = (if w.length = 3 then 1 else 0) + 16 * (if w.length = 2 then 1 else 0) + 256 * (if w.length = 1 then 1 else 0) + 4096 * (if w.length = 0 then 1 else 0) := by
  have h1 := h.len
  unfold sz
  generalize w.length = n at *
  rcases four_of h1 with rfl | rfl | rfl | rfl <;> rfl
theorem sum_sz {ws : Words} (h : ∀ w ∈ ws, Wd w) : (ws.map sz).sum = cntL ws 3 + 16 * cntL ws 2 + 256 * cntL ws 1 + 4096 * cntL ws 0 := by
  induction ws with
  | nil => rfl
  | cons a r ih =>
    rw [List.map_cons, List.sum_cons, ih fun w hw => h w (List.mem_cons_of_mem _ hw), cntL_cons, cntL_cons, cntL_cons, cntL_cons, sz_if (h a List.mem_cons_self)]
    generalize (if a.length = 3 then 1 else 0) = i3
    generalize (if a.length = 2 then 1 else 0) = i2
    generalize (if a.length = 1 then 1 else 0) = i1
    generalize (if a.length = 0 then 1 else 0) = i0
    clear ih h
    lia
theorem cntL_zero {ws : Words} {L : Nat} (h : ∀ w ∈ ws, w.length ≠ L) : cntL ws L = 0 := by
  unfold cntL
  rw [List.length_eq_zero_iff, List.filter_eq_nil_iff]
  intro w hw
  simpa using h w hw
theorem kraft {ws : Words} {n : Nat} (h : ∀ w ∈ ws, Wd w) (hl : ∀ w ∈ ws, n < w.length) (hc : ∀ L, cntL ws L ≤ 15) (hn : n ≤ 3) : (ws.map sz).sum < 16 ^ (3 - n) := by
  rw [sum_sz h]
  have z : ∀ L, L ≤ n → cntL ws L = 0 := fun L hL => cntL_zero fun w hw e => Nat.not_lt.mpr hL (e ▸ hl w hw)
  have c1 := hc 1
  have c2 := hc 2
  have c3 := hc 3
  clear hc h hl
  rcases four_of hn with rfl | rfl | rfl | rfl
  · rw [z 0 (Nat.le_refl _)]; show _ < 4096; omega
  · rw [z 0 (by decide), z 1 (by decide)]; show _ < 256; omega
  · rw [z 0 (by decide), z 1 (by decide), z 2 (by decide)]; show _ < 16; omega
  · rw [z 0 (by decide), z 1 (by decide), z 2 (by decide), z 3 (by decide)]; show _ < 1; decide

structure Inv (bg : Nat) (ss gv : Words) : Prop where
  b1 : 1 ≤ bg
  b2 : bg ≤ 4096
  wd : ∀ w ∈ ss ++ gv, Wd w
  g1 : ∀ w ∈ gv, 1 ≤ w.length
  sorted : ss.Pairwise fun a b => hi a ≤ lo b ∧ b.length ≤ a.length
  cnt : ∀ L, cntL ss L ≤ 15
  cover : ∀ x, cov (ss ++ gv) x = if 4096 - bg ≤ x ∧ x < 4096 then 1 else 0
section
variable {bg : Nat} {ss gv : Words}
theorem Inv.ws (I : Inv bg ss gv) {w : List Nat} (h : w ∈ ss) : Wd w := I.wd w (List.mem_append_left _ h)
theorem Inv.wg (I : Inv bg ss gv) {w : List Nat} (h : w ∈ gv) : Wd w := I.wd w (List.mem_append_right _ h)
theorem Inv.le1 (I : Inv bg ss gv) (x : Nat) : cov (ss ++ gv) x ≤ 1 := by rw [I.cover]; split <;> omega
theorem lo_in (w : List Nat) : lo w ≤ lo w ∧ lo w < hi w := ⟨Nat.le_refl _, by have := sz_pos w; unfold hi; omega⟩
set_option tactic.hygienic true in
theorem Inv.in_ (I : Inv bg ss gv) {w : List Nat} (h : w ∈ ss ++ gv) : 4096 - bg ≤ lo w := by
  have h1 := cov_mem h (lo w)
  rw [ind_one (lo_in w).1 (lo_in w).2, I.cover] at h1
  split at h1
  · rename_i h2; exact h2.1
  · omega
theorem Inv.apart (I : Inv bg ss gv) {a b : List Nat} (ha : a ∈ ss ++ gv) (hb : b ∈ ss ++ gv) (hab : a ≠ b) {x : Nat} (h1 : lo a ≤ x ∧ x < hi a) (h2 : lo b ≤ x ∧ x < hi b) : False := by
  have := cov_two ha hb hab x
  rw [ind_one h1.1 h1.2, ind_one h2.1 h2.2] at this
  have := I.le1 x
  omega
theorem Inv.nopre (I : Inv bg ss gv) {a b : List Nat} (ha : a ∈ ss ++ gv) (hb : b ∈ ss ++ gv) (hab : a ≠ b) : ¬ a <+: b := fun h => by
  obtain ⟨h1, h2⟩ := pre_in (I.wd a ha) (I.wd b hb) h
  have := lo_in b
  exact I.apart ha hb hab (x := lo b) ⟨h1, by omega⟩ this
theorem dup_cov {ws : Words} (h : ∀ x, cov ws x ≤ 1) : ws.Nodup := by
  induction ws with
  | nil => exact List.nodup_nil
  | cons a r ih =>
    refine List.nodup_cons.mpr ⟨fun hm => ?_, ih fun x => ?_⟩
    · have h1 := h (lo a)
      have h2 := cov_mem hm (lo a)
      rw [cov_cons] at h1
      rw [ind_one (lo_in a).1 (lo_in a).2] at h1 h2
      omega
    · have := h x
      rw [cov_cons] at this
      omega
theorem Inv.nodup (I : Inv bg ss gv) : (ss ++ gv).Nodup := dup_cov I.le1
theorem Inv.ndg (I : Inv bg ss gv) : gv.Nodup := (List.nodup_append.mp I.nodup).2.1
theorem Inv.nds (I : Inv bg ss gv) : ss.Nodup := (List.nodup_append.mp I.nodup).1
theorem Inv.ne (I : Inv bg ss gv) {s v : List Nat} (hs : s ∈ ss) (hv : v ∈ gv) : s ≠ v := (List.nodup_append.mp I.nodup).2.2 s hs v hv
theorem Inv.total (I : Inv bg ss gv) : (ss.map sz).sum + (gv.map sz).sum = bg := by
  have h := sumN_cov I.wd
  rw [List.map_append, List.sum_append] at h
  rw [← h, show cov (ss ++ gv) = fun x => if 4096 - bg ≤ x ∧ x < 4096 then 1 else 0 from funext I.cover]
  have := sumN_if (4096 - bg) 4096 (Nat.sub_le _ _) 4096 (Nat.le_refl _)
  exact Nat.add_right_cancel (this.trans (Nat.add_sub_cancel' I.b2).symm)
theorem Inv.tile (I : Inv bg ss gv) {h : List Nat} (hw : Wd h) (h1 : 4096 - bg ≤ lo h) (h2 : ∀ v ∈ gv, ¬ v <+: h ∧ ¬ h <+: v) (h3 : ∀ s ∈ ss, ¬ s <+: h) : False := by
  have hE : ∀ w ∈ ss.filter (fun s => h.isPrefixOf s), Wd w ∧ h <+: w ∧ w ∈ ss := fun w hw' => by
    obtain ⟨a, b⟩ := List.mem_filter.mp hw'
    exact ⟨I.ws a, List.isPrefixOf_iff_prefix.mp b, a⟩
  have hcov : ∀ x, cov (ss.filter fun s => h.isPrefixOf s) x = ind x h := fun x => by
    by_cases hx : lo h ≤ x ∧ x < hi h
    · rw [ind_one hx.1 hx.2]
      have hr := I.cover x
      have := hi_le hw
      rw [if_pos ⟨by omega, by omega⟩, cov_append] at hr
      have hg : cov gv x = 0 := cov_zero fun v hv => ind_zero fun hvx => by
        rcases over_pre (I.wg hv) hw hvx.1 hvx.2 hx.1 hx.2 with q | q
        · exact (h2 v hv).1 q
        · exact (h2 v hv).2 q
      have hf := cov_filter (fun s => h.isPrefixOf s) ss x
      have hn : cov (ss.filter fun w => !h.isPrefixOf w) x = 0 := cov_zero fun s hs => ind_zero fun hsx => by
        obtain ⟨a, b⟩ := List.mem_filter.mp hs
        rcases over_pre (I.ws a) hw hsx.1 hsx.2 hx.1 hx.2 with q | q
        · exact h3 s a q
        · rw [List.isPrefixOf_iff_prefix.mpr q] at b; cases b
      omega
    · rw [ind_zero hx]
      refine cov_zero fun w hw' => ind_zero fun hwx => hx ?_
      obtain ⟨a, b, _⟩ := hE w hw'
      obtain ⟨c1, c2⟩ := pre_in hw a b
      omega
  have hs := sumN_cov fun w hw' => (hE w hw').1
  rw [show cov (ss.filter fun s => h.isPrefixOf s) = fun x => ind x h from funext hcov, sumN_ind hw] at hs
  have := kraft (n := h.length) (fun w hw' => (hE w hw').1) (fun w hw' => by
    obtain ⟨_, b, c⟩ := hE w hw'
    have hl := b.length_le
    have : h.length ≠ w.length := fun e => h3 w c (by rw [b.eq_of_length e]; exact List.prefix_refl _)
    omega) (fun L => by
    refine Nat.le_trans ?_ (I.cnt L)
    unfold cntL
    rw [List.filter_filter, show (fun a : List Nat => decide (a.length = L) && h.isPrefixOf a) = fun a => h.isPrefixOf a && decide (a.length = L) from funext fun a => Bool.and_comm _ _, ← List.filter_filter]
    exact List.length_filter_le _ _) hw.len
  rw [← hs] at this
  exact Nat.lt_irrefl _ this
end
end
section
open PySem PySem.Calls PyProof.Rows PySem.W PySem.Spec
theorem val_As (n : Nat) : val (As n) = 0 := by
  induction n with
  | zero => rfl
  | succ n ih =>
    rw [show As (n + 1) = [65] ++ As n from rfl, val_append, ih]
    simp [val]
theorem As_lets (n : Nat) : ∀ c ∈ As n, c = 65 := by
  induction n with
  | zero => intro c hc; cases hc
  | succ n ih =>
    intro c hc
    rw [show As (n + 1) = [65] ++ As n from rfl, List.mem_append] at hc
    rcases hc with hc | hc
    · simpa using hc
    · exact ih c hc
theorem pad_lo {t : List Nat} {n : Nat} (h : t.length + n ≤ 3) : lo (t ++ As n) = lo t ∧ sz (t ++ As n) = 16 ^ (3 - (t.length + n)) := by
  have e : sz (t ++ As n) = 16 ^ (3 - (t.length + n)) := by unfold sz; rw [List.length_append, As_len]
  refine ⟨?_, e⟩
  unfold lo
  rw [e, val_append, val_As, As_len, Nat.add_zero, Nat.mul_assoc, ← Nat.pow_add]
  unfold sz
  rw [sub_split h]
theorem piece_lo {t : List Nat} {n c : Nat} (h : t.length + n + 1 ≤ 3) : lo (t ++ As n ++ [c]) = lo t + (c - 65) * 16 ^ (3 - (t.length + n + 1)) ∧ sz (t ++ As n ++ [c]) = 16 ^ (3 - (t.length + n + 1)) := by
  have e : sz (t ++ As n ++ [c]) = 16 ^ (3 - (t.length + n + 1)) := by unfold sz; rw [List.length_append, List.length_append, As_len]; rfl
  refine ⟨?_, e⟩
  unfold lo
  rw [e, val_append, val_append, val_As, As_len, Nat.add_zero]
  unfold sz
  have : (16 : Nat) ^ (3 - t.length) = 16 ^ n * 16 * 16 ^ (3 - (t.length + n + 1)) := by
    rw [← Nat.pow_succ, ← Nat.pow_add, show n.succ + (3 - (t.length + n + 1)) = 3 - t.length from sub_split (n := n + 1) h]
  rw [this, Nat.add_mul]
  simp only [List.length_singleton, Nat.pow_one]
  rw [show val [c] = c - 65 by simp [val], Nat.mul_assoc, Nat.mul_assoc, Nat.mul_assoc]
theorem run_if {a b c : Nat} (h1 : a ≤ b) (h2 : b ≤ c) (x : Nat) : (if a ≤ x ∧ x < b then 1 else 0) + (if b ≤ x ∧ x < c then 1 else 0) = if a ≤ x ∧ x < c then 1 else 0 := by
  rcases Nat.lt_or_ge x b with q | q
  · rw [if_neg fun k : b ≤ x ∧ x < c => Nat.not_lt.mpr k.1 q]
    by_cases k : a ≤ x
    · rw [if_pos ⟨k, q⟩, if_pos ⟨k, Nat.lt_of_lt_of_le q h2⟩]
    · rw [if_neg fun z => k z.1, if_neg fun z => k z.1]
  · rw [if_neg fun k : a ≤ x ∧ x < b => Nat.not_lt.mpr q k.2]
    by_cases k : x < c
    · rw [if_pos ⟨q, k⟩, if_pos ⟨Nat.le_trans h1 q, k⟩]
    · rw [if_neg fun z => k z.2, if_neg fun z => k z.2]
theorem cov_run (f : Nat → List Nat) (a d : Nat) (x : Nat) : ∀ n, (∀ i, i < n → lo (f i) = a + i * d ∧ sz (f i) = d) → cov ((List.range n).map f) x = if a ≤ x ∧ x < a + n * d then 1 else 0 := by
  intro n
  induction n with
  | zero => intro _; simp [cov]
  | succ n ih =>
    intro h
    rw [List.range_succ, List.map_append, cov_append, ih fun i hi => h i (Nat.lt_succ_of_lt hi)]
    obtain ⟨h1, h2⟩ := h n (Nat.lt_succ_self n)
    rw [show ([n] : List Nat).map f = [f n] from rfl, cov_cons, cov_nil, Nat.add_zero]
    unfold ind hi
    rw [h1, h2, Nat.succ_mul, ← Nat.add_assoc]
    exact run_if (Nat.le_add_right _ _) (Nat.le_add_right _ _) x
noncomputable abbrev snds (l : Fre) : Words := l.map (·.2)
theorem sgn_range : sgn = (List.range 15).map fun i => 66 + i := by decide
theorem row_snd (t : List Nat) (L : Nat) : snds (pieceRow t L) = (List.range 15).map fun i => t ++ As (L - t.length - 1) ++ [66 + i] := by
  unfold snds pieceRow
  rw [sgn_range, List.map_map, List.map_map]
  rfl
theorem row_at {t : List Nat} {L i : Nat} (h1 : t.length < L) (h2 : L ≤ 3) : lo (t ++ As (L - t.length - 1) ++ [66 + i]) = (lo t + 16 ^ (3 - L)) + i * 16 ^ (3 - L) ∧ sz (t ++ As (L - t.length - 1) ++ [66 + i]) = 16 ^ (3 - L) := by
  obtain ⟨a, b⟩ := piece_lo (t := t) (n := L - t.length - 1) (c := 66 + i) (show t.length + (L - t.length - 1 + 1) ≤ 3 from (wrd h1).symm ▸ h2)
  rw [show t.length + (L - t.length - 1) + 1 = L from wrd h1] at a b
  refine ⟨?_, b⟩
  rw [a, show 66 + i - 65 = i + 1 by first | lia | omega, Nat.add_mul, Nat.one_mul]
  first | lia | omega
theorem cov_row {t : List Nat} {L : Nat} (h1 : t.length < L) (h2 : L ≤ 3) (x : Nat) : cov (snds (pieceRow t L)) x = if lo t + 16 ^ (3 - L) ≤ x ∧ x < lo t + 16 ^ (3 - L + 1) then 1 else 0 := by
  rw [row_snd, cov_run _ (lo t + 16 ^ (3 - L)) (16 ^ (3 - L)) x 15 fun i hi => row_at h1 h2, Nat.pow_succ, Nat.add_assoc, show 16 ^ (3 - L) + 15 * 16 ^ (3 - L) = 16 ^ (3 - L) * 16 by generalize 16 ^ (3 - L) = p; first | lia | omega]
theorem cov_pieces {t : List Nat} {size : Nat} (h2 : size ≤ 3) (x : Nat) : ∀ i, i ≤ size - t.length → cov (snds (pieces t size i)) x = if lo t + 16 ^ (3 - size) ≤ x ∧ x < lo t + 16 ^ (3 - size + i) then 1 else 0 := by
  intro i
  induction i with
  | zero =>
    intro _
    rw [show snds (pieces t size 0) = [] from rfl, cov_nil, Nat.add_zero, if_neg fun k => Nat.not_lt.mpr k.1 k.2]
  | succ i ih =>
    intro hi
    have hp : (16 : Nat) ^ (3 - size) ≤ 16 ^ (3 - size + i) := Nat.pow_le_pow_right (by decide) (Nat.le_add_right _ _)
    have hp2 : (16 : Nat) ^ (3 - size + i) ≤ 16 ^ (3 - size + i + 1) := Nat.pow_le_pow_right (by decide) (Nat.le_succ _)
    rw [pieces_succ, show snds (pieces t size i ++ pieceRow t (size - i)) = snds (pieces t size i) ++ snds (pieceRow t (size - i)) by simp [snds], cov_append, ih (Nat.le_of_succ_le hi), cov_row (lt_sub' hi) (sub_le' h2), sub_sub3 (Nat.le_trans (Nat.le_of_succ_le hi) (Nat.sub_le _ _)) h2, ← Nat.add_assoc]
    exact run_if (Nat.add_le_add_left hp _) (Nat.add_le_add_left hp2 _) x
theorem mem_row {t : List Nat} {L : Nat} {w : List Nat} (h : w ∈ snds (pieceRow t L)) : ∃ i, i < 15 ∧ w = t ++ As (L - t.length - 1) ++ [66 + i] := by
  rw [row_snd] at h
  obtain ⟨i, hi, rfl⟩ := List.mem_map.mp h
  exact ⟨i, List.mem_range.mp hi, rfl⟩
theorem mem_pieces {t : List Nat} {size : Nat} (h2 : size ≤ 3) (ht : Wd t) {w : List Nat} : ∀ {i : Nat}, i ≤ size - t.length → w ∈ snds (pieces t size i) → Wd w ∧ lo t + 16 ^ (3 - size) ≤ lo w ∧ hi w ≤ lo t + 16 ^ (3 - size + i) ∧ size - i < w.length ∧ w.length ≤ size := by
  intro i
  induction i with
  | zero => intro _ h; cases h
  | succ i ih =>
    intro hi' h
    have hp : (16 : Nat) ^ (3 - size) ≤ 16 ^ (3 - size + i) := Nat.pow_le_pow_right (by decide) (Nat.le_add_right _ _)
    have hp2 : (16 : Nat) ^ (3 - size + i) ≤ 16 ^ (3 - size + i + 1) := Nat.pow_le_pow_right (by decide) (Nat.le_succ _)
    rw [pieces_succ, show snds (pieces t size i ++ pieceRow t (size - i)) = snds (pieces t size i) ++ snds (pieceRow t (size - i)) by simp [snds], List.mem_append] at h
    rcases h with h | h
    · obtain ⟨a, b, c, d, e⟩ := ih (Nat.le_of_succ_le hi') h
      exact ⟨a, b, Nat.le_trans c (Nat.add_le_add_left hp2 _), Nat.lt_of_le_of_lt (Nat.sub_le_sub_left (Nat.le_succ i) size) d, e⟩
    · obtain ⟨j, hj, rfl⟩ := mem_row h
      obtain ⟨a, b⟩ := row_at (t := t) (L := size - i) (i := j) (lt_sub' hi') (sub_le' h2)
      have his : i + 1 ≤ size := Nat.le_trans hi' (Nat.sub_le _ _)
      rw [sub_sub3 (Nat.le_of_succ_le his) h2] at a b
      have hl : (t ++ As (size - i - t.length - 1) ++ [66 + j]).length = size - i := by simp [As_len]; exact wrd (lt_sub' hi')
      refine ⟨⟨by rw [hl]; exact sub_le' h2, fun c hc => ?_⟩, ?_, ?_, by rw [hl]; exact sub_succ_lt his, by rw [hl]; exact Nat.sub_le _ _⟩
      · rw [List.mem_append, List.mem_append] at hc
        rcases hc with (hc | hc) | hc
        · exact ht.lets c hc
        · rw [As_lets _ c hc]; unfold isL; first | lia | omega
        · rw [List.mem_singleton] at hc; subst hc; unfold isL; first | lia | omega
      · rw [a]; exact Nat.le_trans (Nat.add_le_add_left hp _) (Nat.le_add_right _ _)
      · unfold hi
        rw [a, b, ← Nat.add_assoc, Nat.pow_succ]
        have : j * 16 ^ (3 - size + i) ≤ 14 * 16 ^ (3 - size + i) := Nat.mul_le_mul_right _ (by first | lia | omega)
        first | lia | omega
theorem pieces_sorted {t : List Nat} {size : Nat} (h2 : size ≤ 3) (ht : Wd t) : ∀ i, i ≤ size - t.length → (snds (pieces t size i)).Pairwise fun a b => hi a ≤ lo b ∧ b.length ≤ a.length := by
  intro i
  induction i with
  | zero => intro _; exact List.Pairwise.nil
  | succ i ih =>
    intro hi'
    rw [pieces_succ, show snds (pieces t size i ++ pieceRow t (size - i)) = snds (pieces t size i) ++ snds (pieceRow t (size - i)) by simp [snds], List.pairwise_append]
    refine ⟨ih (Nat.le_of_succ_le hi'), ?_, fun a ha b hb => ?_⟩
    · rw [row_snd, List.pairwise_map]
      refine List.pairwise_lt_range.imp fun {x y} hxy => ?_
      obtain ⟨a, b⟩ := row_at (t := t) (L := size - i) (i := x) (lt_sub' hi') (sub_le' h2)
      obtain ⟨c, _⟩ := row_at (t := t) (L := size - i) (i := y) (lt_sub' hi') (sub_le' h2)
      refine ⟨?_, by simp⟩
      unfold hi
      rw [a, b, c]
      have : (x + 1) * 16 ^ (3 - (size - i)) ≤ y * 16 ^ (3 - (size - i)) := Nat.mul_le_mul_right _ hxy
      rw [Nat.add_mul, Nat.one_mul] at this
      first | lia | omega
    · obtain ⟨_, _, c, d, e⟩ := mem_pieces h2 ht (Nat.le_of_succ_le hi') ha
      obtain ⟨j, hj, rfl⟩ := mem_row hb
      obtain ⟨a', b'⟩ := row_at (t := t) (L := size - i) (i := j) (lt_sub' hi') (sub_le' h2)
      have hl : (t ++ As (size - i - t.length - 1) ++ [66 + j]).length = size - i := by simp [As_len]; exact wrd (lt_sub' hi')
      rw [a', hl, sub_sub3 (Nat.le_trans (Nat.le_of_succ_le hi') (Nat.sub_le _ _)) h2]
      exact ⟨Nat.le_trans c (by rw [Nat.add_assoc, ← Nat.add_assoc]; exact Nat.le_add_right _ _), Nat.le_of_lt d⟩
theorem pieces_cnt {t : List Nat} {size : Nat} (h2 : size ≤ 3) : ∀ i, i ≤ size - t.length → ∀ L, cntL (snds (pieces t size i)) L = if size - i < L ∧ L ≤ size then 15 else 0 := by
  intro i
  induction i with
  | zero =>
    intro _ L
    rw [show snds (pieces t size 0) = [] from rfl]
    exact (if_neg fun k => Nat.not_lt.mpr k.2 (by simpa using k.1)).symm
  | succ i ih =>
    intro hi' L
    rw [pieces_succ, show snds (pieces t size i ++ pieceRow t (size - i)) = snds (pieces t size i) ++ snds (pieceRow t (size - i)) by simp [snds], cntL_append, ih (Nat.le_of_succ_le hi')]
    have hr : cntL (snds (pieceRow t (size - i))) L = if size - i = L then 15 else 0 := by
      unfold cntL
      have hall : ∀ w ∈ snds (pieceRow t (size - i)), w.length = size - i := fun w hw => by
        obtain ⟨j, _, rfl⟩ := mem_row hw
        simp [As_len]; exact wrd (lt_sub' hi')
      by_cases e : size - i = L
      · rw [if_pos e, List.filter_eq_self.mpr fun w hw => by simpa using (hall w hw).trans e]
        rw [row_snd]; simp
      · rw [if_neg e, List.filter_eq_nil_iff.mpr fun w hw => by rw [hall w hw]; simpa using e]
        rfl
    rw [hr]
    exact if_step (Nat.le_trans hi' (Nat.sub_le _ _))
end
section
open PySem PySem.Calls PyProof.Rows PySem.W PySem.Spec
theorem cnt_split {size : Nat} : ∀ {fr : Fre}, (snds fr).Pairwise (fun a b => hi a ≤ lo b ∧ b.length ≤ a.length) → (∀ p ∈ fr.take (cntOver fr size), size < p.2.length) ∧ (∀ p ∈ fr.drop (cntOver fr size), p.2.length ≤ size) ∧ (fr.filter fun p => decide (p.2.length ≤ size)) = fr.drop (cntOver fr size)
  | [], _ => by simp [cntOver]
  | p :: r, h => by
    obtain ⟨h1, h2⟩ := List.pairwise_cons.mp h
    obtain ⟨a, b, c⟩ := cnt_split (size := size) h2
    by_cases hp : size < p.2.length
    · have e : cntOver (p :: r) size = cntOver r size + 1 := by unfold cntOver; rw [List.filter_cons, if_pos (by simpa using hp)]; rfl
      rw [e, List.take_succ_cons, List.drop_succ_cons, List.filter_cons, if_neg (by simp; first | lia | omega)]
      refine ⟨fun q hq => ?_, b, c⟩
      rcases List.mem_cons.mp hq with rfl | hq
      · exact hp
      · exact a q hq
    · have hall : ∀ q ∈ r, q.2.length ≤ size := fun q hq => by
        have : q.2.length ≤ p.2.length := (h1 q.2 (List.mem_map_of_mem hq)).2
        first | lia | omega
      have e : cntOver (p :: r) size = 0 := by
        unfold cntOver
        rw [List.length_eq_zero_iff, List.filter_eq_nil_iff]
        intro q hq
        rcases List.mem_cons.mp hq with rfl | hq
        · simpa using hp
        · have := hall q hq; simp; first | lia | omega
      rw [e, List.take_zero, List.drop_zero]
      refine ⟨fun q hq => (by cases hq), fun q hq => ?_, ?_⟩
      · rcases List.mem_cons.mp hq with rfl | hq
        · first | lia | omega
        · exact hall q hq
      · rw [List.filter_eq_self]
        intro q hq
        rcases List.mem_cons.mp hq with rfl | hq
        · simp; first | lia | omega
        · simpa using hall q hq
structure FS (bg : Nat) (fr : Fre) (gv : Words) : Prop where
  inv : Inv bg (snds fr) gv
  bls : ∀ p ∈ fr, p.1 = bl (3 - p.2.length)
theorem val_lett : ∀ m n : Nat, n < 16 ^ m → val (lett m n) = n
  | 0, n, h => by
    have : n = 0 := by simpa using h
    subst this; rfl
  | m + 1, n, h => by
    rw [lett_snoc, val_append, val_lett m (n / 16) (by rw [Nat.pow_succ] at h; exact Nat.div_lt_of_lt_mul (by first | lia | omega))]
    simp [val]
    first | lia | omega
theorem stemAt_lo {room p j : Nat} (h : room ≤ 4096) (hp : p ≤ 3) (hn : begAt room p / 16 ^ p + j < 16 ^ (3 - p)) : lo (stemAt room p j).2 = begAt room p + j * 16 ^ p ∧ sz (stemAt room p j).2 = 16 ^ p := by
  have e : sz (stemAt room p j).2 = 16 ^ p := by
    unfold sz stemAt
    rw [lett_length, Nat.sub_sub_self hp]
  refine ⟨?_, e⟩
  unfold lo
  rw [e]
  unfold stemAt
  dsimp only
  rw [val_lett _ _ hn, Nat.add_mul]
  have := begAt_dvd h hp
  have h2 := Nat.div_add_mod (begAt room p) (16 ^ p)
  rw [Nat.mul_comm, this, Nat.add_zero] at h2
  rw [h2]
theorem row_room {room p j : Nat} (h : room ≤ 4096) (hp : p ≤ 3) (hj : j < room / 16 ^ p % 16) : begAt room p / 16 ^ p + j < 16 ^ (3 - p) ∧ begAt room p + room / 16 ^ p * 16 ^ p = 4096 := by
  have hp0 : 0 < (16 : Nat) ^ p := Nat.pow_pos (by decide)
  have hS : begAt room p + (room / 16 ^ p) * 16 ^ p = 4096 := by
    unfold begAt
    have := Nat.div_add_mod room (16 ^ p)
    rw [Nat.mul_comm] at this
    exact row_eq h this
  have hjr : j < room / 16 ^ p := Nat.lt_of_lt_of_le hj (Nat.mod_le _ _)
  have h3i : (16 : Nat) ^ (3 - p) * 16 ^ p = 4096 := by
    rw [← Nat.pow_add, Nat.sub_add_cancel hp]
  refine ⟨?_, hS⟩
  rw [← Nat.add_mul_div_right _ _ hp0]
  refine Nat.div_lt_of_lt_mul ?_
  rw [Nat.mul_comm (16 ^ p) (16 ^ (3 - p)), h3i]
  have : (j + 1) * 16 ^ p ≤ (room / 16 ^ p) * 16 ^ p := Nat.mul_le_mul_right _ hjr
  rw [Nat.add_mul, Nat.one_mul] at this
  first | lia | omega
theorem snds_row (room p c : Nat) : snds (stemsRow room p c) = (List.range c).map fun j => (stemAt room p j).2 := by unfold snds stemsRow; rw [List.map_map]; rfl
theorem snds_up (room i : Nat) : snds (stemsUp room (i + 1)) = snds (stemsUp room i) ++ snds (stemsRow room i (room / 16 ^ i % 16)) := by rw [stemsUp_succ]; simp [snds]
theorem up_facts {room : Nat} (h : room ≤ 4096) : ∀ i, i ≤ 4 → (∀ x, cov (snds (stemsUp room i)) x = if begAt room 0 ≤ x ∧ x < begAt room i then 1 else 0) ∧ (∀ w ∈ snds (stemsUp room i), Wd w ∧ hi w ≤ begAt room i ∧ 4 ≤ w.length + i) ∧
    (snds (stemsUp room i)).Pairwise (fun a b => hi a ≤ lo b ∧ b.length ≤ a.length) ∧ (∀ L, cntL (snds (stemsUp room i)) L ≤ 15) ∧ ∀ p ∈ stemsUp room i, p.1 = bl (3 - p.2.length) := by
  intro i
  induction i with
  | zero =>
    intro _
    refine ⟨fun x => ?_, fun w hw => (by cases hw), List.Pairwise.nil, fun L => Nat.zero_le _, fun p hp => (by cases hp)⟩
    rw [show snds (stemsUp room 0) = [] from rfl, cov_nil]
    exact (if_neg fun k => Nat.not_lt.mpr k.1 k.2).symm
  | succ i ih =>
    intro hi4
    have hi3 : i ≤ 3 := Nat.le_of_succ_le_succ hi4
    obtain ⟨c1, c2, c3, c4, c5⟩ := ih (Nat.le_of_succ_le hi4)
    have hat : ∀ j, j < room / 16 ^ i % 16 → lo (stemAt room i j).2 = begAt room i + j * 16 ^ i ∧ sz (stemAt room i j).2 = 16 ^ i := fun j hj => stemAt_lo h hi3 (row_room h hi3 hj).1
    have hmem : ∀ w ∈ snds (stemsRow room i (room / 16 ^ i % 16)), ∃ j, j < room / 16 ^ i % 16 ∧ w = (stemAt room i j).2 := fun w hw => by
      rw [snds_row] at hw
      obtain ⟨j, hj, rfl⟩ := List.mem_map.mp hw
      exact ⟨j, List.mem_range.mp hj, rfl⟩
    have hlen : ∀ j, (stemAt room i j).2.length = 3 - i := fun j => lett_length _ _
    have hb := begAt_succ (room := room) (i := i)
    refine ⟨fun x => ?_, fun w hw => ?_, ?_, fun L => ?_, fun p hp => ?_⟩
    · rw [snds_up, cov_append, c1, snds_row, cov_run _ (begAt room i) (16 ^ i) x _ hat, hb]
      have : begAt room 0 ≤ begAt room i := by
        clear hat hmem hlen hb c1 c2 c3 c4 c5 ih hi4 hi3
        induction i with
        | zero => exact Nat.le_refl _
        | succ i ih => rw [begAt_succ]; exact Nat.le_trans ih (Nat.le_add_right _ _)
      exact run_if this (Nat.le_add_right _ _) x
    · rw [snds_up, List.mem_append] at hw
      rcases hw with hw | hw
      · obtain ⟨a, b, c⟩ := c2 w hw
        exact ⟨a, Nat.le_trans b (hb ▸ Nat.le_add_right _ _), Nat.le_succ_of_le c⟩
      · obtain ⟨j, hj, rfl⟩ := hmem w hw
        obtain ⟨a, b⟩ := hat j hj
        refine ⟨⟨by rw [hlen]; exact Nat.sub_le _ _, lett_lt _ _⟩, ?_, by rw [hlen, ← Nat.add_assoc, Nat.sub_add_cancel hi3]; exact Nat.le_refl _⟩
        unfold hi
        rw [a, b, hb]
        have : (j + 1) * 16 ^ i ≤ (room / 16 ^ i % 16) * 16 ^ i := Nat.mul_le_mul_right _ hj
        rw [Nat.add_mul, Nat.one_mul] at this
        first | lia | omega
    · rw [snds_up, List.pairwise_append]
      refine ⟨c3, ?_, fun a ha b hb' => ?_⟩
      · rw [snds_row, List.pairwise_map]
        refine List.Pairwise.imp_of_mem (fun {x y} hx hy hxy => ?_) List.pairwise_lt_range
        rw [List.mem_range] at hx hy
        obtain ⟨a1, b1⟩ := hat x hx
        obtain ⟨a2, _⟩ := hat y hy
        refine ⟨?_, by rw [hlen, hlen]; exact Nat.le_refl _⟩
        unfold hi
        rw [a1, b1, a2]
        have : (x + 1) * 16 ^ i ≤ y * 16 ^ i := Nat.mul_le_mul_right _ hxy
        rw [Nat.add_mul, Nat.one_mul] at this
        first | lia | omega
      · obtain ⟨_, q1, q2⟩ := c2 a ha
        obtain ⟨j, hj, rfl⟩ := hmem b hb'
        obtain ⟨a1, _⟩ := hat j hj
        rw [a1, hlen]
        exact ⟨Nat.le_trans q1 (Nat.le_add_right _ _), Nat.sub_le_of_le_add (Nat.le_of_succ_le q2)⟩
    · rw [snds_up, cntL_append]
      by_cases e : L = 3 - i
      · subst e
        have z : cntL (snds (stemsUp room i)) (3 - i) = 0 := cntL_zero fun w hw e => by have := (c2 w hw).2.2; rw [e, Nat.sub_add_cancel hi3] at this; exact absurd this (by decide)
        rw [z]
        have : cntL (snds (stemsRow room i (room / 16 ^ i % 16))) (3 - i) ≤ (snds (stemsRow room i (room / 16 ^ i % 16))).length := List.length_filter_le _ _
        rw [snds_row] at this ⊢
        rw [List.length_map, List.length_range] at this
        have := Nat.mod_lt (room / 16 ^ i) (show 0 < 16 by decide)
        first | lia | omega
      · have z : cntL (snds (stemsRow room i (room / 16 ^ i % 16))) L = 0 := cntL_zero fun w hw => by
          obtain ⟨j, _, rfl⟩ := hmem w hw
          rw [hlen]; exact Ne.symm e
        have := c4 L
        first | lia | omega
    · rw [stemsUp_succ, List.mem_append] at hp
      rcases hp with hp | hp
      · exact c5 p hp
      · unfold stemsRow at hp
        obtain ⟨j, _, rfl⟩ := List.mem_map.mp hp
        rw [hlen]
        show bl i = bl (3 - (3 - i))
        rw [Nat.sub_sub_self hi3]
theorem FS.init {room : Nat} (h1 : 1 ≤ room) (h2 : room ≤ 4096) : FS room (stemsUp room (ndig 4 (room : Int))) [] := by
  obtain ⟨c1, c2, c3, c4, c5⟩ := up_facts h2 _ (ndig4 h2)
  refine ⟨⟨h1, h2, fun w hw => ?_, fun w hw => (by cases hw), c3, c4, fun x => ?_⟩, c5⟩
  · rw [List.append_nil] at hw; exact (c2 w hw).1
  · rw [List.append_nil, c1]
    have e0 : begAt room 0 = 4096 - room := by unfold begAt; first | lia | omega
    have em : begAt room (ndig 4 (room : Int)) = 4096 := by
      unfold begAt
      rw [Nat.mod_eq_of_lt ndig4_ge]; first | lia | omega
    rw [e0, em]
theorem FS.wish {bg size : Nat} {fr : Fre} {gv : Words} {t : List Nat × List Nat} {r : Fre} (F : FS bg fr gv) (hs1 : 1 ≤ size) (hs3 : size ≤ 3) (hd : fr.drop (cntOver fr size) = t :: r) : FS bg (wishFree fr size) (gv ++ [t.2 ++ As (size - t.2.length)]) := by
  obtain ⟨q1, q2, _⟩ := cnt_split (size := size) F.inv.sorted
  rw [hd] at q2
  have htl : t.2.length ≤ size := q2 t List.mem_cons_self
  have hfr : fr = fr.take (cntOver fr size) ++ (t :: r) := by rw [← hd, List.take_append_drop]
  have eF : wishFree fr size = fr.take (cntOver fr size) ++ pieces t.2 size (size - t.2.length) ++ r := by unfold wishFree; rw [hd]
  rw [eF]
  generalize fr.take (cntOver fr size) = base at *
  subst hfr
  have I := F.inv
  have eS : snds (base ++ (t :: r)) = snds base ++ (t.2 :: snds r) := by simp [snds]
  have eS2 : snds (base ++ pieces t.2 size (size - t.2.length) ++ r) = snds base ++ snds (pieces t.2 size (size - t.2.length)) ++ snds r := by simp [snds]
  have ht : Wd t.2 := I.ws (by rw [eS]; simp)
  have hmp := fun {w : List Nat} (h : w ∈ snds (pieces t.2 size (size - t.2.length))) => mem_pieces hs3 ht (Nat.le_refl _) h
  obtain ⟨wl, ws⟩ := pad_lo (t := t.2) (n := size - t.2.length) (by rw [Nat.add_sub_cancel' htl]; exact hs3)
  rw [Nat.add_sub_cancel' htl] at ws
  have hpw : (16 : Nat) ^ (3 - size + (size - t.2.length)) = sz t.2 := by unfold sz; rw [Nat.sub_add_sub_cancel hs3 htl]
  have hp2 : (16 : Nat) ^ (3 - size) ≤ sz t.2 := by rw [← hpw]; exact Nat.pow_le_pow_right (by decide) (Nat.le_add_right _ _)
  have hsrt := I.sorted
  rw [eS, List.pairwise_append, List.pairwise_cons] at hsrt
  obtain ⟨s1, ⟨s2, s3⟩, s4⟩ := hsrt
  refine ⟨⟨I.b1, I.b2, fun w hw => ?_, fun w hw => ?_, ?_, fun L => ?_, fun x => ?_⟩, fun p hp => ?_⟩
  · rw [eS2] at hw
    simp only [List.mem_append, List.mem_singleton] at hw
    rcases hw with ((hw | hw) | hw) | hw | hw
    · exact I.ws (by rw [eS]; simp only [List.mem_append]; exact .inl hw)
    · exact (hmp hw).1
    · exact I.ws (by rw [eS]; simp only [List.mem_append, List.mem_cons]; exact .inr (.inr hw))
    · exact I.wg hw
    · subst hw
      refine ⟨by rw [List.length_append, As_len, Nat.add_sub_cancel' htl]; exact hs3, fun c hc => ?_⟩
      rw [List.mem_append] at hc
      rcases hc with hc | hc
      · exact ht.lets c hc
      · rw [As_lets _ c hc]; unfold isL; first | lia | omega
  · rw [List.mem_append, List.mem_singleton] at hw
    rcases hw with hw | hw
    · exact I.g1 w hw
    · subst hw; rw [List.length_append, As_len, Nat.add_sub_cancel' htl]; exact hs1
  · rw [eS2, List.pairwise_append, List.pairwise_append]
    refine ⟨⟨s1, pieces_sorted hs3 ht _ (Nat.le_refl _), fun a ha b hb => ?_⟩, s3, fun a ha b hb => ?_⟩
    · obtain ⟨_, m1, _, _, m2⟩ := hmp hb
      obtain ⟨n1, _⟩ := s4 a ha t.2 List.mem_cons_self
      obtain ⟨p, hp, rfl⟩ := List.mem_map.mp ha
      have := q1 p hp
      exact ⟨Nat.le_trans n1 (Nat.le_trans (Nat.le_add_right _ _) m1), Nat.le_trans m2 (Nat.le_of_lt this)⟩
    · rw [List.mem_append] at ha
      obtain ⟨n1, n2⟩ := s2 b hb
      rcases ha with ha | ha
      · exact s4 a ha b (List.mem_cons_of_mem _ hb)
      · obtain ⟨_, _, m3, m4, _⟩ := hmp ha
        rw [hpw] at m3
        rw [Nat.sub_sub_self htl] at m4
        exact ⟨Nat.le_trans m3 n1, Nat.le_trans n2 (Nat.le_of_lt m4)⟩
  · rw [eS2, cntL_append, cntL_append, pieces_cnt hs3 _ (Nat.le_refl _), Nat.sub_sub_self htl]
    have hold := I.cnt L
    rw [eS, cntL_append, cntL_cons] at hold
    by_cases hL : t.2.length < L ∧ L ≤ size
    · rw [if_pos hL]
      have z1 : cntL (snds base) L = 0 := cntL_zero fun w hw => by
        obtain ⟨p, hp, rfl⟩ := List.mem_map.mp hw
        exact fun e => Nat.lt_irrefl _ (Nat.lt_of_lt_of_le (q1 p hp) (e ▸ hL.2))
      have z2 : cntL (snds r) L = 0 := cntL_zero fun w hw => by
        exact fun e => Nat.lt_irrefl _ (Nat.lt_of_lt_of_le hL.1 (e ▸ (s2 w hw).2))
      rw [z1, z2]; exact Nat.le_refl _
    · rw [if_neg hL]; exact Nat.le_trans (by rw [Nat.add_zero]; exact Nat.add_le_add_left (Nat.le_add_left _ _) _) hold
  · have hx := I.cover x
    rw [eS] at hx
    rw [eS2, ← hx]
    simp only [cov_append, cov_cons, cov_nil]
    rw [cov_pieces hs3 x _ (Nat.le_refl _), hpw]
    have e1 : ind x t.2 = if lo t.2 ≤ x ∧ x < lo t.2 + sz t.2 then 1 else 0 := rfl
    have e2 : ind x (t.2 ++ As (size - t.2.length)) = if lo t.2 ≤ x ∧ x < lo t.2 + 16 ^ (3 - size) then 1 else 0 := by unfold ind hi; rw [wl, ws]
    rw [e1, e2, ← run_if (Nat.le_add_right _ (16 ^ (3 - size))) (Nat.add_le_add_left hp2 _) x, Nat.add_zero]
    exact add5
  · simp only [List.mem_append] at hp
    rcases hp with (hp | hp) | hp
    · exact F.bls p (by simp only [List.mem_append]; exact .inl hp)
    · unfold pieces at hp
      obtain ⟨j, hj, hp⟩ := List.mem_flatMap.mp hp
      rw [List.mem_range] at hj
      unfold pieceRow at hp
      obtain ⟨c, _, rfl⟩ := List.mem_map.mp hp
      dsimp only
      congr 1
      simp [As_len]
      rw [wrd (lt_sub' hj)]
    · exact F.bls p (by simp only [List.mem_append, List.mem_cons]; exact .inr (.inr hp))
end
section
open PySem PySem.Calls PyProof.Rows PySem.W PySem.Spec
section
variable {bg : Nat} {fr : Fre} {gv : Words} {size : Nat}
noncomputable def fitL (ss : Words) (size : Nat) : List At := (ss.filter fun s => decide (s.length ≤ size)).map (fun s => .str (s ++ As (size - s.length))) ++ [.none]
theorem fit_head (F : FS bg fr gv) (size : Nat) : (fitL (snds fr) size)[0]? = some (wishVal fr size) := by
  obtain ⟨_, _, q3⟩ := cnt_split (size := size) F.inv.sorted
  unfold fitL wishVal
  have : (snds fr).filter (fun s => decide (s.length ≤ size)) = snds (fr.drop (cntOver fr size)) := by
    rw [← q3]; unfold snds; rw [List.filter_map]; rfl
  rw [this]
  cases fr.drop (cntOver fr size) <;> rfl
theorem wish_none (F : FS bg fr gv) (hs1 : 1 ≤ size) (hs3 : size ≤ 3) : (wishVal fr size = .none) ↔ (bg : Int) - ((gv.map sz).sum : Nat) - ((16 ^ (3 - size) : Nat) : Int) < 0 := by
  obtain ⟨q1, q2, _⟩ := cnt_split (size := size) F.inv.sorted
  have hT := F.inv.total
  unfold wishVal
  cases hd : fr.drop (cntOver fr size) with
  | nil =>
    have hall : fr.take (cntOver fr size) = fr := List.take_of_length_le (List.drop_eq_nil_iff.mp hd)
    rw [hall] at q1
    have := kraft (n := size) (fun w hw => F.inv.ws hw) (fun w hw => by
      obtain ⟨p, hp, rfl⟩ := List.mem_map.mp hw
      exact q1 p hp) F.inv.cnt hs3
    simp only [true_iff]
    first | lia | omega
  | cons t r =>
    rw [hd] at q2
    have htl := q2 t List.mem_cons_self
    have hm : t.2 ∈ snds fr := List.mem_map_of_mem (List.mem_of_mem_drop (i := cntOver fr size) (by rw [hd]; exact List.mem_cons_self))
    have h1 : sz t.2 ≤ ((snds fr).map sz).sum := by
      clear hT q1 q2 hd htl F
      generalize snds fr = l at hm
      induction l with
      | nil => cases hm
      | cons a l ih =>
        rw [List.map_cons, List.sum_cons]
        rcases List.mem_cons.mp hm with e | h
        · rw [e]; first | lia | omega
        · have := ih h; first | lia | omega
    have h2 : 16 ^ (3 - size) ≤ sz t.2 := Nat.pow_le_pow_right (by decide) (by first | lia | omega)
    simp only [reduceCtorEq, false_iff]
    first | lia | omega
theorem wish_stay (h : wishVal fr size = .none) : wishFree fr size = fr := by
  unfold wishVal at h
  unfold wishFree
  cases hd : fr.drop (cntOver fr size) with
  | nil => rfl
  | cons t r => rw [hd] at h; cases h
noncomputable def givenAfter (fr : Fre) (size : Nat) (gv : Words) : Words := match wishVal fr size with
  | .str w => gv ++ [w]
  | _ => gv
theorem FS.after (F : FS bg fr gv) (hs1 : 1 ≤ size) (hs3 : size ≤ 3) : FS bg (wishFree fr size) (givenAfter fr size gv) := by
  cases hd : fr.drop (cntOver fr size) with
  | nil =>
    have : wishVal fr size = .none := by unfold wishVal; rw [hd]
    rw [wish_stay this]
    unfold givenAfter
    rw [this]; exact F
  | cons t r =>
    have : wishVal fr size = .str (t.2 ++ As (size - t.2.length)) := by unfold wishVal; rw [hd]
    unfold givenAfter
    rw [this]
    exact F.wish hs1 hs3 hd
theorem first_granted (F : FS 4096 fr []) (hs1 : 1 ≤ size) (hs3 : size ≤ 3) : givenAfter fr size [] ≠ [] := by
  unfold givenAfter
  cases h : wishVal fr size with
  | none =>
    have := (wish_none F hs1 hs3).mp h
    have h16 : (16 : Nat) ^ (3 - size) ≤ 16 ^ 3 := Nat.pow_le_pow_right (by decide) (by first | lia | omega)
    rw [show (16 : Nat) ^ 3 = 4096 by decide] at h16
    rw [show (([] : Words).map sz).sum = 0 from rfl] at this
    generalize (16 : Nat) ^ (3 - size) = z at *
    first | lia | omega
  | str w => simp
  | bool b =>
    exfalso
    unfold wishVal at h
    cases hd : fr.drop (cntOver fr size) <;> rw [hd] at h <;> cases h
  | int i =>
    exfalso
    unfold wishVal at h
    cases hd : fr.drop (cntOver fr size) <;> rw [hd] at h <;> cases h
  | bytes b =>
    exfalso
    unfold wishVal at h
    cases hd : fr.drop (cntOver fr size) <;> rw [hd] at h <;> cases h
theorem wishVal_cases (fr : Fre) (size : Nat) : wishVal fr size = .none ∨ ∃ w, wishVal fr size = .str w := by
  unfold wishVal
  cases fr.drop (cntOver fr size) with
  | nil => exact .inl rfl
  | cons t r => exact .inr ⟨_, rfl⟩
theorem next_pairs {α : Type} {R : α → α → Prop} : ∀ {l : List α}, l.Pairwise R → ∀ p ∈ l.zip (l.drop 1), R p.1 p.2
  | [], _, p, hp => by cases hp
  | [a], _, p, hp => by cases hp
  | a :: b :: r, h, p, hp => by
    obtain ⟨h1, h2⟩ := List.pairwise_cons.mp h
    rw [List.drop_succ_cons, List.drop_zero, List.zip_cons_cons] at hp
    rcases List.mem_cons.mp hp with rfl | hp
    · exact h1 b List.mem_cons_self
    · exact next_pairs h2 p (by simpa using hp)
theorem Inv.rising {ss : Words} (I : Inv bg ss gv) : ss.Pairwise fun a b => a < b ∧ b.length ≤ a.length := by
  refine List.Pairwise.imp_of_mem (fun {a b} ha hb h => ⟨lo_lt (I.ws ha) (I.ws hb) ?_, h.2⟩) I.sorted
  have := sz_pos a
  have := h.1
  unfold hi at this
  first | lia | omega
theorem FS.lens (F : FS bg fr gv) : lensL fr = 3 * (fr.length : Int) := by
  have h : ∀ p ∈ fr, p.1.length + p.2.length = 3 := fun p hp => by
    have := (F.inv.ws (List.mem_map_of_mem (f := (·.2)) hp)).len
    rw [F.bls p hp, bl_len]; first | lia | omega
  clear F
  unfold lensL
  induction fr with
  | nil => rfl
  | cons a r ih =>
    rw [List.map_cons, List.sum_cons, ih fun p hp => h p (List.mem_cons_of_mem _ hp), List.length_cons]
    have := h a List.mem_cons_self
    first | lia | omega
theorem FS.text (F : FS bg fr gv) : textL fr = ((snds fr).map fun s => bl (3 - s.length) ++ s).flatten := by
  have h := F.bls
  clear F
  unfold textL snds
  rw [List.map_map]
  congr 1
  apply List.map_congr_left
  intro p hp
  rw [h p hp]; rfl
theorem cntL_total (ws : Words) (h : ∀ w ∈ ws, Wd w) : ws.length = cntL ws 0 + cntL ws 1 + cntL ws 2 + cntL ws 3 := by
  induction ws with
  | nil => rfl
  | cons a r ih =>
    rw [List.length_cons, ih fun w hw => h w (List.mem_cons_of_mem _ hw), cntL_cons, cntL_cons, cntL_cons, cntL_cons]
    have := (h a List.mem_cons_self).len
    generalize a.length = n at *
    rcases n with _ | _ | _ | _ | n
    all_goals first | first | lia | omega | (simp; first | lia | omega)
theorem Inv.count {ss : Words} (I : Inv bg ss gv) : ss.length ≤ 60 := by
  rw [cntL_total ss fun w hw => I.ws hw]
  have := I.cnt 0; have := I.cnt 1; have := I.cnt 2; have := I.cnt 3
  first | lia | omega
theorem Inv.words {ss : Words} (I : Inv bg ss gv) : ∀ p ∈ (srt gv).zip ((srt gv).drop 1), ¬ p.1 <+: p.2 := by
  have hn : (srt gv).Pairwise (fun a b => a ≠ b) := (srt_perm gv).nodup_iff.mpr I.ndg
  have : (srt gv).Pairwise (fun a b => ¬ a <+: b) := List.Pairwise.imp_of_mem (fun {a b} ha hb h => I.nopre (List.mem_append_right _ (srt_mem.mp ha)) (List.mem_append_right _ (srt_mem.mp hb)) h) hn
  exact next_pairs this
theorem edge_wd {bg : Nat} (h1 : 1 ≤ bg) (h2 : bg ≤ 4096) : Wd (lett 3 (4096 - bg)) ∧ lo (lett 3 (4096 - bg)) = 4096 - bg ∧ sz (lett 3 (4096 - bg)) = 1 ∧ (lett 3 (4096 - bg)).length = 3 := by
  have hl := lett_length 3 (4096 - bg)
  have hz : sz (lett 3 (4096 - bg)) = 1 := by unfold sz; rw [hl]
  refine ⟨⟨by first | lia | omega, lett_lt _ _⟩, ?_, hz, hl⟩
  unfold lo
  rw [hz, val_lett _ _ (by first | lia | omega), Nat.mul_one]
theorem pad3 {h : List Nat} (hw : Wd h) : (h ++ [65, 65, 65]).take 3 = h ++ As (3 - h.length) := by
  rcases hw.cases with rfl | ⟨x, hx, rfl⟩ | ⟨x, y, hx, hy, rfl⟩ | ⟨x, y, z, hx, hy, hz, rfl⟩ <;> rfl
theorem freeB_iff {h : List Nat} (hw : Wd h) (h1 : 1 ≤ bg) (h2 : bg ≤ 4096) : freeB h gv (lett 3 (4096 - bg)) = true ↔ 4096 - bg ≤ lo h ∧ ∀ v ∈ gv, ¬ v <+: h ∧ ¬ h <+: v := by
  obtain ⟨e1, e2, e3, e4⟩ := edge_wd h1 h2
  obtain ⟨p1, p2⟩ := pad_lo (t := h) (n := 3 - h.length) (by have := hw.len; first | lia | omega)
  have hpw : Wd (h ++ As (3 - h.length)) := ⟨by rw [List.length_append, As_len]; have := hw.len; first | lia | omega, fun c hc => by
    rw [List.mem_append] at hc
    rcases hc with hc | hc
    · exact hw.lets c hc
    · rw [As_lets _ c hc]; unfold isL; first | lia | omega⟩
  have hlt : (h ++ As (3 - h.length) < lett 3 (4096 - bg)) ↔ lo h < 4096 - bg := by
    constructor
    · intro q
      refine Nat.lt_of_not_le fun hle => ?_
      rcases Nat.lt_or_ge (4096 - bg) (lo h) with hgt | hge
      · have := lo_lt e1 hpw (by rw [p1, e2]; exact hgt)
        exact absurd q (List.lt_asymm this)
      · have := lo_inj hpw e1 (by rw [p1, e2]; first | lia | omega) (by rw [List.length_append, As_len, e4]; have := hw.len; first | lia | omega)
        rw [this] at q
        exact List.lt_irrefl _ q
    · intro q; exact lo_lt hpw e1 (by rw [p1, e2]; exact q)
  unfold freeB
  rw [pad3 hw, Bool.and_eq_true, Bool.not_eq_true', decide_eq_false_iff_not, hlt, List.all_eq_true]
  constructor
  · rintro ⟨a, b⟩
    refine ⟨by first | lia | omega, fun v hv => ?_⟩
    have := b v hv
    unfold clash at this
    rw [Bool.not_eq_true', Bool.or_eq_false_iff, decide_eq_false_iff_not, decide_eq_false_iff_not] at this
    exact ⟨fun q => this.2 (List.prefix_iff_eq_take.mp q).symm, fun q => this.1 (List.prefix_iff_eq_take.mp q).symm⟩
  · rintro ⟨a, b⟩
    refine ⟨by first | lia | omega, fun v hv => ?_⟩
    obtain ⟨c1, c2⟩ := b v hv
    unfold clash
    rw [Bool.not_eq_true', Bool.or_eq_false_iff, decide_eq_false_iff_not, decide_eq_false_iff_not]
    exact ⟨fun q => c2 (List.prefix_iff_eq_take.mpr q.symm), fun q => c1 (List.prefix_iff_eq_take.mpr q.symm)⟩
theorem mem_heads {edge h : List Nat} : h ∈ headsOf gv edge ↔ ∃ w ∈ gv ++ [edge], h <+: w ∧ h.length < w.length := by
  unfold headsOf
  rw [List.mem_flatMap]
  constructor
  · rintro ⟨w, hw, hm⟩
    obtain ⟨p, hp, rfl⟩ := List.mem_map.mp hm
    rw [List.mem_range] at hp
    exact ⟨w, hw, List.take_prefix _ _, by rw [List.length_take]; first | lia | omega⟩
  · rintro ⟨w, hw, hp, hl⟩
    exact ⟨w, hw, List.mem_map.mpr ⟨h.length, List.mem_range.mpr hl, (List.prefix_iff_eq_take.mp hp).symm⟩⟩
theorem mem_kids {edge w : List Nat} : w ∈ kids gv edge ↔ ∃ h c, (∃ u ∈ gv ++ [edge], h <+: u ∧ h.length < u.length) ∧ freeB h gv edge = false ∧ c ∈ abc ∧ w = h ++ [c] ∧ freeB w gv edge = true := by
  unfold kids
  rw [List.mem_flatMap]
  constructor
  · rintro ⟨h, hh, hm⟩
    unfold heads2 at hh
    obtain ⟨a, b⟩ := List.mem_filter.mp hh
    obtain ⟨c, d⟩ := List.mem_filter.mp hm
    obtain ⟨x, hx, rfl⟩ := List.mem_map.mp c
    exact ⟨h, x, mem_heads.mp (nubW_mem.mp (srt_mem.mp a)), by simpa using b, hx, rfl, d⟩
  · rintro ⟨h, c, hu, hf, hc, rfl, hw⟩
    refine ⟨h, List.mem_filter.mpr ⟨srt_mem.mpr (nubW_mem.mpr (mem_heads.mpr hu)), by simpa using hf⟩, List.mem_filter.mpr ⟨List.mem_map.mpr ⟨c, hc, rfl⟩, hw⟩⟩
theorem abc_range : abc = (List.range 16).map fun i => 65 + i := by decide
theorem mem_abc {c : Nat} : c ∈ abc ↔ isL c := by
  rw [abc_range, List.mem_map]
  unfold isL
  constructor
  · rintro ⟨i, hi, rfl⟩
    have := List.mem_range.mp hi
    first | lia | omega
  · intro h
    exact ⟨c - 65, List.mem_range.mpr (by first | lia | omega), by first | lia | omega⟩
theorem Inv.kids_mem {ss : Words} (I : Inv bg ss gv) (hne : gv ≠ [] ∨ bg < 4096) (w : List Nat) : w ∈ kids gv (lett 3 (4096 - bg)) ↔ w ∈ ss := by
  obtain ⟨e1, e2, e3, e4⟩ := edge_wd I.b1 I.b2
  rw [mem_kids]
  constructor
  · rintro ⟨h, c, ⟨u, hu, hp, hl⟩, hf, hc, rfl, hw⟩
    have hcl := mem_abc.mp hc
    have huw : Wd u := by
      rw [List.mem_append, List.mem_singleton] at hu
      rcases hu with hu | rfl
      · exact I.wg hu
      · exact e1
    have hhl : h.length ≤ 2 := by have := huw.len; first | lia | omega
    have hlet : ∀ c ∈ h, isL c := fun c hc => huw.lets c (hp.subset hc)
    have hhw : Wd h := ⟨by first | lia | omega, hlet⟩
    have hww : Wd (h ++ [c]) := ⟨by simp; first | lia | omega, fun x hx => by
      rw [List.mem_append, List.mem_singleton] at hx
      rcases hx with hx | rfl
      · exact hlet x hx
      · exact hcl⟩
    obtain ⟨f1, f2⟩ := (freeB_iff hww I.b1 I.b2).mp hw
    refine Classical.byContradiction fun hns => ?_
    refine I.tile hww f1 f2 fun s hs hps => ?_
    have hsh : s <+: h := by
      rcases List.prefix_concat_iff.mp hps with e | q
      · exact absurd (e ▸ hs) hns
      · exact q
    have : freeB h gv (lett 3 (4096 - bg)) = true := (freeB_iff hhw I.b1 I.b2).mpr ⟨by
        have := I.in_ (List.mem_append_left gv hs)
        have := (pre_in (I.ws hs) hhw hsh).1
        first | lia | omega, fun v hv => ⟨fun q => ?_, fun q => ?_⟩⟩
    · rw [hf] at this; cases this
    · rcases List.prefix_or_prefix_of_prefix q hsh with z | z
      · exact I.nopre (List.mem_append_right _ hv) (List.mem_append_left _ hs) (Ne.symm (I.ne hs hv)) z
      · exact I.nopre (List.mem_append_left _ hs) (List.mem_append_right _ hv) (I.ne hs hv) z
    · exact I.nopre (List.mem_append_left _ hs) (List.mem_append_right _ hv) (I.ne hs hv) (hsh.trans q)
  · intro hw
    have hww := I.ws hw
    have hn : w ≠ [] := fun e => by
      subst e
      rcases hne with h | h
      · obtain ⟨v, hv⟩ := List.exists_mem_of_ne_nil gv h
        exact I.nopre (List.mem_append_left _ hw) (List.mem_append_right _ hv) (I.ne hw hv) (List.nil_prefix)
      · have := I.in_ (List.mem_append_left gv hw)
        rw [lo0.1] at this
        first | lia | omega
    obtain ⟨h, c, rfl⟩ : ∃ h c, w = h ++ [c] := ⟨w.dropLast, w.getLast hn, (List.dropLast_concat_getLast hn).symm⟩
    have hhl : h.length ≤ 2 := by have := hww.len; simp at this; first | lia | omega
    have hhw : Wd h := ⟨by first | lia | omega, fun c hc => hww.lets c (List.mem_append_left _ hc)⟩
    have hhp : h <+: h ++ [c] := List.prefix_append _ _
    have hfw : freeB (h ++ [c]) gv (lett 3 (4096 - bg)) = true := (freeB_iff hww I.b1 I.b2).mpr ⟨I.in_ (List.mem_append_left gv hw), fun v hv => ⟨I.nopre (List.mem_append_right _ hv) (List.mem_append_left _ hw) (Ne.symm (I.ne hw hv)), I.nopre (List.mem_append_left _ hw) (List.mem_append_right _ hv) (I.ne hw hv)⟩⟩
    have hnf : ¬ freeB h gv (lett 3 (4096 - bg)) = true := fun hf => by
      obtain ⟨f1, f2⟩ := (freeB_iff hhw I.b1 I.b2).mp hf
      refine I.tile hhw f1 f2 fun s hs hp => ?_
      refine I.nopre (List.mem_append_left gv hs) (List.mem_append_left gv hw) (fun e => ?_) (hp.trans hhp)
      have := hp.length_le
      rw [e] at this
      simp at this
      first | lia | omega
    refine ⟨h, c, ?_, by simpa using hnf, mem_abc.mpr (hww.lets c (by simp)), rfl, hfw⟩
    rw [freeB_iff hhw I.b1 I.b2] at hnf
    by_cases hlo : 4096 - bg ≤ lo h
    · have : ∃ v ∈ gv, v <+: h ∨ h <+: v := Classical.byContradiction fun hno => hnf ⟨hlo, fun v hv => ⟨fun q => hno ⟨v, hv, .inl q⟩, fun q => hno ⟨v, hv, .inr q⟩⟩⟩
      obtain ⟨v, hv, q⟩ := this
      have hvw : ¬ v <+: h ++ [c] := I.nopre (List.mem_append_right _ hv) (List.mem_append_left _ hw) (Ne.symm (I.ne hw hv))
      rcases q with q | q
      · exact absurd (q.trans hhp) hvw
      · refine ⟨v, List.mem_append_left _ hv, q, ?_⟩
        have := q.length_le
        have : h.length ≠ v.length := fun e => hvw (by rw [← q.eq_of_length e]; exact hhp)
        first | lia | omega
    · have h3 := I.in_ (List.mem_append_left gv hw)
      obtain ⟨_, h4⟩ := pre_in hhw hww hhp
      have h5 := (lo_in (h ++ [c])).2
      refine ⟨lett 3 (4096 - bg), by simp, ?_, by rw [e4]; first | lia | omega⟩
      rcases over_pre e1 hhw (n := 4096 - bg) (by first | lia | omega) (by unfold hi; first | lia | omega) (by first | lia | omega) (by first | lia | omega) with q | q
      · have := q.length_le
        rw [e4] at this
        first | lia | omega
      · exact q
set_option tactic.hygienic true in
theorem nubW_nodup (l : Words) : (nubW l).Nodup := by
  unfold nubW
  have : ∀ (l a : Words), a.Nodup → (l.foldl addW a).Nodup := by
    intro l
    induction l with
    | nil => intro a h; exact h
    | cons w r ih =>
      intro a h
      rw [List.foldl_cons]
      refine ih _ ?_
      unfold addW
      split
      · exact h
      · rename_i hw
        rw [List.nodup_append]
        refine ⟨h, by simp, fun x hx y hy => ?_⟩
        rw [List.mem_singleton] at hy
        subst hy
        intro e
        subst e
        simp_all
  exact this l [] List.nodup_nil
theorem kids_nodup (edge : List Nat) : (kids gv edge).Nodup := by
  unfold kids
  have hh : (heads2 gv edge).Nodup := by
    unfold heads2
    exact List.Pairwise.filter _ ((srt_perm _).nodup_iff.mpr (nubW_nodup _))
  unfold List.Nodup at *
  rw [List.pairwise_flatMap]
  refine ⟨fun h hm => ?_, hh.imp fun {a b} hab x hx y hy e => ?_⟩
  · refine List.Pairwise.filter _ ?_
    rw [List.pairwise_map]
    have : abc.Pairwise (fun a b => a ≠ b) := by decide
    exact this.imp fun {a b} hab e => hab (by simpa using e)
  · obtain ⟨c, _, rfl⟩ := List.mem_map.mp (List.mem_filter.mp hx).1
    obtain ⟨d, _, rfl⟩ := List.mem_map.mp (List.mem_filter.mp hy).1
    exact hab (List.append_inj_left' e rfl)
theorem Inv.beside {ss : Words} (I : Inv bg ss gv) (hne : gv ≠ [] ∨ bg < 4096) : ss = srt (kids gv (lett 3 (4096 - bg))) ∧ (kids gv (lett 3 (4096 - bg))).length = ss.length := by
  have hp : ss.Perm (kids gv (lett 3 (4096 - bg))) := (List.perm_ext_iff_of_nodup I.nds (kids_nodup _)).mpr fun w => (I.kids_mem hne w).symm
  refine ⟨srt_unique hp ?_, hp.length_eq.symm⟩
  refine I.rising.imp fun {a b} h => ?_
  unfold leW
  rw [Bool.not_eq_true', decide_eq_false_iff_not]
  exact List.lt_asymm h.1
end
end
section
open PySem PySem.Calls PyProof.Rows PySem.W PySem.Spec
section
variable {V : Wo} {k : Nat}
theorem CW.extend {a : Addr} {l m : List It} (hl : l.length + m.length < 1000000) : CW V k "list.extend" [.list m] a (.own a l) (.own a (l ++ m)) := fun A s vs Fi g h0 hp hps => by
  obtain ⟨v, rfl, hv⟩ := hps.one
  obtain ⟨ws, n, _, ho, hi⟩ := hp
  obtain ⟨b, us, n2, rfl, hb, hib⟩ := hv
  have e : ws.size = l.length := by have := hi.length; simpa using this
  have e2 : us.size = m.length := by have := hib.length; simpa using this
  have hfit : ¬ (!ws.isEmpty && Builtin.List.listTooLong (ws.size + us.size)) = true := by
    rw [e, e2]
    unfold Builtin.List.listTooLong
    rw [sizeLine_eq]
    simp
    intro _
    (first | lia | omega)
  refine call_meets PySem.F.slot_list_extend ⟨_, ho, rfl⟩ PySem.F.entry_list_extend (PySem.F.args_list_extend_2 _ _) (AutoSeq1.list_extend_list_list_0 a ws n b us n2 hfit (by rw [sizeLine_eq]; (first | lia | omega)) (by rw [sizeLine_eq]; (first | lia | omega))) ⟨ho, hb, ?_⟩
  have hs := Heap.SameBut.update s.heap a (Obj.mapSeq fun x => x ++ us)
  obtain ⟨mo, nt⟩ := own_mo (l := l) g h0 ho hs
  refine ⟨rfl, mo, ws ++ us, _, rfl, Heap.get?_update_self _ ho rfl, ?_⟩
  rw [Array.toList_append]
  exact (mo.its g nt hi).append (mo.its g nt hib)
end
end
section
open PySem PySem.Calls PyProof.Rows PySem.W PySem.Spec
noncomputable def forBody : Option Stmt → List Stmt
  | some (.For _ _ b _ _) => b
  | _ => []
noncomputable def turnB : List Stmt := forBody (bodyN 22)[5]?
noncomputable def sndF : It → List It
  | .tup [.str _, .str s] => [sIt s]
  | _ => []
theorem snd_flat (fr : Fre) : (accItems fr).flatMap sndF = (snds fr).map sIt := by
  unfold accItems snds
  rw [flat_map1 _ _ _ (fun p : List Nat × List Nat => sIt p.2) fun a _ => rfl, List.map_map]
  rfl
noncomputable def shF : It → List It
  | .at (.str w) => [iIt ((sz w : Nat) : Int)]
  | _ => []
theorem sh_flat (gv : Words) : (gv.map sIt).flatMap shF = (gv.map fun w => ((sz w : Nat) : Int)).map iIt := by
  rw [flat_map1 _ _ _ (fun w : List Nat => iIt ((sz w : Nat) : Int)) fun a _ => rfl, List.map_map]
  rfl
theorem sum_cast (gv : Words) : (gv.map fun w => ((sz w : Nat) : Int)).sum = (((gv.map sz).sum : Nat) : Int) := by
  induction gv with
  | nil => rfl
  | cons a r ih => simp only [List.map_cons, List.sum_cons, ih]; (first | lia | omega)
noncomputable def fitF (size : Nat) : It → List It
  | .at (.str s) => if decide (s.length ≤ size) then [sIt (s ++ As (size - s.length))] else []
  | _ => []
theorem fit_flat (ss : Words) (size : Nat) : (ss.map sIt).flatMap (fitF size) ++ [.at .none] = (fitL ss size).map .at := by
  unfold fitL
  rw [List.map_append]
  congr 1
  induction ss with
  | nil => rfl
  | cons a r ih =>
    rw [List.map_cons, List.flatMap_cons, ih, List.filter_cons]
    show (if decide (a.length ≤ size) then [sIt (a ++ As (size - a.length))] else []) ++ _ = _
    split <;> simp [sIt]
noncomputable def txtF : It → List It
  | .at (.str s) => [sIt (bl (3 - s.length) ++ s)]
  | _ => []
theorem txt_flat (ss : Words) : (ss.map sIt).flatMap txtF = (ss.map fun s => bl (3 - s.length) ++ s).map sIt := by
  rw [flat_map1 _ _ _ (fun s : List Nat => sIt (bl (3 - s.length) ++ s)) fun a _ => rfl, List.map_map]
  rfl
noncomputable def extra (fr : Fre) (size : Nat) : List It := match wishVal fr size with
  | .str w => [sIt w]
  | _ => []
theorem extra_after (fr : Fre) (size : Nat) (gv : Words) : gv.map sIt ++ extra fr size = (givenAfter fr size gv).map sIt := by
  unfold extra givenAfter
  rcases wishVal_cases fr size with h | ⟨w, h⟩ <;> rw [h] <;> simp
theorem wd_py {w : List Nat} (h : Wd w) : (At.str w).isPy = true := by
  show (w.all fun c => decide (c < 1114112)) = true
  rw [List.all_eq_true]
  intro c hc
  have := h.lets c hc
  unfold isL at this
  simpa using by (first | lia | omega)
theorem words_py {l : Words} (h : ∀ w ∈ l, Wd w) : (SL l).isPy = true := by
  show ((l.map sIt).all It.isPy) = true
  rw [List.all_eq_true]
  intro x hx
  obtain ⟨w, hw, rfl⟩ := List.mem_map.mp hx
  exact wd_py (h w hw)
section
variable {V : Wo} {k : Nat} {fr' : Bool} {K : List (Str × NameKind)} {ρ : Vars}
theorem ev_stems {scope : Scope} {a d : Addr} {first : Int} {fr : Fre} {p1 p2 p3 p4 p5 pos : Pos} {kt : Nat} (Y : AccAll V) (h : ρ "free" = some (.acc a d first fr)) (hl : fr.length < 1000) (hsc : ScOk K scope ρ)
    (hT : ∀ x ∈ accItems fr, Tn V k (relab K scope) (inC scope ρ) (.Tuple [.Name "blanks" p2, .Name "stem" p3] kt p4) [] (eltOf (.Name "stem" p1)) [] x (sndF x)) :
    EV V k fr' K ρ (.ListComp (.Name "stem" p1) [⟨.Tuple [.Name "blanks" p2, .Name "stem" p3] kt p4, .Name "free" p5, [], 0⟩] scope pos) (SL (snds fr)) := by
  have e : SL (snds fr) = .list ((accItems fr).flatMap sndF) := by rw [snd_flat]
  rw [e]
  exact EV.comp1 (q := true) hsc (IE.acc Y.facts (a := a) (d := d) (first := first) (l := fr) (EV.name h)) (.inr trivial) hT (.inl rfl) (by rw [snd_flat, List.length_map, List.length_map]; (first | lia | omega))
end
end
section
open PySem PySem.Calls PyProof.Rows PySem.W PySem.Spec
theorem wishVal_py {bg : Nat} {fr : Fre} {gv : Words} (F : FS bg fr gv) {size : Nat} (hs1 : 1 ≤ size) (hs3 : size ≤ 3) : (wishVal fr size).isPy = true := by
  have F' := F.after hs1 hs3
  rcases wishVal_cases fr size with h | ⟨w, h⟩
  · rw [h]; rfl
  · rw [h]
    refine wd_py (F'.inv.wg ?_)
    unfold givenAfter; rw [h]; simp
theorem edivneg {a b : Int} (hb : 0 < b) : a / b < 0 ↔ a < 0 := by
  constructor
  · intro h
    refine Int.lt_of_not_ge fun h' => ?_
    have := Int.ediv_nonneg h' (Int.le_of_lt hb)
    (first | lia | omega)
  · intro h; exact Int.ediv_neg_of_neg_of_pos h hb
section
variable {V : Wo} {k : Nat}
structure TS (a d ga : Addr) (bg : Nat) (first : Int) (C : List Int) (fr : Fre) (gv : Words) (ρ : Vars) : Prop where
  free : ρ "free" = some (.acc a d first fr)
  given : ρ "given" = some (.own ga (gv.map sIt))
  stems : ρ "stems" = some (SL (snds fr))
  begin : ρ "begin" = some (I bg)
  first : ρ "first" = some (I first)
  cells : ρ "cells" = some (IL C)
theorem TS.up {a d ga : Addr} {bg : Nat} {first : Int} {C : List Int} {fr : Fre} {gv : Words} {ρ : Vars} {x : Str} {p : PV} (T : TS a d ga bg first C fr gv ρ) (h : (x ≠ "free" ∧ x ≠ "given") ∧ (x ≠ "stems" ∧ x ≠ "begin") ∧ x ≠ "first" ∧ x ≠ "cells") : TS a d ga bg first C fr gv (up ρ x p) := by
  obtain ⟨⟨h1, h2⟩, ⟨h3, h4⟩, h5, h6⟩ := h
  exact ⟨(if_neg (Ne.symm h1)).trans T.free, (if_neg (Ne.symm h2)).trans T.given, (if_neg (Ne.symm h3)).trans T.stems, (if_neg (Ne.symm h4)).trans T.begin, (if_neg (Ne.symm h5)).trans T.first, (if_neg (Ne.symm h6)).trans T.cells⟩
set_option maxHeartbeats 4000000 in
theorem turn1_bk (X : Facts V) (Y : AccAll V) {a d ga : Addr} {bg : Nat} {first : Int} {C : List Int} {fr : Fre} {gv : Words} {ρ : Vars} {c : Int} {rest : List Stmt} {Φn : Vars → Prop} {Φr : Vars → PV → Prop} (F : FS bg fr gv) (hgl : gv.length ≤ 5) (T : TS a d ga bg first C fr gv ρ) (hc : ρ "cell" = some (I c)) (size : Nat) (hsize : (size : Int) = 1 + c.fmod 3) (hs1 : 1 ≤ size) (hs3 : size ≤ 3)
    (hr : ∀ ρ', TS a d ga bg first C fr gv ρ' → ρ' "size" = some (I size) → ρ' "share" = some (I ((16 ^ (3 - size) : Nat) : Int)) → ρ' "room" = some (I ((bg : Int) - (((gv.map sz).sum : Nat) : Int))) → ρ' "fit" = some (.list ((fitL (snds fr) size).map .at)) → Bk V (k + 80) (namesN 22) [] ρ' rest Φn Φr) (hrest : turnB.drop 3 = rest) :
    Bk V (k + 80) (namesN 22) [] ρ turnB Φn Φr := by
  have h22 : turnB = turnB.take 3 ++ rest := by rw [← hrest, List.take_append_drop]
  subst hrest
  have hwl : ∀ w ∈ gv, w.length ≤ 3 := fun w hw => (F.inv.wg hw).len
  have hsl : ∀ s ∈ snds fr, s.length ≤ 3 := fun s hs => (F.inv.ws hs).len
  have hcnt : (snds fr).length ≤ 60 := F.inv.count
  refine Bk.step (St1.assign (x := "size") (i := .at (.int (size : Int))) (hsize ▸ EV.bin (by trivial) (EV.bin (EV.nameIt hc) (by trivial) (Bi.mod (by decide))) Bi.add) (.inr rfl)) ?_
  have T1 : TS a d ga bg first C fr gv (up ρ "size" (.it (.at (.int (size : Int))))) := T.up (by decide)
  generalize hρ1 : up ρ "size" (.it (.at (.int (size : Int)))) = ρ1 at T1
  have hz1 : ρ1 "size" = some (I size) := by rw [← hρ1]; rfl
  have hpow := Bi.pow3 (V := V) (k := k + 80) hs3
  refine Bk.cons (St1.duo (x := "share") (y := "room") true (EX.it (i := .at (.int ((16 ^ (3 - size) : Nat) : Int))) (EV.bin (by trivial) (EV.bin (by trivial) (EV.nameIt hz1) Bi.sub) hpow)) (EX.it (i := .at (.int ((bg : Int) - (((gv.map sz).sum : Nat) : Int)))) (EV.bin (EV.nameIt T1.begin) (EV.call (ps := [IL (gv.map fun w => ((sz w : Nat) : Int))]) rfl X.sum Kept.builtin (.cons (by first | exact ns rfl | exact nIt rfl | exact nAcc rfl | nofun) ?_ .nil) (sum_cast gv ▸ Cl.sum)) Bi.sub)) (by first | exact ns rfl | exact nIt rfl | exact nAcc rfl | nofun) (by first | exact ns rfl | exact nIt rfl | exact nAcc rfl | nofun) (.inl rfl) (.inl rfl) (by decide) (by rintro _ rfl l; nofun) (by rintro _ rfl l; nofun) ?_) ?_
  · have e : IL (gv.map fun w => ((sz w : Nat) : Int)) = .list ((gv.map sIt).flatMap shF) := by rw [sh_flat]
    rw [e]
    refine EV.comp1 (q := true) rfl (IE.list (EV.nameOwn T1.given)) (.inl trivial) ?_ (.inl rfl) (by rw [sh_flat]; simp; (first | lia | omega))
    refine mem_map_rev fun w hw => ?_
    have := hwl w hw
    refine ⟨_, true, .name rfl rfl, rfl, fun _ => ?_, (by first | exact ns rfl | exact nIt rfl | exact nAcc rfl | nofun)⟩
    have hp : Bi V (k + 80) (binaryOp .Pow) (I 16) (I (3 - (w.length : Int))) (I ((sz w : Nat) : Int)) := Bi.pow3 this
    exact Em.elt (z := iIt ((sz w : Nat) : Int)) (EV.bin (by trivial) (EV.bin (by trivial) (EV.call (ps := [S w]) rfl X.len Kept.builtin (.cons (by first | exact ns rfl | exact nIt rfl | exact nAcc rfl | nofun) (by trivial) .nil) (Cl.lenS (lt6 (lt1k this)))) Bi.sub) hp)
  · intro env h1 h2
    cases env with
    | mk scope =>
      cases scope
      simp only at h1 h2
      subst h1
      subst h2
      rfl
  rintro _ ⟨_, _, rfl, rfl, _, _, rfl⟩
  have T2 : TS a d ga bg first C fr gv (up (up ρ1 "share" (.it (.at (.int ((16 ^ (3 - size) : Nat) : Int))))) "room" (.it (.at (.int ((bg : Int) - (((gv.map sz).sum : Nat) : Int)))))) := (T1.up (by decide)).up (by decide)
  generalize hρ2 : up (up ρ1 "share" (.it (.at (.int ((16 ^ (3 - size) : Nat) : Int))))) "room" (.it (.at (.int ((bg : Int) - (((gv.map sz).sum : Nat) : Int))))) = ρ2 at T2
  have hz2 : ρ2 "size" = some (I size) := by rw [← hρ2]; exact hz1
  have hsh2 : ρ2 "share" = some (I ((16 ^ (3 - size) : Nat) : Int)) := by rw [← hρ2]; rfl
  have hrm2 : ρ2 "room" = some (I ((bg : Int) - (((gv.map sz).sum : Nat) : Int))) := by rw [← hρ2]; rfl
  have hsc : ∀ {scope : Scope}, ScOk (namesN 22) scope (fun n => if n = "size" then some N0 else none) → ScOk (namesN 22) scope ρ2 := fun h => h.up fun n hn => by
    by_cases e1 : n = "size"
    · rw [e1, hz2]; rfl
    · simp only [e1, if_false] at hn; cases hn
  have hfl : (((snds fr).map sIt).flatMap (fitF size)).length ≤ 60 := by
    have := congrArg List.length (fit_flat (snds fr) size)
    unfold fitL at this
    simp only [List.length_append, List.length_map, List.length_singleton] at this
    have h2 := List.length_filter_le (fun s : List Nat => decide (s.length ≤ size)) (snds fr)
    exact Nat.le_trans (Nat.le_of_eq (Nat.succ.inj this)) (Nat.le_trans h2 hcnt)
  refine Bk.step (St1.assignL (x := "fit") (l := (fitL (snds fr) size).map .at) ?_ (.inl rfl)) ?_
  · rw [← fit_flat]
    refine EV.bin (p := .list (((snds fr).map sIt).flatMap (fitF size))) (q := .list [.at .none]) ?_ (EV.list (l := [.at .none]) (.cons (by first | exact ns rfl | exact nIt rfl | exact nAcc rfl | nofun) (by trivial) .nil) (by simp)) (Bi.addL (by show _ + 1 < 1000000; (first | lia | omega)))
    refine EV.comp1 (q := true) (hsc rfl) (IE.list (f := false) (EV.name T2.stems)) (.inl trivial) ?_ (.inl rfl) (by (first | lia | omega))
    refine mem_map_rev fun w hw => ?_
    have hw3 := hsl w hw
    refine ⟨_, decide (w.length ≤ size), .name rfl rfl, ?_, fun hb => ?_, fun hb => ?_⟩
    · show ET _ _ _ _ _ _
      have hle := Bi.leI (V := V) (k := k + 80) (a := (w.length : Int)) (b := (size : Int))
      rw [show decide ((w.length : Int) ≤ (size : Int)) = decide (w.length ≤ size) by simp] at hle
      exact ET.cmp (EV.call (ps := [S w]) rfl X.len Kept.builtin (.cons (by first | exact ns rfl | exact nIt rfl | exact nAcc rfl | nofun) (by trivial) .nil) (Cl.lenS (lt6 (lt1k hw3)))) (EV.nameIt hz2) hle
    · have : fitF size (sIt w) = [sIt (w ++ As (size - w.length))] := if_pos hb
      rw [this]
      have hb' := of_decide_eq_true hb
      have hb2 : (List.replicate ((size : Int) - (w.length : Int)).toNat [65]).flatten = As (size - w.length) := by
        rw [toNat_sub']; rfl
      exact Em.elt (EV.bin (by trivial) (hb2 ▸ EV.bin (by trivial) (EV.bin (EV.nameIt hz2) (EV.call (ps := [S w]) rfl X.len Kept.builtin (.cons (by first | exact ns rfl | exact nIt rfl | exact nAcc rfl | nofun) (by trivial) .nil) (Cl.lenS (lt6 (lt1k hw3)))) Bi.sub) (Bi.mulS (d_lt hs3) (d_gt hw3) rfl)) (Bi.addS (by rw [As_len]; exact le33 hw3 (sub_le' hs3))))
    · exact if_neg (by rw [hb]; nofun)
  exact hr _ (T2.up (by decide)) hz2 hsh2 hrm2 rfl
end
end
section
open PySem PySem.Calls PyProof.Rows PySem.W PySem.Spec
theorem bl_py (n : Nat) : ∀ c ∈ bl n, c < 1114112 := by
  induction n with
  | zero => intro c hc; cases hc
  | succ n ih =>
    intro c hc
    rw [show bl (n + 1) = [32] ++ bl n from rfl, List.mem_append] at hc
    rcases hc with hc | hc
    · simp at hc; (first | lia | omega)
    · exact ih c hc
theorem FS.py {bg : Nat} {fr : Fre} {gv : Words} (F : FS bg fr gv) : ∀ p ∈ fr, (It.tup [.str p.1, .str p.2]).isPy = true := fun p hp => by
  have h1 : (At.str p.1).isPy = true := by
    rw [F.bls p hp]
    show ((bl _).all fun c => decide (c < 1114112)) = true
    rw [List.all_eq_true]
    intro c hc
    simpa using bl_py _ c hc
  have h2 := wd_py (F.inv.ws (List.mem_map_of_mem (f := (·.2)) hp))
  show (List.all [At.str p.1, At.str p.2] At.isPy) = true
  simp [h1, h2]
theorem FS.plen {bg : Nat} {fr : Fre} {gv : Words} (F : FS bg fr gv) : ∀ p ∈ fr, p.1.length < 1000 ∧ p.2.length < 1000 := fun p hp => by
  have h2 := (F.inv.ws (List.mem_map_of_mem (f := (·.2)) hp)).len
  rw [F.bls p hp, bl_len]
  exact ⟨by (first | lia | omega), by (first | lia | omega)⟩
theorem FS.flen {bg : Nat} {fr : Fre} {gv : Words} (F : FS bg fr gv) : fr.length ≤ 60 := by
  have := F.inv.count
  simpa [snds] using this
theorem flat_none {α : Type} (l : List α) : (l.flatMap fun _ => ([] : List It)) = [] := by induction l <;> simp_all
section
variable {V : Wo} {k : Nat}
set_option maxHeartbeats 4000000 in
theorem turn2_bk (X : Facts V) (Y : AccAll V) {a d ga : Addr} {bg : Nat} {first : Int} {C : List Int} {fr : Fre} {gv : Words} {ρ : Vars} {rest : List Stmt} {Φn : Vars → Prop} {Φr : Vars → PV → Prop} (F : FS bg fr gv) (hgl : gv.length ≤ 5) (T : TS a d ga bg first C fr gv ρ) (size : Nat) (hs1 : 1 ≤ size) (hs3 : size ≤ 3)
    (e1 : ρ "size" = some (I size)) (e2 : ρ "share" = some (I ((16 ^ (3 - size) : Nat) : Int))) (e3 : ρ "room" = some (I ((bg : Int) - (((gv.map sz).sum : Nat) : Int)))) (e4 : ρ "fit" = some (.list ((fitL (snds fr) size).map .at)))
    (hr : ∀ ρ', TS a d ga bg first C (wishFree fr size) (givenAfter fr size gv) ρ' → Bk V (k + 80) (namesN 22) [] ρ' rest Φn Φr) (hrest : turnB.drop 8 = rest) :
    Bk V (k + 80) (namesN 22) [] ρ (turnB.drop 3) Φn Φr := by
  subst hrest
  have hW : ∀ b ∈ ([] : List Addr), V.h0.get? b = none := fun b hb => (by cases hb)
  obtain ⟨q1, q2, q3⟩ := cnt_split (size := size) F.inv.sorted
  have hF60 := F.flen
  have F' := F.after hs1 hs3
  have hF60' := F'.flen
  have hwish := (wish_cl (V := V) (k := k) (a := a) (d := d) (first := first) X Y fr size hs1 hs3 (by (first | lia | omega)) F.plen q2 F.py).mono (k' := k + 80) (by (first | lia | omega))
  have hvpy := wishVal_py F hs1 hs3
  have hnone := wish_none F hs1 hs3
  refine Bk.step (St1.assignW (x := "free") (y := "wish") (p' := .acc a d first (wishFree fr size)) (r := .it (.at (wishVal fr size))) (.inl ⟨_, rfl⟩) (EW.call (f := "_law_wish") (fv := .ref 175) rfl X.wish.1 (Kept.fn X.wish.2) T.free (.cons (by first | exact ns rfl | exact nIt rfl | exact nAcc rfl | nofun) (EV.nameIt e1) .nil) hW (.inl ⟨_, rfl⟩) hwish) (.inl rfl)) ?_
  generalize hρ1 : up (up ρ "free" (.acc a d first (wishFree fr size))) "wish" (.it (.at (wishVal fr size))) = ρ1
  have f0 : ρ1 "free" = some (.acc a d first (wishFree fr size)) := by rw [← hρ1]; rfl
  have f1 : ρ1 "wish" = some (.it (.at (wishVal fr size))) := by rw [← hρ1]; rfl
  have f2 : ρ1 "share" = some (I ((16 ^ (3 - size) : Nat) : Int)) := by rw [← hρ1]; exact e2
  have f3 : ρ1 "room" = some (I ((bg : Int) - (((gv.map sz).sum : Nat) : Int))) := by rw [← hρ1]; exact e3
  have f4 : ρ1 "fit" = some (.list ((fitL (snds fr) size).map .at)) := by rw [← hρ1]; exact e4
  have f5 : ρ1 "given" = some (.own ga (gv.map sIt)) := by rw [← hρ1]; exact T.given
  have f6 : ρ1 "stems" = some (SL (snds fr)) := by rw [← hρ1]; exact T.stems
  have f7 : ρ1 "begin" = some (I bg) := by rw [← hρ1]; exact T.begin
  have f8 : ρ1 "first" = some (I first) := by rw [← hρ1]; exact T.first
  have f9 : ρ1 "cells" = some (IL C) := by rw [← hρ1]; exact T.cells
  clear hρ1
  generalize hP : (16 : Nat) ^ (3 - size) = P at *
  have hP0 : 0 < P := by rw [← hP]; exact Nat.pow_pos (by decide)
  have hP2 : P ≤ 4096 := by
    rw [← hP, show (4096 : Nat) = 16 ^ 3 by decide]; exact Nat.pow_le_pow_right (by decide) (by (first | lia | omega))
  have hT := F.inv.total
  have hbg := F.inv.b2
  generalize hG : (gv.map sz).sum = G at *
  have hidm := (idm (V := V) (k := k) X ((bg : Int) - (G : Int) - (P : Int)) (P : Int) (by (first | lia | omega)) (by (first | lia | omega)) (by (first | lia | omega)) (by (first | lia | omega))).mono (k := k + 80) (by (first | lia | omega))
  have hisn := Bi.isNone (V := V) (k := k + 80) (p := .at (wishVal fr size))
  have hdn : decide (It.at (wishVal fr size) = It.at .none) = decide (wishVal fr size = .none) := by simp
  rw [hdn] at hisn
  have hb1 : (!decide ((PV.it (.at (wishVal fr size))) = PV.it (.at (wishVal fr size))) || (decide (wishVal fr size = .none) != decide (((bg : Int) - (G : Int) - (P : Int)) / (P : Int) < 0))) = false := by
    have : decide (wishVal fr size = .none) = decide (((bg : Int) - (G : Int) - (P : Int)) / (P : Int) < 0) := by
      apply decide_eq_decide.mpr
      rw [hnone, edivneg (by (first | lia | omega))]
    rw [this]; simp
  have hfh : ((fitL (snds fr) size).map It.at)[(0 : Int).toNat]? = some (.at (wishVal fr size)) := by
    show ((fitL (snds fr) size).map It.at)[0]? = _
    rw [List.getElem?_map, fit_head F size]; rfl
  refine Bk.step (St1.ite (b := false) (hb1 ▸ ET.or (ET.cmp (EV.nameIt f1) (EV.sub Base.list (EV.name f4) (by trivial) (Bi.itemL (by decide) (by decide) hfh)) (Bi.ne (p := .it (.at (wishVal fr size))) (q := .it (.at (wishVal fr size))) hvpy hvpy)) fun _ => ET.cmp (EV.cmp (EV.nameIt f1) (by trivial) hisn) (EV.cmp (EV.sub Base.tup (EV.call (ps := [I ((bg : Int) - (G : Int) - (P : Int)), I (P : Int)]) rfl X.intDivmod.1 (Kept.fn X.intDivmod.2) (.cons (by first | exact ns rfl | exact nIt rfl | exact nAcc rfl | nofun) (EV.bin (EV.nameIt f3) (EV.nameIt f2) Bi.sub) (.cons (by first | exact ns rfl | exact nIt rfl | exact nAcc rfl | nofun) (EV.nameIt f2) .nil)) hidm) (by trivial) (Bi.itemT (i := 0) (by decide) rfl)) (by trivial) Bi.ltI) Bi.neB) (fun h => (by cases h)) fun _ => Bk.nil rfl) ?_
  have hcomp : ∀ {frb : Bool} {ρ' : Vars} {scope : Scope} {p1 p2 p3 p4 p5 pos : Pos} {kt : Nat}, ρ' "free" = some (.acc a d first (wishFree fr size)) → ScOk (namesN 22) scope ρ' →
      (∀ x ∈ accItems (wishFree fr size), Tn V (k + 80) (relab (namesN 22) scope) (inC scope ρ') (.Tuple [.Name "blanks" p2, .Name "stem" p3] kt p4) [] (eltOf (.Name "stem" p1)) [] x (sndF x)) →
      EV V (k + 80) frb (namesN 22) ρ' (.ListComp (.Name "stem" p1) [⟨.Tuple [.Name "blanks" p2, .Name "stem" p3] kt p4, .Name "free" p5, [], 0⟩] scope pos) (SL (snds (wishFree fr size))) := fun h hs hT => ev_stems Y h (by (first | lia | omega)) hs hT
  have hp1 := words_py fun w hw => F.inv.ws hw
  have hp2 := words_py fun w hw => F'.inv.ws hw
  have hb2 : (decide (wishVal fr size = .none) && !decide (SL (snds fr) = SL (snds (wishFree fr size)))) = false := by
    by_cases hw : wishVal fr size = .none
    · rw [wish_stay hw]; simp
    · simp [hw]
  refine Bk.step (St1.ite (b := false) (hb2 ▸ ET.and (ET.cmp (EV.nameIt f1) (by trivial) hisn) fun _ => ET.cmp (EV.name f6) (hcomp (by exact f0) rfl ?_) (Bi.ne hp1 hp2)) (fun h => (by cases h)) fun _ => Bk.nil rfl) ?_
  · intro x hx
    obtain ⟨p, hp, rfl⟩ := List.mem_map.mp hx
    exact ⟨_, true, .pair rfl rfl rfl rfl rfl, rfl, fun _ => Em.elt (by trivial), (by first | exact ns rfl | exact nIt rfl | exact nAcc rfl | nofun)⟩
  have hx1 : (extra fr size).length ≤ 1 := by
    unfold extra
    split <;> simp
  refine Bk.step (St1.meth (x := "given") (l := gv.map sIt) (l' := (givenAfter fr size gv).map sIt) f5 PySem.F.slot_list_extend PySem.F.type_list_extend (.cons (by first | exact ns rfl | exact nIt rfl | exact nAcc rfl | nofun) (EV.ite (ET.cmp (EV.nameIt f1) (by trivial) hisn) (fun hb => ?_) fun hb => ?_) .nil) hW (extra_after fr size gv ▸ CW.extend (m := extra fr size) (by rw [List.length_map]; (first | lia | omega)))) ?_
  · have : extra fr size = [] := by unfold extra; rw [of_decide_eq_true hb]
    rw [this]
    exact EV.list (l := []) .nil (by simp)
  · have hb := of_decide_eq_false hb
    have : extra fr size = [.at (wishVal fr size)] := by
      rcases wishVal_cases fr size with h | ⟨w, h⟩
      · exact absurd h hb
      · unfold extra; rw [h]
    rw [this]
    exact EV.list (l := [.at (wishVal fr size)]) (.cons (by first | exact ns rfl | exact nIt rfl | exact nAcc rfl | nofun) (EV.nameIt f1) .nil) (by simp)
  have eS : SL (snds (wishFree fr size)) = .list ((accItems (wishFree fr size)).flatMap sndF) := by rw [snd_flat]
  refine Bk.cons (St1.comp (l := accItems (wishFree fr size)) (f := sndF) (turn1 _ _ _ _ _ _) (fun _ _ _ _ _ _ _ h => eltK_wp h) (q := true) (.inl rfl) rfl (IE.acc Y.facts (a := a) (d := d) (first := first) (l := wishFree fr size) (EV.name (by exact f0))) (.inr trivial) ?_ (.inl rfl) (by rw [snd_flat, List.length_map, List.length_map]; (first | lia | omega))) ?_
  · intro x hx
    obtain ⟨p, hp, rfl⟩ := List.mem_map.mp hx
    exact ⟨_, true, .pair rfl rfl rfl rfl rfl, rfl, fun _ => Em.elt (by trivial), (by first | exact ns rfl | exact nIt rfl | exact nAcc rfl | nofun)⟩
  rintro _ rfl
  exact hr _ ⟨f0, rfl, congrArg some eS.symm, f7, f8, f9⟩
end
end
section
open PySem PySem.Calls PyProof.Rows PySem.W PySem.Spec
theorem zip_mem_str (l m : Words) {x : It} (h : x ∈ (zipL (l.map .str) (m.map .str)).map .tup) : ∃ p ∈ l.zip m, x = .tup [.str p.1, .str p.2] := by
  unfold zipL at h
  rw [List.map_map] at h
  obtain ⟨y, hy, rfl⟩ := List.mem_map.mp h
  rw [List.zip_map] at hy
  obtain ⟨p, hp, rfl⟩ := List.mem_map.mp hy
  exact ⟨p, hp, rfl⟩
section
variable {V : Wo} {k : Nat} {K : List (Str × NameKind)} {ρ : Vars}
theorem ie_next {x : Str} {l : Words} {zp x1 x2 p1 p2 p3 zpos : Pos} {u : Nat} (X : Facts V) (hz : K.lookup ("zip" : Str) = some .globalImplicit) (h : ρ x = some (SL l)) (hl : l.length < 1000) (hd : (x == ("__debug__" : Str)) = false := by decide) (hn : (x == ("__classdict__" : Str)) = false := by decide) :
    IE V k K ρ (.Call (.Name "zip" zp) [.Name x x1, .Subscript (.Name x x2) (.Slice (some (.Constant (.int 1) u p1)) none none p2) p3] [] zpos) ((zipL (l.map .str) ((l.drop 1).map .str)).map .tup) isTup false false false := by
  have hs := Sc.list (V := V) (k := k) (l := l.map sIt) (lo := some ((1 : Nat) : Int)) (hi := none) (by simp; (first | lia | omega))
  rw [cut_from] at hs
  have e1 : SL l = .list ((l.map At.str).map It.at) := SLe l
  have e2 : PV.list ((l.map sIt).drop 1) = .list (((l.drop 1).map At.str).map It.at) := by
    rw [← List.map_drop]; exact SLe (l.drop 1)
  refine IE.zip hz X.zip (by first | exact ns rfl | exact nIt rfl | exact nAcc rfl | nofun) (by first | exact ns rfl | exact nIt rfl | exact nAcc rfl | nofun) (e1 ▸ EV.name h hd hn) (e2 ▸ EV.slice Base.list (EV.name h hd hn) (.some (by trivial)) .none .none hs)
set_option maxHeartbeats 4000000 in
theorem turn3_bk (X : Facts V) (Y : AccAll V) {a d ga : Addr} {bg : Nat} {first : Int} {C : List Int} {fr : Fre} {gv : Words} {ρ : Vars} {Φn : Vars → Prop} {Φr : Vars → PV → Prop} (F : FS bg fr gv) (T : TS a d ga bg first C fr gv ρ) (hf0 : 0 ≤ first) (hf1 : first < 1000)
    (hr : Φn ρ) : Bk V (k + 80) (namesN 22) [] ρ (turnB.drop 8) Φn Φr := by
  have hF60 := F.flen
  have hcnt : (snds fr).length = fr.length := by simp [snds]
  have hsl : ∀ s ∈ snds fr, s.length ≤ 3 := fun s hs => (F.inv.ws hs).len
  have hn := next_pairs F.inv.rising
  have hempty : PV.list (((zipL ((snds fr).map .str) (((snds fr).drop 1).map .str)).map It.tup).flatMap fun _ => []) = PV.list [] := by rw [flat_none]
  have hne := Bi.ne (V := V) (k := k + 80) (p := .list []) (q := .list []) rfl rfl
  rw [show (!decide (PV.list [] = PV.list [])) = false by simp] at hne
  refine Bk.step (St1.ite (b := false) (ET.cmp (hempty ▸ EV.comp1 (q := false) rfl (ie_next X rfl T.stems (by (first | lia | omega))) trivial ?_ (.inr fun _ _ _ h => nomatch h) (by rw [flat_none]; simp)) (EV.list (l := []) .nil (by simp)) hne) (fun h => nomatch h) fun _ => Bk.nil rfl) ?_
  · intro x hx
    obtain ⟨p, hp, rfl⟩ := zip_mem_str _ _ hx
    obtain ⟨r1, r2⟩ := hn p hp
    have m1 : p.1.length ≤ 3 := hsl _ (List.of_mem_zip hp).1
    have m2 : p.2.length ≤ 3 := hsl _ (List.mem_of_mem_drop (List.of_mem_zip hp).2)
    refine ⟨_, false, .pair rfl rfl rfl rfl rfl, ?_, (by first | exact ns rfl | exact nIt rfl | exact nAcc rfl | nofun), fun _ => rfl⟩
    show ET _ _ _ _ _ _
    have hge := Bi.geS (V := V) (k := k + 80) (a := p.1) (b := p.2)
    rw [show (!decide (p.1 < p.2)) = false by simp [r1]] at hge
    have hlt := Bi.ltI (V := V) (k := k + 80) (a := (p.1.length : Int)) (b := (p.2.length : Int))
    rw [show decide ((p.1.length : Int) < (p.2.length : Int)) = false by simp; (first | lia | omega)] at hlt
    exact ET.or (b := false) (c := false) (ET.cmp (by trivial) (by trivial) hge) fun _ => ET.cmp (EV.call (ps := [S p.1]) rfl X.len Kept.builtin (.cons (by first | exact ns rfl | exact nIt rfl | exact nAcc rfl | nofun) (by trivial) .nil) (Cl.lenS (by (first | lia | omega)))) (EV.call (ps := [S p.2]) rfl X.len Kept.builtin (.cons (by first | exact ns rfl | exact nIt rfl | exact nAcc rfl | nofun) (by trivial) .nil) (Cl.lenS (by (first | lia | omega)))) hlt
  have hlens := F.lens
  have htext := F.text
  have htl : (textL fr).length ≤ 180 := by
    have h3 : ∀ p ∈ fr, (p.1 ++ p.2).length = 3 := fun p hp => by
      have := (F.inv.ws (List.mem_map_of_mem (f := (·.2)) hp)).len
      rw [List.length_append, F.bls p hp, bl_len]; (first | lia | omega)
    have : (textL fr).length = 3 * fr.length := by
      unfold textL
      clear hlens htext hempty hn hcnt hF60 T hr hsl F
      induction fr with
      | nil => rfl
      | cons a r ih =>
        rw [List.map_cons, List.flatten_cons, List.length_append, h3 a List.mem_cons_self, ih fun p hp => h3 p (List.mem_cons_of_mem _ hp), List.length_cons]
        (first | lia | omega)
    (first | lia | omega)
  have hcount := (count_cl (V := V) (k := k + 78) (a := a) (d := d) (first := first) (l := fr) Y.facts Y.more Y.sup (by (first | lia | omega)))
  have hlen := (len_cl (V := V) (k := k + 77) (a := a) (d := d) (first := first) (l := fr) X Y.facts Y.fns Y.more F.plen)
  have hlenA := Cl.lenAcc Y.facts hlen (by rw [hlens]; (first | lia | omega)) (by rw [hlens]; (first | lia | omega))
  have hstr := (str_cl (V := V) (k := k + 76) (a := a) (d := d) (first := first) (l := fr) X Y.facts Y.fns Y.empty F.plen (by (first | lia | omega)) (by (first | lia | omega)))
  have hstrA := Cl.strAcc Y.facts hstr
  have htpy : (textL fr).all (fun c => decide (c < 1114112)) = true := by
    rw [List.all_eq_true]
    intro c hc
    unfold textL at hc
    obtain ⟨w, hw, hcw⟩ := List.mem_flatten.mp hc
    obtain ⟨p, hp, rfl⟩ := List.mem_map.mp hw
    rw [List.mem_append] at hcw
    rcases hcw with h | h
    · rw [F.bls p hp] at h
      simpa using bl_py _ c h
    · have := (F.inv.ws (List.mem_map_of_mem (f := (·.2)) hp)).lets c h
      unfold isL at this
      simp; (first | lia | omega)
  have hpy : (PV.it (.tup [.int (fr.length : Int), .int (first + lensL fr), .str (textL fr)])).isPy = true := by
    show (List.all [At.int (fr.length : Int), .int (first + lensL fr), .str (textL fr)] At.isPy) = true
    simp [At.isPy]
    simpa using htpy
  have hne2 := Bi.ne (V := V) (k := k + 80) hpy hpy
  rw [show (!decide ((PV.it (.tup [.int (fr.length : Int), .int (first + lensL fr), .str (textL fr)])) = (PV.it (.tup [.int (fr.length : Int), .int (first + lensL fr), .str (textL fr)])))) = false by simp] at hne2
  have hlenSt : ∀ {p1 p2 p3 : Pos}, EV V (k + 80) false (namesN 22) ρ (.Call (.Name "len" p1) [.Name "stems" p2] [] p3) (I (fr.length : Int)) := fun {p1 p2 p3} => hcnt ▸ EV.call (ps := [SL (snds fr)]) rfl X.len Kept.builtin (.cons (by first | exact ns rfl | exact nIt rfl | exact nAcc rfl | nofun) (EV.name T.stems) .nil) (Cl.lenSL (by (first | lia | omega)))
  refine Bk.step (St1.ite (b := false) (ET.cmp (EV.tup (l := [.int (fr.length : Int), .int (first + lensL fr), .str (textL fr)]) (.cons (by first | exact ns rfl | exact nIt rfl | exact nAcc rfl | nofun) ?_ (.cons (by first | exact ns rfl | exact nIt rfl | exact nAcc rfl | nofun) ?_ (.cons (by first | exact ns rfl | exact nIt rfl | exact nAcc rfl | nofun) ?_ .nil))) (by simp)) (EV.tup (l := [.int (fr.length : Int), .int (first + lensL fr), .str (textL fr)]) (.cons (by first | exact ns rfl | exact nIt rfl | exact nAcc rfl | nofun) ?_ (.cons (by first | exact ns rfl | exact nIt rfl | exact nAcc rfl | nofun) ?_ (.cons (by first | exact ns rfl | exact nIt rfl | exact nAcc rfl | nofun) ?_ .nil))) (by simp)) hne2) (fun h => (by cases h)) fun _ => Bk.nil rfl) (Bk.nil hr)
  · exact EV.methR T.free (fun A s pl Q g hp h => acc_method Y.facts g hp (Y.facts.fns "part_count" 97 (by simp)) (by simp) (by decide) h) (Kept.fn Y.sup.count) hcount
  · exact EV.call (ps := [.acc a d first fr]) rfl X.len Kept.builtin (.cons (by first | exact ns rfl | exact nIt rfl | exact nAcc rfl | nofun) (EV.name T.free) .nil) hlenA
  · exact EV.call (ps := [.acc a d first fr]) rfl Y.str Kept.type (.cons (by first | exact ns rfl | exact nIt rfl | exact nAcc rfl | nofun) (EV.name T.free) .nil) hstrA
  · exact hlenSt
  · rw [hlens]
    exact EV.bin (EV.nameIt T.first) (EV.bin (by trivial) hlenSt (Bi.mul (PySem.IntMulOk.of_left (PySem.intBits_le_64 (by (first | lia | omega)) (by (first | lia | omega)))))) Bi.add
  · have hjoin := Cl.join (V := V) (k := k + 80) (l := (snds fr).map fun s => bl (3 - s.length) ++ s) (by rw [← htext]; (first | lia | omega))
    rw [← htext] at hjoin
    refine EV.meth (ps := [SL ((snds fr).map fun s => bl (3 - s.length) ++ s)]) Meth.join (by trivial) (.cons (by first | exact ns rfl | exact nIt rfl | exact nAcc rfl | nofun) ?_ .nil) hjoin
    have e : SL ((snds fr).map fun s => bl (3 - s.length) ++ s) = .list (((snds fr).map sIt).flatMap txtF) := by rw [txt_flat]
    rw [e]
    refine EV.comp1 (q := true) rfl (IE.list (f := false) (EV.name T.stems)) (.inl trivial) ?_ (.inl rfl) (by rw [txt_flat, List.length_map, List.length_map]; (first | lia | omega))
    refine mem_map_rev fun w hw => ?_
    have := hsl w hw
    refine ⟨_, true, .name rfl rfl, rfl, fun _ => ?_, (by first | exact ns rfl | exact nIt rfl | exact nAcc rfl | nofun)⟩
    have hb : (List.replicate ((3 : Int) - (w.length : Int)).toNat [32]).flatten = bl (3 - w.length) := by
      rw [show ((3 : Int) - (w.length : Int)).toNat = 3 - w.length by (first | lia | omega)]; rfl
    exact Em.elt (EV.bin (hb ▸ EV.bin (by trivial) (EV.bin (by trivial) (EV.call (ps := [S w]) rfl X.len Kept.builtin (.cons (by first | exact ns rfl | exact nIt rfl | exact nAcc rfl | nofun) (by trivial) .nil) (Cl.lenS (by (first | lia | omega)))) Bi.sub) (Bi.mulS (by (first | lia | omega)) (by (first | lia | omega)) rfl)) (by trivial) (Bi.addS (by rw [bl_len]; (first | lia | omega))))
end
end
section
open PySem PySem.Calls PyProof.Rows PySem.W PySem.Spec
noncomputable def sizeC (c : Int) : Nat := (1 + c.fmod 3).toNat
theorem fmod_lt3 (c : Int) : 0 ≤ c.fmod 3 ∧ c.fmod 3 < 3 := ⟨Int.fmod_nonneg_of_pos c (by decide), Int.fmod_lt_of_pos c (by decide)⟩
theorem sizeC_ok (c : Int) : ((sizeC c : Nat) : Int) = 1 + c.fmod 3 ∧ 1 ≤ sizeC c ∧ sizeC c ≤ 3 := by
  have := fmod_lt3 c
  unfold sizeC
  obtain ⟨n, e⟩ := Int.eq_ofNat_of_zero_le this.1
  rw [e] at this ⊢
  exact ⟨rfl, Nat.le_add_right 1 n, Nat.add_le_add_left (Nat.le_of_lt_succ (Int.ofNat_lt.mp this.2)) 1⟩
noncomputable def after1 (st : Fre × Words) (c : Int) : Fre × Words := (wishFree st.1 (sizeC c), givenAfter st.1 (sizeC c) st.2)
structure FSg (bg : Nat) (st : Fre × Words) (n : Nat) : Prop where
  fs : FS bg st.1 st.2
  len : st.2.length ≤ n
  one : ∀ w ∈ st.2, 1 ≤ w.length
theorem wishVal_one {fr : Fre} {size : Nat} (h : 1 ≤ size) {w : List Nat} (e : wishVal fr size = .str w) : 1 ≤ w.length := by
  unfold wishVal at e
  split at e
  · cases e
  · cases e
    rw [List.length_append, As_len]; (first | lia | omega)
theorem FSg.next {bg n : Nat} {st : Fre × Words} (F : FSg bg st n) (c : Int) : FSg bg (after1 st c) (n + 1) := by
  obtain ⟨h1, h2, h3⟩ := sizeC_ok c
  have hl := F.len
  refine ⟨F.fs.after h2 h3, ?_, ?_⟩
  · show (givenAfter st.1 (sizeC c) st.2).length ≤ n + 1
    unfold givenAfter
    rcases wishVal_cases st.1 (sizeC c) with h | ⟨w, h⟩ <;> rw [h] <;> simp <;> (first | lia | omega)
  · show ∀ w ∈ givenAfter st.1 (sizeC c) st.2, 1 ≤ w.length
    unfold givenAfter
    rcases wishVal_cases st.1 (sizeC c) with h | ⟨w, h⟩ <;> rw [h] <;> intro v hv
    · exact F.one v (by simpa using hv)
    · rcases List.mem_append.mp hv with hv | hv
      · exact F.one v hv
      · have := List.mem_singleton.mp hv
        subst this
        exact wishVal_one h2 h
theorem FSg.fold {bg : Nat} : ∀ (cs : List Int) {st : Fre × Words} {n : Nat}, FSg bg st n → FSg bg (cs.foldl after1 st) (n + cs.length)
  | [], _, _, F => F
  | c :: cs, st, n, F => by
    have := FSg.fold cs (F.next c)
    rw [List.foldl_cons, List.length_cons, show n + (cs.length + 1) = n + 1 + cs.length by (first | lia | omega)]
    exact this
theorem given_grow (cs : List Int) {st : Fre × Words} (h : st.2 ≠ []) : (cs.foldl after1 st).2 ≠ [] := by
  induction cs generalizing st with
  | nil => exact h
  | cons c cs ih =>
    refine ih ?_
    show givenAfter st.1 (sizeC c) st.2 ≠ []
    unfold givenAfter
    rcases wishVal_cases st.1 (sizeC c) with h' | ⟨w, h'⟩ <;> rw [h'] <;> simpa using h
theorem given_some {bg : Nat} {fr : Fre} (c : Int) (cs : List Int) (F : FS bg fr []) (hb : bg ≤ 4096) : ((c :: cs).foldl after1 (fr, [])).2 ≠ [] ∨ bg < 4096 := by
  rcases Nat.lt_or_ge bg 4096 with h | h
  · exact .inr h
  · have e : bg = 4096 := by (first | lia | omega)
    subst e
    obtain ⟨_, h2, h3⟩ := sizeC_ok c
    exact .inl (given_grow cs (first_granted F h2 h3))
section
variable {V : Wo} {k : Nat}
theorem turn_bk (X : Facts V) (Y : AccAll V) {a d ga : Addr} {bg : Nat} {first : Int} {C : List Int} {st : Fre × Words} {n : Nat} {ρ : Vars} {c : Int} {Φn : Vars → Prop} {Φr : Vars → PV → Prop} (F : FSg bg st n) (hn : n ≤ 5) (T : TS a d ga bg first C st.1 st.2 ρ) (hc : ρ "cell" = some (I c)) (hf0 : 0 ≤ first) (hf1 : first < 1000)
    (hr : ∀ ρ', TS a d ga bg first C (after1 st c).1 (after1 st c).2 ρ' → Φn ρ') : Bk V (k + 80) (namesN 22) [] ρ turnB Φn Φr := by
  obtain ⟨h1, h2, h3⟩ := sizeC_ok c
  have hl : st.2.length ≤ 5 := Nat.le_trans F.len hn
  exact turn1_bk X Y F.fs hl T hc (sizeC c) h1 h2 h3 (fun ρ' T' e1 e2 e3 e4 => turn2_bk X Y F.fs hl T' (sizeC c) h2 h3 e1 e2 e3 e4 (fun ρ'' T'' => turn3_bk X Y (F.fs.after h2 h3) T'' hf0 hf1 (hr _ T'')) rfl) rfl
theorem turns_st (X : Facts V) (Y : AccAll V) {a d ga : Addr} {bg : Nat} {first : Int} {C : List Int} {fr : Fre} {ρ : Vars} {p1 p2 p3 p4 p5 p6 p7 : Pos} {u v : Nat} {Φr : Vars → PV → Prop} (F : FSg bg (fr, []) 0) (T : TS a d ga bg first C fr [] ρ) (hC : C.length < 1000) (hf0 : 0 ≤ first) (hf1 : first < 1000) :
    St1 V (k + 80) (namesN 22) [] ρ (.For (.Name "cell" p1) (.Subscript (.Name "cells" p2) (.Slice (some (.Constant (.int 4) u p3)) (some (.Constant (.int 9) v p4)) none p5) p6) turnB [] p7)
      (fun ρ' => TS a d ga bg first C (((C.drop 4).take 5).foldl after1 (fr, [])).1 (((C.drop 4).take 5).foldl after1 (fr, [])).2 ρ') Φr := by
  have hs := Sc.list (V := V) (k := k + 80) (l := C.map iIt) (lo := some ((4 : Nat) : Int)) (hi := some ((9 : Nat) : Int)) (by simp; (first | lia | omega))
  rw [cut_run, ← List.map_drop, ← List.map_take] at hs
  generalize hcs : (C.drop 4).take 5 = cs at *
  have hlen : cs.length ≤ 5 := by rw [← hcs, List.length_take]; (first | lia | omega)
  have h := St1.for (V := V) (k := k + 80) (K := namesN 22) (W := []) (Φr := Φr) (ρ := ρ) (target := .Name "cell" p1) (body := turnB) (pos := p7) (fun i ρ => TS a d ga bg first C ((cs.take i).foldl after1 (fr, [])).1 ((cs.take i).foldl after1 (fr, [])).2 ρ)
    (IF.of (IE.list (f := true) (EV.slice (pos := p6) (q := p5) Base.list (EV.name (pos := p2) T.cells) (.some (EV.int (u := u) (pos := p3))) (.some (EV.int (u := v) (pos := p4))) .none hs))) (.inl trivial) T ?_
  · rw [List.length_map, List.take_length] at h
    exact h
  · intro i x ρ1 hx hinv
    rw [List.getElem?_map] at hx
    cases hci : cs[i]? with
    | none => rw [hci] at hx; cases hx
    | some c =>
      rw [hci] at hx
      cases hx
      have hi := (List.getElem?_eq_some_iff.mp hci).1
      refine ⟨_, .name (.inl rfl), ?_⟩
      have F' := FSg.fold (cs.take i) F
      rw [List.length_take, Nat.zero_add] at F'
      refine turn_bk X Y F' (by (first | lia | omega)) (hinv.up (by decide)) rfl hf0 hf1 fun ρ' T' => ?_
      rw [List.take_add_one, hci, Option.toList_some, List.foldl_append]
      exact T'
end
end
section
open PySem PySem.Calls PyProof.Rows PySem.W PySem.Spec
noncomputable def msgOf (gv : Words) (cs : List Int) : Words := if gv = [] then [] else cs.map fun c => gv.getD (c.fmod gv.length).toNat []
noncomputable def msgF (gv : Words) : It → List It
  | .at (.int c) => if gv = [] then [] else [sIt (gv.getD (c.fmod gv.length).toNat [])]
  | _ => []
theorem msg_flat (gv : Words) (cs : List Int) : (cs.map iIt).flatMap (msgF gv) = (msgOf gv cs).map sIt := by
  unfold msgOf
  by_cases h : gv = []
  · rw [if_pos h]
    induction cs with
    | nil => rfl
    | cons a r ih =>
      rw [List.map_cons, List.flatMap_cons, ih]
      show (if gv = [] then [] else _) ++ _ = _
      rw [if_pos h]; rfl
  · rw [if_neg h, List.map_map]
    exact flat_map1 _ _ _ (fun c : Int => sIt (gv.getD (c.fmod gv.length).toNat [])) fun a _ => if_neg h
theorem fmod_len {gv : Words} (h : gv ≠ []) (c : Int) : 0 ≤ c.fmod gv.length ∧ (c.fmod gv.length).toNat < gv.length := by
  have h0 : 0 < gv.length := List.length_pos_iff.mpr h
  have h1 := Int.fmod_nonneg_of_pos c (b := (gv.length : Int)) (Int.ofNat_lt.mpr h0)
  have h2 := Int.fmod_lt_of_pos c (b := (gv.length : Int)) (Int.ofNat_lt.mpr h0)
  exact ⟨h1, (Int.toNat_lt h1).mpr h2⟩
theorem msg_mem {gv : Words} {cs : List Int} : ∀ w ∈ msgOf gv cs, w ∈ gv := fun w hw => by
  unfold msgOf at hw
  by_cases h : gv = []
  · rw [if_pos h] at hw; cases hw
  · rw [if_neg h] at hw
    obtain ⟨c, _, rfl⟩ := List.mem_map.mp hw
    have := (fmod_len h c).2
    rw [List.getD_eq_getElem?_getD, List.getElem?_eq_getElem this]
    exact List.getElem_mem this
theorem msg_len (gv : Words) (cs : List Int) : (msgOf gv cs).length ≤ cs.length := by
  unfold msgOf
  split <;> simp
theorem flatten_le {l : Words} {n : Nat} (h : ∀ w ∈ l, w.length ≤ n) : l.flatten.length ≤ n * l.length := by
  induction l with
  | nil => simp
  | cons a r ih =>
    have h1 := h a List.mem_cons_self
    have h2 := ih fun w hw => h w (List.mem_cons_of_mem _ hw)
    rw [List.flatten_cons, List.length_append, List.length_cons, Nat.mul_add]; (first | lia | omega)
theorem two_mem {α : Type} {l : List α} {x y : α} (hx : x ∈ l) (hy : y ∈ l) (h : x ≠ y) : 2 ≤ l.length := by
  match l, hx, hy with
  | [a], hx, hy =>
    rw [List.mem_singleton] at hx hy
    exact absurd (hx.trans hy.symm) h
  | _ :: _ :: _, _, _ => simp
theorem nub_two {gv : Words} {edge : List Nat} (h : 2 ≤ edge.length) : 2 ≤ (nubW (headsOf gv edge)).length := by
  refine two_mem (x := []) (y := edge.take 1) (nubW_mem.mpr (mem_heads.mpr ⟨edge, by simp, List.nil_prefix, by show 0 < _; (first | lia | omega)⟩)) (nubW_mem.mpr (mem_heads.mpr ⟨edge, by simp, List.take_prefix _ _, by rw [List.length_take]; (first | lia | omega)⟩)) fun e => ?_
  have := congrArg List.length e
  rw [List.length_take] at this
  simp at this; (first | lia | omega)
section
variable {V : Wo} {k : Nat}
noncomputable abbrev lawTail : List Stmt := (bodyN 22).drop 6
set_option maxHeartbeats 4000000 in
theorem tail_bk (X : Facts V) (Y : AccAll V) {a d ga : Addr} {bg : Nat} {first : Int} {C : List Int} {st : Fre × Words} {ρ : Vars} {Φn : Vars → Prop} (F : FSg bg st 5) (hne : st.2 ≠ [] ∨ bg < 4096) (T : TS a d ga bg first C st.1 st.2 ρ) (hC : C.length = 12) :
    Bk V (k + 100) (namesN 22) [] ρ lawTail Φn (fun _ p => p = B true) := by
  obtain ⟨F, hgl, hone⟩ := F
  generalize hgv : st.2 = gv at *
  generalize hfr : st.1 = fr at *
  have hwl : ∀ w ∈ gv, w.length ≤ 3 := fun w hw => (F.inv.wg hw).len
  refine Bk.step (St1.assignL (x := "words") (l := (srt gv).map sIt) (EV.call (ps := [SL gv]) rfl X.sorted Kept.builtin (.cons (by first | exact ns rfl | exact nIt rfl | exact nAcc rfl | nofun) (EV.nameOwn T.given) .nil) (Cl.sorted (by (first | lia | omega)))) (.inl rfl)) ?_
  have T1 : TS a d ga bg first C fr gv (up ρ "words" (SL (srt gv))) := T.up (by decide)
  have w1 : (up ρ "words" (SL (srt gv))) "words" = some (SL (srt gv)) := rfl
  have hρ' : up ρ "words" (.list ((srt gv).map sIt)) = up ρ "words" (SL (srt gv)) := rfl
  rw [hρ']
  generalize up ρ "words" (SL (srt gv)) = ρ1 at T1 w1
  have hwords := F.inv.words
  have hempty : PV.list (((zipL ((srt gv).map .str) (((srt gv).drop 1).map .str)).map It.tup).flatMap fun _ => []) = PV.list [] := by rw [flat_none]
  have hne1 := Bi.ne (V := V) (k := k + 100) (p := .list []) (q := .list []) rfl rfl
  rw [show (!decide (PV.list [] = PV.list [])) = false by simp] at hne1
  refine Bk.step (St1.ite (b := false) (ET.cmp (hempty ▸ EV.comp1 (q := false) rfl (ie_next X rfl w1 (by rw [srt_length]; (first | lia | omega))) trivial ?_ (.inr fun _ _ _ h => nomatch h) (by rw [flat_none]; simp)) (EV.list (l := []) .nil (by simp)) hne1) (fun h => nomatch h) fun _ => Bk.nil rfl) ?_
  · intro x hx
    obtain ⟨p, hp, rfl⟩ := zip_mem_str _ _ hx
    have r1 := hwords p hp
    have m1 : p.1.length ≤ 3 := hwl _ (srt_mem.mp (List.of_mem_zip hp).1)
    have m2 : p.2.length ≤ 3 := hwl _ (srt_mem.mp (List.mem_of_mem_drop (List.of_mem_zip hp).2))
    refine ⟨_, false, .pair rfl rfl rfl rfl rfl, ?_, (by first | exact ns rfl | exact nIt rfl | exact nAcc rfl | nofun), fun _ => rfl⟩
    show ET _ _ _ _ _ _
    have hs := Sc.str (V := V) (k := k + 100) (l := p.2) (lo := none) (hi := some (p.1.length : Int)) (by (first | lia | omega))
    rw [cut_upto] at hs
    have he := Bi.eqS (V := V) (k := k + 100) (a := p.2.take p.1.length) (b := p.1)
    rw [show decide (p.2.take p.1.length = p.1) = false from decide_eq_false fun e => r1 (List.prefix_iff_eq_take.mpr e.symm)] at he
    exact ET.cmp (EV.slice Base.str (by trivial) .none (.some (EV.call (ps := [S p.1]) rfl X.len Kept.builtin (.cons (by first | exact ns rfl | exact nIt rfl | exact nAcc rfl | nofun) (by trivial) .nil) (Cl.lenS (by (first | lia | omega))))) .none hs) (by trivial) he
  have hb1 := F.inv.b1
  have hb2 := F.inv.b2
  obtain ⟨e1, e2, e3, e4⟩ := edge_wd hb1 hb2
  obtain ⟨hbs, hbl⟩ := F.inv.beside hne
  have hcnt : (snds fr).length ≤ 60 := F.inv.count
  have hhl := headsOf_length (given := gv) (edge := lett 3 (4096 - bg)) (fun w hw => by have := hwl w hw; (first | lia | omega)) (by (first | lia | omega))
  have hnl := nubW_length (headsOf gv (lett 3 (4096 - bg)))
  have hbeside := beside_cl (V := V) (k := k + 98) X gv (lett 3 (4096 - bg)) (by (first | lia | omega)) (fun w hw => by have := hwl w hw; (first | lia | omega)) (by (first | lia | omega)) (nub_two (by (first | lia | omega))) (by (first | lia | omega)) (by (first | lia | omega))
  rw [← hbs] at hbeside
  have hsp := words_py fun w hw => F.inv.ws hw
  have hne2 := Bi.ne (V := V) (k := k + 100) hsp hsp
  rw [show (!decide (SL (snds fr) = SL (snds fr))) = false by simp] at hne2
  refine Bk.step (St1.ite (b := false) (ET.cmp (EV.name T1.stems) (EV.call (ps := [SL gv, S (lett 3 (4096 - bg))]) rfl X.beside.1 (Kept.fn X.beside.2) (.cons (by first | exact ns rfl | exact nIt rfl | exact nAcc rfl | nofun) (EV.nameOwn T1.given) (.cons (by first | exact ns rfl | exact nIt rfl | exact nAcc rfl | nofun) (ev_ap (k := k + 99) (m := 3) (n := 4096 - bg) X rfl (by first | exact ns rfl | exact nIt rfl | exact nAcc rfl | nofun) (EV.bin (by trivial) (EV.nameIt T1.begin) Bi.sub) (by push_cast; (first | lia | omega)) (by (first | lia | omega)) (by (first | lia | omega))) .nil)) hbeside) hne2) (fun h => (by cases h)) fun _ => Bk.nil rfl) ?_
  have hgp := words_py fun w hw => F.inv.wg hw
  have hsc : ∀ {scope : Scope}, ScOk (namesN 22) scope (fun n => if n = "given" then some N0 else none) → ScOk (namesN 22) scope ρ1 := fun h => h.up fun n hn => by
    by_cases e1 : n = "given"
    · rw [e1, T1.given]; rfl
    · simp only [e1, if_false] at hn; cases hn
  have hsl := Sc.list (V := V) (k := k + 100) (l := C.map iIt) (lo := some ((9 : Nat) : Int)) (hi := none) (by simp; (first | lia | omega))
  rw [cut_from, ← List.map_drop] at hsl
  have hml := msg_len gv (C.drop 9)
  have hd3 : (C.drop 9).length = 3 := by rw [List.length_drop]; (first | lia | omega)
  refine Bk.cons (St1.comp (l := (C.drop 9).map iIt) (f := msgF gv) (turn1 _ _ _ _ _ _) (fun _ _ _ _ _ _ _ h => eltK_wp h) (q := true) (.inl rfl) (hsc rfl) (IE.list (f := false) (EV.slice Base.list (EV.name T1.cells) (.some (by trivial)) .none .none hsl)) (.inl trivial) ?_ (.inl rfl) (by rw [msg_flat, List.length_map]; (first | lia | omega))) ?_
  · refine mem_map_rev fun c hc => ?_
    refine ⟨_, !decide (gv = []), .name rfl rfl, ?_, fun hb => ?_, fun hb => ?_⟩
    · show ET _ _ _ _ _ _
      have hn := Bi.ne (V := V) (k := k + 100) (p := SL gv) (q := .list []) hgp rfl
      rw [show decide (SL gv = .list []) = decide (gv = []) from decide_eq_decide.mpr ⟨fun e => by
        have e := PV.list.inj e
        exact List.map_eq_nil_iff.mp e, fun e => by rw [e]; rfl⟩] at hn
      exact ET.cmp (EV.nameOwn (by exact T1.given)) (EV.list (l := []) .nil (by simp)) hn
    · have hg0 : gv ≠ [] := by simpa using hb
      have : msgF gv (iIt c) = [sIt (gv.getD (c.fmod gv.length).toNat [])] := if_neg hg0
      rw [this]
      obtain ⟨f1, f2⟩ := fmod_len hg0 c
      have hlen : 0 < gv.length := List.length_pos_iff.mpr hg0
      refine Em.elt (EV.sub Base.list (EV.nameOwn (l := gv.map sIt) (by exact T1.given)) (EV.bin (by trivial) (EV.call (ps := [SL gv]) rfl X.len Kept.builtin (.cons (by first | exact ns rfl | exact nIt rfl | exact nAcc rfl | nofun) (EV.nameOwn (by exact T1.given)) .nil) (Cl.lenSL (by (first | lia | omega)))) (Bi.mod (by (first | lia | omega)))) (Bi.itemL f1 (by (first | lia | omega)) ?_))
      rw [List.getElem?_map, List.getElem?_eq_getElem f2, List.getD_eq_getElem?_getD, List.getElem?_eq_getElem f2]
      rfl
    · have hg0 : gv = [] := by simpa using hb
      exact if_pos hg0
  rw [msg_flat]
  rintro _ rfl
  generalize hmsg : msgOf gv (C.drop 9) = msg at *
  have hmm : ∀ w ∈ msg, w ∈ gv := by rw [← hmsg]; exact msg_mem
  have htl := flatten_le (l := msg) (n := 3) fun w hw => hwl w (hmm w hw)
  have hread := read_cl (V := V) (k := k) X gv msg F.inv.ndg (fun v hv => ⟨hone v hv, hwl v hv, (F.inv.wg hv).lets⟩) (fun v hv u hu h => by
    refine Classical.byContradiction fun hvu => ?_
    exact F.inv.nopre (List.mem_append_right _ hv) (List.mem_append_right _ hu) hvu h) (by (first | lia | omega)) hmm (by (first | lia | omega))
  have hmp := words_py fun w hw => F.inv.wg (hmm w hw)
  have heq := Bi.eq (V := V) (k := k + 100) hmp hmp
  rw [show decide (SL msg = SL msg) = true by simp] at heq
  have hjoin := Cl.join (V := V) (k := k + 100) (l := msg) (by (first | lia | omega))
  refine Bk.last (St1.ret (p := B true) (EV.cmp (EV.call (ps := [S msg.flatten, SL gv]) rfl X.read.1 (Kept.fn X.read.2) (.cons (by first | exact ns rfl | exact nIt rfl | exact nAcc rfl | nofun) (EV.meth (ps := [SL msg]) Meth.join (by trivial) (.cons (by first | exact ns rfl | exact nIt rfl | exact nAcc rfl | nofun) (EV.name rfl) .nil) hjoin) (.cons (by first | exact ns rfl | exact nIt rfl | exact nAcc rfl | nofun) (EV.nameOwn (by exact T1.given)) .nil)) hread) (EV.name rfl) heq) rfl)
end
end
section
open PySem PySem.Calls PyProof.Rows PySem.W PySem.Spec
noncomputable def begF : It → List It
  | .tup [.int place, .int cell] => [iIt (cell.fmod 3 * 16 ^ place.toNat)]
  | _ => []
noncomputable abbrev headC : List Int := [1, 2, 0, 5, 2, 1, 2, 0, 2, 3, 4, 0]
section
variable {V : Wo} {k : Nat}
theorem EVs.list1 {K : List (Str × NameKind)} {ρ : Vars} {es rest : List Expr} {l : List It} {ps : List PV} {u : Pos} (h : EVs V k K ρ es (l.map .it)) (hl : l.length < 1000000) (t : EVs V k K ρ rest ps) : EVs V k K ρ (.List es u :: rest) (.list l :: ps) := .cons (by first | exact ns rfl | exact nIt rfl | exact nAcc rfl | nofun) (EV.list h hl) t
set_option maxHeartbeats 4000000 in
theorem law_body (X : Facts V) (Y : AccAll V) (script : List Int) (hs : script.length < 1000) :
    Bk V (k + 100) (namesN 22) [] (ini ["script"] [IL script]) (bodyN 22) (fun _ => False) (fun _ p => p = B true) := by
  have hcells := (cells_cl (V := V) (k := k + 99) X script headC hs (by decide) (by decide))
  obtain ⟨c0, c1, c2, c3, c4, c5, c6, c7, c8, c9, c10, c11, hC⟩ : ∃ c0 c1 c2 c3 c4 c5 c6 c7 c8 c9 c10 c11, cellsL script headC = [c0, c1, c2, c3, c4, c5, c6, c7, c8, c9, c10, c11] := ⟨_, _, _, _, _, _, _, _, _, _, _, _, rfl⟩
  have hCl : (cellsL script headC).length = 12 := by rw [hC]; rfl
  refine Bk.step (St1.assignL (x := "cells") (l := (cellsL script headC).map iIt) (EV.call (ps := [IL script, IL headC]) rfl X.cells.1 (Kept.fn X.cells.2) (.cons (by first | exact ns rfl | exact nIt rfl | exact nAcc rfl | nofun) (by trivial) (EVs.list1 (l := headC.map iIt) (.cons (by first | exact ns rfl | exact nIt rfl | exact nAcc rfl | nofun) (by trivial) (.cons (by first | exact ns rfl | exact nIt rfl | exact nAcc rfl | nofun) (by trivial) (.cons (by first | exact ns rfl | exact nIt rfl | exact nAcc rfl | nofun) (by trivial) (.cons (by first | exact ns rfl | exact nIt rfl | exact nAcc rfl | nofun) (by trivial) (.cons (by first | exact ns rfl | exact nIt rfl | exact nAcc rfl | nofun) (by trivial) (.cons (by first | exact ns rfl | exact nIt rfl | exact nAcc rfl | nofun) (by trivial) (.cons (by first | exact ns rfl | exact nIt rfl | exact nAcc rfl | nofun) (by trivial) (.cons (by first | exact ns rfl | exact nIt rfl | exact nAcc rfl | nofun) (by trivial) (.cons (by first | exact ns rfl | exact nIt rfl | exact nAcc rfl | nofun) (by trivial) (.cons (by first | exact ns rfl | exact nIt rfl | exact nAcc rfl | nofun) (by trivial) (.cons (by first | exact ns rfl | exact nIt rfl | exact nAcc rfl | nofun) (by trivial) (.cons (by first | exact ns rfl | exact nIt rfl | exact nAcc rfl | nofun) (by trivial) .nil)))))))))))) (by decide) .nil)) hcells) (.inl rfl)) ?_
  have hρ' : ∀ ρ : Vars, up ρ "cells" (.list ((cellsL script headC).map iIt)) = up ρ "cells" (IL (cellsL script headC)) := fun _ => rfl
  rw [hρ']
  generalize hCC : cellsL script headC = C at *
  have hsl := Sc.list (V := V) (k := k + 100) (l := C.map iIt) (lo := none) (hi := some ((3 : Nat) : Int)) (by simp; (first | lia | omega))
  rw [cut_upto, ← List.map_take, hC, show List.take 3 [c0, c1, c2, c3, c4, c5, c6, c7, c8, c9, c10, c11] = [c0, c1, c2] from rfl, ← hC] at hsl
  have hsum : PV.list (((enumL ([c0, c1, c2].map .int)).map .tup).flatMap begF) = IL [c0.fmod 3 * 16 ^ 0, c1.fmod 3 * 16 ^ 1, c2.fmod 3 * 16 ^ 2] := rfl
  obtain ⟨m0, n0⟩ := fmod_lt3 c0
  obtain ⟨m1, n1⟩ := fmod_lt3 c1
  obtain ⟨m2, n2⟩ := fmod_lt3 c2
  have hS : List.sum [c0.fmod 3 * 16 ^ 0, c1.fmod 3 * 16 ^ 1, c2.fmod 3 * 16 ^ 2] = c0.fmod 3 + c1.fmod 3 * 16 + c2.fmod 3 * 256 := by
    simp only [List.sum_cons, List.sum_nil]; (first | lia | omega)
  have hsumc := Cl.sum (V := V) (k := k + 100) (l := [c0.fmod 3 * 16 ^ 0, c1.fmod 3 * 16 ^ 1, c2.fmod 3 * 16 ^ 2])
  rw [hS] at hsumc
  generalize hSS : c0.fmod 3 + c1.fmod 3 * 16 + c2.fmod 3 * 256 = sm at *
  have hmax := Cl.max (V := V) (k := k + 100) (a := 1) (b := sm)
  generalize hb0 : (if sm > 1 then sm else 1) = b0 at *
  have hb0r : 1 ≤ b0 ∧ b0 ≤ 4096 := by
    rw [← hb0]; split <;> (first | lia | omega)
  have hf0 := Int.fmod_nonneg_of_pos c3 (b := 4) (by decide)
  have hf1 := Int.fmod_lt_of_pos c3 (b := 4) (by decide)
  generalize hfst : c3.fmod 4 = first at *
  have hc3 : (C.map iIt)[(3 : Int).toNat]? = some (iIt c3) := by rw [hC]; rfl
  have hmod := Bi.mod (V := V) (k := k + 100) (a := c3) (b := 4) (by decide)
  rw [hfst] at hmod
  refine Bk.cons (St1.duo (x := "begin") (y := "first") true (EX.it (i := .at (.int b0)) (EV.call (ps := [I 1, I sm]) rfl X.max Kept.builtin (.cons (by first | exact ns rfl | exact nIt rfl | exact nAcc rfl | nofun) (by trivial) (.cons (by first | exact ns rfl | exact nIt rfl | exact nAcc rfl | nofun) (EV.call (ps := [IL [c0.fmod 3 * 16 ^ 0, c1.fmod 3 * 16 ^ 1, c2.fmod 3 * 16 ^ 2]]) rfl X.sum Kept.builtin (.cons (by first | exact ns rfl | exact nIt rfl | exact nAcc rfl | nofun) ?_ .nil) hsumc) .nil)) hmax)) (EX.it (i := .at (.int first)) (EV.bin (EV.sub Base.list (EV.name rfl) (by trivial) (Bi.itemL (by decide) (by decide) hc3)) (by trivial) hmod)) (by first | exact ns rfl | exact nIt rfl | exact nAcc rfl | nofun) (by first | exact ns rfl | exact nIt rfl | exact nAcc rfl | nofun) (.inl rfl) (.inl rfl) (by decide) (by rintro _ rfl l; nofun) (by rintro _ rfl l; nofun) ?_) ?_
  · rw [← hsum]
    refine EV.comp1 (q := true) rfl (IE.enum (l := [c0, c1, c2].map .int) rfl X.enumerate (by first | exact ns rfl | exact nIt rfl | exact nAcc rfl | nofun) (ILe [c0, c1, c2] ▸ EV.slice Base.list (EV.name rfl) .none (.some (by trivial)) .none hsl)) trivial ?_ (.inl rfl) (by show 3 ≤ 1000000; decide)
    have hone : ∀ (p : Nat) (c : Int), p ≤ 2 → 0 ≤ c.fmod 3 → c.fmod 3 < 3 → Bi V (k + 100) (binaryOp .Mult) (I (c.fmod 3)) (I (16 ^ p)) (I (c.fmod 3 * 16 ^ p)) := fun p c hp h1 h2 => Bi.mul (PySem.IntMulOk.of_left (PySem.intBits_le_64 (by (first | lia | omega)) (by (first | lia | omega))))
    intro x hx
    have hx : x = .tup [.int ((0 : Nat) : Int), .int c0] ∨ x = .tup [.int ((1 : Nat) : Int), .int c1] ∨ x = .tup [.int ((2 : Nat) : Int), .int c2] := by
      simpa [enumL] using hx
    rcases hx with rfl | rfl | rfl
    · exact ⟨_, true, .pair rfl rfl rfl rfl (by decide), rfl, fun _ => Em.elt (EV.bin (EV.bin (by trivial) (by trivial) (Bi.mod (by decide))) (EV.bin (by trivial) (by trivial) (Bi.pow (by decide) (by decide) (by decide))) (hone 0 c0 (by decide) m0 n0)), (by first | exact ns rfl | exact nIt rfl | exact nAcc rfl | nofun)⟩
    · exact ⟨_, true, .pair rfl rfl rfl rfl (by decide), rfl, fun _ => Em.elt (EV.bin (EV.bin (by trivial) (by trivial) (Bi.mod (by decide))) (EV.bin (by trivial) (by trivial) (Bi.pow (by decide) (by decide) (by decide))) (hone 1 c1 (by decide) m1 n1)), (by first | exact ns rfl | exact nIt rfl | exact nAcc rfl | nofun)⟩
    · exact ⟨_, true, .pair rfl rfl rfl rfl (by decide), rfl, fun _ => Em.elt (EV.bin (EV.bin (by trivial) (by trivial) (Bi.mod (by decide))) (EV.bin (by trivial) (by trivial) (Bi.pow (by decide) (by decide) (by decide))) (hone 2 c2 (by decide) m2 n2)), (by first | exact ns rfl | exact nIt rfl | exact nAcc rfl | nofun)⟩
  · intro env h1 h2
    cases env with
    | mk scope =>
      cases scope
      simp only at h1 h2
      subst h1
      subst h2
      rfl
  rintro _ ⟨_, _, rfl, rfl, _, _, rfl⟩
  generalize hρ2 : up (up (up (ini ["script"] [IL script]) "cells" (IL C)) "begin" (.it (.at (.int b0)))) "first" (.it (.at (.int first))) = ρ2
  have a1 : ρ2 "cells" = some (IL C) := by rw [← hρ2]; rfl
  have a2 : ρ2 "begin" = some (I b0) := by rw [← hρ2]; rfl
  have a3 : ρ2 "first" = some (I first) := by rw [← hρ2]; rfl
  obtain ⟨bg, hbg⟩ : ∃ bg : Nat, (bg : Int) = if decide (c3.fmod 7 = 0) = true then 4096 else b0 := ⟨(if decide (c3.fmod 7 = 0) = true then (4096 : Int) else b0).toNat, by split <;> (first | lia | omega)⟩
  have hbgr : 1 ≤ bg ∧ bg ≤ 4096 := by split at hbg <;> (first | lia | omega)
  have heq7 := Bi.eqI (V := V) (k := k + 100) (a := c3.fmod 7) (b := 0)
  rw [show (c3.fmod 7 == 0) = decide (c3.fmod 7 = 0) from rfl] at heq7
  refine Bk.step (St1.assign (x := "begin") (i := .at (.int (bg : Int))) (EV.ite (ET.cmp (EV.bin (EV.sub Base.list (EV.name a1) (by trivial) (Bi.itemL (by decide) (by decide) hc3)) (by trivial) (Bi.mod (by decide))) (by trivial) heq7) (fun hb => ?_) fun hb => ?_) (.inl rfl)) ?_
  · rw [hbg, if_pos hb]; trivial
  · rw [hbg, if_neg (by rw [hb]; nofun)]; trivial
  generalize hρ3 : up ρ2 "begin" (.it (.at (.int (bg : Int)))) = ρ3
  have b1 : ρ3 "cells" = some (IL C) := by rw [← hρ3]; exact a1
  have b2 : ρ3 "begin" = some (I bg) := by rw [← hρ3]; rfl
  have b3 : ρ3 "first" = some (I first) := by rw [← hρ3]; exact a3
  have hinit := FS.init hbgr.1 hbgr.2
  have hstems := stems_cl (V := V) (k := k + 29) X Y bg first hbgr.1 hbgr.2
  generalize stemsUp bg (ndig 4 (bg : Int)) = fr at *
  refine Bk.cons (St1.duo (x := "free") (y := "given") false (EX.call (ps := [I bg, I first]) rfl X.stems.1 (Kept.fn X.stems.2) (.cons (by first | exact ns rfl | exact nIt rfl | exact nAcc rfl | nofun) (by trivial) (.cons (by first | exact ns rfl | exact nIt rfl | exact nAcc rfl | nofun) (by trivial) .nil)) hstems) (EX.own (EV.list (l := []) .nil (by simp))) (by first | exact ns rfl | exact nIt rfl | exact nAcc rfl | nofun) (by first | exact ns rfl | exact nIt rfl | exact nAcc rfl | nofun) (.inl rfl) (.inr rfl) (by decide) (by rintro _ ⟨a, d, rfl⟩ l; nofun) (by rintro _ ⟨a, rfl⟩ l; nofun) ?_) ?_
  · intro env h1 h2
    cases env with
    | mk scope =>
      cases scope
      simp only at h1 h2
      subst h1
      subst h2
      rfl
  rintro _ ⟨_, _, ⟨a, d, rfl⟩, ⟨ga, rfl⟩, _, _, rfl⟩
  have hF60 := hinit.flen
  have eS : SL (snds fr) = .list ((accItems fr).flatMap sndF) := by rw [snd_flat]
  refine Bk.cons (St1.comp (l := accItems fr) (f := sndF) (turn1 _ _ _ _ _ _) (fun _ _ _ _ _ _ _ h => eltK_wp h) (q := true) (.inl rfl) rfl (IE.acc Y.facts (a := a) (d := d) (first := first) (l := fr) (EV.name rfl)) (.inr trivial) ?_ (.inl rfl) (by rw [snd_flat, List.length_map, List.length_map]; (first | lia | omega))) ?_
  · intro x hx
    obtain ⟨p, hp, rfl⟩ := List.mem_map.mp hx
    exact ⟨_, true, .pair rfl rfl rfl rfl rfl, rfl, fun _ => Em.elt (by trivial), (by first | exact ns rfl | exact nIt rfl | exact nAcc rfl | nofun)⟩
  rintro _ rfl
  have F0 : FSg bg (fr, []) 0 := ⟨hinit, Nat.le_refl _, (by first | exact ns rfl | exact nIt rfl | exact nAcc rfl | nofun)⟩
  have T0 : TS a d ga bg first C fr [] (up (up (up ρ3 "free" (.acc a d first fr)) "given" (.own ga [])) "stems" (.list ((accItems fr).flatMap sndF))) := ⟨rfl, rfl, congrArg some eS.symm, b2, b3, b1⟩
  refine Bk.cons (turns_st (V := V) (k := k + 20) X Y F0 T0 (by (first | lia | omega)) hf0 (by (first | lia | omega))) fun ρ' T' => ?_
  have h5 : (C.drop 4).take 5 = [c4, c5, c6, c7, c8] := by rw [hC]; rfl
  rw [h5] at T'
  have hsome := given_some (fr := fr) c4 [c5, c6, c7, c8] hinit hbgr.2
  have F5 := FSg.fold [c4, c5, c6, c7, c8] F0
  exact tail_bk X Y F5 hsome T' (by (first | lia | omega))
theorem law_cl (X : Facts V) (Y : AccAll V) (script : List Int) (hs : script.length < 1000) : Cl V (k + 101) (.ref 195) [IL script] (B true) :=
  Cl.fn1 (k := k + 100) X.law.2 rfl (.inl rfl) rfl (law_body X Y script hs)
end
end
section
open PySem PySem.Calls PyProof.Rows PySem.W PySem.Spec

theorem ns_hide {h : Heap} {a : Addr} {m : Str → Option Value} (x : h.Ns a m) (ha : a ∉ tabAddrs) : (hideAll h tabAddrs).Ns a m := let ⟨o, es, ep, ho, r⟩ := x; ⟨o, es, ep, hideAll_get _ ho ha, r⟩
theorem its_of_ints {h : Heap} {vs : List Value} {ns : List Int} (x : IntsAre vs ns) : Its h (ns.map iIt) vs := Its.ofInts x
theorem oldK_of {V : Wo} {s s' : Shared} (o : Ok V s s') (h : ∀ P ∈ tabAddrs, ∃ c, s.heap.TableAt c P #[]) : OldK s.heap s'.heap where
  old := fun b ob e => by
    by_cases hb : b ∈ tabAddrs
    · obtain ⟨c, ht⟩ := h b hb
      have e2 := ht.2
      rw [e] at e2
      cases e2
      have : ∃ t ∈ tabList, t.2.1 = b := by
        unfold tabAddrs at hb
        simp only [List.mem_cons, List.not_mem_nil, or_false] at hb
        rcases hb with rfl | rfl | rfl | rfl <;> simp [tabList]
      obtain ⟨t, ht2, rfl⟩ := this
      obtain ⟨ps, _, T', _⟩ := o.gi.tab t ht2
      exact .inr (.inl ⟨ht.isCodeTable, rfl, #[], ps, rfl, by rw [T'.2]; simp⟩)
    · exact .inl (o.keep b ob hb e)
  there := o.there
theorem wo_ok {w : World} {h : Heap} {mg mb : Str → Option Value} (g : h.Ns mainGlobals mg) (b : h.Ns builtinsNs mb) (l : h.NoLimit) : Wo.Ok ⟨w, hideAll h tabAddrs, mg, mb⟩ where
  g := ns_hide g (by decide)
  b := ns_hide b (by decide)
  nolimit := let ⟨mc, x, y⟩ := l; ⟨mc, ns_hide x (by decide), y⟩
theorem gi_of {w : World} {s : Shared} {mg mb : Str → Option Value} (o : Wo.Ok ⟨w, hideAll s.heap tabAddrs, mg, mb⟩) (hg : s.gens = #[]) (ht : ∀ t ∈ tabList, s.heap.IsCode t.1 t.2.1 #[] ∧ s.heap.TableAt t.1 t.2.1 #[]) : GI ⟨w, hideAll s.heap tabAddrs, mg, mb⟩ s where
  ok := o
  keep := fun _ _ => of_hideAll _
  tab := fun t h => ⟨#[], (ht t h).1, (ht t h).2, .inl rfl⟩
  bare := .of_eq hg
  off := fun _ => hideAll_none _
theorem bmain_of {h : Heap} {mg : Str → Option Value} {om : Obj} (hm : h.get? mainGlobals = some om) (hmc : om.cls = .type "dict") (ht : ∀ P ∈ tabAddrs, ∃ c, h.TableAt c P #[])
    (x : ∃ bm ob, mg "__builtins__" = some (.ref bm) ∧ bm ≠ builtinsNs ∧ h.get? bm = some ob ∧ ob.cls = .type "module" ∧ ob.dict = some builtinsNs ∧ ob.data = .plain) :
    ∃ bm ob, mg "__builtins__" = some (.ref bm) ∧ bm ≠ builtinsNs ∧ bm ≠ mainGlobals ∧ (hideAll h tabAddrs).get? bm = some ob ∧ ob.cls = .type "module" ∧ ob.dict = some builtinsNs ∧ ob.data = .plain := by
  obtain ⟨bm, ob, h1, h2, h3, h4, h5⟩ := x
  refine ⟨bm, ob, h1, h2, ?_, hideAll_get _ h3 ?_, h4, h5⟩
  · rintro rfl
    rw [hm] at h3
    cases h3
    rw [hmc] at h4
    exact absurd h4 (by decide)
  · intro hb
    obtain ⟨c, _, ht⟩ := ht bm hb
    rw [h3] at ht
    cases ht
    cases h4
theorem made_of {K : Frag} {M : Model} {h : Heap} (X : K.In h) {C : Addr} {oc : Value} {od : Option Addr} {cd : ClassData} {sl : Array (Option Value)} {l : List Value} (ho : K.lookup C = some ⟨oc, od, .cls cd, sl⟩) (hl : cd.mro = .ref C :: l) (e3 : (sl.toList[4]?).join = some (.builtin "list.__new__")) :
    Looks M h (Bind.madeBy (.ref C)) (some "list.__new__") ∧ Looks M h (Bind.staticBase (.ref C)) (.ref C) := by
  have hc : clsIn K C = some cd := by unfold clsIn; rw [ho]
  have hm : Looks M h (mroOf (.ref C)) cd.mro := (looks_clsIn X hc).andThen .now
  have made : Looks M h (Bind.madeBy (.ref C)) (some "list.__new__") := by
    intro A Q E s k q
    unfold Bind.madeBy
    refine wpAny_bind (hm A _ E s k ?_)
    rw [hl, List.forIn_cons]
    refine wpAny_bind (wpAny_bind (wpAny_bind (wpAny_bind (wpAny_loadPart (k _ _ (X _ _ ho)) (wpAny_pure ?_)))))
    dsimp only
    rw [← Array.getElem?_toList, e3]
    exact wpAny_pure (wpAny_pure (wpAny_pure q))
  refine ⟨made, ?_⟩
  intro A Q E s k q
  unfold Bind.staticBase
  refine wpAny_bind (hm A _ E s k ?_)
  rw [hl, List.forIn_cons]
  exact wpAny_bind (wpAny_bind (wpAny_bind (made A _ E s k (wpAny_pure (wpAny_pure (wpAny_pure q))))))
theorem glb_of {w : World} {K : Frag} {h : Heap} {mg mb : Str → Option Value} {V : Wo} (hV : V = ⟨w, hideAll h tabAddrs, mg, mb⟩) (X : K.In h) (G : h.Ns mainGlobals mg) (B : ∀ x : Str, x ≠ "__name__" → mb x = bootBuiltins x) (x : Str) (v : Value) (e1 : nsIn K mainGlobals x = some none) (e2 : bootBuiltins x = some v) (e3 : x ≠ "__name__") : Gl V x v := by
  rw [hV]; exact .inr ⟨mg_none_of X G e1, (B x e3).trans e2⟩
theorem glm_of {w : World} {K : Frag} {h : Heap} {mg mb : Str → Option Value} {V : Wo} (hV : V = ⟨w, hideAll h tabAddrs, mg, mb⟩) (X : K.In h) (G : h.Ns mainGlobals mg) (x : Str) (v : Value) (e1 : nsIn K mainGlobals x = some (some v)) : Gl V x v := by
  rw [hV]; exact .inl (mg_of X G e1)
end
section
open PySem PySem.Calls PyProof.Rows PySem.W PySem.Spec
noncomputable def KA (h : Heap) : List Addr → Frag
  | [] => []
  | a :: r => match h.get? a with
    | some o => (a, o) :: KA h r
    | none => KA h r
set_option tactic.hygienic true in
theorem KA_In (h : Heap) : ∀ l, (KA h l).In h
  | [], a, o, e => nomatch e
  | b :: r, a, o, e => by
    unfold KA at e
    split at e
    · rename_i o' ho
      rw [List.lookup_cons] at e
      split at e
      · rename_i hab
        cases e
        rw [beq_iff_eq.mp hab]; exact ho
      · exact KA_In h r a o e
    · exact KA_In h r a o e
noncomputable abbrev liveAddrs : List Addr := (List.range 196).filter fun a => !tabAddrs.contains a
theorem live_not {a : Addr} (h : a ∈ liveAddrs) : a ∉ tabAddrs := by
  have := (List.mem_filter.mp h).2
  simpa using this
set_option tactic.hygienic true in
theorem KA_mem (h : Heap) : ∀ (l : List Addr) {a : Addr} {o : Obj}, (KA h l).lookup a = some o → a ∈ l
  | [], a, o, e => nomatch e
  | b :: r, a, o, e => by
    unfold KA at e
    split at e
    · rw [List.lookup_cons] at e
      split at e
      · rename_i hab
        exact List.mem_cons.mpr (.inl (beq_iff_eq.mp hab))
      · exact List.mem_cons_of_mem _ (KA_mem h r e)
    · exact List.mem_cons_of_mem _ (KA_mem h r e)
noncomputable abbrev KF (h : Heap) : Frag := KA h liveAddrs
theorem KF_hide {h h' : Heap} (k : ∀ b o, h.get? b = some o → h'.get? b = some o) : (KF h).In (hideAll h' tabAddrs) := fun a o e => hideAll_get _ (k _ _ (KA_In h _ a o e)) (live_not (KA_mem h _ e))
noncomputable def isTy (T : String) : Value → Bool
  | .type S => decide (S = T)
  | _ => false
theorem isTy_eq {T : String} : ∀ {v : Value}, isTy T v = true → v = .type T := fun {v} e => by
  cases v <;> first | (cases e; done) | exact congrArg Value.type (of_decide_eq_true e)
noncomputable def funcOf : Data → Option FuncData
  | .func f => some f
  | _ => none
theorem funcOf_eq {d : Data} {f : FuncData} (e : funcOf d = some f) : d = .func f := by cases d <;> first | (cases e; done) | exact congrArg Data.func (Option.some.inj e)
noncomputable def fieldsOf : Data → Option (Array Value)
  | .fields vs => some vs
  | _ => none
theorem fieldsOf_eq {d : Data} {f : Array Value} (e : fieldsOf d = some f) : d = .fields f := by cases d <;> first | (cases e; done) | exact congrArg Data.fields (Option.some.inj e)
noncomputable def clsOf : Data → Option ClassData
  | .cls c => some c
  | _ => none
theorem clsOf_eq {d : Data} {f : ClassData} (e : clsOf d = some f) : d = .cls f := by cases d <;> first | (cases e; done) | exact congrArg Data.cls (Option.some.inj e)
noncomputable def seqOf : Data → Option (Array Value × Nat)
  | .seq vs n => some (vs, n)
  | _ => none
theorem seqOf_eq {d : Data} {p : Array Value × Nat} (e : seqOf d = some p) : d = .seq p.1 p.2 := by cases d <;> first | (cases e; done) | (cases Option.some.inj e; rfl)
noncomputable def cellOf : Data → Option (Option Value)
  | .cell v => some v
  | _ => none
theorem cellOf_eq {d : Data} {v : Option Value} (e : cellOf d = some v) : d = .cell v := by cases d <;> first | (cases e; done) | exact congrArg Data.cell (Option.some.inj e)
noncomputable def intTok : Value → Option (Int × Tok)
  | .int i t => some (i, t)
  | _ => none
theorem intTok_eq {v : Value} {p : Int × Tok} (e : intTok v = some p) : v = .int p.1 p.2 := by cases v <;> first | (cases e; done) | (cases Option.some.inj e; rfl)
noncomputable def strTok : Value → Option (Str × Tok)
  | .str i t => some (i, t)
  | _ => none
theorem strTok_eq {v : Value} {p : Str × Tok} (e : strTok v = some p) : v = .str p.1 p.2 := by cases v <;> first | (cases e; done) | (cases Option.some.inj e; rfl)
noncomputable def boolOf : Value → Option Bool
  | .bool b => some b
  | _ => none
theorem boolOf_eq {v : Value} {b : Bool} (e : boolOf v = some b) : v = .bool b := by cases v <;> first | (cases e; done) | exact congrArg Value.bool (Option.some.inj e)
noncomputable def isStmts : FuncBody → Bool
  | .stmts _ => true
  | .expr _ => false
theorem isStmts_eq {b : FuncBody} (e : isStmts b = true) : ∃ l, b = .stmts l := by cases b <;> first | exact ⟨_, rfl⟩ | cases e
noncomputable def lookB (K : Frag) (a : Addr) (p : Obj → Bool) : Bool := ((K.lookup a).map p).getD false
theorem look_B {K : Frag} {a : Addr} {p : Obj → Bool} (e : lookB K a p = true) : ∃ o, K.lookup a = some o ∧ p o = true := by
  unfold lookB at e
  cases h : K.lookup a with
  | none => rw [h] at e; cases e
  | some o => rw [h] at e; exact ⟨o, rfl, e⟩
noncomputable def optB {α : Type} (x : Option α) (p : α → Bool) : Bool := (x.map p).getD false
theorem opt_B {α : Type} {x : Option α} {p : α → Bool} (e : optB x p = true) : ∃ y, x = some y ∧ p y = true := by
  unfold optB at e
  cases x with
  | none => cases e
  | some y => exact ⟨y, rfl, e⟩
noncomputable def fnB (K : Frag) (n q : Str) (a c : Addr) (cl : List (Str × Addr)) (dV : Value) : Bool := lookB K a fun o => isTy "function" o.cls && o.dict.isNone && o.slots.isEmpty && optB (funcOf o.data) fun fd =>
  decide (fd.name = n) && decide (fd.qualname = q) && decide (fd.closure = cl) && decide (fd.globals = mainGlobals) && decide (fd.builtins = builtinsNs) && decide (fd.defaults = dV) && decide (fd.kwdefaults = .none) && decide (fd.code = .ref c) && codeIn K (.ref c) q && isStmts fd.body
noncomputable def srcB (K : Frag) (a : Addr) : Option (Arguments × List Stmt × Scope) := (K.lookup a).bind fun o => (funcOf o.data).map fun fd => (fd.params, (match fd.body with | .stmts b => b | .expr _ => []), fd.scope)
theorem fnAt_B {K : Frag} {h : Heap} (X : K.In h) {sr : Option (Arguments × List Stmt × Scope)} {n q : Str} {a c : Addr} {cl : List (Str × Addr)} {dV : Value} (e : fnB K n q a c cl dV = true) (hs : srcB K a = sr) : FnAt h sr n q a c cl dV := by
  obtain ⟨⟨cls, dict, data, slots⟩, ho, e⟩ := look_B e
  obtain ⟨e, ef⟩ := Bool.and_eq_true_iff.mp e
  obtain ⟨fd, hf, ef⟩ := opt_B ef
  simp only [Bool.and_eq_true, decide_eq_true_eq] at e ef
  obtain ⟨⟨e1, e2⟩, e3⟩ := e
  obtain ⟨⟨⟨⟨⟨⟨⟨⟨⟨h1, h2⟩, h3⟩, h4⟩, h5⟩, h6⟩, h7⟩, h8⟩, h9⟩, h10⟩ := ef
  have k1 := isTy_eq e1
  have k2 : dict = none := Option.isNone_iff_eq_none.mp e2
  have k3 : slots = #[] := Array.isEmpty_iff.mp e3
  have k4 := funcOf_eq hf
  dsimp only at k1 k4
  subst k1 k2 k3 k4
  unfold srcB at hs
  rw [ho] at hs
  exact ⟨⟨fd, X _ _ ho, h1, h2, hs.symm, isStmts_eq h10, h3, h4, h5, h6, h7, h8⟩, codeRec_of X h9⟩
noncomputable def tupB (K : Frag) (a : Addr) : Bool := lookB K a fun o => isTy "tuple" o.cls && optB (seqOf o.data) fun p => decide (p.1.size = 1) && optB p.1[0]? fun v => optB (intTok v) fun i => decide (i.1 = 0)
theorem tup_B {K : Frag} {h : Heap} (X : K.In h) {a : Addr} (e : tupB K a = true) : ∃ t, h.IsTuple a #[.int 0 t] := by
  obtain ⟨o, ho, e⟩ := look_B e
  obtain ⟨e1, e⟩ := Bool.and_eq_true_iff.mp e
  obtain ⟨p, hp, e⟩ := opt_B e
  obtain ⟨e2, e⟩ := Bool.and_eq_true_iff.mp e
  obtain ⟨v, hv, e⟩ := opt_B e
  obtain ⟨i, hi, e⟩ := opt_B e
  have e3 := of_decide_eq_true e
  have e2 := of_decide_eq_true e2
  refine ⟨i.2, o, X _ _ ho, isTy_eq e1, p.2, ?_⟩
  rw [seqOf_eq hp]
  congr 1
  rw [intTok_eq hi, e3] at hv
  refine Array.ext (by rw [e2]; rfl) fun j h1 h2 => ?_
  have h2 : j < 1 := h2
  have hj : j = 0 := Nat.lt_one_iff.mp h2
  subst hj
  exact Option.some.inj ((Array.getElem?_eq_getElem h1).symm.trans hv)
noncomputable def cellB (K : Frag) : Bool := lookB K 25 fun o => optB (cellOf o.data) fun v => decide (v = some (.ref accCls))
theorem cell_B {K : Frag} {h : Heap} (X : K.In h) (e : cellB K = true) : h.IsCell 25 (some (.ref accCls)) := by
  obtain ⟨o, ho, e⟩ := look_B e
  obtain ⟨v, hv, e⟩ := opt_B e
  exact ⟨o, X _ _ ho, by rw [cellOf_eq hv, of_decide_eq_true e]⟩
noncomputable def fileB (K : Frag) (c : Addr) : Bool := lookB K c fun o => optB (fieldsOf o.data) fun vs => optB vs[2]? fun v => optB (strTok v) fun p => decide (prog.main.file = p.1)
theorem file_B {K : Frag} {h : Heap} (X : K.In h) {c : Addr} (e : fileB K c = true) : ∃ oc vs file tf, h.get? c = some oc ∧ oc.data = .fields vs ∧ vs[2]? = some (.str file tf) ∧ ((prog.main.file : Str) == file) = true := by
  obtain ⟨o, ho, e⟩ := look_B e
  obtain ⟨vs, hv, e⟩ := opt_B e
  obtain ⟨v, hv2, e⟩ := opt_B e
  obtain ⟨p, hp, e⟩ := opt_B e
  exact ⟨o, vs, p.1, p.2, X _ _ ho, fieldsOf_eq hv, by rw [hv2, strTok_eq hp], beq_iff_eq.mpr (of_decide_eq_true e)⟩
noncomputable def clsB (K : Frag) : Bool := lookB K accCls fun o => optB (clsOf o.data) fun cd => !cd.abstract && !cd.hasDel && cd.hasDict && decide (cd.mro = [.ref accCls, .type "list", .type "object"]) && decide ((o.slots.toList[4]?).join = some (.builtin "list.__new__"))
theorem cls_B {K : Frag} (e : clsB K = true) : ∃ oc od cd sl, K.lookup accCls = some ⟨oc, od, .cls cd, sl⟩ ∧ cd.abstract = false ∧ cd.hasDel = false ∧ cd.hasDict = true ∧ cd.mro = [.ref accCls, .type "list", .type "object"] ∧ (sl.toList[4]?).join = some (.builtin "list.__new__") := by
  obtain ⟨⟨oc, od, data, sl⟩, ho, e⟩ := look_B e
  obtain ⟨cd, hc, e⟩ := opt_B e
  simp only [Bool.and_eq_true, Bool.not_eq_true', decide_eq_true_eq] at e
  obtain ⟨⟨⟨⟨h1, h2⟩, h3⟩, h4⟩, h5⟩ := e
  have k := clsOf_eq hc
  dsimp only at k
  subst k
  exact ⟨oc, od, cd, sl, ho, h1, h2, h3, h4, h5⟩
noncomputable def tabB (h : Heap) (c P : Addr) : Bool := optB (h.get? c) (fun o => isTy "code" o.cls && optB (fieldsOf o.data) fun vs => decide (vs[11]? = some (.ref P)) && (strTok (vs.getD 18 .none)).isSome && (intTok (vs.getD 7 .none)).isSome && (boolOf (vs.getD 9 .none)).isSome && (intTok (vs.getD 10 .none)).isSome) &&
  optB (h.get? P) fun o => decide (o.cls = .none) && o.dict.isNone && o.slots.isEmpty && optB (fieldsOf o.data) fun vs => vs.isEmpty
theorem tab_B {h : Heap} {c P : Addr} (e : tabB h c P = true) (hne : c ≠ P) : h.IsCode c P #[] ∧ h.TableAt c P #[] := by
  obtain ⟨e, eP⟩ := Bool.and_eq_true_iff.mp e
  obtain ⟨o, ho, e⟩ := opt_B e
  obtain ⟨e1, e⟩ := Bool.and_eq_true_iff.mp e
  obtain ⟨vs, hv, e⟩ := opt_B e
  obtain ⟨⟨cls, dict, data, slots⟩, hP, eP⟩ := opt_B eP
  obtain ⟨eP, e7⟩ := Bool.and_eq_true_iff.mp eP
  obtain ⟨ps, hps, e7⟩ := opt_B e7
  simp only [Bool.and_eq_true, decide_eq_true_eq] at e eP
  obtain ⟨⟨⟨⟨h11, h18⟩, h7⟩, h9⟩, h10⟩ := e
  obtain ⟨⟨k1, k2⟩, k3⟩ := eP
  have k2 : dict = none := Option.isNone_iff_eq_none.mp k2
  have k3 : slots = #[] := Array.isEmpty_iff.mp k3
  have k4 := fieldsOf_eq hps
  have k5 : ps = #[] := Array.isEmpty_iff.mp e7
  dsimp only at k1 k4
  subst k1 k2 k3 k5 k4
  obtain ⟨p18, q18⟩ := Option.isSome_iff_exists.mp h18
  obtain ⟨p7, q7⟩ := Option.isSome_iff_exists.mp h7
  obtain ⟨p9, q9⟩ := Option.isSome_iff_exists.mp h9
  obtain ⟨p10, q10⟩ := Option.isSome_iff_exists.mp h10
  have g11 : vs.getD 11 .none = .ref P := by rw [Array.getD_eq_getD_getElem?, h11]; rfl
  have hd := fieldsOf_eq hv
  exact ⟨⟨o, vs, p18.1, p18.2, p7.1, p7.2, p9, p10.1, p10.2, _, ho, hd, g11, strTok_eq q18, intTok_eq q7, boolOf_eq q9, intTok_eq q10, hP, rfl, True.intro, hne⟩, ⟨o, vs, ho, isTy_eq e1, hd, h11⟩, hP⟩
noncomputable def topFns : List (Str × Nat × Addr × Addr) := [("_div2n1n", 6, 111, 110), ("_int2digits", 8, 125, 124), ("_digits2int", 9, 132, 131), ("_divmod_pos", 10, 139, 138), ("int_divmod", 11, 146, 145), ("Int2AP", 13, 153, 152), ("_law_cells", 15, 158, 157), ("_law_worth", 16, 163, 162), ("_law_stems", 17, 170, 169), ("_law_wish", 18, 175, 174), ("_law_free", 19, 180, 179), ("_law_beside", 20, 185, 184), ("_law_read", 21, 190, 189), ("law", 22, 195, 194)]
noncomputable def methFns : List (Str × Addr × Addr × List (Str × Addr) × Value) := [("push", 45, 44, [], .none), ("pop_from", 53, 52, [], .ref 46), ("__len__", 67, 66, [], .none), ("__str__", 74, 73, [], .none), ("part_count", 97, 96, [("__class__", 25)], .none), ("__init__", 38, 37, [("__class__", 25)], .ref 30)]
noncomputable def bltNames : List Str := ["len", "sum", "ord", "max", "abs", "divmod", "sorted", "int", "range", "enumerate", "zip", "reversed", "set", "super", "str"]
noncomputable def ownNames : List (Str × Option Value) := [("__iter__", some (.builtin "list.__iter__")), ("__getitem__", some (.builtin "list.__getitem__")), ("__setitem__", some (.builtin "list.__setitem__")), ("append", some (.builtin "list.append")), ("__new__", some (.builtin "list.__new__")),
  ("__init__", some (.ref 38)), ("push", some (.ref 45)), ("pop_from", some (.ref 53)), ("__len__", some (.ref 67)), ("__str__", some (.ref 74)), ("part_count", some (.ref 97)),
  ("__getattribute__", some (.builtin "list.__getattribute__")), ("__getattr__", none), ("_initial_size", none), ("__setattr__", some (.builtin "object.__setattr__"))]
noncomputable def okB (h : Heap) (K : Frag) : Bool :=
  (tabList.all fun t => tabB h t.1 t.2.1) &&
  ((bltNames.all fun x => decide (nsIn K mainGlobals x = some none)) &&
  ((topFns.all fun t => decide (nsIn K mainGlobals t.1 = some (some (.ref t.2.2.1))) && fnB K t.1 t.1 t.2.2.1 t.2.2.2 [] .none) &&
  ((methFns.all fun t => fnB K t.1 (("_Accumulator." : Str) ++ t.1) t.2.1 t.2.2.1 t.2.2.2.1 t.2.2.2.2) &&
  ((ownNames.all fun t => decide (findIn K (.ref accCls) t.1 = some t.2)) &&
  (((optB ((nsIn K mainGlobals "_DIV_LIMIT").join.bind intTok) fun p => decide (p.1 = 4000)) && (optB ((nsIn K mainGlobals "EMPTYSTRING").join.bind strTok) fun p => decide (p.1 = ⟨#[]⟩)) && decide (nsIn K mainGlobals "_Accumulator" = some (some (.ref accCls)))) &&
  ((tupB K 46 && tupB K 30 && cellB K && fileB K 37 && fileB K 96 && clsB K && lookB K mainGlobals (fun o => isTy "dict" o.cls)) &&
  ((decide (subIn K (.ref accCls) (.type "list") = some true) && decide (subIn K (.ref accCls) (.type "object") = some true) && decide (subIn K (.ref accCls) (.ref accCls) = some true) && (seqItemTypes.all fun n => subIn K (.ref accCls) (.type n) == some false)) &&
  (decide (nsIn K cStatics "thirdparty.any" = some none) && decide (specialIn K (.ref accCls) "__call__" = some (some (.builtin "type.__call__"))) && decide (instIn K (.ref accCls) (.type "type") = some true)))))))))
noncomputable abbrev Alpha : Type := Bool × List (Option (Arguments × List Stmt × Scope)) × Nat
noncomputable def lookF (s : Shared) : Alpha := (okB s.heap (KF s.heap), (topFns.map fun t => srcB (KF s.heap) t.2.2.1) ++ methFns.map fun t => srcB (KF s.heap) t.2.1, s.heap.objs.size)
noncomputable def lookA (w : World) : Alpha := (true, (topFns.map fun t => srcN t.2.1) ++ methFns.map fun t => srcIn accBody t.1, 196)
noncomputable def view : Program := { prog with main := { prog.main with body := [0, 2, 3, 5, 6, 7, 8, 9, 10, 11, 13, 15, 16, 17, 18, 19, 20, 21, 22].filterMap fun i => prog.main.body[i]? } }
end
section
open PySem PySem.Calls PyProof.Rows PySem.W PySem.Spec
set_option maxHeartbeats 0 in
theorem left : LeftO prog view ["_Accumulator"] (fun s => xlAt view [] s && recOk [] s) lookF lookA 2216 := fun w => by kernel_rfl
end
section
open PySem PySem.Calls PyProof.Rows PySem.W PySem.Spec
theorem all_at {α : Type} {l : List α} {p : α → Bool} (h : l.all p = true) {x : α} (i : Nat) (e : l[i]? = some x) : p x = true := List.all_eq_true.mp h x (List.mem_of_getElem? e)
section
variable {w : World} {h h' : Heap} {mg mb : Str → Option Value} {V : Wo}
structure Seen (h : Heap) (K : Frag) : Prop where
  tab : (tabList.all fun t => tabB h t.1 t.2.1) = true
  blt : (bltNames.all fun x => decide (nsIn K mainGlobals x = some none)) = true
  top : (topFns.all fun t => decide (nsIn K mainGlobals t.1 = some (some (.ref t.2.2.1))) && fnB K t.1 t.1 t.2.2.1 t.2.2.2 [] .none) = true
  meth : (methFns.all fun t => fnB K t.1 (("_Accumulator." : Str) ++ t.1) t.2.1 t.2.2.1 t.2.2.2.1 t.2.2.2.2) = true
  own : (ownNames.all fun t => decide (findIn K (.ref accCls) t.1 = some t.2)) = true
  lim : (optB ((nsIn K mainGlobals "_DIV_LIMIT").join.bind intTok) fun p => decide (p.1 = 4000)) = true
  emp : (optB ((nsIn K mainGlobals "EMPTYSTRING").join.bind strTok) fun p => decide (p.1 = ⟨#[]⟩)) = true
  acc : nsIn K mainGlobals "_Accumulator" = some (some (.ref accCls))
  t46 : tupB K 46 = true
  t30 : tupB K 30 = true
  cell : cellB K = true
  f37 : fileB K 37 = true
  f96 : fileB K 96 = true
  cls : clsB K = true
  main : lookB K mainGlobals (fun o => isTy "dict" o.cls) = true
  sl : subIn K (.ref accCls) (.type "list") = some true
  so : subIn K (.ref accCls) (.type "object") = some true
  ss : subIn K (.ref accCls) (.ref accCls) = some true
  seq : (seqItemTypes.all fun n => subIn K (.ref accCls) (.type n) == some false) = true
  opq : nsIn K cStatics "thirdparty.any" = some none
  call : specialIn K (.ref accCls) "__call__" = some (some (.builtin "type.__call__"))
  typ : instIn K (.ref accCls) (.type "type") = some true
theorem seen_of {K : Frag} (e : okB h K = true) : Seen h K := by
  unfold okB at e
  simp only [Bool.and_eq_true, decide_eq_true_eq] at e
  obtain ⟨e1, e2, e3, e4, e5, ⟨⟨e6, e7⟩, e8⟩, ⟨⟨⟨⟨⟨⟨e9, e10⟩, e11⟩, e12⟩, e13⟩, e14⟩, e15⟩, ⟨⟨⟨e16, e17⟩, e18⟩, e19⟩, ⟨e20, e21⟩, e22⟩ := e
  exact ⟨e1, e2, by simpa only [Bool.and_eq_true, decide_eq_true_eq] using e3, e4, e5, e6, e7, e8, e9, e10, e11, e12, e13, e14, e15, e16, e17, e18, e19, e20, e21, e22⟩
theorem tabs_of {K : Frag} (S : Seen h K) (k : ∀ b o, h.get? b = some o → h'.get? b = some o) : ∀ t ∈ tabList, h'.IsCode t.1 t.2.1 #[] ∧ h'.TableAt t.1 t.2.1 #[] := fun t ht => by
  have e := List.all_eq_true.mp S.tab t ht
  have hne : t.1 ≠ t.2.1 := by
    have : ∀ t ∈ tabList, t.1 ≠ t.2.1 := by decide
    exact this t ht
  obtain ⟨a, b⟩ := tab_B e hne
  exact ⟨a.keeps k, b.keeps k⟩
theorem tabs2_of (ht : ∀ t ∈ tabList, h'.IsCode t.1 t.2.1 #[] ∧ h'.TableAt t.1 t.2.1 #[]) : ∀ P ∈ tabAddrs, ∃ c, h'.TableAt c P #[] := fun P hP => by
  have : ∀ P ∈ tabAddrs, ∃ t ∈ tabList, t.2.1 = P := by decide
  obtain ⟨t, h1, rfl⟩ := this P hP
  exact ⟨_, (ht t h1).2⟩
noncomputable abbrev srcsOf (K : Frag) : List (Option (Arguments × List Stmt × Scope)) := (topFns.map fun t => srcB K t.2.2.1) ++ methFns.map fun t => srcB K t.2.1
theorem facts_of {K : Frag} (hV : V = ⟨w, hideAll h' tabAddrs, mg, mb⟩) (X : K.In h') (XV : K.In V.h0) (G : h'.Ns mainGlobals mg) (B : ∀ x : Str, x ≠ "__name__" → mb x = bootBuiltins x) (S : Seen h K) (y : srcsOf K = (topFns.map fun t => srcN t.2.1) ++ methFns.map fun t => srcIn accBody t.1)
    (ht : ∀ P ∈ tabAddrs, ∃ c, h'.TableAt c P #[])
    (bm : ∃ bm ob, mg "__builtins__" = some (.ref bm) ∧ bm ≠ builtinsNs ∧ h'.get? bm = some ob ∧ ob.cls = .type "module" ∧ ob.dict = some builtinsNs ∧ ob.data = .plain) : Facts V := by
  have glb : ∀ (x : Str) (v : Value) (i : Nat), bltNames[i]? = some x → bootBuiltins x = some v → x ≠ "__name__" → Gl V x v := fun x v i e e2 e3 => glb_of hV X G B x v (of_decide_eq_true (all_at S.blt i e)) e2 e3
  have fn : ∀ (x : Str) (j : Nat) (a c : Addr) (i : Nat), topFns[i]? = some (x, j, a, c) → (srcsOf K)[i]? = some (srcB K a) → ((topFns.map fun t => srcN t.2.1) ++ methFns.map fun t => srcIn accBody t.1)[i]? = some (srcN j) → FnOk V x j a c := fun x j a c i e e1 e2 => by
    obtain ⟨h1, h2⟩ := Bool.and_eq_true_iff.mp (all_at S.top i e)
    exact ⟨glm_of hV X G x _ (of_decide_eq_true h1), fnAt_B XV h2 (Option.some.inj (by rw [← e1, ← e2, y]))⟩
  refine ⟨glb _ _ 0 rfl (by kernel_rfl) (by decide), glb _ _ 1 rfl (by kernel_rfl) (by decide), glb _ _ 2 rfl (by kernel_rfl) (by decide), glb _ _ 3 rfl (by kernel_rfl) (by decide), glb _ _ 4 rfl (by kernel_rfl) (by decide), glb _ _ 5 rfl (by kernel_rfl) (by decide), glb _ _ 6 rfl (by kernel_rfl) (by decide), glb _ _ 7 rfl (by kernel_rfl) (by decide), glb _ _ 8 rfl (by kernel_rfl) (by decide), glb _ _ 9 rfl (by kernel_rfl) (by decide), glb _ _ 10 rfl (by kernel_rfl) (by decide), glb _ _ 11 rfl (by kernel_rfl) (by decide), glb _ _ 12 rfl (by kernel_rfl) (by decide), ?_,
    fn _ _ _ _ 0 rfl rfl rfl, fn _ _ _ _ 1 rfl rfl rfl, fn _ _ _ _ 2 rfl rfl rfl, fn _ _ _ _ 3 rfl rfl rfl, fn _ _ _ _ 4 rfl rfl rfl, fn _ _ _ _ 5 rfl rfl rfl, fn _ _ _ _ 6 rfl rfl rfl, fn _ _ _ _ 7 rfl rfl rfl, fn _ _ _ _ 8 rfl rfl rfl, fn _ _ _ _ 9 rfl rfl rfl, fn _ _ _ _ 10 rfl rfl rfl, fn _ _ _ _ 11 rfl rfl rfl, fn _ _ _ _ 12 rfl rfl rfl, fn _ _ _ _ 13 rfl rfl rfl, ?_⟩
  · obtain ⟨p, hp, e⟩ := opt_B S.lim
    obtain ⟨v, hv, hp⟩ := Option.bind_eq_some_iff.mp hp
    have e := of_decide_eq_true e
    rw [intTok_eq hp, e] at hv
    exact ⟨_, glm_of hV X G _ _ (Option.join_eq_some_iff.mp hv)⟩
  · obtain ⟨o, ho, e⟩ := look_B S.main
    rw [hV]
    exact bmain_of (X _ _ ho) (isTy_eq e) ht bm
theorem accAll_of {K : Frag} (hV : V = ⟨w, hideAll h' tabAddrs, mg, mb⟩) (X : K.In h') (XV : K.In V.h0) (G : h'.Ns mainGlobals mg) (B : ∀ x : Str, x ≠ "__name__" → mb x = bootBuiltins x) (S : Seen h K) (y : srcsOf K = (topFns.map fun t => srcN t.2.1) ++ methFns.map fun t => srcIn accBody t.1) : AccAll V := by
  have glb : ∀ (x : Str) (v : Value) (i : Nat), bltNames[i]? = some x → bootBuiltins x = some v → x ≠ "__name__" → Gl V x v := fun x v i e e2 e3 => glb_of hV X G B x v (of_decide_eq_true (all_at S.blt i e)) e2 e3
  have fn : ∀ (x q : Str) (a c : Addr) (cl : List (Str × Addr)) (dV : Value) (i : Nat), methFns[i]? = some (x, a, c, cl, dV) → (("_Accumulator." : Str) ++ x) = q → (srcsOf K)[14 + i]? = some (srcB K a) → ((topFns.map fun t => srcN t.2.1) ++ methFns.map fun t => srcIn accBody t.1)[14 + i]? = some (srcIn accBody x) → FnAt V.h0 (srcIn accBody x) x q a c cl dV := fun x q a c cl dV i e hq e1 e2 => by
    have h2 := all_at S.meth i e
    exact fnAt_B XV (hq ▸ h2) (Option.some.inj (by rw [← e1, ← e2, y]))
  have lk : ∀ (n : Str) (v : Option Value) (i : Nat), ownNames[i]? = some (n, v) → Looks (model prog V.w) V.h0 (typeLookup (.ref accCls) n) v := fun n v i e => looks_findIn XV (of_decide_eq_true (all_at S.own i e))
  obtain ⟨oc, od, cd, sl, hc, c1, c2, c3, c4, c5⟩ := cls_B S.cls
  have hmd := made_of (M := model prog V.w) XV (C := accCls) hc c4 c5
  have ft : ∀ (f : Addr) (x q : Str) (c : Addr) (cl : List (Str × Addr)) (dV : Value) (sr : Option (Arguments × List Stmt × Scope)), FnAt V.h0 sr x q f c cl dV → Looks (model prog V.w) V.h0 (typeOf (.ref f)) (.type "function") := fun f x q c cl dV sr F => by
    obtain ⟨fd, ho, _⟩ := F.obj
    exact (show Looks (model prog V.w) V.h0 (typeOf (.ref f)) ({ cls := .type "function", data := .func fd } : Obj).cls from (Looks.ld ho).andThen .now)
  have fpush := fn "push" "_Accumulator.push" _ _ _ _ 0 rfl (by decide) rfl rfl
  have fpop := fn "pop_from" "_Accumulator.pop_from" _ _ _ _ 1 rfl (by decide) rfl rfl
  have flen := fn "__len__" "_Accumulator.__len__" _ _ _ _ 2 rfl (by decide) rfl rfl
  have fstr := fn "__str__" "_Accumulator.__str__" _ _ _ _ 3 rfl (by decide) rfl rfl
  have fcnt := fn "part_count" "_Accumulator.part_count" _ _ _ _ 4 rfl (by decide) rfl rfl
  have fini := fn "__init__" "_Accumulator.__init__" _ _ _ _ 5 rfl (by decide) rfl rfl
  refine ⟨⟨fun n id h => ?_, fun n f h => ?_, looks_subIn XV S.sl, lk _ _ 11 rfl, lk _ _ 12 rfl, fun f h => ?_⟩, ⟨fpush, fpop, tup_B XV S.t46, flen, fstr⟩, anyM_none XV S.seq, ⟨lk _ _ 13 rfl, lk _ _ 14 rfl, looks_subIn XV S.so, c4 ▸ (looks_clsIn XV (C := accCls) (by unfold clsIn; rw [hc])).andThen .now, ⟨_, cd, XV _ _ hc, rfl, c3⟩⟩,
    ⟨glb _ _ 13 rfl (by kernel_rfl) (by decide), fcnt, fini, tup_B XV S.t30, cell_B XV S.cell, fun c hc => ?_, looks_opaque XV S.opq, looks_subIn XV S.ss⟩, ⟨⟨oc, od, cd, sl, XV _ _ hc, c1, c2, by rw [c4]; rfl⟩, hmd.1, hmd.2, looks_specialIn XV S.call, looks_instIn XV S.typ⟩, glm_of hV X G _ _ S.acc, ?_, glb _ _ 14 rfl (by kernel_rfl) (by decide)⟩
  · simp only [List.mem_cons, List.not_mem_nil, or_false, Prod.mk.injEq] at h
    rcases h with ⟨rfl, rfl⟩ | ⟨rfl, rfl⟩ | ⟨rfl, rfl⟩ | ⟨rfl, rfl⟩ | ⟨rfl, rfl⟩
    · exact lk _ _ 0 rfl
    · exact lk _ _ 1 rfl
    · exact lk _ _ 2 rfl
    · exact lk _ _ 3 rfl
    · exact lk _ _ 4 rfl
  · simp only [List.mem_cons, List.not_mem_nil, or_false, Prod.mk.injEq] at h
    rcases h with ⟨rfl, rfl⟩ | ⟨rfl, rfl⟩ | ⟨rfl, rfl⟩ | ⟨rfl, rfl⟩ | ⟨rfl, rfl⟩ | ⟨rfl, rfl⟩
    · exact lk _ _ 5 rfl
    · exact lk _ _ 6 rfl
    · exact lk _ _ 7 rfl
    · exact lk _ _ 8 rfl
    · exact lk _ _ 9 rfl
    · exact lk _ _ 10 rfl
  · simp only [List.mem_cons, List.not_mem_nil, or_false] at h
    rcases h with rfl | rfl | rfl | rfl | rfl | rfl
    · exact ft _ _ _ _ _ _ _ fini
    · exact ft _ _ _ _ _ _ _ fpush
    · exact ft _ _ _ _ _ _ _ fpop
    · exact ft _ _ _ _ _ _ _ flen
    · exact ft _ _ _ _ _ _ _ fstr
    · exact ft _ _ _ _ _ _ _ fcnt
  · simp only [List.mem_cons, List.not_mem_nil, or_false] at hc
    rcases hc with rfl | rfl
    · exact file_B XV S.f37
    · exact file_B XV S.f96
  · obtain ⟨p, hp, e⟩ := opt_B S.emp
    obtain ⟨v, hv, hp⟩ := Option.bind_eq_some_iff.mp hp
    have e := of_decide_eq_true e
    rw [strTok_eq hp, e] at hv
    exact ⟨_, glm_of hV X G _ _ (Option.join_eq_some_iff.mp hv)⟩
end
end
end Mine
open PySem PySem.Calls PySem.W PySem.W.X PyProof.Rows
set_option maxHeartbeats 0 in
theorem PySem.Challenge.cw_wz0006_01_holds : PySem.Challenge.rw_wz0006_01.Holds := by
  refine holds_law (by kernel_rfl) fun said => ?_
  refine holds_openX (q := Mine.view) (loose := ["_Accumulator"]) (Xt := fun s => xlAt Mine.view [] s && recOk [] s) (XP := XL Mine.view []) (Yf := Mine.lookF) (Ya := Mine.lookA) (N := 2216) Mine.left (fun s e => xl_of s (Bool.and_eq_true_iff.mp e).1) XL.keeps (by rfl) (by rfl) (by rfl) (fun s e => recFacts_of (Bool.and_eq_true_iff.mp e).2) (by rfl) said (by decide +kernel) ⟨rfl, rfl, rfl, rfl, rfl, by decide +kernel⟩ ?hw ?hc
  case hw => w_witness2
  case hc =>
    intro w s₀ s₁ mg mb G y fa o pm cd doc dV kV ho hd hcd hD hmg hg args vals as L hpre hlay hrd hwl hlo
    refine Ground.open G ?_
    intro T B D TE TW
    wrow_args hpre hlay hrd hwl hlo
    clear hD hcd hd ho
    rename IntsAre _ _ => hI
    rename Heap.IsList _ _ _ => hL
    rename (¬ _ < _) => h63
    have hobj := script_obj L hL
    have S := Mine.seen_of (congrArg (·.1) y)
    have hsrc : Mine.srcsOf (Mine.KF s₀.heap) = _ := congrArg (·.2.1) y
    have X := (Mine.KA_In s₀.heap Mine.liveAddrs).keeps L.keeps
    have ht := Mine.tabs_of S L.keeps
    have hT := Mine.tabs2_of ht
    obtain ⟨V, hV⟩ : ∃ V : Mine.Wo, V = ⟨w, hideAll s₁.heap Mine.tabAddrs, mg, mb⟩ := ⟨_, rfl⟩
    have XV : (Mine.KF s₀.heap).In V.h0 := by rw [hV]; exact Mine.KF_hide L.keeps
    have hok : V.Ok := by rw [hV]; exact Mine.wo_ok T.g T.b T.nolimit
    have gi : Mine.GI V s₁ := by rw [hV] at hok ⊢; exact Mine.gi_of hok hg ht
    have FX := Mine.facts_of hV X XV T.g T.builtins S hsrc hT T.bmain
    have FY := Mine.accAll_of hV X XV T.g T.builtins S hsrc
    have hfa : fa = 195 := by
      have e := mg_of X T.g (of_decide_eq_true (Bool.and_eq_true_iff.mp (Mine.all_at S.top 13 rfl)).1)
      exact Value.ref.inj (Option.some.inj (hmg.symm.trans e))
    subst hfa
    have hVw : V.w = w := by rw [hV]
    have hcl := Mine.law_cl (k := 0) FX FY _ (show List.length _ < 1000 by omega) callerA s₁ [.ref _] ⟨rfl, by decide, by decide⟩ gi ⟨_, _, rfl, ⟨_, _, _, rfl, hobj, Mine.its_of_ints hI⟩, rfl⟩
    unfold Mine.Gv at hcl
    rw [hVw] at hcl
    refine wpAny_mono hcl (fun v s' h => ?_) fun _ _ h => h.elim
    obtain ⟨o1, hv, _⟩ := h
    cases hv
    refine ⟨.inl ⟨_, _, [], rfl, fun _ => rfl, ReadsW.bool true, ?_, fun _ => ⟨List.nodup_nil, fun _ hm => (by cases hm)⟩⟩, Mine.oldK_of o1 hT, o1.os, o1.gi.bare⟩
    first | rfl | wrow_post
