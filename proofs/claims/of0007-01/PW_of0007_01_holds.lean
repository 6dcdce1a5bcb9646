import PyProof.Rows.All
import Wide.All
import OpenK.AllK
import Wide.FinOn
import Lean
import PySem.Challenge.RW_of0007_01
set_option Elab.async false
set_option compiler.extract_closed false

/- HD1 -/
section
open PySem PySem.W PyProof.Rows
set_option Elab.async false
set_option maxRecDepth 100000
set_option maxHeartbeats 2000000
namespace Mine
open_top hd for PySem.Challenge.rw_of0007_01
end Mine
end
namespace Mine

/- MD -/
theorem offMD : True := by
  w_top off
  exact trivial
section
open PySem PySem.W PyProof.Rows PySem.SeqAt
set_option Elab.async false
set_option maxRecDepth 100000
theorem bindD {α β : Type} {M : Model} {A : Around} {m : Sem α} {f : α → Sem β} {Q : β → Shared → Prop} {E : Value → Shared → Prop} {s : Shared} {P : (α → Shared → Prop) → Prop}
    (hm : ∀ Q' : α → Shared → Prop, P Q' → wpAny M A m Q' E s) (h : P (fun v s' => wpAny M A (f v) Q E s')) : wpAny M A (m >>= f) Q E s := wpAny_bind (hm _ h)
theorem hideG {G : Prop} (h : ∀ G' : Prop, (G → G') → G') : G := h G id
theorem hideQE {α : Type} {M : Model} {A : Around} {m : Sem α} {Q : α → Shared → Prop} {E : Value → Shared → Prop} {s : Shared}
    (h : ∀ (K : α → Shared → Prop) (E' : Value → Shared → Prop), (∀ v s', Q v s' → K v s') → (∀ v s', E v s' → E' v s') → wpAny M A m K E' s) : wpAny M A m Q E s := h Q E (fun _ _ h => h) fun _ _ h => h
theorem hideQ {α : Type} {M : Model} {A : Around} {m : Sem α} {Q : α → Shared → Prop} {E : Value → Shared → Prop} {s : Shared}
    (h : ∀ (K : α → Shared → Prop), (∀ v s', Q v s' → K v s') → wpAny M A m K E s) : wpAny M A m Q E s := h Q fun _ _ h => h
noncomputable def Run (K : Flow → Shared → Prop) : Flow → Shared → Prop := K
noncomputable def Nx (K : Flow → Shared → Prop) (P : Shared → Prop) : Prop := ∀ s', P s' → Run K .next s'
noncomputable def Ox (K : Flow → Shared → Prop) (Q : Flow → Shared → Prop) : Prop := ∀ fl s', fl ≠ .next → Q fl s' → Run K fl s'
theorem Nx.go {K : Flow → Shared → Prop} {P : Shared → Prop} {s : Shared} (h : Nx K P) (hp : P s) : Run K .next s := h s hp
theorem Ox.go {K Q : Flow → Shared → Prop} {fl : Flow} {s : Shared} (h : Ox K Q) (hn : fl ≠ .next) (hq : Q fl s) : Run K fl s := h fl s hn hq
theorem execsH {M : Model} {A : Around} {st : Stmt} {rest : List Stmt} {env : Env} {Q : Flow → Shared → Prop} {E : Value → Shared → Prop} {s : Shared}
    (h : ∀ K, Nx K (fun s' => wpAny M A (execs rest env) Q E s') → Ox K Q → wpAny M A (exec st env) (Run K) E s) : wpAny M A (execs (st :: rest) env) Q E s :=
  wpAny_execs_cons (h _ (fun _ h => h) (fun fl s' hn hq => by cases fl <;> first | exact hq | exact absurd rfl hn))
theorem callN {M : Model} {A : Around} {E : Value → Shared → Prop} {s : Shared} {env : Env} {x : Str} {p pos : Pos} {args : List PySem.Expr} {Q : Value → Shared → Prop}
    (h : wpAny M A (eval (.Name x p) env) (fun f s₁ => wpAny M A (callWith pos f [] (backTo pos (starEach args env)) []) Q E s₁) E s) : wpAny M A (eval (.Call (.Name x p) args [] pos) env) Q E s := Call_ h
theorem guardLC {M : Model} {A : Around} {E : Value → Shared → Prop} {s : Shared} {env : Env} {x : Str} {p pos : Pos} {e i : PySem.Expr} {c : List PySem.Expr} {a : Int} {sc : Scope} {Q : Value → Shared → Prop}
    (h : wpAny M A (eval (.ListComp e [⟨.Name x p, i, c, a⟩] sc pos) env) Q E s) : wpAny M A (eval (.ListComp e [⟨.Name x p, i, c, a⟩] sc pos) env) Q E s := h
end

/- MA -/
theorem offMA : True := by
  w_top off
  exact trivial
section
open PySem PySem.W PyProof.Rows PySem.SeqAt
set_option Elab.async false
set_option maxRecDepth 100000
/- small steps of room and size: in the place of omega, whose proofs are large -/
theorem rm0 {a b L : Nat} (h : a + b < L) : a < L := Nat.lt_of_le_of_lt (Nat.le_add_right a b) h
theorem rm1 {a b L k : Nat} (h : a + b < L) (e : Nat.ble k b = true) : a + k < L := Nat.lt_of_le_of_lt (Nat.add_le_add_left (Nat.le_of_ble_eq_true e) a) h
theorem rm2 {a b L k l : Nat} (h : a + b < L) (e : Nat.ble (k + l) b = true) : a + k + l < L := Nat.add_assoc a k l ▸ rm1 h e
theorem rm3 {a b L k l m : Nat} (h : a + b < L) (e : Nat.ble (k + l + m) b = true) : a + k + l + m < L := by
  rw [Nat.add_assoc, Nat.add_assoc, ← Nat.add_assoc k]; exact rm1 h e
theorem rmd {a b L k u : Nat} (h : a + u + b < L) (e : Nat.ble k b = true) : a + k + u < L := Nat.add_right_comm a k u ▸ rm1 h e
theorem rmd1 {a b L k u l : Nat} (h : a + u + b < L) (e : Nat.ble (k + l) b = true) : a + k + u + l < L := Nat.add_right_comm a k u ▸ rm2 h e
theorem rmm {a b L k m d l : Nat} (h : a + m * (k + 1) + b < L) (e : Nat.ble (d + l) (m + b) = true) : a + d + m * k + l < L :=
  rmd1 (b := m + b) (by rw [← Nat.add_assoc, Nat.add_assoc a]; exact h) e
theorem rm00 {a b u L : Nat} (h : a + u + b < L) : a < L := rm0 (rm0 h)
theorem lek {a k l : Nat} (h : a ≤ k) (e : Nat.ble k l = true) : a ≤ l := Nat.le_trans h (Nat.le_of_ble_eq_true e)
theorem lel {a k l : Nat} (h : a < k) (e : Nat.ble k (l + 1) = true) : a ≤ l := Nat.le_of_lt_succ (Nat.lt_of_lt_of_le h (Nat.le_of_ble_eq_true e))
theorem ltk {a k l : Nat} (h : a ≤ k) (e : Nat.ble (k + 1) l = true) : a < l := Nat.lt_of_le_of_lt h (Nat.le_of_ble_eq_true e)
theorem ltl {a k l : Nat} (h : a < k) (e : Nat.ble k l = true) : a < l := Nat.lt_of_lt_of_le h (Nat.le_of_ble_eq_true e)
theorem eqk {a b k l : Nat} (q : a = b) (h : b ≤ k) (e : Nat.ble k l = true) : a ≤ l := lek (q ▸ h) e
theorem eql {a b k l : Nat} (q : a = b) (h : b < k) (e : Nat.ble k (l + 1) = true) : a ≤ l := lel (q ▸ h) e
theorem pwk {a k m : Nat} (h : a < k) (e : Nat.ble k (2 ^ m) = true) : a < 2 ^ m := ltl h e
theorem lts {a b k l : Nat} (h : a < b) (h' : b ≤ k) (e : Nat.ble (k + 1) (l + 1) = true) : a < l := Nat.lt_of_lt_of_le h (Nat.le_trans h' (Nat.le_of_ble_eq_true e))
theorem ile {a b : Nat} {K : Int} (h : a ≤ b) (e : decide ((b : Int) < K) = true) : (a : Int) < K := Int.lt_of_le_of_lt (Int.ofNat_le.mpr h) (of_decide_eq_true e)
theorem ilt {a b : Nat} {K : Int} (h : a < b) (e : decide ((b : Int) ≤ K) = true) : (a : Int) < K := Int.lt_of_lt_of_le (Int.ofNat_lt.mpr h) (of_decide_eq_true e)
theorem ill {a b c : Nat} {K : Int} (h : a < b) (h' : b ≤ c) (e : decide ((c : Int) ≤ K) = true) : (a : Int) < K := ilt (Nat.lt_of_lt_of_le h h') e
theorem eqlt {a b j : Nat} (q : a = b) (h : j < b) : j < a := q ▸ h
theorem eqlt' {a b j : Nat} (q : a = b) (h : j < a) : j < b := q ▸ h
theorem subs {a i k : Nat} (h : a - i = k + 1) : a - (i + 1) = k := congrArg Nat.pred h
theorem subl {a i k : Nat} (h : a - i = k + 1) : i < a := Nat.lt_of_sub_pos (h ▸ Nat.succ_pos k)
theorem subz {a i : Nat} (h : a - i = 0) : a ≤ i := Nat.le_of_sub_eq_zero h
theorem decr {n i : Nat} (h : i < n) : n + 1 - (i + 1) < n + 1 - i := Nat.sub_succ_lt_self _ _ (Nat.lt_succ_of_lt h)
theorem eqn {n i : Nat} (h : i ≤ n) (h' : ¬ i < n) : i = n := Nat.le_antisymm h (Nat.le_of_not_lt h')
theorem mul64 {c d i j : Nat} (hi : i < 64) (h : c < d) : c * 64 + i < d * 64 + j :=
  Nat.lt_of_lt_of_le (Nat.add_lt_add_left hi _) (Nat.le_trans (Nat.succ_mul c 64 ▸ Nat.mul_le_mul_right 64 h) (Nat.le_add_right _ _))
theorem mul64i {c d i j : Nat} (hi : i < 64) (hj : j < 64) (h : ¬ c = d) : c < d ↔ c * 64 + i < d * 64 + j :=
  ⟨mul64 hi, fun q => (Nat.lt_or_gt_of_ne h).resolve_right fun g => Nat.lt_asymm q (mul64 hj g)⟩
theorem div64 {c i : Nat} (hi : i < 64) : (c * 64 + i) / 64 = c := by rw [Nat.mul_comm, Nat.mul_add_div (by decide), Nat.div_eq_of_lt hi, Nat.add_zero]
theorem mod64 {c i : Nat} (hi : i < 64) : (c * 64 + i) % 64 = i := by rw [Nat.mul_comm, Nat.mul_add_mod, Nat.mod_eq_of_lt hi]
theorem eq64 {c d i j : Nat} (hi : i < 64) (hj : j < 64) (h : c * 64 + i = d * 64 + j) : i = j := (mod64 hi).symm.trans ((congrArg (· % 64) h).trans (mod64 hj))
theorem cs1 {j : Nat} (h : j ≤ 1) : j = 0 ∨ j = 1 := match j, h with | 0, _ => .inl rfl | 1, _ => .inr rfl | _ + 2, h => absurd h (by simp)
theorem cs2 {j : Nat} (h : j ≤ 2) : j = 0 ∨ j = 1 ∨ j = 2 := (Nat.lt_or_eq_of_le h).elim (fun h => (cs1 (Nat.le_of_lt_succ h)).imp id .inl) fun h => .inr (.inr h)
theorem cs3 {j : Nat} (h : j ≤ 3) : j = 0 ∨ j = 1 ∨ j = 2 ∨ j = 3 := (Nat.lt_or_eq_of_le h).elim (fun h => (cs2 (Nat.le_of_lt_succ h)).imp id (Or.imp id .inl)) fun h => .inr (.inr (.inr h))
theorem toN (i : Nat) : (0 + (i : Int) * 1).toNat = i := by rw [Int.mul_one, Int.zero_add]; rfl
theorem casl {a b : Nat} : ((a : Int) < b ↔ a < b) := Int.ofNat_lt
theorem leg {a b : Nat} : ((a : Int) ≤ b ↔ b ≥ a) := Int.ofNat_le
theorem ltg {a b : Nat} : ((a : Int) < b ↔ b > a) := Int.ofNat_lt
theorem nz {i : Nat} : (0 : Int) ≤ 0 + (i : Int) * 1 := by rw [Int.mul_one, Int.zero_add]; exact Int.natCast_nonneg i
theorem ze (i : Nat) : 0 + (i : Int) * 1 = i := by rw [Int.mul_one, Int.zero_add]
theorem len1 {a b j : Nat} (h : a = b) (h' : b < j) : a + 1 ≤ j := h ▸ h'
theorem mn6 {n k : Nat} : min n k ≤ n := Nat.min_le_left n k
theorem addl {a b c : Nat} (h : a ≤ b + c) : a ≤ b + (c + 1) := Nat.le_succ_of_le h
theorem addm {a b c : Nat} (h : a ≤ b + (0 + 1) + c) : a ≤ b + (c + 1) := by rw [Nat.zero_add, Nat.add_right_comm] at h; exact h
theorem eqlk {a b k l : Nat} (q : a = b) (h : b ≤ k) (e : Nat.ble (k + 1) l = true) : a < l := ltk (q ▸ h) e
theorem eqll {a b k l : Nat} (q : a = b) (h : b < k) (e : Nat.ble k l = true) : a < l := ltl (q ▸ h) e
theorem lels {a b k l : Nat} (h : a < b) (h' : b ≤ k) (e : Nat.ble k (l + 1) = true) : a ≤ l := lel (Nat.lt_of_lt_of_le h h') e
theorem ilel {a b : Nat} {K : Int} (h : a < b) (e : decide ((b : Int) ≤ K) = true) : (a : Int) ≤ K := Int.le_of_lt (ilt h e)
theorem tn {n : Nat} {k : Int} (h : k.toNat < n) : k < n := (Int.toNat_lt' (Nat.zero_lt_of_lt h)).mp h
theorem tnk {n m : Nat} {k K : Int} (h : k.toNat < n) (h' : n ≤ m) (e : decide ((m : Int) ≤ K) = true) : k < K := Int.lt_of_lt_of_le (tn (Nat.lt_of_lt_of_le h h')) (of_decide_eq_true e)
theorem nm1 (k j : Nat) : k + 1 - 1 - (j + 1) = k - 1 - j := by rw [Nat.add_sub_cancel, Nat.add_comm j 1, Nat.sub_add_eq]
theorem u24 (a : Nat) : a + 1 + 1 ≤ a + 4 := Nat.add_le_add_left (Nat.le_of_ble_eq_true rfl : 2 ≤ 4) a
theorem div1 {n b : Nat} (h : n < b + b) (h' : b ≤ n) : n / b = 1 := Nat.div_eq_of_lt_le (by rw [Nat.one_mul]; exact h') (by rw [Nat.succ_mul, Nat.one_mul]; exact h)
theorem tnadd {p : Nat} {place : Int} (h : (p : Int) ≤ place) : place.toNat = (place - p).toNat + p := (congrArg Int.toNat (Int.sub_add_cancel place p).symm).trans (Int.toNat_add_nat (Int.sub_nonneg_of_le h) p)
theorem mn3 : ∀ k : Nat, k < 7 → 3 ≤ min (if (k : Int) > 3 then (k : Int) else 3).toNat (k + (0 + 1 + 1 + 1)) ∧ min (if (k : Int) > 3 then (k : Int) else 3).toNat (k + (0 + 1 + 1 + 1)) ≤ 6 := by decide
theorem mn4 : ∀ i : Nat, i < 6 → 1 ≤ (if (i : Int) + 1 < 4 then (i : Int) + 1 else 4) ∧ (if (i : Int) + 1 < 4 then (i : Int) + 1 else 4) ≤ 4 ∧ (if (i : Int) + 1 < 4 then (i : Int) + 1 else 4) ≤ (i : Int) + 1 ∧
    1 ≤ (if (i : Int) + 1 < 4 then (i : Int) + 1 else 4) * (if (i : Int) + 1 < 4 then (i : Int) + 1 else 4) ∧ (if (i : Int) + 1 < 4 then (i : Int) + 1 else 4) * (if (i : Int) + 1 < 4 then (i : Int) + 1 else 4) ≤ 16 := by decide
theorem pi11 : ∀ i : Nat, i < 12 → (11 : Int) + (i : Int) * -1 = ((12 - 1 - i : Nat) : Int) := by decide
theorem sub12 (i : Nat) : 12 - 1 - i < 12 := Nat.lt_of_le_of_lt (Nat.sub_le _ _) (Nat.le_of_ble_eq_true rfl)
theorem sz77 {y i j n : Nat} (hn : n ≤ 7) (hi : i < n) (hj : j < i + 1) (hy : y ≤ 7 * i + j) : y ≤ 16777216 :=
  have h7 : i ≤ 7 := Nat.le_of_lt (Nat.lt_of_lt_of_le hi hn)
  Nat.le_trans hy (Nat.le_trans (Nat.add_le_add (Nat.mul_le_mul_left 7 h7) (Nat.le_trans (Nat.le_of_lt_succ hj) h7)) (Nat.le_of_ble_eq_true rfl))
theorem sz7 {y i n : Nat} (hn : n ≤ 7) (hi : i < n) (hy : y ≤ 7 * i + (i + 1)) : y ≤ 7 * (i + 1) := Nat.le_trans hy (Nat.add_le_add_left (Nat.le_trans hi hn) (7 * i))
theorem chain3 {y i n k l : Nat} (hy : y ≤ i) (hi : i < n) (hn : n ≤ k) (e : Nat.ble k l = true) : y ≤ l := lek (Nat.le_trans hy (Nat.le_of_lt (Nat.lt_of_lt_of_le hi hn))) e
theorem rmt {a a' b c d L : Nat} (h : a' ≤ a + c) (h2 : a + b < L) (e : Nat.ble (c + d) b = true) : a' + d < L := Nat.lt_of_le_of_lt (Nat.add_le_add_right h d) (rm2 h2 e)
theorem emod2 (n : Nat) : ((n : Int) % 2 = 1 ↔ n % 2 = 1) := ⟨fun h => Int.ofNat.inj h, fun h => congrArg Int.ofNat h⟩
theorem neg1 (n : Nat) : (-1 + ((n : Int) + 1)).toNat = n := by rw [Int.add_comm (n : Int) 1, Int.neg_add_cancel_left]; rfl
theorem castn {k : Int} {n : Nat} (h0 : 0 ≤ k) (h : k < (n : Int)) : k.toNat < n := (Int.toNat_lt h0).mpr h
end

/- NA -/
theorem offNA : True := by
  w_top off
  exact trivial
section
open PySem PySem.W PyProof.Rows PySem.SeqAt
set_option Elab.async false
set_option maxRecDepth 100000
set_option maxHeartbeats 2000000
open AutoSeq1 (wpAny_loadPart')
open MeetsSeq MeetsSeq2 MeetsSeq3 SeqRoads2

noncomputable def OpAt (A : Around) (s : Shared) (op : CmpOp) (y x : Value) (b : Bool) : Prop :=
  ∀ (prog : Program) (w : World) (E : Value → Shared → Prop) (Q : Value → Shared → Prop), Q (.bool b) s → wpAny (model prog w) A (richCompare op y x) Q E s

noncomputable def szB (op : CmpOp) (m n : Nat) : Bool := match op with
  | .Lt => decide (m < n) | .LtE => decide (m ≤ n) | .Gt => decide (m > n) | _ => decide (m ≥ n)

noncomputable def OrdOut (op : CmpOp) (e q : Nat → Bool) (n n2 i : Nat) (r : Bool) : Prop :=
  (∃ j, i ≤ j ∧ j < n ∧ j < n2 ∧ (∀ k, i ≤ k → k < j → e k = true) ∧ e j = false ∧ r = q j) ∨
  ((∀ k, i ≤ k → k < n → k < n2 → e k = true) ∧ r = szB op n n2)

noncomputable def opCode (op : CmpOp) : Int := match op with
  | .Lt => 0 | .LtE => 1 | .Gt => 4 | _ => 5

noncomputable def isOrd (op : CmpOp) : Prop := op = .Lt ∨ op = .LtE ∨ op = .Gt ∨ op = .GtE

theorem opLook {op : CmpOp} (l : List CmpOp) (h0 : l[0]? = some .Lt) (h1 : l[1]? = some .LtE) (h4 : l[4]? = some .Gt) (h5 : l[5]? = some .GtE) (ho : isOrd op) : l[(opCode op).toNat]? = some op := by
  rcases ho with rfl | rfl | rfl | rfl <;> assumption

theorem ord_loopAt (op : CmpOp) (ho : isOrd op) (l b : Addr) (items items2 : Array Value) (n n2 : Nat) (dd dd2 : Option Addr) (sl sl2 : Array (Option Value)) (e q : Nat → Bool) (r : Bool) (k : Nat) :
    ∀ i : Nat, items.size - i = k → Meets (Builtin.«list.__eq__.loop» ⟨[.ref l, .ref b, rawInt i, rawInt (opCode op)], []⟩)
      (fun A R s => s.heap.get? l = some { cls := .type "list", dict := dd, data := .seq items n, slots := sl } ∧ s.heap.get? b = some { cls := .type "list", dict := dd2, data := .seq items2 n2, slots := sl2 } ∧
        (∀ j (h1 : j < items.size) (h2 : j < items2.size), EqAt A.in1 s items[j] items2[j] (e j)) ∧
        (∀ j (h1 : j < items.size) (h2 : j < items2.size), OpAt A.in1 s op items[j] items2[j] (q j)) ∧
        OrdOut op e q items.size items2.size i r ∧
        R (.ok (.ret (.bool r))) s) := by
  induction k with
  | zero =>
    intro i hk prog w A R s h
    obtain ⟨hp, g, d, tk, os⟩ := s; obtain ⟨hl, hb, he, hq, hr, h⟩ := h
    have hr' : r = szB op items.size items2.size := by
      rcases hr with ⟨j, h1, h2, h3, _⟩ | ⟨_, h2⟩
      · exact absurd (Nat.lt_of_le_of_lt h1 h2) (Nat.not_lt_of_le (subz hk))
      · exact h2
    subst hr'
    wp_walk
    generalize hX : ((_ : List CmpOp)[(opCode op).toNat]?) = X
    obtain rfl : X = some op := hX.symm.trans (opLook _ rfl rfl rfl rfl ho)
    clear hX
    wp_walk using wpAny_loadPart' hl, wpAny_loadPart' hb
    have hi1 : items[((i : Nat) : Int).toNat]? = none := by simp; exact subz hk
    rw [hi1]
    wp_walk using wpAny_loadPart' hl, wpAny_loadPart' hb
    clear hq he hr hl hb hi1
    rcases ho with rfl | rfl | rfl | rfl <;> exact h
  | succ k ih =>
    intro i hk prog w A R s h
    obtain ⟨hp, g, d, tk, os⟩ := s; obtain ⟨hl, hb, he, hq, hr, h⟩ := h
    have hlt : i < items.size := by exact subl (by assumption)
    have hi1 : items[((i : Nat) : Int).toNat]? = some items[i] := by simp [hlt]
    have hc : ((i : Int) + 1) = ((i + 1 : Nat) : Int) := by push_cast; rfl
    by_cases hlt2 : i < items2.size
    · have hi2 : items2[((i : Nat) : Int).toNat]? = some items2[i] := by simp [hlt2]
      cases hb' : e i with
      | true =>
        have hr2 : OrdOut op e q items.size items2.size (i + 1) r := by
          rcases hr with ⟨j, h1, h2, h3, h4, h5, h6⟩ | ⟨h1, h2⟩
          · refine .inl ⟨j, ?_, h2, h3, fun m h7 h8 => h4 m (by exact Nat.le_of_lt (by assumption)) h8, h5, h6⟩
            rcases Nat.lt_or_ge i j with hh | hh
            · exact hh
            · have : j = i := by exact Nat.le_antisymm (by assumption) (by assumption)
              subst this; rw [hb'] at h5; cases h5
          · exact .inr ⟨fun m h7 => h1 m (by exact Nat.le_of_lt (by assumption)), h2⟩
        have := ih (i + 1) (by exact subs (by assumption)) prog w A R ⟨hp, g, d, tk, os⟩ ⟨hl, hb, he, hq, hr2, h⟩
        wp_walk
        generalize hX : ((_ : List CmpOp)[(opCode op).toNat]?) = X
        obtain rfl : X = some op := hX.symm.trans (opLook _ rfl rfl rfl rfl ho)
        clear hX
        wp_walk using wpAny_loadPart' hl, wpAny_loadPart' hb
        rw [hi1, hi2]
        refine wpAny_bind (he i hlt hlt2 prog w _ _ ?_)
        rw [hb']
        wp_walk
        rw [hc]
        exact ⟨plainId_quiet plain_eq_loop _, codeAny_builtin entry_eq_loop (by
          rw [Around.under_plainId plain_eq_loop _]
          exact this)⟩
      | false =>
        have hr2 : r = q i := by
          rcases hr with ⟨j, h1, h2, h3, h4, h5, h6⟩ | ⟨h1, h2⟩
          · rcases Nat.lt_or_ge i j with hh | hh
            · rw [h4 i (Nat.le_refl _) hh] at hb'; cases hb'
            · have : j = i := by exact Nat.le_antisymm (by assumption) (by assumption)
              subst this; exact h6
          · rw [h1 i (Nat.le_refl _) hlt hlt2] at hb'; cases hb'
        subst hr2
        wp_walk
        generalize hX : ((_ : List CmpOp)[(opCode op).toNat]?) = X
        obtain rfl : X = some op := hX.symm.trans (opLook _ rfl rfl rfl rfl ho)
        clear hX
        wp_walk using wpAny_loadPart' hl, wpAny_loadPart' hb
        rw [hi1, hi2]
        refine wpAny_bind (he i hlt hlt2 prog w _ _ ?_)
        rw [hb']
        wp_walk using wpAny_loadPart' hl, wpAny_loadPart' hb
        rw [hi1, hi2]
        have z := hq i hlt hlt2 prog w
        clear hq he hr hl hb ih
        rcases ho with rfl | rfl | rfl | rfl
        all_goals
          refine wpAny_bind (z _ _ ?_)
          wp_walk
          exact h
    · have hi2 : items2[((i : Nat) : Int).toNat]? = none := by simp; exact Nat.le_of_not_lt (by assumption)
      have hr' : r = szB op items.size items2.size := by
        rcases hr with ⟨j, h1, h2, h3, _⟩ | ⟨_, h2⟩
        · exact absurd (Nat.lt_of_le_of_lt h1 h3) (by assumption)
        · exact h2
      subst hr'
      wp_walk
      generalize hX : ((_ : List CmpOp)[(opCode op).toNat]?) = X
      obtain rfl : X = some op := hX.symm.trans (opLook _ rfl rfl rfl rfl ho)
      clear hX
      wp_walk using wpAny_loadPart' hl, wpAny_loadPart' hb
      rw [hi1, hi2]
      wp_walk using wpAny_loadPart' hl, wpAny_loadPart' hb
      clear hq he hr hl hb ih hi1 hi2
      rcases ho with rfl | rfl | rfl | rfl <;> exact h
end

/- NB -/
theorem offNB : True := by
  w_top off
  exact trivial
section
open PySem PySem.W PyProof.Rows PySem.SeqAt
set_option Elab.async false
set_option maxRecDepth 100000
set_option maxHeartbeats 2000000
open AutoSeq1 (wpAny_loadPart')
open MeetsSeq MeetsSeq2 MeetsSeq3 SeqRoads2

noncomputable def OrdSpec (op : CmpOp) (l b : Addr) (items items2 : Array Value) (n n2 : Nat) (dd dd2 : Option Addr) (sl sl2 : Array (Option Value)) (e q : Nat → Bool) (r : Bool) : Around → (Result → Shared → Prop) → Shared → Prop :=
  fun A R s => s.heap.get? l = some { cls := .type "list", dict := dd, data := .seq items n, slots := sl } ∧ s.heap.get? b = some { cls := .type "list", dict := dd2, data := .seq items2 n2, slots := sl2 } ∧
        (∀ j (h1 : j < items.size) (h2 : j < items2.size), EqAt A.in1 s items[j] items2[j] (e j)) ∧
        (∀ j (h1 : j < items.size) (h2 : j < items2.size), OpAt A.in1 s op items[j] items2[j] (q j)) ∧
        OrdOut op e q items.size items2.size 0 r ∧
        R (.ok (.ret (.bool r))) s

theorem list_ltAt (l b : Addr) (items items2 : Array Value) (n n2 : Nat) (dd dd2 : Option Addr) (sl sl2 : Array (Option Value)) (e q : Nat → Bool) (r : Bool) :
    Meets (Builtin.«list.__lt__» ⟨[.ref l, .ref b], []⟩) (OrdSpec .Lt l b items items2 n n2 dd dd2 sl sl2 e q r) := by
  intro prog w A R s h
  have := ord_loopAt .Lt (.inl rfl) l b items items2 n n2 dd dd2 sl sl2 e q r _ 0 rfl prog w A R s h
  obtain ⟨hp, g, d, tk, os⟩ := s; obtain ⟨hl, hb, he, hq, hr, h⟩ := h
  have f3 := AutoSeq1.sub_list_list
  wp_walk using wpAny_loadPart' hl, wpAny_loadPart' hb
  exact ⟨plainId_quiet plain_eq_loop _, codeAny_builtin entry_eq_loop (by
    rw [Around.under_plainId plain_eq_loop _]
    exact this)⟩
theorem list_leAt (l b : Addr) (items items2 : Array Value) (n n2 : Nat) (dd dd2 : Option Addr) (sl sl2 : Array (Option Value)) (e q : Nat → Bool) (r : Bool) :
    Meets (Builtin.«list.__le__» ⟨[.ref l, .ref b], []⟩) (OrdSpec .LtE l b items items2 n n2 dd dd2 sl sl2 e q r) := by
  intro prog w A R s h
  have := ord_loopAt .LtE (.inr (.inl rfl)) l b items items2 n n2 dd dd2 sl sl2 e q r _ 0 rfl prog w A R s h
  obtain ⟨hp, g, d, tk, os⟩ := s; obtain ⟨hl, hb, he, hq, hr, h⟩ := h
  have f3 := AutoSeq1.sub_list_list
  wp_walk using wpAny_loadPart' hl, wpAny_loadPart' hb
  exact ⟨plainId_quiet plain_eq_loop _, codeAny_builtin entry_eq_loop (by
    rw [Around.under_plainId plain_eq_loop _]
    exact this)⟩
theorem list_gtAt (l b : Addr) (items items2 : Array Value) (n n2 : Nat) (dd dd2 : Option Addr) (sl sl2 : Array (Option Value)) (e q : Nat → Bool) (r : Bool) :
    Meets (Builtin.«list.__gt__» ⟨[.ref l, .ref b], []⟩) (OrdSpec .Gt l b items items2 n n2 dd dd2 sl sl2 e q r) := by
  intro prog w A R s h
  have := ord_loopAt .Gt (.inr (.inr (.inl rfl))) l b items items2 n n2 dd dd2 sl sl2 e q r _ 0 rfl prog w A R s h
  obtain ⟨hp, g, d, tk, os⟩ := s; obtain ⟨hl, hb, he, hq, hr, h⟩ := h
  have f3 := AutoSeq1.sub_list_list
  wp_walk using wpAny_loadPart' hl, wpAny_loadPart' hb
  exact ⟨plainId_quiet plain_eq_loop _, codeAny_builtin entry_eq_loop (by
    rw [Around.under_plainId plain_eq_loop _]
    exact this)⟩
theorem list_geAt (l b : Addr) (items items2 : Array Value) (n n2 : Nat) (dd dd2 : Option Addr) (sl sl2 : Array (Option Value)) (e q : Nat → Bool) (r : Bool) :
    Meets (Builtin.«list.__ge__» ⟨[.ref l, .ref b], []⟩) (OrdSpec .GtE l b items items2 n n2 dd dd2 sl sl2 e q r) := by
  intro prog w A R s h
  have := ord_loopAt .GtE (.inr (.inr (.inr rfl))) l b items items2 n n2 dd dd2 sl sl2 e q r _ 0 rfl prog w A R s h
  obtain ⟨hp, g, d, tk, os⟩ := s; obtain ⟨hl, hb, he, hq, hr, h⟩ := h
  have f3 := AutoSeq1.sub_list_list
  wp_walk using wpAny_loadPart' hl, wpAny_loadPart' hb
  exact ⟨plainId_quiet plain_eq_loop _, codeAny_builtin entry_eq_loop (by
    rw [Around.under_plainId plain_eq_loop _]
    exact this)⟩

noncomputable def opId (op : CmpOp) : String := match op with
  | .Lt => "list.__lt__" | .LtE => "list.__le__" | .Gt => "list.__gt__" | _ => "list.__ge__"

section
variable {A : Around} {s : Shared}
theorem call_ordAt {op : CmpOp} (ho : isOrd op) {l b : Addr} {items items2 : Array Value} {e q : Nat → Bool} {r : Bool} (hl : s.heap.IsList l items) (hb : s.heap.IsList b items2)
    (he : ∀ j (h1 : j < items.size) (h2 : j < items2.size), EqAt A.in1 s items[j] items2[j] (e j))
    (hq : ∀ j (h1 : j < items.size) (h2 : j < items2.size), OpAt A.in1 s op items[j] items2[j] (q j)) (hr : OrdOut op e q items.size items2.size 0 r)
    {prog : Program} {w : World} {E Q : Value → Shared → Prop} (h : Q (.bool r) s) : wpAny (model prog w) A (call (.builtin (opId op)) [.ref l, .ref b]) Q E s := by
  obtain ⟨⟨cls, dd, data, sl⟩, hol, hc, n, hd⟩ := id hl
  obtain ⟨⟨cls2, dd2, data2, sl2⟩, ho2, hc2, n2, hd2⟩ := id hb
  simp only at hc hd hc2 hd2
  subst hc hd hc2 hd2
  rcases ho with rfl | rfl | rfl | rfl
  · exact call_meets F.slot_list_lt ⟨_, hol, rfl⟩ F.entry_list_lt (F.args_list_lt_2 _ _) (list_ltAt l b items items2 n n2 dd dd2 sl sl2 e q r) ⟨hol, ho2, he, hq, hr, h⟩
  · exact call_meets F.slot_list_le ⟨_, hol, rfl⟩ F.entry_list_le (F.args_list_le_2 _ _) (list_leAt l b items items2 n n2 dd dd2 sl sl2 e q r) ⟨hol, ho2, he, hq, hr, h⟩
  · exact call_meets F.slot_list_gt ⟨_, hol, rfl⟩ F.entry_list_gt (F.args_list_gt_2 _ _) (list_gtAt l b items items2 n n2 dd dd2 sl sl2 e q r) ⟨hol, ho2, he, hq, hr, h⟩
  · exact call_meets F.slot_list_ge ⟨_, hol, rfl⟩ F.entry_list_ge (F.args_list_ge_2 _ _) (list_geAt l b items items2 n n2 dd dd2 sl sl2 e q r) ⟨hol, ho2, he, hq, hr, h⟩

theorem OpAt.lists {op : CmpOp} (ho : isOrd op) {l b : Addr} {items items2 : Array Value} {e q : Nat → Bool} {r : Bool} (hl : s.heap.IsList l items) (hb : s.heap.IsList b items2) (hu : A.units < cLine)
    (he : ∀ j (h1 : j < items.size) (h2 : j < items2.size), EqAt A.in1 s items[j] items2[j] (e j))
    (hq : ∀ j (h1 : j < items.size) (h2 : j < items2.size), OpAt A.in1 s op items[j] items2[j] (q j)) (hr : OrdOut op e q items.size items2.size 0 r) :
    OpAt A s op (.ref l) (.ref b) r := fun prog w E Q h => by
  obtain ⟨⟨cls, dd, data, sl⟩, hol, hc, n, hd⟩ := id hl
  obtain ⟨⟨cls2, dd2, data2, sl2⟩, ho2, hc2, n2, hd2⟩ := id hb
  simp only at hc hd hc2 hd2
  subst hc hd hc2 hd2
  have nn : Value.bool r ≠ Value.notImplemented ∧ Q (.bool r) s := ⟨(fun x => nomatch x), h⟩
  rcases ho with rfl | rfl | rfl | rfl
  · exact richCompare_meets_room (op := .Lt) ⟨_, hol, rfl⟩ ⟨_, ho2, rfl⟩ F.slot_list_lt F.entry_list_lt (F.args_list_lt_2 _ _) (list_ltAt l b items items2 n n2 dd dd2 sl sl2 e q r) ⟨hol, ho2, he, hq, hr, nn⟩ hu
  · exact richCompare_meets_room (op := .LtE) ⟨_, hol, rfl⟩ ⟨_, ho2, rfl⟩ F.slot_list_le F.entry_list_le (F.args_list_le_2 _ _) (list_leAt l b items items2 n n2 dd dd2 sl sl2 e q r) ⟨hol, ho2, he, hq, hr, nn⟩ hu
  · exact richCompare_meets_room (op := .Gt) ⟨_, hol, rfl⟩ ⟨_, ho2, rfl⟩ F.slot_list_gt F.entry_list_gt (F.args_list_gt_2 _ _) (list_gtAt l b items items2 n n2 dd dd2 sl sl2 e q r) ⟨hol, ho2, he, hq, hr, nn⟩ hu
  · exact richCompare_meets_room (op := .GtE) ⟨_, hol, rfl⟩ ⟨_, ho2, rfl⟩ F.slot_list_ge F.entry_list_ge (F.args_list_ge_2 _ _) (list_geAt l b items items2 n n2 dd dd2 sl sl2 e q r) ⟨hol, ho2, he, hq, hr, nn⟩ hu
end
end

/- NC -/
theorem offNC : True := by
  w_top off
  exact trivial
section
open PySem PySem.W PyProof.Rows PySem.SeqAt
set_option Elab.async false
set_option maxRecDepth 100000
set_option maxHeartbeats 2000000

noncomputable def bitsD : Nat → Nat → List Nat
  | 0, _ => []
  | k + 1, n => if n.testBit k then k :: bitsD k n else bitsD k n

theorem bitsD_lt : ∀ {k n p : Nat}, p ∈ bitsD k n → p < k ∧ n.testBit p = true
  | 0, _, _, h => by cases h
  | k + 1, n, p, h => by
    unfold bitsD at h
    split at h
    · rcases List.mem_cons.mp h with rfl | h
      · exact ⟨Nat.lt_succ_self _, by assumption⟩
      · have := bitsD_lt h; exact ⟨Nat.lt_succ_of_lt this.1, this.2⟩
    · have := bitsD_lt h; exact ⟨Nat.lt_succ_of_lt this.1, this.2⟩

theorem bitsD_of {k n p : Nat} (hp : p < k) (ht : n.testBit p = true) : p ∈ bitsD k n := by
  induction k with
  | zero => exact absurd hp (Nat.not_lt_zero p)
  | succ k ih =>
    unfold bitsD
    by_cases h : p = k
    · subst h; rw [if_pos ht]; exact .head _
    · have := ih (Nat.lt_of_le_of_ne (Nat.le_of_lt_succ hp) h)
      split
      · exact .tail _ this
      · exact this

theorem bitsD_congr {k : Nat} : ∀ {n m : Nat}, (∀ p, p < k → n.testBit p = m.testBit p) → bitsD k n = bitsD k m := by
  induction k with
  | zero => intros; rfl
  | succ k ih =>
    intro n m h
    unfold bitsD
    rw [h k (Nat.lt_succ_self _), ih fun p hp => h p (Nat.lt_succ_of_lt hp)]

theorem bitsD_mod (k n : Nat) : bitsD k (n % 2 ^ k) = bitsD k n :=
  bitsD_congr fun p hp => by rw [Nat.testBit_mod_two_pow]; simp [hp]

noncomputable def lx (op : CmpOp) : List Nat → List Nat → Bool
  | x :: xs, y :: ys => if x = y then lx op xs ys else szB op x y
  | xs, ys => szB op xs.length ys.length

theorem szB_gt {op : CmpOp} {a b c d : Nat} (h : a > b) (h' : c > d) : szB op a b = szB op c d := by
  cases op <;> simp [szB] <;> omega
theorem szB_lt {op : CmpOp} {a b c d : Nat} (h : a < b) (h' : c < d) : szB op a b = szB op c d := by
  cases op <;> simp [szB] <;> omega
theorem szB_add {op : CmpOp} {a b c : Nat} : szB op (c + a) (c + b) = szB op a b := by
  cases op <;> simp [szB] <;> omega

theorem lx_big {op : CmpOp} {k c d : Nat} (hc : d < c) (l : List Nat) (n : Nat) : lx op (k :: l) (bitsD k n) = szB op c d := by
  cases hb : bitsD k n with
  | nil => exact szB_gt (by simp) hc
  | cons y ys =>
    have := (bitsD_lt (k := k) (n := n) (p := y) (by rw [hb]; exact .head _)).1
    show (if k = y then _ else szB op k y) = _
    rw [if_neg (by omega)]
    exact szB_gt this hc
theorem lx_small {op : CmpOp} {k c d : Nat} (hc : c < d) (l : List Nat) (n : Nat) : lx op (bitsD k n) (k :: l) = szB op c d := by
  cases hb : bitsD k n with
  | nil => exact szB_lt (by simp) hc
  | cons y ys =>
    have := (bitsD_lt (k := k) (n := n) (p := y) (by rw [hb]; exact .head _)).1
    show (if y = k then _ else szB op y k) = _
    rw [if_neg (by omega)]
    exact szB_lt this hc

theorem top_bit {k n : Nat} (hn : n < 2 ^ (k + 1)) : (n.testBit k = true ∧ n = 2 ^ k + n % 2 ^ k) ∨ (n.testBit k = false ∧ n < 2 ^ k) := by
  rcases Nat.lt_or_ge n (2 ^ k) with h | h
  · exact .inr ⟨Nat.testBit_lt_two_pow h, h⟩
  · have h0 : 0 < 2 ^ k := Nat.two_pow_pos k
    rw [Nat.pow_succ, Nat.mul_two] at hn
    have h1 : n - 2 ^ k < 2 ^ k := Nat.sub_lt_left_of_lt_add h hn
    have hm : n % 2 ^ k = n - 2 ^ k := by rw [Nat.mod_eq_sub_mod h, Nat.mod_eq_of_lt h1]
    refine .inl ⟨?_, ?_⟩
    · rw [Nat.testBit_eq_decide_div_mod_eq, show n / 2 ^ k = 1 from Nat.div_eq_of_lt_le (by rw [Nat.one_mul]; exact h) (by rw [show 1 + 1 = 2 from rfl, Nat.two_mul]; exact hn)]; rfl
    · rw [hm]; exact (Nat.add_sub_cancel' h).symm
theorem lx_bits (op : CmpOp) : ∀ (k c d : Nat), c < 2 ^ k → d < 2 ^ k → lx op (bitsD k c) (bitsD k d) = szB op c d
  | 0, c, d, hc, hd => by
    cases Nat.lt_one_iff.mp hc; cases Nat.lt_one_iff.mp hd
    rfl
  | k + 1, c, d, hc, hd => by
    have hm : ∀ n, n % 2 ^ k < 2 ^ k := fun n => Nat.mod_lt _ (Nat.two_pow_pos k)
    have le : ∀ n, n = 2 ^ k + n % 2 ^ k → 2 ^ k ≤ n := fun n e => e ▸ Nat.le_add_right _ _
    rcases top_bit hc with ⟨tc, ec⟩ | ⟨tc, ec⟩ <;> rcases top_bit hd with ⟨td, ed⟩ | ⟨td, ed⟩
    · rw [bitsD, bitsD, if_pos tc, if_pos td]
      show (if k = k then lx op (bitsD k c) (bitsD k d) else _) = _
      rw [if_pos rfl, ← bitsD_mod k c, ← bitsD_mod k d, lx_bits op k _ _ (hm c) (hm d)]
      conv => rhs; rw [ec, ed]
      rw [szB_add]
    · rw [bitsD, bitsD, if_pos tc, if_neg (Bool.eq_false_iff.mp td)]
      exact lx_big (Nat.lt_of_lt_of_le ed (le c ec)) _ _
    · rw [bitsD, bitsD, if_neg (Bool.eq_false_iff.mp tc), if_pos td]
      exact lx_small (Nat.lt_of_lt_of_le ec (le d ed)) _ _
    · rw [bitsD, bitsD, if_neg (Bool.eq_false_iff.mp tc), if_neg (Bool.eq_false_iff.mp td)]
      exact lx_bits op k c d ec ed

theorem lx_self (op : CmpOp) : ∀ l : List Nat, lx op l l = szB op 0 0
  | [] => rfl
  | x :: l => by
    show (if x = x then lx op l l else _) = _
    rw [if_pos rfl, lx_self op l]

theorem bits_inj {k c d : Nat} (hc : c < 2 ^ k) (hd : d < 2 ^ k) (h : bitsD k c = bitsD k d) : c = d := by
  have h1 := lx_bits .Lt k c d hc hd
  have h2 := lx_bits .Gt k c d hc hd
  rw [h, lx_self] at h1 h2
  simp [szB] at h1 h2
  exact Nat.le_antisymm (by assumption) (by assumption)

theorem lx_nil {op : CmpOp} {l : List Nat} : lx op l [] = szB op l.length 0 := by cases l <;> rfl
theorem nil_lx {op : CmpOp} {l : List Nat} : lx op [] l = szB op 0 l.length := by cases l <;> rfl
theorem szB_left {op : CmpOp} {a b : Nat} (h : a ≤ b) : szB op 0 (b - a) = szB op a b := by
  have : szB op (a + 0) (a + (b - a)) = szB op 0 (b - a) := szB_add
  rw [← this, Nat.add_sub_cancel' h]; rfl
theorem szB_right {op : CmpOp} {a b : Nat} (h : b ≤ a) : szB op (a - b) 0 = szB op a b := by
  have : szB op (b + (a - b)) (b + 0) = szB op (a - b) 0 := szB_add
  rw [← this, Nat.add_sub_cancel' h]; rfl
theorem ordOut_lx (op : CmpOp) (cs ds : List Nat) (e q : Nat → Bool)
    (he : ∀ j x y, cs[j]? = some x → ds[j]? = some y → e j = decide (x = y)) (hq : ∀ j x y, cs[j]? = some x → ds[j]? = some y → q j = szB op x y) :
    ∀ (k i : Nat), i + k = cs.length → i ≤ ds.length → OrdOut op e q cs.length ds.length i (lx op (cs.drop i) (ds.drop i)) := by
  intro k
  induction k with
  | zero =>
    intro i hk h2
    cases hk
    refine .inr ⟨fun k h3 h4 _ => absurd h3 (Nat.not_le_of_lt h4), ?_⟩
    rw [List.drop_length, nil_lx, List.length_drop]
    exact szB_left h2
  | succ k ih =>
    intro i hk h2
    have hlt : i < cs.length := hk ▸ Nat.lt_add_of_pos_right (Nat.succ_pos k)
    by_cases hlt2 : i < ds.length
    · have e1 : cs[i]? = some cs[i] := List.getElem?_eq_getElem hlt
      have e2 : ds[i]? = some ds[i] := List.getElem?_eq_getElem hlt2
      rw [List.drop_eq_getElem_cons hlt, List.drop_eq_getElem_cons hlt2]
      show OrdOut op e q cs.length ds.length i (if cs[i] = ds[i] then lx op (cs.drop (i + 1)) (ds.drop (i + 1)) else szB op cs[i] ds[i])
      have hei := he i _ _ e1 e2
      have hqi := hq i _ _ e1 e2
      clear he hq e1 e2
      by_cases hx : cs[i] = ds[i]
      · rw [if_pos hx]
        rw [decide_eq_true hx] at hei
        have ext : ∀ m, i ≤ m → (i + 1 ≤ m → e m = true) → e m = true := fun m b1 f => (Nat.eq_or_lt_of_le b1).elim (fun h => h ▸ hei) f
        rcases ih (i + 1) ((Nat.add_right_comm i 1 k).trans hk) hlt2 with ⟨j, a1, a2, a3, a4, a5, a6⟩ | ⟨a1, a2⟩
        · exact .inl ⟨j, Nat.le_of_succ_le a1, a2, a3, fun m b1 b2 => ext m b1 fun h => a4 m h b2, a5, a6⟩
        · exact .inr ⟨fun m b1 b2 b3 => ext m b1 fun h => a1 m h b2 b3, a2⟩
      · rw [if_neg hx]
        exact .inl ⟨i, Nat.le_refl _, hlt, hlt2, fun m b1 b2 => absurd b1 (Nat.not_le_of_lt b2), hei.trans (decide_eq_false hx), hqi.symm⟩
    · cases Nat.le_antisymm h2 (Nat.le_of_not_lt hlt2)
      refine .inr ⟨fun k h3 _ h5 => absurd h3 (Nat.not_le_of_lt h5), ?_⟩
      rw [List.drop_length, lx_nil, List.length_drop]
      exact szB_right (Nat.le_of_lt hlt)

inductive Nst (h : Heap) : Value → Nat → Prop
  | mk {a : Addr} {vs : Array Value} {c : Nat} : h.IsList a vs → vs.size = (bitsD 12 c).length →
      (∀ (i : Nat) (x : Value) (p : Nat), vs[i]? = some x → (bitsD 12 c)[i]? = some p → Nst h x p) → Nst h (.ref a) c

theorem Nst.keeps {h h' : Heap} (hk : ∀ b o, h.get? b = some o → h'.get? b = some o) {v : Value} {c : Nat} (n : Nst h v c) : Nst h' v c := by
  induction n with
  | mk hl hs _ ih => exact .mk (let ⟨o, ho, r⟩ := hl; ⟨o, hk _ _ ho, r⟩) hs ih

theorem isList_uniq {h : Heap} {a : Addr} {vs us : Array Value} (h1 : h.IsList a vs) (h2 : h.IsList a us) : vs = us := by
  obtain ⟨o, ho, _, n, hd⟩ := h1
  obtain ⟨o', ho', _, n', hd'⟩ := h2
  rw [ho] at ho'; cases ho'; rw [hd] at hd'; injection hd'

theorem lt12 {c p : Nat} {i : Nat} (h : (bitsD 12 c)[i]? = some p) : p < 12 := (bitsD_lt (List.mem_of_getElem? h)).1

theorem small12 {p : Nat} (h : p < 12) : p < 2 ^ 12 := Nat.lt_trans h (by decide)
theorem Nst.uniq {h : Heap} {v : Value} {c : Nat} (n : Nst h v c) : ∀ {d : Nat}, c < 2 ^ 12 → d < 2 ^ 12 → Nst h v d → c = d := by
  induction n with
  | @mk a vs c hl hs _ ih =>
    intro d hc hd n'
    obtain ⟨hl', hs', hm⟩ := n'
    cases isList_uniq hl hl'
    refine bits_inj hc hd (List.ext_getElem? fun i => ?_)
    by_cases hi : i < vs.size
    · have h1 : (bitsD 12 c)[i]? = some ((bitsD 12 c)[i]'(hs ▸ hi)) := List.getElem?_eq_getElem _
      have h2 : (bitsD 12 d)[i]? = some ((bitsD 12 d)[i]'(hs' ▸ hi)) := List.getElem?_eq_getElem _
      have h3 : vs[i]? = some vs[i] := Array.getElem?_eq_getElem hi
      rw [h1, h2, ih i _ _ h3 h1 (small12 (lt12 h1)) (small12 (lt12 h2)) (hm i _ _ h3 h2)]
    · rw [List.getElem?_eq_none (hs ▸ Nat.le_of_not_lt hi), List.getElem?_eq_none (hs' ▸ Nat.le_of_not_lt hi)]

noncomputable def tw : Nat → Nat
  | 0 => 1
  | k + 1 => 2 ^ tw k

theorem tw_mem' {k c p : Nat} (hc : c < tw (k + 1)) (h : p ∈ bitsD 12 c) : p < tw k := by
  have ht := (bitsD_lt h).2
  rcases Nat.lt_or_ge p (tw k) with h' | h'
  · exact h'
  · rw [Nat.testBit_lt_two_pow (Nat.lt_of_lt_of_le hc (Nat.pow_le_pow_right Nat.two_pos h'))] at ht; cases ht

theorem tw_mem {k c i p : Nat} (hc : c < tw (k + 1)) (h : (bitsD 12 c)[i]? = some p) : p < tw k := tw_mem' hc (List.mem_of_getElem? h)
theorem bits0 {c : Nat} (h : c < tw 0) : bitsD 12 c = [] := by
  cases Nat.lt_one_iff.mp h
  rfl
theorem a_in1 (u k : Nat) : u + 1 + k = u + (k + 1) := (Nat.add_assoc u 1 k).trans (congrArg (u + ·) (Nat.add_comm 1 k))
theorem cmp_step {s : Shared} {A : Around} {c d : Nat} {v w : Value} (hc : c < 2 ^ 12) (hd : d < 2 ^ 12) (n₁ : Nst s.heap v c) (n₂ : Nst s.heap w d) (hu : A.units < cLine)
    (mem : ∀ x y a b, x < 2 ^ 12 → y < 2 ^ 12 → x ∈ bitsD 12 c → Nst s.heap a x → Nst s.heap b y → EqAt A.in1 s a b (decide (x = y)) ∧ ∀ op, isOrd op → OpAt A.in1 s op a b (szB op x y)) :
    EqAt A s v w (decide (c = d)) ∧ ∀ op, isOrd op → OpAt A s op v w (szB op c d) := by
  have un : v = w → c = d := fun e => n₁.uniq hc hd (e ▸ n₂)
  obtain ⟨hl, hs, hm⟩ := n₁
  rename_i a vs
  obtain ⟨hl', hs', hm'⟩ := n₂
  rename_i b us
  have at1 : ∀ j (h1 : j < vs.size), (bitsD 12 c)[j]? = some ((bitsD 12 c)[j]'(hs ▸ h1)) := fun j h1 => List.getElem?_eq_getElem _
  have at2 : ∀ j (h2 : j < us.size), (bitsD 12 d)[j]? = some ((bitsD 12 d)[j]'(hs' ▸ h2)) := fun j h2 => List.getElem?_eq_getElem _
  have mem' : ∀ j (h1 : j < vs.size) (h2 : j < us.size), EqAt A.in1 s vs[j] us[j] (decide ((bitsD 12 c)[j]? = (bitsD 12 d)[j]?)) ∧
      ∀ op, isOrd op → OpAt A.in1 s op vs[j] us[j] (szB op ((bitsD 12 c)[j]?.getD 0) ((bitsD 12 d)[j]?.getD 0)) := by
    intro j h1 h2
    have := mem _ _ _ _ (small12 (lt12 (at1 j h1))) (small12 (lt12 (at2 j h2))) (List.mem_of_getElem? (at1 j h1)) (hm j _ _ (Array.getElem?_eq_getElem h1) (at1 j h1)) (hm' j _ _ (Array.getElem?_eq_getElem h2) (at2 j h2))
    rw [at1 j h1, at2 j h2]
    exact ⟨by simpa using this.1, this.2⟩
  clear mem hm hm' at1 at2
  refine ⟨?_, fun op ho => ?_⟩
  · by_cases hab : a = b
    · cases hab
      cases un rfl
      rw [decide_eq_true rfl]
      exact EqAt.same _
    · refine EqAt.of_refs hab ?_
      by_cases hsz : vs.size = us.size
      · have := RcAt.lists (A := A) (s := s) hl hl' hsz hu fun j h1 h2 => (mem' j h1 h2).1
        have e : ((List.range vs.size).all fun j => decide ((bitsD 12 c)[j]? = (bitsD 12 d)[j]?)) = decide (c = d) := by
          clear this mem' un hl hl'
          rw [Bool.eq_iff_iff, List.all_eq_true, decide_eq_true_iff]
          constructor
          · intro h
            refine bits_inj hc hd (List.ext_getElem? fun i => ?_)
            by_cases hi : i < vs.size
            · exact of_decide_eq_true (h i (List.mem_range.mpr hi))
            · rw [List.getElem?_eq_none (hs ▸ Nat.le_of_not_lt hi), List.getElem?_eq_none (hs' ▸ hsz ▸ Nat.le_of_not_lt hi)]
          · intro h j _; cases h; exact decide_eq_true rfl
        rwa [e] at this
      · have hd0 : c ≠ d := fun e => hsz (by rw [hs, hs', e])
        have := RcAt.lists_lengths (A := A) (s := s) hl hl' (by simpa using hsz) hu
        rwa [decide_eq_false hd0]
  · refine OpAt.lists (e := fun j => decide ((bitsD 12 c)[j]? = (bitsD 12 d)[j]?)) (q := fun j => szB op ((bitsD 12 c)[j]?.getD 0) ((bitsD 12 d)[j]?.getD 0)) ho hl hl' hu (fun j h1 h2 => (mem' j h1 h2).1) (fun j h1 h2 => (mem' j h1 h2).2 op ho) ?_
    have := ordOut_lx op (bitsD 12 c) (bitsD 12 d) (fun j => decide ((bitsD 12 c)[j]? = (bitsD 12 d)[j]?)) (fun j => szB op ((bitsD 12 c)[j]?.getD 0) ((bitsD 12 d)[j]?.getD 0))
      (fun j x y hx hy => by simp [hx, hy]) (fun j x y hx hy => by simp [hx, hy]) _ 0 (Nat.zero_add _) (Nat.zero_le _)
    rw [List.drop_zero, List.drop_zero, lx_bits op 12 c d hc hd] at this
    rw [hs, hs']; exact this

theorem cmpAt {s : Shared} : ∀ (k : Nat) {A : Around} {c d : Nat} {v w : Value}, c < tw k → c < 2 ^ 12 → d < 2 ^ 12 → Nst s.heap v c → Nst s.heap w d → A.units + k < cLine →
    EqAt A s v w (decide (c = d)) ∧ ∀ op, isOrd op → OpAt A s op v w (szB op c d)
  | 0, A, c, d, v, w, hk, hc, hd, n₁, n₂, hu => cmp_step hc hd n₁ n₂ hu fun x _ _ _ _ _ hx => by rw [bits0 hk] at hx; cases hx
  | k + 1, A, c, d, v, w, hk, hc, hd, n₁, n₂, hu => cmp_step hc hd n₁ n₂ (Nat.lt_of_le_of_lt (Nat.le_add_right _ _) hu) fun x y a b hx hy mx na nb =>
    cmpAt k (tw_mem' hk mx) hx hy na nb (Nat.lt_of_le_of_lt (Nat.le_of_eq (a_in1 A.units k)) hu)

theorem tw4 {c : Nat} (h : c < 2 ^ 12) : c < tw 4 := by
  exact Nat.lt_trans h (by decide)

section
variable {A : Around} {s : Shared} {v w : Value} {c d : Nat}
theorem Nst.eqAt (hc : c < 2 ^ 12) (hd : d < 2 ^ 12) (n₁ : Nst s.heap v c) (n₂ : Nst s.heap w d) (hu : A.units + 4 < cLine) : EqAt A s v w (decide (c = d)) := (cmpAt 4 (tw4 hc) hc hd n₁ n₂ hu).1
theorem Nst.opAt {op : CmpOp} (ho : isOrd op) (hc : c < 2 ^ 12) (hd : d < 2 ^ 12) (n₁ : Nst s.heap v c) (n₂ : Nst s.heap w d) (hu : A.units + 4 < cLine) : OpAt A s op v w (szB op c d) := (cmpAt 4 (tw4 hc) hc hd n₁ n₂ hu).2 op ho
end
end

/- ND -/
theorem offND : True := by
  w_top off
  exact trivial
section
open PySem PySem.W PyProof.Rows PySem.Spec PySem.Calls PySem.SeqAt
set_option Elab.async false
set_option maxRecDepth 100000
set_option maxHeartbeats 2000000
noncomputable abbrev loo : List Str := looseW Mine.hd.view_39 [Str.ofString "_initial_missing", Str.ofString "reduce"] ++ (recsOf Mine.hd.view_39).map (·.name) ++ (litsOf Mine.hd.view_39).map (·.1) ++ (clssOf Mine.hd.view_39 (looseW Mine.hd.view_39 [Str.ofString "_initial_missing", Str.ofString "reduce"])).map (·.name)

noncomputable def Has (h₀ : Heap) (news : List (Addr × Obj)) (h : Heap) : Prop := (∀ b o, h₀.get? b = some o → h.get? b = some o) ∧ ∀ p ∈ news, h.get? p.1 = some p.2
inductive NstK (h₀ : Heap) (news : List (Addr × Obj)) : Value → Nat → Prop
  | mk {a : Addr} {o : Obj} {vs : Array Value} {n c : Nat} : (∀ h, Has h₀ news h → h.get? a = some o) → o.cls = .type "list" → o.data = .seq vs n → vs.size = (bitsD 12 c).length → c < 2 ^ 12 →
      (∀ (i : Nat) (x : Value) (p : Nat), vs[i]? = some x → (bitsD 12 c)[i]? = some p → NstK h₀ news x p) → NstK h₀ news (.ref a) c
theorem NstK.lt {h₀ : Heap} {news : List (Addr × Obj)} {v : Value} {c : Nat} (n : NstK h₀ news v c) : c < 2 ^ 12 := by cases n; assumption
theorem Has.mono {h₀ h₁ : Heap} {news news' : List (Addr × Obj)} {h : Heap} (H : Has h₁ news' h) (hk : ∀ b o, h₀.get? b = some o → h₁.get? b = some o) (hs : ∀ p ∈ news, p ∈ news') : Has h₀ news h :=
  ⟨fun b o e => H.1 b o (hk b o e), fun p hp => H.2 p (hs p hp)⟩
theorem NstK.mono {h₀ h₁ : Heap} {news news' : List (Addr × Obj)} {v : Value} {c : Nat} (n : NstK h₀ news v c) (hk : ∀ b o, h₀.get? b = some o → h₁.get? b = some o) (hs : ∀ p ∈ news, p ∈ news') : NstK h₁ news' v c := by
  induction n with
  | mk h1 h2 h3 h4 h5 _ ih => exact .mk (fun h H => h1 h (H.mono hk hs)) h2 h3 h4 h5 ih
theorem NstK.at {h₀ h : Heap} {news : List (Addr × Obj)} {v : Value} {c : Nat} (n : NstK h₀ news v c) (H : Has h₀ news h) : Nst h v c := by
  induction n with
  | mk h1 h2 h3 h4 _ _ ih => exact .mk ⟨_, h1 h H, h2, _, h3⟩ h4 ih
theorem NstK.now {h₀ h : Heap} {L : Addr} {m : Str → Option Value} {news news' : List (Addr × Obj)} {v : Value} {c : Nat} (n : NstK h₀ news v c) (F : Fr h₀ L h m) (N : News h₀ L h news') (hs : ∀ p ∈ news, p ∈ news') : Nst h v c :=
  n.at ⟨F.keep, fun p hp => (N p (hs p hp)).1⟩
theorem nst_kit {h : Heap} {a : Addr} {c : Nat} (n : Nst h (.ref a) c) : KitAt a "list" h := by
  cases n with
  | mk hl _ _ => obtain ⟨o, ho, hc, _⟩ := hl; exact ⟨o, ho, hc⟩

theorem callOp {prog : Program} {w : World} {A : Around} {s : Shared} {op : CmpOp} (ho : isOrd op) {v u : Value} {c d : Nat} {E Q : Value → Shared → Prop} (hc : c < 2 ^ 12) (hd : d < 2 ^ 12) (n₁ : Nst s.heap v c) (n₂ : Nst s.heap u d) (hu : A.units + 5 < cLine) (h : Q (.bool (szB op c d)) s) :
    wpAny (model prog w) A (call (.builtin (opId op)) [v, u]) Q E s := by
  obtain ⟨hl, hs, hm⟩ := n₁
  rename_i a vs
  obtain ⟨hl', hs', hm'⟩ := n₂
  rename_i b us
  have mem : ∀ j (h1 : j < vs.size) (h2 : j < us.size) x y, (bitsD 12 c)[j]? = some x → (bitsD 12 d)[j]? = some y → EqAt A.in1 s vs[j] us[j] (decide (x = y)) ∧ OpAt A.in1 s op vs[j] us[j] (szB op x y) := by
    intro j h1 h2 x y hx hy
    have l1 := lt12 hx
    have l2 := lt12 hy
    have z := cmpAt (s := s) (A := A.in1) 4 (tw4 (c := x) (by exact lek (by assumption) (by exact rfl))) (by exact lek (by assumption) (by exact rfl)) (d := y) (by exact lek (by assumption) (by exact rfl)) (hm j vs[j] x (by simp [h1]) hx) (hm' j us[j] y (by simp [h2]) hy) (by show A.units + 1 + 4 < cLine; assumption)
    exact ⟨z.1, z.2 op ho⟩
  have bit : ∀ j (h1 : j < vs.size) (h2 : j < us.size), (bitsD 12 c)[j]? = some ((bitsD 12 c)[j]'(by exact eqlt' (by assumption) (by assumption))) ∧ (bitsD 12 d)[j]? = some ((bitsD 12 d)[j]'(by exact eqlt' (by assumption) (by assumption))) := fun j h1 h2 => ⟨List.getElem?_eq_getElem _, List.getElem?_eq_getElem _⟩
  refine call_ordAt (e := fun j => decide ((bitsD 12 c)[j]? = (bitsD 12 d)[j]?)) (q := fun j => szB op ((bitsD 12 c)[j]?.getD 0) ((bitsD 12 d)[j]?.getD 0)) (r := szB op c d) ho hl hl' ?_ ?_ ?_ h
  · intro j h1 h2
    have := (mem j h1 h2 _ _ (bit j h1 h2).1 (bit j h1 h2).2).1
    rw [(bit j h1 h2).1, (bit j h1 h2).2]; simpa using this
  · intro j h1 h2
    rw [(bit j h1 h2).1, (bit j h1 h2).2]
    exact (mem j h1 h2 _ _ (bit j h1 h2).1 (bit j h1 h2).2).2
  · have := ordOut_lx op (bitsD 12 c) (bitsD 12 d) (fun j => decide ((bitsD 12 c)[j]? = (bitsD 12 d)[j]?)) (fun j => szB op ((bitsD 12 c)[j]?.getD 0) ((bitsD 12 d)[j]?.getD 0))
      (fun j x y hx hy => by simp [hx, hy]) (fun j x y hx hy => by simp [hx, hy]) _ 0 (Nat.zero_add _) (Nat.zero_le _)
    rw [List.drop_zero, List.drop_zero, lx_bits op 12 c d hc hd] at this
    rw [hs, hs']; exact this

theorem rcEq {A : Around} {s : Shared} {v u : Value} {c d : Nat} (hc : c < 2 ^ 12) (hd : d < 2 ^ 12) (n₁ : Nst s.heap v c) (n₂ : Nst s.heap u d) (hu : A.units + 5 < cLine) : RcAt A s v u (decide (c = d)) := by
  obtain ⟨hl, hs, hm⟩ := n₁
  rename_i a vs
  obtain ⟨hl', hs', hm'⟩ := n₂
  rename_i b us
  have he : ∀ j (h1 : j < vs.size) (h2 : j < us.size), EqAt A.in1 s vs[j] us[j] (decide ((bitsD 12 c)[j]? = (bitsD 12 d)[j]?)) := by
    intro j h1 h2
    have e1 : (bitsD 12 c)[j]? = some ((bitsD 12 c)[j]'(by exact eqlt' (by assumption) (by assumption))) := List.getElem?_eq_getElem _
    have e2 : (bitsD 12 d)[j]? = some ((bitsD 12 d)[j]'(by exact eqlt' (by assumption) (by assumption))) := List.getElem?_eq_getElem _
    have l1 := lt12 e1
    have l2 := lt12 e2
    have := Nst.eqAt (A := A.in1) (by exact lek (by assumption) (by exact rfl)) (by exact lek (by assumption) (by exact rfl)) (hm j vs[j] _ (by simp [h1]) e1) (hm' j us[j] _ (by simp [h2]) e2) (by show A.units + 1 + 4 < cLine; assumption)
    rw [e1, e2]; simpa using this
  by_cases hsz : vs.size = us.size
  · have := RcAt.lists (A := A) (s := s) hl hl' hsz (by exact rm0 (by assumption)) he
    have e : ((List.range vs.size).all fun j => decide ((bitsD 12 c)[j]? = (bitsD 12 d)[j]?)) = decide (c = d) := by
      rw [Bool.eq_iff_iff, List.all_eq_true, decide_eq_true_iff]
      constructor
      · intro h
        refine bits_inj hc hd (List.ext_getElem? fun i => ?_)
        by_cases hi : i < vs.size
        · simpa using h i (List.mem_range.mpr hi)
        · rw [List.getElem?_eq_none (by omega), List.getElem?_eq_none (by omega)]
      · intro h j _; subst h; simp
    rwa [e] at this
  · have hd0 : c ≠ d := fun e => hsz (by rw [hs, hs', e])
    have := RcAt.lists_lengths (A := A) (s := s) hl hl' (by simpa using hsz) (by exact rm0 (by assumption))
    simpa [hd0] using this

theorem rcEqK {prog : Program} {w : World} {A : Around} {s : Shared} {v u : Value} {c d : Nat} {E Q : Value → Shared → Prop} {h₀ : Heap} {L : Addr} {m : Str → Option Value} {news news' : List (Addr × Obj)}
    (n₁ : NstK h₀ news v c) (n₂ : NstK h₀ news u d) (F : Fr h₀ L s.heap m) (N : News h₀ L s.heap news') (hs : ∀ p ∈ news, p ∈ news') (hu : A.units + 5 < cLine) (h : Q (.bool (decide (c = d))) s) :
    wpAny (model prog w) A (compareOp .Eq v u) Q E s := rcEq n₁.lt n₂.lt (n₁.now F N hs) (n₂.now F N hs) hu prog w E Q h

theorem callOpK {prog : Program} {w : World} {A : Around} {s : Shared} {op : CmpOp} (ho : isOrd op) {v u : Value} {c d : Nat} {E Q : Value → Shared → Prop} {h₀ : Heap} {L : Addr} {m : Str → Option Value} {news news' : List (Addr × Obj)}
    (n₁ : NstK h₀ news v c) (n₂ : NstK h₀ news u d) (F : Fr h₀ L s.heap m) (N : News h₀ L s.heap news') (hs : ∀ p ∈ news, p ∈ news') (hu : A.units + 5 < cLine) (h : Q (.bool (szB op c d)) s) :
    wpAny (model prog w) A (call (.builtin (opId op)) [v, u]) Q E s := callOp ho n₁.lt n₂.lt (n₁.now F N hs) (n₂.now F N hs) hu h
end

/- NDa -/
theorem offNDa : True := by
  w_top off
  exact trivial
section
open PySem PySem.W PyProof.Rows PySem.Spec PySem.Calls PySem.SeqAt
set_option Elab.async false
set_option maxRecDepth 100000
set_option maxHeartbeats 2000000
section
variable {prog : Program} {w : World} {A : Around} {s : Shared} {h₀ : Heap} {L : Addr} {m : Str → Option Value} {news : List (Addr × Obj)} {K : Frag}
  {R : Result → Shared → Prop} {name qual : Str} {params : Arguments} {body : List Stmt} {scope : Scope} {dV kV doc pm cdv ct oc : Value} {an od : Option Addr} {osl : Array (Option Value)} {f : Addr} {args : Args} {binds : List (Str × Value)}
  {p : Program} {loose : List Str} {mean : ExcName → Option Value} {mg mb : Str → Option Value}

theorem groundN (F : Fr h₀ L s.heap m) (N : News h₀ L s.heap news) :
    Fr h₀ L (hideAll s.heap (news.map (·.1))) m ∧ h₀.StaysIn (hideAll s.heap (news.map (·.1))) ∧
      ∀ v s', LeaveK h₀ L m (hideAll s.heap (news.map (·.1))) R v s' → R (.ok (.ret v)) s' := by
  have nm : ∀ b o, h₀.get? b = some o → b ∉ news.map (·.1) := fun b o e q => by
    obtain ⟨p, hp, rfl⟩ := List.mem_map.mp q
    rw [(N p hp).2.2] at e; cases e
  have st : h₀.StaysIn (hideAll s.heap (news.map (·.1))) := fun b o e => hideAll_get _ (F.keep b o e) (nm b o e)
  obtain ⟨oL, es, ep, hL, hLd, hLk, hLf⟩ := F.ns
  have nL : L ∉ news.map (·.1) := fun q => by
    obtain ⟨p, hp, e⟩ := List.mem_map.mp q
    exact (N p hp).2.1 e
  have hLg := hideAll_get (news.map (·.1)) hL nL
  refine ⟨⟨⟨oL, es, ep, hLg, hLd, hLk, hLf⟩, st, F.above⟩, st, fun v s' hl => ?_⟩
  obtain ⟨L', m', news', F', N', k⟩ := hl
  refine k ⟨⟨oL, es, ep, F'.keep L oL hLg, hLd, hLk, hLf⟩, fun b o e => F'.keep b o (st b o e), F.above⟩ fun p hp => ⟨(N' p hp).1, fun q => ?_, ?_⟩
  · have := (N' p hp).2.2; rw [q, hLg] at this; cases this
  · cases q : h₀.get? p.1 with
    | none => rfl
    | some o => have := (N' p hp).2.2; rw [st _ _ q] at this; cases this

theorem enterN (F : Fr h₀ L s.heap m) (X₀ : K.In h₀) (N : News h₀ L s.heap news) (T : Top p loose mean mg mb h₀)
    (ho : K.lookup f = some ⟨oc, od, .func (fnOf name qual params body scope dV kV doc pm an cdv ct), osl⟩) (hcd : codeIn K cdv qual = true) (hroom : A.depth < recursionLimit)
    (hbind : BindsTo s (fnOf name qual params body scope dV kV doc pm an cdv ct) args binds) (hloc : ∀ y ∈ binds, scope.names.lookup y.1 = some .local)
    (h : ∀ g L' h₁, Fr h₀ L g m → Fr g L' h₁ (fun y => binds.reverse.lookup y) → News g L' h₁ news → K.In g → Top p loose mean mg mb g → (∀ p ∈ news, p.1 < L') →
      wpAny (model prog w) (A.deeper (envOf qual scope L' f cdv)) (execs body (envOf qual scope L' f cdv))
        (fun fl s' => LeaveK h₀ L m g R (match fl with | .ret v => v | _ => .none) s')
        (fun e s' => wpAny (model prog w) (A.deeper (envOf qual scope L' f cdv)) (leaving (envOf qual scope L' f cdv) e) (fun _ s'' => R (.error e) s'') (fun e' s'' => R (.error e') s'') s')
        { s with heap := h₁, toks := s.toks + binds.length })
    (hco : scope.isCoroutine = false) (hgen : scope.isGenerator = false) (hk : scope.kind = .function)
    (hcell : ∀ x ∈ scope.names, x.2 ≠ .cell) : codeAny (model prog w) A (.call (.ref f) args) R s := by
  obtain ⟨FG, st, lv⟩ := groundN (R := R) F N
  refine codeAny_call_def (fd := fnX name qual params body scope [] dV kV doc pm an cdv ct) (body := body) (binds := binds) hroom ((X₀.keeps F.keep) _ _ ho) rfl (T.nolimit.keeps F.keep) (codeRec_of (X₀.keeps F.keep) hcd) rfl hbind hcell hloc (fun h₁ hns hk₁ => ?_) hco hgen hk
  exact wpAny_mono (h _ s.heap.objs.size h₁ FG ⟨hns, fun b o e => hk₁ b o (of_hideAll _ e), Nat.le_of_eq (hideAll_size _ _)⟩
    (fun p hp => ⟨hk₁ _ _ (N p hp).1, Nat.ne_of_lt (Heap.lt_size (N p hp).1), hideAll_none _ (List.mem_map_of_mem hp)⟩) (X₀.keeps st) (T.keeps st) (fun p hp => Heap.lt_size (N p hp).1)) (fun fl s' hl => lv _ _ hl) fun _ _ y => y

theorem enterT (F : Fr h₀ L s.heap m) (X₀ : K.In h₀) (N : News h₀ L s.heap news) (T : Top p loose mean mg mb h₀)
    (ho : K.lookup f = some ⟨oc, od, .func (fnOf name qual params body scope dV kV doc pm an cdv ct), osl⟩) (hcd : codeIn K cdv qual = true) (hroom : A.depth < recursionLimit)
    (hbind : BindsTo s (fnOf name qual params body scope dV kV doc pm an cdv ct) args binds) (hloc : ∀ y ∈ binds, scope.names.lookup y.1 = some .local)
    (h : ∀ oL L' h₁, TI.Caller h₀ L m oL → (∀ p ∈ news, p.1 ≠ L) → Fr h₀ L' h₁ (fun y => binds.reverse.lookup y) → News h₀ L' h₁ (news ++ [(L, oL)]) →
      wpAny (model prog w) (A.deeper (envOf qual scope L' f cdv)) (execs body (envOf qual scope L' f cdv))
        (fun fl s' => R (.ok (.ret (match fl with | .ret v => v | _ => .none))) s')
        (fun e s' => wpAny (model prog w) (A.deeper (envOf qual scope L' f cdv)) (leaving (envOf qual scope L' f cdv) e) (fun _ s'' => R (.error e) s'') (fun e' s'' => R (.error e') s'') s')
        { s with heap := h₁, toks := s.toks + binds.length })
    (hco : scope.isCoroutine = false) (hgen : scope.isGenerator = false) (hk : scope.kind = .function)
    (hcell : ∀ x ∈ scope.names, x.2 ≠ .cell) : codeAny (model prog w) A (.call (.ref f) args) R s := by
  refine codeAny_call_def (fd := fnX name qual params body scope [] dV kV doc pm an cdv ct) (body := body) (binds := binds) hroom ((X₀.keeps F.keep) _ _ ho) rfl (T.nolimit.keeps F.keep) (codeRec_of (X₀.keeps F.keep) hcd) rfl hbind hcell hloc (fun h₁ hns hk₁ => ?_) hco hgen hk
  obtain ⟨oL, es, ep, hL, hLd, hLk, hLf⟩ := F.ns
  have hLt := Heap.lt_size hL
  refine h oL s.heap.objs.size h₁ ⟨fun h' sl e => ⟨_, es, ep, e, hLd, hLk, hLf⟩, ⟨es, ep, hLd⟩, F.above⟩ (fun p hp => (N p hp).2.1)
    ⟨hns, fun b o e => hk₁ b o (F.keep b o e), Nat.le_trans F.above (Nat.le_of_lt hLt)⟩ (fun p hp => ?_)
  rcases List.mem_append.mp hp with hp | hp
  · obtain ⟨h1, h2, h3⟩ := N p hp
    exact ⟨hk₁ _ _ h1, Nat.ne_of_lt (Heap.lt_size h1), h3⟩
  · rcases List.mem_cons.mp hp with rfl | hp
    · exact ⟨hk₁ _ _ hL, Nat.ne_of_lt hLt, Heap.get?_none_of_le F.above⟩
    · exact nomatch hp
end
end

/- NE -/
set_option hygiene false in
local macro_rules | `(tactic| walk_at "execs cons") => `(tactic| (refine execsH ?_; intro K9 hN9 hO9))
set_option hygiene false in
local macro_rules | `(tactic| walk_at "Run") => `(tactic| first | (refine Nx.go hN9 ?_; clear hN9 hO9 K9; try dsimp only) | (refine Ox.go hO9 (by intro h; cases h) ?_; clear hN9 hO9 K9; try dsimp only))
theorem offNE : True := by
  w_top off
  exact trivial
section
open PySem PySem.W PyProof.Rows PySem.Spec PySem.Calls PySem.SeqAt
set_option Elab.async false
set_option maxRecDepth 100000
set_option maxHeartbeats 2000000


theorem szB_not_le {c d : Nat} : (!szB .LtE c d) = szB .Gt c d := decide_not.symm.trans (decide_eq_decide.mpr Nat.not_le)
theorem szB_not_gt {c d : Nat} : (!szB .Gt c d) = szB .LtE c d := decide_not.symm.trans (decide_eq_decide.mpr Nat.not_lt)
theorem szB_not_ge {c d : Nat} : (!szB .GtE c d) = szB .Lt c d := decide_not.symm.trans (decide_eq_decide.mpr Nat.not_le)
theorem szB_ge_a {c d : Nat} (h : szB .LtE c d = true) : decide (c = d) = szB .GtE c d :=
  decide_eq_decide.mpr ⟨fun e => Nat.le_of_eq e.symm, fun g => Nat.le_antisymm (of_decide_eq_true h) g⟩
theorem szB_ge_b {c d : Nat} (h : szB .LtE c d = false) : (!szB .LtE c d) = szB .GtE c d :=
  decide_not.symm.trans (decide_eq_decide.mpr ⟨fun g => Nat.le_of_not_le g, fun _ => of_decide_eq_false h⟩)
section
variable {prog : Program} {w : World} {mean : ExcName → Option Value} {mg mb : Str → Option Value} {A : Around} {h₀ : Heap} {L : Addr} {m : Str → Option Value} {news : List (Addr × Obj)} {s : Shared} {x y : Addr} {c d : Nat}
    {Q E : Value → Shared → Prop}

theorem gt_from_le (F : Fr h₀ L s.heap m) (X : Frag.In (Mine.hd.heap_39 w.params) h₀) (N : News h₀ L s.heap news) (T : Top topProg loo mean mg mb h₀) (hh : A.handled = none)
    (nx : NstK h₀ news (.ref x) c) (ny : NstK h₀ news (.ref y) d)
    (hd : A.depth + 8 < recursionLimit) (hu : A.units + 100 < cLine)
    (ret : ∀ h' tk', Fr h₀ L h' m → News h₀ L h' news → Q (.bool (szB .Gt c d)) { s with heap := h', toks := tk' }) :
    wpAny (model prog w) A (call (.ref 42) [.ref x, .ref y]) Q E s := by
  ((refine wpAny_call ?_; k_dflt (refine' enterN ?k2 ?k3 ?k4 ?k5 ?k6 ?k7 ?k8 ?k9 ?kB ?_ ?c2 ?c3 ?c4 ?c5; (case k2 => k_asm); (case k3 => k_asm); (case k4 => k_asm); (case k5 => k_asm); (case k6 => k_is); (case k7 => k_is); (case k8 => (((try dsimp only [depth_deeper, depth_in1]); (first | exact rm3 (by assumption) (by exact rfl) | exact rm2 (by assumption) (by exact rfl) | exact rm1 (by assumption) (by exact rfl) | exact rm0 (by assumption) | exact rm00 (by assumption) | exact rmd (by assumption) (by exact rfl) | assumption | omega)))); (case k9 => exact BindsTo.of_eq rfl); (case c5 => decide); (case kB => exact locs rfl); (case c2 => exact rfl); (case c3 => exact rfl); (case c4 => exact rfl); k_whole); intro _ _ _ _ _ _ _ _ _; (try dsimp only); (try k_fold)))
  rename Fr h₀ L _ m => FG
  replace nx := nx.mono FG.keep (fun _ h => h)
  replace ny := ny.mono FG.keep (fun _ h => h)
  iterate 9 walk1
  refine kto_cont (T := "list") (nst_kit (NstK.now nx (by k_asm) (by k_asm) fun _ h => h)) (by decide +kernel) ?_
  with_reducible (refine' method_type ?F ?X ?m (by decide +kernel) ?e ?h ?_; (case F => k_asm); (case X => k_asm); (case m => exact meta_list); (case e => k_dflt k_is); (case h => k_handed))
  iterate 6 walk1
  refine callOpK (op := .LtE) (.inr (.inl rfl)) nx ny (by k_asm) (by k_asm) (fun _ h => h) (by (((try dsimp only [units_deeper, units_in1, Around.mark_units]); (first | exact rm3 (by assumption) (by exact rfl) | exact rm2 (by assumption) (by exact rfl) | exact rm1 (by assumption) (by exact rfl) | exact rm0 (by assumption) | exact rm00 (by assumption) | exact rmd (by assumption) (by exact rfl) | assumption | omega)))) ?_
  iterate 7 walk1
  refine wpAny_is_other (by rfl) (by intro x; cases x) ?_
  k_steps
  all_goals
    rw [szB_not_le]
    exact ret _ _ (by assumption) (by assumption)

theorem le_from_gt (F : Fr h₀ L s.heap m) (X : Frag.In (Mine.hd.heap_39 w.params) h₀) (N : News h₀ L s.heap news) (T : Top topProg loo mean mg mb h₀) (hh : A.handled = none)
    (nx : NstK h₀ news (.ref x) c) (ny : NstK h₀ news (.ref y) d)
    (hd : A.depth + 8 < recursionLimit) (hu : A.units + 100 < cLine)
    (ret : ∀ h' tk', Fr h₀ L h' m → News h₀ L h' news → Q (.bool (szB .LtE c d)) { s with heap := h', toks := tk' }) :
    wpAny (model prog w) A (call (.ref 49) [.ref x, .ref y]) Q E s := by
  ((refine wpAny_call ?_; k_dflt (refine' enterN ?k2 ?k3 ?k4 ?k5 ?k6 ?k7 ?k8 ?k9 ?kB ?_ ?c2 ?c3 ?c4 ?c5; (case k2 => k_asm); (case k3 => k_asm); (case k4 => k_asm); (case k5 => k_asm); (case k6 => k_is); (case k7 => k_is); (case k8 => (((try dsimp only [depth_deeper, depth_in1]); (first | exact rm3 (by assumption) (by exact rfl) | exact rm2 (by assumption) (by exact rfl) | exact rm1 (by assumption) (by exact rfl) | exact rm0 (by assumption) | exact rm00 (by assumption) | exact rmd (by assumption) (by exact rfl) | assumption | omega)))); (case k9 => exact BindsTo.of_eq rfl); (case c5 => decide); (case kB => exact locs rfl); (case c2 => exact rfl); (case c3 => exact rfl); (case c4 => exact rfl); k_whole); intro _ _ _ _ _ _ _ _ _; (try dsimp only); (try k_fold)))
  rename Fr h₀ L _ m => FG
  replace nx := nx.mono FG.keep (fun _ h => h)
  replace ny := ny.mono FG.keep (fun _ h => h)
  iterate 9 walk1
  refine kto_cont (T := "list") (nst_kit (NstK.now nx (by k_asm) (by k_asm) fun _ h => h)) (by decide +kernel) ?_
  with_reducible (refine' method_type ?F ?X ?m (by decide +kernel) ?e ?h ?_; (case F => k_asm); (case X => k_asm); (case m => exact meta_list); (case e => k_dflt k_is); (case h => k_handed))
  iterate 6 walk1
  refine callOpK (op := .Gt) (.inr (.inr (.inl rfl))) nx ny (by k_asm) (by k_asm) (fun _ h => h) (by (((try dsimp only [units_deeper, units_in1, Around.mark_units]); (first | exact rm3 (by assumption) (by exact rfl) | exact rm2 (by assumption) (by exact rfl) | exact rm1 (by assumption) (by exact rfl) | exact rm0 (by assumption) | exact rm00 (by assumption) | exact rmd (by assumption) (by exact rfl) | assumption | omega)))) ?_
  iterate 7 walk1
  refine wpAny_is_other (by rfl) (by intro x; cases x) ?_
  k_steps
  all_goals
    rw [szB_not_gt]
    exact ret _ _ (by assumption) (by assumption)

theorem lt_from_ge (F : Fr h₀ L s.heap m) (X : Frag.In (Mine.hd.heap_39 w.params) h₀) (N : News h₀ L s.heap news) (T : Top topProg loo mean mg mb h₀) (hh : A.handled = none)
    (nx : NstK h₀ news (.ref x) c) (ny : NstK h₀ news (.ref y) d)
    (hd : A.depth + 8 < recursionLimit) (hu : A.units + 100 < cLine)
    (ret : ∀ h' tk', Fr h₀ L h' m → News h₀ L h' news → Q (.bool (szB .Lt c d)) { s with heap := h', toks := tk' }) :
    wpAny (model prog w) A (call (.ref 56) [.ref x, .ref y]) Q E s := by
  ((refine wpAny_call ?_; k_dflt (refine' enterN ?k2 ?k3 ?k4 ?k5 ?k6 ?k7 ?k8 ?k9 ?kB ?_ ?c2 ?c3 ?c4 ?c5; (case k2 => k_asm); (case k3 => k_asm); (case k4 => k_asm); (case k5 => k_asm); (case k6 => k_is); (case k7 => k_is); (case k8 => (((try dsimp only [depth_deeper, depth_in1]); (first | exact rm3 (by assumption) (by exact rfl) | exact rm2 (by assumption) (by exact rfl) | exact rm1 (by assumption) (by exact rfl) | exact rm0 (by assumption) | exact rm00 (by assumption) | exact rmd (by assumption) (by exact rfl) | assumption | omega)))); (case k9 => exact BindsTo.of_eq rfl); (case c5 => decide); (case kB => exact locs rfl); (case c2 => exact rfl); (case c3 => exact rfl); (case c4 => exact rfl); k_whole); intro _ _ _ _ _ _ _ _ _; (try dsimp only); (try k_fold)))
  rename Fr h₀ L _ m => FG
  replace nx := nx.mono FG.keep (fun _ h => h)
  replace ny := ny.mono FG.keep (fun _ h => h)
  iterate 9 walk1
  refine kto_cont (T := "list") (nst_kit (NstK.now nx (by k_asm) (by k_asm) fun _ h => h)) (by decide +kernel) ?_
  with_reducible (refine' method_type ?F ?X ?m (by decide +kernel) ?e ?h ?_; (case F => k_asm); (case X => k_asm); (case m => exact meta_list); (case e => k_dflt k_is); (case h => k_handed))
  iterate 6 walk1
  refine callOpK (op := .GtE) (.inr (.inr (.inr rfl))) nx ny (by k_asm) (by k_asm) (fun _ h => h) (by (((try dsimp only [units_deeper, units_in1, Around.mark_units]); (first | exact rm3 (by assumption) (by exact rfl) | exact rm2 (by assumption) (by exact rfl) | exact rm1 (by assumption) (by exact rfl) | exact rm0 (by assumption) | exact rm00 (by assumption) | exact rmd (by assumption) (by exact rfl) | assumption | omega)))) ?_
  iterate 7 walk1
  refine wpAny_is_other (by rfl) (by intro x; cases x) ?_
  k_steps
  all_goals
    rw [szB_not_ge]
    exact ret _ _ (by assumption) (by assumption)

theorem ge_from_le (F : Fr h₀ L s.heap m) (X : Frag.In (Mine.hd.heap_39 w.params) h₀) (N : News h₀ L s.heap news) (T : Top topProg loo mean mg mb h₀) (hh : A.handled = none)
    (nx : NstK h₀ news (.ref x) c) (ny : NstK h₀ news (.ref y) d)
    (hd : A.depth + 8 < recursionLimit) (hu : A.units + 100 < cLine)
    (ret : ∀ h' tk', Fr h₀ L h' m → News h₀ L h' news → Q (.bool (szB .GtE c d)) { s with heap := h', toks := tk' }) :
    wpAny (model prog w) A (call (.ref 35) [.ref x, .ref y]) Q E s := by
  ((refine wpAny_call ?_; k_dflt (refine' enterN ?k2 ?k3 ?k4 ?k5 ?k6 ?k7 ?k8 ?k9 ?kB ?_ ?c2 ?c3 ?c4 ?c5; (case k2 => k_asm); (case k3 => k_asm); (case k4 => k_asm); (case k5 => k_asm); (case k6 => k_is); (case k7 => k_is); (case k8 => (((try dsimp only [depth_deeper, depth_in1]); (first | exact rm3 (by assumption) (by exact rfl) | exact rm2 (by assumption) (by exact rfl) | exact rm1 (by assumption) (by exact rfl) | exact rm0 (by assumption) | exact rm00 (by assumption) | exact rmd (by assumption) (by exact rfl) | assumption | omega)))); (case k9 => exact BindsTo.of_eq rfl); (case c5 => decide); (case kB => exact locs rfl); (case c2 => exact rfl); (case c3 => exact rfl); (case c4 => exact rfl); k_whole); intro _ _ _ _ _ _ _ _ _; (try dsimp only); (try k_fold)))
  rename Fr h₀ L _ m => FG
  replace nx := nx.mono FG.keep (fun _ h => h)
  replace ny := ny.mono FG.keep (fun _ h => h)
  iterate 9 walk1
  refine kto_cont (T := "list") (nst_kit (NstK.now nx (by k_asm) (by k_asm) fun _ h => h)) (by decide +kernel) ?_
  with_reducible (refine' method_type ?F ?X ?m (by decide +kernel) ?e ?h ?_; (case F => k_asm); (case X => k_asm); (case m => exact meta_list); (case e => k_dflt k_is); (case h => k_handed))
  iterate 6 walk1
  refine callOpK (op := .LtE) (.inr (.inl rfl)) nx ny (by k_asm) (by k_asm) (fun _ h => h) (by (((try dsimp only [units_deeper, units_in1, Around.mark_units]); (first | exact rm3 (by assumption) (by exact rfl) | exact rm2 (by assumption) (by exact rfl) | exact rm1 (by assumption) (by exact rfl) | exact rm0 (by assumption) | exact rm00 (by assumption) | exact rmd (by assumption) (by exact rfl) | assumption | omega)))) ?_
  iterate 7 walk1
  refine wpAny_is_other (by rfl) (by intro x; cases x) ?_
  k_steps
  all_goals first
    | (refine rcEqK nx ny (by k_asm) (by k_asm) (fun _ h => h) (by (((try dsimp only [units_deeper, units_in1, Around.mark_units]); (first | exact rm3 (by assumption) (by exact rfl) | exact rm2 (by assumption) (by exact rfl) | exact rm1 (by assumption) (by exact rfl) | exact rm0 (by assumption) | exact rm00 (by assumption) | exact rmd (by assumption) (by exact rfl) | assumption | omega)))) ?_; k_steps; rw [szB_ge_a (by assumption)]; exact ret _ _ (by assumption) (by assumption))
    | (rw [szB_ge_b (by assumption)]; exact ret _ _ (by assumption) (by assumption))
end
end

/- NF -/
theorem offNF : True := by
  w_top off
  exact trivial
section
open PySem PySem.W PyProof.Rows PySem.Spec PySem.Calls PySem.SeqAt PyProof.V
set_option Elab.async false
set_option maxRecDepth 100000
set_option maxHeartbeats 2000000
section
variable {prog : Program} {w : World} {A : Around} {E : Value → Shared → Prop} {s : Shared} {env : Env} {h₀ : Heap} {x : Str} {body : List Stmt} {Q : Flow → Shared → Prop}

theorem has_of {L : Addr} {h : Heap} {m : Str → Option Value} {news news' : List (Addr × Obj)} (F : Fr h₀ L h m) (N : News h₀ L h news') (hs : ∀ p ∈ news, p ∈ news') : Has h₀ news h := ⟨F.keep, fun p hp => (N p (hs p hp)).1⟩

theorem walks_from (hh : A.handled = none) (I ax : Addr) (hne : ax ≠ I) (items : Array Value) (i0 : Nat) (hi : i0 ≤ items.size) :
    Walks prog w A I [I, ax] [I] (items.size - i0) (fun i v => items[i0 + i]? = some v) (fun i h => h.IsListIter I ax (i0 + i) ∧ h.IsList ax items) := by
  have W := Walks.list (prog := prog) (w := w) hh I ax hne items
  refine ⟨W.sub, fun i h h' st hk => W.frame (i0 + i) h h' st hk, fun i s Q E hlt st hQ => W.item (i0 + i) s Q E (Nat.add_lt_of_lt_sub' hlt) st fun v h' tk hP st' hk => hQ v h' tk hP (by rw [Nat.add_assoc] at st'; exact st') hk, fun s Q E st hQ => W.done s Q E (by rw [Nat.add_sub_of_le hi] at st; exact st) hQ, fun i s Q E st hQ => W.self (i0 + i) s Q E st hQ⟩

noncomputable def PostG (h₀ : Heap) (L I : Addr) (own : List (Addr × Obj)) (J : (Str → Option Value) → List (Addr × Obj) → Prop) (s : Shared) (Q : Flow → Shared → Prop) (f : Flow) (s₂ : Shared) : Prop :=
  match f with
  | .ret v => Q (.ret v) s₂
  | .brk => Q .next s₂
  | _ => ∃ h' tk' m' nx, s₂ = { s with heap := h', toks := tk' } ∧ Fr h₀ L h' m' ∧ News h₀ L h' (nx ++ own) ∧ (∀ p ∈ nx, p.1 ≠ I) ∧ J m' nx

theorem loop_g {I l : Addr} {lo : Obj} {vs : List Value} {nn i0 : Nat} {m₀ : Str → Option Value} {news : List (Addr × Obj)} (J : Nat → (Str → Option Value) → List (Addr × Obj) → Prop)
    (hh : A.handled = none) (hc : lo.cls = .type "list") (hd : lo.data = .seq vs.toArray nn) (hget : ∀ i m nx, J i m nx → ∀ h, Has h₀ nx h → h.get? l = some lo) (hlL : l ≠ env.locals) (hIL : I ≠ env.locals) (hIl : l ≠ I)
    (hI : s.heap.IsListIter I l i0) (hI0 : h₀.get? I = none) (hIn : ∀ p ∈ news, p.1 ≠ I) (hi0 : i0 ≤ vs.length)
    (F : Fr h₀ env.locals s.heap m₀) (N : News h₀ env.locals s.heap news) (hj : J 0 m₀ news)
    (turn : ∀ i v m₁ news₁ h tk own, vs[i0 + i]? = some v → J i m₁ news₁ → (∀ p ∈ own, p.1 = I) → (∃ o, (I, o) ∈ own) → (∀ p ∈ news₁, p.1 ≠ I) → Fr h₀ env.locals h (fun y => if y = x then some v else m₁ y) → News h₀ env.locals h (news₁ ++ own) →
      wpAny (model prog w) A (execs body env) (PostG h₀ env.locals I own (J (i + 1)) s Q) E { s with heap := h, toks := tk })
    (done : ∀ m₁ news₁ h tk, J (vs.length - i0) m₁ news₁ → Fr h₀ env.locals h m₁ → News h₀ env.locals h news₁ → Q .next { s with heap := h, toks := tk }) :
    LoopAtV prog w A h₀ env x body Q E (.ref I) s := by
  have hol : s.heap.get? l = some lo := hget 0 m₀ news hj _ (has_of F N fun _ h => h)
  have hls : s.heap.IsList l vs.toArray := ⟨_, hol, hc, nn, hd⟩
  have W := walks_from (prog := prog) (w := w) hh I l hIl vs.toArray i0 (by simpa using hi0)
  have hlen : vs.toArray.size = vs.length := by simp
  rw [hlen] at W
  refine ⟨_, _, _, vs.length - i0, _, _, m₀, news, J, rfl, W, ?_, ?_, ?_, ⟨hI, hls⟩, F, N, hj, ?_, ?_⟩
  · intro hm
    rcases List.mem_cons.mp hm with e | hm
    · exact hIL e.symm
    · exact hlL ((List.mem_singleton.mp hm).symm)
  · intro b hb
    rw [List.mem_singleton.mp hb]
    exact hI0
  · intro p hp hm
    exact hIn p hp (List.mem_singleton.mp hm)
  · rintro i v m₁ news₁ s₁ own ⟨hh', tk', rfl⟩ hin hP hJ hoff hown hgt hfp st F₁ N₁
    have hP' : vs[i0 + i]? = some v := by simpa using hP
    have N₂ : News h₀ env.locals hh' (news₁ ++ own.filter fun p => decide (p.1 = I)) := fun p hp => N₁ p ((List.mem_append.mp hp).elim (fun h => List.mem_append.mpr (.inr h)) fun h => List.mem_append.mpr (.inl ((List.mem_filter.mp h).1)))
    have hlo : hh'.get? l = some lo := hget i m₁ news₁ hJ _ (has_of F₁ N₂ fun _ h => List.mem_append_left _ h)
    have hnI : ∀ p ∈ news₁, p.1 ≠ I := fun p hp e => hoff p hp (by rw [e]; exact .head _)
    have hoI : ∃ o, (I, o) ∈ own.filter fun p => decide (p.1 = I) := by
      obtain ⟨o, ho, _⟩ := st.1
      exact ⟨o, List.mem_filter.mpr ⟨hfp I (.head _) hI0 o ho, by simp⟩⟩
    refine wpAny_mono (turn i v m₁ news₁ hh' tk' _ hP' hJ (fun p hp => by simpa using (List.mem_filter.mp hp).2) hoI hnI F₁ N₂) (fun f s₂ p => ?_) fun _ _ e => e
    have fin : (∃ h' tk' m' nx, s₂ = { s with heap := h', toks := tk' } ∧ Fr h₀ env.locals h' m' ∧ News h₀ env.locals h' (nx ++ own.filter fun p => decide (p.1 = I)) ∧ (∀ p ∈ nx, p.1 ≠ I) ∧ J (i + 1) m' nx) →
        LoopStepU h₀ env.locals [I] own (J (i + 1)) { s with heap := hh', toks := tk' } .next s₂ := by
      rintro ⟨h', tk, m', nx, e, F', N', hnI', hm⟩
      refine ⟨rfl, h', tk, m', nx, e, F', fun p hp => ?_, fun p hp hI' => hnI' p hp (List.mem_singleton.mp hI'), hm⟩
      rcases List.mem_append.mp hp with h | h
      · by_cases hII : p.1 = I
        · exact N' p (List.mem_append_right _ (List.mem_filter.mpr ⟨h, by simpa using hII⟩))
        · have h1 : p.1 = l := by
            rcases List.mem_cons.mp (hown p h) with h2 | h2
            · exact absurd h2 hII
            · exact List.mem_singleton.mp h2
          have h2 : hh'.get? p.1 = some p.2 := hgt p h
          rw [h1, hlo] at h2
          have h3 : h'.get? l = some lo := hget _ _ _ hm _ (has_of F' N' fun _ h => List.mem_append_left _ h)
          have h4 := N₁ p (List.mem_append_left _ h)
          exact ⟨by rw [h1, h3, h2], h4.2⟩
      · exact N' p (List.mem_append_left _ h)
    cases f with
    | ret v => exact .ret p
    | brk => exact .brk p
    | next => exact .next (fin p)
    | cont => exact .cont (fin p)
  · rintro h' tk m' news' F' N' _ hJ
    exact done m' news' h' tk hJ F' N'

theorem iter_any {l : Addr} {lo : Obj} {vs : List Value} {nn : Nat} {m₀ : Str → Option Value} {news : List (Addr × Obj)} (J : Nat → (Str → Option Value) → List (Addr × Obj) → Prop)
    (hh : A.handled = none) (hc : lo.cls = .type "list") (hd : lo.data = .seq vs.toArray nn) (hget : ∀ i m nx, J i m nx → ∀ h, Has h₀ nx h → h.get? l = some lo) (hlL : l ≠ env.locals)
    (F : Fr h₀ env.locals s.heap m₀) (N : News h₀ env.locals s.heap news) (hj : J 0 m₀ news)
    (turn : ∀ i v m₁ news₁ h tk own, vs[i]? = some v → news₁.map (·.1) = news.map (·.1) → OwnOff own (news.map (·.1)) → J i m₁ news₁ → Fr h₀ env.locals h (fun y => if y = x then some v else m₁ y) → News h₀ env.locals h (news₁ ++ own) →
      wpAny (model prog w) A (execs body env) (InvPostN h₀ env.locals (J (i + 1)) own (news.map (·.1)) { s with heap := h, toks := tk } Q) E { s with heap := h, toks := tk })
    (done : ∀ m₁ news₁ h tk, news₁.map (·.1) = news.map (·.1) → J vs.length m₁ news₁ → Fr h₀ env.locals h m₁ → News h₀ env.locals h news₁ → Q .next { s with heap := h, toks := tk }) :
    wpAny (model prog w) A (pyIter (.ref l)) (fun it s₂ => LoopAtV prog w A h₀ env x body Q E it s₂) E s := by
  have hol : s.heap.get? l = some lo := hget 0 m₀ news hj _ (has_of F N fun _ h => h)
  have hls : s.heap.IsList l vs.toArray := ⟨_, hol, hc, nn, hd⟩
  have hne : l ≠ s.heap.objs.size := Nat.ne_of_lt (Heap.lt_size hol)
  have nw : ∀ p ∈ news, p.1 ≠ s.heap.objs.size := fun p hp => Nat.ne_of_lt (Heap.lt_size (N p hp).1)
  refine wpAny_pyIter_list hls ?_
  refine loop_g (l := l) (lo := lo) (vs := vs) (nn := nn) (i0 := 0) (news := news) (fun i m nx => nx.map (·.1) = news.map (·.1) ∧ J i m nx) hh hc hd (fun i m nx hj => hget i m nx hj.2) hlL (fun e => absurd F.ns.lt (e ▸ Nat.lt_irrefl _)) hne
    ⟨_, Heap.get?_push_size _ rfl, rfl, rfl⟩ (next_is_new F) nw (Nat.zero_le _) (F.push _) (fun p hp => ⟨Heap.get?_push_of_some _ (N p hp).1, (N p hp).2⟩) ⟨rfl, hj⟩ ?_ (fun m₁ news₁ h tk hJ F1 N1 => done m₁ news₁ h tk hJ.1 hJ.2 F1 N1)
  rintro i v m₁ news₁ h tk own hv ⟨hadr, hJ⟩ hoI _ _ F1 N1
  rw [Nat.zero_add] at hv
  refine wpAny_mono (turn i v m₁ news₁ h tk own hv hadr (fun p hp b hb e => ?_) hJ F1 N1) (fun f s₂ p => ?_) fun _ _ e => e
  · obtain ⟨q, hq, rfl⟩ := List.mem_map.mp hb
    exact nw q hq (e.symm.trans (hoI p hp))
  · cases f with
    | ret v => exact p
    | brk => exact p
    | _ =>
      obtain ⟨h', tk, m', news', nx, e, F', N', hn, ho, ha, hm⟩ := p
      refine ⟨h', tk, m', nx, e, F', fun p hp => N' p ((List.mem_append.mp hp).elim (hn p) (ho p)), fun p hp e' => ?_, ha, hm⟩
      have h1 : p.1 ∈ nx.map (·.1) := List.mem_map.mpr ⟨p, hp, rfl⟩
      rw [ha] at h1
      obtain ⟨q, hq, e2⟩ := List.mem_map.mp h1
      exact nw q hq (e2.trans e')

noncomputable def over : List Str → (Str → Option Value) → (Str → Option Value) → Str → Option Value
  | [], _, m => m
  | z :: r, u, m => fun y => if y = z then u y else over r u m y
theorem over_self (m : Str → Option Value) : ∀ st, over st m m = m
  | [] => rfl
  | z :: r => by
    funext y
    show (if y = z then m y else over r m m y) = m y
    rw [over_self m r]; split <;> rfl
theorem over_eq {m m' : Str → Option Value} : ∀ {st : List Str}, (∀ z, z ∉ st → m' z = m z) → m' = over st m' m
  | [], h => funext fun z => h z (fun h => nomatch h)
  | a :: r, h => by
    have aux : ∀ (r : List Str) (z : Str), (z ∉ r → m' z = m z) → m' z = over r m' m z := by
      intro r
      induction r with
      | nil => intro z h; exact h (fun h => nomatch h)
      | cons a r ih =>
        intro z h
        show m' z = if z = a then m' z else over r m' m z
        by_cases hz : z = a
        · rw [if_pos hz]
        · rw [if_neg hz]
          exact ih z fun hr => h fun hm => (List.mem_cons.mp hm).elim hz hr
    exact funext fun z => aux (a :: r) z (h z)

theorem iter_map {l : Addr} {lo : Obj} {vs : List Value} {nn : Nat} {m₀ : Str → Option Value} {news : List (Addr × Obj)} (st : List Str) (J : Nat → List (Addr × Obj) → Prop)
    (hh : A.handled = none) (hc : lo.cls = .type "list") (hd : lo.data = .seq vs.toArray nn) (hget : ∀ i nx, J i nx → ∀ h, Has h₀ nx h → h.get? l = some lo) (hlL : l ≠ env.locals)
    (F : Fr h₀ env.locals s.heap m₀) (N : News h₀ env.locals s.heap news) (hj : J 0 news)
    (turn : ∀ i v u news₁ h tk own, vs[i]? = some v → news₁.map (·.1) = news.map (·.1) → OwnOff own (news.map (·.1)) → J i news₁ → Fr h₀ env.locals h (fun y => if y = x then some v else over st u m₀ y) → News h₀ env.locals h (news₁ ++ own) →
      wpAny (model prog w) A (execs body env) (InvPostN h₀ env.locals (fun m' nx => (∀ z, z ∉ x :: st → m' z = m₀ z) ∧ J (i + 1) nx) own (news.map (·.1)) { s with heap := h, toks := tk } Q) E { s with heap := h, toks := tk })
    (done : ∀ u news₁ h tk, news₁.map (·.1) = news.map (·.1) → J vs.length news₁ → Fr h₀ env.locals h (over (x :: st) u m₀) → News h₀ env.locals h news₁ → Q .next { s with heap := h, toks := tk }) :
    wpAny (model prog w) A (pyIter (.ref l)) (fun it s₂ => LoopAtV prog w A h₀ env x body Q E it s₂) E s := by
  refine iter_any (fun i m' nx => (∀ z, z ∉ x :: st → m' z = m₀ z) ∧ J i nx) hh hc hd (fun i m' nx hj => hget i nx hj.2) hlL F N ⟨fun _ _ => rfl, hj⟩ ?_ ?_
  · rintro i v m₁ news₁ h tk own hv ha ho ⟨hm, hJ⟩ F1 N1
    have e : (fun y => if y = x then some v else m₁ y) = fun y => if y = x then some v else over st m₁ m₀ y := by
      funext y
      by_cases hy : y = x
      · simp [hy]
      · simp only [if_neg hy]
        have := congrFun (over_eq (m := m₀) (m' := m₁) (st := x :: st) hm) y
        rw [this]
        show (if y = x then m₁ y else over st m₁ m₀ y) = _
        rw [if_neg hy]
    rw [e] at F1
    exact turn i v m₁ news₁ h tk own hv ha ho hJ F1 N1
  · rintro m₁ news₁ h tk ha ⟨hm, hJ⟩ F1 N1
    have e := over_eq (m := m₀) (m' := m₁) (st := x :: st) hm
    exact done m₁ news₁ h tk ha hJ (e ▸ F1) N1
end

theorem seq_ne_ns {h : Heap} {a L : Addr} {m : Str → Option Value} {o : Obj} {vs : Array Value} {n : Nat} (h1 : h.get? a = some o) (hd : o.data = .seq vs n) (h2 : h.Ns L m) : a ≠ L := by
  rintro rfl
  obtain ⟨o', es, ep, ho, hd', _⟩ := h2
  rw [h1] at ho; cases ho; rw [hd] at hd'; cases hd'
end

/- NG -/
theorem offNG : True := by
  w_top off
  exact trivial
section
open PySem PySem.W PyProof.Rows PySem.Spec PySem.Calls PySem.SeqAt PyProof.V
set_option Elab.async false
set_option maxRecDepth 100000
set_option maxHeartbeats 2000000

noncomputable def ddGo : List (Value × Nat) → List (Value × Nat) → List (Value × Nat)
  | acc, [] => acc
  | acc, p :: r => if acc.any (fun q => decide (q.2 = p.2)) then ddGo acc r else ddGo (acc ++ [p]) r
noncomputable def dd (ps : List (Value × Nat)) : List (Value × Nat) := ddGo [] ps
theorem ddGo_snoc (p : Value × Nat) : ∀ (ps acc : List (Value × Nat)), ddGo acc (ps ++ [p]) = if (ddGo acc ps).any (fun q => decide (q.2 = p.2)) then ddGo acc ps else ddGo acc ps ++ [p]
  | [], acc => by
    show ddGo acc [p] = _
    simp only [ddGo]; rfl
  | q :: r, acc => by
    show ddGo acc (q :: (r ++ [p])) = _
    rw [ddGo, ddGo]
    split
    · exact ddGo_snoc p r acc
    · exact ddGo_snoc p r (acc ++ [q])
theorem ddGo_sub : ∀ (ps acc : List (Value × Nat)) (q : Value × Nat), q ∈ ddGo acc ps → q ∈ acc ∨ q ∈ ps
  | [], acc, q, h => .inl h
  | p :: r, acc, q, h => by
    rw [ddGo] at h
    split at h
    · exact (ddGo_sub r acc q h).imp id fun h => .tail _ h
    · rcases ddGo_sub r _ q h with h | h
      · rcases List.mem_append.mp h with h | h
        · exact .inl h
        · exact .inr (by rw [List.mem_singleton.mp h]; exact .head _)
      · exact .inr (.tail _ h)
theorem ddGo_len : ∀ (ps acc : List (Value × Nat)), (ddGo acc ps).length ≤ acc.length + ps.length
  | [], acc => Nat.le_refl _
  | p :: r, acc => by
    rw [ddGo]
    split
    · exact addl (ddGo_len r acc)
    · have := ddGo_len r (acc ++ [p]); simp only [List.length_cons, List.length_append, List.length_nil] at *; exact addm (by assumption)
theorem dd_len (ps : List (Value × Nat)) : (dd ps).length ≤ ps.length := by
  have h := ddGo_len ps []
  rwa [List.length_nil, Nat.zero_add] at h

theorem notIn_nsts {prog : Program} {w : World} {A : Around} {s : Shared} {E Q : Value → Shared → Prop} {b : Addr} {acc : List (Value × Nat)} {v : Value} {c : Nat} (hl : s.heap.IsList b (acc.map (·.1)).toArray)
    (ha : ∀ q ∈ acc, q.2 < 2 ^ 12 ∧ Nst s.heap q.1 q.2) (hc : c < 2 ^ 12) (hn : Nst s.heap v c) (hu : A.units + 6 < cLine) (h : Q (.bool (!acc.any (fun q => decide (q.2 = c)))) s) :
    wpAny (model prog w) A (compareOp .NotIn v (.ref b)) Q E s := by
  classical
  refine notIn_listAt (fun y => decide (∃ q ∈ acc, q.1 = y ∧ q.2 = c)) hl ?_ ?_
  · intro y hy
    have : y ∈ acc.map (·.1) := by simpa using hy
    obtain ⟨q, hq, rfl⟩ := List.mem_map.mp this
    have z := Nst.eqAt (A := A.in1) (ha q hq).1 hc (ha q hq).2 hn (by show A.units + 1 + 4 < cLine; exact rm2 (by assumption) (by exact rfl))
    have e : decide (∃ q' ∈ acc, q'.1 = q.1 ∧ q'.2 = c) = decide (q.2 = c) := by
      refine decide_eq_decide.mpr ⟨?_, fun h => ⟨q, hq, rfl, h⟩⟩
      rintro ⟨q', h1, h2, h3⟩
      have n' := (ha q' h1).2
      rw [h2] at n'
      rw [← h3]
      exact (ha q hq).2.uniq (ha q hq).1 (ha q' h1).1 n'
    rw [e]; exact z
  · have e : ((acc.map (·.1)).toArray.any fun y => decide (∃ q ∈ acc, q.1 = y ∧ q.2 = c)) = acc.any (fun q => decide (q.2 = c)) := by
      rw [List.any_toArray, List.any_map, Bool.eq_iff_iff, List.any_eq_true, List.any_eq_true]
      constructor
      · rintro ⟨q, _, h2⟩
        obtain ⟨q', h3, _, h4⟩ := of_decide_eq_true h2
        exact ⟨q', h3, by simpa using h4⟩
      · rintro ⟨q, h1, h2⟩
        exact ⟨q, h1, decide_eq_true ⟨q, h1, rfl, of_decide_eq_true h2⟩⟩
    rw [e]; exact h

section
variable {prog : Program} {w : World} {mean : ExcName → Option Value} {mg mb : Str → Option Value} {A : Around} {h₀ : Heap} {L : Addr} {m : Str → Option Value} {news : List (Addr × Obj)} {s : Shared} {x y : Addr} {c d : Nat}
    {Q E : Value → Shared → Prop}

theorem dedup {l : Addr} {lo : Obj} {nn : Nat} {ps : List (Value × Nat)} (F : Fr h₀ L s.heap m) (X : Frag.In (Mine.hd.heap_39 w.params) h₀) (N : News h₀ L s.heap news) (T : Top topProg loo mean mg mb h₀) (hh : A.handled = none)
    (hlc : lo.cls = .type "list") (hld : lo.data = .seq (ps.map (·.1)).toArray nn) (hl : ∀ h, Has h₀ news h → h.get? l = some lo) (hp : ∀ p ∈ ps, NstK h₀ news p.1 p.2) (hsz : ps.length ≤ 1000)
    (hd : A.depth + 8 < recursionLimit) (hu : A.units + 100 < cLine)
    (ret : ∀ b n h' tk', Fr h₀ L h' m → News h₀ L h' ((b, listOf ((dd ps).map (·.1)).toArray n) :: news) → (∀ p ∈ news, p.1 < b) → Q (.ref b) { s with heap := h', toks := tk' }) :
    wpAny (model prog w) A (call (.ref 21) [.ref l]) Q E s := by
  ((refine wpAny_call ?_; k_dflt (refine' enterN ?k2 ?k3 ?k4 ?k5 ?k6 ?k7 ?k8 ?k9 ?kB ?_ ?c2 ?c3 ?c4 ?c5; (case k2 => k_asm); (case k3 => k_asm); (case k4 => k_asm); (case k5 => k_asm); (case k6 => k_is); (case k7 => k_is); (case k8 => (((try dsimp only [depth_deeper, depth_in1]); (first | exact rm3 (by assumption) (by exact rfl) | exact rm2 (by assumption) (by exact rfl) | exact rm1 (by assumption) (by exact rfl) | exact rm0 (by assumption) | exact rm00 (by assumption) | exact rmd (by assumption) (by exact rfl) | assumption | omega)))); (case k9 => exact BindsTo.of_eq rfl); (case c5 => decide); (case kB => exact locs rfl); (case c2 => exact rfl); (case c3 => exact rfl); (case c4 => exact rfl); k_whole); intro _ _ _ _ _ _ _ _ _; (try dsimp only); (try k_fold)))
  rename Fr h₀ L _ m => FG
  iterate 7 walk1
  rename Fr _ _ _ _ => lF'
  with_unfolding_all refine' For_invVF lF' ?k1 ?k2 ?_; (case k1 => exact rfl); (case k2 => exact rfl); k_whole
  k_steps
  rename News _ _ _ ((_, W.listOf #[] 0) :: news) => N1
  rename Fr _ _ _ _ => F1
  rename ∀ p ∈ news, p.1 < _ => l1
  rename_i g1 L1 hh1 X1 T1 ltL b1 hh2 hh3
  have hp' : ∀ p ∈ ps, NstK g1 news p.1 p.2 := fun p h => (hp p h).mono FG.keep (fun _ h => h)
  have hl' : ∀ h, Has g1 news h → h.get? l = some lo := fun h H => hl h ⟨fun b o e => H.1 b o (FG.keep b o e), H.2⟩
  have hne : l ≠ L1 := seq_ne_ns (hl' _ (has_of F1 N1 fun _ h => .tail _ h)) hld F1.ns
  refine iter_map (lo := lo) (vs := ps.map (·.1)) (nn := nn) [] (fun i nx => ∃ n, nx = (b1, W.listOf ((ddGo [] (ps.take i)).map (·.1)).toArray n) :: news) hh hlc hld (fun i nx hj h H => by obtain ⟨n, rfl⟩ := hj; exact hl' h ⟨H.1, fun p hp => H.2 p (.tail _ hp)⟩) hne F1 N1 ⟨0, by rfl⟩ ?turn ?done
  case turn =>
    rintro i v u news₁ h3 tk3 own hv hadr hoff ⟨n, rfl⟩ F2 N2
    obtain ⟨p, hpi, rfl⟩ : ∃ p, ps[i]? = some p ∧ p.1 = v := by
      rw [List.getElem?_map] at hv
      cases hpi : ps[i]? with
      | none => rw [hpi] at hv; cases hv
      | some p => rw [hpi] at hv; exact ⟨p, rfl, Option.some.inj hv⟩
    have hpn := hp' p (List.mem_of_getElem? hpi)
    clear F1 N1
    have hall : ∀ p ∈ news ++ own, p.1 ≠ b1 := fun p hp => (List.mem_append.mp hp).elim (fun h => Nat.ne_of_lt (l1 p h)) (fun h => hoff p h b1 (.head _))
    replace N2 : News g1 L1 h3 ((b1, W.listOf ((ddGo [] (ps.take i)).map (·.1)).toArray n) :: (news ++ own)) := N2
    have hacc : ∀ q ∈ ddGo [] (ps.take i), NstK g1 news q.1 q.2 := fun q hq => hp' q (List.mem_of_mem_take ((ddGo_sub _ _ _ hq).resolve_left (fun h => nomatch h)))
    have hsub : ∀ p ∈ news, p ∈ (b1, W.listOf ((ddGo [] (ps.take i)).map (·.1)).toArray n) :: (news ++ own) := fun p h => .tail _ (List.mem_append_left _ h)
    k_steps
    refine notIn_nsts (acc := ddGo [] (ps.take i)) (c := p.2) ⟨_, (N2 _ (.head _)).1, rfl, n, rfl⟩ (fun q hq => ⟨(hacc q hq).lt, (hacc q hq).now F2 N2 hsub⟩) hpn.lt (hpn.now F2 N2 hsub) (by ((try dsimp only [units_deeper, units_in1, Around.mark_units]); exact rm2 (by assumption) (by exact rfl))) ?_
    have hlen := ddGo_len (ps.take i) []
    have hlen2 : (ps.take i).length ≤ ps.length := by rw [List.length_take]; exact Nat.min_le_right _ _
    have htk : ps.take (i + 1) = ps.take i ++ [p] := by rw [List.take_add_one, hpi]; rfl
    have hsn := ddGo_snoc p (ps.take i) []
    rw [← htk] at hsn
    k_steps
    rotate_left
    · skip
      have hb : (ddGo [] (ps.take i)).any (fun q => decide (q.2 = p.2)) = false := by assumption
      rw [if_neg (by rw [hb]; simp)] at hsn
      rename Fr _ _ _ _ => F3
      rename News _ _ _ _ => N3
      refine ⟨_, _, _, _, (b1, W.listOf ((ddGo [] (ps.take (i + 1))).map (·.1)).toArray (n + 1)) :: news, rfl, F3, N3, ?_, ?_, rfl, ?_, n + 1, rfl⟩
      · intro q hq
        rcases List.mem_cons.mp hq with rfl | hq
        · have : ((ddGo [] (ps.take (i + 1))).map (·.1)).toArray = ((ddGo [] (ps.take i)).map (·.1)).toArray.push p.1 := by rw [hsn]; simp
          rw [this]; exact .head _
        · exact .tail _ (List.mem_append_left _ hq)
      · exact fun q hq => .tail _ (List.mem_append_right _ hq)
      · intro z hz
        exact if_neg (fun e => hz (by rw [e]; exact .head _))
    · have hb : (ddGo [] (ps.take i)).any (fun q => decide (q.2 = p.2)) = true := by assumption
      rw [if_pos hb] at hsn
      refine ⟨_, _, _, _, (b1, W.listOf ((ddGo [] (ps.take (i + 1))).map (·.1)).toArray n) :: news, rfl, F2, N2, ?_, ?_, rfl, ?_, n, rfl⟩
      · intro q hq
        rcases List.mem_cons.mp hq with rfl | hq
        · rw [hsn]; exact .head _
        · exact .tail _ (List.mem_append_left _ hq)
      · exact fun q hq => .tail _ (List.mem_append_right _ hq)
      · intro z hz
        exact if_neg (fun e => hz (by rw [e]; exact .head _))
  case done =>
    rintro u news₁ h3 tk3 hadr ⟨n, rfl⟩ F2 N2
    clear F1 N1
    dsimp only
    have e : ps.take (ps.map (·.1)).length = ps := by rw [List.length_map, List.take_length]
    rw [e] at N2
    k_steps
    exact ret b1 n _ _ (by assumption) (by assumption) l1
end
end

/- NH -/
theorem offNH : True := by
  w_top off
  exact trivial
section
open PySem PySem.W PyProof.Rows PySem.Spec PySem.Calls PySem.SeqAt PyProof.V
set_option Elab.async false
set_option maxRecDepth 100000
set_option maxHeartbeats 2000000
section
variable {prog : Program} {w : World} {mean : ExcName → Option Value} {mg mb : Str → Option Value} {A : Around} {h₀ : Heap} {L : Addr} {m : Str → Option Value} {news : List (Addr × Obj)} {s : Shared} {x y : Addr} {c d : Nat}
    {Q E : Value → Shared → Prop}

noncomputable def cmp3 (c d : Nat) : Int := 3 * (b2i (szB .Gt c d) - b2i (szB .Lt c d))
theorem law_compare (F : Fr h₀ L s.heap m) (X : Frag.In (Mine.hd.heap_39 w.params) h₀) (N : News h₀ L s.heap news) (T : Top topProg loo mean mg mb h₀) (hh : A.handled = none)
    (nx : NstK h₀ news (.ref x) c) (ny : NstK h₀ news (.ref y) d)
    (hd : A.depth + 20 < recursionLimit) (hu : A.units + 200 < cLine)
    (ret : ∀ t h' tk', Fr h₀ L h' m → News h₀ L h' news → Q (.int (cmp3 c d) t) { s with heap := h', toks := tk' }) :
    wpAny (model prog w) A (call (.ref 103) [.ref x, .ref y]) Q E s := by
  ((refine wpAny_call ?_; k_dflt (refine' enterN ?k2 ?k3 ?k4 ?k5 ?k6 ?k7 ?k8 ?k9 ?kB ?_ ?c2 ?c3 ?c4 ?c5; (case k2 => k_asm); (case k3 => k_asm); (case k4 => k_asm); (case k5 => k_asm); (case k6 => k_is); (case k7 => k_is); (case k8 => (((try dsimp only [depth_deeper, depth_in1]); (first | exact rm3 (by assumption) (by exact rfl) | exact rm2 (by assumption) (by exact rfl) | exact rm1 (by assumption) (by exact rfl) | exact rm0 (by assumption) | exact rm00 (by assumption) | exact rmd (by assumption) (by exact rfl) | assumption | omega)))); (case k9 => exact BindsTo.of_eq rfl); (case c5 => decide); (case kB => exact locs rfl); (case c2 => exact rfl); (case c3 => exact rfl); (case c4 => exact rfl); k_whole); intro _ _ _ _ _ _ _ _ _; (try dsimp only); (try k_fold)))
  rename Fr h₀ L _ m => FG
  replace nx := nx.mono FG.keep (fun _ h => h)
  replace ny := ny.mono FG.keep (fun _ h => h)
  k_steps
  refine gt_from_le (by k_asm) (by k_asm) (by k_asm) (by k_asm) (by first | exact rfl | assumption) (by assumption) (by assumption) (by (((try dsimp only [depth_deeper, depth_in1]); (first | exact rm3 (by assumption) (by exact rfl) | exact rm2 (by assumption) (by exact rfl) | exact rm1 (by assumption) (by exact rfl) | exact rm0 (by assumption) | exact rm00 (by assumption) | exact rmd (by assumption) (by exact rfl) | assumption | omega)))) (by (((try dsimp only [units_deeper, units_in1, Around.mark_units]); (first | exact rm3 (by assumption) (by exact rfl) | exact rm2 (by assumption) (by exact rfl) | exact rm1 (by assumption) (by exact rfl) | exact rm0 (by assumption) | exact rm00 (by assumption) | exact rmd (by assumption) (by exact rfl) | assumption | omega)))) ?_
  intro h' tk' F' N'
  k_steps
  refine lt_from_ge (by k_asm) (by k_asm) (by k_asm) (by k_asm) (by first | exact rfl | assumption) (by assumption) (by assumption) (by (((try dsimp only [depth_deeper, depth_in1]); (first | exact rm3 (by assumption) (by exact rfl) | exact rm2 (by assumption) (by exact rfl) | exact rm1 (by assumption) (by exact rfl) | exact rm0 (by assumption) | exact rm00 (by assumption) | exact rmd (by assumption) (by exact rfl) | assumption | omega)))) (by (((try dsimp only [units_deeper, units_in1, Around.mark_units]); (first | exact rm3 (by assumption) (by exact rfl) | exact rm2 (by assumption) (by exact rfl) | exact rm1 (by assumption) (by exact rfl) | exact rm0 (by assumption) | exact rm00 (by assumption) | exact rmd (by assumption) (by exact rfl) | assumption | omega)))) ?_
  intro h' tk' F' N'
  k_steps
  exact ret _ _ _ (by assumption) (by assumption)
end
end

/- NHa -/
theorem offNHa : True := by
  w_top off
  exact trivial
section
open PySem PySem.W PyProof.Rows PySem.Spec PySem.Calls PySem.SeqAt PyProof.V
set_option Elab.async false
set_option maxRecDepth 100000
set_option maxHeartbeats 2000000
open AutoSeq1 (wpAny_loadPart')
open MeetsSeq MeetsSeq2 MeetsSeq3 SeqRoads2

theorem remove_loopAt (l : Addr) (items : Array Value) (n : Nat) (x : Value) (e : Nat → Bool) (j : Nat) (hj : j < items.size) (hit : e j = true) (k : Nat) (hs1 : items.size ≤ sizeLine) :
    ∀ i : Nat, j - i = k → i ≤ j → (∀ m (_ : m < items.size), i ≤ m → m < j → e m = false) → Meets (Builtin.«list.remove.loop» ⟨[.ref l, x, rawInt i], []⟩)
      (fun A R s => s.heap.get? l = some { cls := .type "list", dict := none, data := .seq items n, slots := #[] } ∧ (∀ m (hm : m < items.size), EqAt A.in1 s items[m] x (e m)) ∧ R (.ok (.ret .none)) { s with heap := s.heap.update l (Obj.mapSeq fun xs => xs.eraseIdxIfInBounds j) }) := by
  induction k with
  | zero =>
    intro i hk hij hno prog w A R s h
    obtain ⟨hp, g, d, tk, os⟩ := s; obtain ⟨hl, he, h⟩ := h
    have hij' : i = j := Nat.le_antisymm (by assumption) (subz (by assumption))
    subst hij'
    wp_walk using wpAny_loadPart' hl
    have hi : items[((i : Nat) : Int).toNat]? = some items[i] := by simp [hj]
    rw [hi]
    refine wpAny_bind (he _ hj prog w _ _ ?_)
    rw [hit]
    have hz' : (items.eraseIdxIfInBounds i).size ≤ sizeLine + 1 := Nat.le_trans (size_erased items _) (Nat.le_succ_of_le hs1)
    wp_walk using (wpAny_updateSeq hl rfl (hz := hs1) (_hz' := hz')), wpAny_loadPart' hl
    simpa using h
  | succ k ih =>
    intro i hk hij hno prog w A R s h
    obtain ⟨hp, g, d, tk, os⟩ := s; obtain ⟨hl, he, h⟩ := h
    have hlt : i < items.size := by exact Nat.lt_of_le_of_lt (by assumption) (by assumption)
    wp_walk using wpAny_loadPart' hl
    have hi : items[((i : Nat) : Int).toNat]? = some items[i] := by simp [hlt]
    have hc : ((i : Int) + 1) = ((i + 1 : Nat) : Int) := by push_cast; rfl
    rw [hi]
    refine wpAny_bind (he _ hlt prog w _ _ ?_)
    rw [hno i hlt (Nat.le_refl _) (by exact subl (by assumption))]
    wp_walk
    rw [hc]
    exact ⟨plainId_quiet plain_remove_loop _, codeAny_builtin entry_remove_loop (by
      rw [Around.under_plainId plain_remove_loop _]
      exact ih (i + 1) (by exact subs (by assumption)) (by exact subl (by assumption)) (fun m hm h1 h2 => hno m hm (by exact Nat.le_of_lt (by assumption)) h2) prog w A R _ ⟨hl, he, h⟩)⟩

theorem list_removeAt (l : Addr) (items : Array Value) (n : Nat) (x : Value) (e : Nat → Bool) (j : Nat) (hj : j < items.size)
    (hit : e j = true) (hno : ∀ m (_ : m < items.size), m < j → e m = false) (hs1 : items.size ≤ sizeLine) :
    Meets (Builtin.«list.remove» ⟨[.ref l, x], []⟩)
      (fun A R s => s.heap.get? l = some { cls := .type "list", dict := none, data := .seq items n, slots := #[] } ∧ (∀ m (hm : m < items.size), EqAt A.in1 s items[m] x (e m)) ∧ R (.ok (.ret .none)) { s with heap := s.heap.update l (Obj.mapSeq fun xs => xs.eraseIdxIfInBounds j) }) := by
  intro prog w A R s h
  have := remove_loopAt l items n x e j hj hit _ hs1 0 rfl (Nat.zero_le _) (fun m hm _ h2 => hno m hm h2) prog w A R s h
  obtain ⟨hp, g, d, tk, os⟩ := s; obtain ⟨hl, he, h⟩ := h
  wp_walk using wpAny_loadPart' hl
  exact ⟨plainId_quiet plain_remove_loop _, codeAny_builtin entry_remove_loop (by
    rw [Around.under_plainId plain_remove_loop _]
    exact this)⟩

theorem remove_loop_noneAt (l : Addr) (items : Array Value) (n : Nat) (x : Value) (k : Nat) :
    ∀ i : Nat, items.size - i = k → Meets (Builtin.«list.remove.loop» ⟨[.ref l, x, rawInt i], []⟩)
      (fun A R s => s.heap.get? l = some { cls := .type "list", dict := none, data := .seq items n, slots := #[] } ∧ (∀ m (hm : m < items.size), EqAt A.in1 s items[m] x false) ∧ raisesNew "ValueError" A R s) := by
  induction k with
  | zero =>
    intro i hk prog w A R s h
    obtain ⟨hp, g, d, tk, os⟩ := s; obtain ⟨hl, he, h⟩ := h
    wp_walk using wpAny_loadPart' hl
    have hi : items[((i : Nat) : Int).toNat]? = none := by simp; exact subz (by assumption)
    rw [hi]
    wp_walk
    exact_raiseError plainExc_ValueError h.1 h.2
  | succ k ih =>
    intro i hk prog w A R s h
    obtain ⟨hp, g, d, tk, os⟩ := s; obtain ⟨hl, he, h⟩ := h
    have hlt : i < items.size := by exact subl (by assumption)
    wp_walk using wpAny_loadPart' hl
    have hi : items[((i : Nat) : Int).toNat]? = some items[i] := by simp [hlt]
    have hc : ((i : Int) + 1) = ((i + 1 : Nat) : Int) := by push_cast; rfl
    rw [hi]
    refine wpAny_bind (he _ hlt prog w _ _ ?_)
    wp_walk
    rw [hc]
    exact ⟨plainId_quiet plain_remove_loop _, codeAny_builtin entry_remove_loop (by
      rw [Around.under_plainId plain_remove_loop _]
      exact ih (i + 1) (by exact subs (by assumption)) prog w A R _ ⟨hl, he, h⟩)⟩

theorem list_remove_noneAt (l : Addr) (items : Array Value) (n : Nat) (x : Value) :
    Meets (Builtin.«list.remove» ⟨[.ref l, x], []⟩)
      (fun A R s => s.heap.get? l = some { cls := .type "list", dict := none, data := .seq items n, slots := #[] } ∧ (∀ m (hm : m < items.size), EqAt A.in1 s items[m] x false) ∧ raisesNew "ValueError" A R s) := by
  intro prog w A R s h
  have := remove_loop_noneAt l items n x _ 0 rfl prog w A R s h
  obtain ⟨hp, g, d, tk, os⟩ := s; obtain ⟨hl, he, h⟩ := h
  wp_walk using wpAny_loadPart' hl
  exact ⟨plainId_quiet plain_remove_loop _, codeAny_builtin entry_remove_loop (by
    rw [Around.under_plainId plain_remove_loop _]
    exact this)⟩
section
variable {prog : Program} {w : World} {A : Around} {s : Shared} {E Q : Value → Shared → Prop} {h₀ : Heap} {L D : Addr} {m : Str → Option Value} {news news' : List (Addr × Obj)} {acc pre post : List (Value × Nat)} {q : Value × Nat} {v : Value} {c n : Nat}
theorem erase_mid : ((pre ++ q :: post).map (·.1)).toArray.eraseIdxIfInBounds pre.length = ((pre ++ post).map (·.1)).toArray := by
  unfold Array.eraseIdxIfInBounds
  rw [dif_pos (by simp)]
  apply Array.ext'
  simp [List.eraseIdx_append_of_length_le]

theorem remove_found (Fh : Fr h₀ L s.heap m) (N : News h₀ L s.heap news) (U : Upd D (listOf ((pre ++ q :: post).map (·.1)).toArray n) (listOf ((pre ++ post).map (·.1)).toArray (n + 1)) news news')
    (hn : ∀ r ∈ pre ++ q :: post, r.2 < 2 ^ 12 ∧ Nst s.heap r.1 r.2) (hc : c < 2 ^ 12) (hv : Nst s.heap v c) (hq : q.2 = c) (hpre : ∀ r ∈ pre, r.2 ≠ c) (hsz : (pre ++ q :: post).length ≤ 1000) (hu : A.units + 6 < cLine)
    (h : ∀ h', Fr h₀ L h' m → News h₀ L h' news' → Q .none { s with heap := h' }) : wpAny (model prog w) A (call (.builtin "list.remove") [.ref D, v]) Q E s := by
  obtain ⟨pr, po, rfl, rfl, a, b⟩ := U.split
  have z := N (D, listOf ((pre ++ q :: post).map (·.1)).toArray n) (List.mem_append.mpr (.inr (.head _)))
  have hlen : ((pre ++ q :: post).map (·.1)).toArray.size = (pre ++ q :: post).length := by simp
  have hget : ∀ i (hi : i < ((pre ++ q :: post).map (·.1)).toArray.size), ((pre ++ q :: post).map (·.1)).toArray[i] = ((pre ++ q :: post)[i]'(by rw [hlen] at hi; exact hi)).1 := by
    intro i hi; rw [List.getElem_toArray, List.getElem_map]
  refine call_meets F.slot_list_remove ⟨_, z.1, rfl⟩ F.entry_list_remove (F.args_list_remove_2 _ _)
    (list_removeAt D ((pre ++ q :: post).map (·.1)).toArray n v (fun i => decide (((pre ++ q :: post)[i]?.map (·.2)) = some c)) pre.length (by simp) (by simp [hq]) (fun i hi hlt => by
      rw [List.getElem?_append_left hlt]
      simp only [List.getElem?_eq_getElem hlt, Option.map_some, Option.some.injEq]
      exact decide_eq_false (hpre _ (List.getElem_mem hlt))) (by rw [hlen, sizeLine_eq]; exact lek (by assumption) (by exact rfl))) ⟨z.1, ?_, ?_⟩
  · intro i hi
    have hi' : i < (pre ++ q :: post).length := by rw [hlen] at hi; exact hi
    have e := hget i hi
    rw [e]
    have hr := hn _ (List.getElem_mem hi')
    have := Nst.eqAt (A := A.in1) hr.1 hc hr.2 hv (by show A.units + 1 + 4 < cLine; exact rm2 (by assumption) (by exact rfl))
    rw [List.getElem?_eq_getElem hi']
    simpa using this
  · have ho := get?_update_seq (h := s.heap) (a := D) (c := "list") (xs := ((pre ++ q :: post).map (·.1)).toArray) (n := n) z.1 (fun xs => xs.eraseIdxIfInBounds pre.length)
    have hs : Heap.SameBut D s.heap (s.heap.update D (Obj.mapSeq fun xs => xs.eraseIdxIfInBounds pre.length)) := by
      exact Heap.SameBut.update _ _ _
    rw [erase_mid] at ho
    rw [if_neg (by simp)] at ho
    exact h _ (Fh.change hs z.2.1 z.2.2) (news_set N a b hs ho)

theorem remove_none (z : s.heap.get? D = some (listOf (acc.map (·.1)).toArray n))
    (hn : ∀ r ∈ acc, r.2 < 2 ^ 12 ∧ Nst s.heap r.1 r.2) (hc : c < 2 ^ 12) (hv : Nst s.heap v c) (hno : ∀ r ∈ acc, r.2 ≠ c) (hu : A.units + 6 < cLine) (hh : A.handled = none)
    (h : ∀ h' tk e, Heap.NewExc s.heap h' e "ValueError" → E (.ref e) { s with heap := h', toks := tk }) : wpAny (model prog w) A (call (.builtin "list.remove") [.ref D, v]) Q E s := by
  have hlen : (acc.map (·.1)).toArray.size = acc.length := by simp
  have hget : ∀ i (hi : i < (acc.map (·.1)).toArray.size), (acc.map (·.1)).toArray[i] = (acc[i]'(by rw [hlen] at hi; exact hi)).1 := by
    intro i hi; rw [List.getElem_toArray, List.getElem_map]
  refine call_meets F.slot_list_remove ⟨_, z, rfl⟩ F.entry_list_remove (F.args_list_remove_2 _ _) (list_remove_noneAt D (acc.map (·.1)).toArray n v) ⟨z, ?_, hh, h⟩
  intro i hi
  have hi' : i < acc.length := by rw [hlen] at hi; exact hi
  rw [hget i hi]
  have hr := hn _ (List.getElem_mem hi')
  have := Nst.eqAt (A := A.in1) hr.1 hc hr.2 hv (by show A.units + 1 + 4 < cLine; exact rm2 (by assumption) (by exact rfl))
  have e : decide (acc[i].2 = c) = false := decide_eq_false (hno _ (List.getElem_mem hi'))
  rwa [e] at this
end
end

/- NI -/
theorem offNI : True := by
  w_top off
  exact trivial
section
open PySem PySem.W PyProof.Rows PySem.Spec PySem.Calls PySem.SeqAt PyProof.V
set_option Elab.async false
set_option maxRecDepth 100000
set_option maxHeartbeats 2000000
noncomputable def rem1 (c : Nat) : List (Value × Nat) → Option (List (Value × Nat))
  | [] => none
  | q :: r => if q.2 = c then some r else (rem1 c r).map (q :: ·)
noncomputable def remAll : List (Value × Nat) → List (Value × Nat) → Option (List (Value × Nat))
  | [], acc => some acc
  | p :: r, acc => (rem1 p.2 acc).bind (remAll r)
noncomputable def cmpo (ps qs : List (Value × Nat)) : Bool := match remAll (dd ps) (dd qs) with
  | none => false
  | some t => t.isEmpty
theorem rem1_some {c : Nat} : ∀ {acc t : List (Value × Nat)}, rem1 c acc = some t → ∃ pre q post, acc = pre ++ q :: post ∧ q.2 = c ∧ (∀ r ∈ pre, r.2 ≠ c) ∧ t = pre ++ post
  | [], _, h => by cases h
  | q :: r, t, h => by
    rw [rem1] at h
    split at h
    · cases h; exact ⟨[], q, r, rfl, by assumption, (fun _ h => nomatch h), rfl⟩
    · cases hr : rem1 c r with
      | none => rw [hr] at h; cases h
      | some t' =>
        rw [hr] at h
        cases h
        refine hideG fun G9 hG9 => ?_
        obtain ⟨pre, q', post, rfl, e, hp, rfl⟩ := rem1_some hr
        refine hG9 ?_
        clear hG9 G9
        exact ⟨q :: pre, q', post, rfl, e, (fun x hx => by rcases List.mem_cons.mp hx with rfl | hx; assumption; exact hp x hx), rfl⟩
theorem rem1_none {c : Nat} : ∀ {acc : List (Value × Nat)}, rem1 c acc = none → ∀ r ∈ acc, r.2 ≠ c
  | [], _ => fun _ h => nomatch h
  | q :: r, h => by
    rw [rem1] at h
    split at h
    · cases h
    · have hr : rem1 c r = none := by cases hr : rem1 c r with
        | none => rfl
        | some t' => rw [hr] at h; cases h
      intro x hx
      rcases List.mem_cons.mp hx with rfl | hx
      · assumption
      · exact rem1_none hr x hx
theorem remAll_snoc (p : Value × Nat) : ∀ (l acc : List (Value × Nat)), remAll (l ++ [p]) acc = (remAll l acc).bind (rem1 p.2)
  | [], acc => by
    show (rem1 p.2 acc).bind (remAll []) = rem1 p.2 acc
    cases rem1 p.2 acc <;> rfl
  | q :: r, acc => by
    show (rem1 q.2 acc).bind (remAll (r ++ [p])) = ((rem1 q.2 acc).bind (remAll r)).bind (rem1 p.2)
    cases rem1 q.2 acc with
    | none => rfl
    | some t => exact remAll_snoc p r t
theorem remAll_sub : ∀ {l acc t : List (Value × Nat)}, remAll l acc = some t → (∀ q ∈ t, q ∈ acc) ∧ t.length ≤ acc.length
  | [], acc, t, h => by cases h; exact ⟨fun _ h => h, Nat.le_refl _⟩
  | p :: r, acc, t, h => by
    rw [remAll] at h
    cases hr : rem1 p.2 acc with
    | none => rw [hr] at h; cases h
    | some t' =>
      rw [hr] at h
      have ih := remAll_sub (l := r) (acc := t') (t := t) h
      refine hideG fun G9 hG9 => ?_
      obtain ⟨pre, q', post, rfl, _, _, rfl⟩ := rem1_some hr
      refine hG9 ?_
      clear hG9 G9
      refine ⟨fun q hq => ?_, ?_⟩
      · rcases List.mem_append.mp (ih.1 q hq) with h | h
        · exact List.mem_append_left _ h
        · exact List.mem_append_right _ (.tail _ h)
      · have := ih.2; simp only [List.length_append, List.length_cons] at *; exact Nat.le_succ_of_le this
theorem remAll_none {l l' acc : List (Value × Nat)} (h : remAll l acc = none) : remAll (l ++ l') acc = none := by
  induction l generalizing acc with
  | nil => cases h
  | cons p r ih =>
    rw [List.cons_append, remAll]
    rw [remAll] at h
    cases hr : rem1 p.2 acc with
    | none => rfl
    | some t => rw [hr] at h; exact ih h

section
variable {prog : Program} {w : World} {mean : ExcName → Option Value} {mg mb : Str → Option Value} {A : Around} {h₀ : Heap} {L : Addr} {m : Str → Option Value} {news : List (Addr × Obj)} {s : Shared} {x y : Addr} {c d : Nat}
    {Q E : Value → Shared → Prop}


theorem cmp_orderless {l l' : Addr} {lo lo' : Obj} {nn nn' : Nat} {ps qs : List (Value × Nat)} {ev : Env} (F : Fr h₀ L s.heap m) (X : Frag.In (Mine.hd.heap_39 w.params) h₀) (N : News h₀ L s.heap news) (T : Top topProg loo mean mg mb h₀) (hh : A.handled = none)
    (hfr : A.frames = some [ev]) (hev : ev.scope.kind ≠ .module) (hevf : ev.frame = some L)
    (hlc : lo.cls = .type "list") (hld : lo.data = .seq (ps.map (·.1)).toArray nn) (hl : ∀ h, Has h₀ news h → h.get? l = some lo) (hp : ∀ p ∈ ps, NstK h₀ news p.1 p.2) (hsz : ps.length ≤ 1000)
    (hlc' : lo'.cls = .type "list") (hld' : lo'.data = .seq (qs.map (·.1)).toArray nn') (hl' : ∀ h, Has h₀ news h → h.get? l' = some lo') (hp' : ∀ p ∈ qs, NstK h₀ news p.1 p.2) (hsz' : qs.length ≤ 1000)
    (hd : A.depth + 20 < recursionLimit) (hu : A.units + 200 < cLine)
    (ret : ∀ h' tk', Fr h₀ L h' m → News h₀ L h' news → Q (.bool (cmpo ps qs)) { s with heap := h', toks := tk' }) :
    wpAny (model prog w) A (call (.ref 28) [.ref l, .ref l']) Q E s := by
  ((refine wpAny_call ?_; k_dflt (refine' enterT ?k2 ?k3 ?k4 ?k5 ?k6 ?k7 ?k8 ?k9 ?kB ?_ ?c2 ?c3 ?c4 ?c5; (case k2 => k_asm); (case k3 => k_asm); (case k4 => k_asm); (case k5 => k_asm); (case k6 => k_is); (case k7 => k_is); (case k8 => (((try dsimp only [depth_deeper, depth_in1]); (first | exact rm3 (by assumption) (by exact rfl) | exact rm2 (by assumption) (by exact rfl) | exact rm1 (by assumption) (by exact rfl) | exact rm0 (by assumption) | exact rm00 (by assumption) | exact rmd (by assumption) (by exact rfl) | assumption | omega)))); (case k9 => exact BindsTo.of_eq rfl); (case c5 => decide); (case kB => exact locs rfl); (case c2 => exact rfl); (case c3 => exact rfl); (case c4 => exact rfl); k_whole); intro _ _ _ _ _ _ _; (try dsimp only); (try k_fold)))
  rename_i oL L1 hh1 C neL F1 N1
  have back : ∀ (h : Heap) (tk : Nat) (nx : List (Addr × Obj)) (sl : Array (Option Value)) (m' : Str → Option Value), Fr h₀ L1 h m' → News h₀ L1 h nx → (∀ p ∈ news, p ∈ nx) → (L, { oL with slots := sl }) ∈ nx → Q (.bool (cmpo ps qs)) { s with heap := h, toks := tk } := by
    intro h tk nx sl m' F' N' hs hL
    exact ret h tk ⟨C.ns _ sl (N' _ hL).1, F'.keep, C.above⟩ fun p hp => ⟨(N' p (hs p hp)).1, neL p hp, (N' p (hs p hp)).2.2⟩
  have hsubN : ∀ p ∈ news, p ∈ news ++ [(L, oL)] := fun p hp => List.mem_append_left _ hp
  have hp1 : ∀ p ∈ ps, NstK h₀ (news ++ [(L, oL)]) p.1 p.2 := fun p h => (hp p h).mono (fun _ _ e => e) hsubN
  have hl1 : ∀ h, Has h₀ (news ++ [(L, oL)]) h → h.get? l = some lo := fun h H => hl h ⟨H.1, fun p hp => H.2 p (hsubN p hp)⟩
  have hp2 : ∀ p ∈ qs, NstK h₀ (news ++ [(L, oL)]) p.1 p.2 := fun p h => (hp' p h).mono (fun _ _ e => e) hsubN
  have hl2 : ∀ h, Has h₀ (news ++ [(L, oL)]) h → h.get? l' = some lo' := fun h H => hl' h ⟨H.1, fun p hp => H.2 p (hsubN p hp)⟩
  k_steps
  refine dedup (ps := ps) F1 X N1 T hh hlc hld hl1 hp1 hsz (by ((try dsimp only [depth_deeper, depth_in1]); exact rm2 (by assumption) (by exact rfl))) (by ((try dsimp only [units_deeper, units_in1, Around.mark_units]); exact rm2 (by assumption) (by exact rfl))) ?_
  intro b1 n1 h1 tk1 F2 N2 lt1
  clear F1 N1
  k_steps
  rename Fr _ _ _ _ => F3
  rename News _ _ _ _ => N3
  refine dedup (ps := qs) F3 X N3 T hh hlc' hld' (fun h H => hl2 h ⟨H.1, fun p hp => H.2 p (.tail _ hp)⟩) (fun p h => (hp2 p h).mono (fun _ _ e => e) (fun _ h => .tail _ h)) hsz' (by ((try dsimp only [depth_deeper, depth_in1]); exact rm2 (by assumption) (by exact rfl))) (by ((try dsimp only [units_deeper, units_in1, Around.mark_units]); exact rm2 (by assumption) (by exact rfl))) ?_
  intro b2 n2 h2 tk2 F4 N4 lt2
  clear F3 N3
  k_steps
  rename Fr _ _ _ _ => F5
  rename News _ _ _ _ => N5
  refine list_copyK F5 N5 ⟨_, (N5 _ (.head _)).1, rfl, n2, rfl⟩ ?_ (by simp only [List.size_toArray, List.length_map, sizeLine_eq]; exact lek (Nat.le_trans (dd_len qs) (by assumption)) (by exact rfl))
  intro D nD h3 F6 N6 lt3
  clear F5 N5
  iterate 5 walk1
  rename Fr _ _ _ _ => lF'
  with_unfolding_all refine' For_invVF lF' ?k1 ?k2 ?_; (case k1 => exact rfl); (case k2 => exact rfl); k_whole
  k_steps
  rename Fr _ _ _ _ => F7
  rename News _ _ _ _ => N7
  generalize hnw : news ++ [(L, oL)] = nw at *
  have hddp : ∀ p ∈ dd ps, NstK h₀ nw p.1 p.2 := fun p h => hp1 p ((ddGo_sub _ _ _ h).resolve_left (fun h => nomatch h))
  have hddq : ∀ p ∈ dd qs, NstK h₀ nw p.1 p.2 := fun p h => hp2 p ((ddGo_sub _ _ _ h).resolve_left (fun h => nomatch h))
  have hlq : (dd qs).length ≤ 1000 := Nat.le_trans (dd_len qs) (by assumption)
  have hbL : b1 ≠ L1 := (N7 _ (.tail _ (.tail _ (.head _)))).2.1
  have hLnw : (L, oL) ∈ nw := by rw [← hnw]; exact List.mem_append_right _ (.head _)
  have ltD : ∀ p ∈ (b2, W.listOf ((dd qs).map (·.1)).toArray n2) :: (b1, W.listOf ((dd ps).map (·.1)).toArray n1) :: nw, p.1 ≠ D := fun p hp => Nat.ne_of_lt (lt3 p hp)
  refine iter_map (lo := W.listOf ((dd ps).map (·.1)).toArray n1) (vs := (dd ps).map (·.1)) (nn := n1) []
    (fun i nx => ∃ t n, remAll ((dd ps).take i) (dd qs) = some t ∧ nx = (D, W.listOf (t.map (·.1)).toArray n) :: (b2, W.listOf ((dd qs).map (·.1)).toArray n2) :: (b1, W.listOf ((dd ps).map (·.1)).toArray n1) :: nw)
    hh rfl rfl (fun i nx hj h H => by obtain ⟨t, n, _, rfl⟩ := hj; exact H.2 _ (.tail _ (.tail _ (.head _)))) hbL F7 N7 ⟨dd qs, nD, rfl, rfl⟩ ?turn ?done
  case turn =>
    rintro i v u news₁ h4 tk4 own hv hadr hoff ⟨t, n, hrem, rfl⟩ F8 N8
    obtain ⟨p, hpi, rfl⟩ : ∃ p, (dd ps)[i]? = some p ∧ p.1 = v := by
      rw [List.getElem?_map] at hv
      cases hpi : (dd ps)[i]? with
      | none => rw [hpi] at hv; cases hv
      | some p => rw [hpi] at hv; exact ⟨p, rfl, Option.some.inj hv⟩
    have hpn := hddp p (List.mem_of_getElem? hpi)
    have htk : (dd ps).take (i + 1) = (dd ps).take i ++ [p] := by rw [List.take_add_one, hpi]; rfl
    have hrem2 : remAll ((dd ps).take (i + 1)) (dd qs) = rem1 p.2 t := by rw [htk, remAll_snoc, hrem]; rfl
    have hts := remAll_sub hrem
    clear F7 N7
    replace N8 : News h₀ L1 h4 ((D, W.listOf (t.map (·.1)).toArray n) :: ((b2, W.listOf ((dd qs).map (·.1)).toArray n2) :: (b1, W.listOf ((dd ps).map (·.1)).toArray n1) :: (nw ++ own))) := N8
    have hsub : ∀ p ∈ nw, p ∈ (D, W.listOf (t.map (·.1)).toArray n) :: ((b2, W.listOf ((dd qs).map (·.1)).toArray n2) :: (b1, W.listOf ((dd ps).map (·.1)).toArray n1) :: (nw ++ own)) := fun p h => .tail _ (.tail _ (.tail _ (List.mem_append_left _ h)))
    have htn : ∀ r ∈ t, r.2 < 2 ^ 12 ∧ Nst h4 r.1 r.2 := fun r hr => ⟨(hddq r (hts.1 r hr)).lt, (hddq r (hts.1 r hr)).now F8 N8 hsub⟩
    have hall : ∀ p ∈ ((b2, W.listOf ((dd qs).map (·.1)).toArray n2) :: (b1, W.listOf ((dd ps).map (·.1)).toArray n1) :: (nw ++ own)), p.1 ≠ D := by
      intro p hp
      rcases List.mem_cons.mp hp with rfl | hp
      · exact ltD _ (.head _)
      rcases List.mem_cons.mp hp with rfl | hp
      · exact ltD _ (.tail _ (.head _))
      rcases List.mem_append.mp hp with hp | hp
      · exact ltD _ (.tail _ (.tail _ hp))
      · exact hoff p hp D (.head _)
    k_steps
    cases hr : rem1 p.2 t with
    | none =>
      refine remove_none (acc := t) (N8 _ (.head _)).1 htn hpn.lt (hpn.now F8 N8 hsub) (rem1_none hr) (by ((try dsimp only [units_deeper, units_in1, Around.mark_units]); exact rm2 (by assumption) (by exact rfl))) hh ?_
      intro h5 tk5 e5 hx
      have hnone : remAll (dd ps) (dd qs) = none := by
        rw [← List.take_append_drop (i + 1) (dd ps)]
        exact remAll_none (by rw [hrem2, hr])
      have hcm : cmpo ps qs = false := by unfold cmpo; rw [hnone]
      rw [hcm] at back
      have N9 : News h₀ L1 h4 (news ++ [(L, oL)]) := fun p hp => N8 p (hsub p (by rw [← hnw]; exact hp))
      refine TLg.noted_newA (new := news) (frs := [(L, oL)]) hfr ⟨hev, hevf, C.dict, trivial⟩ hx F8 N9 (fun p hp hm => ?_) (fun h' frs' SU Fs' H => ?_)
      · rcases List.mem_cons.mp hm with q | hm
        · exact (N9 p (List.mem_append_left _ hp)).2.1 q
        · exact neL p hp (List.mem_singleton.mp hm)
      · obtain ⟨sl, rfl⟩ := TLg.one_up SU
        clear F8 N8 N9
        k_steps
        refine Ox.go (by assumption) (by intro h; cases h) ?_
        (try dsimp only)
        k_steps
        rename Fr _ _ _ _ => F10
        rename News _ _ _ _ => N10
        exact back _ _ _ sl _ F10 N10 (fun p hp => List.mem_append_left _ hp) (List.mem_append_right _ (.head _))
    | some t' =>
      refine hideG fun G9 hG9 => ?_
      obtain ⟨pre, q, post, rfl, e, hpre, rfl⟩ := rem1_some hr
      refine hG9 ?_
      clear hG9 G9
      refine remove_found (pre := pre) (post := post) (q := q) F8 N8 (Upd.head hall) htn hpn.lt (hpn.now F8 N8 hsub) e hpre (by omega) (by ((try dsimp only [units_deeper, units_in1, Around.mark_units]); exact rm2 (by assumption) (by exact rfl))) ?_
      intro h5 F9 N9
      k_steps
      refine ⟨_, _, _, _, (D, W.listOf ((pre ++ post).map (·.1)).toArray (n + 1)) :: (b2, W.listOf ((dd qs).map (·.1)).toArray n2) :: (b1, W.listOf ((dd ps).map (·.1)).toArray n1) :: nw, rfl, F9, N9, ?_, ?_, rfl, ?_, pre ++ post, n + 1, by rw [hrem2, hr], rfl⟩
      · intro q hq
        rcases List.mem_cons.mp hq with rfl | hq
        · exact .head _
        rcases List.mem_cons.mp hq with rfl | hq
        · exact .tail _ (.head _)
        rcases List.mem_cons.mp hq with rfl | hq
        · exact .tail _ (.tail _ (.head _))
        · exact .tail _ (.tail _ (.tail _ (List.mem_append_left _ hq)))
      · exact fun q hq => .tail _ (.tail _ (.tail _ (List.mem_append_right _ hq)))
      · intro z hz
        exact if_neg (fun e => hz (by rw [e]; exact .head _))
  case done =>
    rintro u news₁ h4 tk4 hadr ⟨t, n, hrem, rfl⟩ F8 N8
    have hts := remAll_sub hrem
    clear F7 N7
    dsimp only
    k_steps
    have htl : (dd ps).take ((dd ps).map (·.1)).length = dd ps := by rw [List.length_map, List.take_length]
    rw [htl] at hrem
    have hcm : cmpo ps qs = !!(t.map (·.1)).isEmpty := by unfold cmpo; rw [hrem]; cases t <;> rfl
    rw [← hcm]
    exact back _ _ _ oL.slots _ F8 N8 (fun p hp => .tail _ (.tail _ (.tail _ (hsubN p hp)))) (.tail _ (.tail _ (.tail _ hLnw)))
end
end

/- NJ -/
theorem offNJ : True := by
  w_top off
  exact trivial
section
open PySem PySem.W PyProof.Rows PySem.Spec PySem.Calls PySem.SeqAt PyProof.V
set_option Elab.async false
set_option maxRecDepth 100000
set_option maxHeartbeats 2000000

theorem over1 {z : Str} {val : Value} {u m₀ : Str → Option Value} (hu : u z = some val) : over [z] u m₀ = fun y => if y = z then some val else m₀ y := by
  funext y
  show (if y = z then u y else m₀ y) = _
  by_cases h : y = z
  · rw [if_pos h, if_pos h, h, hu]
  · rw [if_neg h, if_neg h]
theorem over2 {x z : Str} {val : Value} {u m₀ : Str → Option Value} (hu : u z = some val) : over [x, z] u m₀ = fun y => if y = x then u y else if y = z then some val else m₀ y := by
  show (fun y => if y = x then u y else over [z] u m₀ y) = _
  rw [over1 hu]
section
variable {prog : Program} {w : World} {A : Around} {E : Value → Shared → Prop} {s : Shared} {env : Env} {h₀ : Heap} {x : Str} {body : List Stmt} {Q : Flow → Shared → Prop}
theorem loop_gm {I l : Addr} {lo : Obj} {vs : List Value} {nn i0 : Nat} {m₀ : Str → Option Value} {news : List (Addr × Obj)} (st : List Str) (J : Nat → (Str → Option Value) → List (Addr × Obj) → Prop)
    (hh : A.handled = none) (hc : lo.cls = .type "list") (hd : lo.data = .seq vs.toArray nn) (hget : ∀ i m nx, J i m nx → ∀ h, Has h₀ nx h → h.get? l = some lo) (hlL : l ≠ env.locals) (hIL : I ≠ env.locals) (hIl : l ≠ I)
    (hI : s.heap.IsListIter I l i0) (hI0 : h₀.get? I = none) (hIn : ∀ p ∈ news, p.1 ≠ I) (hi0 : i0 ≤ vs.length)
    (F : Fr h₀ env.locals s.heap m₀) (N : News h₀ env.locals s.heap news) (hj : J 0 m₀ news)
    (turn : ∀ i v u news₁ h tk own, vs[i0 + i]? = some v → J i u news₁ → (∀ p ∈ own, p.1 = I) → (∃ o, (I, o) ∈ own) → (∀ p ∈ news₁, p.1 ≠ I) → Fr h₀ env.locals h (fun y => if y = x then some v else over st u m₀ y) → News h₀ env.locals h (news₁ ++ own) →
      wpAny (model prog w) A (execs body env) (PostG h₀ env.locals I own (fun m' nx => (∀ z, z ∉ x :: st → m' z = m₀ z) ∧ J (i + 1) m' nx) s Q) E { s with heap := h, toks := tk })
    (done : ∀ u news₁ h tk, J (vs.length - i0) u news₁ → Fr h₀ env.locals h (over (x :: st) u m₀) → News h₀ env.locals h news₁ → Q .next { s with heap := h, toks := tk }) :
    LoopAtV prog w A h₀ env x body Q E (.ref I) s := by
  refine loop_g (fun i m' nx => (∀ z, z ∉ x :: st → m' z = m₀ z) ∧ J i m' nx) hh hc hd (fun i m' nx hj => hget i m' nx hj.2) hlL hIL hIl hI hI0 hIn hi0 F N ⟨fun _ _ => rfl, hj⟩ ?_ ?_
  · rintro i v m₁ news₁ h tk own hv ⟨hm, hJ⟩ ho hoI hnI F1 N1
    have e : (fun y => if y = x then some v else m₁ y) = fun y => if y = x then some v else over st m₁ m₀ y := by
      funext y
      by_cases hy : y = x
      · simp [hy]
      · simp only [if_neg hy]
        have := congrFun (over_eq (m := m₀) (m' := m₁) (st := x :: st) hm) y
        rw [this]
        show (if y = x then m₁ y else over st m₁ m₀ y) = _
        rw [if_neg hy]
    rw [e] at F1
    exact turn i v m₁ news₁ h tk own hv hJ ho hoI hnI F1 N1
  · rintro m₁ news₁ h tk ⟨hm, hJ⟩ F1 N1
    have e := over_eq (m := m₀) (m' := m₁) (st := x :: st) hm
    exact done m₁ news₁ h tk hJ (e ▸ F1) N1
end

noncomputable abbrev itObj (l : Addr) (i : Nat) : Obj := { cls := .type "list_iterator", data := .fields #[.ref l, .int i 0] }
section
variable {prog : Program} {w : World} {A : Around} {E Q : Value → Shared → Prop} {s : Shared} {h₀ : Heap} {L : Addr} {m : Str → Option Value} {news : List (Addr × Obj)}
theorem iterK {l : Addr} {items : Array Value} (F : Fr h₀ L s.heap m) (N : News h₀ L s.heap news) (hl : s.heap.IsList l items)
    (h : ∀ I h', Fr h₀ L h' m → News h₀ L h' ((I, itObj l 0) :: news) → (∀ p ∈ news, p.1 < I) → Q (.ref I) { s with heap := h' }) :
    wpAny (model prog w) A (call (.builtin "iter") [.ref l]) Q E s := by
  refine call_function_entry (by decide +kernel) (by decide +kernel) kdk_entry_iter (kdk_args_iter _) ?_
  unfold Builtin.«iter»
  refine wpAny_bind (m := someArgs "iter" 1 2 _) (wpAny_of_eq (a := [Value.ref l]) (by first | rfl | kernel_rfl!) ?_)
  show wpAny _ _ (pyIter (.ref l) >>= _) _ _ _
  refine wpAny_bind (wpAny_pyIter_list hl ?_)
  exact wpAny_pure ⟨_, rfl, h _ _ (F.push _) (News.push F N _ rfl) (fun q hq => Heap.lt_size (N q hq).1)⟩

theorem is_other' {x y : Addr} {ox oy : Obj} (hxy : x ≠ y) (hx : s.heap.get? x = some ox) (hy : s.heap.get? y = some oy) (hnt : oy.cls ≠ .type "tuple") {M : Model}
    (h : Q (.bool false) s) : wpAny M A (compareOp .Is (.ref x) (.ref y)) Q E s := by
  show wpAny M A (do return .bool (← isSame (.ref x) (.ref y))) Q E s
  exact wpAny_bind (wpAny_isSame_ref_other' hxy hx hy hnt (wpAny_pure h))
end
end

/- NK -/
theorem offNK : True := by
  w_top off
  exact trivial
section
open PySem PySem.W PyProof.Rows PySem.Spec PySem.Calls PySem.SeqAt PyProof.V
set_option Elab.async false
set_option maxRecDepth 100000
set_option maxHeartbeats 2000000

section
variable {prog : Program} {w : World} {mean : ExcName → Option Value} {mg mb : Str → Option Value} {A : Around} {h₀ : Heap} {L : Addr} {m : Str → Option Value} {news : List (Addr × Obj)} {s : Shared} {x y : Addr} {c d : Nat}
    {Q E : Value → Shared → Prop}


noncomputable def ReadC (prog : Program) (w : World) (mean : ExcName → Option Value) (mg mb : Str → Option Value) (c k : Nat) : Prop :=
  ∀ (A : Around) (h₀ : Heap) (L : Addr) (m : Str → Option Value) (news : List (Addr × Obj)) (s : Shared) (x : Addr) (Q E : Value → Shared → Prop), Fr h₀ L s.heap m → Frag.In (Mine.hd.heap_39 w.params) h₀ → News h₀ L s.heap news → Top topProg loo mean mg mb h₀ → A.handled = none →
    NstK h₀ news (.ref x) c → A.depth + 6 * k + 20 < recursionLimit → A.units + 60 * k + 100 < cLine →
    (∀ t h' tk', Fr h₀ L h' m → News h₀ L h' news → Q (.int c t) { s with heap := h', toks := tk' }) → wpAny (model prog w) A (call (.ref 96) [.ref x]) Q E s

theorem step_of {k p : Nat} {num place : Int} {tp : Addr} {t1 t2 : Tok} {n : Nat} (IH : ReadC prog w mean mg mb p k) (F : Fr h₀ L s.heap m) (X : Frag.In (Mine.hd.heap_39 w.params) h₀) (N : News h₀ L s.heap news) (T : Top topProg loo mean mg mb h₀) (hh : A.handled = none)
    (nx : NstK h₀ news (.ref x) p) (htp : (tp, ({ cls := .type "tuple", data := .seq #[.int num t1, .int place t2] n } : Obj)) ∈ news) (h0 : 0 ≤ num) (h1 : num ≤ 4096) (h2 : (p : Int) ≤ place) (h3 : place ≤ 12)
    (hd : A.depth + 6 * k + 22 < recursionLimit) (hu : A.units + 60 * k + 120 < cLine)
    (ret : ∀ b u1 u2 n' h' tk', Fr h₀ L h' m → News h₀ L h' ((b, ({ cls := .type "tuple", data := .seq #[.int (num * 2 ^ (place - p).toNat + 1) u1, .int p u2] n' } : Obj)) :: news) → (∀ q ∈ news, q.1 < b) → Q (.ref b) { s with heap := h', toks := tk' }) :
    wpAny (model prog w) A (call (.ref 89) [.ref tp, .ref x]) Q E s := by
  obtain ⟨hA, dp, fr, gd, un⟩ := A
  dsimp only at hh hd hu
  subst hh
  ((refine wpAny_call ?_; k_dflt (refine' enterN ?k2 ?k3 ?k4 ?k5 ?k6 ?k7 ?k8 ?k9 ?kB ?_ ?c2 ?c3 ?c4 ?c5; (case k2 => k_asm); (case k3 => k_asm); (case k4 => k_asm); (case k5 => k_asm); (case k6 => k_is); (case k7 => k_is); (case k8 => (((try dsimp only [depth_deeper, depth_in1]); (first | exact rm3 (by assumption) (by exact rfl) | exact rm2 (by assumption) (by exact rfl) | exact rm1 (by assumption) (by exact rfl) | exact rm0 (by assumption) | exact rm00 (by assumption) | exact rmd (by assumption) (by exact rfl) | assumption | omega)))); (case k9 => first | exact binds_K (by k_in) rfl (by k_is) rfl rfl rfl | exact BindsTo.of_eq rfl); (case c5 => decide); (case kB => exact locs rfl); (case c2 => exact rfl); (case c3 => exact rfl); (case c4 => exact rfl); k_whole); intro _ _ _ _ _ _ _ _ _; (try dsimp only); (try k_fold)))
  rename Fr h₀ L _ m => FG
  replace nx := nx.mono FG.keep (fun _ h => h)
  iterate 3 walk1
  k_dflt (refine' unpackN_ ?k1 ?k2 ?k3 ?k4 ?k5 ?k6 ?_; (case k1 => k_asm); (case k2 => k_asm); (case k3 => exact News.isTup (by k_asm) (by assumption)); (case k4 => exact rfl); (case k5 => exact rfl); (case k6 => exact rfl); k_whole); intro h' F' N'; (try k_sweep)
  k_steps
  refine IH _ _ _ _ _ _ _ _ _ (by k_asm) (by k_asm) (by k_asm) (by k_asm) rfl nx (by ((try dsimp only [depth_deeper, depth_in1]); exact rmd1 (by assumption) (by exact rfl))) (by ((try dsimp only [units_deeper, units_in1, Around.mark_units]); exact rmd1 (by assumption) (by exact rfl))) ?_
  intro tr hr tkr Fr1 Nr1
  have hp12 := nx.lt
  k_steps
  exact ret _ _ _ _ _ _ (by assumption) (by assumption) (by assumption)

theorem bitsD_desc : ∀ (k n : Nat), (bitsD k n).Pairwise (· > ·)
  | 0, _ => .nil
  | k + 1, n => by
    unfold bitsD
    split
    · exact List.pairwise_cons.mpr ⟨fun p hp => (bitsD_lt hp).1, bitsD_desc k n⟩
    · exact bitsD_desc k n
theorem bitsD_sum : ∀ (k n : Nat), n < 2 ^ k → ((bitsD k n).map (fun p => 2 ^ p)).sum = n
  | 0, n, h => by simp at h; subst h; rfl
  | k + 1, n, h => by
    have hp : 2 ^ (k + 1) = 2 ^ k + 2 ^ k := by rw [Nat.pow_succ]; exact Nat.mul_two _
    have h0 : 0 < 2 ^ k := Nat.two_pow_pos k
    unfold bitsD
    by_cases hn : n < 2 ^ k
    · rw [if_neg (by rw [Nat.testBit_lt_two_pow hn]; simp)]
      exact bitsD_sum k n hn
    · have e1 : n / 2 ^ k = 1 := div1 (hp ▸ h) (Nat.le_of_not_lt hn)
      have ht : n.testBit k = true := by rw [Nat.testBit_eq_decide_div_mod_eq, e1]; rfl
      have e2 : n % 2 ^ k = n - 2 ^ k := by rw [Nat.mod_eq_sub_mod (by exact Nat.le_of_not_lt (by assumption)), Nat.mod_eq_of_lt (Nat.sub_lt_left_of_lt_add (Nat.le_of_not_lt hn) (hp ▸ h))]
      rw [if_pos ht, List.map_cons, List.sum_cons, ← bitsD_mod, bitsD_sum k _ (Nat.mod_lt _ h0), e2]
      exact Nat.add_sub_of_le (Nat.le_of_not_lt hn)
theorem take_sum_le (l : List Nat) (i : Nat) : (l.take i).sum ≤ l.sum := by
  have h : (l.take i ++ l.drop i).sum = l.sum := by rw [List.take_append_drop]
  rw [List.sum_append] at h
  exact h ▸ Nat.le_add_right _ _

structure Part (bs : List Nat) (i : Nat) (num place : Int) : Prop where
  n0 : 0 ≤ num
  p0 : 0 ≤ place
  p12 : place ≤ 12
  val : num * 2 ^ place.toNat = ((((bs.take i).map (fun p => 2 ^ p)).sum : Nat) : Int)
  nxt : ∀ (j p : Nat), i ≤ j → bs[j]? = some p → (p : Int) < place
  top : num * 2 ^ place.toNat ≤ 4096

theorem part_step {c i p : Nat} {num place : Int} (hP : Part (bitsD 12 c) i num place) (hb : (bitsD 12 c)[i]? = some p) (hc : c < 2 ^ 12) : Part (bitsD 12 c) (i + 1) (num * 2 ^ (place - p).toNat + 1) p := by
  have hpl := hP.nxt i p (Nat.le_refl _) hb
  have h12 := lt12 hb
  have hpow : (2 : Int) ^ place.toNat = 2 ^ (place - p).toNat * 2 ^ p := by
    rw [← Int.pow_add]; congr 1; exact tnadd (Int.le_of_lt hpl)
  have h2p : (0 : Int) < 2 ^ (place - p).toNat := Int.pow_pos (by decide)
  have hv : (num * 2 ^ (place - p).toNat + 1) * 2 ^ ((p : Int)).toNat = (((((bitsD 12 c).take (i + 1)).map (fun p => 2 ^ p)).sum : Nat) : Int) := by
    rw [Int.toNat_natCast, Int.add_mul, Int.one_mul, Int.mul_assoc, ← hpow, hP.val, List.take_add_one, hb, List.map_append, List.sum_append]
    simp
  refine ⟨?_, by exact Int.natCast_nonneg _, by exact ilel (by assumption) (by exact rfl), hv, ?_, ?_⟩
  · exact Int.add_nonneg (Int.mul_nonneg hP.n0 (Int.le_of_lt h2p)) (by decide)
  · intro j q hj hq
    have hd := bitsD_desc 12 c
    have hi : i < (bitsD 12 c).length := by
      rcases Nat.lt_or_ge i (bitsD 12 c).length with h | h
      · exact h
      · rw [List.getElem?_eq_none h] at hb; cases hb
    have hjl : j < (bitsD 12 c).length := by
      rcases Nat.lt_or_ge j (bitsD 12 c).length with h | h
      · exact h
      · rw [List.getElem?_eq_none h] at hq; cases hq
    have := List.pairwise_iff_getElem.mp hd i j hi hjl (by assumption)
    rw [List.getElem?_eq_getElem hi] at hb
    rw [List.getElem?_eq_getElem hjl] at hq
    have e1 := Option.some.inj hb
    have e2 := Option.some.inj hq
    rw [e1, e2] at this
    exact Int.ofNat_lt.mpr this
  · rw [hv]
    have h1 := take_sum_le ((bitsD 12 c).map (fun p => 2 ^ p)) (i + 1)
    rw [bitsD_sum 12 c hc, ← List.map_take] at h1
    exact Int.le_trans (Int.ofNat_le.mpr (Nat.le_trans h1 (Nat.le_of_lt hc))) (by decide)

inductive RedJ (c : Nat) (news : List (Addr × Obj)) (i : Nat) (u : Str → Option Value) (nx : List (Addr × Obj)) : Prop
  | mk (b : Addr) (num place : Int) (u1 u2 : Tok) (n' : Nat) (hu : u (Str.ofString "value") = some (.ref b)) (hb : (b, ({ cls := .type "tuple", data := .seq #[.int num u1, .int place u2] n' } : Obj)) ∈ nx) (hs : ∀ p ∈ news, p ∈ nx) (hP : Part (bitsD 12 c) i num place) : RedJ c news i u nx
theorem nst_ref {h₀ : Heap} {nx : List (Addr × Obj)} {v : Value} {c : Nat} (h : NstK h₀ nx v c) : ∃ a, v = .ref a := by cases h; exact ⟨_, rfl⟩
theorem reduce_of {k c : Nat} {tp : Addr} {t1 t2 : Tok} {n : Nat} (IH : ∀ (i p : Nat), (bitsD 12 c)[i]? = some p → ReadC prog w mean mg mb p k) (F : Fr h₀ L s.heap m) (X : Frag.In (Mine.hd.heap_39 w.params) h₀) (N : News h₀ L s.heap news) (T : Top topProg loo mean mg mb h₀) (hh : A.handled = none)
    (nx : NstK h₀ news (.ref x) c) (htp : (tp, ({ cls := .type "tuple", data := .seq #[.int 0 t1, .int 12 t2] n } : Obj)) ∈ news)
    (hd : A.depth + 6 * k + 24 < recursionLimit) (hu : A.units + 60 * k + 140 < cLine)
    (ret : ∀ b num place u1 u2 n' h' tk' nw, Part (bitsD 12 c) (bitsD 12 c).length num place → Fr h₀ L h' m → News h₀ L h' nw → (∀ p ∈ news, p ∈ nw) → (b, ({ cls := .type "tuple", data := .seq #[.int num u1, .int place u2] n' } : Obj)) ∈ nw → Q (.ref b) { s with heap := h', toks := tk' }) :
    wpAny (model prog w) A (call (.ref 72) [.ref 89, .ref x, .ref tp]) Q E s := by
  obtain ⟨hA, dp, fr, gd, un⟩ := A
  dsimp only at hh hd hu
  subst hh
  ((refine wpAny_call ?_; k_dflt (refine' enterN ?k2 ?k3 ?k4 ?k5 ?k6 ?k7 ?k8 ?k9 ?kB ?_ ?c2 ?c3 ?c4 ?c5; (case k2 => k_asm); (case k3 => k_asm); (case k4 => k_asm); (case k5 => k_asm); (case k6 => k_is); (case k7 => k_is); (case k8 => (((try dsimp only [depth_deeper, depth_in1]); (first | exact rm3 (by assumption) (by exact rfl) | exact rm2 (by assumption) (by exact rfl) | exact rm1 (by assumption) (by exact rfl) | exact rm0 (by assumption) | exact rm00 (by assumption) | exact rmd (by assumption) (by exact rfl) | assumption | omega)))); (case k9 => first | exact binds_K (by k_in) rfl (by k_is) rfl rfl rfl | exact BindsTo.of_eq rfl); (case c5 => decide); (case kB => exact locs rfl); (case c2 => exact rfl); (case c3 => exact rfl); (case c4 => exact rfl); k_whole); intro _ _ _ _ _ _ _ _ _; (try dsimp only); (try k_fold)))
  rename Fr h₀ L _ m => FG
  rename_i g1 L1 hh1 F1 N1 X1 T1 ltL
  replace nx := nx.mono FG.keep (fun _ h => h)
  have nx' := nx
  cases nx with
  | @mk _ lo vs nl _ hlo hlc hld hls hc12 hmem =>
  k_steps
  refine iterK F1 N1 ⟨_, hlo _ (has_of F1 N1 fun _ h => h), hlc, _, hld⟩ ?_
  intro I h2 F2 N2 ltI
  clear F1 N1
  k_steps
  rename Fr _ _ _ _ => F3
  rename News _ _ _ _ => N3
  k_dflt (refine' is_other' (kto_neNK N3 (.tail _ htp) X1 ?ka) (kto_N N3 (.tail _ htp)) (kto_K (Frag.In.keeps X1 F3.keep) ?kb) ?kc ?_; (case ka => k_is); (case kb => k_is); (case kc => kto_not))
  iterate 11 walk1
  rename Fr _ _ _ _ => lF'
  with_unfolding_all refine' For_invVF lF' ?k1 ?k2 ?_; (case k1 => exact rfl); (case k2 => exact rfl); k_whole
  k_steps
  rename Fr _ _ _ _ => F4
  rename News _ _ _ _ => N4
  have hIt := (N4 _ (.head _)).1
  have hxI : x ≠ I := by
    intro e
    have z := hlo _ (has_of F4 N4 fun _ h => .tail _ h)
    rw [e, hIt] at z
    have := (Option.some.inj z).symm ▸ hlc
    exact absurd (Value.type.inj this) (by decide)
  have N5 : News g1 L1 _ news := fun p hp => N4 p (.tail _ hp)
  refine wpAny_pyIter_listiter ⟨_, hIt, rfl, rfl⟩ (loop_gm (l := x) (lo := lo) (vs := vs.toList) (nn := nl) (i0 := 0) [Str.ofString "value"]
    (RedJ c news)
    rfl hlc (by rw [hld]) (fun i m' nx hj h H => by cases hj with | mk _ _ _ _ _ _ _ _ hs _ => exact hlo h ⟨H.1, fun p hp => H.2 p (hs p hp)⟩)
    (seq_ne_ns (hlo _ (has_of F4 N4 fun _ h => .tail _ h)) hld F4.ns) (N4 _ (.head _)).2.1 hxI ⟨_, hIt, rfl, rfl⟩ (N4 _ (.head _)).2.2 (fun p hp => Nat.ne_of_lt (ltI p hp)) (Nat.zero_le _) F4 N5
    ⟨tp, 0, 12, t1, t2, n, rfl, htp, fun _ h => h, ⟨by exact Int.natCast_nonneg _, by exact Int.natCast_nonneg _, by exact Int.natCast_nonneg _, by simp, fun j p _ hp => by have := lt12 hp; exact ilt (by assumption) (by exact rfl), by simp⟩⟩ ?turn ?done)
  case turn =>
    rintro i v u nx₁ h5 tk5 own hv ⟨b, num, place, u1, u2, n', hu', hb, hsub, hP⟩ hoI ⟨oI, hoI2⟩ hnI F5 N6
    rw [over1 hu'] at F5
    rw [Nat.zero_add] at hv
    have hi : i < vs.size := by
      rcases Nat.lt_or_ge i vs.size with h | h
      · exact h
      · rw [List.getElem?_eq_none (by simpa using h)] at hv; cases hv
    have hbi : (bitsD 12 c)[i]? = some ((bitsD 12 c)[i]'(by exact eqlt' (by assumption) (by assumption))) := List.getElem?_eq_getElem _
    generalize (bitsD 12 c)[i]'(by exact eqlt' (by assumption) (by assumption)) = p at hbi
    have hn := hmem i v p (by simpa using hv) hbi
    have hpl := hP.nxt i p (Nat.le_refl _) hbi
    clear F4 N4
    have hn' := hn.mono (fun _ _ e => e) (fun q hq => List.mem_append_left own (hsub q hq))
    obtain ⟨a, rfl⟩ := nst_ref hn
    k_steps
    have hnum : num ≤ 4096 := by
      have h1 := hP.top
      have h2 : (1 : Int) ≤ 2 ^ place.toNat := by have : (0 : Int) < 2 ^ place.toNat := Int.pow_pos (by decide); assumption
      have h3 : num * 1 ≤ num * 2 ^ place.toNat := Int.mul_le_mul_of_nonneg_left h2 hP.n0
      exact Int.le_trans (Int.le_of_eq (Int.mul_one num).symm) (Int.le_trans h3 h1)
    refine step_of (IH i p hbi) (by k_asm) (by k_asm) (by k_asm) (by k_asm) rfl hn' (List.mem_append_left _ hb) hP.n0 hnum (Int.le_of_lt (by assumption)) hP.p12 (by ((try dsimp only [depth_deeper, depth_in1]); exact rmd1 (by assumption) (by exact rfl))) (by ((try dsimp only [units_deeper, units_in1, Around.mark_units]); exact rmd1 (by assumption) (by exact rfl))) ?_
    intro b' w1 w2 n2 h6 tk6 F6 N7 lt6
    k_steps
    rename Fr _ _ _ _ => F7
    rename News _ _ _ _ => N8
    unfold PostG
    dsimp only
    refine ⟨_, _, _, (b', _) :: nx₁, rfl, F7, N8, ?_, ?_, RedJ.mk b' _ _ w1 w2 n2 rfl (.head _) (fun q hq => .tail _ (hsub q hq)) ?_⟩
    · intro q hq
      rcases List.mem_cons.mp hq with rfl | hq
      · exact Nat.ne_of_gt (lt6 _ (List.mem_append_right _ hoI2))
      · exact hnI q hq
    · intro z hz
      have h1 : z ≠ Str.ofString "element" := fun e => hz (by rw [e]; exact .head _)
      have h2 : z ≠ Str.ofString "value" := fun e => hz (by rw [e]; exact .tail _ (.head _))
      simp only [if_neg h1, if_neg h2]
    · exact part_step hP hbi hc12
  case done =>
    rintro u nx₁ h5 tk5 ⟨b, num, place, u1, u2, n', hu', hb, hsub, hP⟩ F5 N6
    clear F4 N4
    dsimp only
    rw [over2 hu'] at F5
    have hlen : vs.toList.length - 0 = (bitsD 12 c).length := by simp [hls]
    rw [hlen] at hP
    k_steps
    exact ret b num place u1 u2 n' _ _ nx₁ hP (by assumption) (by assumption) hsub hb

theorem law_read_step {k c : Nat} (hc : c < 2 ^ 12) (IH : ∀ (i p : Nat), (bitsD 12 c)[i]? = some p → ReadC prog w mean mg mb p k) : ReadC prog w mean mg mb c (k + 1) := by
  intro A h₀ L m news s x Q E F X N T hh nx hd hu ret
  obtain ⟨hA, dp, fr, gd, un⟩ := A
  dsimp only at hh hd hu
  subst hh
  ((refine wpAny_call ?_; k_dflt (refine' enterN ?k2 ?k3 ?k4 ?k5 ?k6 ?k7 ?k8 ?k9 ?kB ?_ ?c2 ?c3 ?c4 ?c5; (case k2 => k_asm); (case k3 => k_asm); (case k4 => k_asm); (case k5 => k_asm); (case k6 => k_is); (case k7 => k_is); (case k8 => (((try dsimp only [depth_deeper, depth_in1]); (first | exact rm3 (by assumption) (by exact rfl) | exact rm2 (by assumption) (by exact rfl) | exact rm1 (by assumption) (by exact rfl) | exact rm0 (by assumption) | exact rm00 (by assumption) | exact rmd (by assumption) (by exact rfl) | assumption | omega)))); (case k9 => first | exact binds_K (by k_in) rfl (by k_is) rfl rfl rfl | exact BindsTo.of_eq rfl); (case c5 => decide); (case kB => exact locs rfl); (case c2 => exact rfl); (case c3 => exact rfl); (case c4 => exact rfl); k_whole); intro _ _ _ _ _ _ _ _ _; (try dsimp only); (try k_fold)))
  rename Fr h₀ L _ m => FG
  rename_i g1 L1 hh1 F1 N1 X1 T1 ltL
  replace nx := nx.mono FG.keep (fun _ h => h)
  k_steps
  rename Fr _ _ _ _ => F2
  rename News _ _ _ _ => N2
  refine reduce_of IH F2 X1 N2 T1 rfl (nx.mono (fun _ _ e => e) (fun _ h => .tail _ h)) (.head _) (by ((try dsimp only [depth_deeper, depth_in1]); exact rmm (by assumption) (by exact rfl))) (by ((try dsimp only [units_deeper, units_in1, Around.mark_units]); exact rmm (by assumption) (by exact rfl))) ?_
  intro b num place u1 u2 n' h3 tk3 nw hP F3 N3 hsub hb
  have hv := hP.val
  have h0 := hP.n0
  have h1 := hP.p0
  have h2 := hP.p12
  have h3' := hP.top
  rw [List.take_length, bitsD_sum 12 c hc] at hv
  have hnum : num ≤ 4096 := by
    have h2 : (1 : Int) ≤ 2 ^ place.toNat := by have : (0 : Int) < 2 ^ place.toNat := Int.pow_pos (by decide); assumption
    have h3 : num * 1 ≤ num * 2 ^ place.toNat := Int.mul_le_mul_of_nonneg_left h2 hP.n0
    exact Int.le_trans (Int.le_of_eq (Int.mul_one num).symm) (Int.le_trans h3 (by rw [hv]; exact ilel (by assumption) (by decide)))
  clear F2 N2
  k_dflt (refine' unpackN_ ?k1 ?k2 ?k3 ?k4 ?k5 ?k6 ?_; (case k1 => k_asm); (case k2 => k_asm); (case k3 => exact News.isTup (by k_asm) (by assumption)); (case k4 => exact rfl); (case k5 => exact rfl); (case k6 => exact rfl); k_whole); intro h' F' N'; (try k_sweep)
  k_steps
  rw [hv]
  rename News h₀ L _ _ => N5
  exact ret _ _ _ (by assumption) (fun p hp => N5 p (hsub p (.tail _ hp)))

theorem law_read_all : ∀ (k c : Nat), c < tw k → c < 2 ^ 12 → ReadC prog w mean mg mb c (k + 1)
  | 0, c, h, hc => law_read_step hc fun i p hp => by rw [bits0 h] at hp; cases hp
  | k + 1, c, h, hc => law_read_step hc fun i p hp => law_read_all k p (tw_mem h hp) (by have := lt12 hp; exact lek (by assumption) (by exact rfl))

theorem law_read {c : Nat} (F : Fr h₀ L s.heap m) (X : Frag.In (Mine.hd.heap_39 w.params) h₀) (N : News h₀ L s.heap news) (T : Top topProg loo mean mg mb h₀) (hh : A.handled = none)
    (nx : NstK h₀ news (.ref x) c) (hd : A.depth + 60 < recursionLimit) (hu : A.units + 500 < cLine)
    (ret : ∀ t h' tk', Fr h₀ L h' m → News h₀ L h' news → Q (.int c t) { s with heap := h', toks := tk' }) : wpAny (model prog w) A (call (.ref 96) [.ref x]) Q E s :=
  law_read_all (prog := prog) (w := w) (mean := mean) (mg := mg) (mb := mb) 4 c (tw4 nx.lt) nx.lt _ _ _ _ _ _ _ _ _ F X N T hh nx (by exact rm2 (by assumption) (by exact rfl)) (by exact rm2 (by assumption) (by exact rfl)) ret
end
end

/- NL -/
theorem offNL : True := by
  w_top off
  exact trivial
section
open PySem PySem.W PyProof.Rows PySem.Spec PySem.Calls PySem.SeqAt PyProof.V
set_option Elab.async false
set_option maxRecDepth 100000
set_option maxHeartbeats 2000000
section
variable {prog : Program} {w : World} {A : Around} {E : Value → Shared → Prop} {env : Env}

inductive EltEnd (h₀ : Heap) (C : Addr) (own : List (Addr × Obj)) (J1 : Value → List (Addr × Obj) → Prop) (s₂ : Shared) (y : Value) (s₅ : Shared) : Prop
  | mk (h' : Heap) (tk' : Nat) (mc' : Str → Option Value) (nx' : List (Addr × Obj)) (q1 : s₅ = { s₂ with heap := h', toks := tk' }) (q2 : Fr h₀ C h' mc') (q3 : News h₀ C h' (nx' ++ own)) (q4 : ∀ p ∈ nx', ∀ q ∈ own, p.1 ≠ q.1) (q5 : J1 y nx') : EltEnd h₀ C own J1 s₂ y s₅
inductive SkipEnd (h₀ : Heap) (C : Addr) (own : List (Addr × Obj)) (J0 : List (Addr × Obj) → Prop) (s₂ : Shared) (s₅ : Shared) : Prop
  | mk (h' : Heap) (tk' : Nat) (mc' : Str → Option Value) (nx' : List (Addr × Obj)) (q1 : s₅ = { s₂ with heap := h', toks := tk' }) (q2 : Fr h₀ C h' mc') (q3 : News h₀ C h' (nx' ++ own)) (q4 : ∀ p ∈ nx', ∀ q ∈ own, p.1 ≠ q.1) (q5 : J0 nx') : SkipEnd h₀ C own J0 s₂ s₅
noncomputable def CompTurn (prog : Program) (w : World) (A : Around) (h₀ : Heap) (C : Addr) (cenv : Env) (ifs : List Expr) (elt : Expr) (own : List (Addr × Obj)) (J0 : List (Addr × Obj) → Prop) (J1 : Value → List (Addr × Obj) → Prop) (s₂ : Shared) (E' : Value → Shared → Prop) (s₃ : Shared) : Prop :=
  wpAny (model prog w) A (forIn ifs true fun c r => if r = true then do let ok ← isTrue c cenv (eval c cenv); pure (ForInStep.yield ok) else pure (ForInStep.yield r))
    (fun ok s₄ => if ok = true then wpAny (model prog w) A (eval elt cenv) (EltEnd h₀ C own J1 s₂) E' s₄ else SkipEnd h₀ C own J0 s₂ s₄) E' s₃

theorem EltEnd.at {h₀ : Heap} {C : Addr} {own : List (Addr × Obj)} {J1 : Value → List (Addr × Obj) → Prop} {s : Shared} {y : Value} {s₅ : Shared} {h1 : Heap} {t1 : Nat} (x : EltEnd h₀ C own J1 s y s₅) : EltEnd h₀ C own J1 { s with heap := h1, toks := t1 } y s₅ :=
  match x with | ⟨h', tk', mc', nx', q1, q2, q3, q4, q5⟩ => ⟨h', tk', mc', nx', q1, q2, q3, q4, q5⟩
theorem SkipEnd.at {h₀ : Heap} {C : Addr} {own : List (Addr × Obj)} {J0 : List (Addr × Obj) → Prop} {s : Shared} {s₅ : Shared} {h1 : Heap} {t1 : Nat} (x : SkipEnd h₀ C own J0 s s₅) : SkipEnd h₀ C own J0 { s with heap := h1, toks := t1 } s₅ :=
  match x with | ⟨h', tk', mc', nx', q1, q2, q3, q4, q5⟩ => ⟨h', tk', mc', nx', q1, q2, q3, q4, q5⟩
theorem CompTurn.at {h₀ : Heap} {C : Addr} {cenv : Env} {ifs : List Expr} {elt : Expr} {own : List (Addr × Obj)} {J0 : List (Addr × Obj) → Prop} {J1 : Value → List (Addr × Obj) → Prop} {s : Shared} {E' : Value → Shared → Prop} {s₃ : Shared} {h1 : Heap} {t1 : Nat}
    (x : CompTurn prog w A h₀ C cenv ifs elt own J0 J1 s E' s₃) : CompTurn prog w A h₀ C cenv ifs elt own J0 J1 { s with heap := h1, toks := t1 } E' s₃ := by
  refine wpAny_mono x (fun ok s₄ h => ?_) fun _ _ e => e
  cases ok with
  | true => exact wpAny_mono h (fun _ _ z => EltEnd.at z) fun _ _ e => e
  | false => exact SkipEnd.at h
inductive CompAtG (prog : Program) (w : World) (A : Around) (h₀ : Heap) (L : Addr) (env : Env) (scope : Scope) (cl : List (Str × Addr)) (x : Str) (ifs : List Expr) (elt : Expr) (Q : Value → Shared → Prop) (it : Value) (s₂ : Shared) : Prop
  | mk (I : Addr) (fp wr : List Addr) (n : Nat) (P : Nat → Value → Prop) (St : Nat → Heap → Prop) (m : Str → Option Value) (news : List (Addr × Obj)) (J : Nat → List Value → List (Addr × Obj) → Prop) (q1 : it = .ref I) (q2 : Walks prog w A I fp wr n P St) (q3 : n ≤ 1000) (q4 : St 0 s₂.heap) (q5 : (∀ b ∈ fp, b < s₂.heap.objs.size)) (q6 : (∀ b ∈ wr, h₀.get? b = none)) (q7 : (∀ p ∈ news, p.1 ∉ wr)) (q8 : L ∉ wr) (q9 : (∀ b ∈ fp, b ∉ wr → ∃ o, ∀ i ys nx, J i ys nx → ∀ h, Has h₀ nx h → h.get? b = some o)) (q10 : (∀ i, ∀ b ∈ wr, ∀ h, St (i + 1) h → h.get? b = none → False)) (q11 : Fr h₀ L s₂.heap m) (q12 : News h₀ L s₂.heap news) (q13 : J 0 [] news) (q14 : (∀ (i : Nat) (v : Value) (C : Addr) (mc : Str → Option Value) (ys : List Value) (nx : List (Addr × Obj)) (h : Heap) (tk : Nat) (own : List (Addr × Obj)) (E' : Value → Shared → Prop), i < n → P i v → J i ys nx → ys.length ≤ i → s₂.heap.objs.size ≤ C → (∀ p ∈ nx, ∀ q ∈ own, p.1 ≠ q.1) → Fr h₀ C h (fun y => if y = x then some v else mc y) → News h₀ C h (nx ++ own) →
      CompTurn prog w A h₀ C (compEnvC scope cl C env) ifs elt own (fun nx' => J (i + 1) ys nx') (fun y nx' => J (i + 1) (ys ++ [y]) nx') s₂ E' { s₂ with heap := h, toks := tk })) (q15 : ∀ D nD ys nx h' tk, J n ys nx → ys.length ≤ n → Fr h₀ L h' m → News h₀ L h' ((D, W.listOf ys.toArray nD) :: nx) → (∀ p ∈ news, p.1 < D) → (∀ p ∈ nx, p.1 ≠ D) → Q (.ref D) { s₂ with heap := h', toks := tk }) : CompAtG prog w A h₀ L env scope cl x ifs elt Q it s₂

theorem Fr.ofNs {h₀ h : Heap} {C : Addr} {m : Str → Option Value} (hn : h.Ns C m) (hk : ∀ b o, h₀.get? b = some o → h.get? b = some o) (ha : h₀.objs.size ≤ C) : Fr h₀ C h m := ⟨hn, hk, ha⟩

inductive CompAtH (prog : Program) (w : World) (A : Around) (h₀ : Heap) (L : Addr) (env : Env) (scope : Scope) (cl : List (Str × Addr)) (target : Expr) (ifs : List Expr) (elt : Expr) (use : Option (Value → Sem Unit)) (Q E : Value → Shared → Prop) (it : Value) (s₂ : Shared) : Prop
  | mk (I : Addr) (fp wr : List Addr) (n : Nat) (P : Nat → Value → Prop) (St : Nat → Heap → Prop) (m : Str → Option Value) (news : List (Addr × Obj)) (J : Nat → List Value → List (Addr × Obj) → Prop) (q1 : it = .ref I) (q2 : Walks prog w A I fp wr n P St) (q3 : n ≤ 1000) (q4 : St 0 s₂.heap) (q5 : (∀ b ∈ fp, b < s₂.heap.objs.size)) (q6 : (∀ b ∈ wr, h₀.get? b = none)) (q7 : (∀ p ∈ news, p.1 ∉ wr)) (q8 : L ∉ wr) (q9 : (∀ b ∈ fp, b ∉ wr → ∃ o, ∀ i ys nx, J i ys nx → ∀ h, Has h₀ nx h → h.get? b = some o)) (q10 : (∀ i, ∀ b ∈ wr, ∀ h, St (i + 1) h → h.get? b = none → False)) (q11 : (∀ (i : Nat) (v : Value) (s : Shared) (Q : Unit → Shared → Prop) (E : Value → Shared → Prop), St i s.heap → Q () s → wpAny (model prog w) A (letOwnedTupleGo target (.ref I) v) Q E s)) (q12 : Fr h₀ L s₂.heap m) (q13 : News h₀ L s₂.heap news) (q14 : J 0 [] news) (q15 : (∀ (i : Nat) (v : Value) (C : Addr) (mc : Str → Option Value) (ys : List Value) (nx : List (Addr × Obj)) (h : Heap) (tk : Nat) (own : List (Addr × Obj)) (E' : Value → Shared → Prop), i < n → P i v → J i ys nx → ys.length ≤ i → s₂.heap.objs.size ≤ C → (∀ p ∈ nx, ∀ q ∈ own, p.1 ≠ q.1) → Fr h₀ C h mc → News h₀ C h (nx ++ own) →
      wpAny (model prog w) A (assign target (compEnvC scope cl C env) v) (fun _ s₃ => CompTurn prog w A h₀ C (compEnvC scope cl C env) ifs elt own (fun nx' => J (i + 1) ys nx') (fun y nx' => J (i + 1) (ys ++ [y]) nx') s₂ E' s₃) E' { s₂ with heap := h, toks := tk })) (q16 : ∀ D C nD mC ys nx h' tk, J n ys nx → ys.length ≤ n → Fr h₀ L h' m → News h₀ L h' ((D, W.listOf ys.toArray nD) :: nx) → (∀ p ∈ news, p.1 < D) → (∀ p ∈ nx, p.1 ≠ D) → h'.Ns C mC → h₀.get? C = none → C ≠ L → C ≠ D → (∀ p ∈ nx, p.1 ≠ C) →
      compPost (model prog w) A E use Q (.ref D) C (.ok .next) { s₂ with heap := h', toks := tk }) : CompAtH prog w A h₀ L env scope cl target ifs elt use Q E it s₂

theorem loop_tests {elt target iter : Expr} {ifs : List Expr} {scope : Scope} {pos : Pos} {it acc : Value} {env : Env} {R : Result → Shared → Prop} {s : Shared} (I : Nat → Shared → Prop)
    (turn : ∀ n s, I n s → wpAny (model prog w) A (pyNext it) (fun r s₁ => match r with
      | none => R (.ok .next) s₁
      | some v => wpAny (model prog w) A (letOwnedTupleGo target it v) (fun _ s₀ => wpAny (model prog w) A (assign target env v) (fun _ s₂ =>
          wpAny (model prog w) A (forIn ifs true fun c r => if r = true then do let ok ← isTrue c env (eval c env); pure (ForInStep.yield ok) else pure (ForInStep.yield r)) (fun ok s₃ =>
            if ok = true then wpAny (model prog w) A (eval elt env) (fun x s₄ =>
              wpAny (model prog w) A (call (.builtin "list.append") [acc, x]) (fun _ s₅ => ∃ m, m < n ∧ I m s₅) (notedBy (model prog w) A env fun e s' => R (.error e) s') s₄) (notedBy (model prog w) A env fun e s' => R (.error e) s') s₃
            else ∃ m, m < n ∧ I m s₃) (notedBy (model prog w) A env fun e s' => R (.error e) s') s₂) (notedBy (model prog w) A env fun e s' => R (.error e) s') s₀) (notedBy (model prog w) A env fun e s' => R (.error e) s') s₁) (notedBy (model prog w) A env fun e s' => R (.error e) s') s)
    (n : Nat) (h : I n s) :
    codeAny (model prog w) A (.compLoop (.ListComp elt [⟨target, iter, ifs, 0⟩] scope pos) 0 it acc env) R s := by
  refine codeAny_loop rfl I (fun n s hI => ?_) n h
  show wpAny _ A ((compTurn (.ListComp elt [⟨target, iter, ifs, 0⟩] scope pos) 0 it acc env).onRaise (fun x => do noteFrame x env; theTreesLotGoes x)) _ _ s
  refine wpAny_noted ?_
  rw [compTurn_list]
  refine wpAny_bind (wpAny_standAt (wpAny_bind (wpAny_mono (turn n s hI) (fun r s₁ h₁ => ?_) fun _ _ h' => h')))
  cases r with
  | none => exact wpAny_pure h₁
  | some v =>
    refine wpAny_bind (wpAny_mono h₁ (fun _ s₀ h₁ => ?_) fun _ _ h' => h')
    refine wpAny_bind (wpAny_mono h₁ (fun _ s₂ h₂ => wpAny_bind (wpAny_mono h₂ (fun ok s₃ h₃ => ?_) fun _ _ h' => h')) fun _ _ h' => h')
    cases ok with
    | false => exact wpAny_pure ⟨rfl, h₃⟩
    | true =>
      exact wpAny_bind (wpAny_bind (wpAny_mono h₃ (fun x s₄ h₄ => wpAny_bind (wpAny_mono h₄ (fun _ s₅ h₅ => wpAny_pure (wpAny_pure ⟨rfl, h₅⟩)) fun _ _ h' => h')) fun _ _ h' => h'))

noncomputable def ownF (h₀ : Heap) (L : Addr) (wr : List Addr) (h : Heap) : List (Addr × Obj) := wr.filterMap fun b => if h₀.get? b = none ∧ b ≠ L then (h.get? b).map fun o => (b, o) else none
theorem ownF_mem {h₀ h : Heap} {L b : Addr} {wr : List Addr} {o : Obj} (hb : b ∈ wr) (h0 : h₀.get? b = none) (hL : b ≠ L) (ho : h.get? b = some o) : (b, o) ∈ ownF h₀ L wr h := by
  refine List.mem_filterMap.mpr ⟨b, hb, ?_⟩
  rw [if_pos ⟨h0, hL⟩, ho]; rfl
theorem ownF_inv {h₀ h : Heap} {L : Addr} {wr : List Addr} {p : Addr × Obj} (hp : p ∈ ownF h₀ L wr h) : p.1 ∈ wr ∧ h₀.get? p.1 = none ∧ p.1 ≠ L ∧ h.get? p.1 = some p.2 := by
  obtain ⟨b, hb, e⟩ := List.mem_filterMap.mp hp
  by_cases hc : h₀.get? b = none ∧ b ≠ L
  · rw [if_pos hc] at e
    cases ho : h.get? b with
    | none => rw [ho] at e; cases e
    | some o => rw [ho] at e; cases e; exact ⟨hb, hc.1, hc.2, ho⟩
  · rw [if_neg hc] at e; cases e
noncomputable def Offs (h₀ : Heap) (C D L : Addr) (wr : List Addr) (h : Heap) (p : Addr × Obj) : Prop := h.get? p.1 = some p.2 ∧ p.1 ≠ C ∧ p.1 ≠ D ∧ p.1 ≠ L ∧ p.1 ∉ wr ∧ h₀.get? p.1 = none
inductive CoreAt (h₀ : Heap) (C D L : Addr) (oL : Obj) (wr : List Addr) (n : Nat) (St : Nat → Heap → Prop) (J : Nat → List Value → List (Addr × Obj) → Prop) (s₂ : Shared) : Nat → Shared → Prop
  | mk (h' : Heap) (tk : Nat) (mc : Str → Option Value) (ys : List Value) (nx : List (Addr × Obj)) (i nD : Nat) (hi : i ≤ n) (hsti : St i h') (hDi : h'.get? D = some (W.listOf ys.toArray nD)) (hyl : ys.length ≤ i) (hnsC : h'.Ns C mc)
    (hk0 : ∀ b o, h₀.get? b = some o → h'.get? b = some o) (hLi : h'.get? L = some oL) (hnx : ∀ p ∈ nx, Offs h₀ C D L wr h' p) (hJ : J i ys nx) : CoreAt h₀ C D L oL wr n St J s₂ (n + 1 - i) { s₂ with heap := h', toks := tk }
theorem comp_core {s : Shared} {h₀ : Heap} {L : Addr} {elt iter target : Expr} {ifs : List Expr} {scope : Scope} {cl : List (Str × Addr)} {pos pos' : Pos} {use : Option (Value → Sem Unit)} {Q : Value → Shared → Prop}
    (hclos : closureFor scope env = pure cl) (hcell : ∀ y ∈ scope.names, y.2 ≠ .cell) (hkind : scope.kind = .function)
    (hnames : ∀ y ∈ scope.names, y.2 = .local → scope.names.lookup y.1 = some .local)
    (h : wpAny (model prog w) A (eval iter env) (fun xv s₁ => wpAny (model prog w) A (pyIter xv) (fun it s₂ => CompAtH prog w A h₀ L env scope cl target ifs elt use Q E it s₂) E s₁) E s)
    (hs : ∀ x, foldedSetIterable iter env x = pure x := by intro _; rfl) :
    wpAny (model prog w) A (comprehension (.ListComp elt [⟨target, iter, ifs, 0⟩] scope pos) scope env pos' (newList []) false (eval iter env) use) Q E s := by
  refine wpAny_comprehension_free (use := use) rfl hs hclos hkind hnames (wpAny_mono h (fun xv s₁ h₁ => wpAny_mono h₁ (fun it s₂ h₂ => ?_) fun _ _ e => e) fun _ _ e => e)
  obtain ⟨I, fp, wr, n, P, St, m, news, J, rfl, Wk, hn1000, hst, hfp, hwr, hnw, hLw, hsrc, hlive, hgo, F, N, hj, turn, done⟩ := h₂
  refine wpAny_newObj_type (wpAny_newFunctionEnv hcell (by intro y hy; simp at hy) (fun h₁ hns₁ hsb₁ => ?_) hkind)
  dsimp only at hns₁ hsb₁ ⊢
  generalize hH2 : s₂.heap.push { cls := .type "list", dict := none, data := .seq ([] : List Value).toArray } = H2 at hns₁ hsb₁ ⊢
  have hC : H2.objs.size = s₂.heap.objs.size + 1 := by rw [← hH2, Heap.size_push]
  have hDC : s₂.heap.objs.size ≠ H2.objs.size := by rw [hC]; exact Nat.ne_of_lt (Nat.lt_succ_self _)
  generalize hDe : s₂.heap.objs.size = D at *
  generalize hCe : H2.objs.size = C at *
  have hDltC : D < C := by omega
  have ltC : ∀ {b : Nat}, b < D → b ≠ C := fun h => Nat.ne_of_lt (Nat.lt_trans h hDltC)
  have ltD : ∀ {b : Nat}, b < D → b ≠ D := fun h => Nat.ne_of_lt h
  have below : ∀ b, b < D → b ≠ C ∧ b ≠ D := fun b hb => ⟨ltC hb, ltD hb⟩
  have old : ∀ b o, s₂.heap.get? b = some o → h₁.get? b = some o := fun b o e => hsb₁.extBut b o (below b (hDe ▸ Heap.lt_size e)).1 (Heap.get?_push_of_some _ (hH2 ▸ Heap.get?_push_of_some _ e))
  have hacc : h₁.get? D = some (W.listOf #[] 0) := hsb₁.extBut _ _ hDC (Heap.get?_push_of_some _ (hH2 ▸ hDe ▸ Heap.get?_push_size _ rfl))
  have hst₁ : St 0 h₁ := Wk.frame _ _ _ hst fun b _ o e => old b o e
  refine hideG fun G9 hG9 => ?_
  obtain ⟨oL, esL, epL, hLo, hLd, hLk, hLf⟩ := id F.ns
  refine hG9 ?_
  clear hG9 G9
  have hLD : L < D := hDe ▸ Heap.lt_size hLo
  have h0D : h₀.objs.size ≤ D := Nat.le_trans F.above (Nat.le_of_lt hLD)
  have h0C : h₀.objs.size ≤ C := Nat.le_trans h0D (Nat.le_of_lt hDltC)
  have lt0 : ∀ {b : Nat} {o : Obj}, h₀.get? b = some o → b < D := fun e => Nat.lt_of_lt_of_le (Heap.lt_size e) h0D
  have newsD : ∀ p ∈ news, p.1 < D := fun p hp => hDe ▸ Heap.lt_size (N p hp).1
  have wrD : ∀ b ∈ wr, b < D := fun b hb => hfp b (Wk.sub b hb)
  have loop : ∀ s₃ : Shared, s₃ = { s₂ with heap := h₁, toks := s₂.toks + ([] : List (Str × Value)).length } →
      codeAny (model prog w) A (.compLoop (.ListComp elt [⟨target, iter, ifs, 0⟩] scope pos) 0 (.ref I) (.ref D) (compEnvC scope cl C env)) (compPost (model prog w) A E use Q (.ref D) C) s₃ := by
    rintro s₃ rfl
    refine loop_tests (CoreAt h₀ C D L oL wr n St J s₂) ?_ (n + 1) (CoreAt.mk h₁ _ _ [] news 0 0 (Nat.zero_le _) hst₁ hacc (Nat.le_refl _) hns₁ (fun b o e => old b o (F.keep b o e)) (old _ _ hLo)
      (fun p hp => ⟨old _ _ (N p hp).1, ltC (newsD p hp), ltD (newsD p hp), (N p hp).2.1, hnw p hp, (N p hp).2.2⟩) hj)
    rintro _ _ ⟨h', tk, mc, ys, nx, i, nD, hi, hsti, hDi, hyl, hnsC, hk0, hLi, hnx, hJ⟩
    have hCw : C ∉ wr := fun hm => ltC (wrD C hm) rfl
    have hDw : D ∉ wr := fun hm => ltD (wrD D hm) rfl
    by_cases hlt : i < n
    · refine Wk.item i _ _ _ hlt hsti fun v h₂ tk₂ hPv hst₂ hk₂ => ?_
      refine hgo _ _ _ _ _ hst₂ ?_
      have up : ∀ b o, b ∉ wr → h'.get? b = some o → h₂.get? b = some o := fun b o hbw e => hk₂ b o hbw e
      have h0w : ∀ b o, h₀.get? b = some o → b ≠ C ∧ b ∉ wr := fun b o e => ⟨ltC (lt0 e), fun hm => by rw [hwr b hm] at e; cases e⟩
      have F₃ : Fr h₀ C h₂ mc := ⟨hnsC.at' fun o e => hk₂ _ o hCw e, fun b o e => up b o (h0w b o e).2 (hk0 b o e), h0C⟩
      have hL₃ : h₂.get? L = some oL := up L oL hLw hLi
      have hD₃ : h₂.get? D = some (W.listOf ys.toArray nD) := up D _ hDw hDi
      have hLno : h₀.get? L = none := Heap.get?_none_of_le F.above
      have hDno : h₀.get? D = none := Heap.get?_none_of_le h0D
      have N₃ : News h₀ C h₂ (nx ++ ((L, oL) :: (D, W.listOf ys.toArray nD) :: ownF h₀ L wr h₂)) := by
        intro p hp
        rcases List.mem_append.mp hp with hp | hp
        · obtain ⟨a1, a2, a3, a4, a5, a6⟩ := hnx p hp
          exact ⟨up _ _ a5 a1, a2, a6⟩
        rcases List.mem_cons.mp hp with rfl | hp
        · exact ⟨hL₃, ltC hLD, hLno⟩
        rcases List.mem_cons.mp hp with rfl | hp
        · exact ⟨hD₃, hDC, hDno⟩
        · obtain ⟨a1, a2, a3, a4⟩ := ownF_inv hp
          exact ⟨a4, ltC (wrD _ a1), a2⟩
      have hoff : ∀ p ∈ nx, ∀ q ∈ ((L, oL) :: (D, W.listOf ys.toArray nD) :: ownF h₀ L wr h₂), p.1 ≠ q.1 := by
        intro p hp q hq
        obtain ⟨a1, a2, a3, a4, a5, a6⟩ := hnx p hp
        rcases List.mem_cons.mp hq with rfl | hq
        · exact a4
        rcases List.mem_cons.mp hq with rfl | hq
        · exact a3
        · exact fun e => a5 (by rw [e]; exact (ownF_inv hq).1)
      have fin : ∀ (h₄ : Heap) (mc' : Str → Option Value) (nx' : List (Addr × Obj)) (ys' : List Value), Fr h₀ C h₄ mc' → News h₀ C h₄ (nx' ++ ((L, oL) :: (D, W.listOf ys.toArray nD) :: ownF h₀ L wr h₂)) →
          (∀ p ∈ nx', ∀ q ∈ ((L, oL) :: (D, W.listOf ys.toArray nD) :: ownF h₀ L wr h₂), p.1 ≠ q.1) → J (i + 1) ys' nx' → St (i + 1) h₄ ∧ h₄.get? L = some oL ∧ h₄.get? D = some (W.listOf ys.toArray nD) ∧
            (∀ p ∈ nx', Offs h₀ C D L wr h₄ p) := by
        intro h₄ mc' nx' ys' F₄ N₄ hoff' hJ'
        refine ⟨Wk.frame _ _ _ hst₂ fun b hb o e => ?_, (N₄ _ (List.mem_append_right _ (.head _))).1, (N₄ _ (List.mem_append_right _ (.tail _ (.head _)))).1, fun p hp => ?_⟩
        · by_cases hbw : b ∈ wr
          · exact (N₄ _ (List.mem_append_right _ (.tail _ (.tail _ (ownF_mem hbw (hwr b hbw) (fun e' => hLw (e' ▸ hbw)) e))))).1
          · obtain ⟨o', ho'⟩ := hsrc b hb hbw
            have e1 := ho' i ys nx hJ h₂ ⟨F₃.keep, fun p hp => (N₃ p (List.mem_append_left _ hp)).1⟩
            have e2 := ho' (i + 1) ys' nx' hJ' h₄ ⟨F₄.keep, fun p hp => (N₄ p (List.mem_append_left _ hp)).1⟩
            rw [e1] at e; rw [e2]; exact e
        · have z := N₄ p (List.mem_append_left _ hp)
          refine ⟨z.1, z.2.1, hoff' p hp _ (.tail _ (.head _)), hoff' p hp _ (.head _), fun hm => ?_, z.2.2⟩
          cases ho : h₂.get? p.1 with
          | some o => exact hoff' p hp _ (.tail _ (.tail _ (ownF_mem hm (hwr _ hm) (fun e' => hLw (e' ▸ hm)) ho))) rfl
          | none => exact hlive i p.1 hm h₂ hst₂ ho
      refine wpAny_mono (turn i v C mc ys nx h₂ _ _ _ hlt hPv hJ hyl (Nat.le_of_lt hDltC) hoff F₃ N₃) (fun _ s₃ h₃ => wpAny_mono h₃ (fun ok s₄ h₄ => ?_) fun _ _ e => e) fun _ _ e => e
      cases ok with
      | false =>
        simp only [Bool.false_eq_true, if_false] at h₄ ⊢
        obtain ⟨h', tk', mc', nx', rfl, F₄, N₄, hoff', hJ'⟩ := h₄
        obtain ⟨b1, b2, b3, b4⟩ := fin h' mc' nx' ys F₄ N₄ hoff' hJ'
        exact ⟨n + 1 - (i + 1), decr hlt, CoreAt.mk h' tk' mc' ys nx' (i + 1) nD hlt b1 b3 (Nat.le_succ_of_le hyl) F₄.ns F₄.keep b2 b4 hJ'⟩
      | true =>
        simp only [if_true] at h₄ ⊢
        refine wpAny_mono h₄ (fun y s₅ h₅ => ?_) fun _ _ e => e
        obtain ⟨h', tk', mc', nx', rfl, F₄, N₄, hoff', hJ'⟩ := h₅
        obtain ⟨b1, b2, b3, b4⟩ := fin h' mc' nx' (ys ++ [y]) F₄ N₄ hoff' hJ'
        refine append_at b3 (fun h₅ hs₅ ho₅ => ?_) (hsz := by simp only [List.size_toArray]; rw [sizeLine_eq]; exact chain3 (by assumption) (by assumption) (by assumption) (by exact rfl))
        refine ⟨n + 1 - (i + 1), decr hlt, CoreAt.mk h₅ tk' mc' (ys ++ [y]) nx' (i + 1) (nD + 1) hlt ?_ ?_ (by simp; assumption) (F₄.ns.sameBut hs₅ (Ne.symm hDC)) (fun b o e => ?_) ?_ (fun p hp => ?_) hJ'⟩
        · exact Wk.frame _ _ _ b1 fun b hb o e => hs₅.extBut b o (ltD (hfp b hb)) e
        · rw [ho₅]; simp
        · exact hs₅.extBut b o (ltD (lt0 e)) (F₄.keep b o e)
        · exact hs₅.extBut L oL (ltD hLD) b2
        · obtain ⟨c1, c2⟩ := b4 p hp
          exact ⟨hs₅.extBut _ _ c2.2.1 c1, c2⟩
    · have hin : i = n := by exact eqn (by assumption) (by assumption)
      subst hin
      refine Wk.done _ _ _ hsti fun h₂ tk₂ hk₂ => ?_
      have up : ∀ b o, b ∉ wr → h'.get? b = some o → h₂.get? b = some o := fun b o hbw e => hk₂ b o hbw e
      have h0w : ∀ b o, h₀.get? b = some o → b ≠ C ∧ b ∉ wr := fun b o e => ⟨ltC (lt0 e), fun hm => by rw [hwr b hm] at e; cases e⟩
      refine done D C nD mc ys nx h₂ tk₂ hJ hyl ⟨⟨oL, esL, epL, up L oL hLw hLi, hLd, hLk, hLf⟩, fun b o e => up b o (h0w b o e).2 (hk0 b o e), F.above⟩ ?_ newsD (fun p hp => (hnx p hp).2.2.1)
        (hnsC.at' fun o e => hk₂ _ o hCw e) (Heap.get?_none_of_le h0C) (Ne.symm (ltC hLD)) (Ne.symm hDC) (fun p hp => (hnx p hp).2.1)
      intro p hp
      rcases List.mem_cons.mp hp with rfl | hp
      · exact ⟨up D _ hDw hDi, (ltD hLD).symm, Heap.get?_none_of_le h0D⟩
      · obtain ⟨a1, a2, a3, a4, a5, a6⟩ := hnx p hp
        exact ⟨up _ _ a5 a1, a4, a6⟩
  exact codeAny_compStart_list (loop _ rfl) (Wk.self 0 _ _ _ hst₁ (loop _ rfl))
end
section
variable {prog : Program} {w : World} {A : Around} {E : Value → Shared → Prop} {env : Env} {s : Shared} {h₀ : Heap} {L : Addr} {elt iter target : Expr} {ifs : List Expr} {scope : Scope} {cl : List (Str × Addr)} {Q : Value → Shared → Prop} {m : Str → Option Value} {news : List (Addr × Obj)} {use : Option (Value → Sem Unit)}
theorem end_none {D C : Addr} {o : Obj} {mC : Str → Option Value} {nx : List (Addr × Obj)} {h' : Heap} {tk : Nat} (F : Fr h₀ L h' m) (N : News h₀ L h' ((D, o) :: nx)) (hn : h'.Ns C mC) (h0 : h₀.get? C = none) (hCL : C ≠ L) (hCD : C ≠ D) (off : ∀ p ∈ nx, p.1 ≠ C)
    (h : ∀ h'', Fr h₀ L h'' m → News h₀ L h'' ((D, o) :: nx) → Q (.ref D) { s with heap := h'', toks := tk }) : compPost (model prog w) A E none Q (.ref D) C (.ok .next) { s with heap := h', toks := tk } := by
  refine ⟨mC, hn, fun h'' hs => h h'' (F.change hs hCL h0) fun p hp => ?_⟩
  have z := N p hp
  refine ⟨(hs.2 p.1 ?_).trans z.1, z.2⟩
  rcases List.mem_cons.mp hp with rfl | hp
  · exact Ne.symm hCD
  · exact off p hp
theorem end_store {D C : Addr} {o : Obj} {mC : Str → Option Value} {nx : List (Addr × Obj)} {h' : Heap} {tk : Nat} {y : Str} {py : Pos} (hL : env.locals = L) (F : Fr h₀ L h' m) (N : News h₀ L h' ((D, o) :: nx)) (hn : h'.Ns C mC) (h0 : h₀.get? C = none) (hCL : C ≠ L) (hCD : C ≠ D) (off : ∀ p ∈ nx, p.1 ≠ C)
    (hy : env.kindOf y = some .local) (hp : (env.scope.kind == .class || (env.scope.kind == .module && env.locals != env.globals)) = false)
    (h : ∀ h'' tk'', Fr h₀ L h'' (fun z => if z = y then some (.ref D) else m z) → News h₀ L h'' ((D, o) :: nx) → Q .none { s with heap := h'', toks := tk'' }) :
    compPost (model prog w) A E (some (assign (.Name y py) env)) Q (.ref D) C (.ok .next) { s with heap := h', toks := tk } := by
  subst hL
  show wpAny (model prog w) A (assign (.Name y py) env (.ref D)) _ E _
  refine wpAny_assign_Name (wpAny_storeName_local hy F.ns (fun h₂ hn₂ hs₂ => ?_) hp)
  have hL₀ : h₀.get? env.locals = none := Heap.get?_none_of_le F.above
  have F₂ : Fr h₀ env.locals h₂ (fun z => if z = y then some (.ref D) else m z) := ⟨hn₂, fun b o e => hs₂.extBut b o (fun q => by rw [q, hL₀] at e; cases e) (F.keep b o e), F.above⟩
  refine ⟨mC, hn.sameBut hs₂ hCL, fun h'' hs => h h'' _ (F₂.change hs hCL h0) fun p hp => ?_⟩
  have z := N p hp
  have z2 : h₂.get? p.1 = some p.2 := hs₂.extBut _ _ z.2.1 z.1
  refine ⟨(hs.2 p.1 ?_).trans z2, z.2⟩
  rcases List.mem_cons.mp hp with rfl | hp
  · exact Ne.symm hCD
  · exact off p hp
theorem store_comp {C : Addr} {x : Str} {v : Value} {mc : Str → Option Value} {nl : List (Addr × Obj)} {Q : Unit → Shared → Prop} (hx : scope.names.lookup x = some .local) (hkind : scope.kind = .function) (F : Fr h₀ C s.heap mc) (N : News h₀ C s.heap nl)
    (h : ∀ h' tk, Fr h₀ C h' (fun y => if y = x then some v else mc y) → News h₀ C h' nl → Q () { s with heap := h', toks := tk }) : wpAny (model prog w) A (storeName (compEnvC scope cl C env) x v) Q E s := by
  refine wpAny_storeName_local (lookup_relabel_local hx) F.ns (fun h₃ hn₃ hs₃ => ?_) (by simp [compEnvC, relabel, hkind])
  have hC0 : h₀.get? C = none := Heap.get?_none_of_le F.above
  exact h h₃ _ ⟨hn₃, fun b o e => hs₃.extBut b o (fun q => by have q' : b = C := q; rw [q', hC0] at e; cases e) (F.keep b o e), F.above⟩ fun p hp => ⟨hs₃.extBut _ _ (N p hp).2.1 (N p hp).1, (N p hp).2⟩
theorem comp_g {x : Str} {px pos : Pos}
    (hclos : closureFor scope env = pure cl) (hcell : ∀ y ∈ scope.names, y.2 ≠ .cell) (hkind : scope.kind = .function)
    (hnames : ∀ y ∈ scope.names, y.2 = .local → scope.names.lookup y.1 = some .local) (hx : scope.names.lookup x = some .local)
    (h : wpAny (model prog w) A (eval iter env) (fun xv s₁ => wpAny (model prog w) A (pyIter xv) (fun it s₂ => CompAtG prog w A h₀ L env scope cl x ifs elt Q it s₂) E s₁) E s)
    (hs : ∀ x, foldedSetIterable iter env x = pure x := by intro _; rfl) :
    wpAny (model prog w) A (eval (.ListComp elt [⟨.Name x px, iter, ifs, 0⟩] scope pos) env) Q E s := by
  rw [eval_ListComp]
  refine comp_core (use := none) (h₀ := h₀) (L := L) hclos hcell hkind hnames (wpAny_mono h (fun xv s₁ h₁ => wpAny_mono h₁ (fun it s₂ h₂ => ?_) fun _ _ e => e) fun _ _ e => e) hs
  obtain ⟨I, fp, wr, n, P, St, m, news, J, e1, Wk, hn1000, hst, hfp, hwr, hnw, hLw, hsrc, hlive, F, N, hj, turn, done⟩ := h₂
  refine ⟨I, fp, wr, n, P, St, m, news, J, e1, Wk, hn1000, hst, hfp, hwr, hnw, hLw, hsrc, hlive, fun i v s Q E _ hq => wpAny_pure hq, F, N, hj, ?_, ?_⟩
  · intro i v C mc ys nx h tk own E' hi hP hJ hyl hC hoff F₁ N₁
    exact wpAny_assign_Name (store_comp hx hkind F₁ N₁ fun h' tk' F₂ N₂ => turn i v C mc ys nx h' tk' own E' hi hP hJ hyl hC hoff F₂ N₂)
  · intro D C nD mC ys nx h' tk hJ hyl F₁ N₁ lt ne hC h0 hCL hCD off
    exact end_none F₁ N₁ hC h0 hCL hCD off fun h'' F₂ N₂ => done D nD ys nx h'' tk hJ hyl F₂ N₂ lt ne
end
end

/- NM -/
theorem offNM : True := by
  w_top off
  exact trivial
section
open PySem PySem.W PyProof.Rows PySem.Spec PySem.Calls PySem.SeqAt PyProof.V
set_option Elab.async false
set_option maxRecDepth 100000
set_option maxHeartbeats 2000000
section
variable {prog : Program} {w : World} {A : Around} {s : Shared} {h₀ : Heap} {L : Addr} {m : Str → Option Value} {news : List (Addr × Obj)} {K : Frag}
  {R : Result → Shared → Prop} {name qual : Str} {params : Arguments} {body : List Stmt} {scope : Scope} {dV kV doc pm cdv ct oc : Value} {an od : Option Addr} {osl : Array (Option Value)} {f : Addr} {args : Args} {binds : List (Str × Value)}
  {p : Program} {loose : List Str} {mean : ExcName → Option Value} {mg mb : Str → Option Value}
theorem enterC (F : Fr h₀ L s.heap m) (X₀ : K.In h₀) (N : News h₀ L s.heap news) (T : Top p loose mean mg mb h₀)
    (ho : K.lookup f = some ⟨oc, od, .func (fnOf name qual params body scope dV kV doc pm an cdv ct), osl⟩) (hcd : codeIn K cdv qual = true) (hroom : A.depth < recursionLimit)
    (hbind : BindsTo s (fnOf name qual params body scope dV kV doc pm an cdv ct) args binds) (hkind : (binds.all fun y => scope.names.lookup y.1 == some .local || scope.names.lookup y.1 == some .cell) = true)
    (hnd : ((cellsFrom 0 scope.names []).map (·.1)).Nodup)
    (h : ∀ g L' h₁ tk cells, Fr h₀ L g m → Fr g L' h₁ (bindL (envOfC qual scope L' f cdv).kindOf binds fun _ => none) → News g L' h₁ (cells ++ news) →
      CellsAre (bindC (envOfC qual scope L' f cdv).kindOf binds fun _ => none) (cellsFrom (L' + 1) scope.names []) cells → K.In g → Top p loose mean mg mb g → (∀ p ∈ news, p.1 < L') →
      wpAny (model prog w) (A.deeper (envOfC qual scope L' f cdv)) (execs body (envOfC qual scope L' f cdv))
        (fun fl s' => LeaveK h₀ L m g R (match fl with | .ret v => v | _ => .none) s')
        (fun e s' => wpAny (model prog w) (A.deeper (envOfC qual scope L' f cdv)) (leaving (envOfC qual scope L' f cdv) e) (fun _ s'' => R (.error e) s'') (fun e' s'' => R (.error e') s'') s')
        { s with heap := h₁, toks := tk })
    (hco : scope.isCoroutine = false) (hgen : scope.isGenerator = false) (hk : scope.kind = .function) : codeAny (model prog w) A (.call (.ref f) args) R s := by
  obtain ⟨FG, st, lv⟩ := groundN (R := R) F N
  refine codeAny_call_function hroom ((X₀.keeps F.keep) _ _ ho) rfl hco hgen rfl (codeRec_of (X₀.keeps F.keep) hcd) (hbind _ _ _ _ ?_)
  refine wpAny_newFunctionEnv_cells hk (kindsX hkind _) fun env' he s' x => ?_
  subst he
  refine ⟨(T.nolimit.keeps F.keep).keeps x.toInCall.keep, codeAny_func ?_⟩
  obtain ⟨h₁, tk, rfl, _⟩ := x.done
  have hk₁ := x.toInCall.keep
  obtain ⟨cells, NC, Y⟩ := Cl.news (h₀ := s.heap) (Nat.le_refl _) fun n c hm => ⟨x.cell n c (lookup_of_mem_nodup (cellsFrom_names scope.names 0 (s.heap.objs.size + 1) [] [] rfl ▸ hnd) hm), x.above n c hm⟩
  refine wpAny_mono (h _ s.heap.objs.size h₁ tk cells FG ⟨x.toInCall.ns, fun b o e => hk₁ b o (of_hideAll _ e), Nat.le_of_eq (hideAll_size _ _)⟩ (fun p hp => ?_) Y (X₀.keeps st) (T.keeps st) (fun p hp => Heap.lt_size (N p hp).1)) (fun fl s' hl => lv _ _ hl) fun _ _ y => y
  rcases List.mem_append.mp hp with hp | hp
  · refine ⟨(NC p hp).1, (NC p hp).2.1, ?_⟩
    cases q : (hideAll s.heap (news.map (·.1))).get? p.1 with
    | none => rfl
    | some o => have := of_hideAll _ q; rw [(NC p hp).2.2] at this; cases this
  · exact ⟨hk₁ _ _ (N p hp).1, Nat.ne_of_lt (Heap.lt_size (N p hp).1), hideAll_none _ (List.mem_map_of_mem hp)⟩

theorem enterC0 (F : Fr h₀ L s.heap m) (X₀ : K.In h₀) (T : Top p loose mean mg mb h₀)
    (ho : K.lookup f = some ⟨oc, od, .func (fnOf name qual params body scope dV kV doc pm an cdv ct), osl⟩) (hcd : codeIn K cdv qual = true) (hroom : A.depth < recursionLimit)
    (hbind : BindsTo s (fnOf name qual params body scope dV kV doc pm an cdv ct) args binds) (hkind : (binds.all fun y => scope.names.lookup y.1 == some .local || scope.names.lookup y.1 == some .cell) = true)
    (hnd : ((cellsFrom 0 scope.names []).map (·.1)).Nodup)
    (h : ∀ L' h₁ tk cells, Fr s.heap L' h₁ (bindL (envOfC qual scope L' f cdv).kindOf binds fun _ => none) → News s.heap L' h₁ cells →
      CellsAre (bindC (envOfC qual scope L' f cdv).kindOf binds fun _ => none) (cellsFrom (L' + 1) scope.names []) cells → K.In s.heap → Top p loose mean mg mb s.heap →
      wpAny (model prog w) (A.deeper (envOfC qual scope L' f cdv)) (execs body (envOfC qual scope L' f cdv))
        (fun fl s' => R (.ok (.ret (match fl with | .ret v => v | _ => .none))) s')
        (fun e s' => wpAny (model prog w) (A.deeper (envOfC qual scope L' f cdv)) (leaving (envOfC qual scope L' f cdv) e) (fun _ s'' => R (.error e) s'') (fun e' s'' => R (.error e') s'') s')
        { s with heap := h₁, toks := tk })
    (hco : scope.isCoroutine = false) (hgen : scope.isGenerator = false) (hk : scope.kind = .function) : codeAny (model prog w) A (.call (.ref f) args) R s := by
  have st : ∀ b o, h₀.get? b = some o → s.heap.get? b = some o := F.keep
  refine codeAny_call_function hroom ((X₀.keeps F.keep) _ _ ho) rfl hco hgen rfl (codeRec_of (X₀.keeps F.keep) hcd) (hbind _ _ _ _ ?_)
  refine wpAny_newFunctionEnv_cells hk (kindsX hkind _) fun env' he s' x => ?_
  subst he
  refine ⟨(T.nolimit.keeps F.keep).keeps x.toInCall.keep, codeAny_func ?_⟩
  obtain ⟨h₁, tk, rfl, _⟩ := x.done
  have hk₁ := x.toInCall.keep
  obtain ⟨cells, NC, Y⟩ := Cl.news (h₀ := s.heap) (Nat.le_refl _) fun n c hm => ⟨x.cell n c (lookup_of_mem_nodup (cellsFrom_names scope.names 0 (s.heap.objs.size + 1) [] [] rfl ▸ hnd) hm), x.above n c hm⟩
  exact h s.heap.objs.size h₁ tk cells ⟨x.toInCall.ns, hk₁, Nat.le_refl _⟩ (fun p hp => ⟨(NC p hp).1, (NC p hp).2.1, (NC p hp).2.2⟩) Y (X₀.keeps st) (T.keeps st)
end
section
variable {prog : Program} {w : World} {A : Around} {E : Value → Shared → Prop} {env : Env} {s : Shared} {h₀ : Heap} {L : Addr} {elt : Expr} {x : Str} {ifs : List Expr} {scope : Scope} {cl : List (Str × Addr)} {Q : Value → Shared → Prop} {m : Str → Option Value} {news : List (Addr × Obj)}

theorem comp_range {r : Addr} {a b c : Int} {t u v : Tok} {n : Nat} (J : Nat → List Value → List (Addr × Obj) → Prop) (hh : A.handled = none) (hr : IsRange s.heap r a b c t u v) (hsmall : Builtin.Range.small a b c = true) (hn : Builtin.Range.rangeSize a b c = (n : Int)) (hn1 : n ≤ 1000)
    (F : Fr h₀ L s.heap m) (N : News h₀ L s.heap news) (hj : J 0 [] news)
    (turn : ∀ (i : Nat) (C : Addr) (mc : Str → Option Value) (ys : List Value) (nx : List (Addr × Obj)) (h : Heap) (tk : Nat) (own : List (Addr × Obj)) (E' : Value → Shared → Prop) (t' : Tok), i < n → J i ys nx → ys.length ≤ i → (∀ p ∈ nx, ∀ q ∈ own, p.1 ≠ q.1) → Fr h₀ C h (fun y => if y = x then some (.int (a + i * c) t') else mc y) → News h₀ C h (nx ++ own) →
      CompTurn prog w A h₀ C (compEnvC scope cl C env) ifs elt own (fun nx' => J (i + 1) ys nx') (fun y nx' => J (i + 1) (ys ++ [y]) nx') s E' { s with heap := h, toks := tk })
    (done : ∀ D nD ys nx h' tk, J n ys nx → ys.length ≤ n → Fr h₀ L h' m → News h₀ L h' ((D, W.listOf ys.toArray nD) :: nx) → (∀ p ∈ news, p.1 < D) → (∀ p ∈ nx, p.1 ≠ D) → Q (.ref D) { s with heap := h', toks := tk }) :
    wpAny (model prog w) A (pyIter (.ref r)) (fun it s₂ => CompAtG prog w A h₀ L env scope cl x ifs elt Q it s₂) E s := by
  refine wpAny_pyIter_range hr hsmall ?_
  have Wk := Walks.range (prog := prog) (w := w) hh s.heap.objs.size a c n
  refine ⟨_, _, _, n, _, _, m, news, J, rfl, Wk, hn1, ?_, ?_, ?_, ?_, ?_, ?_, ?_, F.push _, (fun p hp => ⟨Heap.get?_push_of_some _ (N p hp).1, (N p hp).2⟩), hj, ?_, ?_⟩
  · show IsRangeIter _ _ _ _ _
    rw [hn]; simpa using Heap.get?_push_size _ rfl
  · intro b' hb
    rw [List.mem_singleton.mp hb, Heap.size_push]; exact Nat.lt_succ_self _
  · intro b' hb
    rw [List.mem_singleton.mp hb]; exact next_is_new F
  · intro p hp hI
    exact absurd (Heap.lt_size (N p hp).1) ((List.mem_singleton.mp hI) ▸ Nat.lt_irrefl _)
  · intro hm
    exact absurd F.ns.lt ((List.mem_singleton.mp hm) ▸ Nat.lt_irrefl _)
  · intro b' hb hb'
    exact absurd hb hb'
  · intro i b' hb h st e
    rw [List.mem_singleton.mp hb] at e
    have z : h.get? s.heap.objs.size = some _ := st
    rw [e] at z; cases z
  · rintro i v' C mc ys nx h tk own E' hi ⟨t', rfl⟩ hJ hyl _ hoff F₁ N₁
    exact (turn i C mc ys nx h tk own E' t' hi hJ hyl hoff F₁ N₁).at
  · exact done

theorem comp_list {l : Addr} {lo : Obj} {vs : List Value} {nn : Nat} (J : Nat → List Value → List (Addr × Obj) → Prop) (hh : A.handled = none) (hc : lo.cls = .type "list") (hd : lo.data = .seq vs.toArray nn)
    (hget : ∀ i ys nx, J i ys nx → ∀ h, Has h₀ nx h → h.get? l = some lo) (hn1 : vs.length ≤ 1000)
    (F : Fr h₀ L s.heap m) (N : News h₀ L s.heap news) (hj : J 0 [] news)
    (turn : ∀ (i : Nat) (v : Value) (C : Addr) (mc : Str → Option Value) (ys : List Value) (nx : List (Addr × Obj)) (h : Heap) (tk : Nat) (own : List (Addr × Obj)) (E' : Value → Shared → Prop), vs[i]? = some v → J i ys nx → ys.length ≤ i → (∀ p ∈ nx, ∀ q ∈ own, p.1 ≠ q.1) → Fr h₀ C h (fun y => if y = x then some v else mc y) → News h₀ C h (nx ++ own) →
      CompTurn prog w A h₀ C (compEnvC scope cl C env) ifs elt own (fun nx' => J (i + 1) ys nx') (fun y nx' => J (i + 1) (ys ++ [y]) nx') s E' { s with heap := h, toks := tk })
    (done : ∀ D nD ys nx h' tk, J vs.length ys nx → ys.length ≤ vs.length → Fr h₀ L h' m → News h₀ L h' ((D, W.listOf ys.toArray nD) :: nx) → (∀ p ∈ news, p.1 < D) → (∀ p ∈ nx, p.1 ≠ D) → Q (.ref D) { s with heap := h', toks := tk }) :
    wpAny (model prog w) A (pyIter (.ref l)) (fun it s₂ => CompAtG prog w A h₀ L env scope cl x ifs elt Q it s₂) E s := by
  have hol : s.heap.get? l = some lo := hget 0 [] news hj _ (has_of F N fun _ h => h)
  have hls : s.heap.IsList l vs.toArray := ⟨_, hol, hc, nn, hd⟩
  have hne : l ≠ s.heap.objs.size := Nat.ne_of_lt (Heap.lt_size hol)
  refine wpAny_pyIter_list hls ?_
  have Wk := Walks.list (prog := prog) (w := w) hh s.heap.objs.size l hne vs.toArray
  have hlen : vs.toArray.size = vs.length := by simp
  rw [hlen] at Wk
  refine ⟨_, _, _, vs.length, _, _, m, news, J, rfl, Wk, hn1, ⟨⟨_, Heap.get?_push_size _ rfl, rfl, rfl⟩, hls.at fun o e => Heap.get?_push_of_some _ e⟩, ?_, ?_, ?_, ?_, ?_, ?_, F.push _, (fun p hp => ⟨Heap.get?_push_of_some _ (N p hp).1, (N p hp).2⟩), hj, ?_, ?_⟩
  · intro b hb
    rw [Heap.size_push]
    rcases List.mem_cons.mp hb with rfl | hb
    · exact Nat.lt_succ_self _
    · rw [List.mem_singleton.mp hb]; exact Nat.lt_succ_of_lt (Heap.lt_size hol)
  · intro b' hb
    rw [List.mem_singleton.mp hb]; exact next_is_new F
  · intro p hp hI
    exact absurd (Heap.lt_size (N p hp).1) ((List.mem_singleton.mp hI) ▸ Nat.lt_irrefl _)
  · intro hm
    exact absurd F.ns.lt ((List.mem_singleton.mp hm) ▸ Nat.lt_irrefl _)
  · intro b hb hb'
    rcases List.mem_cons.mp hb with rfl | hb
    · exact absurd (.head _) hb'
    · rw [List.mem_singleton.mp hb]; exact ⟨lo, hget⟩
  · intro i b hb h st e
    rw [List.mem_singleton.mp hb] at e
    obtain ⟨o, ho, _⟩ := st.1
    rw [e] at ho; cases ho
  · rintro i v C mc ys nx h tk own E' hi hP hJ hyl _ hoff F₁ N₁
    exact (turn i v C mc ys nx h tk own E' (by simpa using hP) hJ hyl hoff F₁ N₁).at
  · exact done
end
theorem comp_gF {prog : Program} {w : World} {A : Around} {E : Value → Shared → Prop} {env : Env} {s : Shared} {h₀ h : Heap} {L : Addr} {m : Str → Option Value} {elt iter : Expr} {x : Str} {px : Pos} {ifs : List Expr} {scope : Scope} {cl : List (Str × Addr)} {pos : Pos} {Q : Value → Shared → Prop}
    (_F : Fr h₀ L h m) (hclos : closureFor scope env = pure cl) (hcell : ∀ y ∈ scope.names, y.2 ≠ .cell) (hkind : scope.kind = .function)
    (hnames : ∀ y ∈ scope.names, y.2 = .local → scope.names.lookup y.1 = some .local) (hx : scope.names.lookup x = some .local)
    (h : wpAny (model prog w) A (eval iter env) (fun xv s₁ => wpAny (model prog w) A (pyIter xv) (fun it s₂ => CompAtG prog w A h₀ L env scope cl x ifs elt Q it s₂) E s₁) E s)
    (hs : ∀ x, foldedSetIterable iter env x = pure x := by intro _; rfl) :
    wpAny (model prog w) A (eval (.ListComp elt [⟨.Name x px, iter, ifs, 0⟩] scope pos) env) Q E s := comp_g hclos hcell hkind hnames hx h hs
section
variable {prog : Program} {w : World} {A : Around} {h₀ : Heap} {C : Addr} {cenv : Env} {elt t : Expr} {own : List (Addr × Obj)} {J0 : List (Addr × Obj) → Prop} {J1 : Value → List (Addr × Obj) → Prop} {s₂ s₃ : Shared} {E' : Value → Shared → Prop}
noncomputable def EltGoal (prog : Program) (w : World) (A : Around) (elt : Expr) (cenv : Env) (P : Value → Shared → Prop) (E' : Value → Shared → Prop) (s : Shared) : Prop := wpAny (model prog w) A (eval elt cenv) P E' s
theorem comp_turn0 (h : wpAny (model prog w) A (eval elt cenv) (EltEnd h₀ C own J1 s₂) E' s₃) : CompTurn prog w A h₀ C cenv [] elt own J0 J1 s₂ E' s₃ := by
  unfold CompTurn
  rw [List.forIn_nil]
  exact wpAny_pure ((if_pos rfl).mpr h)
theorem comp_turn1 (h : wpAny (model prog w) A (isTrue t cenv (eval t cenv)) (fun ok s₄ => if ok = true then EltGoal prog w A elt cenv (EltEnd h₀ C own J1 s₂) E' s₄ else SkipEnd h₀ C own J0 s₂ s₄) E' s₃) : CompTurn prog w A h₀ C cenv [t] elt own J0 J1 s₂ E' s₃ := by
  unfold CompTurn
  rw [List.forIn_cons, if_pos rfl]
  refine wpAny_bind (wpAny_bind (wpAny_mono h (fun ok s₄ h₄ => wpAny_pure ?_) fun _ _ e => e))
  dsimp only
  rw [List.forIn_nil]
  exact wpAny_pure h₄
end

theorem bitsD_range (n : Nat) : ∀ k, bitsD k n = (List.range k).filterMap (fun j => if n.testBit (k - 1 - j) then some (k - 1 - j) else none)
  | 0 => rfl
  | k + 1 => by
    rw [List.range_succ_eq_map, List.filterMap_cons, List.filterMap_map, bitsD]
    have e : ((fun j => if n.testBit (k + 1 - 1 - j) then some (k + 1 - 1 - j) else none) ∘ Nat.succ) = fun j => if n.testBit (k - 1 - j) then some (k - 1 - j) else none := by
      funext j
      show (if n.testBit (k + 1 - 1 - (j + 1)) then some (k + 1 - 1 - (j + 1)) else none) = _
      rw [nm1 k j]
    rw [e, ← bitsD_range n k]
    rw [show k + 1 - 1 - 0 = k from rfl]
    cases n.testBit k <;> rfl
end

/- NV -/
theorem offNV : True := by
  w_top off
  exact trivial
section
open PySem PySem.W PyProof.Rows PySem.Spec PySem.Calls PySem.SeqAt
set_option Elab.async false
set_option maxRecDepth 100000
set_option maxHeartbeats 2000000

structure Led (h₀ h : Heap) (L : Addr) (m : Str → Option Value) (lit rest : List (Addr × Obj)) : Prop where
  F : Fr h₀ L h m
  N : News h₀ L h (lit ++ rest)
  nd : (lit.map (·.1)).Nodup
  ap : ∀ p ∈ rest, ∀ q ∈ lit, p.1 ≠ q.1

section
variable {h₀ h h' : Heap} {L : Addr} {m : Str → Option Value} {lit lit' rest : List (Addr × Obj)} {a : Addr} {o : Obj}
theorem Led.get (D : Led h₀ h L m lit rest) (hm : (a, o) ∈ lit) : h.get? a = some o := (D.N _ (List.mem_append_left _ hm)).1
theorem Led.lt (D : Led h₀ h L m lit rest) {p : Addr × Obj} (hp : p ∈ lit ++ rest) : p.1 < h.objs.size := Heap.lt_size (D.N p hp).1
theorem Led.perm (D : Led h₀ h L m lit rest) (p : lit.Perm lit') : Led h₀ h L m lit' rest :=
  ⟨D.F, fun q hq => D.N q ((List.mem_append.mp hq).elim (fun h => List.mem_append_left _ (p.mem_iff.mpr h)) fun h => List.mem_append_right _ h), ((p.map _).nodup_iff).mp D.nd, fun r hr q hq => D.ap r hr q (p.mem_iff.mpr hq)⟩
theorem Led.drop (D : Led h₀ h L m (lit' ++ lit) rest) : Led h₀ h L m lit rest :=
  ⟨D.F, fun q hq => D.N q (by rw [List.append_assoc]; exact List.mem_append_right _ hq), by
    have := D.nd; rw [List.map_append] at this; exact (List.nodup_append.mp this).2.1, fun r hr q hq => D.ap r hr q (List.mem_append_right _ hq)⟩
theorem Led.alloc (D : Led h₀ h L m lit rest) (o : Obj) (hf : o.isFreed = false) : Led h₀ (h.push o) L m ((h.objs.size, o) :: lit) rest := by
  refine ⟨D.F.push o, News.push D.F D.N o hf, ?_, ?_⟩
  · rw [List.map_cons, List.nodup_cons]
    refine ⟨fun hm => ?_, D.nd⟩
    obtain ⟨p, hp, e⟩ := List.mem_map.mp hm
    exact absurd (D.lt (List.mem_append_left _ hp)) (by rw [e]; exact Nat.lt_irrefl _)
  · intro p hp q hq
    rcases List.mem_cons.mp hq with rfl | hq
    · exact Nat.ne_of_lt (D.lt (List.mem_append_right _ hp))
    · exact D.ap p hp q hq
theorem Led.ext {new : List (Addr × Obj)} {o' : Obj} (D : Led h₀ h L m ((a, o) :: lit) rest) (hx : Heap.ExtBut a h h') (ha : h'.get? a = some o') (hn : ∀ p ∈ new, h'.get? p.1 = some p.2 ∧ h.objs.size ≤ p.1) (hnd : (new.map (·.1)).Nodup) :
    Led h₀ h' L m (new ++ (a, o') :: lit) rest := by
  have ne1 : ∀ p ∈ lit, p.1 ≠ a := fun p hp e => by
    have := D.nd; rw [List.map_cons, List.nodup_cons] at this
    exact this.1 (List.mem_map.mpr ⟨p, hp, e⟩)
  have ne2 : ∀ p ∈ rest, p.1 ≠ a := fun p hp => D.ap p hp _ (.head _)
  have hz := D.N _ (List.mem_append_left _ (.head _))
  have hL : L ≠ a := fun e => hz.2.1 e.symm
  have lo : ∀ p ∈ new, ∀ q ∈ ((a, o) :: lit) ++ rest, q.1 < p.1 := fun p hp q hq => Nat.lt_of_lt_of_le (D.lt hq) (hn p hp).2
  have hLs := D.F.ns.lt
  refine ⟨⟨D.F.ns.extBut hx hL, fun b o' e => hx b o' (fun e' => ?_) (D.F.keep b o' e), D.F.above⟩, fun p hp => ?_, ?_, ?_⟩
  · have := hz.2.2
    dsimp only at this
    rw [← e', e] at this; cases this
  · rcases List.mem_append.mp hp with hp | hp
    · rcases List.mem_append.mp hp with hp | hp
      · refine ⟨(hn p hp).1, Nat.ne_of_gt (Nat.lt_of_lt_of_le hLs (hn p hp).2), ?_⟩
        exact Heap.get?_none_of_le (Nat.le_trans D.F.above (Nat.le_trans (Nat.le_of_lt hLs) (hn p hp).2))
      · rcases List.mem_cons.mp hp with rfl | hp
        · exact ⟨ha, hz.2⟩
        · have z := D.N p (List.mem_append_left _ (.tail _ hp))
          exact ⟨hx _ _ (ne1 p hp) z.1, z.2⟩
    · have z := D.N p (List.mem_append_right _ hp)
      exact ⟨hx _ _ (ne2 p hp) z.1, z.2⟩
  · rw [List.map_append, List.nodup_append]
    refine ⟨hnd, by have := D.nd; rw [List.map_cons] at this ⊢; exact this, fun x hx y hy e => ?_⟩
    subst e
    obtain ⟨p, hp, e1⟩ := List.mem_map.mp hx
    obtain ⟨q, hq, e2⟩ := List.mem_map.mp hy
    rcases List.mem_cons.mp hq with rfl | hq
    · exact absurd (lo p hp (a, o) (.head _)) (by rw [e1, ← e2]; exact Nat.lt_irrefl _)
    · exact absurd (lo p hp q (List.mem_append_left _ (.tail _ hq))) (by rw [e1, ← e2]; exact Nat.lt_irrefl _)
  · intro p hp q hq
    rcases List.mem_append.mp hq with hq | hq
    · exact Nat.ne_of_lt (lo q hq p (List.mem_append_right _ hp))
    · rcases List.mem_cons.mp hq with rfl | hq
      · exact ne2 p hp
      · exact D.ap p hp q (.tail _ hq)
theorem Led.set (D : Led h₀ h L m ((a, o) :: lit) rest) (f : Obj → Obj) (hf : (f o).isFreed = false) : Led h₀ (h.update a f) L m ((a, f o) :: lit) rest :=
  D.ext (new := []) (fun b o' hb e => (Heap.SameBut.update ..).extBut b o' hb e) (Heap.get?_update_self f (D.get (.head _)) hf) (fun _ h => nomatch h) (by simp)
end

section
variable {M : Model} {A : Around} {E : Value → Shared → Prop} {s : Shared} {h₀ : Heap} {L : Addr} {m : Str → Option Value} {lit rest : List (Addr × Obj)} {a : Addr} {o : Obj}
theorem alloc_L {Q : Addr → Shared → Prop} (D : Led h₀ s.heap L m lit rest) (hf : o.isFreed = false)
    (h : ∀ I h', Led h₀ h' L m ((I, o) :: lit) rest → (∀ p ∈ lit ++ rest, p.1 < I) → Q I { s with heap := h' }) : wpAny M A (alloc o) Q E s :=
  wpAny_alloc (h _ _ (D.alloc o hf) fun _ hp => D.lt hp)
theorem update_L {Q : Unit → Shared → Prop} {part : Option Value} {f : Obj → Obj} (D : Led h₀ s.heap L m ((a, o) :: lit) rest) (hf : (f o).isFreed = false)
    (h : ∀ h', Led h₀ h' L m ((a, f o) :: lit) rest → Q () { s with heap := h' }) : wpAny M A (updatePart a part f) Q E s :=
  wpAny_updatePart (D.get (.head _)) (h _ (D.set f hf))
theorem update1_L {Q : Unit → Shared → Prop} {f : Obj → Obj} (D : Led h₀ s.heap L m ((a, o) :: lit) rest) (hf : (f o).isFreed = false)
    (h : ∀ h', Led h₀ h' L m ((a, f o) :: lit) rest → Q () { s with heap := h' }) : wpAny M A (update a f) Q E s :=
  wpAny_update (D.get (.head _)) (h _ (D.set f hf))
end

inductive EntsL : List DictEntry → List (Str × Value) → Prop
  | nil : EntsL [] []
  | cons (hash : Int) (k : Str) (t : Tok) (v : Value) {es : List DictEntry} {kvs : List (Str × Value)} : EntsL es kvs → EntsL (⟨hash, .str k t, v⟩ :: es) ((k, v) :: kvs)
noncomputable def kvPut (n : Str) (v : Value) : List (Str × Value) → List (Str × Value)
  | [] => [(n, v)]
  | p :: r => if p.1 = n then (n, v) :: r else p :: kvPut n v r
noncomputable def kvDrop (n : Str) : List (Str × Value) → List (Str × Value)
  | [] => []
  | p :: r => if p.1 = n then r else p :: kvDrop n r
theorem isStrByCps_str (k n : Str) (t : Tok) : (Value.str k t).isStrByCps n.cps.size n.cps.toList = decide (k = n) := by
  rw [Value.isStrByCps_eq]
  show (k == n) = _
  rw [Bool.eq_iff_iff, beq_iff_eq, decide_eq_true_iff]
theorem lookup_cons' (k n : Str) (v : Value) (r : List (Str × Value)) : List.lookup n ((k, v) :: r) = if k = n then some v else r.lookup n := by
  rw [List.lookup_cons]
  by_cases h : k = n
  · subst h; simp
  · rw [if_neg h]
    have : (n == k) = false := by rw [beq_eq_false_iff_ne]; exact fun e => h e.symm
    rw [this]
theorem EntsL.name {n : Str} {es : List DictEntry} {kvs : List (Str × Value)} (x : EntsL es kvs) : ∀ saw, nsNameIn n.cps.size n.cps.toList es saw = ((nsNameIn n.cps.size n.cps.toList es false).1, if (kvs.lookup n).isSome then saw else saw) ∧
    ((nsNameIn n.cps.size n.cps.toList es saw).1.map (·.val)) = kvs.lookup n := by
  induction x with
  | nil => intro saw; simp [nsNameIn]
  | cons hash k t v r ih =>
    intro saw
    rw [lookup_cons']
    by_cases h : k = n
    · subst h
      have e : (Value.str k t).isStrByCps k.cps.size k.cps.toList = true := by rw [isStrByCps_str]; simp
      simp [nsNameIn, e]
    · have e : (Value.str k t).isStrByCps n.cps.size n.cps.toList = false := by rw [isStrByCps_str]; simp [h]
      have hr : (⟨hash, .str k t, v⟩ : DictEntry).refKey = false := rfl
      simp only [nsNameIn, e, hr, Bool.or_false, Bool.false_eq_true, if_false, if_neg h]
      exact ih saw
theorem EntsL.put {n : Str} {h : Int} {t : Tok} {v : Value} {f : Option DictEntry → DictEntry} (h1 : f none = ⟨h, .str n t, v⟩) (h2 : ∀ e, f (some e) = { e with val := v })
    {es : List DictEntry} {kvs : List (Str × Value)} (x : EntsL es kvs) : EntsL (nsPutIn n.cps.size n.cps.toList f es).1 (kvPut n v kvs) := by
  induction x with
  | nil =>
    show EntsL [f none] [(n, v)]
    rw [h1]; exact .cons h n t v .nil
  | cons hash k u w r ih =>
    unfold nsPutIn kvPut
    by_cases hk : k = n
    · subst hk
      have e : (Value.str k u).isStrByCps k.cps.size k.cps.toList = true := by rw [isStrByCps_str]; simp
      simp only [e, if_true, h2]
      exact .cons hash k u v r
    · have e : (Value.str k u).isStrByCps n.cps.size n.cps.toList = false := by rw [isStrByCps_str]; simp [hk]
      simp only [e, Bool.false_eq_true, if_false, if_neg hk]
      exact .cons hash k u w ih
theorem EntsL.dropped {n : Str} {es : List DictEntry} {kvs : List (Str × Value)} (x : EntsL es kvs) (h : (kvs.lookup n).isSome = true) :
    ∃ es', nsDropIn n.cps.size n.cps.toList es = some es' ∧ EntsL es' (kvDrop n kvs) := by
  induction x with
  | nil => cases h
  | cons hash k u w r ih =>
    rw [lookup_cons'] at h
    unfold nsDropIn kvDrop
    by_cases hk : k = n
    · have e : (Value.str k u).isStrByCps n.cps.size n.cps.toList = true := by rw [isStrByCps_str]; simp [hk]
      simp only [e, if_true, if_pos hk]
      exact ⟨_, rfl, r⟩
    · have e : (Value.str k u).isStrByCps n.cps.size n.cps.toList = false := by rw [isStrByCps_str]; simp [hk]
      rw [if_neg hk] at h
      obtain ⟨es', e1, e2⟩ := ih h
      simp only [e, Bool.false_eq_true, if_false, if_neg hk, e1]
      exact ⟨_, rfl, .cons hash k u w e2⟩
theorem EntsL.len {es : List DictEntry} {kvs : List (Str × Value)} (x : EntsL es kvs) : es.length = kvs.length := by
  induction x with
  | nil => rfl
  | cons _ _ _ _ r ih => exact congrArg Nat.succ ih
theorem EntsL.keys {es : List DictEntry} {kvs : List (Str × Value)} (x : EntsL es kvs) : ∀ e ∈ es, ∃ n t, e.key = .str n t := by
  induction x with
  | nil => intro _ h; cases h
  | cons _ k t _ r ih => exact List.forall_mem_cons.mpr ⟨⟨k, t, rfl⟩, ih⟩
theorem EntsL.any {n : Str} {es : List DictEntry} {kvs : List (Str × Value)} (x : EntsL es kvs) : es.any (·.key.isStr n) = (kvs.lookup n).isSome := by
  induction x with
  | nil => rfl
  | cons _ k t _ r ih =>
    rw [List.any_cons, ih, lookup_cons']
    show (k == n || _) = _
    by_cases h : k = n
    · simp [h]
    · have : (k == n) = false := by rw [beq_eq_false_iff_ne]; exact h
      simp [h, this]
theorem EntsL.find {n : Str} {es : List DictEntry} {kvs : List (Str × Value)} (x : EntsL es kvs) : (es.find? (·.key.isStr n)).map (·.val) = kvs.lookup n := by
  induction x with
  | nil => rfl
  | cons _ k t _ r ih =>
    rw [List.find?_cons, lookup_cons']
    by_cases h : k = n
    · subst h
      have : (Value.str k t).isStr k = true := by show (k == k) = true; simp
      simp [this]
    · have : (Value.str k t).isStr n = false := by show (k == n) = false; rw [beq_eq_false_iff_ne]; exact h
      simp only [this, if_neg h]; exact ih

noncomputable def DictO (o : Obj) (kvs : List (Str × Value)) : Prop := o.cls = .type "dict" ∧ o.dict = none ∧ o.slots = #[] ∧ ∃ es n, o.data = .dict es n ∧ EntsL es.toList kvs
theorem DictO.free {o : Obj} {kvs : List (Str × Value)} (x : DictO o kvs) : o.isFreed = false := by
  obtain ⟨_, _, _, es, n, hd, _⟩ := x
  obtain ⟨c, d, dt, sl⟩ := o
  dsimp only at hd; subst hd; rfl
theorem DictO.ns {h : Heap} {a : Addr} {o : Obj} {kvs : List (Str × Value)} (x : DictO o kvs) (ho : h.get? a = some o) : h.Ns a (fun n => kvs.lookup n) := by
  obtain ⟨_, _, _, es, n, hd, he⟩ := x
  refine ⟨o, es, n, ho, hd, fun e hm => he.keys e (by simpa using hm), fun name => ?_⟩
  unfold nsFind findBy
  have := he.find (n := name)
  obtain ⟨l⟩ := es
  simpa using this
section
variable {M : Model} {A : Around} {E : Value → Shared → Prop} {s : Shared} {h₀ : Heap} {L : Addr} {m : Str → Option Value} {lit rest : List (Addr × Obj)} {a : Addr} {o : Obj} {kvs : List (Str × Value)} {n : Str} {v : Value}
theorem nsGet_D {Q : Option Value → Shared → Prop} (x : DictO o kvs) (ho : s.heap.get? a = some o) (h : Q (kvs.lookup n) s) : wpAny M A (nsGet a n) Q E s := wpAny_nsGet (x.ns ho) h
theorem notRef_D {es : Array DictEntry} (he : EntsL es.toList kvs) : aRefKeyMayBeTheName n es = false := by
  unfold aRefKeyMayBeTheName
  obtain ⟨e1, _⟩ := he.name (n := n) false
  rw [e1]
  have : (if (kvs.lookup n).isSome = true then false else false) = false := by split <;> rfl
  rw [this]
  cases (nsNameIn n.cps.size n.cps.toList es.toList false).1 <;> rfl
theorem nsSet_D {Q : Unit → Shared → Prop} (x : DictO o kvs) (D : Led h₀ s.heap L m ((a, o) :: lit) rest)
    (h : ∀ o' h', DictO o' (kvPut n v kvs) → Led h₀ h' L m ((a, o') :: lit) rest → Q () { s with heap := h', toks := s.toks + 1 }) : wpAny M A (nsSet a n v) Q E s := by
  obtain ⟨hc, hdi, hsl, es, k, hd, he⟩ := x
  have ho := D.get (.head _)
  unfold nsSet
  refine wpAny_bind (m := strHash n) ?_
  unfold strHash
  refine wpAny_bind (wpAny_askSetting (wpAny_pure ?_))
  refine wpAny_bind (wpAny_mkText ?_)
  refine wpAny_bind (wpAny_loadPart ho ?_)
  rw [hd]
  dsimp only
  rw [notRef_D he]
  simp only [Bool.false_eq_true, if_false]
  refine wpAny_bind (wpAny_pure ?_)
  generalize (if n.cps.isEmpty = true then (0 : Int) else _) = hs
  have e3 : ∃ o', Obj.putName n hs (.str n s.toks) v o = o' ∧ DictO o' (kvPut n v kvs) := by
    refine ⟨_, rfl, ?_⟩
    obtain ⟨c, d, dt, sl⟩ := o
    dsimp only at hd hc hdi hsl; subst hd; subst hc; subst hdi; subst hsl
    unfold Obj.putName
    dsimp only
    split <;> rename_i es' heq
    all_goals
      have z := congrArg Prod.fst heq
      dsimp only at z
      refine ⟨rfl, rfl, rfl, _, _, rfl, ?_⟩
      rw [List.toList_toArray, ← z]
      exact EntsL.put rfl (fun _ => rfl) he
  obtain ⟨o', e4, e5⟩ := e3
  refine update_L D (by rw [e4]; exact e5.free) ?_
  intro h' D'
  rw [e4] at D'
  exact h o' h' e5 D'
theorem nsSetV_D {Q : Unit → Shared → Prop} (x : DictO o kvs) (hsz : kvs.length ≤ 1000) (D : Led h₀ s.heap L m ((a, o) :: lit) rest)
    (h : ∀ o' h', DictO o' (kvPut n v kvs) → Led h₀ h' L m ((a, o') :: lit) rest → Q () { s with heap := h', toks := s.toks + 1 }) : wpAny M A (nsSetByValue a n v) Q E s := by
  have x' := x
  obtain ⟨hc, hdi, hsl, es, k, hd, he⟩ := x
  unfold nsSetByValue
  refine wpAny_bind (wpAny_loadPart (D.get (.head _)) ?_)
  rw [hd]
  dsimp only
  have hz : es.size ≤ 1000 := by have := he.len; simp at this; exact eqk (by assumption) (by assumption) (by exact rfl)
  have : (decide (es.size > sizeLine) && noSuchName n es) = false := by
    rw [decide_eq_false (by rw [sizeLine_eq]; omega), Bool.false_and]
  rw [this]
  simp only [Bool.false_eq_true, if_false]
  exact nsSet_D x' D h
theorem nsDel_D {Q : Bool → Shared → Prop} (x : DictO o kvs) (hs : (kvs.lookup n).isSome = true) (D : Led h₀ s.heap L m ((a, o) :: lit) rest)
    (h : ∀ o' h', DictO o' (kvDrop n kvs) → Led h₀ h' L m ((a, o') :: lit) rest → Q true { s with heap := h' }) : wpAny M A (nsDel a n) Q E s := by
  obtain ⟨hc, hdi, hsl, es, k, hd, he⟩ := x
  have ho := D.get (.head _)
  unfold nsDel
  refine wpAny_bind (wpAny_loadPart ho ?_)
  have hh : nsHas n o = pure true := by
    unfold nsHas
    rw [hd]
    dsimp only
    obtain ⟨e1, e2⟩ := he.name (n := n) false
    cases hq : nsNameIn n.cps.size n.cps.toList es.toList false with
    | mk p q =>
      rw [hq] at e2
      cases p with
      | none => dsimp only [Option.map] at e2; rw [← e2] at hs; cases hs
      | some e => rfl
  rw [hh]
  refine wpAny_bind (wpAny_pure ?_)
  simp only [if_true]
  obtain ⟨es', e1, e2⟩ := he.dropped (n := n) hs
  have e3 : ∃ o', Obj.dropName n o = o' ∧ DictO o' (kvDrop n kvs) := by
    refine ⟨_, rfl, ?_⟩
    obtain ⟨c, d, dt, sl⟩ := o
    dsimp only at hd hc hdi hsl; subst hd; subst hc; subst hdi; subst hsl
    show DictO (match nsDropIn n.cps.size n.cps.toList es.toList with
    | some es' => _
    | none => _) _
    rw [e1]
    exact ⟨rfl, rfl, rfl, _, _, rfl, by simpa using e2⟩
  obtain ⟨o', e4, e5⟩ := e3
  refine wpAny_bind (update_L D (by rw [e4]; exact e5.free) fun h' D' => ?_)
  rw [e4] at D'
  exact wpAny_pure (h o' h' e5 D')
theorem dictEntries_D {Q : Array DictEntry → Shared → Prop} {part : Option Value} (x : DictO o kvs) (ho : s.heap.get? a = some o) (h : ∀ es, EntsL es.toList kvs → Q es s) : wpAny M A (dictEntries a part) Q E s := by
  obtain ⟨hc, hdi, hsl, es, k, hd, he⟩ := x
  unfold dictEntries
  refine wpAny_bind (wpAny_loadPart ho ?_)
  rw [hd]
  exact wpAny_pure (h es he)
end
end

/- NX1 -/
theorem offNX1 : True := by
  w_top off
  exact trivial
section
open PySem PySem.W PyProof.Rows PySem.Spec PySem.Calls PySem.SeqAt
set_option Elab.async false
set_option maxRecDepth 100000
set_option maxHeartbeats 2000000
section
variable {prog : Program} {w : World} {A : Around} {E : Value → Shared → Prop} {s : Shared} {K : Frag} {c mc : Value} {name : Str}
theorem cls_try {r : CFound} {Q : Option Value → Shared → Prop} {hook : Option Value} (X : K.In s.heap) (ho : Looks (model prog w) s.heap (opaqueClassAbove c) none) (ht : Looks (model prog w) s.heap (typeOf c) mc)
    (hga : findIn K mc "__getattribute__" = some (some (.builtin "type.__getattribute__"))) (hb : Looks (model prog w) s.heap (hookBefore mc) hook) (hi : subIn K mc (.type "type") = some true) (e : findCls K c mc name = some r)
    (h : wpAny (model prog w) A.in1 r.run (fun fin s' => match fin with | .done (.ret v) => wpAny (model prog w) A (handedOut v) (fun v => Q (some v)) (fun _ _ => False) s' | _ => False) (fun _ _ => False) { s with toks := s.toks + 1 }) :
    wpAny (model prog w) A (getAttr? c name) Q E s := by
  unfold getAttr? getAttrBy?
  refine wpAny_bind (wpAny_mkText (wpAny_bind (wpAny_attempt ?_)))
  unfold getAttrBy
  refine wpAny_mono (Q := fun v s' => Q (some v) s') (E := fun _ _ => False) ?_ (fun v s' z => wpAny_pure z) (fun _ _ z => z.elim)
  refine wpAny_holding (wpAny_bind (ht _ _ _ _ (fun _ _ e => e) (wpAny_bind (looks_findIn X hga _ _ _ _ (fun _ _ e => e) ?_))))
  dsimp only
  rw [show (onTheHeap mc && Value.builtin "type.__getattribute__" == Value.builtin "object.__getattribute__") = false from by rw [show (Value.builtin "type.__getattribute__" == Value.builtin "object.__getattribute__") = false from by decide +kernel, Bool.and_false], if_neg (by decide)]
  refine wpAny_bind (hb _ _ _ _ (fun _ _ e => e) (wpAny_bind (wpAny_attempt (wpAny_holding ?_))))
  unfold callGetattribute
  rw [show (false && onTheHeap (Value.builtin "type.__getattribute__")) = false from rfl, if_neg (by decide)]
  unfold boundAndCalled
  rw [KF.slot_tga.bind]
  refine wpAny_bind (wpAny_pure ?_)
  show wpAny _ _ (call (.builtin "type.__getattribute__") [c, .str name s.toks]) _ _ _
  refine wpAny_call ?_
  refine codeAny_call_builtin KF.slot_tga.plain KF.entry_tga ?_
  refine @check_slot (model prog w) _ _ { s with toks := s.toks + 1 } "type.__getattribute__" "type" "__getattribute__" c [.str name s.toks] [] _ (by decide +kernel) (by decide +kernel) (ht.andThen (looks_subIn X hi)) (KF.args_tga c (.str name s.toks)) ?_
  refine tga_run (s := { s with toks := s.toks + 1 }) X ho ht e (wpAny_mono h (fun fin s' z => ?_) fun _ _ z => z.elim)
  rcases fin with (_ | _ | _ | _) | _ <;> first | exact z | exact z.elim
end
namespace Prep
noncomputable def bound : Obj := { cls := .type "builtin_function_or_method", data := .fields #[.builtin "type.__prepare__", .type "type"] }
theorem type_tp : typeOf (.builtin "type.__prepare__") = pure (.type "classmethod_descriptor") := by show builtinType _ = _; rw [builtinType_eq_fast]; kernel_rfl
theorem entry_tp : entryFor table "type.__prepare__" = some Builtin.«type.__prepare__» := entryFor_of_tree (by kernel_rfl)
theorem owner_tp : (kfb_private% "ownerAndName") "type.__prepare__" = ("type", "__prepare__") := by first | decide +kernel | kernel_rfl
theorem isType_type : isType (.type "type") = pure true := by first | rfl | kernel_rfl
theorem quiet_tp {as : Args} : (Code.builtin "type.__prepare__" as).quiet = true := Code.quiet_builtin _ (by decide +kernel)
theorem check_tp {a b : Value} : checkBoundCall "type.__prepare__" ⟨[.type "type", a, b], []⟩ = pure () := by first | kernel_rfl | rfl
section
variable {prog : Program} {w : World} {M : Model} {A : Around} {E : Value → Shared → Prop} {s : Shared} {h₀ : Heap} {L : Addr} {m : Str → Option Value} {lit rest : List (Addr × Obj)}
theorem run_get {P : Fin → Shared → Prop} (h : P (.done (.ret (.ref s.heap.objs.size))) { s with heap := s.heap.push bound }) :
    wpAny M A (Builtin.«classmethod_descriptor.__get__» ⟨[.builtin "type.__prepare__", .none, .type "type"], []⟩) P E s := by
  unfold Builtin.«classmethod_descriptor.__get__»
  refine wpAny_bind (wpAny_of_eq (a := (.builtin "type.__prepare__", none, some (.type "type"))) (by first | rfl | kernel_rfl) ?_)
  simp only [owner_tp]
  refine wpAny_bind (wpAny_of_eq (a := .type "type") rfl ?_)
  refine wpAny_bind (wpAny_of_eq (a := true) isType_type ?_)
  refine wpAny_bind (wpAny_of_eq (a := true) F.sub_type_type ?_)
  exact wpAny_bind (wpAny_newObj_type (wpAny_pure h))
theorem get {Q : Option Value → Shared → Prop} (D : Led h₀ s.heap L m lit rest)
    (h : ∀ x h', Led h₀ h' L m ((x, bound) :: lit) rest → L < x → (∀ q ∈ lit ++ rest, q.1 < x) → Q (some (.ref x)) { s with heap := h', toks := s.toks + 1 }) : wpAny (model prog w) A (getAttr? (.type "type") ("__prepare__" : Str)) Q E s := by
  have X : Frag.In [] s.heap := fun _ _ e => by cases e
  have hstub : opaqueClassAbove (.type "type") = pure none := by unfold opaqueClassAbove; dsimp only; rw [show Manifest.isStub "type" = false by decide +kernel]; rfl
  have ht : typeOf (.type "type") = pure (.type "type") := by first | rfl | kernel_rfl
  have L0 : Looks (model prog w) s.heap (typeOf (.type "type")) (.type "type") := Looks.of_pure ht
  have LO : Looks (model prog w) s.heap (opaqueClassAbove (.type "type")) none := Looks.of_pure hstub
  refine cls_try (r := .get (.builtin "classmethod_descriptor.__get__") (.builtin "type.__prepare__") .none (.type "type")) X LO L0 type_tga (looks_hook X (r := none) (by rfl)) (by show subIn [] _ _ = _; decide +kernel) (by kernel_rfl) ?_
  show wpAny _ _ (holding [.builtin "type.__prepare__"] (call (.builtin "classmethod_descriptor.__get__") [.builtin "type.__prepare__", .none, .type "type"]) >>= fun v => ret v) _ _ _
  refine wpAny_bind (wpAny_holding (wpAny_call_entry KFB.slot_get type_tp KFB.entry_get (run_get ⟨_, rfl, wpAny_pure (wpAny_pure (h _ _ (D.alloc bound rfl) D.F.ns.lt (fun _ hq => D.lt hq)))⟩) (KFB.args_get _ _ _)))
theorem call_of {x : Addr} {a b : Value} {Q : Value → Shared → Prop} (ho : s.heap.get? x = some bound) (D : Led h₀ s.heap L m lit rest)
    (h : ∀ d h', Led h₀ h' L m ((d, { cls := .type "dict", data := .dict #[] }) :: lit) rest → L < d → (∀ q ∈ lit ++ rest, q.1 < d) → Q (.ref d) { s with heap := h' }) : wpAny (model prog w) A (call (.ref x) [a, b]) Q E s := by
  refine wpAny_call (codeAny_of_tree ?_)
  show wpAny _ A.in1 (callAny (.ref x) ⟨[a, b], []⟩) _ _ s
  simp only [callAny]
  refine wpAny_bind (wpAny_load ho ?_)
  simp only [bound, show (Value.type "builtin_function_or_method" == Value.type "method" || Value.type "builtin_function_or_method" == Value.type "builtin_function_or_method" || Value.type "builtin_function_or_method" == Value.type "method-wrapper") = true by decide, if_true]
  refine KFB.if_so (by decide) ?_
  refine wpAny_bind (wpAny_of_eq (a := ()) check_tp ?_)
  refine wpAny_bind (wpAny_pure (wpAny_pure ?_))
  refine ⟨quiet_tp, codeAny_builtin entry_tp ?_⟩
  unfold Builtin.«type.__prepare__»
  refine wpAny_bind (m := newDict) (wpAny_newObj_type (wpAny_pure ?_))
  exact h _ _ (D.alloc _ rfl) D.F.ns.lt (fun _ hq => D.lt hq)
end
end Prep
end

/- NX2 -/
theorem offNX2 : True := by
  w_top off
  exact trivial
section
open PySem PySem.W PyProof.Rows PySem.Spec PySem.Calls PySem.SeqAt
set_option Elab.async false
set_option maxRecDepth 100000
set_option maxHeartbeats 2000000
noncomputable def CodeOk (o : Obj) (c P : Addr) : Prop :=
  ∃ vs file tf flags tg inF text tt, o.cls = .type "code" ∧ o.data = .fields vs ∧ vs[11]? = some (.ref P) ∧ vs.getD 11 .none = .ref P ∧ vs.getD 18 .none = .str file tf ∧
    vs.getD 7 .none = .int flags tg ∧ vs.getD 9 .none = .bool inF ∧ vs.getD 10 .none = .int text tt ∧ c ≠ P
theorem CodeOk.hd {h : Heap} {o : Obj} {c P : Addr} (x : CodeOk o c P) (ho : h.get? c = some o) : CodeHd h c P :=
  by obtain ⟨vs, file, tf, flags, tg, inF, text, tt, r⟩ := x; exact ⟨o, vs, file, tf, flags, tg, inF, text, tt, ho, r⟩
theorem CodeOk.of {h : Heap} {c P : Addr} (x : CodeHd h c P) : ∃ o, h.get? c = some o ∧ CodeOk o c P :=
  by obtain ⟨o, vs, file, tf, flags, tg, inF, text, tt, ho, r⟩ := x; exact ⟨o, ho, vs, file, tf, flags, tg, inF, text, tt, r⟩
noncomputable def NamedCode (o : Obj) (qual : Str) : Prop := ∃ vs t, o.data = .fields vs ∧ vs[1]? = some (.str qual t)
theorem NamedCode.rec' {h : Heap} {o : Obj} {c : Addr} {qual : Str} (x : NamedCode o qual) (ho : h.get? c = some o) : h.CodeRec (.ref c) qual :=
  let ⟨vs, t, e1, e2⟩ := x; ⟨c, o, vs, t, rfl, ho, e1, e2⟩
section
variable {M : Model} {prog : Program} {w : World} {A : Around} {E : Value → Shared → Prop} {s : Shared} {h₀ : Heap} {L : Addr} {m mg mb : Str → Option Value} {lit rest : List (Addr × Obj)} {p : Program} {loose : List Str} {mean : ExcName → Option Value}
theorem classCode_L {env : Env} {c P : Addr} {ps : Array Value} {pos : Pos} {firstLine : Nat} {name qualname : Str} {scope : Scope}
    {Q : Value → Shared → Prop} (hc : env.code = .ref c) (C : CodeHd s.heap c P) (D : Led h₀ s.heap L m ((P, tabObj ps) :: lit) rest) (ht : TriplesOk ps.toList) (hnf : codeAmong pos ps.toList = none)
    (h : ∀ c' oc P' h' tk, CodeOk oc c' P' → NamedCode oc qualname → Led h₀ h' L m ((c', oc) :: (P', tabObj #[]) :: (P, tabObj (ps ++ #[rawInt pos.line, rawInt pos.col, .ref c'])) :: lit) rest → (∀ q ∈ ((P, tabObj ps) :: lit) ++ rest, q.1 < c' ∧ q.1 < P') → Q (.ref c') { s with heap := h', toks := tk }) :
    wpAny M A (classCode env pos firstLine name qualname scope) Q E s := by
  have hP : s.heap.get? P = some (tabObj ps) := D.get (.head _)
  refine hideG fun G9 hG9 => ?_
  obtain ⟨o, vs, file, tf, flags, tg, inF, text, tt, r⟩ := id C
  refine hG9 ?_
  clear hG9 G9
  have ho := r.1
  have hd := r.2.2.1
  have h11 := r.2.2.2.2.1
  have h2 := r.2.2.2.2.2.1
  have h7 := r.2.2.2.2.2.2.1
  have h9 := r.2.2.2.2.2.2.2.1
  have h10 := r.2.2.2.2.2.2.2.2.1
  clear r
  have hpd : (tabObj ps).data = .fields ps := rfl
  unfold classCode codeAt
  rw [hc, if_neg (show ¬ ((Value.ref c == Value.none) = true) from Bool.false_ne_true)]
  refine wpAny_bind (wpAny_fieldsOf ho hd ?_)
  rw [h11]
  refine wpAny_bind (wpAny_fieldsOf hP hpd ?_)
  rw [hnf, h2, h7, h9, h10]
  refine wpAny_bind (wpAny_newCodeX fun c' P' h' tk hk hc' hP' hcode' htab' hrec' => ?_)
  have hop' := hk _ _ hP
  refine wpAny_bind (wpAny_updateFieldsOfTheText hop' hpd ?_)
  have hnew : (Obj.mapFields (fun vs => if (codeAmong pos vs.toList).isSome = true then vs else vs ++ #[rawInt pos.line, rawInt pos.col, .ref c']) (tabObj ps)).data =
      .fields (ps ++ #[rawInt pos.line, rawInt pos.col, .ref c']) := by
    rw [Obj.data_mapFields hpd, hnf]; rfl
  have hget := Heap.get?_update_self (h := h') (fun o => Obj.mapFields (fun vs => if (codeAmong pos vs.toList).isSome = true then vs else
    vs ++ #[rawInt pos.line, rawInt pos.col, .ref c']) o) hop' (Obj.isFreed_of_fields hnew)
  refine wpAny_bind (wpAny_fieldsOf hget hnew ?_)
  have hl : (ps ++ #[rawInt pos.line, rawInt pos.col, Value.ref c']).toList = ps.toList ++ [rawInt pos.line, rawInt pos.col, .ref c'] := by simp
  rw [hl, codeAmong_snoc _ ht hnf]
  have hcP : c' ≠ P := Nat.ne_of_gt (Nat.lt_of_lt_of_le (Heap.lt_size hP) hc')
  have hP'P : P' ≠ P := Nat.ne_of_gt (Nat.lt_of_lt_of_le (Heap.lt_size hP) hP')
  obtain ⟨oc, hoc, hok⟩ := CodeOk.of (CodeHd.of hcode' htab')
  refine hideG fun G9 hG9 => ?_
  obtain ⟨c₂, o₂, vs₂, t₂, e₂, g₂, d₂, r₂⟩ := hrec'
  refine hG9 ?_
  clear hG9 G9
  cases e₂
  rw [hoc] at g₂; cases g₂
  have htP := htab'.2
  have hnec : c' ≠ P' := by obtain ⟨_, _, _, _, _, _, _, _, r⟩ := hok; exact r.2.2.2.2.2.2.2.2
  refine wpAny_pure (h c' oc P' _ _ hok ⟨vs₂, t₂, d₂, r₂⟩ ?_ fun q hq => ⟨Nat.lt_of_lt_of_le (D.lt hq) hc', Nat.lt_of_lt_of_le (D.lt hq) hP'⟩)
  refine D.ext (new := [(c', oc), (P', tabObj #[])]) (fun b o' hb e => ((Heap.SameBut.update ..).extBut b o' hb (hk b o' e))) ?_ ?_ ?_
  · rw [hget]
    simp only [Obj.mapFields, hnf]
    rfl
  · intro q hq
    rcases List.mem_cons.mp hq with rfl | hq
    · exact ⟨(Heap.SameBut.update ..).extBut _ _ hcP hoc, hc'⟩
    · rw [List.mem_singleton.mp hq]
      exact ⟨(Heap.SameBut.update ..).extBut _ _ hP'P htP, hP'⟩
  · simp [hnec]

theorem makeFunction_L {env : Env} {c P : Addr} {ps : Array Value} {pos : Pos} {firstLine : Nat} {name qual : Str} {params : Arguments} {body : List Stmt} {scope : Scope} {clos : List (Str × Addr)}
    {Q : Value → Shared → Prop} (T : Top p loose mean mg mb h₀) (hcl : closureFor scope env = pure clos) (hge0 : env.globals = mainGlobals) (hcode : env.code = .ref c) (C : CodeHd s.heap c P)
    (D : Led h₀ s.heap L m ((P, tabObj ps) :: lit) rest) (ht : TriplesOk ps.toList) (hnf : codeAmong pos ps.toList = none)
    (h : ∀ f c' oc ctv doc h' tk, NamedCode oc qual → Led h₀ h' L m ((f, fnMade name qual params body scope clos doc ((mg "__name__").getD .none) c' ctv) :: (c', oc) :: (P, tabObj (ps ++ #[rawInt pos.line, rawInt pos.col, .ref c'])) :: lit) rest →
      (∀ q ∈ ((P, tabObj ps) :: lit) ++ rest, q.1 < c') → c' < f → Q (.ref f) { s with heap := h', toks := tk }) :
    wpAny M A (makeFunction name qual params (.stmts body) scope env [] [] [] pos firstLine) Q E s := by
  have hm : s.heap.get? P = some (tabObj ps) := D.get (.head _)
  have hfr : h₀.get? P = none := (D.N _ (List.mem_append_left _ (.head _))).2.2
  have hgs := T.g.keeps D.F.keep
  refine hideG fun G9 hG9 => ?_
  obtain ⟨bm, ob, b1, b2, b3, b4, b5, b6⟩ := T.bmain
  refine hG9 ?_
  clear hG9 G9
  have hgP : mainGlobals ≠ P := fun q => by
    refine hideG fun G9 hG9 => ?_
    obtain ⟨o, es, ep, e, hd, _⟩ := hgs
    refine hG9 ?_
    clear hG9 G9
    rw [q, hm] at e; cases e; cases hd
  have hbP : bm ≠ P := fun q => by
    have e := D.F.keep _ _ b3
    rw [q, hm] at e; cases e; cases b4
  have hbG : bm ≠ mainGlobals := fun q => by
    refine hideG fun G9 hG9 => ?_
    obtain ⟨o, es, ep, e, hd, _⟩ := T.g
    refine hG9 ?_
    clear hG9 G9
    rw [q, e] at b3; cases b3; rw [hd] at b6; cases b6
  refine makeFunction_K (mg := mg) hcl hge0 hgs hcode C hm ht hnf hgP ⟨bm, ob, b1, b2, hbG, hbP, D.F.keep _ _ b3, b4, b5, b6⟩ fun c' ctv doc h' tk hx hge hlt hrec htb => ?_
  refine hideG fun G9 hG9 => ?_
  obtain ⟨c₂, oc, vs, t, e2, hoc, hd, hv⟩ := hrec
  refine hG9 ?_
  clear hG9 G9
  cases e2
  have D' := D.ext (new := [(c', oc)]) hx htb (fun q hq => by rw [List.mem_singleton.mp hq]; exact ⟨hoc, hge⟩) (by simp)
  exact h h'.objs.size c' oc ctv doc _ tk ⟨vs, t, hd, hv⟩ (D'.alloc _ rfl) (fun q hq => Nat.lt_of_lt_of_le (D.lt hq) hge) hlt

variable {a : Addr} {o : Obj} {kvs : List (Str × Value)} {n : Str} {v : Value}
theorem localSet_L {env : Env} {Q : Unit → Shared → Prop} (hl : env.locals = a) (x : DictO o kvs) (D : Led h₀ s.heap L m ((a, o) :: lit) rest)
    (h : ∀ o' h', DictO o' (kvPut n v kvs) → Led h₀ h' L m ((a, o') :: lit) rest → Q () { s with heap := h', toks := s.toks + 1 }) : wpAny M A (localSet env n v) Q E s := by
  unfold localSet
  rw [hl]
  refine wpAny_bind (wpAny_load (D.get (.head _)) ?_)
  rw [x.1]
  refine KFB.if_so (by decide) ?_
  exact nsSet_D x D h
theorem Led.pick {h : Heap} (D : Led h₀ h L m lit rest) (is : List Nat) (hn : is.Nodup := by decide) : Led h₀ h L m (is.filterMap fun i => lit[i]?) rest := by
  have mem : ∀ q ∈ (is.filterMap fun i => lit[i]?), q ∈ lit := fun q hq => by
    obtain ⟨i, _, e⟩ := List.mem_filterMap.mp hq
    exact List.mem_of_getElem? e
  refine ⟨D.F, fun q hq => D.N q ((List.mem_append.mp hq).elim (fun h => List.mem_append_left _ (mem q h)) fun h => List.mem_append_right _ h), ?_, fun r hr q hq => D.ap r hr q (mem q hq)⟩
  rw [List.Nodup, List.pairwise_map, List.pairwise_filterMap]
  refine hn.imp ?_
  intro i j hij p hp q hq e
  have nd := D.nd
  rw [List.Nodup, List.pairwise_iff_getElem] at nd
  obtain ⟨hi, ei⟩ := List.getElem?_eq_some_iff.mp hp
  obtain ⟨hj, ej⟩ := List.getElem?_eq_some_iff.mp hq
  rcases Nat.lt_or_gt_of_ne hij with h | h
  · exact nd i j (by simpa using hi) (by simpa using hj) h (by simp [ei, ej, e])
  · exact nd j i (by simpa using hj) (by simpa using hi) h (by simp [ei, ej, e])
theorem storeName_L {env : Env} {Q : Unit → Shared → Prop} (hl : env.locals = a) (hk : env.scope.kind = .class) (hn : env.kindOf n = some .local ∨ (env.kindOf n = none ∧ compilersOwnNames.contains n = true)) (x : DictO o kvs) (D : Led h₀ s.heap L m ((a, o) :: lit) rest)
    (h : ∀ o' h', DictO o' (kvPut n v kvs) → Led h₀ h' L m ((a, o') :: lit) rest → Q () { s with heap := h', toks := s.toks + 1 }) : wpAny M A (storeName env n v) Q E s := by
  have hb : env.blockKind = .class := by unfold Env.blockKind; rw [hk]; rfl
  unfold storeName
  rcases hn with hn | ⟨hn, hc⟩
  · rw [hn]
    simp only [hk]
    exact localSet_L hl x D h
  · rw [hn]
    simp only [hk, hb, hc]
    exact localSet_L hl x D h
end
end

/- NW -/
theorem offNW : True := by
  w_top off
  exact trivial
section
open PySem PySem.W PyProof.Rows PySem.Spec PySem.Calls PySem.SeqAt
set_option Elab.async false
set_option maxRecDepth 100000
set_option maxHeartbeats 2000000
theorem isType_type {M : Model} {A : Around} {E : Value → Shared → Prop} {s : Shared} {n : String} {Q : Bool → Shared → Prop} (h : Q true s) : wpAny M A (isType (.type n)) Q E s := by
  unfold isType
  exact wpAny_pure h
theorem typeOf_object {M : Model} {A : Around} {E : Value → Shared → Prop} {s : Shared} {Q : Value → Shared → Prop} (h : Q (.type "type") s) : wpAny M A (typeOf (.type "object")) Q E s := by
  have : typeOf (.type "object") = pure (.type "type") := by kernel_rfl
  rw [this]; exact wpAny_pure h
theorem isSub_type {M : Model} {A : Around} {E : Value → Shared → Prop} {s : Shared} {Q : Bool → Shared → Prop} (h : Q true s) : wpAny M A (isSubtype (.type "type") (.type "type")) Q E s := by
  rw [F.sub_type_type]; exact wpAny_pure h
theorem for1 {M : Model} {A : Around} {E : Value → Shared → Prop} {s : Shared} {α β : Type} {x : α} {init : β} {f : α → β → Sem (ForInStep β)} {Q : β → Shared → Prop}
    (h : wpAny M A (f x init) (fun r s' => ∃ b, r = .yield b ∧ Q b s') E s) : wpAny M A (forIn [x] init f) Q E s := by
  rw [List.forIn_cons]
  refine wpAny_bind (wpAny_mono h (fun r s' hr => ?_) fun _ _ e => e)
  obtain ⟨b, e, hq⟩ := hr
  rw [e]
  dsimp only
  rw [List.forIn_nil]
  exact wpAny_pure hq
theorem Led.front {h₀ h : Heap} {L : Addr} {m : Str → Option Value} {x : Addr × Obj} {post rest : List (Addr × Obj)} (pre : List (Addr × Obj)) (D : Led h₀ h L m (pre ++ x :: post) rest) : Led h₀ h L m (x :: (pre ++ post)) rest :=
  D.perm List.perm_middle
section
variable {M : Model} {prog : Program} {w : World} {A : Around} {E : Value → Shared → Prop} {s : Shared} {h₀ : Heap} {L : Addr} {m mg mb : Str → Option Value} {lit rest : List (Addr × Obj)} {p : Program} {loose : List Str} {mean : ExcName → Option Value}
  {a : Addr} {o : Obj} {kvs : List (Str × Value)} {n : Str} {v : Value}
theorem notModules_L {who : String} {Q : Unit → Shared → Prop} (ha : a ≠ 1) (h : Q () s) : wpAny M A (notTheModulesDict who a) Q E s := by
  unfold notTheModulesDict
  refine KFB.if_not (by simpa [sysModules] using ha) ?_
  exact wpAny_pure h
theorem special_dict_getitem : typeLookup (.type "dict") ("__getitem__" : Str) = pure (some (.builtin "dict.__getitem__")) := by
  rw [typeLookup_type, builtinLookup_eq_fast]; kernel_rfl
theorem loadName_L {env : Env} {Q : Value → Shared → Prop} (hl : env.locals = a) (hk : env.scope.kind = .class) (hn : env.kindOf n = none) (hc : compilersOwnNames.contains n = true) (x : DictO o kvs) (hno : kvs.lookup n = none)
    (ho : s.heap.get? a = some o) (hg : s.heap.Ns env.globals mg) (hv : mg n = some v) (h : Q v s) : wpAny M A (loadName env n) Q E s := by
  have hb : env.blockKind = .class := by unfold Env.blockKind; rw [hk]; rfl
  unfold loadName
  rw [hn, hb, hk]
  simp only [ScopeKind.isAnnotationScope, Bool.false_and, Bool.false_eq_true, if_false, hc, Bool.not_true]
  refine wpAny_bind (m := localGet env n) ?_
  unfold localGet
  rw [hl]
  refine wpAny_bind (wpAny_load ho ?_)
  rw [x.1]
  refine KFB.if_so (by decide) ?_
  refine nsGet_D x ho ?_
  rw [hno]
  unfold loadGlobal
  refine wpAny_bind (wpAny_nsGet hg ?_)
  rw [hv]
  exact wpAny_pure h
theorem build_class {name qual : Str} {body : List Stmt} {scope : Scope} {statics : List Str} {firstLine : Nat} {env : Env} {pos : Pos} {Q : Value → Shared → Prop} {clos : List (Str × Addr)} {vn : Value}
   (D : Led h₀ s.heap L m [(58, tabObj #[])] rest) (T : Top p loose mean mg mb h₀) (C : CodeHd h₀ 62 58) (hcode : env.code = .ref 62) (hgl : env.globals = mainGlobals) (hbu : env.builtins = builtinsNs) 
   (hcl : closureFor scope env = pure clos) (hmn : mg "__name__" = some vn) (hroom : A.depth < recursionLimit)
   (hk : scope.kind = .class) (hsn : scope.names.lookup ("__name__" : Str) = none) (hs1 : scope.names.lookup ("__class__" : Str) = none) (hs2 : scope.names.lookup ("__classdict__" : Str) = none)
   (hs3 : scope.names.lookup ("__module__" : Str) = some .local) (hs4 : scope.names.lookup ("__qualname__" : Str) = none)  (hs5 : scope.names.lookup ("__firstlineno__" : Str) = none)
   (hs6 : scope.names.lookup ("__static_attributes__" : Str) = none)
   (hrun : ∀ (cenv : Env) (dA : Addr) (o : Obj) (c : Addr) (oc : Obj) (P T1 : Addr) (h : Heap) (tk t1 t2 : Nat), cenv.locals = dA → cenv.scope = scope → cenv.globals = mainGlobals → cenv.code = .ref c → cenv.cells = clos → cenv.qual = qual ++ "." →
     DictO o (kvPut "__firstlineno__" (.int firstLine t1) (kvPut "__qualname__" (.str qual t2) (kvPut "__module__" vn []))) → CodeOk oc c P → NamedCode oc qual →
     Led h₀ h L m [(dA, o), (P, tabObj #[]), (c, oc), (58, tabObj (#[] ++ #[rawInt pos.line, rawInt pos.col, .ref c])), (T1, { cls := .type "tuple", data := .seq #[.type "object"] })] rest →
     (∀ q ∈ (58, tabObj #[]) :: rest, q.1 < T1) → T1 < dA → dA < c → dA < P →
     wpAny (model prog w) A (run (.body body cenv)) (fun _ s' => ∃ h' tk' o' kvs lit', s' = ⟨h', s.gens, s.drawn, tk', s.os⟩ ∧ DictO o' kvs ∧ Led h₀ h' L m ((dA, o') :: lit') rest ∧
       ∀ sa ts tn h'' tk'' o'', DictO o'' (kvPut "__static_attributes__" (.ref sa) kvs) → Led h₀ h'' L m ((dA, o'') :: (sa, { cls := .type "tuple", data := .seq ts }) :: lit') rest →
         wpAny (model prog w) A (call (.type "type") [.str name tn, .ref T1, .ref dA]) Q E ⟨h'', s.gens, s.drawn, tk'', s.os⟩) E ⟨h, s.gens, s.drawn, tk, s.os⟩) : wpAny (model prog w) A (buildClass name qual [.type "object"] [] body scope statics firstLine env pos none) Q E s := by
  unfold buildClass
  refine wpAny_bind (m := newTuple _) (wpAny_newTuple ?_)
  have D1 := D.alloc { cls := .type "tuple", data := .seq #[Value.type "object"] } rfl
  refine wpAny_bind (for1 ?_)
  refine wpAny_bind (isType_type (wpAny_pure ⟨_, rfl, ?_⟩))
  refine wpAny_bind (typeOf_object ?_)
  refine wpAny_bind (isType_type ?_)
  refine wpAny_bind (for1 ?_)
  refine wpAny_bind (typeOf_object ?_)
  refine wpAny_bind (isSub_type (wpAny_pure ⟨_, rfl, ?_⟩))
  refine wpAny_bind (wpAny_mkText ?_)
  refine wpAny_bind (wpAny_pure ?_)
  refine wpAny_holding ?_
  refine wpAny_bind (Prep.get D1 ?_)
  intro x h2 D2 L2 lt2
  refine wpAny_bind (Prep.call_of (D2.get (.head _)) D2 ?_)
  intro dA h3 D3 hL3 lt3
  have hg3 : mainGlobals < dA := Nat.lt_trans (Nat.lt_of_lt_of_le T.g.lt D.F.above) hL3
  refine wpAny_bind (notModules_L (fun e => by rw [e] at hg3; exact absurd hg3 (by decide)) ?_)
  refine wpAny_bind (m := specialOf (.ref dA) _) ?_
  unfold specialOf
  refine wpAny_bind (wpAny_typeOf (T := "dict") ⟨_, D3.get (.head _), rfl⟩ ?_)
  refine wpAny_of_eq special_dict_getitem ?_
  refine wpAny_ite_false rfl ?_
  refine wpAny_holding ?_
  rw [hs1, hs2]
  refine wpAny_bind (wpAny_pure ?_)
  refine wpAny_bind (wpAny_pure ?_)
  have D4 := D3.front [_, _, _]
  refine wpAny_bind (classCode_L hcode (C.keeps D4.F.keep) D4 trivial rfl ?_)
  intro c oc P h5 tk5 hco hnc D5 lt5
  refine hideG fun G9 hG9 => ?_
  obtain ⟨bm, ob, b1, b2, b3, b4, b5, b6⟩ := T.bmain
  refine hG9 ?_
  clear hG9 G9
  have hg5 := T.g.keeps D5.F.keep
  rw [hgl]
  refine wpAny_bind (wpAny_builtinsFor hg5 b1 b2 (D5.F.keep _ _ b3) b4 b5 b6 ?_)
  unfold newBodyFrame
  refine wpAny_bind (wpAny_bind (wpAny_nsGet hg5 ?_))
  refine alloc_L D5 rfl ?_
  intro fr h6 D6 lt6
  rw [hcl]
  refine wpAny_bind (wpAny_pure ?_)
  refine wpAny_holding ?_
  refine wpAny_bind (wpAny_enterFrame (T.nolimit.keeps D6.F.keep) hroom ?_)
  generalize hce : ({ scope := scope, locals := dA, globals := mainGlobals, cells := _, qual := _, code := _, frame := some fr, builtins := _ } : Env) = cenv
  refine wpAny_bind (wpAny_onRaise ?_)
  have hl : cenv.locals = dA := by rw [← hce]
  have hck : cenv.scope.kind = .class := by rw [← hce]; exact hk
  have hkn : ∀ n, cenv.kindOf n = scope.names.lookup n := fun n => by rw [← hce]; rfl
  have D7 : Led h₀ h6 L m [(dA, _), (P, _), (c, oc), (58, _), (s.heap.objs.size, _)] rest := D6.pick [4, 2, 1, 3, 6]
  have x7 : DictO { cls := Value.type "dict", data := Data.dict #[] } [] := ⟨rfl, rfl, rfl, #[], 0, rfl, .nil⟩
  refine wpAny_bind (loadName_L hl hck (by rw [hkn, hsn]) (by decide +kernel) x7 rfl (D7.get (.head _)) (by rw [← hce]; exact T.g.keeps D7.F.keep) hmn ?_)
  refine wpAny_bind (storeName_L hl hck (.inl (by rw [hkn, hs3])) x7 D7 ?_)
  intro o8 h8 x8 D8
  refine wpAny_bind (wpAny_mkText ?_)
  refine wpAny_bind (storeName_L hl hck (.inr ⟨by rw [hkn, hs4], by decide +kernel⟩) x8 D8 ?_)
  intro o9 h9 x9 D9
  refine wpAny_bind (wpAny_mkInt ?_)
  refine wpAny_bind (storeName_L hl hck (.inr ⟨by rw [hkn, hs5], by decide +kernel⟩) x9 D9 ?_)
  intro o10 h10 x10 D10
  refine wpAny_pure ?_
  dsimp only at x10 D10
  refine wpAny_bind (wpAny_mono (hrun cenv dA o10 c oc P s.heap.objs.size h10 _ _ _ hl (by rw [← hce]) (by rw [← hce]) (by rw [← hce]) (by rw [← hce]; rfl) (by rw [← hce]) x10 hco hnc D10 ?_ ?_ ?_ ?_) ?_ fun _ _ e => e)
  · exact fun q hq => D.lt (by simpa using hq)
  · exact lt3 (s.heap.objs.size, _) (List.mem_append_left _ (.tail _ (.head _)))
  · exact (lt5 (dA, _) (List.mem_append_left _ (.tail _ (.head _)))).1
  · exact (lt5 (dA, _) (List.mem_append_left _ (.tail _ (.head _)))).2
  rintro _ _ ⟨h11, tk11, o11, kvs, lit', rfl, x11, D11, hty⟩
  refine wpAny_bind (wpAny_onRaise ?_)
  refine wpAny_bind (wpAny_mkStrs fun ts => ?_)
  refine wpAny_bind (wpAny_newTextTuple ?_)
  have D12 := D11.alloc { cls := .type "tuple", data := .seq ts.toArray } rfl
  have D13 : Led h₀ _ L m ((dA, o11) :: (h11.objs.size, _) :: lit') rest := D12.perm (List.Perm.swap _ _ _)
  refine wpAny_bind (storeName_L hl hck (.inr ⟨by rw [hkn, hs6], by decide +kernel⟩) x11 D13 ?_)
  intro o14 h14 x14 D14
  refine wpAny_pure ?_
  refine wpAny_bind (wpAny_mono (hty _ _ _ _ _ _ x14 D14) ?_ fun _ _ e => e)
  intro v s' hq
  exact wpAny_pure hq
end
end

/- NY -/
theorem offNY : True := by
  w_top off
  exact trivial
section
open PySem PySem.W PyProof.Rows PySem.Spec PySem.Calls PySem.SeqAt
set_option Elab.async false
set_option maxRecDepth 100000
set_option maxHeartbeats 2000000
namespace TC
theorem check (x y z : Value) : checkTypeCall "type" ⟨[x, y, z], []⟩ = pure () := by first | kernel_rfl | rfl
theorem mro_type : mroOf (.type "type") = pure [.type "type", .type "object"] := by kernel_rfl
theorem made_type : Bind.madeBy (.type "type") = pure (some "type.__new__") := by
  unfold Bind.madeBy
  rw [mro_type]
  have h : typeLookup (.type "type") ("__new__" : Str) = pure (some (.builtin "type.__new__")) := by rw [typeLookup_type, builtinLookup_eq_fast]; kernel_rfl
  simp only [pure_bind, List.forIn_cons]
  rw [h]
  kernel_rfl
theorem slot_init : Slot "type" "__init__" "type.__init__" :=
  .of (owner := "type") (n := "__init__") (by rw [typeLookup_type, builtinLookup_eq_fast]; kernel_rfl) (by decide +kernel) (by decide +kernel) (by decide +kernel)
    (by first | exact .inl (by decide +kernel) | exact .inr (by decide +kernel)) (by rw [isSubtype_type]; kernel_rfl)
theorem entry_init : entryFor table "type.__init__" = some Builtin.«type.__init__» := entryFor_of_tree (by kernel_rfl)
theorem args_init (a x y z : Value) : argsOk "type.__init__" ⟨[a, x, y, z], []⟩ := by unfold argsOk; kernel_rfl
end TC
section
variable {M : Model} {prog : Program} {w : World} {A : Around} {E : Value → Shared → Prop} {s : Shared} {h₀ : Heap} {L : Addr} {m mg mb : Str → Option Value} {lit rest : List (Addr × Obj)} {p : Program} {loose : List Str} {mean : ExcName → Option Value}
  {a : Addr} {o : Obj} {kvs : List (Str × Value)} {n : Str} {v : Value}
theorem type_call {x y z : Value} {Q : Value → Shared → Prop}
    (h : wpAny (model prog w) (A.under (.builtin "type.__call__" ⟨[.type "type", x, y, z], []⟩)) (call (.builtin "type.__new__") [.type "type", x, y, z]) (fun v s' => ∃ K o, v = .ref K ∧ s'.heap.get? K = some o ∧ o.cls = .type "type" ∧ Q (.ref K) s') E s) :
    wpAny (model prog w) A (call (.type "type") [x, y, z]) Q E s := by
  refine wpAny_call (codeAny_of_tree ?_)
  show wpAny _ A.in1 (callAny (.type "type") ⟨[x, y, z], []⟩) _ _ s
  refine wpAny_pure ⟨Code.quiet_builtin _ (by decide +kernel), codeAny_builtin F.entry_type_call ?_⟩
  unfold Builtin.«type.__call__»
  refine KFB.if_so (by decide) ?_
  refine KFB.if_not (by kernel_rfl) ?_
  refine wpAny_bind (wpAny_of_eq (TC.check x y z) ?_)
  refine wpAny_bind (wpAny_of_eq TC.mro_type ?_)
  refine wpAny_bind (wpAny_of_eq TC.made_type ?_)
  refine wpAny_bind (wpAny_pure ?_)
  refine wpAny_bind (wpAny_holding (wpAny_mono h ?_ fun _ _ e => e))
  rintro _ s' ⟨K, o, rfl, hK, hc, hq⟩
  refine wpAny_bind (wpAny_isInstance (T := "type") ⟨o, hK, hc⟩ F.sub_type_type ?_)
  refine wpAny_bind (wpAny_holding ?_)
  refine wpAny_callSpecial?_slot (T := "type") ⟨o, hK, hc⟩ TC.slot_init ?_
  refine wpAny_call_entry (T := "type") TC.slot_init ⟨o, hK, hc⟩ TC.entry_init ?_ (TC.args_init _ _ _ _)
  unfold Builtin.«type.__init__»
  refine wpAny_pure ⟨_, rfl, ?_⟩
  exact wpAny_pure hq
end
end

/- NZa -/
theorem offNZa : True := by
  w_top off
  exact trivial
section
open PySem PySem.W PyProof.Rows PySem.Spec PySem.Calls PySem.SeqAt
set_option Elab.async false
set_option maxRecDepth 100000
set_option maxHeartbeats 2000000
namespace TN
theorem best : Builtin.Slots.bestBase [.type "object"] = pure (.type "object") := by kernel_rfl
theorem inh : Builtin.Slots.slotNamesOf (.type "object") = pure [] := by kernel_rfl
theorem gdict : Builtin.Slots.givesDict (.type "object") = pure false := by kernel_rfl
theorem gweak : Builtin.Slots.givesWeak (.type "object") = pure false := by kernel_rfl
theorem vars : Builtin.Slots.varSize (.type "object") = pure false := by kernel_rfl
theorem ident : Builtin.Slots.isIdentifier ("obj" : Str) = some true := by decide +kernel
theorem mangled (name : Str) : Builtin.Slots.mangle name ("obj" : Str) = ("obj" : Str) := by
  unfold Builtin.Slots.mangle
  exact if_pos (by
    have : (decide (("obj" : Str).cps.size > 2) && (("obj" : Str).cps.getD 0 0 == 95)) = false := by decide +kernel
    kernel_rfl)
end TN
section
variable {M : Model} {prog : Program} {w : World} {A : Around} {E : Value → Shared → Prop} {s : Shared} {h₀ : Heap} {L : Addr} {m mg mb : Str → Option Value} {lit rest : List (Addr × Obj)} {p : Program} {loose : List Str} {mean : ExcName → Option Value}
  {a : Addr} {o : Obj} {kvs : List (Str × Value)} {n : Str} {v : Value}
theorem slots_read {name : Str} {es : Array DictEntry} {Sl : Addr} {t : Tok} {k : Nat} {Q : Builtin.Slots.Plan → Shared → Prop} (D : Led h₀ s.heap L m lit rest) (hS : s.heap.get? Sl = some (W.listOf #[.str ("obj" : Str) t] k)) (he : EntsL es.toList kvs) (hk : kvs.lookup ("__slots__" : Str) = some (.ref Sl))
    (hno : kvs.lookup ("obj" : Str) = none)
    (h : ∀ c oc h', Led h₀ h' L m ((c, oc) :: lit) rest → Q { names := [("obj" : Str)], dict := false, weak := false, inherited := [] } { s with heap := h' }) : wpAny (model prog w) A (Builtin.Slots.read name [.type "object"] es) Q E s := by
  unfold Builtin.Slots.read
  refine wpAny_bind (wpAny_of_eq TN.best ?_)
  refine wpAny_bind (wpAny_of_eq TN.inh ?_)
  refine wpAny_bind (wpAny_of_eq TN.gdict ?_)
  refine wpAny_bind (wpAny_of_eq TN.gweak ?_)
  refine wpAny_bind (wpAny_of_eq TN.vars ?_)
  obtain ⟨e, hf, hv⟩ : ∃ e, es.find? (·.key.isStr ("__slots__" : Str)) = some e ∧ e.val = .ref Sl := by
    have z := he.find (n := ("__slots__" : Str))
    rw [hk, Array.find?_toList] at z
    cases hq : es.find? (·.key.isStr ("__slots__" : Str)) with
    | none => rw [hq] at z; cases z
    | some e => rw [hq] at z; exact ⟨e, rfl, Option.some.inj z⟩
  rw [hf]
  refine wpAny_bind (wpAny_rule ?_)
  rw [hv]
  refine wpAny_bind (wpAny_bind (wpAny_load hS (wpAny_pure ?_)))
  refine wpAny_bind (collect_list ⟨_, hS, rfl, _, rfl⟩ ?_)
  have D1 := D.alloc (seqObj "list" #[] 0) rfl
  have D2 := D1.set (Obj.mapSeq (· ++ [Value.str ("obj" : Str) t].toArray)) rfl
  refine wpAny_bind (wpAny_of_eq TN.vars ?_)
  refine wpAny_bind (for1 ?_)
  refine wpAny_bind (wpAny_pure ?_)
  refine wpAny_bind (wpAny_pure ?_)
  dsimp only
  rw [TN.ident]
  refine wpAny_bind (wpAny_pure ?_)
  refine KFB.if_not (by decide +kernel) ?_
  refine KFB.if_not (by decide +kernel) ?_
  refine wpAny_pure ⟨_, rfl, ?_⟩
  rw [← Array.forIn_toList]
  refine wpAny_bind (for1 ?_)
  dsimp only
  rw [TN.mangled]
  refine wpAny_ite_false (by decide +kernel) ?_
  have hany : (es.any fun x => x.key.isStr ("obj" : Str)) = false := by
    rw [← Array.any_toList, he.any, hno]; rfl
  rw [hany]
  refine KFB.if_not (by decide +kernel) ?_
  refine wpAny_pure ⟨_, rfl, ?_⟩
  refine wpAny_bind (for1 ?_)
  refine wpAny_pure ⟨_, rfl, ?_⟩
  refine wpAny_pure ?_
  exact h _ _ _ D2
end
end

/- NZb -/
theorem offNZb : True := by
  w_top off
  exact trivial
section
open PySem PySem.W PyProof.Rows PySem.Spec PySem.Calls PySem.SeqAt
set_option Elab.async false
set_option maxRecDepth 100000
set_option maxHeartbeats 2000000
namespace TN
open Builtin
theorem check (x y z : Value) : checkBuiltinCall "type.__new__" ⟨[.type "type", x, y, z], []⟩ = pure () := by
  have h1 : Bind.staticBase (.type "type") = pure (.type "type") := by
    unfold Bind.staticBase
    rw [TC.mro_type]
    simp only [pure_bind, List.forIn_cons]
    rw [TC.made_type]
    rfl
  have hk : builtinKind "type.__new__" = some .builtinFn := by decide +kernel
  have hs : splitId "type.__new__" = some ("type", "__new__") := by decide +kernel
  have hr : Manifest.signature? "type.__new__" = some ⟨.hand, "type.__new__", "__new__", .cls, []⟩ := by kernel_rfl
  unfold checkBuiltinCall
  simp only [hk, hs, hr]
  have hi : isType (.type "type") = pure true := by first | rfl | kernel_rfl
  have hn : ((Manifest.find? "type").elim false (·.noNew)) = false := by decide +kernel
  simp only [hi, F.sub_type_type, h1, TC.made_type, hn, pure_bind]
  kernel_rfl
theorem entry : entryFor table "type.__new__" = some Builtin.«type.__new__» := entryFor_of_tree (by kernel_rfl)
theorem turned : Builtin.notOverATurnedClass [.type "object"] = pure () := by kernel_rfl
theorem extended : Builtin.extendedBase [.type "object"] = pure (.type "object") := by kernel_rfl
theorem lk_dict_iter : typeLookup (.type "dict") ("__iter__" : Str) = pure (some (.builtin "dict.__iter__")) := by
  rw [typeLookup_type, builtinLookup_eq_fast]; kernel_rfl
theorem sub_dict : isSubtype (.type "dict") (.type "dict") = pure true := by rw [isSubtype_type]; kernel_rfl
theorem hook : Builtin.mroHook? (.type "type") = pure none := by kernel_rfl
theorem linear : Builtin.linearize [.type "object"] mroOf = pure [.type "object"] := by kernel_rfl
theorem made_object : Bind.madeBy (.type "object") = pure (some "object.__new__") := by
  have hm : mroOf (.type "object") = pure [.type "object"] := by kernel_rfl
  have h : typeLookup (.type "object") ("__new__" : Str) = pure (some (.builtin "object.__new__")) := by rw [typeLookup_type, builtinLookup_eq_fast]; kernel_rfl
  unfold Bind.madeBy
  rw [hm]
  simp only [pure_bind, List.forIn_cons]
  rw [h]
  kernel_rfl
theorem no_del : ((Manifest.find? "object").elim false fun ty => ty.attrs.any fun x => x.fst == "__del__") = false := by decide +kernel
theorem lk_new : typeLookup (.type "object") ("__new__" : Str) = pure (some (.builtin "object.__new__")) := by rw [typeLookup_type, builtinLookup_eq_fast]; kernel_rfl
theorem note (a : Addr) : Builtin.noteSubclassOfBuiltin "object" a = pure () := by kernel_rfl
end TN
theorem kvDrop_len {n : Str} : ∀ {kvs : List (Str × Value)}, (kvs.lookup n).isSome = true → (kvDrop n kvs).length = kvs.length - 1
  | [], h => by cases h
  | p :: r, h => by
    obtain ⟨k, v⟩ := p
    rw [lookup_cons'] at h
    unfold kvDrop
    by_cases hk : k = n
    · rw [if_pos hk]; simp
    · rw [if_neg hk] at h ⊢
      have ih := kvDrop_len h
      have : r ≠ [] := by rintro rfl; cases h
      have h0 : 0 < r.length := List.length_pos_iff.mpr this
      simp only [List.length_cons, ih]; exact Nat.sub_add_cancel (by assumption)
section
variable {M : Model} {prog : Program} {w : World} {A : Around} {E : Value → Shared → Prop} {s : Shared} {h₀ : Heap} {L : Addr} {m mg mb : Str → Option Value} {lit rest : List (Addr × Obj)} {p : Program} {loose : List Str} {mean : ExcName → Option Value}
  {a : Addr} {o : Obj} {kvs : List (Str × Value)} {n : Str} {v : Value}
theorem for2 {α β : Type} {x y : α} {init : β} {f : α → β → Sem (ForInStep β)} {Q : β → Shared → Prop}
    (h : wpAny M A (f x init) (fun r s' => ∃ b, r = .yield b ∧ wpAny M A (f y b) (fun r s' => ∃ b, r = .yield b ∧ Q b s') E s') E s) : wpAny M A (forIn [x, y] init f) Q E s := by
  rw [List.forIn_cons]
  refine wpAny_bind (wpAny_mono h (fun r s' hr => ?_) fun _ _ e => e)
  obtain ⟨b, e, hq⟩ := hr
  rw [e]
  exact for1 hq
theorem typeLookup_L {n : Str} {dd : Option Addr} {cd : ClassData} {sl : Array (Option Value)} {N : Addr} {oN : Obj} {Q : Option Value → Shared → Prop} {r : Option Value} (hC : s.heap.get? a = some ⟨.type "type", dd, .cls cd, sl⟩) (hm : cd.mro = [.ref a, .type "object"]) (hns : cd.ns = N)
    (hN : s.heap.get? N = some oN) (x : DictO oN kvs) (hr : kvs.lookup n = r ∧ r ≠ none ∨ (kvs.lookup n = none ∧ typeLookup (.type "object") n = pure r)) (hq : Q r s) : wpAny M A (typeLookup (.ref a) n) Q E s := by
  rw [typeLookup_eq]
  refine wpAny_bind (m := mroOf (.ref a)) ?_
  unfold mroOf classData
  refine wpAny_bind (wpAny_bind (wpAny_load hC (wpAny_pure (wpAny_pure ?_))))
  rw [hm, lookupAlong_cons]
  refine wpAny_bind ?_
  unfold classOwn
  refine wpAny_bind ?_
  unfold classData
  refine wpAny_bind (wpAny_load hC (wpAny_pure ?_))
  rw [hns]
  refine nsGet_D x hN ?_
  rcases hr with ⟨e, hne⟩ | ⟨e, hl⟩
  · rw [e]
    cases r with
    | none => exact absurd rfl hne
    | some v => exact wpAny_pure hq
  · rw [e]
    have hm2 : mroOf (.type "object") = pure [.type "object"] := by kernel_rfl
    rw [typeLookup_eq, hm2, pure_bind] at hl
    dsimp only
    rw [hl]
    exact wpAny_pure hq
theorem setSlot_L {i : Nat} {v : Option Value} {Q : Unit → Shared → Prop} {c : Value} {dd : Option Addr} {cd : ClassData} {sl sl' : Array (Option Value)} (D : Led h₀ s.heap L m ((a, ⟨c, dd, .cls cd, sl⟩) :: lit) rest) (hi : i ≤ 100)
    (hs : (sl ++ Array.replicate (i + 1 - sl.size) none).setIfInBounds i v = sl') (h : ∀ h', Led h₀ h' L m ((a, ⟨c, dd, .cls cd, sl'⟩) :: lit) rest → Q () { s with heap := h' }) : wpAny M A (setSlotAt a i v) Q E s := by
  unfold setSlotAt
  refine wpAny_ite_false (decide_eq_false (by rw [sizeLine_eq]; omega)) ?_
  refine update_L D rfl ?_
  intro h' D'
  dsimp only at D'
  rw [hs] at D'
  exact h h' D'
theorem updateCls_L {f : ClassData → ClassData} {Q : Unit → Shared → Prop} {c : Value} {dd : Option Addr} {cd : ClassData} {sl : Array (Option Value)} (D : Led h₀ s.heap L m ((a, ⟨c, dd, .cls cd, sl⟩) :: lit) rest) 
    (hp : (Data.cls (f cd)).pastItsLine = none) (h : ∀ h', Led h₀ h' L m ((a, ⟨c, dd, .cls (f cd), sl⟩) :: lit) rest → Q () { s with heap := h' }) : wpAny M A (updateCls a f) Q E s := by
  unfold updateCls
  refine wpAny_bind (wpAny_load (D.get (.head _)) ?_)
  dsimp only
  refine wpAny_bind (update1_L D rfl ?_)
  intro h' D'
  exact wpAny_lookBehind (D'.get (.head _)) hp (h h' D')
theorem newObj_L {T : String} {data : Data} {Q : Value → Shared → Prop} (D : Led h₀ s.heap L m lit rest) (hf : ({ cls := .type T, data := data } : Obj).isFreed = false)
    (h : ∀ I h', Led h₀ h' L m ((I, { cls := .type T, data := data }) :: lit) rest → L < I → (∀ q ∈ lit ++ rest, q.1 < I) → Q (.ref I) { s with heap := h' }) (hd : sizeOk data := by size_fits) : wpAny M A (newObj (.type T) data) Q E s :=
  wpAny_newObj_type (h _ _ (D.alloc _ hf) D.F.ns.lt fun _ hq => D.lt hq) hd

theorem install_L {ns : Addr} {dd : Option Addr} {cd : ClassData} {sl : Array (Option Value)} {Q : Unit → Shared → Prop} (D : Led h₀ s.heap L m ((a, ⟨.type "type", dd, .cls cd, sl⟩) :: (ns, o) :: lit) rest) (x : DictO o kvs) (hno : kvs.lookup ("obj" : Str) = none) (hsz : kvs.length ≤ 100)
    (hp : (Data.cls { cd with hasDict := false, slotNames := [("obj" : Str)] }).pastItsLine = none)
    (h : ∀ md t' o' h' tk', DictO o' (kvPut "obj" (.ref md) kvs) → Led h₀ h' L m ((a, ⟨.type "type", dd, .cls { cd with hasDict := false, slotNames := [("obj" : Str)] }, sl⟩) :: (ns, o') :: (md, { cls := .type "member_descriptor", data := .fields #[.str ("obj" : Str) t', .ref a, .builtin "proto.slot", .builtin "proto.slot#set", rawInt 0] }) :: lit) rest →
      (∀ q ∈ (a, ⟨.type "type", dd, .cls cd, sl⟩) :: (ns, o) :: lit ++ rest, q.1 < md) → Q () { s with heap := h', toks := tk' }) :
    wpAny M A (Builtin.Slots.install (.ref a) ns [.type "object"] { names := [("obj" : Str)], dict := false, weak := false }) Q E s := by
  unfold Builtin.Slots.install
  refine wpAny_bind (for1 ?_)
  refine wpAny_bind (nsGet_D x (D.get (.tail _ (.head _))) ?_)
  rw [hno]
  refine wpAny_bind (wpAny_mkStr ?_)
  refine wpAny_bind (m := newFields _ _) (newObj_L D rfl ?_)
  intro md h2 D2 hL2 lt2
  have D3 : Led h₀ h2 L m ((ns, o) :: (md, _) :: (a, _) :: lit) rest := D2.front [_, _]
  refine wpAny_bind (nsSetV_D x (by exact lek (by assumption) (by exact rfl)) D3 ?_)
  intro o4 h4 x4 D4
  refine wpAny_pure ⟨_, rfl, ?_⟩
  refine wpAny_bind (for1 ?_)
  refine wpAny_bind (wpAny_of_eq TN.gdict ?_)
  refine wpAny_pure ⟨_, rfl, ?_⟩
  have D5 : Led h₀ h4 L m ((a, _) :: (ns, o4) :: (md, _) :: lit) rest := D4.front [_, _]
  refine updateCls_L D5 hp ?_
  intro h6 D6
  exact h md _ o4 h6 _ x4 D6 lt2
end
end

/- NZc -/
theorem offNZc : True := by
  w_top off
  exact trivial
section
open PySem PySem.W PyProof.Rows PySem.Spec PySem.Calls PySem.SeqAt
set_option Elab.async false
set_option maxRecDepth 100000
set_option maxHeartbeats 2000000
section
variable {M : Model} {prog : Program} {w : World} {A : Around} {E : Value → Shared → Prop} {s : Shared} {h₀ : Heap} {L : Addr} {m mg mb : Str → Option Value} {lit rest : List (Addr × Obj)} {p : Program} {loose : List Str} {mean : ExcName → Option Value}
  {a : Addr} {o : Obj} {kvs : List (Str × Value)} {n : Str} {v : Value}
theorem forIn_still {α β : Type} {b : β} {f : α → β → Sem (ForInStep β)} {Q : β → Shared → Prop} : ∀ {l : List α}, (∀ e ∈ l, ∀ Q' : ForInStep β → Shared → Prop, Q' (.yield b) s → wpAny M A (f e b) Q' E s) → Q b s → wpAny M A (forIn l b f) Q E s
  | [], _, hq => by rw [List.forIn_nil]; exact wpAny_pure hq
  | x :: l, h, hq => by
    rw [List.forIn_cons]
    refine wpAny_bind (h x (.head _) _ ?_)
    exact forIn_still (fun e he => h e (.tail _ he)) hq
theorem EntsL.mem {es : List DictEntry} {kvs : List (Str × Value)} (x : EntsL es kvs) : ∀ e ∈ es, ∃ k t, e.key = .str k t ∧ (k, e.val) ∈ kvs := by
  induction x with
  | nil => intro _ h; cases h
  | cons _ k t v r ih =>
    refine List.forall_mem_cons.mpr ⟨⟨k, t, rfl, .head _⟩, fun e h => ?_⟩
    obtain ⟨k', t', e1, e2⟩ := ih e h
    exact ⟨k', t', e1, .tail _ e2⟩
theorem kvPut_mem : ∀ {kvs : List (Str × Value)} {p : Str × Value}, p ∈ kvPut n v kvs → p = (n, v) ∨ p ∈ kvs
  | [], p, h => .inl (List.mem_singleton.mp h)
  | q :: r, p, h => by
    unfold kvPut at h
    split at h
    · rcases List.mem_cons.mp h with h | h
      · exact .inl h
      · exact .inr (.tail _ h)
    · rcases List.mem_cons.mp h with h | h
      · exact .inr (h ▸ .head _)
      · exact (kvPut_mem h).imp id fun h => .tail _ h
theorem kvDrop_mem {kvs : List (Str × Value)} {p : Str × Value} (h : p ∈ kvDrop n kvs) : p ∈ kvs := by
  induction kvs with
  | nil => exact h
  | cons q r ih =>
    unfold kvDrop at h
    split at h
    · exact .tail _ h
    · rcases List.mem_cons.mp h with h | h
      · exact h ▸ .head _
      · exact .tail _ (ih h)
noncomputable def NoSet (M : Model) (h : Heap) (v : Value) : Prop := (∀ k, Builtin.heldUnderItsOwnName k v = false) ∧ Looks M h (specialOf v ("__set_name__" : Str)) none
namespace TN
theorem set_str : typeLookup (.type "str") ("__set_name__" : Str) = pure none := by rw [typeLookup_type, builtinLookup_eq_fast]; kernel_rfl
theorem set_int : typeLookup (.type "int") ("__set_name__" : Str) = pure none := by rw [typeLookup_type, builtinLookup_eq_fast]; kernel_rfl
theorem set_none : typeLookup (.type "NoneType") ("__set_name__" : Str) = pure none := by rw [typeLookup_type, builtinLookup_eq_fast]; kernel_rfl
theorem set_function : typeLookup (.type "function") ("__set_name__" : Str) = pure none := by rw [typeLookup_type, builtinLookup_eq_fast]; kernel_rfl
theorem set_list : typeLookup (.type "list") ("__set_name__" : Str) = pure none := by rw [typeLookup_type, builtinLookup_eq_fast]; kernel_rfl
theorem set_tuple : typeLookup (.type "tuple") ("__set_name__" : Str) = pure none := by rw [typeLookup_type, builtinLookup_eq_fast]; kernel_rfl
theorem set_member : typeLookup (.type "member_descriptor") ("__set_name__" : Str) = pure none := by rw [typeLookup_type, builtinLookup_eq_fast]; kernel_rfl
end TN
theorem NoSet.str {h : Heap} {x : Str} {t : Tok} : NoSet M h (.str x t) := ⟨fun _ => rfl, (Looks.of_pure rfl).andThen (Looks.of_pure TN.set_str)⟩
theorem NoSet.int {h : Heap} {x : Int} {t : Tok} : NoSet M h (.int x t) := ⟨fun _ => rfl, (Looks.of_pure rfl).andThen (Looks.of_pure TN.set_int)⟩
theorem NoSet.none {h : Heap} : NoSet M h .none := ⟨fun _ => rfl, (Looks.of_pure rfl).andThen (Looks.of_pure TN.set_none)⟩
theorem NoSet.ref {h : Heap} {f : Addr} {of : Obj} {T : String} (ho : h.get? f = some of) (hc : of.cls = .type T) (hT : typeLookup (.type T) ("__set_name__" : Str) = pure Option.none) : NoSet M h (.ref f) :=
  ⟨fun _ => rfl, Looks.andThen (a := .type T) (fun A Q E s k q => wpAny_typeOf ⟨of, k _ _ ho, hc⟩ q) (Looks.of_pure hT)⟩
noncomputable def Tame (lit : List (Addr × Obj)) (v : Value) : Prop := (∃ x t, v = .str x t) ∨ (∃ i t, v = .int i t) ∨ v = .none ∨ ∃ f of, v = .ref f ∧ (f, of) ∈ lit ∧ (of.cls = .type "function" ∨ of.cls = .type "list" ∨ of.cls = .type "tuple" ∨ of.cls = .type "member_descriptor")
theorem Tame.noSet {h : Heap} (D : Led h₀ h L m lit rest) (x : Tame lit v) : NoSet M h v := by
  rcases x with ⟨_, _, rfl⟩ | ⟨_, _, rfl⟩ | rfl | ⟨f, of, rfl, hm, hc | hc | hc | hc⟩
  · exact .str
  · exact .int
  · exact .none
  · exact .ref (D.get hm) hc TN.set_function
  · exact .ref (D.get hm) hc TN.set_list
  · exact .ref (D.get hm) hc TN.set_tuple
  · exact .ref (D.get hm) hc TN.set_member
theorem Tame.mono {lit' : List (Addr × Obj)} (x : Tame lit v) (h : ∀ p ∈ lit, p ∈ lit') : Tame lit' v := by
  rcases x with x | x | x | ⟨f, of, e, hm, hc⟩
  · exact .inl x
  · exact .inr (.inl x)
  · exact .inr (.inr (.inl x))
  · exact .inr (.inr (.inr ⟨f, of, e, h _ hm, hc⟩))
end
end

/- NZd -/
theorem offNZd : True := by
  w_top off
  exact trivial
section
open PySem PySem.W PyProof.Rows PySem.Spec PySem.Calls PySem.SeqAt
set_option Elab.async false
set_option maxRecDepth 100000
set_option maxHeartbeats 2000000
namespace TS
theorem check_is (K : Addr) (full : String) (hf : (full != "*") = true) : Bind.checkArgs "object.__init_subclass__" ⟨.noArgs, full, "__init_subclass__", .cls, []⟩ ⟨[.ref K], []⟩ = pure () := by
  unfold Bind.checkArgs Bind.printed
  simp only [hf, if_true, pure_bind]
  kernel_rfl
theorem sig_is : Manifest.signature? "object.__init_subclass__" = some ⟨.noArgs, "object.__init_subclass__", "__init_subclass__", .cls, []⟩ := by kernel_rfl
theorem kind_is : builtinKind "object.__init_subclass__" = some .classMethod := by decide +kernel
theorem type_is : typeOf (.builtin "object.__init_subclass__") = pure (.type "classmethod_descriptor") := by show builtinType _ = _; rw [builtinType_eq_fast]; kernel_rfl
theorem entry_is : entryFor table "object.__init_subclass__" = some Builtin.«object.__init_subclass__» := entryFor_of_tree (by kernel_rfl)
theorem owner_is : (kfb_private% "ownerAndName") "object.__init_subclass__" = ("object", "__init_subclass__") := by first | decide +kernel | kernel_rfl
theorem quiet_is {as : Args} : (Code.builtin "object.__init_subclass__" as).quiet = true := Code.quiet_builtin _ (by decide +kernel)
theorem own_is : classOwn (.type "object") ("__init_subclass__" : Str) = pure (some (.builtin "object.__init_subclass__")) := F.own_object (by kernel_rfl)
theorem get_cd : typeLookup (.type "classmethod_descriptor") ("__get__" : Str) = pure (some (.builtin "classmethod_descriptor.__get__")) := KFB.slot_get.lookup
theorem type_sub_module : isSubtype (.type "type") (.type "module") = pure false := by rw [isSubtype_type]; kernel_rfl
theorem varargs : (Manifest.varargsMethods.contains "object.__init_subclass__") = false := by decide +kernel
noncomputable def bound (K : Addr) : Obj := { cls := .type "builtin_function_or_method", data := .fields #[.builtin "object.__init_subclass__", .ref K] }
end TS
section
variable {M : Model} {prog : Program} {w : World} {A : Around} {E : Value → Shared → Prop} {s : Shared} {h₀ : Heap} {L : Addr} {m mg mb : Str → Option Value} {lit rest : List (Addr × Obj)} {p : Program} {loose : List Str} {mean : ExcName → Option Value}
  {K so : Addr} {o : Obj} {cd : ClassData}
structure ClsAt (h : Heap) (K : Addr) (o : Obj) (cd : ClassData) : Prop where
  at_ : h.get? K = some o
  cls : o.cls = .type "type"
  data : o.data = .cls cd
  mro : cd.mro = [.ref K, .type "object"]
theorem ClsAt.isType {Q : Bool → Shared → Prop} (c : ClsAt s.heap K o cd) (h : Q true s) : wpAny M A (PySem.isType (.ref K)) Q E s := by
  obtain ⟨hp, g, d, t, os⟩ := s
  exact ks_wpAny_isType_cls c.at_ c.data h
theorem ClsAt.typeIs (c : ClsAt s.heap K o cd) : s.TypeIs (.ref K) "type" := ⟨o, c.at_, c.cls⟩
theorem ClsAt.sub {Q : Bool → Shared → Prop} {base : Value} (c : ClsAt s.heap K o cd) (h : Q ([Value.ref K, .type "object"].contains base) s) : wpAny M A (isSubtype (.ref K) base) Q E s := by
  unfold isSubtype
  refine wpAny_bind (m := mroOf (.ref K)) ?_
  unfold mroOf classData
  refine bindD (fun _ hq9 => wpAny_bind (wpAny_load c.at_ hq9)) ?_
  rw [c.data]
  refine wpAny_pure (wpAny_pure ?_)
  rw [c.mro]
  exact wpAny_pure h
theorem ClsAt.keeps {h h' : Heap} (c : ClsAt h K o cd) (k : h'.get? K = some o) : ClsAt h' K o cd := ⟨k, c.cls, c.data, c.mro⟩
theorem super_self {Q : Value → Shared → Prop} (c : ClsAt s.heap K o cd) (D : Led h₀ s.heap L m lit rest) (hm : (K, o) ∈ lit)
    (h : ∀ so h', Led h₀ h' L m ((so, { cls := .type "super", data := .fields #[.ref K, .ref K, .ref K] }) :: lit) rest → Q (.ref so) { s with heap := h' }) :
    wpAny (model prog w) A (call (.type "super") [.ref K, .ref K]) Q E s := by
  obtain ⟨hp, g, d, t, os⟩ := s
  refine ks_callType_codesW (Q₁ := fun obj s₁ => obj = .ref hp.objs.size ∧ s₁ = ⟨hp.push { cls := .type "super", data := .fields #[.none, .none, .none] }, g, d, t, os⟩) F.ks_called_super (ks_wpAny_checkTypeCall_super c.at_ c.data) F.ks_entry_super_init
    (ks_code_super_new _ _ ⟨rfl, rfl⟩) fun obj s₁ h₁ => ?_
  obtain ⟨rfl, rfl⟩ := h₁
  have D1 := D.alloc { cls := .type "super", data := .fields #[.none, .none, .none] } rfl
  have c1 : ClsAt (hp.push { cls := .type "super", data := .fields #[.none, .none, .none] }) K o cd := c.keeps (Heap.get?_push_of_some _ c.at_)
  refine ⟨⟨_, D1.get (.head _), rfl⟩, F.ks_initArgs_super _ _ _, ?_⟩
  unfold Builtin.«super.__init__» noKeywords
  refine bindD (fun _ hq9 => KFB.if_so rfl (wpAny_pure hq9)) ?_
  refine bindD (fun _ hq9 => wpAny_pure hq9) ?_
  refine bindD (fun _ hq9 => c1.isType hq9) ?_
  refine wpAny_bind ?_
  wp_delta
  refine bindD (fun _ hq9 => c1.isType hq9) ?_
  refine bindD (fun _ hq9 => c1.sub hq9) ?_
  refine KFB.if_so (by simp) ?_
  refine wpAny_pure ?_
  refine wpAny_bind (wpAny_setField_rec (D1.get (.head _)) (by simp) fun h2 e2 s2 => ?_)
  have D2 := D1.ext (new := []) (fun b o' hb e => s2.extBut b o' hb e) e2 (fun _ h => nomatch h) (by simp)
  refine wpAny_bind (wpAny_setField_rec (D2.get (.head _)) (by simp) fun h3 e3 s3 => ?_)
  have D3 := D2.ext (new := []) (fun b o' hb e => s3.extBut b o' hb e) e3 (fun _ h => nomatch h) (by simp)
  refine wpAny_bind (wpAny_setField_rec (D3.get (.head _)) (by simp) fun h4 e4 s4 => ?_)
  have D4 := D3.ext (new := []) (fun b o' hb e => s4.extBut b o' hb e) e4 (fun _ h => nomatch h) (by simp)
  refine wpAny_pure ⟨rfl, ?_⟩
  exact h _ _ D4

theorem run_get {P : Fin → Shared → Prop} (c : ClsAt s.heap K o cd) (D : Led h₀ s.heap L m lit rest) (h : ∀ b h', Led h₀ h' L m ((b, TS.bound K) :: lit) rest → P (.done (.ret (.ref b))) { s with heap := h' }) :
    wpAny M A (Builtin.«classmethod_descriptor.__get__» ⟨[.builtin "object.__init_subclass__", .none, .ref K], []⟩) P E s := by
  unfold Builtin.«classmethod_descriptor.__get__»
  refine wpAny_bind (wpAny_of_eq (a := (.builtin "object.__init_subclass__", none, some (.ref K))) (by first | rfl | kernel_rfl) ?_)
  simp only [TS.owner_is]
  refine bindD (fun _ hq9 => wpAny_of_eq (a := .ref K) rfl hq9) ?_
  refine bindD (fun _ hq9 => c.isType hq9) ?_
  refine bindD (fun _ hq9 => c.sub hq9) ?_
  refine KFB.if_not (by simp) ?_
  exact wpAny_bind (m := newFields _ _) (newObj_L D rfl fun b h' D' _ _ => wpAny_pure (h b h' D'))
theorem forDone {α β : Type} {x : α} {l : List α} {init : β} {f : α → β → Sem (ForInStep β)} {Q : β → Shared → Prop}
    (h : wpAny M A (f x init) (fun r s' => ∃ b, r = .done b ∧ Q b s') E s) : wpAny M A (forIn (x :: l) init f) Q E s := by
  rw [List.forIn_cons]
  refine bindD (fun _ hq9 => wpAny_mono h hq9 fun _ _ e => e) ?_
  intro r s' hr
  obtain ⟨b, e, hq⟩ := hr
  rw [e]
  exact wpAny_pure hq
theorem super_get {Q : Value → Shared → Prop} {X : Frag} (hX : X.In s.heap) (hop : nsIn X cStatics "thirdparty.any" = some none) (c : ClsAt s.heap K o cd) (D : Led h₀ s.heap L m ((so, { cls := .type "super", data := .fields #[.ref K, .ref K, .ref K] }) :: lit) rest)
    (h : ∀ b h', Led h₀ h' L m ((b, TS.bound K) :: (so, { cls := .type "super", data := .fields #[.ref K, .ref K, .ref K] }) :: lit) rest → Q (.ref b) { s with heap := h', toks := s.toks + 1 }) :
    wpAny (model prog w) A (getAttr (.ref so) ("__init_subclass__" : Str)) Q E s := by
  have hso := D.get (.head _)
  unfold getAttr getAttrBy
  refine wpAny_bind (wpAny_mkText (wpAny_holding ?_))
  refine bindD (fun _ hq9 => wpAny_typeOf (T := "super") ⟨_, hso, rfl⟩ hq9) ?_
  refine bindD (fun _ hq9 => wpAny_of_eq F.ks_slot_super_ga.lookup hq9) ?_
  refine KFB.if_not (by decide +kernel) ?_
  unfold getAttrByItsOwn
  refine bindD (fun _ hq9 => wpAny_pure hq9) ?_
  refine bindD (fun _ hq9 => wpAny_attempt (wpAny_holding hq9)) ?_
  refine wpAny_ite_false rfl ?_
  unfold boundAndCalled
  rw [F.ks_slot_super_ga.bind]
  refine bindD (fun _ hq9 => wpAny_pure hq9) ?_
  refine wpAny_call_entry (T := "super") F.ks_slot_super_ga ⟨_, hso, rfl⟩ F.ks_entry_super_ga ?_ (F.ks_gaArgs_super _ _)
  unfold Builtin.«super.__getattribute__»
  refine bindD (fun _ hq9 => wpAny_pure hq9) ?_
  refine bindD (fun _ hq9 => wpAny_pure hq9) ?_
  refine bindD (fun _ hq9 => wpAny_field (x := .ref K) hso rfl rfl hq9) ?_
  refine bindD (fun _ hq9 => wpAny_field (x := .ref K) hso rfl rfl hq9) ?_
  refine bindD (fun _ hq9 => wpAny_field (x := .ref K) hso rfl rfl hq9) ?_
  refine KFB.if_not (by rw [show (Str.ofString "__init_subclass__" == Str.ofString "__class__") = false by decide +kernel]; rfl) ?_
  refine bindD (fun _ hq9 => ks_wpAny_notOpaque (looks_opaque hX hop) hq9) ?_
  refine wpAny_bind (m := mroOf (.ref K)) ?_
  unfold mroOf classData
  refine bindD (fun _ hq9 => wpAny_bind (wpAny_load c.at_ hq9)) ?_
  rw [c.data]
  refine wpAny_pure (wpAny_pure ?_)
  rw [c.mro]
  have hdrop : List.drop 1 (List.dropWhile (fun x => x != Value.ref K) [Value.ref K, Value.type "object"]) = [Value.type "object"] := by simp
  rw [hdrop]
  refine bindD (fun _ hq9 => forDone hq9) ?_
  refine bindD (fun _ hq9 => wpAny_of_eq TS.own_is hq9) ?_
  refine bindD (fun _ hq9 => wpAny_of_eq TS.type_is hq9) ?_
  refine bindD (fun _ hq9 => wpAny_of_eq TS.get_cd hq9) ?_
  rw [if_pos (by simp : (Value.ref K == Value.ref K) = true)]
  refine bindD (fun _ hq9 => wpAny_holding hq9) ?_
  refine wpAny_call_entry KFB.slot_get TS.type_is KFB.entry_get ?_ (KFB.args_get _ _ _)
  refine run_get (s := { s with toks := s.toks + 1 }) c D ?_
  intro b h' D'
  refine ⟨_, rfl, ?_⟩
  refine wpAny_bind (wpAny_pure (wpAny_pure ⟨_, rfl, ?_⟩))
  refine wpAny_pure ⟨_, rfl, ?_⟩
  exact wpAny_pure (h b h' D')
theorem check_bound_L {Q : Unit → Shared → Prop} (c : ClsAt s.heap K o cd) (hf : ((toString cd.qualname.toString ++ toString "." ++ toString "__init_subclass__" : String) != "*") = true) (h : Q () s) :
    wpAny M A (checkBoundCall "object.__init_subclass__" ⟨[.ref K], []⟩) Q E s := by
  unfold checkBoundCall
  rw [TS.sig_is, TS.kind_is]
  refine KFB.if_not (by decide +kernel) ?_
  refine bindD (fun _ hq9 => wpAny_isInstance (T := "type") c.typeIs TS.type_sub_module hq9) ?_
  refine KFB.if_not (by rw [TS.varargs]; rfl) ?_
  refine bindD (fun _ hq9 => c.isType hq9) ?_
  refine bindD (fun _ hq9 => wpAny_pure hq9) ?_
  refine wpAny_bind (m := classData K) ?_
  unfold classData
  refine wpAny_bind (wpAny_load c.at_ ?_)
  rw [c.data]
  refine wpAny_pure ?_
  refine bindD (fun _ hq9 => wpAny_typeOf (T := "type") c.typeIs hq9) ?_
  refine KFB.if_so (by decide) ?_
  have hn : Bind.lastOf "object.__init_subclass__" = "__init_subclass__" := by decide +kernel
  rw [hn]
  exact wpAny_of_eq (TS.check_is K _ hf) h
theorem init_subclass {b : Addr} {Q : Value → Shared → Prop} (c : ClsAt s.heap K o cd) (hb : s.heap.get? b = some (TS.bound K)) (hf : ((toString cd.qualname.toString ++ toString "." ++ toString "__init_subclass__" : String) != "*") = true) (h : Q .none s) :
    wpAny (model prog w) A (call (.ref b) []) Q E s := by
  refine wpAny_call (codeAny_of_tree ?_)
  show wpAny _ A.in1 (callAny (.ref b) ⟨[], []⟩) _ _ s
  simp only [callAny]
  refine bindD (fun _ hq9 => wpAny_load hb hq9) ?_
  simp only [TS.bound]
  refine KFB.if_so (by decide) ?_
  refine bindD (fun _ hq9 => check_bound_L c hf hq9) ?_
  refine wpAny_bind (wpAny_pure (wpAny_pure ?_))
  refine ⟨TS.quiet_is, codeAny_builtin TS.entry_is ?_⟩
  unfold Builtin.«object.__init_subclass__»
  exact wpAny_pure h
end
end

/- NZ -/
theorem offNZ : True := by
  w_top off
  exact trivial
section
open PySem PySem.W PyProof.Rows PySem.Spec PySem.Calls PySem.SeqAt
set_option Elab.async false
set_option maxRecDepth 100000
set_option maxHeartbeats 2000000
section
variable {M : Model} {prog : Program} {w : World} {A : Around} {E : Value → Shared → Prop} {s : Shared} {h₀ : Heap} {L : Addr} {m mg mb : Str → Option Value} {lit rest : List (Addr × Obj)} {p : Program} {loose : List Str} {mean : ExcName → Option Value}
  {a : Addr} {o : Obj} {kvs : List (Str × Value)} {n : Str} {v : Value}
theorem Led.cut {h : Heap} (pre mid : List (Addr × Obj)) (D : Led h₀ h L m (pre ++ (mid ++ lit)) rest) : Led h₀ h L m (pre ++ lit) rest := by
  have sl : (pre ++ lit).Sublist (pre ++ (mid ++ lit)) := (List.Sublist.refl pre).append (List.sublist_append_right mid lit)
  exact ⟨D.F, fun q hq => D.N q ((List.mem_append.mp hq).elim (fun h => List.mem_append_left _ (sl.subset h)) fun h => List.mem_append_right _ h), (sl.map _).nodup D.nd, fun r hr q hq => D.ap r hr q (sl.subset hq)⟩
theorem nsGet_De {Q : Option Value → Shared → Prop} {r : Option Value} (x : DictO o kvs) (ho : s.heap.get? a = some o) (e : kvs.lookup n = r) (h : Q r s) : wpAny M A (nsGet a n) Q E s := nsGet_D x ho (e ▸ h)
theorem type_new {name : Str} {tn : Tok} {T1 dA : Addr} {Q : Value → Shared → Prop} (D : Led h₀ s.heap L m ((dA, o) :: (T1, { cls := .type "tuple", data := .seq #[.type "object"] }) :: lit) rest) (x : DictO o kvs) (hd1 : dA ≠ 1) {Sl : Addr} {t : Tok} {k : Nat} (hS : (Sl, W.listOf #[.str ("obj" : Str) t] k) ∈ lit)
    (hk1 : kvs.lookup ("__slots__" : Str) = some (.ref Sl)) (hk2 : kvs.lookup ("obj" : Str) = none) (hk3 : (kvs.lookup ("__module__" : Str)).isSome = true) (hsz : kvs.length ≤ 100)
    (hn1 : (name.cps.any fun c => decide (55296 ≤ c) && decide (c ≤ 57343)) = false) (hn2 : name.cps.contains 0 = false) {qual : Str} {tq : Tok} (hk4 : kvs.lookup ("__qualname__" : Str) = some (.str qual tq)) (hk5 : kvs.lookup ("__doc__" : Str) = none)
    (hk6 : (kvDrop "__qualname__" kvs).lookup ("__new__" : Str) = none) (hk7 : (kvDrop "__qualname__" kvs).lookup ("__init_subclass__" : Str) = none) (hk8 : (kvDrop "__qualname__" kvs).lookup ("__class_getitem__" : Str) = none)
    (hk9 : (kvDrop "__qualname__" kvs).lookup ("__classcell__" : Str) = none) (hk10 : (kvDrop "__qualname__" kvs).lookup ("__classdictcell__" : Str) = none) (hk11 : kvs.lookup ("__del__" : Str) = none)
    (hk12 : (kvDrop "__qualname__" kvs).lookup ("obj" : Str) = none) (hk13 : ∀ v, (kvPut "obj" v (kvDrop "__qualname__" kvs)).lookup ("__doc__" : Str) = none)
    (hk14 : ∀ v, ((kvPut "__doc__" .none (kvPut "obj" v (kvDrop "__qualname__" kvs))).lookup ("__eq__" : Str)).isSome = true) (hk15 : ∀ v, ((kvPut "__doc__" .none (kvPut "obj" v (kvDrop "__qualname__" kvs))).lookup ("__hash__" : Str)).isNone = false)
    (hTame : ∀ p ∈ kvs, Tame lit p.2) {X : Frag} (hX : X.In h₀) (hop : nsIn X cStatics "thirdparty.any" = some none) (hf : ((toString qual.toString ++ toString "." ++ toString "__init_subclass__" : String) != "*") = true)
    (hQ : ∀ a ns md oN t' h' tk', DictO oN (kvPut "__doc__" .none (kvPut "obj" (.ref md) (kvDrop "__qualname__" kvs))) →
      Led h₀ h' L m ((a, ⟨.type "type", none, .cls { name := name, bases := [.type "object"], mro := [.ref a, .type "object"], ns := ns, qualname := qual, hasDict := false, slotNames := [("obj" : Str)] }, #[some (.ref T1), none, some (.str name tn), some (.str qual tq), some (.builtin "object.__new__"), some (.bool false)]⟩) ::
        (ns, oN) :: (md, { cls := .type "member_descriptor", data := .fields #[.str ("obj" : Str) t', .ref a, .builtin "proto.slot", .builtin "proto.slot#set", rawInt 0] }) :: lit) rest →
      (∀ q ∈ lit ++ rest, q.1 < ns) → ns < a → a < md → Q (.ref a) { s with heap := h', toks := tk' })
    :
    wpAny (model prog w) A (call (.builtin "type.__new__") [.type "type", .str name tn, .ref T1, .ref dA]) Q E s := by
  have hT := D.get (.tail _ (.head _))
  have hD := D.get (.head _)
  refine wpAny_call (codeAny_call_builtin_code (Code.quiet_builtin _ (by decide +kernel)) ?_)
  refine wpAny_of_eq (TN.check _ _ _) ?_
  refine codeAny_builtin TN.entry ?_
  unfold Builtin.«type.__new__»
  refine hideQE fun K9 E9 hK9 hE9 => ?_
  refine bindD (fun _ hq9 => wpAny_pure hq9) ?_
  refine bindD (fun _ hq9 => wpAny_isInstance (T := "tuple") ⟨_, hT, rfl⟩ AutoSeq1.sub_tuple_tuple hq9) ?_
  refine bindD (fun _ hq9 => wpAny_isInstance (T := "dict") ⟨_, hD, x.1⟩ TN.sub_dict hq9) ?_
  refine bindD (m := seqItems? (.ref T1)) (fun _ hq9 => wpAny_bind (wpAny_load hT (wpAny_pure hq9))) ?_
  refine bindD (fun _ hq9 => for1 (wpAny_bind (isType_type (wpAny_ite_false rfl (wpAny_pure ⟨_, rfl, hq9⟩))))) ?_
  refine bindD (fun _ hq9 => for1 (wpAny_bind (typeOf_object (wpAny_bind (isSub_type (wpAny_pure ⟨_, rfl, hq9⟩)))))) ?_
  refine bindD (fun _ hq9 => wpAny_of_eq TN.turned hq9) ?_
  refine bindD (fun _ hq9 => wpAny_of_eq TN.extended hq9) ?_
  refine wpAny_ite_false (by simpa [sysModules] using hd1) ?_
  refine bindD (fun _ hq9 => dictEntries_D x hD hq9) ?_
  intro es hes
  refine wpAny_bind (m := specialOf (.ref dA) _) ?_
  unfold specialOf
  refine bindD (fun _ hq9 => wpAny_typeOf (T := "dict") ⟨_, hD, x.1⟩ hq9) ?_
  refine wpAny_of_eq TN.lk_dict_iter ?_
  refine wpAny_ite_true (by simp) ?_
  refine bindD (fun _ hq9 => wpAny_pure hq9) ?_
  refine bindD (fun _ hq9 => wpAny_holding hq9) ?_
  refine slots_read D (D.get (.tail _ (.tail _ hS))) hes hk1 hk2 ?_
  intro c1 o1 h1 D1
  have hlen : es.size ≤ 100 := by have := hes.len; simp at this; exact eqk (by assumption) (by assumption) (by exact rfl)
  refine bindD (fun _ hq9 => newObj_L D1 rfl hq9 (by show es.size ≤ sizeLine + 1; rw [sizeLine_eq]; exact lek (by assumption) (by exact rfl))) ?_
  intro ns h2 D2 hL2 lt2
  have x2 : DictO { cls := .type "dict", data := .dict es } kvs := ⟨rfl, rfl, rfl, es, 0, rfl, hes⟩
  generalize ({ cls := .type "dict", data := .dict es } : Obj) = o2 at D2 x2
  have hmod : (!(es.any fun x => x.key.isStr ("__module__" : Str))) = false := by rw [← Array.any_toList, hes.any, hk3]; rfl
  refine KFB.if_not hmod ?_
  refine bindD (fun _ hq9 => KFB.if_not hn1 (wpAny_pure hq9)) ?_
  refine KFB.if_not hn2 ?_
  refine bindD (fun _ hq9 => nsGet_De x2 (D2.get (.head _)) hk4 hq9) ?_
  refine bindD (fun _ hq9 => nsGet_De x2 (D2.get (.head _)) hk4 hq9) ?_
  refine bindD (fun _ hq9 => wpAny_pure hq9) ?_
  refine bindD (fun _ hq9 => wpAny_pure hq9) ?_
  refine bindD (fun _ hq9 => nsGet_De x2 (D2.get (.head _)) hk5 hq9) ?_
  refine bindD (fun _ hq9 => alloc_L D2 rfl hq9) ?_
  intro a h3 D3 lt3
  replace D3 : Led h₀ h3 L m ((a, ⟨.type "type", none, .cls { name := name, bases := [.type "object"], mro := [], ns := ns, qualname := qual }, #[]⟩) :: (ns, o2) :: (c1, o1) :: (dA, o) :: (T1, { cls := .type "tuple", data := .seq #[.type "object"] }) :: lit) rest := D3
  refine wpAny_bind (setSlot_L (sl' := #[some (.ref T1)]) D3 (by exact Nat.le_of_ble_eq_true rfl) rfl ?_)
  intro h4 D4
  refine wpAny_bind (setSlot_L (sl' := #[some (.ref T1), none, some (.str name tn)]) D4 (by exact Nat.le_of_ble_eq_true rfl) rfl ?_)
  intro h5 D5
  refine wpAny_bind (setSlot_L (sl' := #[some (.ref T1), none, some (.str name tn), some (.str qual tq)]) D5 (by exact Nat.le_of_ble_eq_true rfl) rfl ?_)
  intro h6 D6
  have D7 : Led h₀ h6 L m ((ns, o2) :: (a, _) :: _) rest := D6.perm (List.Perm.swap _ _ _)
  refine wpAny_bind (nsDel_D x2 (by rw [hk4]; rfl) D7 ?_)
  intro o8 h8 x8 D8
  refine bindD (fun _ hq9 => nsGet_De x8 (D8.get (.head _)) hk6 hq9) ?_
  refine bindD (fun _ hq9 => for2 hq9) ?_
  refine bindD (fun _ hq9 => nsGet_De x8 (D8.get (.head _)) hk7 hq9) ?_
  refine wpAny_pure ⟨_, rfl, ?_⟩
  refine bindD (fun _ hq9 => nsGet_De x8 (D8.get (.head _)) hk8 hq9) ?_
  refine wpAny_pure ⟨_, rfl, ?_⟩
  refine bindD (fun _ hq9 => nsGet_De x8 (D8.get (.head _)) hk9 hq9) ?_
  refine bindD (fun _ hq9 => nsGet_De x8 (D8.get (.head _)) hk10 hq9) ?_
  refine bindD (fun _ hq9 => wpAny_of_eq TN.hook hq9) ?_
  refine bindD (fun _ hq9 => wpAny_bind (m := Builtin.linearize [.type "object"] mroOf) (wpAny_of_eq TN.linear (wpAny_pure hq9))) ?_
  have hfil : List.filter (fun x => x != Value.ref a) [Value.ref a, Value.type "object"] = [Value.type "object"] := by simp
  refine wpAny_bind (m := List.anyM _ _) (wpAny_of_eq (a := false) ?_ ?_)
  · rw [hfil]
    exact congrArg (fun z : Bool => (pure z : Sem Bool) >>= fun b => match b with | true => pure true | false => pure false) TN.no_del
  have hdel : (es.any fun x => x.key.isStr ("__del__" : Str)) = false := by rw [← Array.any_toList, hes.any, hk11]; rfl
  have D9 : Led h₀ h8 L m ((a, _) :: (ns, o8) :: _) rest := D8.perm (List.Perm.swap _ _ _)
  refine wpAny_bind (updateCls_L D9 ?_ ?_)
  · show (Data.cls _).pastItsLine = none
    rfl
  intro h10 D10
  dsimp only at D10
  rw [hdel] at D10
  replace D10 : Led h₀ h10 L m ((a, ⟨.type "type", none, .cls { name := name, bases := [.type "object"], mro := [.ref a, .type "object"], ns := ns, qualname := qual }, #[some (.ref T1), none, some (.str name tn), some (.str qual tq)]⟩) :: (ns, o8) :: (c1, o1) :: (dA, o) :: (T1, { cls := .type "tuple", data := .seq #[.type "object"] }) :: lit) rest := D10
  refine bindD (fun _ hq9 => wpAny_of_eq TN.made_object hq9) ?_
  refine wpAny_bind (setSlot_L (sl' := #[some (.ref T1), none, some (.str name tn), some (.str qual tq), some (.builtin "object.__new__")]) D10 (by exact Nat.le_of_ble_eq_true rfl) rfl ?_)
  intro h11 D11
  refine wpAny_bind (m := Bind.refreshMaker a) ?_
  unfold Bind.refreshMaker
  refine bindD (m := slotAt a 4) (fun _ hq9 => wpAny_bind (wpAny_loadPart (D11.get (.head _)) (wpAny_pure hq9))) ?_
  refine bindD (fun _ hq9 => typeLookup_L (D11.get (.head _)) rfl rfl (D11.get (.tail _ (.head _))) x8 (.inr ⟨hk6, TN.lk_new⟩) hq9) ?_
  refine KFB.if_not (by decide +kernel) ?_
  refine wpAny_pure ?_
  refine wpAny_bind (install_L D11 x8 hk12 (by rw [kvDrop_len (by rw [hk4]; rfl)]; exact Nat.le_trans (Nat.sub_le _ _) (by assumption)) rfl ?_)
  intro md t12 o12 h12 tk12 x12 D12 lt12
  replace D12 : Led h₀ h12 L m ((a, ⟨.type "type", none, .cls { name := name, bases := [.type "object"], mro := [.ref a, .type "object"], ns := ns, qualname := qual, hasDict := false, slotNames := [("obj" : Str)] }, #[some (.ref T1), none, some (.str name tn), some (.str qual tq), some (.builtin "object.__new__")]⟩) :: (ns, o12) :: (md, { cls := .type "member_descriptor", data := .fields #[.str ("obj" : Str) t12, .ref a, .builtin "proto.slot", .builtin "proto.slot#set", rawInt 0] }) :: (c1, o1) :: (dA, o) :: (T1, { cls := .type "tuple", data := .seq #[.type "object"] }) :: lit) rest := D12
  refine bindD (fun _ hq9 => wpAny_of_eq TN.gweak hq9) ?_
  refine wpAny_bind (setSlot_L (sl' := #[some (.ref T1), none, some (.str name tn), some (.str qual tq), some (.builtin "object.__new__"), some (.bool false)]) D12 (by exact Nat.le_of_ble_eq_true rfl) rfl ?_)
  intro h13 D13
  refine bindD (fun _ hq9 => nsGet_De x12 (D13.get (.tail _ (.head _))) (hk13 _) hq9) ?_
  have D14 : Led h₀ h13 L m ((ns, o12) :: (a, _) :: _) rest := D13.front [_]
  refine bindD (fun _ hq9 => nsSet_D x12 D14 hq9) ?_
  intro o15 h15 x15 D15
  refine bindD (fun _ hq9 => nsGet_D x15 (D15.get (.head _)) hq9) ?_
  refine KFB.if_so (hk14 _) ?_
  refine bindD (fun _ hq9 => nsGet_D x15 (D15.get (.head _)) hq9) ?_
  refine KFB.if_not (hk15 _) ?_
  refine bindD (fun _ hq9 => for1 hq9) ?_
  refine wpAny_bind (wpAny_of_eq (TN.note a) (wpAny_pure ⟨_, rfl, ?_⟩))
  refine bindD (fun _ hq9 => wpAny_tryCatch (wpAny_holding hq9)) ?_
  have D16 : Led h₀ h15 L m ((a, _) :: (ns, o15) :: (md, _) :: (c1, o1) :: (dA, o) :: (T1, _) :: lit) rest := D15.front [_]
  have tame : ∀ p ∈ (kvPut "__doc__" .none (kvPut "obj" (.ref md) (kvDrop "__qualname__" kvs))), NoSet (model prog w) h15 p.2 := by
    intro p hp
    rcases kvPut_mem hp with rfl | hp
    · exact .none
    · rcases kvPut_mem hp with rfl | hp
      · exact .ref (D16.get (.tail _ (.tail _ (.head _)))) rfl TN.set_member
      · exact ((hTame p (kvDrop_mem hp)).mono fun q hq => .tail _ (.tail _ (.tail _ (.tail _ (.tail _ (.tail _ hq)))))).noSet D16
  refine bindD (fun _ hq9 => dictEntries_D x15 (D15.get (.head _)) hq9) ?_
  intro es1 hes1
  rw [← Array.forIn_toList]
  refine wpAny_bind (forIn_still ?_ ?_)
  · intro e he Q' hq'
    obtain ⟨k, t, e1, e2⟩ := hes1.mem e he
    rw [e1]
    exact wpAny_bind (wpAny_pure (KFB.if_not rfl (wpAny_pure hq')))
  refine bindD (fun _ hq9 => dictEntries_D x15 (D15.get (.head _)) hq9) ?_
  intro es2 hes2
  rw [← Array.forIn_toList]
  refine wpAny_bind (forIn_still ?_ ?_)
  · intro e he Q' hq'
    obtain ⟨k, t, e1, e2⟩ := hes2.mem e he
    have z := tame _ e2
    rw [e1]
    refine KFB.if_not (z.1 k) ?_
    refine bindD (fun _ hq9 => z.2 _ _ _ _ (fun _ _ e => e) hq9) ?_
    exact wpAny_pure hq'
  have c16 : ClsAt h15 a _ _ := ⟨D16.get (.head _), rfl, rfl, rfl⟩
  refine bindD (fun _ hq9 => super_self c16 D16 (.head _) hq9) ?_
  intro so h17 D17
  have c17 := c16.keeps (D17.get (.tail _ (.head _)))
  refine bindD (fun _ hq9 => wpAny_holding (super_get (hX.keeps D17.F.keep) hop c17 D17 hq9)) ?_
  intro b h18 D18
  have c18 := c16.keeps (D18.get (.tail _ (.tail _ (.head _))))
  refine bindD (fun _ hq9 => init_subclass c18 (D18.get (.head _)) hf hq9) ?_
  refine wpAny_pure ?_
  refine wpAny_pure ?_
  have D19 : Led h₀ h18 L m ((a, _) :: (ns, o15) :: (md, _) :: (c1, o1) :: (dA, o) :: (T1, _) :: lit) rest := Led.drop (lit' := [_, _]) D18
  have D20 : Led h₀ h18 L m ((a, _) :: (ns, o15) :: (md, _) :: lit) rest := Led.cut [_, _, _] [_, _, _] D19
  refine hK9 _ _ ?_
  refine hQ a ns md o15 t12 h18 _ x15 D20 (fun q hq => lt2 q ?_) (lt3 (ns, o2) (List.mem_append_left _ (.head _))) (lt12 (a, _) (List.mem_append_left _ (.head _)))
  rcases List.mem_append.mp hq with hq | hq
  · exact List.mem_append_left _ (.tail _ (.tail _ (.tail _ hq)))
  · exact List.mem_append_right _ hq
end
end

/- NUa -/
theorem offNUa : True := by
  w_top off
  exact trivial
section
open PySem PySem.W PyProof.Rows PySem.Spec PySem.Calls PySem.SeqAt
set_option Elab.async false
set_option maxRecDepth 100000
set_option maxHeartbeats 2000000
theorem triples_next {ps : Array Value} {a b : Int} {c : Value} (h : TriplesOk ps.toList) : TriplesOk (ps ++ #[rawInt a, rawInt b, c]).toList := by
  rw [Array.toList_append]; exact TriplesOk_snoc a b c _ h
theorem codeAmong_app {pos : Pos} {a b : Int} {c : Value} (l : List Value) (h : TriplesOk l) (hn : codeAmong pos l = none) (hne : (a == pos.line && b == pos.col) = false) : codeAmong pos (l ++ [rawInt a, rawInt b, c]) = none := by
  fun_induction TriplesOk l with
  | case1 => simp only [List.nil_append, codeAmong, rawInt]; rw [if_neg (by rw [hne]; simp)]
  | case2 a' t b' u x rest ih =>
    simp only [List.cons_append, codeAmong] at hn ⊢
    split at hn
    · cases hn
    · rename_i hc; rw [if_neg hc]; exact ih h hn
  | case3 l h1 h2 => exact h.elim
theorem among_next {pos : Pos} {ps : Array Value} {a b : Int} {c : Value} (h : TriplesOk ps.toList) (hn : codeAmong pos ps.toList = none) (hne : (a == pos.line && b == pos.col) = false) : codeAmong pos (ps ++ #[rawInt a, rawInt b, c]).toList = none := by
  rw [Array.toList_append]; exact codeAmong_app _ h hn hne
structure Places (ps : Array Value) (ls : List (Int × Int)) : Prop where
  ok : TriplesOk ps.toList
  no : ∀ pos : Pos, (ls.all fun q => !(q.1 == pos.line && q.2 == pos.col)) = true → codeAmong pos ps.toList = none
theorem Places.nil : Places #[] [] := ⟨trivial, fun _ _ => rfl⟩
theorem Places.add {ps : Array Value} {ls : List (Int × Int)} (x : Places ps ls) (pos : Pos) (c : Value) : Places (ps ++ #[rawInt pos.line, rawInt pos.col, c]) ((pos.line, pos.col) :: ls) :=
  ⟨triples_next x.ok, fun q h => by
    rw [List.all_cons, Bool.and_eq_true] at h
    exact among_next x.ok (x.no q h.2) (by rw [← Bool.not_eq_true']; exact h.1)⟩
section
variable {M : Model} {prog : Program} {w : World} {A : Around} {E : Value → Shared → Prop} {s : Shared} {h₀ : Heap} {L : Addr} {m mg mb : Str → Option Value} {lit rest : List (Addr × Obj)} {p : Program} {loose : List Str} {mean : ExcName → Option Value}
  {a : Addr} {o : Obj} {kvs : List (Str × Value)} {n : Str} {v : Value}
theorem fdef_L {env : Env} {c P : Addr} {oc : Obj} {ps : Array Value} {ls : List (Int × Int)} {pos : Pos} {name : Str} {params : Arguments} {body : List Stmt} {scope : Scope} {clos : List (Str × Addr)} {Q : Flow → Shared → Prop} (T : Top p loose mean mg mb h₀) (hcl : closureFor scope env = pure clos) (hge0 : env.globals = mainGlobals) (hcode : env.code = .ref c)
    (hok : CodeOk oc c P) (hm : (c, oc) ∈ lit) (D : Led h₀ s.heap L m ((a, o) :: (P, tabObj ps) :: lit) rest) (x : DictO o kvs) (hl : env.locals = a) (hk : env.scope.kind = .class) (hn : env.kindOf name = some .local) (hps : Places ps ls) (hnf : (ls.all fun q => !(q.1 == pos.line && q.2 == pos.col)) = true)
    (hd0 : params.defaults = []) (hk0 : params.kw_defaults = []) (ha : annTrees params none env = [])
    (h : ∀ f c' oc' ctv doc o' h' tk ps', Places ps' ((pos.line, pos.col) :: ls) → NamedCode oc' (env.qual ++ name) → DictO o' (kvPut name (.ref f) kvs) →
      Led h₀ h' L m ((a, o') :: (P, tabObj ps') :: (f, fnMade name (env.qual ++ name) params body scope clos doc ((mg "__name__").getD .none) c' ctv) :: (c', oc') :: lit) rest → (∀ q ∈ ((P, tabObj ps) :: (a, o) :: lit) ++ rest, q.1 < c') → c' < f → Q .next { s with heap := h', toks := tk }) :
    wpAny M A (exec (.FunctionDef name params body [] none [] scope none name pos) env) Q E s := by
  refine nestDef_K hd0 hk0 ha ?_
  have hq : qualnameIn env name name = env.qual ++ name := by unfold qualnameIn; rw [hn]; rfl
  rw [hq]
  have D1 : Led h₀ s.heap L m ((P, tabObj ps) :: (a, o) :: lit) rest := D.perm (List.Perm.swap _ _ _)
  refine makeFunction_L T hcl hge0 hcode (hok.hd (D.get (.tail _ (.tail _ hm)))) D1 hps.ok (hps.no _ hnf) ?_
  intro f c' oc' ctv doc h' tk hnc D2 lt1 lt2
  have D3 : Led h₀ h' L m ((a, o) :: ([(f, _), (c', oc'), (P, _)] ++ lit)) rest := Led.front [_, _, _] D2
  refine storeName_L hl hk (.inl hn) x D3 ?_
  intro o' h'' x' D4
  have D5 : Led h₀ h'' L m ((P, _) :: ([(a, o'), (f, _), (c', oc')] ++ lit)) rest := Led.front [_, _, _] D4
  have D6 : Led h₀ h'' L m ((a, o') :: ([(P, _)] ++ (f, _) :: (c', oc') :: lit)) rest := Led.front [_] D5
  exact h f c' oc' ctv doc o' h'' _ _ (hps.add pos (.ref c')) hnc x' D6 lt1 lt2
end
noncomputable def sParts (s : Stmt) : List Stmt × Arguments × Scope × PySem.Expr := by
  cases s with
  | FunctionDef _ a b _ _ _ sc => exact (b, a, sc, .Constant (.int 0) 0 ⟨0, 0, 0, 0⟩)
  | ClassDef _ _ _ b => exact (b, ⟨[], [], none, [], [], none, []⟩, ⟨.function, [], false, false, []⟩, .Constant (.int 0) 0 ⟨0, 0, 0, 0⟩)
  | For _ _ b => exact (b, ⟨[], [], none, [], [], none, []⟩, ⟨.function, [], false, false, []⟩, .Constant (.int 0) 0 ⟨0, 0, 0, 0⟩)
  | Assign _ v => exact ([], ⟨[], [], none, [], [], none, []⟩, ⟨.function, [], false, false, []⟩, v)
  | _ => exact ([], ⟨[], [], none, [], [], none, []⟩, ⟨.function, [], false, false, []⟩, .Constant (.int 0) 0 ⟨0, 0, 0, 0⟩)
noncomputable def stmtsOf (s : Stmt) : List Stmt := (sParts s).1
noncomputable def argsOf (s : Stmt) : Arguments := (sParts s).2.1
noncomputable def scopeOf (s : Stmt) : Scope := (sParts s).2.2.1
noncomputable def kStmt (i : Nat) : Stmt := (stmtsOf ((stmtsOf (PySem.Challenge.pw_of0007_01.main.body.getD 8 (.Pass ⟨0, 0, 0, 0⟩))).getD 0 (.Pass ⟨0, 0, 0, 0⟩))).getD i (.Pass ⟨0, 0, 0, 0⟩)
noncomputable abbrev mdObj (t : Tok) (K : Addr) : Obj := { cls := .type "member_descriptor", data := .fields #[.str ("obj" : Str) t, .ref K, .builtin "proto.slot", .builtin "proto.slot#set", rawInt 0] }
inductive KOk (kl : List (Addr × Obj)) (K : Addr) : Prop
  | mk (nm q : Str) (k0 k2 k3 : Option Value) (ns : Addr) (oN : Obj) (kvs : List (Str × Value)) (md : Addr) (t : Tok) (fI cI : Addr) (oI : Obj) (qI : Str) (dI pI ctI : Value) (fL cL : Addr) (oL : Obj) (qL : Str) (dL pL ctL : Value) (cell : Addr) (oC : Obj) (q1 : (K, excClassObj nm q K ns [.type "object"] [.type "object"] false [("obj" : Str)] [] false none none k0 none k2 k3 (some (.bool false)) "object.__new__") ∈ kl) (q2 : (ns, oN) ∈ kl) (q3 : DictO oN kvs) (q4 : kvs.lookup ("obj" : Str) = some (.ref md)) (q5 : kvs.lookup ("__init__" : Str) = some (.ref fI)) (q6 : kvs.lookup ("__lt__" : Str) = some (.ref fL)) (q7 : kvs.lookup ("__getattribute__" : Str) = none) (q8 : kvs.lookup ("__getattr__" : Str) = none) (q9 : kvs.lookup ("__setattr__" : Str) = none) (q10 : kvs.lookup ("__new__" : Str) = none) (q11 : (md, mdObj t K) ∈ kl) (q12 : (fI, fnMade "__init__" qI (argsOf (kStmt 2)) (stmtsOf (kStmt 2)) (scopeOf (kStmt 2)) [] dI pI cI ctI) ∈ kl) (q13 : (cI, oI) ∈ kl) (q14 : NamedCode oI qI) (q15 : (fL, fnMade "__lt__" qL (argsOf (kStmt 3)) (stmtsOf (kStmt 3)) (scopeOf (kStmt 3)) [("mycmp", cell)] dL pL cL ctL) ∈ kl) (q16 : (cL, oL) ∈ kl) (q17 : NamedCode oL qL) (q18 : (cell, oC) ∈ kl) (q19 : oC.data = .cell (some (.ref 103))) : KOk kl K
end

/- ME -/
theorem offME : True := by
  w_top off
  exact trivial
section
open PySem PySem.W PyProof.Rows PySem.SeqAt
set_option Elab.async false
set_option maxRecDepth 100000
inductive GrowJ (base low : List (Addr × Obj)) (R : List (Addr × Obj) → Nat → Value → Prop) (len : Nat) (ys : List Value) (nx : List (Addr × Obj)) : Prop
  | mk (t2 : List (Addr × Obj)) (e : t2 ++ base = nx) (hlt : ∀ p ∈ t2, ∀ q ∈ low, q.1 < p.1) (hlen : ys.length = len) (hys : ∀ j y, ys[j]? = some y → R t2 j y) : GrowJ base low R len ys nx
theorem grow_step {base low t2 tl2 nx' : List (Addr × Obj)} {R R' : List (Addr × Obj) → Nat → Value → Prop} {len : Nat} {ys : List Value} {y : Value} (hlt : ∀ p ∈ t2, ∀ q ∈ low, q.1 < p.1) (hlen : ys.length = len) (hys : ∀ j y, ys[j]? = some y → R t2 j y)
    (hlt2 : ∀ p ∈ tl2, ∀ q ∈ low, q.1 < p.1) (mono : ∀ j y, j < len → R t2 j y → R' (tl2 ++ t2) j y) (new : R' (tl2 ++ t2) len y) (e : (tl2 ++ t2) ++ base = nx') : GrowJ base low R' (len + 1) (ys ++ [y]) nx' := by
  refine ⟨tl2 ++ t2, e, fun p hp q hq => (List.mem_append.mp hp).elim (fun h => hlt2 p h q hq) fun h => hlt p h q hq, by rw [List.length_append, hlen]; rfl, fun j z hz => ?_⟩
  rcases Nat.lt_or_ge j len with h | h
  · rw [List.getElem?_append_left (hlen ▸ h)] at hz
    exact mono j z h (hys j z hz)
  · rw [List.getElem?_append_right (hlen ▸ h), hlen] at hz
    rcases Nat.lt_or_ge len j with g | g
    · rw [List.getElem?_eq_none (by exact Nat.sub_pos_of_lt g)] at hz; cases hz
    · cases Nat.le_antisymm h g
      rw [Nat.sub_self] at hz
      cases hz; exact new
theorem fm1 {α : Type} {P : α → Prop} {a : α} {l : List α} (h : P a ∧ ∀ p ∈ l, P p) : ∀ p ∈ a :: l, P p := List.forall_mem_cons.mpr h
theorem um1 {α : Type} {P : α → Prop} {a : α} {l : List α} (h : ∀ p ∈ a :: l, P p) : P a ∧ ∀ p ∈ l, P p := List.forall_mem_cons.mp h
theorem fm2 {α : Type} {P : α → Prop} {a b : α} {l : List α} (h : P a ∧ P b ∧ ∀ p ∈ l, P p) : ∀ p ∈ a :: b :: l, P p := List.forall_mem_cons.mpr ⟨h.1, fm1 h.2⟩
theorem um2 {α : Type} {P : α → Prop} {a b : α} {l : List α} (h : ∀ p ∈ a :: b :: l, P p) : P a ∧ P b ∧ ∀ p ∈ l, P p := ⟨h a (.head _), um1 fun p hp => h p (.tail _ hp)⟩
theorem fm3 {α : Type} {P : α → Prop} {a b c : α} {l : List α} (h : P a ∧ P b ∧ P c ∧ ∀ p ∈ l, P p) : ∀ p ∈ a :: b :: c :: l, P p := List.forall_mem_cons.mpr ⟨h.1, fm2 h.2⟩
theorem um3 {α : Type} {P : α → Prop} {a b c : α} {l : List α} (h : ∀ p ∈ a :: b :: c :: l, P p) : P a ∧ P b ∧ P c ∧ ∀ p ∈ l, P p := ⟨h a (.head _), um2 fun p hp => h p (.tail _ hp)⟩
theorem fm4 {α : Type} {P : α → Prop} {a b c d : α} {l : List α} (h : P a ∧ P b ∧ P c ∧ P d ∧ ∀ p ∈ l, P p) : ∀ p ∈ a :: b :: c :: d :: l, P p := List.forall_mem_cons.mpr ⟨h.1, fm3 h.2⟩
theorem um4 {α : Type} {P : α → Prop} {a b c d : α} {l : List α} (h : ∀ p ∈ a :: b :: c :: d :: l, P p) : P a ∧ P b ∧ P c ∧ P d ∧ ∀ p ∈ l, P p := ⟨h a (.head _), um3 fun p hp => h p (.tail _ hp)⟩
theorem fm5 {α : Type} {P : α → Prop} {a b c d e : α} {l : List α} (h : P a ∧ P b ∧ P c ∧ P d ∧ P e ∧ ∀ p ∈ l, P p) : ∀ p ∈ a :: b :: c :: d :: e :: l, P p := List.forall_mem_cons.mpr ⟨h.1, fm4 h.2⟩
theorem um5 {α : Type} {P : α → Prop} {a b c d e : α} {l : List α} (h : ∀ p ∈ a :: b :: c :: d :: e :: l, P p) : P a ∧ P b ∧ P c ∧ P d ∧ P e ∧ ∀ p ∈ l, P p := ⟨h a (.head _), um4 fun p hp => h p (.tail _ hp)⟩
theorem fm6 {α : Type} {P : α → Prop} {a b c d e f : α} {l : List α} (h : P a ∧ P b ∧ P c ∧ P d ∧ P e ∧ P f ∧ ∀ p ∈ l, P p) : ∀ p ∈ a :: b :: c :: d :: e :: f :: l, P p := List.forall_mem_cons.mpr ⟨h.1, fm5 h.2⟩
theorem um6 {α : Type} {P : α → Prop} {a b c d e f : α} {l : List α} (h : ∀ p ∈ a :: b :: c :: d :: e :: f :: l, P p) : P a ∧ P b ∧ P c ∧ P d ∧ P e ∧ P f ∧ ∀ p ∈ l, P p := ⟨h a (.head _), um5 fun p hp => h p (.tail _ hp)⟩
theorem fm7 {α : Type} {P : α → Prop} {a b c d e f g : α} {l : List α} (h : P a ∧ P b ∧ P c ∧ P d ∧ P e ∧ P f ∧ P g ∧ ∀ p ∈ l, P p) : ∀ p ∈ a :: b :: c :: d :: e :: f :: g :: l, P p := List.forall_mem_cons.mpr ⟨h.1, fm6 h.2⟩
theorem um7 {α : Type} {P : α → Prop} {a b c d e f g : α} {l : List α} (h : ∀ p ∈ a :: b :: c :: d :: e :: f :: g :: l, P p) : P a ∧ P b ∧ P c ∧ P d ∧ P e ∧ P f ∧ P g ∧ ∀ p ∈ l, P p := ⟨h a (.head _), um6 fun p hp => h p (.tail _ hp)⟩
theorem fm8 {α : Type} {P : α → Prop} {a b c d e f g k : α} {l : List α} (h : P a ∧ P b ∧ P c ∧ P d ∧ P e ∧ P f ∧ P g ∧ P k ∧ ∀ p ∈ l, P p) : ∀ p ∈ a :: b :: c :: d :: e :: f :: g :: k :: l, P p := List.forall_mem_cons.mpr ⟨h.1, fm7 h.2⟩
theorem um8 {α : Type} {P : α → Prop} {a b c d e f g k : α} {l : List α} (h : ∀ p ∈ a :: b :: c :: d :: e :: f :: g :: k :: l, P p) : P a ∧ P b ∧ P c ∧ P d ∧ P e ∧ P f ∧ P g ∧ P k ∧ ∀ p ∈ l, P p := ⟨h a (.head _), um7 fun p hp => h p (.tail _ hp)⟩
end

/- NO -/
local macro_rules | `(tactic| walk_at "eval Call") => `(tactic| (k_here; refine callN ?_))
local macro_rules | `(tactic| walk_at "eval ListComp") => `(tactic| (k_here; (with_reducible refine guardLC ?_); (rename PyProof.Rows.Fr _ _ _ _ => lF'); (with_unfolding_all refine' comp_gF lF' ?a ?b ?c ?d ?e ?_; (case a => exact rfl); (case b => decide); (case c => exact rfl); (case d => decide); (case e => exact rfl); k_whole)))
theorem offNO : True := by
  w_top off
  exact trivial
section
open PySem PySem.W PyProof.Rows PySem.Spec PySem.Calls PySem.SeqAt PyProof.V
set_option Elab.async false
set_option maxRecDepth 100000
set_option maxHeartbeats 2000000

section
variable {prog : Program} {w : World} {mean : ExcName → Option Value} {mg mb : Str → Option Value} {A : Around} {h₀ : Heap} {L : Addr} {m : Str → Option Value} {news : List (Addr × Obj)} {s : Shared} {x y : Addr} {c d : Nat}
    {Q E : Value → Shared → Prop}



theorem bit_is (c p : Nat) : Builtin.bitAnd ((c : Int).fdiv (2 ^ p)) 1 = 1 ↔ c.testBit p = true := by
  have h : (c : Int).fdiv (2 ^ p) = ((c / 2 ^ p : Nat) : Int) := by
    rw [Int.fdiv_eq_ediv_of_nonneg _ (Int.le_of_lt (Int.pow_pos (by decide)))]; push_cast; rfl
  rw [h, bitAnd_m1, Nat.testBit_eq_decide_div_mod_eq, decide_eq_true_iff]
  exact emod2 _
noncomputable def eH : Heap := { objs := #[] }
theorem eH_none (b : Addr) : eH.get? b = none := Heap.get?_none_of_le (Nat.zero_le _)
theorem eH_keep {h : Heap} : ∀ b o, eH.get? b = some o → h.get? b = some o := fun b o e => by rw [eH_none] at e; cases e

noncomputable def SpellC (prog : Program) (w : World) (mean : ExcName → Option Value) (mg mb : Str → Option Value) (c k : Nat) : Prop :=
  ∀ (A : Around) (h₀ : Heap) (L : Addr) (m : Str → Option Value) (news : List (Addr × Obj)) (s : Shared) (t : Tok) (Q E : Value → Shared → Prop), Fr h₀ L s.heap m → Frag.In (Mine.hd.heap_39 w.params) h₀ → News h₀ L s.heap news → Top topProg loo mean mg mb h₀ → A.handled = none →
    A.depth + 2 * k + 10 < recursionLimit → A.units + 20 * k + 100 < cLine →
    (∀ b tl h' tk', Fr h₀ L h' m → News h₀ L h' (tl ++ news) → NstK eH tl (.ref b) c → (∀ p ∈ tl, ∀ q ∈ news, q.1 < p.1) → Q (.ref b) { s with heap := h', toks := tk' }) → wpAny (model prog w) A (call (.ref 82) [.int c t]) Q E s

noncomputable def NestR (cs : List Nat) (t : List (Addr × Obj)) (j : Nat) (y : Value) : Prop := ∀ c, cs[j]? = some c → NstK eH t y c
theorem spell_step {k c : Nat} (hc : c < 2 ^ 12) (IH : ∀ (p : Nat), p < 12 → c.testBit p = true → SpellC prog w mean mg mb p k) : SpellC prog w mean mg mb c (k + 1) := by
  intro A h₀ L m news s t Q E F X N T hh hd hu ret
  obtain ⟨hA, dp, fr, gd, un⟩ := A
  dsimp only at hh hd hu
  subst hh
  ((refine wpAny_call ?_; k_dflt (refine' enterC ?k2 ?k3 ?k4 ?k5 ?k6 ?k7 ?k8 ?k9 ?kB ?kD ?_ ?c2 ?c3 ?c4; (case k2 => k_asm); (case k3 => k_asm); (case k4 => k_asm); (case k5 => k_asm); (case k6 => k_is); (case k7 => k_is); (case k8 => (((try dsimp only [depth_deeper, depth_in1]); (first | exact rm3 (by assumption) (by exact rfl) | exact rm2 (by assumption) (by exact rfl) | exact rm1 (by assumption) (by exact rfl) | exact rm0 (by assumption) | exact rm00 (by assumption) | exact rmd (by assumption) (by exact rfl) | assumption | omega)))); (case k9 => first | exact binds_K (by k_in) rfl (by k_is) rfl rfl rfl | exact BindsTo.of_eq rfl); (case kB => exact rfl); (case kD => decide +kernel); (case c2 => exact rfl); (case c3 => exact rfl); (case c4 => exact rfl); k_whole); intro _ _ _ _ _ _ _ N' Y' _ _ _; k_cells Y'; (try simp only [List.cons_append, List.nil_append] at N'); revert N'; intro _; (try dsimp only); (try k_fold)))
  rename Fr h₀ L _ m => FG
  k_steps
  rename IsRange _ _ _ _ _ _ _ _ => hR
  rename Fr _ _ _ _ => F1
  rename News _ _ _ (_ :: news) => N1
  rename_i g1 L1 hx1 tkx Fx X1 T1 lt1 oC dC Nx hx2 tky t1 u1 v1 kp1
  dsimp only
  refine comp_range (fun i ys nx => GrowJ ((L1 + 1, oC) :: news) news (NestR ((List.range i).filterMap (fun j => if c.testBit (12 - 1 - j) then some (12 - 1 - j) else none))) ((List.range i).filterMap (fun j => if c.testBit (12 - 1 - j) then some (12 - 1 - j) else none)).length ys nx) (n := 12) rfl hR (by decide +kernel) (by decide +kernel) (by exact Nat.le_of_ble_eq_true rfl) F1 N1 ⟨[], rfl, (fun _ h => nomatch h), rfl, (fun _ _ h => by cases h)⟩ ?turn ?done
  case turn =>
    rintro i C mc ys nx h2 tk2 own E2 t2 hi ⟨tl, rfl, hlt, hlen, hys⟩ hyl hoff F2 N2
    refine comp_turn1 ?_
    k_steps
    all_goals (try k_data)
    · unfold EltGoal
      refine Call_ ?_
      k_steps
      all_goals (try k_data)
      rename Builtin.bitAnd _ _ = 1 => hb
      have hpi : (11 : Int) + (i : Int) * -1 = ((12 - 1 - i : Nat) : Int) := pi11 i (by assumption)
      rw [hpi, Int.toNat_natCast] at hb
      have ht := (bit_is c _).mp hb
      rw [hpi]
      refine IH (12 - 1 - i) (sub12 i) ht _ _ _ _ _ _ _ _ _ F2 X1 N2 T1 rfl (by ((try dsimp only [depth_deeper, depth_in1]); exact rmm (by assumption) (by exact rfl))) (by ((try dsimp only [units_deeper, units_in1, Around.mark_units]); exact rmm (by assumption) (by exact rfl))) ?_
      intro b tl2 h3 tk3 F3 N3 hn3 hlt3
      have efm : (List.range (i + 1)).filterMap (fun j => if c.testBit (12 - 1 - j) then some (12 - 1 - j) else none) = (List.range i).filterMap (fun j => if c.testBit (12 - 1 - j) then some (12 - 1 - j) else none) ++ [12 - 1 - i] := by
        rw [List.range_succ, List.filterMap_append]
        congr 1
        simp [ht]
      refine ⟨h3, tk3, _, tl2 ++ (tl ++ ((L1 + 1, oC) :: news)), rfl, F3, by rw [List.append_assoc]; exact N3, ?_, ?_⟩
      · intro p hp q hq
        rcases List.mem_append.mp hp with hp | hp
        · exact Nat.ne_of_gt (hlt3 p hp q (List.mem_append_right _ hq))
        · exact hoff p hp q hq
      · rw [efm, List.length_append]
        refine grow_step hlt hlen hys (fun p hp q hq => hlt3 p hp q (List.mem_append_left _ (List.mem_append_right _ (.tail _ hq)))) (fun j y hj h p hp => ?_) (fun p hp => ?_) (List.append_assoc _ _ _)
        · rw [List.getElem?_append_left hj] at hp
          exact (h p hp).mono eH_keep (fun _ h => List.mem_append_right _ h)
        · rw [List.getElem?_append_right (Nat.le_refl _), Nat.sub_self] at hp
          cases hp
          exact hn3.mono eH_keep (fun _ h => List.mem_append_left _ h)
    · rename Builtin.bitAnd _ _ ≠ 1 => hb
      have hpi : (11 : Int) + (i : Int) * -1 = ((12 - 1 - i : Nat) : Int) := pi11 i (by assumption)
      rw [hpi, Int.toNat_natCast] at hb
      have ht : c.testBit (12 - 1 - i) = false := by
        cases q : c.testBit (12 - 1 - i) with
        | false => rfl
        | true => exact absurd ((bit_is c _).mpr q) hb
      have efm : (List.range (i + 1)).filterMap (fun j => if c.testBit (12 - 1 - j) then some (12 - 1 - j) else none) = (List.range i).filterMap (fun j => if c.testBit (12 - 1 - j) then some (12 - 1 - j) else none) := by
        rw [List.range_succ, List.filterMap_append]
        simp [ht]
      refine ⟨_, _, _, tl ++ ((L1 + 1, oC) :: news), rfl, F2, N2, hoff, ?_⟩
      rw [efm]
      exact ⟨tl, rfl, hlt, hlen, hys⟩
  case done =>
    rintro D nD ys nx h2 tk2 ⟨tl, rfl, hlt, hlen, hys⟩ hyl F2 N2 ltD neD
    k_steps
    rename Fr h₀ L _ m => F3
    rename News h₀ L _ _ => N3
    refine ret D ((D, W.listOf ys.toArray nD) :: tl) _ _ F3 (fun p hp => N3 p ?_) ?_ ?_
    · rcases List.mem_cons.mp hp with rfl | hp
      · exact .head _
      · rcases List.mem_append.mp hp with hp | hp
        · exact .tail _ (List.mem_append_left _ hp)
        · exact .tail _ (List.mem_append_right _ (.tail _ hp))
    · have eb := bitsD_range c 12
      refine NstK.mk (fun h H => H.2 _ (.head _)) rfl rfl ?_ hc ?_
      · rw [List.size_toArray, hlen, ← eb]
      · intro i y p hy hp
        rw [eb] at hp
        exact (hys i y (by simpa using hy) p hp).mono eH_keep (fun _ h => .tail _ h)
    · intro p hp q hq
      rcases List.mem_cons.mp hp with rfl | hp
      · exact ltD q (.tail _ hq)
      · exact hlt p hp q hq

theorem spell_all : ∀ (k c : Nat), c < tw k → c < 2 ^ 12 → SpellC prog w mean mg mb c (k + 1)
  | 0, c, h, hc => spell_step hc fun p hp ht => by
      have := bitsD_of hp ht; rw [bits0 h] at this; cases this
  | k + 1, c, h, hc => spell_step hc fun p hp ht => spell_all k p (by
      obtain ⟨i, hi, e⟩ := List.getElem_of_mem (bitsD_of hp ht)
      exact tw_mem h (by rw [List.getElem?_eq_getElem hi, e])) (by exact lek (by assumption) (by exact rfl))
end
end

/- NP -/
theorem offNP : True := by
  w_top off
  exact trivial
section
open PySem PySem.W PyProof.Rows PySem.Spec PySem.Calls PySem.SeqAt
set_option Elab.async false
set_option maxRecDepth 100000
set_option maxHeartbeats 2000000
section
variable {prog : Program} {w : World} {A : Around} {E : Value → Shared → Prop} {Inv : Shared → Prop} {kf : Value → Nat} {a₀ : Array Keyed} {κ : SortKind}

noncomputable def wpI (prog : Program) (w : World) (A : Around) (E : Value → Shared → Prop) (Inv : Shared → Prop) {α : Type} (m : StateT SortSt Sem α) (Q : α → SortSt → Prop) (st : SortSt) : Prop :=
  ∀ s, Inv s → wpAny (model prog w) A (m.run st) (fun r s' => Inv s' ∧ Q r.1 r.2) E s

theorem wpI_pure {α : Type} {a : α} {Q : α → SortSt → Prop} {st : SortSt} (h : Q a st) : wpI prog w A E Inv (pure a : StateT SortSt Sem α) Q st := fun s hs => by
  rw [StateT.run_pure]; exact wpAny_pure ⟨hs, h⟩
theorem wpI_bind {α β : Type} {m : StateT SortSt Sem α} {f : α → StateT SortSt Sem β} {Q : β → SortSt → Prop} {st : SortSt} (h : wpI prog w A E Inv m (fun a st' => wpI prog w A E Inv (f a) Q st') st) :
    wpI prog w A E Inv (m >>= f) Q st := fun s hs => by
  rw [StateT.run_bind]
  exact wpAny_bind (wpAny_mono (h s hs) (fun r s' h' => h'.2 s' h'.1) fun _ _ e => e)
theorem wpI_mono {α : Type} {m : StateT SortSt Sem α} {Q Q' : α → SortSt → Prop} {st : SortSt} (h : wpI prog w A E Inv m Q st) (hq : ∀ a st', Q a st' → Q' a st') : wpI prog w A E Inv m Q' st :=
  fun s hs => wpAny_mono (h s hs) (fun _ _ h' => ⟨h'.1, hq _ _ h'.2⟩) fun _ _ e => e
theorem wpI_get {Q : SortSt → SortSt → Prop} {st : SortSt} (h : Q st st) : wpI prog w A E Inv (get : StateT SortSt Sem SortSt) Q st := fun s hs => by
  rw [StateT.run_get]; exact wpAny_pure ⟨hs, h⟩
theorem wpI_modify {f : SortSt → SortSt} {Q : PUnit → SortSt → Prop} {st : SortSt} (h : Q ⟨⟩ (f st)) : wpI prog w A E Inv (modify f : StateT SortSt Sem PUnit) Q st := fun s hs => by
  rw [StateT.run_modify]; exact wpAny_pure ⟨hs, h⟩
theorem wpI_rule {t : String} {Q : Unit → SortSt → Prop} {st : SortSt} (h : Q () st) : wpI prog w A E Inv (liftM (rule t) : StateT SortSt Sem Unit) Q st := fun s hs => by
  show wpAny (model prog w) A ((StateT.lift (rule t) : StateT SortSt Sem Unit).run st) _ E s
  rw [StateT.run_lift]
  exact wpAny_bind (wpAny_rule (wpAny_pure ⟨hs, h⟩))

theorem a_pred {x n : Nat} (h : x < n) : x - 1 < n := Nat.lt_of_le_of_lt (Nat.sub_le x 1) h
theorem a_predlt {x : Nat} (h : 1 ≤ x) : x - 1 < x := Nat.sub_lt h Nat.one_pos
theorem a_last {j x : Nat} (h : j < x + 1) (h' : ¬ j < x) : x = j := Nat.le_antisymm (Nat.le_of_not_lt h') (Nat.le_of_lt_succ h)
theorem a_lep {i j : Nat} (h : i ≤ j) (h' : ¬ i = j) : i ≤ j - 1 := Nat.le_sub_one_of_lt (Nat.lt_of_le_of_ne h h')
theorem a_mir {i j k : Nat} (h : i ≤ k) (h' : k < j) : i ≤ i + j - 1 - k ∧ i + j - 1 - k < j := by
  have hj : k ≤ j - 1 := Nat.le_sub_one_of_lt h'
  have j1 : 1 ≤ j := Nat.lt_of_le_of_lt (Nat.zero_le k) h'
  rw [Nat.add_sub_assoc j1, Nat.add_sub_assoc hj]
  exact ⟨Nat.le_add_right _ _, Nat.lt_of_le_of_lt (Nat.add_le_add_right h _) (by rw [Nat.add_sub_of_le hj]; exact Nat.sub_lt j1 Nat.one_pos)⟩
theorem a_one {i x : Nat} (h : x - (0 + 1) ≤ i) (h' : i < x) : i = x - 1 := Nat.le_antisymm (Nat.le_sub_one_of_lt h') h
theorem a_tie {i x q : Nat} (h : x + 1 - (q + 1 + 1) ≤ i) : x - (q + 1) ≤ i := Nat.add_sub_add_right x 1 (q + 1) ▸ h
theorem a_two {j : Nat} (h : j < 1) : j = 0 := Nat.lt_one_iff.mp h
theorem a_rng (i n : Nat) : i + 1 + n = i + (n + 1) := by exact Nat.succ_add_eq_add_succ _ _
theorem a_max (a b : Nat) : a + (b - a) = max a b := by rw [Nat.add_comm, Nat.sub_add_eq_max, Nat.max_comm]
theorem a_in {a b k : Nat} (h : k < a + (b - a)) (h' : a ≤ k) : k < b :=
  (Nat.le_total a b).elim (fun q => Nat.add_sub_of_le q ▸ h) fun q => absurd (Nat.sub_eq_zero_of_le q ▸ h : k < a + 0) (Nat.not_lt_of_le h')
theorem a_ltS {a k : Nat} (h : a < k) : 1 ≤ k := Nat.lt_of_le_of_lt (Nat.zero_le a) h

theorem wpI_from {β : Type} (f : Nat → β → StateT SortSt Sem (ForInStep β)) (I : Nat → β → SortSt → Prop) (Q : β → SortSt → Prop) : ∀ (n i : Nat) (c : β) (st : SortSt),
    (∀ k c st, i ≤ k → k < i + n → I k c st → wpI prog w A E Inv (f k c) (fun r st' => match r with | .done c' => Q c' st' | .yield c' => I (k + 1) c' st') st) →
    (∀ c st, I (i + n) c st → Q c st) → I i c st → wpI prog w A E Inv (forIn (List.range' i n 1) c f) Q st
  | 0, i, c, st, _, hend, h => by rw [List.range'_zero, List.forIn_nil]; exact wpI_pure (hend _ _ h)
  | n + 1, i, c, st, hstep, hend, h => by
    rw [List.range'_succ, List.forIn_cons]
    refine wpI_bind (wpI_mono (hstep i c st (Nat.le_refl i) (Nat.lt_add_of_pos_right (Nat.succ_pos n)) h) fun r st' h' => ?_)
    cases r with
    | done b' => exact wpI_pure h'
    | yield b' => exact wpI_from f I Q n (i + 1) b' st' (fun k c st h1 h2 => hstep k c st (Nat.le_of_succ_le h1) (Nat.lt_of_lt_of_eq h2 (a_rng i n))) (fun c st h1 => hend c st (a_rng i n ▸ h1)) h'

theorem wpI_range {β : Type} {a b : Nat} {f : Nat → β → StateT SortSt Sem (ForInStep β)} (I : Nat → β → SortSt → Prop) {Q : β → SortSt → Prop}
    (hstep : ∀ i c st, a ≤ i → i < b → I i c st → wpI prog w A E Inv (f i c) (fun r st' => match r with | .done c' => Q c' st' | .yield c' => I (i + 1) c' st') st)
    (hend : ∀ c st, I (max a b) c st → Q c st) {c : β} {st : SortSt} (h : I a c st) : wpI prog w A E Inv (forIn [a:b] c f) Q st := by
  rw [Std.Legacy.Range.forIn_eq_forIn_range']
  have hsz : ([a:b] : Std.Legacy.Range).size = b - a := by simp [Std.Legacy.Range.size]
  show wpI prog w A E Inv (forIn (List.range' a ([a:b] : Std.Legacy.Range).size 1) c f) Q st
  rw [hsz]
  exact wpI_from f I Q _ a c st (fun k c st h1 h2 => hstep k c st h1 (a_in h2 h1)) (fun c st h1 => hend c st (a_max a b ▸ h1)) h

noncomputable def KN (kf : Value → Nat) (xs : Array Keyed) (i : Nat) : Nat := match xs[i]? with
  | some p => kf p.1
  | none => 0
noncomputable def UpTo (kf : Value → Nat) (xs : Array Keyed) (k : Nat) : Prop := ∀ i j, i ≤ j → j < k → KN kf xs i ≤ KN kf xs j
noncomputable def DownTo (kf : Value → Nat) (xs : Array Keyed) (k : Nat) : Prop := ∀ i j, i ≤ j → j < k → KN kf xs j ≤ KN kf xs i
theorem KN_congr {xs ys : Array Keyed} {i j : Nat} (h : xs[i]? = ys[j]?) : KN kf xs i = KN kf ys j := by unfold KN; rw [h]
theorem KN_bubble {xs : Array Keyed} {src d : Nat} (hs : src < xs.size) (hd : d ≤ src) (k : Nat) :
    KN kf (bubble xs src d) k = if k = src - d then KN kf xs src else if src - d < k ∧ k ≤ src then KN kf xs (k - 1) else KN kf xs k := by
  have e := getElem?_bubble hs d hd k
  by_cases h1 : k = src - d
  · rw [if_pos h1] at e ⊢; exact KN_congr e
  · rw [if_neg h1] at e ⊢
    by_cases h2 : src - d < k ∧ k ≤ src
    · rw [if_pos h2] at e ⊢; exact KN_congr e
    · rw [if_neg h2] at e ⊢; exact KN_congr e
theorem KN_mirror {xs : Array Keyed} {i j : Nat} (hj : j ≤ xs.size) (k : Nat) :
    KN kf (mirror xs i j ((j - i) / 2)) k = if i ≤ k ∧ k < j then KN kf xs (i + j - 1 - k) else KN kf xs k := by
  have e := getElem?_mirror_all (i := i) hj k
  by_cases h1 : i ≤ k ∧ k < j
  · rw [if_pos h1] at e ⊢; exact KN_congr e
  · rw [if_neg h1] at e ⊢; exact KN_congr e
theorem KN_same {xs : Array Keyed} {i j : Nat} (hj : j ≤ xs.size) (heq : ∀ k, i ≤ k → k < j → KN kf xs k = KN kf xs (j - 1)) (k : Nat) : KN kf (mirror xs i j ((j - i) / 2)) k = KN kf xs k := by
  rw [KN_mirror hj]
  split
  next h => rw [heq _ (a_mir h.1 h.2).1 (a_mir h.1 h.2).2, heq k h.1 h.2]
  next => rfl
theorem UpTo.step {xs : Array Keyed} {x : Nat} (h : UpTo kf xs x) (e : KN kf xs (x - 1) ≤ KN kf xs x) : UpTo kf xs (x + 1) := fun i j hij hj => by
  by_cases hjx : j < x
  · exact h i j hij hjx
  · cases a_last hj hjx
    by_cases hi : i = x
    · cases hi; exact Nat.le_refl _
    · exact Nat.le_trans (h i (x - 1) (a_lep hij hi) (a_predlt (Nat.lt_of_le_of_lt (Nat.zero_le i) (Nat.lt_of_le_of_ne hij hi)))) e
theorem DownTo.step {xs : Array Keyed} {x : Nat} (h : DownTo kf xs x) (e : KN kf xs x ≤ KN kf xs (x - 1)) : DownTo kf xs (x + 1) := fun i j hij hj => by
  by_cases hjx : j < x
  · exact h i j hij hjx
  · cases a_last hj hjx
    by_cases hi : i = x
    · cases hi; exact Nat.le_refl _
    · exact Nat.le_trans e (h i (x - 1) (a_lep hij hi) (a_predlt (Nat.lt_of_le_of_lt (Nat.zero_le i) (Nat.lt_of_le_of_ne hij hi))))
theorem UpTo.one {xs : Array Keyed} : UpTo kf xs 1 := fun i j hij hj => by
  cases a_two hj; cases Nat.le_zero.mp hij; exact Nat.le_refl _
theorem DownTo.one {xs : Array Keyed} : DownTo kf xs 1 := fun i j hij hj => by
  cases a_two hj; cases Nat.le_zero.mp hij; exact Nat.le_refl _
theorem DownTo.congr {xs ys : Array Keyed} {x : Nat} (h : DownTo kf xs x) (e : ∀ k, KN kf ys k = KN kf xs k) : DownTo kf ys x := fun i j hij hj => by
  rw [e, e]; exact h i j hij hj
theorem DownTo.turn {xs : Array Keyed} {n : Nat} (hj : n ≤ xs.size) (h : DownTo kf xs n) : UpTo kf (mirror xs 0 n ((n - 0) / 2)) n := fun i j hij hj' => by
  rw [KN_mirror hj, KN_mirror hj, if_pos ⟨Nat.zero_le _, Nat.lt_of_le_of_lt hij hj'⟩, if_pos ⟨Nat.zero_le _, hj'⟩]
  exact h _ _ (Nat.sub_le_sub_left hij _) (a_mir (Nat.zero_le i) (Nat.lt_of_le_of_lt hij hj')).2
theorem UpTo.flat {xs : Array Keyed} {n : Nat} (h : UpTo kf xs n) (e : ¬ KN kf xs 0 < KN kf xs (n - 1)) (k : Nat) (_ : 0 ≤ k) (hk : k < n) : KN kf xs k = KN kf xs (n - 1) :=
  Nat.le_antisymm (h k (n - 1) (Nat.le_pred_of_lt hk) (a_predlt (Nat.lt_of_le_of_lt (Nat.zero_le k) hk))) (Nat.le_trans (Nat.le_of_not_lt e) (h 0 k (Nat.zero_le k) hk))
noncomputable def Tie (kf : Value → Nat) (xs : Array Keyed) (x q : Nat) : Prop := ∀ i, x - (q + 1) ≤ i → i < x → KN kf xs i = KN kf xs (x - 1)
theorem Tie.zero {xs : Array Keyed} {x : Nat} : Tie kf xs x 0 := fun i h1 h2 => by rw [a_one h1 h2]
theorem Tie.step {xs : Array Keyed} {x q : Nat} (h : Tie kf xs x q) (e : KN kf xs x = KN kf xs (x - 1)) : Tie kf xs (x + 1) (q + 1) := fun i h1 h2 => by
  show KN kf xs i = KN kf xs x
  by_cases hi : i < x
  · rw [e]; exact h i (a_tie h1) hi
  · cases a_last h2 hi; rfl

structure SB (κ : SortKind) (a₀ : Array Keyed) (st : SortSt) : Prop where
  perm : (arrOf st).Perm a₀
  kind : kindOf st = κ
  failed : failedOf st = none
  pend : pendingOf st = #[]
theorem SB.size {st : SortSt} (h : SB κ a₀ st) : (arrOf st).size = a₀.size := h.perm.size_eq
theorem SB.arr {st : SortSt} (h : SB κ a₀ st) {xs : Array Keyed} (hp : xs.Perm (arrOf st)) : SB κ a₀ (setArr st xs) := ⟨hp.trans h.perm, h.kind, h.failed, h.pend⟩

noncomputable def LtOk (prog : Program) (w : World) (A : Around) (Inv : Shared → Prop) (κ : SortKind) (kf : Value → Nat) (a₀ : Array Keyed) : Prop :=
  ∀ p q, p ∈ a₀.toList → q ∈ a₀.toList → ∀ (E : Value → Shared → Prop) (s : Shared) (Q : Bool → Shared → Prop), Inv s → (∀ s', Inv s' → Q (decide (kf p.1 < kf q.1)) s') → wpAny (model prog w) A (keyLt' κ p.1 q.1) Q E s

theorem wpI_lt {st : SortSt} {i j : Nat} {Q : Option Bool → SortSt → Prop} (hO : LtOk prog w A Inv κ kf a₀) (hB : SB κ a₀ st) (hi : i < a₀.size) (hj : j < a₀.size)
    (h : Q (some (decide (KN kf (arrOf st) i < KN kf (arrOf st) j))) st) : wpI prog w A E Inv (ltAt' i j) Q st := by
  have at_ : ∀ k, k < a₀.size → ∃ p, (arrOf st)[k]? = some p ∧ p ∈ a₀.toList ∧ KN kf (arrOf st) k = kf p.1 := by
    intro k hk
    have hk' : k < (arrOf st).size := by rw [hB.size]; exact hk
    have e : (arrOf st)[k]? = some (arrOf st)[k] := getElem?_pos _ k hk'
    exact ⟨_, e, (Array.perm_iff_toList_perm.mp hB.perm).mem_iff.mp (by simp), by unfold KN; rw [e]⟩
  obtain ⟨p, ep, mp, kp⟩ := at_ i hi
  obtain ⟨q, eq, mq, kq⟩ := at_ j hj
  rw [kp, kq] at h
  rw [ltAt'_eq]
  refine wpI_bind (wpI_get ?_)
  show wpI prog w A E Inv (do let x ← elem' (arrOf st) i; let y ← elem' (arrOf st) j; lt' x y) Q st
  rw [elem'_eq, elem'_eq, ep, eq]
  refine wpI_bind (wpI_pure (wpI_bind (wpI_pure ?_)))
  rw [lt'_eq]
  refine wpI_bind (wpI_get ?_)
  rw [hB.kind]
  intro s hs
  rw [StateT.run_bind]
  show wpAny (model prog w) A ((StateT.lift ((keyLt' κ p.1 q.1).attempt) : StateT SortSt Sem (Except Value Bool)).run st >>= _) _ E s
  rw [StateT.run_lift]
  refine wpAny_bind (wpAny_bind (wpAny_attempt (hO p q mp mq _ s _ hs fun s' hs' => wpAny_pure ?_)))
  exact wpAny_pure ⟨hs', h⟩

theorem wpI_reverse {st : SortSt} {i j : Nat} {Q : Unit → SortSt → Prop} (h : Q () (setArr st (mirror (arrOf st) i j ((j - i) / 2)))) : wpI prog w A E Inv (reverseSlice' i j) Q st := by
  rw [reverseSlice'_eq]; exact wpI_modify h

structure AscAt (kf : Value → Nat) (st : SortSt) (x : Nat) (c : AscSt) (st' : SortSt) : Prop where
  c : (none, x) = c
  e : st = st'
  up : UpTo kf (arrOf st) x
theorem wpI_asc {st : SortSt} {a nrem : Nat} {Q : AscSt → SortSt → Prop} (hO : LtOk prog w A Inv κ kf a₀) (hn : nrem ≤ a₀.size) (han : a ≤ nrem) (hB : SB κ a₀ st) (hs : UpTo kf (arrOf st) a)
    (h : ∀ n, a ≤ n → n ≤ nrem → UpTo kf (arrOf st) n → (n = nrem ∨ KN kf (arrOf st) n < KN kf (arrOf st) (n - 1)) → Q (none, n) st) : wpI prog w A E Inv (ascLoop a nrem) Q st := by
  unfold ascLoop
  refine wpI_range (I := AscAt kf st) ?_ ?_ ⟨rfl, rfl, hs⟩
  · intro x c st' hax hxn ⟨hc, hst, hs'⟩
    cases hst; cases hc
    refine wpI_bind (wpI_lt hO hB (Nat.lt_of_lt_of_le hxn hn) (a_pred (Nat.lt_of_lt_of_le hxn hn)) ?_)
    by_cases hl : KN kf (arrOf st) x < KN kf (arrOf st) (x - 1)
    · rw [decide_eq_true hl]
      exact wpI_pure (h x hax (Nat.le_of_lt hxn) hs' (.inr hl))
    · rw [decide_eq_false hl]
      exact wpI_pure ⟨rfl, rfl, hs'.step (Nat.le_of_not_lt hl)⟩
  · intro c st' ⟨hc, hst, hs'⟩
    cases hst; cases hc
    rw [Nat.max_eq_right han] at hs' ⊢
    exact h nrem han (Nat.le_refl _) hs' (.inl rfl)

theorem wpI_tail {st : SortSt} {n nrem : Nat} {Q : Option Nat → SortSt → Prop} (hO : LtOk prog w A Inv κ kf a₀) (hn : nrem ≤ a₀.size) (h1 : 1 ≤ n) (hnn : n ≤ nrem) (hB : SB κ a₀ st) (hs : DownTo kf (arrOf st) n)
    (h : ∀ m st', SB κ a₀ st' → 1 ≤ m → m ≤ nrem → UpTo kf (arrOf st') m → Q (some m) st') : wpI prog w A E Inv (tail3 n nrem) Q st := by
  unfold tail3
  have hsz : n ≤ (arrOf st).size := hB.size.symm ▸ Nat.le_trans hnn hn
  have hB' : SB κ a₀ (setArr st (mirror (arrOf st) 0 n ((n - 0) / 2))) := hB.arr (mirror_perm _ _ _ _)
  exact wpI_bind (wpI_reverse (wpI_bind (wpI_asc hO hn hnn hB' (hs.turn hsz) fun m hm1 hm2 hsm _ => wpI_pure (h m _ hB' (Nat.le_trans h1 hm1) hm2 hsm))))

inductive DescAt (kf : Value → Nat) (κ : SortKind) (a₀ : Array Keyed) (x : Nat) (c : DescSt) (st : SortSt) : Prop
  | mk (q : Nat) (hc : (none, x, q) = c) (hB : SB κ a₀ st) (hs : DownTo kf (arrOf st) x) (ht : Tie kf (arrOf st) x q)
theorem wpI_desc_step {st : SortSt} {x q : Nat} {Q : ForInStep DescSt → SortSt → Prop} (hx : x < a₀.size) (hB : SB κ a₀ st) (hs : DownTo kf (arrOf st) x) (ht : Tie kf (arrOf st) x q)
    (hl : KN kf (arrOf st) x < KN kf (arrOf st) (x - 1)) (h : ∀ st', DescAt kf κ a₀ (x + 1) (none, x + 1, 0) st' → Q (.yield (none, x + 1, 0)) st') :
    wpI prog w A E Inv (if q > 0 then do reverseSlice' (x - (q + 1)) x; pure (ForInStep.yield (none, x + 1, 0)) else pure (ForInStep.yield ((none, x + 1, 0) : DescSt))) Q st := by
  have hsz : x ≤ (arrOf st).size := hB.size.symm ▸ Nat.le_of_lt hx
  have hd := hs.step (Nat.le_of_lt hl)
  split
  · exact wpI_bind (wpI_reverse (wpI_pure (h _ ⟨0, rfl, hB.arr (mirror_perm _ _ _ _), hd.congr (KN_same hsz ht), .zero⟩)))
  · exact wpI_pure (h _ ⟨0, rfl, hB, hd, .zero⟩)
theorem wpI_desc {st : SortSt} {n nrem : Nat} {Q : DescSt → SortSt → Prop} (hO : LtOk prog w A Inv κ kf a₀) (hn : nrem ≤ a₀.size) (hnn : n ≤ nrem) (hB : SB κ a₀ st) (hs : DownTo kf (arrOf st) n)
    (h : ∀ m q st', SB κ a₀ st' → n ≤ m → m ≤ nrem → DownTo kf (arrOf st') m → Tie kf (arrOf st') m q → Q (none, m, q) st') :
    wpI prog w A E Inv (descLoop n nrem) Q st := by
  unfold descLoop
  refine wpI_range (I := DescAt kf κ a₀) ?_ ?_ ⟨0, rfl, hB, hs, .zero⟩
  · clear hB hs st
    intro x c st hax hxn ⟨q, hc, hB, hs, ht⟩
    cases hc
    have hx := Nat.lt_of_lt_of_le hxn hn
    refine wpI_bind (wpI_lt hO hB hx (a_pred hx) ?_)
    by_cases hl : KN kf (arrOf st) x < KN kf (arrOf st) (x - 1)
    · rw [decide_eq_true hl]
      dsimp only
      rw [if_pos rfl]
      exact wpI_desc_step hx hB hs ht hl fun _ hh => hh
    · rw [decide_eq_false hl]
      refine wpI_bind (wpI_lt hO hB (a_pred hx) hx ?_)
      by_cases hg : KN kf (arrOf st) (x - 1) < KN kf (arrOf st) x
      · rw [decide_eq_true hg]
        exact wpI_pure (h x q st hB hax (Nat.le_of_lt hxn) hs ht)
      · rw [decide_eq_false hg]
        exact wpI_pure ⟨q + 1, rfl, hB, hs.step (Nat.le_of_not_lt hg), ht.step (Nat.le_antisymm (Nat.le_of_not_lt hg) (Nat.le_of_not_lt hl))⟩
  · intro c st' ⟨q, hc, hB', hs', ht⟩
    cases hc
    rw [Nat.max_eq_right hnn] at hs' ht ⊢
    exact h nrem q st' hB' hnn (Nat.le_refl _) hs' ht

theorem wpI_descPart {st : SortSt} {n nrem : Nat} {Q : Option Nat → SortSt → Prop} (hO : LtOk prog w A Inv κ kf a₀) (hn : nrem ≤ a₀.size) (hnn : n + 1 ≤ nrem) (hB : SB κ a₀ st) (hs : DownTo kf (arrOf st) (n + 1))
    (h : ∀ m st', SB κ a₀ st' → 1 ≤ m → m ≤ nrem → UpTo kf (arrOf st') m → Q (some m) st') : wpI prog w A E Inv (descPart n nrem) Q st := by
  unfold descPart
  refine wpI_bind (wpI_rule (wpI_bind (wpI_desc hO hn hnn hB hs fun m q st' hB' hm1 hm2 hs' ht => ?_)))
  have hm := Nat.le_trans (Nat.succ_le_succ (Nat.zero_le n)) hm1
  have hsz : m ≤ (arrOf st').size := hB'.size.symm ▸ Nat.le_trans hm2 hn
  clear hB hs hm1 hnn
  dsimp only
  split
  · exact wpI_bind (wpI_reverse (wpI_tail hO hn hm hm2 (hB'.arr (mirror_perm _ _ _ _)) (hs'.congr (KN_same hsz ht)) h))
  · exact wpI_tail hO hn hm hm2 hB' hs' h

theorem wpI_run {st : SortSt} {nrem : Nat} {Q : Option Nat → SortSt → Prop} (hO : LtOk prog w A Inv κ kf a₀) (hn : nrem ≤ a₀.size) (h1 : 1 ≤ nrem) (hB : SB κ a₀ st)
    (h : ∀ m st', SB κ a₀ st' → 1 ≤ m → m ≤ nrem → UpTo kf (arrOf st') m → Q (some m) st') : wpI prog w A E Inv (countRun' 0 nrem) Q st := by
  rw [countRun0_eq]
  refine wpI_bind (wpI_asc hO hn h1 hB .one fun n hn1 hn2 hsn hor => ?_)
  dsimp only
  by_cases hnn : n = nrem
  · rw [if_pos (by simpa using hnn)]
    exact wpI_pure (h n st hB hn1 hn2 hsn)
  · rw [if_neg (by simpa using hnn)]
    have hlt := hor.resolve_left hnn
    have hlt' := Nat.lt_of_le_of_ne hn2 hnn
    have hx := Nat.lt_of_lt_of_le hlt' hn
    clear hor hnn
    by_cases hgt : n > 1
    · rw [if_pos hgt]
      refine wpI_bind (wpI_lt hO hB (Nat.lt_of_le_of_lt (Nat.zero_le n) hx) (a_pred hx) ?_)
      by_cases hr : KN kf (arrOf st) 0 < KN kf (arrOf st) (n - 1)
      · rw [decide_eq_true hr]
        exact wpI_pure (h n st hB hn1 hn2 hsn)
      · rw [decide_eq_false hr]
        have hall := hsn.flat hr
        have hd : DownTo kf (arrOf st) n := fun i j hij hj => by rw [hall i (Nat.zero_le i) (Nat.lt_of_le_of_lt hij hj), hall j (Nat.zero_le j) hj]; exact Nat.le_refl _
        exact wpI_bind (wpI_reverse (wpI_descPart hO hn hlt' (hB.arr (mirror_perm _ _ _ _)) ((hd.step (Nat.le_of_lt hlt)).congr (KN_same (hB.size.symm ▸ Nat.le_of_lt hx) hall)) h))
    · rw [if_neg hgt]
      cases Nat.le_antisymm hn1 (Nat.le_of_not_lt hgt)
      exact wpI_descPart hO hn hlt' hB (DownTo.one.step (Nat.le_of_lt hlt)) h
end
end

/- NQ -/
theorem offNQ : True := by
  w_top off
  exact trivial
section
open PySem PySem.W PyProof.Rows PySem.Spec PySem.Calls PySem.SeqAt
set_option Elab.async false
set_option maxRecDepth 100000
set_option maxHeartbeats 2000000
section
variable {prog : Program} {w : World} {A : Around} {E : Value → Shared → Prop} {Inv : Shared → Prop} {kf : Value → Nat} {a₀ : Array Keyed} {κ : SortKind}

theorem a_bs {l r k x : Nat} (h' : ¬ l ≥ r) (hrk : r ≤ k) (hm : r - l ≤ k - x) : l ≤ (l + r) / 2 ∧ (l + r) / 2 < r ∧ (l + r) / 2 ≤ k ∧ (l + r) / 2 - l ≤ k - (x + 1) ∧ (l + r) / 2 + 1 ≤ r ∧ r - ((l + r) / 2 + 1) ≤ k - (x + 1) := by
  have h := Nat.lt_of_not_le h'
  have h1 : l ≤ (l + r) / 2 := (Nat.le_div_iff_mul_le Nat.two_pos).mpr (Nat.mul_two l ▸ Nat.add_le_add_left (Nat.le_of_lt h) l)
  have h2 : (l + r) / 2 < r := (Nat.div_lt_iff_lt_mul Nat.two_pos).mpr (Nat.mul_two r ▸ Nat.add_lt_add_right h r)
  exact ⟨h1, h2, Nat.le_trans (Nat.le_of_lt h2) hrk, Nat.le_sub_one_of_lt (Nat.lt_of_lt_of_le (Nat.sub_lt_sub_right h1 h2) hm), h2,
    Nat.sub_le_sub_right (Nat.le_trans (Nat.sub_le_sub_left h1 r) hm) 1⟩
theorem a_meet {l r k x : Nat} (h : l ≤ r) (hk : k ≤ x) (hm : r - l ≤ k - x) : r = l := Nat.le_antisymm (Nat.le_of_sub_eq_zero (Nat.le_zero.mp (Nat.sub_eq_zero_of_le hk ▸ hm))) h
theorem a_sub {l k : Nat} (h : l ≤ k) : k - (k - l) = l := Nat.sub_sub_self h
noncomputable def Lo (kf : Value → Nat) (xs : Array Keyed) (k l : Nat) : Prop := ∀ i, i < l → KN kf xs i ≤ KN kf xs k
noncomputable def Hi (kf : Value → Nat) (xs : Array Keyed) (k r : Nat) : Prop := ∀ i, r ≤ i → i < k → KN kf xs k < KN kf xs i
theorem UpTo.left {xs : Array Keyed} {k m : Nat} (h : UpTo kf xs k) (hl : KN kf xs k < KN kf xs m) : Hi kf xs k m := fun i h1 h2 => Nat.lt_of_lt_of_le hl (h m i h1 h2)
theorem UpTo.right {xs : Array Keyed} {k m : Nat} (h : UpTo kf xs k) (hm : m < k) (hl : ¬ KN kf xs k < KN kf xs m) : Lo kf xs k (m + 1) := fun i h1 => Nat.le_trans (h i m (Nat.le_of_lt_succ h1) hm) (Nat.le_of_not_lt hl)
theorem UpTo.put {xs : Array Keyed} {k l : Nat} (hk : k < xs.size) (hlk : l ≤ k) (hs : UpTo kf xs k) (hlo : Lo kf xs k l) (hhi : Hi kf xs k l) : UpTo kf (bubble xs k (k - l)) (k + 1) := by
  intro i j hij hj
  rw [KN_bubble hk (Nat.sub_le k l), KN_bubble hk (Nat.sub_le k l), a_sub hlk]
  by_cases h1 : i = l
  · rw [if_pos h1]
    by_cases h2 : j = l
    · rw [if_pos h2]; exact Nat.le_refl _
    · have : l < j ∧ j ≤ k := ⟨Nat.lt_of_le_of_ne (h1 ▸ hij) (Ne.symm h2), Nat.le_of_lt_succ hj⟩
      rw [if_neg h2, if_pos this]
      exact Nat.le_of_lt (hhi (j - 1) (Nat.le_pred_of_lt this.1) (Nat.lt_of_lt_of_le (a_predlt (a_ltS this.1)) this.2))
  · rw [if_neg h1]
    by_cases h3 : l < i ∧ i ≤ k
    · have : l < j ∧ j ≤ k := ⟨Nat.lt_of_lt_of_le h3.1 hij, Nat.le_of_lt_succ hj⟩
      rw [if_pos h3, if_neg (Nat.ne_of_gt this.1), if_pos this]
      exact hs _ _ (Nat.sub_le_sub_right hij 1) (Nat.lt_of_lt_of_le (a_predlt (a_ltS this.1)) this.2)
    · have hil : i < l := Nat.lt_of_le_of_ne (Nat.le_of_not_lt fun h => h3 ⟨h, Nat.le_trans hij (Nat.le_of_lt_succ hj)⟩) h1
      rw [if_neg h3]
      by_cases h2 : j = l
      · rw [if_pos h2]; exact hlo i hil
      · rw [if_neg h2]
        by_cases h4 : l < j ∧ j ≤ k
        · rw [if_pos h4]; exact hs _ (j - 1) (Nat.le_trans (Nat.le_of_lt hil) (Nat.le_pred_of_lt h4.1)) (Nat.lt_of_lt_of_le (a_predlt (a_ltS h4.1)) h4.2)
        · rw [if_neg h4]
          exact hs _ _ hij (Nat.lt_of_lt_of_le (Nat.lt_of_le_of_ne (Nat.le_of_not_lt fun h => h4 ⟨h, Nat.le_of_lt_succ hj⟩) h2) hlk)
theorem UpTo.start {xs : Array Keyed} {ok n : Nat} (h : UpTo kf xs ok) : UpTo kf xs (min (max ok 1) n) := fun i j hij hj => by
  have hj' := Nat.lt_of_lt_of_le hj (Nat.min_le_left _ _)
  by_cases h1 : 1 ≤ ok
  · rw [Nat.max_eq_left h1] at hj'; exact h i j hij hj'
  · rw [Nat.max_eq_right (Nat.le_of_not_le h1)] at hj'; exact UpTo.one i j hij hj'

inductive BinAt {ρ : Type} (kf : Value → Nat) (st : SortSt) (k x : Nat) (c : Option ρ × Nat × Nat) (st' : SortSt) : Prop
  | mk (l r : Nat) (hc : (none, l, r) = c) (e : st = st') (hlr : l ≤ r) (hrk : r ≤ k) (hm : r - l ≤ k - x) (hlo : Lo kf (arrOf st) k l) (hhi : Hi kf (arrOf st) k r)
inductive BinEnd {ρ : Type} (kf : Value → Nat) (st : SortSt) (k : Nat) (c : Option ρ × Nat × Nat) (st' : SortSt) : Prop
  | mk (l r : Nat) (hc : (none, l, r) = c) (e : st = st') (hlk : l ≤ k) (hlo : Lo kf (arrOf st) k l) (hhi : Hi kf (arrOf st) k l)
structure BinSt {ρ : Type} (kf : Value → Nat) (κ : SortKind) (a₀ : Array Keyed) (n : Nat) (c : Option ρ × Unit) (st : SortSt) : Prop where
  hc : (none, ()) = c
  hB : SB κ a₀ st
  hs : UpTo kf (arrOf st) n

theorem wpI_bin {st : SortSt} {n ok : Nat} {Q : Bool → SortSt → Prop} (hO : LtOk prog w A Inv κ kf a₀) (hn : n ≤ a₀.size) (hok : ok ≤ n) (hB : SB κ a₀ st) (hs : UpTo kf (arrOf st) ok)
    (h : ∀ st', SB κ a₀ st' → UpTo kf (arrOf st') n → Q true st') : wpI prog w A E Inv (binarySort' 0 n ok) Q st := by
  rw [binarySort'_eq]
  simp only [Nat.zero_add]
  refine wpI_bind (wpI_mono (wpI_range (I := fun k => BinSt kf κ a₀ (min k n)) (Q := BinSt kf κ a₀ n) ?step ?fin ⟨rfl, hB, hs.start⟩) ?post)
  case post =>
    intro c st' ⟨hc, hB', hs'⟩
    cases hc
    exact wpI_pure (h st' hB' hs')
  case fin =>
    intro c st' ⟨hc, hB', hs'⟩
    exact ⟨hc, hB', by rwa [Nat.min_eq_right (Nat.le_max_right _ _)] at hs'⟩
  case step =>
    clear hB hs hok h st
    intro k c st hak hkn ⟨hc, hB, hs⟩
    cases hc
    rw [Nat.min_eq_left (Nat.le_of_lt hkn)] at hs
    have hk : k < a₀.size := Nat.lt_of_lt_of_le hkn hn
    rw [show min (k + 1) n = k + 1 from Nat.min_eq_left hkn]
    clear hak hkn hn
    refine wpI_bind (wpI_mono (wpI_range (I := BinAt kf st k) (Q := BinEnd kf st k) ?istep ?ifin
      ⟨0, k, rfl, rfl, Nat.zero_le k, Nat.le_refl k, Nat.le_refl k, fun i hi => absurd hi (Nat.not_lt_zero i), fun i h1 h2 => absurd h1 (Nat.not_le_of_lt h2)⟩) ?ipost)
    case ifin =>
      intro c st' ⟨l, r, hc, e, hlr, hrk, hm, hlo, hhi⟩
      cases a_meet hlr (Nat.le_max_right _ _) hm
      exact ⟨l, l, hc, e, hrk, hlo, hhi⟩
    case istep =>
      intro x c st' _ hxk ⟨l, r, hc, e, hlr, hrk, hm, hlo, hhi⟩
      cases e; cases hc
      dsimp only
      by_cases hge : l ≥ r
      · rw [if_pos hge]
        cases Nat.le_antisymm hlr hge
        exact wpI_pure ⟨l, l, rfl, rfl, hrk, hlo, hhi⟩
      · rw [if_neg hge]
        have ar := a_bs hge hrk hm
        refine wpI_bind (wpI_lt hO hB hk (Nat.lt_of_le_of_lt ar.2.2.1 hk) ?_)
        by_cases hl : KN kf (arrOf st) k < KN kf (arrOf st) ((l + r) / 2)
        · rw [decide_eq_true hl]
          exact wpI_pure ⟨l, (l + r) / 2, rfl, rfl, ar.1, ar.2.2.1, ar.2.2.2.1, hlo, hs.left hl⟩
        · rw [decide_eq_false hl]
          exact wpI_pure ⟨(l + r) / 2 + 1, r, rfl, rfl, ar.2.2.2.2.1, hrk, ar.2.2.2.2.2, hs.right (Nat.lt_of_lt_of_le ar.2.1 hrk) hl, hhi⟩
    case ipost =>
      intro c st' ⟨l, r, hc, e, hlk, hlo, hhi⟩
      cases e; cases hc
      show wpI prog w A E Inv (do moveDown' k l; pure (ForInStep.yield (none, ()))) _ _
      rw [moveDown'_eq]
      exact wpI_bind (wpI_modify (wpI_pure ⟨rfl, hB.arr (bubble_perm _ _ _), UpTo.put (hB.size.symm ▸ hk) hlk hs hlo hhi⟩))

noncomputable def SD (kf : Value → Nat) (a₀ : Array Keyed) (st : SortSt) : Prop := (arrOf st).Perm a₀ ∧ failedOf st = none ∧ pendingOf st = #[(0, a₀.size, 0)] ∧ UpTo kf (arrOf st) a₀.size
theorem SB.done {st : SortSt} (hB : SB κ a₀ st) (hs : UpTo kf (arrOf st) a₀.size) : SD kf a₀ (setPending st ((pendingOf st).push (0, a₀.size, 0))) :=
  ⟨hB.perm, hB.failed, by show (pendingOf st).push _ = _; rw [hB.pend]; rfl, hs⟩

inductive SrtAt {ρ : Type} (kf : Value → Nat) (κ : SortKind) (a₀ : Array Keyed) (x : Nat) (c : Option ρ × Nat) (st : SortSt) : Prop
  | zero (hx : x = 0) (hc : (none, 0) = c) (hB : SB κ a₀ st)
  | done (hx : 1 ≤ x) (hc : (none, a₀.size) = c) (hD : SD kf a₀ st)
structure SrtEnd {ρ : Type} (kf : Value → Nat) (a₀ : Array Keyed) (c : Option ρ × Nat) (st : SortSt) : Prop where
  hc : (none, a₀.size) = c
  hD : SD kf a₀ st
structure SrtLast {ρ : Type} (st : SortSt) (_x : Nat) (c : Option ρ × Unit) (st' : SortSt) : Prop where
  e : st = st'
  hc : (none, ()) = c
theorem minRun_small {n : Nat} (h2 : 2 ≤ n) (h64 : n < 64) : minRun' n n 0 = n := by
  obtain ⟨f, rfl⟩ : ∃ f, n = f + 1 := ⟨n - 1, (Nat.sub_add_cancel (Nat.le_of_lt h2)).symm⟩
  rw [minRun'_succ, if_pos h64]
theorem SrtAt.end' {ρ : Type} {x : Nat} {c : Option ρ × Nat} {st : SortSt} (h : SrtAt kf κ a₀ x c st) (hx : 1 ≤ x) : SrtEnd kf a₀ c st := by
  cases h with
  | zero h' => subst h'; exact absurd hx (Nat.not_succ_le_zero 0)
  | done _ hc hD => exact ⟨hc, hD⟩
theorem a_two' {n : Nat} (h : 2 ≤ n) : 1 ≤ max 0 (n + 1) := Nat.le_trans (Nat.succ_le_succ (Nat.zero_le n)) (Nat.le_max_right _ _)
theorem wpI_sort {st : SortSt} {Q : Unit → SortSt → Prop} (hO : LtOk prog w A Inv κ kf a₀) (hB : SB κ a₀ st) (h2 : 2 ≤ a₀.size) (h64 : a₀.size < 64)
    (h : ∀ st', (arrOf st').Perm a₀ → failedOf st' = none → UpTo kf (arrOf st') a₀.size → Q () st') : wpI prog w A E Inv sortRuns' Q st := by
  rw [sortRuns'_eq]
  refine wpI_bind (wpI_get ?_)
  dsimp only
  simp only [hB.size, minRun_small h2 h64]
  refine wpI_bind (wpI_mono (wpI_range (I := SrtAt kf κ a₀) (Q := SrtEnd kf a₀) ?step (fun c st' hh => hh.end' (by first | exact a_two' h2 | exact Nat.le_trans (Nat.le_of_lt h2) (Nat.le_max_right _ _))) (.zero rfl rfl hB)) ?post)
  case step =>
    clear hB h st
    intro x c st _ hx hh
    have h1 := Nat.le_of_lt h2
    cases hh with
    | zero hx hc hB =>
      cases hc
      dsimp only
      rw [if_neg (Nat.not_le_of_lt h1)]
      simp only [Nat.sub_zero, Nat.min_self, Nat.zero_add]
      refine wpI_bind (wpI_run hO (Nat.le_refl _) h1 hB fun m st hB hm1 hm2 hs => ?_)
      dsimp only
      split
      · refine wpI_bind (wpI_rule (wpI_bind (wpI_bin hO (Nat.le_refl _) hm2 hB hs fun st hB hs => ?_)))
        simp only [Bool.not_true, Bool.false_eq_true, if_false]
        refine wpI_bind (wpI_get ?_)
        rw [show (pendingOf st).back? = none by rw [hB.pend]; rfl]
        exact wpI_bind (wpI_modify (wpI_pure (.done (Nat.succ_le_succ (Nat.zero_le x)) rfl (hB.done hs))))
      · next hlt =>
        cases Nat.le_antisymm hm2 (Nat.le_of_not_lt hlt)
        refine wpI_bind (wpI_get ?_)
        rw [show (pendingOf st).back? = none by rw [hB.pend]; rfl]
        exact wpI_bind (wpI_modify (wpI_pure (.done (Nat.succ_le_succ (Nat.zero_le x)) rfl (hB.done hs))))
    | done hx1 hc hD =>
      cases hc
      dsimp only
      rw [if_pos (Nat.le_refl _)]
      exact wpI_pure ⟨rfl, hD⟩
  case post =>
    clear hB st
    intro c st ⟨hc, hD⟩
    cases hc
    dsimp only
    refine wpI_bind (wpI_mono (wpI_range (I := SrtLast st) (Q := SrtLast st 0) ?_ (fun _ _ hh => ⟨hh.1, hh.2⟩) ⟨rfl, rfl⟩) ?_)
    · intro x c st' _ _ ⟨e, hc⟩
      cases e; cases hc
      refine wpI_bind (wpI_get ?_)
      rw [if_pos (by rw [hD.2.2.1]; exact Nat.le_refl 1)]
      exact wpI_pure ⟨rfl, rfl⟩
    · intro c st' ⟨e, hc⟩
      cases e; cases hc
      exact wpI_pure (h _ hD.1 hD.2.1 hD.2.2.2)
end
end

/- NR -/
theorem offNR : True := by
  w_top off
  exact trivial
section
open PySem PySem.W PyProof.Rows PySem.Spec PySem.Calls PySem.SeqAt
set_option Elab.async false
set_option maxRecDepth 100000
set_option maxHeartbeats 2000000
section
variable {prog : Program} {w : World} {A : Around} {E : Value → Shared → Prop} {s : Shared} {kf : Value → Nat}

noncomputable def InOrder (kf : Value → Nat) (b : Bool) (out : List Value) : Prop := if b then out.Pairwise (fun x y => kf y ≤ kf x) else out.Pairwise (fun x y => kf x ≤ kf y)

theorem order_of {vs : List Value} {xs : Array Keyed} (hp : xs.Perm (pairsOf vs)) (hs : UpTo kf xs (pairsOf vs).size) (b : Bool) :
    ∃ out : List Value, out.Perm vs ∧ InOrder kf b out ∧ (if b then (xs.map (·.2)).reverse else xs.map (·.2)) = out.toArray := by
  have hpl := Array.perm_iff_toList_perm.mp hp
  rw [pairsOf_toList] at hpl
  have hmem : ∀ p ∈ xs.toList, p.1 = p.2 := fun p h => (mem_zip_self (hpl.mem_iff.mp h)).1
  have h1 : (xs.toList.map (·.2)).Perm vs := by
    have := hpl.map (·.2)
    rwa [List.map_snd_zip (Nat.le_refl _)] at this
  have h2 : (xs.toList.map (·.2)).Pairwise (fun x y => kf x ≤ kf y) := by
    rw [List.pairwise_map, List.pairwise_iff_getElem]
    intro i j hi hj hij
    have hsz : xs.size = (pairsOf vs).size := hp.size_eq
    have hj' : j < xs.size := by simpa using hj
    have hi' : i < xs.size := by simpa using hi
    have := hs i j (by exact Nat.le_of_lt (by assumption)) (by exact eqlt' (by assumption) (by assumption))
    unfold KN at this
    rw [getElem?_pos xs i hi', getElem?_pos xs j hj'] at this
    have e1 := hmem xs[i] (by simp)
    have e2 := hmem xs[j] (by simp)
    dsimp only at this
    rw [e1, e2] at this
    simpa using this
  cases b with
  | false => exact ⟨_, h1, by unfold InOrder; simpa using h2, by apply Array.ext'; simp⟩
  | true =>
    refine ⟨(xs.toList.map (·.2)).reverse, (List.reverse_perm _).trans h1, ?_, by apply Array.ext'; simp⟩
    unfold InOrder
    rw [if_pos rfl, List.pairwise_reverse]
    exact h2

noncomputable abbrev sortMid (s : Shared) (a : Addr) (vs : List Value) : Shared := { s with heap := ((s.heap.update a (Obj.mapSeq fun _ => #[])).push (seqObj "tuple" vs.toArray 0)).push (seqObj "list" #[] 0) }

theorem sort_tree {κ : SortKind} {a : Addr} {vs : List Value} {n : Nat} {b : Bool} {P : Fin → Shared → Prop} (ho : s.heap.get? a = some (seqObj "list" vs.toArray n)) (h64 : vs.length < 64)
    (hkk : 2 ≤ vs.length → ∀ Q : SortKind → Shared → Prop, Q κ (sortMid s a vs) → wpAny (model prog w) A (keyKind' vs.toArray) Q E (sortMid s a vs))
    (hO : LtOk prog w A (fun s' => s' = sortMid s a vs) κ kf (pairsOf vs))
    (h : ∀ out : List Value, out.Perm vs → InOrder kf b out → P (.done (.ret .none)) { s with heap := sortedHeap s.heap a vs out.toArray }) :
    wpAny (model prog w) A (Builtin.«list.sort» ⟨[.ref a], [(Str.ofString "reverse", .bool b)]⟩) P E s := by
  rw [list_sort_rev]
  have ha : a < s.heap.objs.size := Heap.lt_size ho
  refine bindD (fun _ hq9 => listItems_at ho rfl hq9) ?_
  refine bindD (fun _ hq9 => listUpdate_at ho rfl hq9) ?_
  obtain ⟨e1, ho1⟩ : ∃ e1, (s.heap.update a (Obj.mapSeq fun _ => #[])).get? a = some (seqObj "list" #[] e1) := ⟨_, get?_update_seq ho (fun _ => #[])⟩
  refine bindD (fun _ hq9 => seqEpoch_at ho1 rfl hq9) ?_
  refine bindD (fun _ hq9 => wpAny_newTuple hq9) ?_
  refine bindD (fun _ hq9 => wpAny_newList hq9) ?_
  refine wpAny_holding ?_
  have ho6 : (sortMid s a vs).heap.get? a = some (seqObj "list" #[] e1) := by
    show (((s.heap.update a (Obj.mapSeq fun _ => #[])).push (seqObj "tuple" vs.toArray 0)).push (seqObj "list" #[] 0)).get? a = _
    rw [Heap.get?_push_ne _ _ _ (by rw [size_push', Heap.size_update]; exact Nat.ne_of_lt (Nat.lt_succ_of_lt ha)), Heap.get?_push_ne _ _ _ (by rw [Heap.size_update]; exact Nat.ne_of_lt ha)]
    exact ho1
  show wpAny (model prog w) A _ P E (sortMid s a vs)
  have hsz : vs.toArray.size = vs.length := by simp
  have fin : ∀ st' : SortSt, (arrOf st').Perm (pairsOf vs) → UpTo kf (arrOf st') (pairsOf vs).size →
      P (.done (.ret .none)) { s with heap := sortedHeap s.heap a vs (if b then ((arrOf st').map (·.2)).reverse else (arrOf st').map (·.2)) } := by
    intro st' hp hs
    obtain ⟨out, h1, h2, h3⟩ := order_of hp hs b
    rw [h3]; exact h out h1 h2
  have hstart : (if b = true then (vs.toArray.zip vs.toArray).reverse else vs.toArray.zip vs.toArray).Perm (pairsOf vs) := by
    cases b with
    | false => exact Array.Perm.refl _
    | true => exact Array.perm_iff_toList_perm.mpr (by rw [if_pos rfl, Array.toList_reverse]; exact List.reverse_perm _)
  dsimp only
  have step : ∀ t : Sem Fin, wpAny (model prog w) A t P E (sortMid s a vs) → wpAny (model prog w) A (if b = true then (do let _ ← rule "list.sort.reverse"; t) else t) P E (sortMid s a vs) := by
    intro t ht
    split
    · exact wpAny_bind (wpAny_rule ht)
    · exact ht
  refine step _ ?_
  by_cases h2 : vs.toArray.size < 2
  · rw [if_pos h2, if_pos h2]
    refine wpAny_bind (wpAny_pure ?_)
    rw [StateT.run_pure]
    refine bindD (fun _ hq9 => wpAny_pure hq9) ?_
    dsimp only
    refine bindD (fun _ hq9 => seqEpoch_at ho6 rfl hq9) ?_
    refine wpAny_bind (listUpdate_at ho6 rfl ?_ (hsz2 := by
      cases b
      · simp only [Bool.false_eq_true, if_false, Array.size_map]; show (vs.toArray.zip vs.toArray).size ≤ _; rw [Array.size_zip, sizeLine_eq]; omega
      · simp only [if_true, Array.size_reverse, Array.size_map]; show (vs.toArray.zip vs.toArray).reverse.size ≤ _; rw [Array.size_reverse, Array.size_zip, sizeLine_eq]; omega))
    simp only [bne_self_eq_false, Bool.false_eq_true, if_false]
    refine wpAny_pure (fin (SortSt.mk' general' (if b = true then (vs.toArray.zip vs.toArray).reverse else vs.toArray.zip vs.toArray) #[] 7 none) hstart ?_)
    intro i j hij hj
    have : i = j := by rw [pairsOf_size] at hj; omega
    subst this; exact Nat.le_refl _
  · rw [if_neg h2, if_neg h2]
    have h2' : 2 ≤ vs.length := by exact Nat.le_of_not_lt (by assumption)
    refine bindD (fun _ hq9 => hkk h2' _ hq9) ?_
    have hmain := wpI_sort (E := E) (prog := prog) (w := w) (A := A) (Inv := fun s' => s' = sortMid s a vs) (κ := κ) (kf := kf) (a₀ := pairsOf vs)
      (st := SortSt.mk' κ (if b = true then (vs.toArray.zip vs.toArray).reverse else vs.toArray.zip vs.toArray) #[] 7 none)
      (Q := fun _ st' => (arrOf st').Perm (pairsOf vs) ∧ failedOf st' = none ∧ UpTo kf (arrOf st') (pairsOf vs).size)
      hO ⟨hstart, rfl, rfl, rfl⟩ (by rw [pairsOf_size]; exact h2') (by rw [pairsOf_size]; exact h64) (fun st' a1 a2 a3 => ⟨a1, a2, a3⟩)
    refine bindD (fun _ hq9 => wpAny_mono (hmain _ rfl) hq9 fun _ _ e => e) ?_
    rintro ⟨⟨⟩, st'⟩ s' ⟨hs', hp, hf, hs⟩
    subst hs'
    dsimp only
    refine bindD (fun _ hq9 => seqEpoch_at ho6 rfl hq9) ?_
    refine wpAny_bind (listUpdate_at ho6 rfl ?_ (hsz2 := by
      have e : (Array.map (fun x => x.snd) (arrOf st')).size ≤ sizeLine + 1 := by
        refine Nat.le_trans (Nat.le_of_eq ((Array.size_map ..).trans (hp.size_eq.trans (pairsOf_size _)))) ?_; rw [sizeLine_eq]; exact lel (by assumption) (by exact rfl)
      split
      · rw [Array.size_reverse]; exact e
      · exact e))
    rw [hf]
    simp only [bne_self_eq_false, Bool.false_eq_true, if_false]
    exact wpAny_pure (fin st' hp hs)

noncomputable abbrev sortPre (s : Shared) (vs : List Value) : Shared := { s with heap := ((s.heap.push (seqObj "list" #[] 0)).update s.heap.objs.size (Obj.mapSeq (· ++ vs.toArray))).push (seqObj "list" vs.toArray 0) }

theorem sorted_any {κ : SortKind} {l : Addr} {vs : List Value} {b : Bool} {Q : Value → Shared → Prop} (hl : s.heap.IsList l vs.toArray) (h64 : vs.length < 64)
    (hkk : 2 ≤ vs.length → ∀ (A' : Around) (E' : Value → Shared → Prop) (Q : SortKind → Shared → Prop), A'.units ≤ A.units + 4 → Q κ (sortMid (sortPre s vs) (s.heap.objs.size + 1) vs) → wpAny (model prog w) A' (keyKind' vs.toArray) Q E' (sortMid (sortPre s vs) (s.heap.objs.size + 1) vs))
    (hO : ∀ A' : Around, A'.units ≤ A.units + 4 → LtOk prog w A' (fun s' => s' = sortMid (sortPre s vs) (s.heap.objs.size + 1) vs) κ kf (pairsOf vs))
    (h : ∀ out : List Value, out.Perm vs → InOrder kf b out → Q (.ref (s.heap.objs.size + 1)) { s with heap := sortedAll s.heap vs out.toArray }) :
    wpAny (model prog w) A (call (.builtin "sorted") [.ref l] [(Str.ofString "reverse", .bool b)]) Q E s := by
  refine call_function_entry_kw kind_sorted plain_sorted entry_sorted (args_sorted_rev _ _) ?_
  unfold Builtin.«sorted»
  refine bindD (m := checkCount "sorted" 1 1 _) (fun _ hq9 => wpAny_pure hq9) ?_
  refine bindD (fun _ hq9 => collect_list hl hq9 (by rw [sizeLine_eq]; exact lel (by assumption) (by exact rfl))) ?_
  refine bindD (fun _ hq9 => wpAny_newList hq9 (by rw [sizeLine_eq]; exact lel (by assumption) (by exact rfl))) ?_
  have hsz : ((s.heap.push (seqObj "list" #[] 0)).update s.heap.objs.size (Obj.mapSeq (· ++ vs.toArray))).objs.size = s.heap.objs.size + 1 := by
    rw [Heap.size_update, size_push']
  have hoL : (sortPre s vs).heap.get? (s.heap.objs.size + 1) = some (seqObj "list" vs.toArray 0) := by
    rw [← hsz]; exact Heap.get?_push_size _ rfl
  show wpAny _ _ _ _ _ (sortPre s vs)
  rw [hsz]
  refine wpAny_bind (wpAny_holding (wpAny_call_entry_kw slot_list_sort ⟨_, hoL, rfl⟩ entry_list_sort (sort_tree (s := sortPre s vs) (kf := kf) hoL h64 (fun h2 Q hq => hkk h2 _ _ Q ?_ hq) (hO _ ?_) fun out a1 a2 => ⟨_, rfl, ?_⟩) (args_list_sort_rev _ _)))
  · exact u24 _
  · exact u24 _
  · exact wpAny_pure ⟨_, rfl, h out a1 a2⟩
end
end

/- NS -/
theorem offNS : True := by
  w_top off
  exact trivial
section
open PySem PySem.W PyProof.Rows PySem.Spec PySem.Calls PySem.SeqAt
set_option Elab.async false
set_option maxRecDepth 100000
set_option maxHeartbeats 2000000
section
variable {prog : Program} {w : World} {A : Around} {E : Value → Shared → Prop} {s : Shared}

theorem mapM_const {α : Type} {c : α} {f : Value → Sem α} : ∀ (vs : List Value) (Q : List α → Shared → Prop), (∀ v ∈ vs, ∀ Q' : α → Shared → Prop, Q' c s → wpAny (model prog w) A (f v) Q' E s) → Q (vs.map fun _ => c) s → wpAny (model prog w) A (vs.mapM f) Q E s
  | [], Q, _, h => by rw [List.mapM_nil]; exact wpAny_pure h
  | v :: vs, Q, hf, h => by
    rw [List.mapM_cons]
    refine wpAny_bind (hf v (.head _) _ ?_)
    refine wpAny_bind (mapM_const vs _ (fun u hu => hf u (.tail _ hu)) ?_)
    exact wpAny_pure h

theorem firstOfTuple'_eq (v : Value) : firstOfTuple' v = (do
    if (← typeOf v) != .type "tuple" then return none
    return (← Builtin.List.listItems v)[0]?) := rfl

theorem keyKind_one {T : Value} {vs : List Value} (h2 : 2 ≤ vs.length) (hT : ∀ v ∈ vs, ∀ Q' : Value → Shared → Prop, Q' T s → wpAny (model prog w) A (typeOf v) Q' E s) (hne : (T != Value.type "tuple") = true)
    {Q : SortKind → Shared → Prop} (h : Q oneType' s) : wpAny (model prog w) A (keyKind' vs.toArray) Q E s := by
  obtain ⟨v₁, v₂, rest, rfl⟩ : ∃ v₁ v₂ rest, vs = v₁ :: v₂ :: rest := by
    match vs, h2 with
    | v₁ :: v₂ :: rest, _ => exact ⟨v₁, v₂, rest, rfl⟩
  rw [keyKind'_eq, List.mapM_toArray]
  refine wpAny_bind (wpAny_map (mapM_const (c := (none : Option Value)) _ _ (fun v hv Q' hq => ?_) ?_))
  · rw [firstOfTuple'_eq]
    refine wpAny_bind (hT v hv _ ?_)
    rw [if_pos hne]
    exact wpAny_pure hq
  · rw [if_neg (by simp), if_neg (by simp)]
    rw [oneTypeOnly'_eq, List.mapM_toArray]
    refine wpAny_bind (wpAny_bind (wpAny_map (mapM_const (c := T) _ _ hT ?_)))
    have hall : ((List.map (fun _ => T) (v₁ :: v₂ :: rest)).toArray.all fun x => x == T) = true := by
      simp only [List.all_toArray, List.all_map, List.all_eq_true]
      intro _ _
      exact beq_self_eq_true T
    have h0 : (List.map (fun _ => T) (v₁ :: v₂ :: rest)).toArray[0]? = some T := by simp
    rw [h0]
    simp only [hall, if_true]
    exact wpAny_pure (wpAny_pure (by simpa using h))

theorem nst_type {h : Heap} {v : Value} {c : Nat} (n : Nst h v c) (s : Shared) (hs : s.heap = h) : s.TypeIs v "list" := by
  cases n with
  | mk hl _ _ => obtain ⟨o, ho, hc, _⟩ := hl; exact ⟨o, hs ▸ ho, hc⟩

theorem oneLt_nst {v u : Value} {c d : Nat} {Q : Bool → Shared → Prop} (hc : c < 2 ^ 12) (hd : d < 2 ^ 12) (n₁ : Nst s.heap v c) (n₂ : Nst s.heap u d) (hu : A.units + 5 < cLine) (h : Q (decide (c < d)) s) :
    wpAny (model prog w) A (oneLt' true v u) Q E s := by
  rw [oneLt'_eq]
  simp only [if_true]
  refine wpAny_bind (wpAny_cRoomFor (by exact rm0 (by assumption)) ?_)
  refine wpAny_bind (wpAny_callSpecialIfBound?_slot (nst_type n₁ s rfl) F.slot_list_lt (callOp (op := .Lt) (.inl rfl) hc hd n₁ n₂ hu ?_))
  exact wpAny_truthy_bool h
end

open Classical in
noncomputable def numIn (ps : List (Value × Nat)) (v : Value) : Nat := if h : ∃ p ∈ ps, p.1 = v then (choose h).2 else 0
theorem numIn_eq {ps : List (Value × Nat)} (hu : ∀ p ∈ ps, ∀ q ∈ ps, p.1 = q.1 → p.2 = q.2) {p : Value × Nat} (hp : p ∈ ps) : numIn ps p.1 = p.2 := by
  unfold numIn
  have h : ∃ q ∈ ps, q.1 = p.1 := ⟨p, hp, rfl⟩
  rw [dif_pos h]
  have := Classical.choose_spec h
  exact hu _ this.1 _ hp this.2

theorem nums_uniq {h : Heap} {ps : List (Value × Nat)} (hn : ∀ p ∈ ps, p.2 < 2 ^ 12 ∧ Nst h p.1 p.2) : ∀ p ∈ ps, ∀ q ∈ ps, p.1 = q.1 → p.2 = q.2 := fun p hp q hq e => by
  have a := hn p hp
  have b := hn q hq
  rw [e] at a
  exact a.2.uniq a.1 b.1 b.2

theorem perm_pairs {ps : List (Value × Nat)} (hu : ∀ p ∈ ps, ∀ q ∈ ps, p.1 = q.1 → p.2 = q.2) {out : List Value} (hp : out.Perm (ps.map (·.1))) : (out.map fun v => (v, numIn ps v)).Perm ps := by
  have h1 := hp.map fun v => (v, numIn ps v)
  rw [List.map_map] at h1
  have : ps.map ((fun v => (v, numIn ps v)) ∘ fun x => x.1) = ps := by
    conv => rhs; rw [← List.map_id ps]
    exact List.map_congr_left fun p hp => by
      show (p.1, numIn ps p.1) = p
      rw [numIn_eq hu hp]
  rwa [this] at h1

section
variable {prog : Program} {w : World} {A : Around} {E Q : Value → Shared → Prop} {s : Shared} {h₀ : Heap} {L : Addr} {m : Str → Option Value} {news : List (Addr × Obj)}
theorem sortMid_old {a b : Addr} {vs : List Value} {o : Obj} (hb : s.heap.get? b = some o) (ha : s.heap.objs.size + 1 = a) : (sortMid (sortPre s vs) a vs).heap.get? b = some o := by
  subst ha
  have hlt : b < s.heap.objs.size := Heap.lt_size hb
  show (((((s.heap.push (seqObj "list" #[] 0)).update s.heap.objs.size (Obj.mapSeq (· ++ vs.toArray))).push (seqObj "list" vs.toArray 0)).update (s.heap.objs.size + 1) (Obj.mapSeq fun _ => #[])).push _ |>.push _).get? b = some o
  refine Heap.get?_push_of_some _ (Heap.get?_push_of_some _ ?_)
  rw [Heap.get?_update_ne _ _ _ _ (Nat.ne_of_lt (Nat.lt_succ_of_lt hlt))]
  refine Heap.get?_push_of_some _ ?_
  rw [Heap.get?_update_ne _ _ _ _ (Nat.ne_of_lt hlt)]
  exact Heap.get?_push_of_some _ hb

theorem sortedRev {l : Addr} {ps : List (Value × Nat)} (F : Fr h₀ L s.heap m) (N : News h₀ L s.heap news) (hl : s.heap.IsList l (ps.map (·.1)).toArray) (hp : ∀ p ∈ ps, NstK h₀ news p.1 p.2) (h64 : ps.length < 64) (hu : A.units + 20 < cLine)
    (h : ∀ (b : Addr) (qs : List (Value × Nat)) (n : Nat) (h' : Heap), Fr h₀ L h' m → News h₀ L h' ((b, W.listOf (qs.map (·.1)).toArray n) :: news) → (∀ p ∈ news, p.1 < b) → qs.Perm ps → qs.Pairwise (fun p q => q.2 ≤ p.2) → Q (.ref b) { s with heap := h' }) :
    wpAny (model prog w) A (call (.builtin "sorted") [.ref l] [(Str.ofString "reverse", .bool true)]) Q E s := by
  have hn0 : ∀ p ∈ ps, p.2 < 2 ^ 12 ∧ Nst s.heap p.1 p.2 := fun p hq => ⟨(hp p hq).lt, (hp p hq).now F N fun _ h => h⟩
  have hn : ∀ p ∈ ps, p.2 < 2 ^ 12 ∧ Nst (sortMid (sortPre s (ps.map (·.1))) (s.heap.objs.size + 1) (ps.map (·.1))).heap p.1 p.2 := fun p hq => ⟨(hn0 p hq).1, (hn0 p hq).2.keeps fun b o e => sortMid_old e rfl⟩
  have hq := nums_uniq hn0
  refine sorted_any (κ := oneType') (kf := numIn ps) hl (by simpa using h64) (fun h2 A' E' Q' hu' hQ' => ?_) (fun A' hu' p q mp mq E' s' Q' hs' hQ' => ?_) (fun out h1 h2 => ?_)
  · refine keyKind_one (T := .type "list") h2 (fun v hv Q'' hq'' => ?_) (by decide) hQ'
    obtain ⟨p, hp', rfl⟩ := List.mem_map.mp hv
    exact wpAny_typeOf (nst_type (hn p hp').2 _ rfl) hq''
  · subst hs'
    rw [keyLt'_oneType]
    rw [pairsOf_toList] at mp mq
    obtain ⟨p', hp', e1⟩ := List.mem_map.mp (mem_zip_self mp).2
    obtain ⟨q', hq', e2⟩ := List.mem_map.mp (mem_zip_self mq).2
    have z := hQ' _ rfl
    rw [← e1, ← e2] at z ⊢
    rw [numIn_eq hq hp', numIn_eq hq hq'] at z
    exact oneLt_nst (hn p' hp').1 (hn q' hq').1 (hn p' hp').2 (hn q' hq').2 (rmt (by assumption) (by assumption) (by exact rfl)) z
  · obtain ⟨e, he⟩ := sortedAll_at s.heap (ps.map (·.1)) out.toArray
    have hm : (out.map fun v => (v, numIn ps v)).map (·.1) = out := by rw [List.map_map]; exact List.map_id out
    refine h _ (out.map fun v => (v, numIn ps v)) e _ (F.kept fun _ _ => sortedAll_old) ?_ (fun p hp => Nat.lt_succ_of_lt (Heap.lt_size (N p hp).1)) (perm_pairs hq h1) ?_
    · rw [hm]; exact N.kept_cons F (fun _ _ => sortedAll_old) (Nat.le_succ _) he
    · rw [List.pairwise_map]
      unfold InOrder at h2
      rw [if_pos rfl] at h2
      exact h2
end
end

/- NSa -/
theorem offNSa : True := by
  w_top off
  exact trivial
section
open PySem PySem.W PyProof.Rows PySem.Spec PySem.Calls PySem.SeqAt PyProof.V
set_option Elab.async false
set_option maxRecDepth 100000
set_option maxHeartbeats 2000000
section
variable {prog : Program} {w : World} {A : Around} {E Q : Value → Shared → Prop} {s : Shared}
theorem item_last {value slice : PySem.Expr} {l : Addr} {vs : List Value} {v : Value} {u : Tok} (hl : s.heap.IsList l (vs ++ [v]).toArray) (h : Q v s)
    (hs : subscripted slice false (.ref l) (.int (-1) u) = operate [.ref l, .int (-1) u] (getItem (.ref l) (.int (-1) u)) := by with_unfolding_all rfl) :
    wpAny (model prog w) A (subscriptTail value slice (.ref l) (.int (-1) u)) Q E s :=
  tail_any hl.typeIs slot_list_getitem.lookup (wpAny_getItem_list_neg hl (by decide) (by simp; exact Int.le_add_of_nonneg_left (Int.natCast_nonneg _)) (by decide) (by
    have e : (-1 + ((vs ++ [v]).toArray.size : Int)).toNat = vs.length := by simp; exact neg1 _
    rw [e]; simp) h) hs
end
section
variable {prog : Program} {w : World} {A : Around} {h₀ : Heap} {news : List (Addr × Obj)} {s : Shared} {E : Value → Shared → Prop}
theorem iter_gm {Q : Flow → Shared → Prop} {env : Env} {x : Str} {body : List Stmt} {l : Addr} {lo : Obj} {vs : List Value} {nn : Nat} {m₀ : Str → Option Value} (st : List Str) (J : Nat → (Str → Option Value) → List (Addr × Obj) → Prop)
    (hh : A.handled = none) (hc : lo.cls = .type "list") (hd : lo.data = .seq vs.toArray nn) (hget : ∀ i m nx, J i m nx → ∀ h, Has h₀ nx h → h.get? l = some lo) (hlL : l ≠ env.locals)
    (F : Fr h₀ env.locals s.heap m₀) (N : News h₀ env.locals s.heap news) (hj : J 0 m₀ news)
    (turn : ∀ I i v u news₁ h tk own, vs[i]? = some v → J i u news₁ → (∀ p ∈ own, p.1 = I) → (∃ o, (I, o) ∈ own) → (∀ p ∈ news₁, p.1 ≠ I) → Fr h₀ env.locals h (fun y => if y = x then some v else over st u m₀ y) → News h₀ env.locals h (news₁ ++ own) →
      wpAny (model prog w) A (execs body env) (PostG h₀ env.locals I own (fun m' nx => (∀ z, z ∉ x :: st → m' z = m₀ z) ∧ J (i + 1) m' nx) s Q) E { s with heap := h, toks := tk })
    (done : ∀ u news₁ h tk, J vs.length u news₁ → Fr h₀ env.locals h (over (x :: st) u m₀) → News h₀ env.locals h news₁ → Q .next { s with heap := h, toks := tk }) :
    wpAny (model prog w) A (pyIter (.ref l)) (fun it s₂ => LoopAtV prog w A h₀ env x body Q E it s₂) E s := by
  have hol : s.heap.get? l = some lo := hget 0 m₀ news hj _ (has_of F N fun _ h => h)
  have hls : s.heap.IsList l vs.toArray := ⟨_, hol, hc, nn, hd⟩
  refine wpAny_pyIter_list hls ?_
  refine loop_gm (I := s.heap.objs.size) (l := l) (lo := lo) (vs := vs) (nn := nn) (i0 := 0) (m₀ := m₀) (news := news) st J hh hc hd hget hlL ?_ (Nat.ne_of_lt (Heap.lt_size hol)) ⟨_, Heap.get?_push_size _ rfl, rfl, rfl⟩ (next_is_new F) (fun p hp => Nat.ne_of_lt (Heap.lt_size (N p hp).1)) (Nat.zero_le _) (F.push _) (fun p hp => ⟨Heap.get?_push_of_some _ (N p hp).1, (N p hp).2⟩) hj ?_ ?_
  · exact fun e => absurd F.ns.lt (e ▸ Nat.lt_irrefl _)
  · intro i v u news₁ h tk own hv hJ ho hoI hnI F1 N1
    rw [Nat.zero_add] at hv
    exact turn _ i v u news₁ h tk own hv hJ ho hoI hnI F1 N1
  · exact done
end
theorem ints_get {ws : List Value} {ks : List Int} (I : IntsAre ws ks) : ∀ {j : Nat} {v : Value}, ws[j]? = some v → ∃ k t, v = .int k t ∧ ks[j]? = some k := by
  induction I with
  | nil => intro j v h; cases h
  | cons n t r ih =>
    intro j v h
    cases j with
    | zero => cases h; exact ⟨n, t, rfl, rfl⟩
    | succ j => exact ih (j := j) (by simpa using h)
theorem News.mono' {h₀ h : Heap} {L : Addr} {a b : List (Addr × Obj)} (N : News h₀ L h a) (hs : ∀ p ∈ b, p ∈ a) : News h₀ L h b := fun p hp => N p (hs p hp)

structure SetR where
  v : Value
  c : Nat
  t : Tok
  d : Addr
  ds : List (Value × Nat)
  n : Nat
noncomputable def Good (tl : List (Addr × Obj)) (rs : List SetR) : Prop :=
  ∀ r ∈ rs, NstK eH tl r.v r.c ∧ (r.d, W.listOf (r.ds.map (·.1)).toArray r.n) ∈ tl ∧ r.ds.length ≤ 3 ∧ (∀ p ∈ r.ds, NstK eH tl p.1 p.2) ∧ (∀ b, r.c.testBit b = true ↔ ∃ p ∈ r.ds, p.2 = b)
noncomputable def Bd (rs : List SetR) : Prop := (∀ r, rs[0]? = some r → r.c = 0) ∧ (∀ r, rs[1]? = some r → r.c ≤ 1) ∧ (∀ r, rs[2]? = some r → r.c ≤ 3) ∧ (∀ r, rs[3]? = some r → r.c ≤ 11)

noncomputable def sumTo (cs : List Nat) : Nat → Nat
  | 0 => 0
  | k + 1 => if k ∈ cs then 2 ^ k + sumTo cs k else sumTo cs k
theorem sumTo_lt (cs : List Nat) : ∀ k, sumTo cs k < 2 ^ k
  | 0 => Nat.one_pos
  | k + 1 => by
    have := sumTo_lt cs k
    have h : 2 ^ (k + 1) = 2 ^ k + 2 ^ k := by rw [Nat.pow_succ]; exact Nat.mul_two _
    unfold sumTo
    split
    · rw [h]; exact Nat.add_lt_add_left this _
    · exact Nat.lt_of_lt_of_le this (h ▸ Nat.le_add_left _ _)
theorem sumTo_bit (cs : List Nat) : ∀ k b, (sumTo cs k).testBit b = true ↔ b < k ∧ b ∈ cs
  | 0, b => by simp [sumTo]
  | k + 1, b => by
    have ih := sumTo_bit cs k b
    have hlt := sumTo_lt cs k
    unfold sumTo
    rcases Nat.lt_trichotomy b k with h | h | h
    · split
      · rw [Nat.testBit_two_pow_add_gt h, ih]; constructor
        · rintro ⟨_, h2⟩; exact ⟨Nat.lt_succ_of_lt h, h2⟩
        · rintro ⟨_, h2⟩; exact ⟨h, h2⟩
      · rw [ih]; constructor
        · rintro ⟨_, h2⟩; exact ⟨Nat.lt_succ_of_lt h, h2⟩
        · rintro ⟨_, h2⟩; exact ⟨h, h2⟩
    · subst h
      split
      · rename_i hm
        rw [Nat.testBit_two_pow_add_eq, Nat.testBit_lt_two_pow hlt]
        simp [hm]
      · rename_i hm
        rw [ih]; simp [hm]
    · have h0 : ∀ x, x < 2 ^ (k + 1) → x.testBit b = false := fun x hx => Nat.testBit_lt_two_pow (Nat.lt_of_lt_of_le hx (Nat.pow_le_pow_right (by exact Nat.le_of_ble_eq_true rfl) (by assumption)))
      have hs := sumTo_lt cs (k + 1)
      unfold sumTo at hs
      rw [h0 _ hs]
      constructor
      · intro h'; cases h'
      · rintro ⟨h', _⟩; exact absurd (Nat.le_of_lt_succ h') (Nat.not_le_of_lt h)
theorem sumTo_mono {cs ds : List Nat} (h : ∀ x ∈ cs, x ∈ ds) : ∀ k, sumTo cs k ≤ sumTo ds k
  | 0 => Nat.le_refl _
  | k + 1 => by
    have := sumTo_mono h k
    unfold sumTo
    by_cases hk : k ∈ cs
    · rw [if_pos hk, if_pos (h k hk)]; exact Nat.add_le_add_left this _
    · rw [if_neg hk]
      split
      · exact Nat.le_trans this (Nat.le_add_left _ _)
      · exact this

noncomputable def pows (cs : List Nat) : Nat → List Int
  | 0 => []
  | k + 1 => if k ∈ cs then pows cs k ++ [2 ^ k] else pows cs k
theorem pows_sum (cs : List Nat) : ∀ k, (pows cs k).sum = ((sumTo cs k : Nat) : Int)
  | 0 => rfl
  | k + 1 => by
    unfold pows sumTo
    split
    · rw [List.sum_append, pows_sum cs k]; simp; exact Int.add_comm _ _
    · exact pows_sum cs k
theorem ints_rk : ∀ rk : List SetR, IntsAre (rk.map fun r => Value.int r.c r.t) ((rk.map (·.c)).map fun c => ((c : Nat) : Int))
  | [] => .nil
  | _ :: rk => .cons _ _ (ints_rk rk)
theorem ints_snoc {k : Int} {t : Tok} {ws : List Value} {ks : List Int} (I : IntsAre ws ks) : IntsAre (ws ++ [.int k t]) (ks ++ [k]) := by
  induction I with
  | nil => exact .cons _ _ .nil
  | cons _ _ _ ih => exact .cons _ _ ih
theorem any_cast (cs : List Nat) (j : Nat) : ((cs.map fun c => ((c : Nat) : Int)).any (· == (j : Int))) = decide (j ∈ cs) := by
  rw [Bool.eq_iff_iff, List.any_eq_true, decide_eq_true_iff]
  constructor
  · rintro ⟨x, hx, e⟩
    obtain ⟨c, hc, rfl⟩ := List.mem_map.mp hx
    have e2 : ((c : Nat) : Int) = (j : Int) := by simpa using e
    have : c = j := Int.ofNat.inj e2
    exact this ▸ hc
  · intro h
    exact ⟨_, List.mem_map.mpr ⟨j, h, rfl⟩, by simp⟩

theorem desc_eq {l₁ : List Nat} : ∀ {l₂ : List Nat}, l₁.Pairwise (· > ·) → l₂.Pairwise (· > ·) → (∀ x, x ∈ l₁ ↔ x ∈ l₂) → l₁ = l₂ := by
  induction l₁ with
  | nil =>
    intro l₂ _ _ h
    cases l₂ with
    | nil => rfl
    | cons y r => exact absurd ((h y).mpr (.head _)) (by simp)
  | cons x l ih =>
    intro l₂ h1 h2 h
    cases l₂ with
    | nil => exact absurd ((h x).mp (.head _)) (by simp)
    | cons y r =>
      obtain ⟨a1, a2⟩ := List.pairwise_cons.mp h1
      obtain ⟨b1, b2⟩ := List.pairwise_cons.mp h2
      have e : x = y := by
        rcases List.mem_cons.mp ((h x).mp (.head _)) with e | e
        · exact e
        rcases List.mem_cons.mp ((h y).mpr (.head _)) with e' | e'
        · exact e'.symm
        exact absurd (Nat.lt_trans (a1 y e') (b1 x e)) (Nat.lt_irrefl _)
      subst e
      congr 1
      refine ih a2 b2 fun z => ?_
      constructor
      · intro hz
        rcases List.mem_cons.mp ((h z).mp (.tail _ hz)) with e | e
        · exact absurd (e ▸ a1 z hz) (Nat.lt_irrefl _)
        · exact e
      · intro hz
        rcases List.mem_cons.mp ((h z).mpr (.tail _ hz)) with e | e
        · exact absurd (e ▸ b1 z hz) (Nat.lt_irrefl _)
        · exact e

theorem ddGo_nodup : ∀ (ps acc : List (Value × Nat)), (acc.map (·.2)).Nodup → ((ddGo acc ps).map (·.2)).Nodup
  | [], _, h => h
  | p :: r, acc, h => by
    rw [ddGo]
    split
    · exact ddGo_nodup r acc h
    · rename_i hn
      refine ddGo_nodup r _ ?_
      rw [List.map_append, List.nodup_append]
      refine ⟨h, by simp, ?_⟩
      intro x hx y hy e
      simp only [List.map_cons, List.map_nil, List.mem_singleton] at hy
      subst hy
      subst e
      obtain ⟨q, hq, e⟩ := List.mem_map.mp hx
      exact hn (List.any_eq_true.mpr ⟨q, hq, by simpa using e⟩)
theorem ddGo_mem : ∀ (ps acc : List (Value × Nat)) (x : Nat), x ∈ (ddGo acc ps).map (·.2) ↔ x ∈ acc.map (·.2) ∨ x ∈ ps.map (·.2)
  | [], acc, x => by simp [ddGo]
  | p :: r, acc, x => by
    rw [ddGo]
    split
    · rename_i hn
      rw [ddGo_mem r acc x]
      obtain ⟨q, hq, e⟩ := List.any_eq_true.mp hn
      have e' : q.2 = p.2 := by simpa using e
      constructor
      · rintro (h | h)
        · exact .inl h
        · exact .inr (.tail _ h)
      · rintro (h | h)
        · exact .inl h
        · rcases List.mem_cons.mp h with h | h
          · exact .inl (List.mem_map.mpr ⟨q, hq, by rw [e', h]⟩)
          · exact .inr h
    · rw [ddGo_mem r _ x, List.map_append, List.mem_append]
      simp only [List.map_cons, List.map_nil, List.mem_cons, List.not_mem_nil, or_false]
      constructor
      · rintro ((h | h) | h)
        · exact .inl h
        · exact .inr (.inl h)
        · exact .inr (.inr h)
      · rintro (h | h | h)
        · exact .inl (.inl h)
        · exact .inl (.inr h)
        · exact .inr h
theorem fall_bits {ds qs : List (Value × Nat)} {c : Nat} (hp : qs.Perm (dd ds)) (hs : qs.Pairwise (fun p q => q.2 ≤ p.2)) (hc : ∀ b, c.testBit b = true ↔ ∃ p ∈ ds, p.2 = b) (h12 : ∀ p ∈ ds, p.2 < 12) : qs.map (·.2) = bitsD 12 c := by
  have hnd : (qs.map (·.2)).Nodup := ((hp.map (·.2)).nodup_iff).mpr (ddGo_nodup ds [] .nil)
  refine desc_eq ?_ (bitsD_desc 12 c) fun x => ?_
  · rw [List.pairwise_map]
    rw [List.Nodup, List.pairwise_map] at hnd
    refine (hs.and hnd).imp ?_
    rintro p q ⟨h1, h2⟩
    have : p.2 ≠ q.2 := h2
    exact Nat.lt_of_le_of_ne h1 (Ne.symm this)
  · rw [(hp.map (·.2)).mem_iff]
    show x ∈ (ddGo [] ds).map (·.2) ↔ _
    rw [ddGo_mem]
    simp only [List.map_nil, List.not_mem_nil, false_or]
    constructor
    · intro h
      obtain ⟨p, hp, rfl⟩ := List.mem_map.mp h
      exact bitsD_of (h12 p hp) ((hc _).mpr ⟨p, hp, rfl⟩)
    · intro h
      obtain ⟨p, hp, e⟩ := (hc x).mp (bitsD_lt h).2
      exact List.mem_map.mpr ⟨p, hp, e⟩

theorem bd_lt {rs : List SetR} {j : Nat} {r : SetR} (hB : Bd rs) (hj : j < 4) (hr : rs[j]? = some r) : r.c < 12 := by
  obtain ⟨h0, h1, h2, h3⟩ := hB
  rcases (by exact cs3 (Nat.le_of_lt_succ (by assumption)) : j = 0 ∨ j = 1 ∨ j = 2 ∨ j = 3) with rfl | rfl | rfl | rfl
  · have := h0 r hr; exact eqll (by assumption) (by assumption) (by exact rfl)
  · have := h1 r hr; exact ltk (by assumption) (by exact rfl)
  · have := h2 r hr; exact ltk (by assumption) (by exact rfl)
  · have := h3 r hr; exact ltk (by assumption) (by exact rfl)
theorem bd_step {rs : List SetR} {r' : SetR} {cs : List Nat} {i : Nat} (hlen : rs.length = i + 1) (hB : Bd rs) (hcs : ∀ c ∈ cs, ∃ (j : Nat) (r : SetR), j < 4 ∧ j < i + 1 ∧ rs[j]? = some r ∧ r.c = c) (hc : r'.c = sumTo cs 12) : Bd (rs ++ [r']) := by
  obtain ⟨h0, h1, h2, h3⟩ := hB
  have key : ∀ (k : Nat) (r : SetR), (rs ++ [r'])[k]? = some r → rs[k]? = some r ∨ (k = i + 1 ∧ r = r') := by
    intro k r h
    rcases Nat.lt_trichotomy k rs.length with hk | hk | hk
    · rw [List.getElem?_append_left hk] at h; exact .inl h
    · subst hk
      rw [List.getElem?_append_right (Nat.le_refl _), Nat.sub_self] at h
      exact .inr ⟨hlen, (Option.some.inj h).symm⟩
    · rw [List.getElem?_eq_none (by simp; assumption)] at h; cases h
  refine ⟨fun r hr => ?_, fun r hr => ?_, fun r hr => ?_, fun r hr => ?_⟩
  · rcases key 0 r hr with h | ⟨h, _⟩
    · exact h0 r h
    · cases h
  · rcases key 1 r hr with h | ⟨h, rfl⟩
    · exact h1 r h
    · rw [hc]
      have hi : i = 0 := Nat.succ.inj h.symm
      subst hi
      refine Nat.le_trans (sumTo_mono (ds := [0]) (fun c hc' => ?_) 12) (by decide)
      obtain ⟨j, r', _, hj, hr', rfl⟩ := hcs c hc'
      have : j = 0 := Nat.lt_one_iff.mp (by assumption)
      subst this
      rw [h0 r' hr']; exact .head _
  · rcases key 2 r hr with h | ⟨h, rfl⟩
    · exact h2 r h
    · rw [hc]
      have hi : i = 1 := Nat.succ.inj h.symm
      subst hi
      refine Nat.le_trans (sumTo_mono (ds := [0, 1]) (fun c hc' => ?_) 12) (by decide)
      obtain ⟨j, r', _, hj, hr', rfl⟩ := hcs c hc'
      have : r'.c ≤ 1 := by
        rcases (by exact cs1 (Nat.le_of_lt_succ (by assumption)) : j = 0 ∨ j = 1) with rfl | rfl
        · rw [h0 r' hr']; exact Nat.le_of_ble_eq_true rfl
        · exact h1 r' hr'
      rcases (by exact cs1 (by assumption) : r'.c = 0 ∨ r'.c = 1) with e | e <;> rw [e] <;> simp
  · rcases key 3 r hr with h | ⟨h, rfl⟩
    · exact h3 r h
    · rw [hc]
      have hi : i = 2 := Nat.succ.inj h.symm
      subst hi
      have e1 : rs[1]? = some (rs[1]'(by rw [hlen]; decide)) := List.getElem?_eq_getElem _
      have e2 : rs[2]? = some (rs[2]'(by rw [hlen]; decide)) := List.getElem?_eq_getElem _
      generalize rs[1]'(by rw [hlen]; decide) = r1 at e1
      generalize rs[2]'(by rw [hlen]; decide) = r2 at e2
      have b1 := h1 r1 e1
      have b2 := h2 r2 e2
      refine Nat.le_trans (sumTo_mono (ds := [0, r1.c, r2.c]) (fun c hc' => ?_) 12) ?_
      · obtain ⟨j, r', _, hj, hr', rfl⟩ := hcs c hc'
        rcases (by exact cs2 (Nat.le_of_lt_succ (by assumption)) : j = 0 ∨ j = 1 ∨ j = 2) with rfl | rfl | rfl
        · rw [h0 r' hr']; exact .head _
        · rw [e1] at hr'; cases hr'; simp
        · rw [e2] at hr'; cases hr'; simp
      · rcases (by exact cs1 (by assumption) : r1.c = 0 ∨ r1.c = 1) with e | e <;> rcases (cs3 b2 : r2.c = 0 ∨ r2.c = 1 ∨ r2.c = 2 ∨ r2.c = 3) with e' | e' | e' | e' <;> rw [e, e'] <;> decide
theorem good_step {tl tl' : List (Addr × Obj)} {rs : List SetR} {r' : SetR} (hG : Good tl rs) (hsub : ∀ p ∈ tl, p ∈ tl') (hr : Good tl' [r']) : Good tl' (rs ++ [r']) := by
  intro r hm
  rcases List.mem_append.mp hm with h | h
  · obtain ⟨a, b, c, d, e⟩ := hG r h
    exact ⟨a.mono eH_keep hsub, hsub _ b, c, fun p hp => (d p hp).mono eH_keep hsub, e⟩
  · exact hr r h
theorem nst_new {tl : List (Addr × Obj)} {b : Addr} {qs : List (Value × Nat)} {n c : Nat} (hb : (b, W.listOf (qs.map (·.1)).toArray n) ∈ tl) (hq : qs.map (·.2) = bitsD 12 c) (hc : c < 2 ^ 12) (hm : ∀ q ∈ qs, NstK eH tl q.1 q.2) : NstK eH tl (.ref b) c := by
  refine NstK.mk (fun h H => H.2 _ hb) rfl rfl ?_ hc ?_
  · rw [← hq]; simp
  · intro i x p hx hp
    rw [← hq, List.getElem?_map] at hp
    have hx' : (qs.map (·.1))[i]? = some x := by simpa using hx
    rw [List.getElem?_map] at hx'
    cases hqi : qs[i]? with
    | none => rw [hqi] at hp; cases hp
    | some q =>
      rw [hqi] at hp hx'
      cases hp; cases hx'
      exact hm q (List.mem_of_getElem? hqi)
end

/- NUb -/
theorem offNUb : True := by
  w_top off
  exact trivial
section
open PySem PySem.W PyProof.Rows PySem.Spec PySem.Calls PySem.SeqAt PyProof.V
set_option Elab.async false
set_option maxRecDepth 100000
set_option maxHeartbeats 2000000
theorem rt5 {a b c d e q : Addr × Obj} {l r : List (Addr × Obj)} (h : q ∈ r) : q ∈ (a :: b :: c :: d :: e :: l) ++ r := List.mem_append_right _ h
theorem up5 {a b c d e q : Addr × Obj} {l r : List (Addr × Obj)} (h : q ∈ l) : q ∈ (a :: b :: c :: d :: e :: l) ++ r := List.mem_append_left _ (.tail _ (.tail _ (.tail _ (.tail _ (.tail _ h)))))
section
variable {M : Model} {prog : Program} {w : World} {A : Around} {E : Value → Shared → Prop} {s : Shared} {h₀ : Heap} {L : Addr} {m mg mb : Str → Option Value} {rest : List (Addr × Obj)} {p : Program} {loose : List Str} {mean : ExcName → Option Value}
  {a : Addr} {o : Obj} {kvs : List (Str × Value)} {n : Str} {v : Value}
structure BodyAt (h₀ h : Heap) (L : Addr) (m : Str → Option Value) (rest : List (Addr × Obj)) (a P T1 : Addr) (tup : Obj) (kvs : List (Str × Value)) (ls : List (Int × Int)) (o : Obj) (ps : Array Value) (lit : List (Addr × Obj)) : Prop where
  x : DictO o kvs
  D : Led h₀ h L m ((a, o) :: (P, tabObj ps) :: (T1, tup) :: lit) rest
  pl : Places ps ls
structure FdOut (h₀ h : Heap) (L : Addr) (m : Str → Option Value) (rest : List (Addr × Obj)) (a P T1 : Addr) (tup : Obj) (kvs : List (Str × Value)) (ls : List (Int × Int)) (o : Obj) (ps : Array Value) (lit' lit : List (Addr × Obj)) (f c' : Addr) (oc' : Obj) (q : Str) (fo : Obj) : Prop where
  B : BodyAt h₀ h L m rest a P T1 tup kvs ls o ps lit'
  sub : ∀ x ∈ lit, x ∈ lit'
  mf : (f, fo) ∈ lit'
  mc : (c', oc') ∈ lit'
  nm : NamedCode oc' q
  l1 : a < c'
  l2 : c' < f
theorem fdef_V {env : Env} {c P T1 : Addr} {tup oc : Obj} {ps : Array Value} {ls : List (Int × Int)} {lit : List (Addr × Obj)} {pos : Pos} {name : Str} {params : Arguments} {body : List Stmt} {scope : Scope} {clos : List (Str × Addr)} {Q : Flow → Shared → Prop} (T : Top p loose mean mg mb h₀) (hcl : closureFor scope env = pure clos) (hge0 : env.globals = mainGlobals) (hcode : env.code = .ref c)
    (hok : CodeOk oc c P) (hm : (c, oc) ∈ lit) (B : BodyAt h₀ s.heap L m rest a P T1 tup kvs ls o ps lit) (hl : env.locals = a) (hk : env.scope.kind = .class) (hn : env.kindOf name = some .local) (hnf : (ls.all fun q => !(q.1 == pos.line && q.2 == pos.col)) = true)
    (hd0 : params.defaults = []) (hk0 : params.kw_defaults = []) (ha : annTrees params none env = [])
    (h : ∀ f c' oc' ctv doc o' h' tk ps' lit', FdOut h₀ h' L m rest a P T1 tup (kvPut name (.ref f) kvs) ((pos.line, pos.col) :: ls) o' ps' lit' lit f c' oc' (env.qual ++ name) (fnMade name (env.qual ++ name) params body scope clos doc ((mg "__name__").getD .none) c' ctv) → Q .next { s with heap := h', toks := tk }) :
    wpAny M A (exec (.FunctionDef name params body [] none [] scope none name pos) env) Q E s := by
  have D0 : Led h₀ s.heap L m ((a, o) :: (P, tabObj ps) :: (T1, tup) :: lit) rest := B.D
  refine fdef_L (lit := (T1, tup) :: lit) T hcl hge0 hcode hok (.tail _ hm) D0 B.x hl hk hn B.pl hnf hd0 hk0 ha ?_
  intro f c' oc' ctv doc o' h' tk ps' pl nm x D l1 l2
  have D1 : Led h₀ h' L m ((T1, tup) :: ([(a, o'), (P, tabObj ps'), (f, _), (c', oc')] ++ lit)) rest := Led.front [_, _, _, _] D
  have D2 : Led h₀ h' L m ((P, tabObj ps') :: ([(T1, tup), (a, o')] ++ ((f, _) :: (c', oc') :: lit))) rest := Led.front [_, _] D1
  have D3 : Led h₀ h' L m ((a, o') :: ([(P, tabObj ps'), (T1, tup)] ++ ((f, _) :: (c', oc') :: lit))) rest := Led.front [_, _] D2
  exact h f c' oc' ctv doc o' h' tk ps' _ ⟨⟨x, D3, pl⟩, fun _ h => .tail _ (.tail _ h), .head _, .tail _ (.head _), nm, l1 (a, o) (.tail _ (.head _)), l2⟩
end
end

/- NU -/
theorem offNU : True := by
  w_top off
  exact trivial
section
open PySem PySem.W PyProof.Rows PySem.Spec PySem.Calls PySem.SeqAt PyProof.V
set_option Elab.async false
set_option maxRecDepth 100000
set_option maxHeartbeats 2000000
section
variable {prog : Program} {w : World} {mean : ExcName → Option Value} {mg mb : Str → Option Value} {A : Around} {h₀ : Heap} {L : Addr} {m : Str → Option Value} {rest news : List (Addr × Obj)} {s : Shared} {x y : Addr} {c d : Nat}
    {Q E : Value → Shared → Prop}
theorem evalArgs_one {f : Value} {e : PySem.Expr} {env : Env} {pos : Pos} {Q : Args → Shared → Prop} (hs : starEach [e] env = [(false, eval e env)]) (h : wpAny (model prog w) A (eval e env) (fun v s' => Q ⟨[v], []⟩ s') E s) :
    wpAny (model prog w) A (evalArgs f false (backTo pos (starEach [e] env)) (backToKw pos (keywordEach [] env))) Q E s := by
  rw [hs]
  show wpAny (model prog w) A (evalArgs f false [(false, eval e env)] []) Q E s
  unfold evalArgs
  refine wpAny_bind (m := spliced _) (spliced_cons (wpAny_mono h (fun v s' hq => ?_) fun _ _ e => e))
  refine spliced_nil ?_
  refine wpAny_bind (wpAny_pure ?_)
  refine wpAny_holding ?_
  exact wpAny_bind (wpAny_pure (wpAny_bind (wpAny_pure (wpAny_pure hq))))
theorem ListDisplay {elts : List PySem.Expr} {env : Env} {pos : Pos} {M : Model} (h : wpAny M A (spliced (backTo pos (starEach elts env))) (fun vs s₁ => wpAny M A (newList vs) Q E s₁) E s) : wpAny M A (eval (.List elts pos) env) Q E s := by
  rw [arm_eval_List]
  exact wpAny_bind (wpAny_standAt (wpAny_bind h))
theorem newList_L {M : Model} {lit : List (Addr × Obj)} {vs : List Value} (D : Led h₀ s.heap L m lit rest)
    (h : ∀ I h', Led h₀ h' L m ((I, W.listOf vs.toArray 0) :: lit) rest → (∀ q ∈ lit ++ rest, q.1 < I) → Q (.ref I) { s with heap := h' }) (hsz : vs.length ≤ sizeLine := by size_fits) : wpAny M A (newList vs) Q E s :=
  wpAny_newList (h _ _ (D.alloc _ rfl) fun _ hq => D.lt hq) hsz
theorem ne1 {a : Nat} (h : 58 < a) : a ≠ 1 := fun e => absurd (e ▸ h : 58 < 1) (by decide)
theorem cmp_key (F : Fr h₀ L s.heap m) (X : Frag.In (Mine.hd.heap_39 w.params) h₀) (N : News h₀ L s.heap ((58, tabObj #[]) :: rest)) (T : Top topProg loo mean mg mb h₀) (hh : A.handled = none)
    (hd : A.depth + 30 < recursionLimit) (hu : A.units + 300 < cLine) (C : CodeHd h₀ 62 58) (h58 : ∀ p ∈ rest, p.1 ≠ 58)
    (ret : ∀ (K : Addr) (kl : List (Addr × Obj)) (ps : Array Value) (h' : Heap) (tk' : Nat), KOk kl K → Fr h₀ L h' m → News h₀ L h' (kl ++ (58, tabObj ps) :: rest) → (∀ q ∈ (58, tabObj #[]) :: rest, ∀ p ∈ kl, q.1 < p.1) → Q (.ref K) { s with heap := h', toks := tk' }) : wpAny (model prog w) A (call (.ref 63) [.ref 103]) Q E s := by
  obtain ⟨hA, dp, fr, gd, un⟩ := A
  dsimp only at hh hd hu
  subst hh
  ((refine wpAny_call ?_; k_dflt (refine' enterC ?k2 ?k3 ?k4 ?k5 ?k6 ?k7 ?k8 ?k9 ?kB ?kD ?_ ?c2 ?c3 ?c4; (case k2 => k_asm); (case k3 => k_asm); (case k4 => k_asm); (case k5 => k_asm); (case k6 => k_is); (case k7 => k_is); (case k8 => (((try dsimp only [depth_deeper, depth_in1]); (first | exact rm3 (by assumption) (by exact rfl) | exact rm2 (by assumption) (by exact rfl) | exact rm1 (by assumption) (by exact rfl) | exact rm0 (by assumption) | exact rm00 (by assumption) | exact rmd (by assumption) (by exact rfl) | assumption | omega)))); (case k9 => first | exact binds_K (by k_in) rfl (by k_is) rfl rfl rfl | exact BindsTo.of_eq rfl); (case kB => exact rfl); (case kD => decide +kernel); (case c2 => exact rfl); (case c3 => exact rfl); (case c4 => exact rfl); k_whole); intro _ _ _ _ _ _ _ N' Y' _ _ _; k_cells Y'; (try simp only [List.cons_append, List.nil_append] at N'); revert N'; intro _; (try dsimp only); (try k_fold)))
  rename_i g1 L1 h1 tk1 FG F1 X1 T1 l1 oC dC N1
  generalize (bindL _ _ _) = m1 at F1
  have hne : ∀ p ∈ (L1 + 1, oC) :: rest, p.1 ≠ 58 := by
    intro p hp
    rcases List.mem_cons.mp hp with rfl | hp
    · have := l1 _ (.head _); exact Nat.ne_of_gt (Nat.lt_succ_of_lt this)
    · exact h58 p hp
  have D1 : Led g1 h1 L1 _ [(58, tabObj #[])] ((L1 + 1, oC) :: rest) := ⟨F1, News.mono' N1 (fun p hp => by
    rcases List.mem_cons.mp hp with rfl | hp
    · exact .tail _ (.head _)
    · rcases List.mem_cons.mp hp with rfl | hp
      · exact .head _
      · exact .tail _ (.tail _ hp)), by simp, fun p hp q hq => by rw [List.mem_singleton.mp hq]; exact hne p hp⟩
  have C1 : CodeHd g1 62 58 := C.keeps FG.keep
  refine wpAny_execs_cons ?_
  rw [arm_exec_ClassDef]
  refine wpAny_bind (m := evalAll _) (wpAny_pure ?_)
  refine wpAny_bind (wpAny_standAt ?_)
  refine wpAny_bind (m := buildClassGuard _) ?_
  unfold buildClassGuard
  refine wpAny_bind (wpAny_nsGet (T1.b.keeps F1.keep) ?_)
  rw [T1.builtins _ (by decide), show bootBuiltins (Str.ofString "__build_class__") = some (.builtin "__build_class__") from by kernel_rfl]
  refine wpAny_pure ?_
  refine wpAny_bind (wpAny_holding ?_)
  refine wpAny_bind (evalArgs_one rfl ?_)
  refine Name_function_global rfl rfl ?_
  unfold loadGlobal
  refine wpAny_bind (wpAny_nsGet (T1.g.keeps F1.keep) ?_)
  rw [T1.free (Str.ofString "object") (by decide) (by decide +kernel) (by decide +kernel) (by decide +kernel) (by decide +kernel)]
  refine wpAny_bind (wpAny_nsGet (T1.b.keeps F1.keep) ?_)
  rw [T1.builtins _ (by decide), show bootBuiltins (Str.ofString "object") = some (.type "object") from by kernel_rfl]
  refine wpAny_pure ?_
  refine wpAny_bind (wpAny_standAt ?_)
  refine wpAny_holding ?_
  obtain ⟨xn, tn, hvn⟩ : ∃ x t, nsIn (Mine.hd.heap_39 w.params) mainGlobals (Str.ofString "__name__") = some (some (.str x t)) := ⟨Str.ofString "law_of0007_01", _, by with_unfolding_all rfl⟩
  refine build_class D1 T1 C1 rfl rfl rfl rfl (mg_of X1 T1.g hvn) ?room rfl rfl rfl rfl rfl rfl rfl rfl ?run
  case room => (((try dsimp only [depth_deeper, depth_in1]); (first | exact rm3 (by assumption) (by exact rfl) | exact rm2 (by assumption) (by exact rfl) | exact rm1 (by assumption) (by exact rfl) | exact rm0 (by assumption) | exact rm00 (by assumption) | exact rmd (by assumption) (by exact rfl) | assumption | omega)))
  case run =>
    intro cenv dA o c oc P K1 h2 tk2 t1 t2 e1 e2 e3 e4 e5 e6 x2 hco hnc D2 lt1 lt2 lt3 lt4
    have kn : ∀ n, cenv.kindOf n = _ := fun n => by unfold Env.kindOf; rw [e2]
    have hk : cenv.scope.kind = .class := by rw [e2]
    refine hideQ fun K9 hK9 => ?_
    refine hideG fun G9 hG9 => ?_
    obtain ⟨lit0, p58, mc, m58, D2⟩ : ∃ lit0 p58, (c, oc) ∈ lit0 ∧ (58, tabObj p58) ∈ lit0 ∧ Led g1 h2 L1 m1 ((dA, o) :: (P, tabObj #[]) :: (K1, { cls := .type "tuple", data := .seq #[.type "object"] }) :: lit0) ((L1 + 1, oC) :: rest) :=
      ⟨[(c, oc), (58, _)], _, .head _, .tail _ (.head _), Led.pick D2 [0, 1, 4, 2, 3]⟩
    refine hG9 ?_
    clear hG9 G9
    refine wpAny_run (codeAny_body rfl rfl ?_)
    refine wpAny_execs_cons (wpAny_Assign_Name (Constant_str ?_))
    refine storeName_L e1 hk (.inl ((kn _).trans rfl)) x2 D2 ?_
    intro o3 h3 x3 D3
    generalize Shared.toks _ = t3 at x3
    dsimp only
    clear D2 x2
    refine wpAny_execs_cons (wpAny_Assign_Name ?_)
    refine ListDisplay ?_
    refine spliced_more ?_
    refine Constant_str ?_
    refine spliced_none ?_
    refine newList_L D3 ?_
    intro Sl h4 D4 lt5
    dsimp only at D4 ⊢
    clear lt5 D3
    have D5 : Led g1 h4 L1 m1 ((dA, o3) :: (P, tabObj #[]) :: (K1, _) :: (Sl, _) :: lit0) ((L1 + 1, oC) :: rest) := Led.front [_, _, _] (Led.front [_, _, _] (Led.front [_, _, _] D4))
    clear D4
    refine storeName_L e1 hk (.inl ((kn _).trans rfl)) x3 D5 ?_
    intro o6 h6 x6 D6
    dsimp only at D6 ⊢
    refine hideG fun G9 hG9 => ?_
    obtain ⟨lit1, t4, mS, mc1, m581, B6⟩ : ∃ lit1 t4, (Sl, W.listOf #[.str (Str.ofString "obj") t4] 0) ∈ lit1 ∧ (c, oc) ∈ lit1 ∧ (58, tabObj p58) ∈ lit1 ∧ BodyAt g1 h6 L1 m1 ((L1 + 1, oC) :: rest) dA P K1 { cls := .type "tuple", data := .seq #[.type "object"] } _ [] o6 #[] lit1 :=
      ⟨(Sl, _) :: lit0, _, List.Mem.head _, List.Mem.tail _ mc, List.Mem.tail _ m58, x6, D6, Places.nil⟩
    refine hG9 ?_
    clear hG9 G9 D5 D6 x3 x6 mc m58
    have hcl2 : closureFor { kind := .function, names := [(Str.ofString "self", .local), (Str.ofString "other", .local), (Str.ofString "mycmp", .free)], isGenerator := false, isCoroutine := false } cenv = pure [(Str.ofString "mycmp", L1 + 1)] := by
      unfold closureFor cellOf
      rw [e5]
      rfl
    refine wpAny_execs_cons (fdef_V T1 rfl e3 e4 hco mc1 B6 e1 hk ((kn _).trans rfl) rfl rfl rfl rfl ?_)
    intro f0 c0 oc0 ct0 dc0 o9 h9 tk9 ps1 li1 Z0
    dsimp only
    refine wpAny_execs_cons (fdef_V T1 hcl2 e3 e4 hco (Z0.sub _ mc1) Z0.B e1 hk ((kn _).trans rfl) rfl rfl rfl rfl ?_)
    intro f1 c1 oc1 ct1 dc1 o10 h10 tk10 ps2 li2 Z1
    dsimp only
    refine wpAny_execs_cons (fdef_V T1 hcl2 e3 e4 hco (Z1.sub _ (Z0.sub _ mc1)) Z1.B e1 hk ((kn _).trans rfl) rfl rfl rfl rfl ?_)
    intro f2 c2 oc2 ct2 dc2 o11 h11 tk11 ps3 li3 Z2
    dsimp only
    refine wpAny_execs_cons (fdef_V T1 hcl2 e3 e4 hco (Z2.sub _ (Z1.sub _ (Z0.sub _ mc1))) Z2.B e1 hk ((kn _).trans rfl) rfl rfl rfl rfl ?_)
    intro f3 c3 oc3 ct3 dc3 o12 h12 tk12 ps4 li4 Z3
    dsimp only
    refine wpAny_execs_cons (fdef_V T1 hcl2 e3 e4 hco (Z3.sub _ (Z2.sub _ (Z1.sub _ (Z0.sub _ mc1)))) Z3.B e1 hk ((kn _).trans rfl) rfl rfl rfl rfl ?_)
    intro f4 c4 oc4 ct4 dc4 o13 h13 tk13 ps5 li5 Z4
    dsimp only
    refine wpAny_execs_cons (fdef_V T1 hcl2 e3 e4 hco (Z4.sub _ (Z3.sub _ (Z2.sub _ (Z1.sub _ (Z0.sub _ mc1))))) Z4.B e1 hk ((kn _).trans rfl) rfl rfl rfl rfl ?_)
    intro f5 c5 oc5 ct5 dc5 o14 h14 tk14 ps6 li6 Z5
    dsimp only
    have m4 : (f4, _) ∈ li6 := Z5.sub _ Z4.mf
    have m3 : (f3, _) ∈ li6 := Z5.sub _ (Z4.sub _ Z3.mf)
    have m2 : (f2, _) ∈ li6 := Z5.sub _ (Z4.sub _ (Z3.sub _ Z2.mf))
    have s1 : ∀ x ∈ li2, x ∈ li6 := fun x h => Z5.sub _ (Z4.sub _ (Z3.sub _ (Z2.sub _ h)))
    have m1' : (f1, _) ∈ li6 := s1 _ Z1.mf
    have mc1' : (c1, _) ∈ li6 := s1 _ Z1.mc
    have m0 : (f0, _) ∈ li6 := s1 _ (Z1.sub _ Z0.mf)
    have mc0 : (c0, _) ∈ li6 := s1 _ (Z1.sub _ Z0.mc)
    have mS6 : (Sl, _) ∈ li6 := s1 _ (Z1.sub _ (Z0.sub _ mS))
    have m586 : (58, _) ∈ li6 := s1 _ (Z1.sub _ (Z0.sub _ m581))
    refine wpAny_execs_cons (wpAny_Assign_Name (wpAny_of_eq (a := .none) rfl ?_))
    refine storeName_L e1 hk (.inl ((kn _).trans rfl)) Z5.B.x Z5.B.D ?_
    intro o15 h15 x15 D15
    dsimp only
    refine wpAny_execs_nil ?_
    refine hK9 _ _ ?_
    refine ⟨_, _, _, _, _, rfl, x15, D15, ?_⟩
    intro sa ts tn h16 tk16 o16 x16 D16
    clear D15 x15
    refine type_call ?_
    replace x16 : DictO o16 [(Str.ofString "__module__", _), (Str.ofString "__qualname__", _), (Str.ofString "__firstlineno__", _), (Str.ofString "__slots__", _), (Str.ofString "__init__", _), (Str.ofString "__lt__", _), (Str.ofString "__gt__", _), (Str.ofString "__eq__", _), (Str.ofString "__le__", _), (Str.ofString "__ge__", _), (Str.ofString "__hash__", _), (Str.ofString "__static_attributes__", _)] := x16
    have D17 : Led g1 h16 L1 m1 ((dA, o16) :: (K1, _) :: (sa, _) :: (P, _) :: li6) _ := Led.front [_] (Led.front [_, _, _] D16)
    clear D16
    have hdA : dA ≠ 1 := ne1 (Nat.lt_trans (lt1 _ (.head _)) lt2)
    refine type_new D17 x16 hdA (.tail _ (.tail _ mS6)) rfl rfl rfl (Nat.le_of_ble_eq_true rfl) (by decide +kernel) (by decide +kernel) rfl rfl rfl rfl rfl rfl rfl rfl rfl (fun _ => rfl) (fun _ => rfl) (fun _ => rfl) ?tame X1 (by kernel_rfl) (by kernel_rfl) ?made
    case tame =>
      have T2 : ∀ {f : Addr} {of : Obj}, (f, of) ∈ li6 → of.cls = .type "function" ∨ of.cls = .type "list" ∨ of.cls = .type "tuple" ∨ of.cls = .type "member_descriptor" → Tame ((sa, { cls := .type "tuple", data := .seq ts }) :: (P, tabObj ps6) :: li6) (.ref f) :=
        fun h q => .inr (.inr (.inr ⟨_, _, rfl, .tail _ (.tail _ h), q⟩))
      exact List.forall_mem_cons.mpr ⟨.inl ⟨_, _, rfl⟩, List.forall_mem_cons.mpr ⟨.inl ⟨_, _, rfl⟩, List.forall_mem_cons.mpr ⟨.inr (.inl ⟨_, _, rfl⟩), List.forall_mem_cons.mpr ⟨T2 mS6 (.inr (.inl rfl)), List.forall_mem_cons.mpr ⟨T2 m0 (.inl rfl), List.forall_mem_cons.mpr ⟨T2 m1' (.inl rfl), List.forall_mem_cons.mpr ⟨T2 m2 (.inl rfl), List.forall_mem_cons.mpr ⟨T2 m3 (.inl rfl),
        List.forall_mem_cons.mpr ⟨T2 m4 (.inl rfl), List.forall_mem_cons.mpr ⟨T2 Z5.mf (.inl rfl), List.forall_mem_cons.mpr ⟨.inr (.inr (.inl rfl)), List.forall_mem_cons.mpr ⟨.inr (.inr (.inr ⟨sa, _, rfl, .head _, .inr (.inr (.inl rfl))⟩)), fun p hp => nomatch hp⟩⟩⟩⟩⟩⟩⟩⟩⟩⟩⟩⟩
    case made =>
      intro Kc ns md oN t17 h17 tk17 xN D18 lt18 lt19 lt20
      have hns0 : f0 < ns := lt18 (f0, _) (List.mem_append_left _ (.tail _ (.tail _ m0)))
      clear lt18 D17 x16
      refine ⟨Kc, _, rfl, D18.get (.head _), rfl, ?_⟩
      refine wpAny_bind (m := decorate _ _) (wpAny_pure ?_)
      refine wpAny_bind (wpAny_standAt (wpAny_bind (wpAny_bindName ?_)))
      refine wpAny_storeName_local rfl D18.F.ns (fun h18 hn18 hs18 => ?_) rfl
      have F19 := D18.F.set hn18 hs18
      have N19 := D18.N.set hs18
      refine wpAny_pure ?_
      have lo : ∀ q ∈ (58, tabObj #[]) :: rest, q.1 < L1 := fun q hq => l1 q hq
      refine wpAny_execs_cons ?_
      clear D18
      k_steps
      rename_i kF kN Tc kX
      have dC' : oC.data = .cell (some (.ref 103)) := dC
      have kN2 : News h₀ L h18 ((Kc, _) :: (ns, oN) :: (md, _) :: (f0, _) :: (c0, oc0) :: (f1, _) :: (c1, oc1) :: (L1 + 1, oC) :: (58, tabObj p58) :: rest) := News.mono' kN (List.forall_mem_cons.mpr ⟨.head _, List.forall_mem_cons.mpr ⟨.tail _ (.head _), List.forall_mem_cons.mpr ⟨.tail _ (.tail _ (.head _)),
        List.forall_mem_cons.mpr ⟨up5 m0, List.forall_mem_cons.mpr ⟨up5 mc0, List.forall_mem_cons.mpr ⟨up5 m1', List.forall_mem_cons.mpr ⟨up5 mc1', List.forall_mem_cons.mpr ⟨rt5 (.head _), List.forall_mem_cons.mpr ⟨up5 m586, fun q h => rt5 (.tail _ h)⟩⟩⟩⟩⟩⟩⟩⟩⟩)
      refine ret Kc [_, _, _, _, _, _, _, _] _ h18 _ ?ok kF kN2 ?low
      case ok => exact ⟨_, _, _, _, _, ns, oN, _, md, _, f0, c0, oc0, _, _, _, _, f1, c1, oc1, _, _, _, _, L1 + 1, oC, .head _, (.tail _ (.head _)), xN, rfl, rfl, rfl, rfl, rfl, rfl, rfl, (.tail _ (.tail _ (.head _))), (.tail _ (.tail _ (.tail _ (.head _)))), (.tail _ (.tail _ (.tail _ (.tail _ (.head _))))), Z0.nm, (.tail _ (.tail _ (.tail _ (.tail _ (.tail _ (.head _)))))), (.tail _ (.tail _ (.tail _ (.tail _ (.tail _ (.tail _ (.head _))))))), Z1.nm, (.tail _ (.tail _ (.tail _ (.tail _ (.tail _ (.tail _ (.tail _ (.head _)))))))), dC'⟩
      case low =>
        intro q hq
        have hL1 := lo q hq
        have hK1 : q.1 < K1 := by
          rcases List.mem_cons.mp hq with rfl | hq
          · exact lt1 _ (.head _)
          · exact lt1 _ (.tail _ (.tail _ hq))
        have hd0 : q.1 < dA := Nat.lt_trans hK1 lt2
        have hc0 : q.1 < c0 := Nat.lt_trans hd0 Z0.l1
        have hf0 : q.1 < f0 := Nat.lt_trans hc0 Z0.l2
        have hc1 : q.1 < c1 := Nat.lt_trans hd0 Z1.l1
        have hf1 : q.1 < f1 := Nat.lt_trans hc1 Z1.l2
        have hns : q.1 < ns := Nat.lt_trans hf0 hns0
        have hKc : q.1 < Kc := Nat.lt_trans hns lt19
        have hmd : q.1 < md := Nat.lt_trans hKc lt20
        exact List.forall_mem_cons.mpr ⟨hKc, List.forall_mem_cons.mpr ⟨hns, List.forall_mem_cons.mpr ⟨hmd, List.forall_mem_cons.mpr ⟨hf0, List.forall_mem_cons.mpr ⟨hc0, List.forall_mem_cons.mpr ⟨hf1, List.forall_mem_cons.mpr ⟨hc1, List.forall_mem_cons.mpr ⟨Nat.lt_succ_of_lt hL1, fun p hp => nomatch hp⟩⟩⟩⟩⟩⟩⟩⟩
end
end

/- OA -/
theorem offOA : True := by
  w_top off
  exact trivial
section
open PySem PySem.W PyProof.Rows PySem.Spec PySem.Calls PySem.SeqAt PyProof.V
set_option Elab.async false
set_option maxRecDepth 100000
set_option maxHeartbeats 2000000
theorem look_mem {l : Frag} {a : Addr} {o : Obj} (e : l.lookup a = some o) : (a, o) ∈ l := by
  induction l with
  | nil => cases e
  | cons p r ih =>
    obtain ⟨b, x⟩ := p
    simp only [List.lookup] at e
    split at e
    · rename_i q; cases e; rw [beq_iff_eq.mp q]; exact .head _
    · exact .tail _ (ih e)
theorem look_some {l : Frag} {a : Addr} {o : Obj} (hm : (a, o) ∈ l) : ∃ o', l.lookup a = some o' := by
  induction l with
  | nil => cases hm
  | cons p r ih =>
    obtain ⟨b, x⟩ := p
    simp only [List.lookup]
    split
    · exact ⟨_, rfl⟩
    · rename_i q
      rcases List.mem_cons.mp hm with e | hm
      · cases e; simp at q
      · exact ih hm
theorem frag_in {h : Heap} {l : Frag} (H : ∀ p ∈ l, h.get? p.1 = some p.2) : l.In h := fun a o e => H _ (look_mem e)
theorem frag_look {h : Heap} {l : Frag} {a : Addr} {o : Obj} (H : ∀ p ∈ l, h.get? p.1 = some p.2) (hm : (a, o) ∈ l) : l.lookup a = some o := by
  obtain ⟨o', e⟩ := look_some hm
  have h1 := H _ (look_mem e)
  have h2 := H _ hm
  rw [e, ← h1, ← h2]
theorem nsIn_D {l : Frag} {a : Addr} {o : Obj} {kvs : List (Str × Value)} (x : DictO o kvs) (e : l.lookup a = some o) (n : Str) : nsIn l a n = some (kvs.lookup n) := by
  obtain ⟨hc, hdi, hsl, es, k, hd, he⟩ := x
  obtain ⟨c, d, dt, sl⟩ := o
  dsimp only at hd hc hdi hsl
  subst hd
  unfold nsIn
  rw [e]
  dsimp only
  have h1 := he.find (n := n)
  have h2 : es.toList.any (·.refKey) = false := by
    rw [List.any_eq_false]
    intro e' hm
    obtain ⟨n', t, hk⟩ := he.keys e' hm
    unfold DictEntry.refKey; rw [hk]; simp
  cases hf : es.toList.find? (·.key.isStr n) with
  | none => rw [hf] at h1; dsimp only; rw [if_neg (by rw [h2]; decide), ← h1]; rfl
  | some en => rw [hf] at h1; dsimp only; rw [← h1]; rfl
structure KFs (Kf : Frag) (K fI fL md : Addr) : Prop where
  makes : makesIn Kf K = true
  init : findIn Kf (.ref K) "__init__" = some (some (.ref fI))
  tI : typeIn Kf (.ref fI) = some (.type "function")
  less : findIn Kf (.ref K) "__lt__" = some (some (.ref fL))
  tL : typeIn Kf (.ref fL) = some (.type "function")
  get : plainGet Kf K ("obj" : Str) = true
  isC : (clsIn Kf K).isSome = true
  obj : findIn Kf (.ref K) ("obj" : Str) = some (some (.ref md))
  gt : specialIn Kf (.ref md) "__get__" = some (some (.builtin "member_descriptor.__get__"))
  tk : takesIn Kf (.ref md) = some true
  sl : slotIn Kf md K = some 0
  st : findIn Kf (.ref K) "__setattr__" = some (some (.builtin "object.__setattr__"))
  po : plainOver Kf K = true
  ta : takerIn Kf K ("obj" : Str) = some (some (.ref md))
  tm : typeIn Kf (.ref md) = some (.type "member_descriptor")
theorem KOk.mono {l l' : List (Addr × Obj)} {K : Addr} (x : KOk l K) (h : ∀ p ∈ l, p ∈ l') : KOk l' K := by
  obtain ⟨nm, q, k0, k2, k3, ns, oN, kvs, md, t, fI, cI, oI, qI, dI, pI, ctI, fL, cL, oL, qL, dL, pL, ctL, cell, oC, h1, h2, h3, h4, h5, h6, h7, h8, h9, h10, h11, h12, h13, h14, h15, h16, h17, h18, h19⟩ := x
  exact ⟨nm, q, k0, k2, k3, ns, oN, kvs, md, t, fI, cI, oI, qI, dI, pI, ctI, fL, cL, oL, qL, dL, pL, ctL, cell, oC, h _ h1, h _ h2, h3, h4, h5, h6, h7, h8, h9, h10, h _ h11, h _ h12, h _ h13, h14, h _ h15, h _ h16, h17, h _ h18, h19⟩
theorem memGet : fastLookup "member_descriptor" "__get__" = some (some (.builtin "member_descriptor.__get__")) := by kernel_rfl
theorem memSet : fastLookup "member_descriptor" "__set__" = some (some (.builtin "member_descriptor.__set__")) := by kernel_rfl
theorem typCall : fastLookup "type" "__call__" = some (some (.builtin "type.__call__")) := by kernel_rfl
theorem typSub : subIn [] (.type "type") (.type "type") = some true := by kernel_rfl
theorem objGA : fastBuiltinOwn "object" "__getattribute__" = some (.builtin "object.__getattribute__") := by kernel_rfl
theorem objGa : fastBuiltinOwn "object" "__getattr__" = none := by kernel_rfl
theorem objSA : fastBuiltinOwn "object" "__setattr__" = some (.builtin "object.__setattr__") := by kernel_rfl
theorem objMro : mroOf (.type "object") = pure [.type "object"] := by kernel_rfl
theorem objLt : typeLookup (.type "object") "__lt__" = pure (some (.builtin "object.__lt__")) := by rw [typeLookup_type, builtinLookup_eq_fast]; kernel_rfl
inductive KGot (news : List (Addr × Obj)) (K : Addr) : Prop
  | mk (fI fL md cI : Addr) (oI : Obj) (qI : Str) (dI pI ctI : Value) (cL : Addr) (oL : Obj) (qL : Str) (dL pL ctL : Value) (cell : Addr) (oC : Obj) (q1 : KFs news K fI fL md) (q2 : (fI, fnMade "__init__" qI (argsOf (kStmt 2)) (stmtsOf (kStmt 2)) (scopeOf (kStmt 2)) [] dI pI cI ctI) ∈ news) (q3 : (cI, oI) ∈ news) (q4 : NamedCode oI qI) (q5 : (fL, fnMade "__lt__" qL (argsOf (kStmt 3)) (stmtsOf (kStmt 3)) (scopeOf (kStmt 3)) [("mycmp", cell)] dL pL cL ctL) ∈ news) (q6 : (cL, oL) ∈ news) (q7 : NamedCode oL qL) (q8 : (cell, oC) ∈ news) (q9 : oC.data = .cell (some (.ref 103))) (q10 : (∀ (h' : Heap) (x : Addr) (o : Obj), (∀ p ∈ news, h'.get? p.1 = some p.2) → h'.get? x = some o → o.cls = .ref K → h'.OwnSpecial x K fL "object" "__lt__")) : KGot news K
theorem KOk.fs {news : List (Addr × Obj)} {K : Addr} {h : Heap} (x : KOk news K) (H : ∀ p ∈ news, h.get? p.1 = some p.2) :
    KGot news K := by
  obtain ⟨nm, q, k0, k2, k3, ns, oN, kvs, md, t, fI, cI, oI, qI, dI, pI, ctI, fL, cL, oL, qL, dL, pL, ctL, cell, oC, h1, h2, h3, h4, h5, h6, h7, h8, h9, h10, h11, h12, h13, h14, h15, h16, h17, h18, h19⟩ := x
  refine ⟨fI, fL, md, cI, oI, qI, dI, pI, ctI, cL, oL, qL, dL, pL, ctL, cell, oC, ?_, h12, h13, h14, h15, h16, h17, h18, h19, fun h' x o H' hx hc => ⟨o, _, nm, q, ns, _, _, _, _, _, _, _, _, _, _, _, _, _, _, _, _, hx, hc, H' _ h1, h3.ns (H' _ h2), h6, H' _ h15, rfl, objMro, objLt⟩⟩
  have e1 := frag_look H h1
  have e2 := frag_look H h2
  have e3 := frag_look H h11
  have e4 := frag_look H h12
  have e5 := frag_look H h15
  have fnd : ∀ n, findIn news (.ref K) n = match kvs.lookup n with | some v => some (some v) | none => alongIn news n [.type "object"] := fun n => by
    unfold findIn
    dsimp only
    rw [e1]
    show alongIn news n [.ref K, .type "object"] = _
    have : ownIn news n (.ref K) = some (kvs.lookup n) := by
      unfold ownIn
      dsimp only
      rw [e1]
      exact nsIn_D h3 e2 n
    conv => lhs; unfold alongIn
    rw [this]
    cases kvs.lookup n <;> rfl
  have al : ∀ n, alongIn news n [.type "object"] = some (fastBuiltinOwn "object" n) := fun n => by
    unfold alongIn
    show (match ownIn news n (.type "object") with | some (some v) => _ | some none => alongIn news n [] | none => none) = _
    show (match some (fastBuiltinOwn "object" n) with | some (some v) => _ | some none => alongIn news n [] | none => none) = _
    cases fastBuiltinOwn "object" n <;> rfl
  obtain ⟨cd, hcd⟩ : ∃ cd : ClassData, cd = { name := nm, bases := [.type "object"], mro := .ref K :: [.type "object"], ns := ns, qualname := q, hasDict := false, slotNames := [("obj" : Str)], subclasses := [], abstract := false, collection := none, hasDel := false } := ⟨_, rfl⟩
  have c1 : clsIn news K = some cd := by unfold clsIn; rw [e1, hcd]
  have gsp : ∀ n, specialIn news (.ref md) n = fastLookup "member_descriptor" n := fun n => by
    unfold specialIn typeIn
    dsimp only
    rw [e3]; rfl
  have tk : takesIn news (.ref md) = some true := by unfold takesIn; rw [gsp, memSet]
  have ob : findIn news (.ref K) ("obj" : Str) = some (some (.ref md)) := by rw [fnd, h4]
  refine ⟨?_, by rw [fnd, h5], by unfold typeIn; dsimp only; rw [e4]; rfl, by rw [fnd, h6], by unfold typeIn; dsimp only; rw [e5]; rfl, ?_, by rw [c1]; rfl, ob, by rw [gsp, memGet], tk, ?_, by rw [fnd, h9, al, objSA], ?_, ?_, by unfold typeIn; dsimp only; rw [e3]; rfl⟩
  · unfold makesIn
    rw [e1]
    have i1 : specialIn news (.ref K) "__call__" = some (some (.builtin "type.__call__")) := by unfold specialIn typeIn; dsimp only; rw [e1]; exact typCall
    have i2 : instIn news (.ref K) (.type "type") = some true := by unfold instIn typeIn; dsimp only; rw [e1]; exact typSub
    dsimp only
    rw [i1, i2]
    simp
  · unfold plainGet
    rw [fnd, h7, fnd, h8, al, objGA, al, objGa]
    rfl
  · unfold slotIn recIn
    rw [e3, c1, hcd]
    simp [rawInt]
  · unfold plainOver; rw [c1, hcd]; rfl
  · unfold takerIn; rw [ob]; dsimp only [Option.bind_some]; rw [tk]; rfl
end

/- OB -/
theorem offOB : True := by
  w_top off
  exact trivial
section
open PySem PySem.W PyProof.Rows PySem.Spec PySem.Calls PySem.SeqAt PyProof.V
set_option Elab.async false
set_option maxRecDepth 100000
set_option maxHeartbeats 2000000
section
variable {prog : Program} {w : World} {mean : ExcName → Option Value} {mg mb : Str → Option Value} {A : Around} {h₀ : Heap} {L : Addr} {m : Str → Option Value} {rest news : List (Addr × Obj)} {s : Shared} {x y : Addr} {c d : Nat}
    {Q E : Value → Shared → Prop} {K : Frag} {p : Program} {loose : List Str}
  {R : Result → Shared → Prop} {name qual : Str} {params : Arguments} {body : List Stmt} {scope : Scope} {dV kV doc pm cdv ct oc : Value} {an od : Option Addr} {f : Addr} {fo : Obj} {args : Args} {binds : List (Str × Value)} {cl : List (Str × Addr)}
theorem enterF (F : Fr h₀ L s.heap m) (X₀ : K.In h₀) (N : News h₀ L s.heap news) (T : Top p loose mean mg mb h₀)
    (ho : (f, fo) ∈ news) (hfd : fo.data = .func (fnX name qual params body scope cl dV kV doc pm an cdv ct)) (hcd : s.heap.CodeRec cdv qual) (hroom : A.depth < recursionLimit)
    (hbind : BindsTo s (fnX name qual params body scope cl dV kV doc pm an cdv ct) args binds) (hloc : ∀ y ∈ binds, scope.names.lookup y.1 = some .local)
    (h : ∀ g L' h₁, Fr h₀ L g m → Fr g L' h₁ (fun y => binds.reverse.lookup y) → News g L' h₁ news → K.In g → Top p loose mean mg mb g → (∀ p ∈ news, p.1 < L') →
      wpAny (model prog w) (A.deeper (envX qual scope L' f cdv cl)) (execs body (envX qual scope L' f cdv cl))
        (fun fl s' => LeaveK h₀ L m g R (match fl with | .ret v => v | _ => .none) s')
        (fun e s' => wpAny (model prog w) (A.deeper (envX qual scope L' f cdv cl)) (leaving (envX qual scope L' f cdv cl) e) (fun _ s'' => R (.error e) s'') (fun e' s'' => R (.error e') s'') s')
        { s with heap := h₁, toks := s.toks + binds.length })
    (hco : scope.isCoroutine = false) (hgen : scope.isGenerator = false) (hk : scope.kind = .function)
    (hcell : ∀ x ∈ scope.names, x.2 ≠ .cell) : codeAny (model prog w) A (.call (.ref f) args) R s := by
  obtain ⟨FG, st, lv⟩ := groundN (R := R) F N
  refine codeAny_call_def (fd := fnX name qual params body scope cl dV kV doc pm an cdv ct) (body := body) (binds := binds) hroom (N _ ho).1 hfd (T.nolimit.keeps F.keep) hcd rfl hbind hcell hloc (fun h₁ hns hk₁ => ?_) hco hgen hk
  exact wpAny_mono (h _ s.heap.objs.size h₁ FG ⟨hns, fun b o e => hk₁ b o (of_hideAll _ e), Nat.le_of_eq (hideAll_size _ _)⟩
    (fun p hp => ⟨hk₁ _ _ (N p hp).1, Nat.ne_of_lt (Heap.lt_size (N p hp).1), hideAll_none _ (List.mem_map_of_mem hp)⟩) (X₀.keeps st) (T.keeps st) (fun p hp => Heap.lt_size (N p hp).1)) (fun fl s' hl => lv _ _ hl) fun _ _ y => y
theorem newsHere (N : News h₀ L s.heap news) : ∀ p ∈ news, s.heap.get? p.1 = some p.2 := fun p hp => (N p hp).1
noncomputable abbrev instK (K dx : Addr) (v : Value) : Obj := { cls := .ref K, dict := some dx, data := .plain, slots := #[some v] }

theorem make_KV {K : Addr} {v : Value} (F : Fr h₀ L s.heap m) (X : Frag.In (Mine.hd.heap_39 w.params) h₀) (N : News h₀ L s.heap news) (T : Top topProg loo mean mg mb h₀) (hh : A.handled = none)
    (hd : A.depth + 10 < recursionLimit) (hu : A.units + 100 < cLine) (B : KOk news K)
    (ret : ∀ x dx h' tk', Fr h₀ L h' m → News h₀ L h' ((x, instK K dx v) :: (dx, emptyDict) :: news) → (∀ p ∈ news, p.1 < dx) → dx < x → Q (.ref x) { s with heap := h', toks := tk' }) :
    wpAny (model prog w) A (call (.ref K) [v]) Q E s := by
  obtain ⟨hA, dp, fr, gd, un⟩ := A
  dsimp only at hh hd hu
  subst hh
  obtain ⟨fI, fL, md, cI, oI, qI, dI, pI, ctI, cL, oL, qL, dL, pL, ctL, cell, oC, ks, hfI, hcI, hnI, hfL, hcL, hnL, hce, hoC, -⟩ := B.fs (newsHere N)
  refine wpAny_call (W.make_K F N (frag_in (newsHere N)) ks.makes ks.init ks.tI ?_)
  intro x dx h' F' N' lt1 lt2
  have hcr : h'.CodeRec (.ref cI) qI := hnI.rec' (N' _ (.tail _ (.tail _ hcI))).1
  refine enterF (s := { s with heap := h' }) (binds := [(Str.ofString "self", .ref x), (Str.ofString "obj", v)]) F' X N' T (.tail _ (.tail _ hfI)) rfl hcr ?room (BindsTo.of_eq ?bind) ?loc ?_ rfl rfl rfl (by decide)
  case room => simp only [depth_under_kw]; exact rm1 (by assumption) (by exact rfl)
  case bind => rfl
  case loc => exact List.forall_mem_cons.mpr ⟨rfl, List.forall_mem_cons.mpr ⟨rfl, fun _ h => nomatch h⟩⟩
  intro g1 L1 h1 FG F1 N1 X1 T1 l1
  conv in execs _ => arg 1; whnf
  k_steps
  have X2 : Frag.In news h1 := frag_in fun p hp => (N1 p (.tail _ (.tail _ hp))).1
  have I1 : InstAt h1 x (instObj K dx) K (some emptyDict) := ⟨(N1 _ (.head _)).1, rfl, rfl, (N1 _ (.tail _ (.head _))).1⟩
  refine set_plain X2 I1 ks.st (osa_descr (s := { s with heap := h1, toks := _ }) KF.slot_mset X2 I1 ks.po ks.ta ks.tm (slot_set (s := { s with heap := h1, toks := _ }) (pre := []) (ox' := instK K dx v) F1 N1 X2 I1 ks.sl (by exact Nat.le_of_ble_eq_true rfl) (fun _ h => nomatch h) ?ne (by rfl) rfl ?_))
  case ne =>
    intro p hp e
    rcases List.mem_cons.mp hp with rfl | hp
    · exact Nat.ne_of_lt lt2 e
    · exact Nat.ne_of_lt (Nat.lt_trans (lt1 p hp) lt2) e
  intro h2 F2 N2
  dsimp only
  clear I1 X2 N1 F1
  k_steps
  exact ret _ _ _ _ (by assumption) (by assumption) lt1 lt2

theorem get_objK {K fI fL md dx : Addr} {v : Value} {expr : Bool} (X : Frag.In news s.heap) (ks : KFs news K fI fL md) (mx : (x, instK K dx v) ∈ news) (mdx : (dx, emptyDict) ∈ news) (H : ∀ p ∈ news, s.heap.get? p.1 = some p.2) (hv : handedIn v = true)
    (h : Q v { s with toks := s.toks + 1 }) : wpAny (model prog w) A (getAttr (.ref x) ("obj" : Str) expr) Q E s := by
  have I : InstAt s.heap x (instK K dx v) K (some emptyDict) := ⟨H _ mx, rfl, rfl, H _ mdx⟩
  exact get_bind X I (plainGet_of ks.get).1 (findObj_data ks.isC ks.obj ks.gt ks.tk) (plainGet_of ks.get).2 (wpAny_call (slot_get (s := { s with toks := s.toks + 1 }) X I ks.sl rfl (handed_on hv h)))
theorem cmp3_lt (c d : Nat) : decide (cmp3 c d < 0) = decide (c < d) := by
  simp only [cmp3, szB, b2i]
  rcases Nat.lt_trichotomy c d with h | h | h
  · simp [h, Nat.lt_asymm h]
  · subst h; simp
  · simp [h, Nat.lt_asymm h]

theorem less_KV {K fL md cL cell dx dy a b : Addr} {oL oC : Obj} {qL : Str} {dL pL ctL : Value} (F : Fr h₀ L s.heap m) (X : Frag.In (Mine.hd.heap_39 w.params) h₀) (N : News h₀ L s.heap news) (T : Top topProg loo mean mg mb h₀) (hh : A.handled = none)
    (hd : A.depth + 30 < recursionLimit) (hu : A.units + 300 < cLine) {fI : Addr} (ks : KFs news K fI fL md)
    (hfL : (fL, fnMade "__lt__" qL (argsOf (kStmt 3)) (stmtsOf (kStmt 3)) (scopeOf (kStmt 3)) [("mycmp", cell)] dL pL cL ctL) ∈ news) (hcL : (cL, oL) ∈ news) (hnL : NamedCode oL qL) (hce : (cell, oC) ∈ news) (hoC : oC.data = .cell (some (.ref 103)))
    (mx : (x, instK K dx (.ref a)) ∈ news) (mdx : (dx, emptyDict) ∈ news) (my : (y, instK K dy (.ref b)) ∈ news) (mdy : (dy, emptyDict) ∈ news) (na : NstK h₀ news (.ref a) c) (nb : NstK h₀ news (.ref b) d)
    (ret : ∀ h' tk', Fr h₀ L h' m → News h₀ L h' news → Q (.bool (decide (c < d))) { s with heap := h', toks := tk' }) :
    wpAny (model prog w) A (call (.ref fL) [.ref x, .ref y]) Q E s := by
  obtain ⟨hA, dp, fr, gd, un⟩ := A
  dsimp only at hh hd hu
  subst hh
  have hcr : s.heap.CodeRec (.ref cL) qL := hnL.rec' (N _ hcL).1
  refine wpAny_call (enterF (binds := [(Str.ofString "self", .ref x), (Str.ofString "other", .ref y)]) F X N T hfL rfl hcr ?room (BindsTo.of_eq ?bind) ?loc ?_ rfl rfl rfl (by decide))
  case room => dsimp only; exact rm0 (by assumption)
  case bind => rfl
  case loc => exact List.forall_mem_cons.mpr ⟨rfl, List.forall_mem_cons.mpr ⟨rfl, fun _ h => nomatch h⟩⟩
  intro g1 L1 h1 FG F1 N1 X1 T1 l1
  replace na := na.mono FG.keep (fun _ h => h)
  replace nb := nb.mono FG.keep (fun _ h => h)
  conv in execs _ => arg 1; whnf
  walk1
  walk1
  walk1
  walk1
  refine nameX_F N1 (c := cell) rfl hce hoC ?_
  k_steps
  refine get_objK (frag_in (newsHere N1)) ks mx mdx (newsHere N1) rfl ?_
  k_steps
  refine get_objK (frag_in (newsHere N1)) ks my mdy (newsHere N1) rfl ?_
  k_steps
  refine law_compare F1 X1 N1 T1 rfl na nb ?_ ?_ ?_
  · ((try dsimp only [depth_deeper, depth_in1]); exact rm2 (by assumption) (by exact rfl))
  · ((try dsimp only [units_deeper, units_in1, Around.mark_units]); exact rm2 (by assumption) (by exact rfl))
  intro t h2 tk2 F2 N2
  k_steps
  rw [cmp3_lt]
  exact ret _ _ (by assumption) (by assumption)
end
end

/- OC -/
theorem offOC : True := by
  w_top off
  exact trivial
section
open PySem PySem.W PyProof.Rows PySem.Spec PySem.Calls PySem.SeqAt PyProof.V
set_option Elab.async false
set_option maxRecDepth 100000
set_option maxHeartbeats 2000000
noncomputable def KOut (ps : List (Value × Nat)) (out : List Value) : Prop := ∃ qs : List (Value × Nat), qs.Perm ps ∧ out = qs.map (·.1) ∧ qs.Pairwise (fun p q => p.2 ≤ q.2)
noncomputable def KeyOf (K : Addr) (own : List (Addr × Obj)) (k v : Value) : Prop := ∃ x dx, k = .ref x ∧ (x, instK K dx v) ∈ own ∧ (dx, emptyDict) ∈ own
theorem KeyOf.mono {K : Addr} {own own' : List (Addr × Obj)} {k v : Value} (x : KeyOf K own k v) (h : ∀ p ∈ own, p ∈ own') : KeyOf K own' k v := by
  obtain ⟨x, dx, e, a, b⟩ := x; exact ⟨x, dx, e, h _ a, h _ b⟩
theorem kout_of {keys : List Value} {ps : List (Value × Nat)} {kf : Value → Nat} (hl : keys.length = ps.length) (hk : ∀ (i : Nat) (k : Value) (p : Value × Nat), keys[i]? = some k → ps[i]? = some p → kf k = p.2)
    {xs : Array Keyed} (hp : xs.Perm (keys.toArray.zip (ps.map (·.1)).toArray)) (hs : UpTo kf xs xs.size) : KOut ps (xs.map (·.2)).toList := by
  have hpl := Array.perm_iff_toList_perm.mp hp
  rw [ksk_zip] at hpl
  refine ⟨xs.toList.map (fun p => (p.2, kf p.1)), ?_, ?_, ?_⟩
  · refine (hpl.map _).trans (List.Perm.of_eq ?_)
    refine List.ext_getElem (by simp [hl]) fun i h1 h2 => ?_
    simp only [List.getElem_map, List.getElem_zip]
    rw [hk i _ ps[i] (List.getElem?_eq_getElem (by exact eqlt (by assumption) (by assumption))) (List.getElem?_eq_getElem h2)]
  · rw [Array.toList_map, List.map_map]; rfl
  · rw [List.pairwise_map, List.pairwise_iff_getElem]
    intro i j hi hj hij
    have hi' : i < xs.size := by simpa using hi
    have hj' : j < xs.size := by simpa using hj
    have := hs i j (Nat.le_of_lt hij) hj'
    unfold KN at this
    rw [getElem?_pos xs i hi', getElem?_pos xs j hj'] at this
    simpa using this
section
variable {prog : Program} {w : World} {mean : ExcName → Option Value} {mg mb : Str → Option Value} {A : Around} {h₀ : Heap} {L a kS : Addr} {m : Str → Option Value} {rest news : List (Addr × Obj)} {s : Shared} {x y : Addr} {c d e1 : Nat}
    {Q E : Value → Shared → Prop} {K : Addr} {ps : List (Value × Nat)} {P : PySem.Fin → Shared → Prop}
theorem less_one {own : List (Addr × Obj)} {k k' v v' : Value} {c c' : Nat} {Q : Bool → Shared → Prop} (F : Fr h₀ L s.heap m) (X : Frag.In (Mine.hd.heap_39 w.params) h₀) (N : News h₀ L s.heap own) (T : Top topProg loo mean mg mb h₀) (hh : A.handled = none)
    (hd : A.depth + 30 < recursionLimit) (hu : A.units + 300 < cLine) (B : KOk own K) (hk : KeyOf K own k v) (hk' : KeyOf K own k' v') (nv : NstK h₀ own v c) (nv' : NstK h₀ own v' c')
    (ret : ∀ h' tk', Fr h₀ L h' m → News h₀ L h' own → Q (decide (c < c')) { s with heap := h', toks := tk' }) : wpAny (model prog w) A (oneLt' true k k') Q E s := by
  obtain ⟨x, dx, rfl, mx, mdx⟩ := hk
  obtain ⟨y, dy, rfl, my, mdy⟩ := hk'
  have nv0 := nv
  have nv0' := nv'
  cases nv with
  | mk _ _ _ _ _ _ =>
  cases nv' with
  | mk _ _ _ _ _ _ =>
  obtain ⟨fI, fL, md, cI, oI, qI, dI, pI, ctI, cL, oL, qL, dL, pL, ctL, cell, oC, ks, hfI, hcI, hnI, hfL, hcL, hnL, hce, hoC, hown⟩ := B.fs (newsHere N)
  rw [oneLt'_eq]
  simp only [if_true]
  refine wpAny_bind (wpAny_cRoomFor (by exact rm0 (by assumption)) ?_)
  obtain ⟨hp, g, dr, t, os⟩ := s
  refine wpAny_bind (wpAny_callSpecialIfBound?_own (hown hp x _ (newsHere N) (N _ mx).1 rfl) ?_)
  refine less_KV F X N T hh hd hu ks hfL hcL hnL hce hoC mx mdx my mdy nv0 nv0' ?_
  intro h' tk' F' N'
  exact wpAny_truthy_bool (ret h' tk' F' N')
theorem typ_key {own : List (Addr × Obj)} {k v : Value} {M : Model} {Q : Value → Shared → Prop} (N : News h₀ L s.heap own) (hk : KeyOf K own k v) (h : Q (.ref K) s) : wpAny M A (typeOf k) Q E s := by
  obtain ⟨x, dx, rfl, mx, mdx⟩ := hk
  exact wpAny_typeOf_ref (N _ mx).1 h
structure KeysOk (K : Addr) (own : List (Addr × Obj)) (ps : List (Value × Nat)) (keys : List Value) (kS a : Addr) : Prop where
  len : keys.length ≤ ps.length
  is : ∀ (i : Nat) (k : Value) (p : Value × Nat), keys[i]? = some k → ps[i]? = some p → KeyOf K own k p.1
  nd : keys.Nodup
  above : ∀ p ∈ own, kS < p.1 ∧ a < p.1
  mem : ∀ k ∈ keys, ∃ x o, k = .ref x ∧ (x, o) ∈ own
theorem key_end {own : List (Addr × Obj)} {keys : Array Value} {e : Nat} (F : Fr h₀ L s.heap m) (X : Frag.In (Mine.hd.heap_39 w.params) h₀) (N : News h₀ L s.heap (own ++ (news ++ [(kS, seqObj "list" keys e), (a, seqObj "list" #[] e1)]))) (T : Top topProg loo mean mg mb h₀) (hh : A.handled = none)
    (hd : A.depth + 40 < recursionLimit) (hu : A.units + 400 < cLine) (B : KOk news K) (hka : kS ≠ a) (hnk : ∀ p ∈ news, p.1 ≠ kS) (hna : ∀ p ∈ news, p.1 ≠ a)
    (hps : ∀ p ∈ ps, NstK h₀ news p.1 p.2) (ko : KeysOk K own ps keys.toList kS a) (hlen : keys.size = ps.length) (h2 : 2 ≤ ps.length) (h64 : ps.length < 64)
    (h : ∀ h' tk out c, Fr h₀ L h' m → News h₀ L h' ((a, seqObj "list" out c) :: news) → KOut ps out.toList → P (.done (.ret .none)) { s with heap := h', toks := tk }) :
    wpAny (model prog w) A (ksk_end a false (ps.map (·.1)).toArray e1 (.ref kS) keys) P E s := by
  have hks : keys.toList.length = ps.length := by rw [Array.length_toList]; exact hlen
  have hvs : (ps.map (·.1)).toArray.size = ps.length := by simp
  have hzs : (keys.zip (ps.map (·.1)).toArray).size = ps.length := by rw [Array.size_zip, hlen, hvs, Nat.min_self]
  obtain ⟨kf, hkf⟩ : ∃ kf : Value → Nat, ∀ (i : Nat) (k : Value) (p : Value × Nat), keys.toList[i]? = some k → ps[i]? = some p → kf k = p.2 := by
    refine ⟨numIn (keys.toList.zip (ps.map (·.2))), fun i k p hk hp => ?_⟩
    have hm : (k, p.2) ∈ keys.toList.zip (ps.map (·.2)) := by
      refine List.mem_of_getElem? (i := i) ?_
      rw [List.getElem?_zip_eq_some]
      exact ⟨hk, by rw [List.getElem?_map, hp]; rfl⟩
    refine numIn_eq (fun p hp q hq e => ?_) hm
    obtain ⟨i, hi⟩ := List.mem_iff_getElem?.mp hp
    obtain ⟨j, hj⟩ := List.mem_iff_getElem?.mp hq
    rw [List.getElem?_zip_eq_some] at hi hj
    have eij : i = j := by
      obtain ⟨hi1, hi2⟩ := List.getElem?_eq_some_iff.mp hi.1
      obtain ⟨hj1, hj2⟩ := List.getElem?_eq_some_iff.mp hj.1
      exact (List.getElem_inj ko.nd).mp (hi2.trans (e.trans hj2.symm))
    subst eij
    exact Option.some.inj (hi.2.symm.trans hj.2)
  have sub : ∀ p ∈ news, p ∈ own ++ (news ++ [(kS, seqObj "list" keys e), (a, seqObj "list" #[] e1)]) := fun p hp => List.mem_append_right _ (List.mem_append_left _ hp)
  have subO : ∀ p ∈ own, p ∈ own ++ (news ++ [(kS, seqObj "list" keys e), (a, seqObj "list" #[] e1)]) := fun p hp => List.mem_append_left _ hp
  have nthK : ∀ k ∈ keys.toList, ∃ (i : Nat) (p : Value × Nat), keys.toList[i]? = some k ∧ ps[i]? = some p := fun k hk => by
    obtain ⟨i, hi⟩ := List.mem_iff_getElem?.mp hk
    have := (List.getElem?_eq_some_iff.mp hi).1
    exact ⟨i, ps[i], hi, List.getElem?_eq_getElem (eqlt' (by assumption) this)⟩
  have hO : LtOk prog w A (fun s' => ∃ h' tk, s' = { s with heap := h', toks := tk } ∧ Fr h₀ L h' m ∧ News h₀ L h' (own ++ (news ++ [(kS, seqObj "list" keys e), (a, seqObj "list" #[] e1)]))) oneType' kf (keys.zip (ps.map (·.1)).toArray) := by
    rintro ⟨k, v⟩ ⟨k', v'⟩ hp hq E s' Q ⟨h', tk, rfl, F', N'⟩ ret
    rw [ksk_zip] at hp hq
    obtain ⟨i, p, hi, hpi⟩ := nthK k (List.of_mem_zip hp).1
    obtain ⟨j, q, hj, hqj⟩ := nthK k' (List.of_mem_zip hq).1
    rw [keyLt'_oneType]
    refine less_one (c := p.2) (c' := q.2) F' X N' T hh (by exact rm1 (by assumption) (by exact rfl)) (by exact rm1 (by assumption) (by exact rfl)) (B.mono sub) ((ko.is i k p hi hpi).mono subO) ((ko.is j k' q hj hqj).mono subO) ((hps p (List.mem_of_getElem? hpi)).mono (fun _ _ e => e) sub) ((hps q (List.mem_of_getElem? hqj)).mono (fun _ _ e => e) sub) ?_
    intro h2 tk2 F2 N2
    rw [← hkf i k p hi hpi, ← hkf j k' q hj hqj]
    exact ret _ ⟨_, _, rfl, F2, N2⟩
  unfold ksk_end
  dsimp only
  rw [if_neg (by decide), if_neg (by rw [hvs]; omega), if_neg (by rw [hvs]; omega), if_neg (by decide)]
  have hkk : ∀ Q : SortKind → Shared → Prop, Q oneType' s → wpAny (model prog w) A (keyKind' keys) Q E s := fun Q hq => by
    have := keyKind_one (prog := prog) (w := w) (A := A) (E := E) (s := s) (T := .ref K) (vs := keys.toList) (Q := Q) (by exact eqlt (by assumption) (by assumption)) (fun k hk Q' hq' => by
      obtain ⟨i, p, hi, hpi⟩ := nthK k hk
      exact typ_key N ((ko.is i k p hi hpi).mono subO) hq') (by simp) hq
    rwa [Array.toArray_toList] at this
  refine wpAny_bind (hkk _ ?_)
  have hmain := wpI_sort (E := E) (prog := prog) (w := w) (A := A) (κ := oneType') (kf := kf) (a₀ := keys.zip (ps.map (·.1)).toArray)
    (st := SortSt.mk' oneType' (keys.zip (ps.map (·.1)).toArray) #[] 7 none)
    (Q := fun _ st' => (arrOf st').Perm (keys.zip (ps.map (·.1)).toArray) ∧ failedOf st' = none ∧ UpTo kf (arrOf st') (keys.zip (ps.map (·.1)).toArray).size)
    hO ⟨Array.Perm.refl _, rfl, rfl, rfl⟩ (by rw [hzs]; exact h2) (by rw [hzs]; exact h64) (fun st' a1 a2 a3 => ⟨a1, a2, a3⟩)
  refine wpAny_bind (wpAny_mono (hmain s ⟨s.heap, s.toks, rfl, F, N⟩) ?_ fun _ _ e => e)
  rintro ⟨⟨⟩, st'⟩ s' ⟨⟨h3, tk3, rfl, F3, N3⟩, hp, hf, hs⟩
  dsimp only at hp hf hs ⊢
  have nk := N3 (kS, seqObj "list" keys e) (List.mem_append_right _ (List.mem_append_right _ (.head _)))
  have na := N3 (a, seqObj "list" #[] e1) (List.mem_append_right _ (List.mem_append_right _ (.tail _ (.head _))))
  have Nn : News h₀ L h3 news := fun p hp => N3 p (sub p hp)
  have hsz2 : (arrOf st').size = ps.length := by rw [hp.size_eq, hzs]
  have hout : ((arrOf st').map (·.2)).size = ps.length := by rw [Array.size_map]; exact hsz2
  have s1 := Heap.SameBut.update h3 kS (Obj.mapSeq fun _ => (#[] : Array Value))
  have na1 : (h3.update kS (Obj.mapSeq fun _ => (#[] : Array Value))).get? a = some (seqObj "list" #[] e1) := (s1.2 a hka.symm).trans na.1
  have s2 := Heap.SameBut.update (h3.update kS (Obj.mapSeq fun _ => (#[] : Array Value))) a (Obj.mapSeq fun _ => (arrOf st').map (·.2))
  obtain ⟨c2, hc2⟩ : ∃ c2, ((h3.update kS (Obj.mapSeq fun _ => (#[] : Array Value))).update a (Obj.mapSeq fun _ => (arrOf st').map (·.2))).get? a = some (seqObj "list" ((arrOf st').map (·.2)) c2) :=
    ⟨_, get?_update_seq na1 fun _ => (arrOf st').map (·.2)⟩
  have N2 := ksk_news (ksk_news Nn s1 hnk) s2 hna
  unfold ksk_tail
  try dsimp only
  refine wpAny_bind (listUpdate_at nk.1 rfl ?_ (by rw [hlen, sizeLine_eq]; exact lel (by assumption) (by exact rfl)) (Nat.zero_le _))
  refine wpAny_bind (wpAny_letGo ?_)
  refine wpAny_bind (seqEpoch_at na1 rfl ?_)
  refine wpAny_bind (listUpdate_at na1 rfl ?_ (Nat.zero_le _) (Nat.le_trans (Nat.le_of_eq hout) (by rw [sizeLine_eq]; exact lel (by assumption) (by exact rfl))))
  rw [hf]
  simp only [bne_self_eq_false, Bool.false_eq_true, if_false]
  refine wpAny_pure (h _ _ _ c2 (ksk_fr (ksk_fr F3 s1 nk.2.1 nk.2.2) s2 na.2.1 na.2.2) (fun p hp => ?_) (kout_of (xs := arrOf st') hks hkf (by rw [Array.toArray_toList]; exact hp) (by rw [hp.size_eq]; exact hs)))
  rcases List.mem_cons.mp hp with rfl | hp
  · exact ⟨hc2, na.2⟩
  · exact N2 p hp

theorem key_rest {vs : List Value} (hvs : ps.map (·.1) = vs) (F : Fr h₀ L s.heap m) (X : Frag.In (Mine.hd.heap_39 w.params) h₀) (N : News h₀ L s.heap (news ++ [(kS, seqObj "list" #[] 0), (a, seqObj "list" #[] e1)])) (T : Top topProg loo mean mg mb h₀) (hh : A.handled = none)
    (hd : A.depth + 40 < recursionLimit) (hu : A.units + 400 < cLine) (B : KOk news K) (hka : kS ≠ a) (hnk : ∀ p ∈ news, p.1 ≠ kS) (hna : ∀ p ∈ news, p.1 ≠ a)
    (hps : ∀ p ∈ ps, NstK h₀ news p.1 p.2) (h2 : 2 ≤ ps.length) (h64 : ps.length < 64)
    (h : ∀ h' tk out c, Fr h₀ L h' m → News h₀ L h' ((a, seqObj "list" out c) :: news) → KOut ps out.toList → P (.done (.ret .none)) { s with heap := h', toks := tk }) :
    wpAny (model prog w) A (ksk_rest a (.ref K) false vs.toArray e1 (.ref kS)) P E s := by
  subst hvs
  unfold ksk_rest
  refine wpAny_bind (wpAny_rule ?_)
  rw [List.forIn_toArray]
  refine wpAny_bind (ksk_fold (fun i s' => ∃ h' tk kA e own, s' = { s with heap := h', toks := tk } ∧ Fr h₀ L h' m ∧ News h₀ L h' (own ++ (news ++ [(kS, seqObj "list" kA e), (a, seqObj "list" #[] e1)])) ∧ kA.size = i ∧ KeysOk K own ps kA.toList kS a) (ps.map (·.1)) 0 s
    ⟨s.heap, s.toks, #[], 0, [], rfl, F, N, rfl, ⟨Nat.zero_le _, fun i k p hk => (by simp at hk), List.nodup_nil, fun p hp => (nomatch hp), fun k hk => (nomatch hk)⟩⟩ ?step ?done)
  case step =>
    rintro j x s' hx ⟨h', tk, kA, e, own, rfl, F', N', hks, ko⟩
    simp only [Nat.zero_add] at hks ⊢
    have hj : j < ps.length := by have := (List.getElem?_eq_some_iff.mp hx).1; simpa using this
    have hxe : x = ps[j].1 := by
      have := (List.getElem?_eq_some_iff.mp hx).2
      simpa using this.symm
    refine wpAny_bind (wpAny_attempt (make_KV F' X N' T hh (by exact rm1 (by assumption) (by exact rfl)) (by exact rm1 (by assumption) (by exact rfl)) (B.mono fun p hp => List.mem_append_right _ (List.mem_append_left _ hp)) ?_))
    intro z dz g tk2 F2 N2 lt1 lt2
    dsimp only
    have nk := N2 (kS, seqObj "list" kA e) (.tail _ (.tail _ (List.mem_append_right _ (List.mem_append_right _ (.head _)))))
    have na := N2 (a, seqObj "list" #[] e1) (.tail _ (.tail _ (List.mem_append_right _ (List.mem_append_right _ (.tail _ (.head _))))))
    have ltk : kS < dz := lt1 (kS, seqObj "list" kA e) (List.mem_append_right _ (List.mem_append_right _ (.head _)))
    have lta : a < dz := lt1 (a, seqObj "list" #[] e1) (List.mem_append_right _ (List.mem_append_right _ (.tail _ (.head _))))
    have s1 := Heap.SameBut.update g kS (Obj.mapSeq (·.push (.ref z)))
    obtain ⟨c2, hc2⟩ : ∃ c2, (g.update kS (Obj.mapSeq (·.push (.ref z)))).get? kS = some (seqObj "list" (kA.push (.ref z)) c2) := ⟨_, get?_update_seq nk.1 (·.push (.ref z))⟩
    refine wpAny_bind (listUpdate_at nk.1 rfl ?_ (by rw [sizeLine_eq]; omega) (Nat.le_trans (Nat.le_of_eq (Array.size_push ..)) (by rw [sizeLine_eq]; omega)))
    have ab : ∀ p ∈ (z, instK K dz x) :: (dz, emptyDict) :: own, kS < p.1 ∧ a < p.1 := by
      intro p hp
      rcases List.mem_cons.mp hp with rfl | hp
      · exact ⟨Nat.lt_trans ltk lt2, Nat.lt_trans lta lt2⟩
      · rcases List.mem_cons.mp hp with rfl | hp
        · exact ⟨ltk, lta⟩
        · exact ko.above p hp
    refine wpAny_pure ⟨rfl, _, _, kA.push (.ref z), c2, (z, instK K dz x) :: (dz, emptyDict) :: own, rfl, ksk_fr F2 s1 nk.2.1 nk.2.2, fun p hp => ?_, by rw [Array.size_push, hks], ?_⟩
    · have old : ∀ p ∈ (z, instK K dz x) :: (dz, emptyDict) :: (own ++ (news ++ [(kS, seqObj "list" kA e), (a, seqObj "list" #[] e1)])), p.1 ≠ kS → (g.update kS (Obj.mapSeq (·.push (.ref z)))).get? p.1 = some p.2 ∧ p.1 ≠ L ∧ h₀.get? p.1 = none := fun p hp ne =>
        ⟨(s1.2 p.1 ne).trans (N2 p hp).1, (N2 p hp).2⟩
      rcases List.mem_append.mp hp with hp | hp
      · refine old p ?_ (Nat.ne_of_gt (ab p hp).1)
        rcases List.mem_cons.mp hp with rfl | hp
        · exact .head _
        · rcases List.mem_cons.mp hp with rfl | hp
          · exact .tail _ (.head _)
          · exact .tail _ (.tail _ (List.mem_append_left _ hp))
      · rcases List.mem_append.mp hp with hp | hp
        · exact old p (.tail _ (.tail _ (List.mem_append_right _ (List.mem_append_left _ hp)))) (hnk p hp)
        · rcases List.mem_cons.mp hp with rfl | hp
          · exact ⟨hc2, nk.2⟩
          · rw [List.mem_singleton.mp hp]
            exact ⟨(s1.2 a hka.symm).trans na.1, na.2⟩
    · have ea : (kA.push (Value.ref z)).toList = kA.toList ++ [Value.ref z] := by simp
      rw [ea]
      have hl : kA.toList.length = j := by rw [Array.length_toList]; exact hks
      refine ⟨by rw [List.length_append, hl]; simp; assumption, fun i k p hk hp => ?_, ?_, ab, fun k hk => ?_⟩
      · rcases Nat.lt_or_ge i j with hij | hij
        · rw [List.getElem?_append_left (by exact eqlt (by assumption) (by assumption))] at hk
          exact (ko.is i k p hk hp).mono fun _ h => .tail _ (.tail _ h)
        · rw [List.getElem?_append_right (hl ▸ hij), hl] at hk
          have : i = j := by
            have := (List.getElem?_eq_some_iff.mp hk).1
            simp at this; exact Nat.le_antisymm (Nat.le_of_sub_eq_zero this) hij
          subst this
          simp at hk
          subst hk
          have : p = ps[i] := (Option.some.inj ((List.getElem?_eq_getElem hj).symm.trans hp)).symm
          subst this
          exact ⟨z, dz, rfl, by rw [hxe]; exact .head _, .tail _ (.head _)⟩
      · rw [List.nodup_append]
        refine ⟨ko.nd, by simp, fun k hk k' hk' e => ?_⟩
        rw [List.mem_singleton.mp hk'] at e
        subst e
        obtain ⟨x', o', e', hm⟩ := ko.mem _ hk
        cases e'
        have := lt1 (z, o') (List.mem_append_left _ hm)
        exact Nat.lt_irrefl _ (Nat.lt_trans this lt2)
      · rcases List.mem_append.mp hk with hk | hk
        · obtain ⟨x', o', e', hm⟩ := ko.mem _ hk
          exact ⟨x', o', e', .tail _ (.tail _ hm)⟩
        · rw [List.mem_singleton.mp hk]
          exact ⟨z, _, rfl, .head _⟩
  case done =>
    rintro s' ⟨h', tk, kA, e, own, rfl, F', N', hks, ko⟩
    have nk := N' (kS, seqObj "list" kA e) (List.mem_append_right _ (List.mem_append_right _ (.head _)))
    try dsimp only
    refine wpAny_bind (listItems_at nk.1 rfl ?_)
    exact key_end F' X N' T hh hd hu B hka hnk hna hps ko (by rw [hks]; simp) h2 h64 fun h3 tk3 out c F3 N3 k3 => h h3 tk3 out c F3 N3 k3

theorem key_sort {n : Nat} {vs : List Value} (hvs : ps.map (·.1) = vs) (F : Fr h₀ L s.heap m) (X : Frag.In (Mine.hd.heap_39 w.params) h₀) (N : News h₀ L s.heap news) (T : Top topProg loo mean mg mb h₀) (hh : A.handled = none)
    (hd : A.depth + 40 < recursionLimit) (hu : A.units + 400 < cLine) (B : KOk news K) (ho : s.heap.get? a = some (seqObj "list" vs.toArray n)) (haL : a ≠ L) (ha0 : h₀.get? a = none) (hna : ∀ p ∈ news, p.1 ≠ a)
    (hps : ∀ p ∈ ps, NstK h₀ news p.1 p.2) (h2 : 2 ≤ ps.length) (h64 : ps.length < 64)
    (h : ∀ h' tk out c, Fr h₀ L h' m → News h₀ L h' ((a, seqObj "list" out c) :: news) → KOut ps out.toList → P (.done (.ret .none)) { s with heap := h', toks := tk }) :
    wpAny (model prog w) A (ksk_tree a (.ref K) false) P E s := by
  have hlen : vs.length = ps.length := by rw [← hvs]; simp
  have ha : a < s.heap.objs.size := Heap.lt_size ho
  have s1 := Heap.SameBut.update s.heap a (Obj.mapSeq fun _ => (#[] : Array Value))
  obtain ⟨e1, ho1⟩ : ∃ e1, (s.heap.update a (Obj.mapSeq fun _ => (#[] : Array Value))).get? a = some (seqObj "list" #[] e1) := ⟨_, get?_update_seq ho fun _ => #[]⟩
  have F1 := ksk_fr F s1 haL ha0
  have N1 := ksk_news N s1 hna
  have hkS : ((s.heap.update a (Obj.mapSeq fun _ => (#[] : Array Value))).push (seqObj "tuple" vs.toArray 0)).objs.size = s.heap.objs.size + 1 := by rw [size_push', Heap.size_update]
  have hLk : L < ((s.heap.update a (Obj.mapSeq fun _ => (#[] : Array Value))).push (seqObj "tuple" vs.toArray 0)).objs.size := (F1.push _).ns.lt
  unfold ksk_tree
  refine wpAny_bind (listItems_at ho rfl ?_)
  refine wpAny_bind (listUpdate_at ho rfl ?_ (by rw [List.size_toArray, sizeLine_eq]; exact eql (by assumption) (by assumption) (by exact rfl)) (Nat.zero_le _))
  refine wpAny_bind (seqEpoch_at ho1 rfl ?_)
  refine wpAny_bind (wpAny_newTuple ?_ (by show vs.length ≤ _; rw [sizeLine_eq]; exact eql (by assumption) (by assumption) (by exact rfl)))
  refine wpAny_bind (wpAny_newList ?_ (Nat.zero_le _))
  refine wpAny_holding ?_
  refine key_rest (vs := vs) hvs (s := { s with heap := ((s.heap.update a (Obj.mapSeq fun _ => (#[] : Array Value))).push (seqObj "tuple" vs.toArray 0)).push (seqObj "list" #[] 0) }) (kS := ((s.heap.update a (Obj.mapSeq fun _ => (#[] : Array Value))).push (seqObj "tuple" vs.toArray 0)).objs.size)
    ((F1.push _).push _) X (fun p hp => ?_) T hh hd hu B (by rw [hkS]; exact Nat.ne_of_gt (Nat.lt_succ_of_lt ha)) (fun p hp => by rw [hkS]; exact Nat.ne_of_lt (Nat.lt_succ_of_lt (Heap.lt_size (N p hp).1))) hna hps h2 h64 h
  rcases List.mem_append.mp hp with hp | hp
  · exact ⟨Heap.get?_push_of_some _ (Heap.get?_push_of_some _ (N1 p hp).1), (N1 p hp).2⟩
  · rcases List.mem_cons.mp hp with rfl | hp
    · exact ⟨Heap.get?_push_size _ rfl, Nat.ne_of_gt hLk, Heap.get?_none_of_le (Nat.le_trans F.above (Nat.le_of_lt hLk))⟩
    · rw [List.mem_singleton.mp hp]
      exact ⟨Heap.get?_push_of_some _ (Heap.get?_push_of_some _ ho1), haL, ha0⟩

theorem sorted_key {l : Addr} (F : Fr h₀ L s.heap m) (X : Frag.In (Mine.hd.heap_39 w.params) h₀) (N : News h₀ L s.heap news) (T : Top topProg loo mean mg mb h₀) (hh : A.handled = none)
    (hd : A.depth + 40 < recursionLimit) (hu : A.units + 410 < cLine) (B : KOk news K) (hl : s.heap.IsList l (ps.map (·.1)).toArray)
    (hps : ∀ p ∈ ps, NstK h₀ news p.1 p.2) (h2 : 2 ≤ ps.length) (h64 : ps.length < 64)
    (h : ∀ D h' tk out c, Fr h₀ L h' m → News h₀ L h' ((D, seqObj "list" out c) :: news) → (∀ q ∈ news, q.1 < D) → KOut ps out.toList → Q (.ref D) { s with heap := h', toks := tk }) :
    wpAny (model prog w) A (call (.builtin "sorted") [.ref l] [(Str.ofString "key", .ref K)]) Q E s := by
  refine call_function_entry_kw kind_sorted plain_sorted entry_sorted (ksk_s1 _ _) ?_
  unfold Builtin.«sorted»
  refine wpAny_bind (m := checkCount "sorted" 1 1 _) (wpAny_pure ?_)
  obtain ⟨vs, hvs⟩ : ∃ vs, vs = ps.map (·.1) := ⟨_, rfl⟩
  have hlen : vs.length = ps.length := by rw [hvs]; simp
  rw [← hvs] at hl
  refine wpAny_bind (collect_list hl ?_ (by rw [sizeLine_eq]; exact eql (by assumption) (by assumption) (by exact rfl)))
  refine wpAny_bind (wpAny_newList ?_ (by rw [sizeLine_eq]; exact eql (by assumption) (by assumption) (by exact rfl)))
  have hsz : ((s.heap.push (seqObj "list" #[] 0)).update s.heap.objs.size (Obj.mapSeq (· ++ vs.toArray))).objs.size = s.heap.objs.size + 1 := by
    rw [Heap.size_update, size_push']
  have hoL : (((s.heap.push (seqObj "list" #[] 0)).update s.heap.objs.size (Obj.mapSeq (· ++ vs.toArray))).push (seqObj "list" vs.toArray 0)).get? (s.heap.objs.size + 1) = some (seqObj "list" vs.toArray 0) := by
    rw [← hsz]; exact Heap.get?_push_size _ rfl
  have keep : ∀ b o, s.heap.get? b = some o → (((s.heap.push (seqObj "list" #[] 0)).update s.heap.objs.size (Obj.mapSeq (· ++ vs.toArray))).push (seqObj "list" vs.toArray 0)).get? b = some o := fun b o q => by
    have hlt : b < s.heap.objs.size := Heap.lt_size q
    rw [Heap.get?_push_ne _ _ _ (by rw [hsz]; exact Nat.ne_of_lt (Nat.lt_succ_of_lt hlt)), Heap.get?_update_ne _ _ _ _ (Nat.ne_of_lt hlt), Heap.get?_push_ne _ _ _ (Nat.ne_of_lt hlt)]
    exact q
  have hL : L < s.heap.objs.size := F.ns.lt
  show wpAny _ _ _ _ _ { s with heap := ((s.heap.push (seqObj "list" #[] 0)).update s.heap.objs.size (Obj.mapSeq (· ++ vs.toArray))).push (seqObj "list" vs.toArray 0) }
  rw [hsz]
  refine wpAny_bind (wpAny_holding (wpAny_call_entry_kw slot_list_sort ⟨_, hoL, rfl⟩ entry_list_sort ?body (ksk_l1 _ _)))
  case body =>
    show wpAny (model prog w) A.in1.in1 (Builtin.«list.sort» ⟨[.ref (s.heap.objs.size + 1)], [(Str.ofString "key", .ref K)]⟩) _ _ _
    rw [ksk_t1]
    refine key_sort (vs := vs) hvs.symm (s := { s with heap := ((s.heap.push (seqObj "list" #[] 0)).update s.heap.objs.size (Obj.mapSeq (· ++ vs.toArray))).push (seqObj "list" vs.toArray 0) })
      (F.kept keep) X (N.grown keep) T hh hd ?units B hoL (Nat.ne_of_gt (Nat.lt_succ_of_lt hL)) (Heap.get?_none_of_le (Nat.le_trans F.above (Nat.le_succ_of_le (Nat.le_of_lt hL))))
      (fun p hp => Nat.ne_of_lt (Nat.lt_succ_of_lt (Heap.lt_size (N p hp).1))) hps h2 h64 fun h' tk out c F' N' k' => ⟨_, rfl, ?_⟩
    case units => show A.units + 1 + 1 + 400 < cLine; exact rm3 (by assumption) (by exact rfl)
    exact wpAny_pure ⟨_, rfl, h _ h' tk out c F' N' (fun q hq => Nat.lt_succ_of_lt (Heap.lt_size (N q hq).1)) k'⟩
end
end

/- OD -/
theorem offOD : True := by
  w_top off
  exact trivial
section
open PySem PySem.W PyProof.Rows PySem.Spec PySem.Calls PySem.SeqAt PyProof.V
set_option Elab.async false
set_option maxRecDepth 100000
set_option maxHeartbeats 2000000
noncomputable def TupIs (h : Heap) (v : Value) (n : Nat) : Prop := ∃ a o c i t u k, v = .ref a ∧ h.get? a = some o ∧ o.cls = .type "tuple" ∧ o.data = .seq #[.int (Int.ofNat c) t, .int (Int.ofNat i) u] k ∧ i < 64 ∧ n = c * 64 + i
theorem TupIs.keeps {h h' : Heap} {v : Value} {n : Nat} (x : TupIs h v n) (k : ∀ b o, h.get? b = some o → h'.get? b = some o) : TupIs h' v n := by
  obtain ⟨a, o, c, i, t, u, k', e, ho, r⟩ := x; exact ⟨a, o, c, i, t, u, k', e, k _ _ ho, r⟩
theorem TupIs.uniq {h : Heap} {v : Value} {n n' : Nat} (x : TupIs h v n) (y : TupIs h v n') : n = n' := by
  obtain ⟨a, o, c, i, t, u, k, rfl, ho, hc, hd, hi, rfl⟩ := x
  obtain ⟨a', o', c', i', t', u', k', e, ho', hc', hd', hi', rfl⟩ := y
  cases e
  rw [ho] at ho'; cases ho'
  rw [hd] at hd'
  injection hd' with e1 e2
  have e3 := congrArg Array.toList e1
  simp only [List.cons.injEq, Value.int.injEq, and_true] at e3
  obtain ⟨⟨e4, _⟩, e5, _⟩ := e3
  rw [Int.ofNat.inj e4, Int.ofNat.inj e5]
theorem sort_same (a : Addr) : Builtin.«list.sort» ⟨[.ref a], []⟩ = Builtin.«list.sort» ⟨[.ref a], [(Str.ofString "reverse", .bool false)]⟩ := by rfl
section
variable {prog : Program} {w : World} {A : Around} {E Q : Value → Shared → Prop} {s : Shared} {h₀ : Heap} {L : Addr} {m : Str → Option Value} {news : List (Addr × Obj)} {kf : Value → Nat}
theorem sorted_plain {κ : SortKind} {l : Addr} {vs : List Value} {Q : Value → Shared → Prop} (hl : s.heap.IsList l vs.toArray) (h64 : vs.length < 64)
    (hkk : 2 ≤ vs.length → ∀ (A' : Around) (E' : Value → Shared → Prop) (Q : SortKind → Shared → Prop), A'.units ≤ A.units + 4 → Q κ (sortMid (sortPre s vs) (s.heap.objs.size + 1) vs) → wpAny (model prog w) A' (keyKind' vs.toArray) Q E' (sortMid (sortPre s vs) (s.heap.objs.size + 1) vs))
    (hO : ∀ A' : Around, A'.units ≤ A.units + 4 → LtOk prog w A' (fun s' => s' = sortMid (sortPre s vs) (s.heap.objs.size + 1) vs) κ kf (pairsOf vs))
    (h : ∀ out : List Value, out.Perm vs → InOrder kf false out → Q (.ref (s.heap.objs.size + 1)) { s with heap := sortedAll s.heap vs out.toArray }) :
    wpAny (model prog w) A (call (.builtin "sorted") [.ref l] []) Q E s := by
  refine call_function_entry_kw kind_sorted plain_sorted entry_sorted (args_sorted1 _) ?_
  unfold Builtin.«sorted»
  refine wpAny_bind (m := checkCount "sorted" 1 1 _) (wpAny_pure ?_)
  refine wpAny_bind (collect_list hl ?_ (by rw [sizeLine_eq]; exact lel (by assumption) (by exact rfl)))
  refine wpAny_bind (wpAny_newList ?_ (by rw [sizeLine_eq]; exact lel (by assumption) (by exact rfl)))
  have hsz : ((s.heap.push (seqObj "list" #[] 0)).update s.heap.objs.size (Obj.mapSeq (· ++ vs.toArray))).objs.size = s.heap.objs.size + 1 := by
    rw [Heap.size_update, size_push']
  have hoL : (sortPre s vs).heap.get? (s.heap.objs.size + 1) = some (seqObj "list" vs.toArray 0) := by
    rw [← hsz]; exact Heap.get?_push_size _ rfl
  show wpAny _ _ _ _ _ (sortPre s vs)
  rw [hsz]
  refine wpAny_bind (wpAny_holding (wpAny_call_entry_kw slot_list_sort ⟨_, hoL, rfl⟩ entry_list_sort ?body (args_list_sort _)))
  show wpAny (model prog w) A.in1.in1 (Builtin.«list.sort» ⟨[.ref (s.heap.objs.size + 1)], []⟩) _ _ _
  rw [sort_same]
  refine (sort_tree (s := sortPre s vs) (kf := kf) hoL h64 (fun h2 Q hq => hkk h2 _ _ Q ?_ hq) (hO _ ?_) fun out a1 a2 => ⟨_, rfl, ?_⟩)
  · exact u24 _
  · exact u24 _
  · exact wpAny_pure ⟨_, rfl, h out a1 a2⟩
theorem sorted_tup {l : Addr} {ps : List (Value × Nat)} (F : Fr h₀ L s.heap m) (N : News h₀ L s.heap news) (hl : s.heap.IsList l (ps.map (·.1)).toArray) (hp : ∀ p ∈ ps, TupIs s.heap p.1 p.2) (h64 : ps.length < 64) (hu : A.units + 20 < cLine)
    (h : ∀ (b : Addr) (qs : List (Value × Nat)) (n : Nat) (h' : Heap), Fr h₀ L h' m → News h₀ L h' ((b, W.listOf (qs.map (·.1)).toArray n) :: news) → (∀ p ∈ news, p.1 < b) → qs.Perm ps → qs.Pairwise (fun p q => p.2 ≤ q.2) → Q (.ref b) { s with heap := h' }) :
    wpAny (model prog w) A (call (.builtin "sorted") [.ref l] []) Q E s := by
  have hn : ∀ p ∈ ps, TupIs (sortMid (sortPre s (ps.map (·.1))) (s.heap.objs.size + 1) (ps.map (·.1))).heap p.1 p.2 := fun p hq => (hp p hq).keeps fun b o e => sortMid_old e rfl
  have hq : ∀ p ∈ ps, ∀ q ∈ ps, p.1 = q.1 → p.2 = q.2 := fun p hp' q hq' e => by
    have a := hp p hp'
    rw [e] at a
    exact a.uniq (hp q hq')
  refine sorted_plain (κ := tuples' true) (kf := numIn ps) hl (by simpa using h64) (fun h2 A' E' Q' hu' hQ' => ?_) (fun A' hu' p q mp mq E' s' Q' hs' hQ' => ?_) (fun out h1 h2 => ?_)
  · have ht : ∃ fs, KatTups (sortMid (sortPre s (ps.map (·.1))) (s.heap.objs.size + 1) (ps.map (·.1))).heap (ps.map (·.1)) fs ∧ (∀ v ∈ fs, ∃ n t, v = Value.int n t) ∧ fs.length = ps.length := by
      clear hl h64 h2 hQ' h hq hp
      generalize (sortMid (sortPre s (ps.map (·.1))) (s.heap.objs.size + 1) (ps.map (·.1))).heap = H at hn ⊢
      induction ps with
      | nil => exact ⟨[], trivial, fun v hv => (nomatch hv), rfl⟩
      | cons p r ih =>
        obtain ⟨fs, a, b, c⟩ := ih fun q hq => hn q (.tail _ hq)
        obtain ⟨a', o, c', i, t, u, k, e, ho, hc, hd, _, _⟩ := hn p (.head _)
        refine ⟨.int (Int.ofNat c') t :: fs, ⟨⟨a', o, _, k, e, ho, hc, hd, rfl⟩, a⟩, fun v hv => ?_, by simp [c]⟩
        rcases List.mem_cons.mp hv with rfl | hv
        · exact ⟨_, _, rfl⟩
        · exact b v hv
    obtain ⟨fs, t1, t2, t3⟩ := ht
    refine kat_kind (T := .type "int") t1 (by rw [t3]; rw [List.length_map] at h2; exact Nat.le_of_lt (by assumption)) (fun v hv => ?_) rfl hQ'
    obtain ⟨n, t, rfl⟩ := t2 v hv
    exact Looks.of_pure rfl
  · subst hs'
    rw [pairsOf_toList] at mp mq
    obtain ⟨p', hp', e1⟩ := List.mem_map.mp (mem_zip_self mp).2
    obtain ⟨q', hq', e2⟩ := List.mem_map.mp (mem_zip_self mq).2
    have z := hQ' _ rfl
    rw [← e1, ← e2] at z ⊢
    rw [numIn_eq hq hp', numIn_eq hq hq'] at z
    obtain ⟨a, o, c, i, t, u, k, e, ho, hc, hd, hi, en⟩ := hn p' hp'
    obtain ⟨a2, o2, c2, i2, t2, u2, k2, e', ho2, hc2, hd2, hi2, en2⟩ := hn q' hq'
    rw [e, e']
    rw [en, en2] at z
    refine kat_lt ho hd ho2 hd2 ?_
    refine kat_cons (wpAny_eqBool_int ?_)
    have d1 : ∀ x y : Nat, ((Int.ofNat x == Int.ofNat y) = true) = (x = y) := fun x y => by rw [beq_iff_eq]; exact propext ⟨fun h => Int.ofNat.inj h, fun h => congrArg _ h⟩
    have d2 : ∀ x y : Nat, decide (Int.ofNat x < Int.ofNat y) = decide (x < y) := fun x y => decide_eq_decide.mpr Int.ofNat_lt
    refine kat_go (fun hk => ?_) (fun hk => ?_)
    · rw [d1] at hk
      subst hk
      refine kat_yes ?_
      refine kat_cons (wpAny_eqBool_int ?_)
      refine kat_go (fun hk => ?_) (fun hk => ?_)
      · rw [d1] at hk
        subst hk
        refine kat_yes (kat_nil ?_)
        simpa using z
      · refine kat_no ?_
        refine kat_one _ _ ?_
        refine PySem.P.lt_int ?_
        have : ¬ i = i2 := fun h => by rw [← d1, hk] at h; cases h
        have e9 : decide (i < i2) = decide (c * 64 + i < c * 64 + i2) := decide_eq_decide.mpr Nat.add_lt_add_iff_left.symm
        rw [d2, e9]; exact z
    · refine kat_no ?_
      show wpAny _ _ (oneLt' true _ _) _ _ _
      refine oneLt_int ?_
      rw [d2]
      have : ¬ c = c2 := fun h => by rw [← d1, hk] at h; cases h
      have e9 : decide (c < c2) = decide (c * 64 + i < c2 * 64 + i2) := decide_eq_decide.mpr (by exact mul64i (by assumption) (by assumption) (by assumption))
      rw [e9]; exact z
  · obtain ⟨e, he⟩ := sortedAll_at s.heap (ps.map (·.1)) out.toArray
    have hm : (out.map fun v => (v, numIn ps v)).map (·.1) = out := by rw [List.map_map]; exact List.map_id out
    refine h _ (out.map fun v => (v, numIn ps v)) e _ (F.kept fun _ _ => sortedAll_old) ?_ (fun p hp => Nat.lt_succ_of_lt (Heap.lt_size (N p hp).1)) (perm_pairs hq h1) ?_
    · rw [hm]; exact N.kept_cons F (fun _ _ => sortedAll_old) (Nat.le_succ _) he
    · rw [List.pairwise_map]
      unfold InOrder at h2
      rw [if_neg (by decide)] at h2
      exact h2
end
end

/- NTa -/
theorem offNTa : True := by
  w_top off
  exact trivial
section
open PySem PySem.W PyProof.Rows PySem.Spec PySem.Calls PySem.SeqAt PyProof.V
set_option Elab.async false
set_option maxRecDepth 100000
set_option maxHeartbeats 2000000
theorem allLt_to' {d : Addr} : ∀ {l : List (Addr × Obj)}, AllLt d l → ∀ q ∈ l, q.1 < d
  | [], _, _, h => nomatch h
  | _ :: _, h, q, hq => by
    rcases List.mem_cons.mp hq with rfl | hq
    · exact h.1
    · exact allLt_to' h.2 q hq
noncomputable def forBody (s : Stmt) : List Stmt := (sParts s).1
noncomputable def setsStmt : Stmt := PySem.Challenge.pw_of0007_01.main.body.getD 12 (.Pass ⟨0, 0, 0, 0⟩)
noncomputable def setsAt (k : Nat) : Stmt := (forBody ((stmtsOf setsStmt).getD 1 (.Pass ⟨0, 0, 0, 0⟩))).getD k (.Pass ⟨0, 0, 0, 0⟩)
noncomputable abbrev setsEnv (L : Addr) (cdv : Value) : Env := envOfC "_law_sets" (scopeOf setsStmt) L 77 cdv
theorem pull {m : Str → Option Value} {x : Str} {v : Value} (h : m x = some v) : m = fun y => if y = x then some v else m y := by
  funext y
  by_cases e : y = x
  · subst e; rw [if_pos rfl]; exact h
  · rw [if_neg e]
section
variable {prog : Program} {w : World} {mean : ExcName → Option Value} {mg mb : Str → Option Value} {A : Around} {h₀ : Heap} {L : Addr} {m : Str → Option Value} {s : Shared}
    {Q : Flow → Shared → Prop} {E : Value → Shared → Prop} {cdv : Value}
theorem len_L {l : Addr} {items : Array Value} {A : Around} {Q : Value → Shared → Prop} (hl : s.heap.IsList l items) (hfit : items.size ≤ 1000) (h : ∀ t tk, Q (.int items.size t) { s with toks := tk }) : wpAny (model prog w) A (call (.builtin "len") [.ref l]) Q E s :=
  Calls.call_function_entry kind_len plain_len entry_len (args_len1 _) (wpAny_len_body_list hl (by exact ile (by assumption) (by exact rfl)) (h _ _))
theorem sets_a {an : Addr} {na i : Nat} {x : Int} {t : Tok} {rs : List SetR} {LG : List (Addr × Obj)} {oN : Obj} (F : Fr h₀ L s.heap m) (X : Frag.In (Mine.hd.heap_39 w.params) h₀) (N : News h₀ L s.heap LG) (T : Top topProg loo mean mg mb h₀) (hh : A.handled = none)
    (hd : A.depth + 20 < recursionLimit) (hu : A.units + 200 < cLine) (dN : oN.data = .cell (some (.ref an))) (mcN : (L + 1, oN) ∈ LG) (man : (an, W.listOf (rs.map fun r => r.v).toArray na) ∈ LG) (hx : m ("x" : Str) = some (.int x t)) (hlen : rs.length = i + 1) (hi6 : i < 6)
    (ret : ∀ h' tk' pl ws ks m', IntsAre ws ks → ks.length ≤ 3 → (∀ k ∈ ks, 0 ≤ k ∧ k < 4 ∧ k < (i : Int) + 1) → m' ("places" : Str) = some (.ref pl) → (∀ z, z ∉ [("size" : Str), ("rest" : Str), ("places" : Str)] → m' z = m z) →
      Fr h₀ L h' m' → News h₀ L h' ((pl, W.listOf ws.toArray 0) :: LG) → (∀ p ∈ LG, p.1 < pl) → Q .next { s with heap := h', toks := tk' }) :
    wpAny (model prog w) (A.deeper (setsEnv L cdv)) (execs [setsAt 0, setsAt 1, setsAt 2] (setsEnv L cdv)) Q E s := by
  obtain ⟨hA, dp, fr, gd, un⟩ := A
  dsimp only at hh hd hu
  subst hh
  have F0 := F
  rw [pull hx] at F
  clear F0
  refine wpAny_execs_cons ?_
  conv in exec _ => arg 1; whnf
  k_steps
  refine len_L (items := (rs.map fun r => r.v).toArray) ⟨_, (N _ man).1, rfl, _, rfl⟩ (by simp; exact eqk (by assumption) (by assumption) (by exact rfl)) fun t1 tk1 => ?_
  have hz : (((rs.map fun r => r.v).toArray.size : Nat) : Int) = (i : Int) + 1 := by simp [hlen]
  rw [hz]
  k_steps
  have m4 := mn4 i (by assumption)
  generalize hsz : (if (i : Int) + 1 < 4 then (i : Int) + 1 else 4) = sz at *
  have hs1 : 1 ≤ sz := m4.1
  have hs4 : sz ≤ 4 := m4.2.1
  have hsl : sz ≤ (i : Int) + 1 := m4.2.2.1
  have hsq : 1 ≤ sz * sz ∧ sz * sz ≤ 16 := m4.2.2.2
  clear hsz m4
  conv in exec _ => arg 1; whnf
  k_steps
  conv in exec _ => arg 1; whnf
  k_steps
  all_goals (try k_data)
  rename_i pl ws hC1 hIw hCw hLw qP hC6 F3 N3
  refine ret _ _ pl ws _ _ hIw (by simp only [List.length_cons, List.length_nil] at hLw ⊢; exact hLw) ?_ (if_pos rfl) ?_ F3 (News.mono' N3 fun p hp => ?_) ?_
  · intro k hk
    have := List.mem_of_mem_take hk
    simp only [List.mem_cons, List.not_mem_nil, or_false] at this
    have hb : 0 ≤ k ∧ k < sz := by
      rcases this with rfl | rfl | rfl <;> exact ⟨Int.fmod_nonneg_of_pos _ hs1, Int.fmod_lt_of_pos _ hs1⟩
    exact ⟨hb.1, Int.lt_of_lt_of_le hb.2 hs4, Int.lt_of_lt_of_le hb.2 hsl⟩
  · intro z hz
    simp only [List.mem_cons, List.not_mem_nil, or_false, not_or] at hz
    simp only [if_neg hz.1, if_neg hz.2.1, if_neg hz.2.2]
    exact (congrFun (pull hx) z).symm
  · rcases List.mem_cons.mp hp with rfl | hp
    · exact .head _
    · exact .tail _ (.tail _ hp)
  · exact allLt_to' qP.2
end
end

/- NTb -/
theorem offNTb : True := by
  w_top off
  exact trivial
section
open PySem PySem.W PyProof.Rows PySem.Spec PySem.Calls PySem.SeqAt PyProof.V
set_option Elab.async false
set_option maxRecDepth 100000
set_option maxHeartbeats 2000000
section
variable {prog : Program} {w : World} {mean : ExcName → Option Value} {mg mb : Str → Option Value} {A : Around} {h₀ : Heap} {L : Addr} {m : Str → Option Value} {s : Shared}
    {Q : Flow → Shared → Prop} {E : Value → Shared → Prop} {cdv : Value}
noncomputable def Picks (rs rk : List SetR) (ks : List Int) : Prop := rk.length = ks.length ∧ ∀ (j : Nat) (k : Int), ks[j]? = some k → ∃ r, rk[j]? = some r ∧ rs[k.toNat]? = some r ∧ 0 ≤ k
theorem sets_b {ac pl : Addr} {nc : Nat} {ws : List Value} {ks : List Int} {rs rk : List SetR} {LG : List (Addr × Obj)} {oK oC : Obj} {cv : Option Value} (F : Fr h₀ L s.heap m) (X : Frag.In (Mine.hd.heap_39 w.params) h₀) (N : News h₀ L s.heap ((L + 1 + 1 + 1, oC) :: LG)) (T : Top topProg loo mean mg mb h₀) (hh : A.handled = none)
    (hd : A.depth + 20 < recursionLimit) (hu : A.units + 200 < cLine) (dK : oK.data = .cell (some (.ref ac))) (dC : oC.data = .cell cv) (mcK : (L + 1 + 1, oK) ∈ LG) (mac : (ac, W.listOf (rs.map fun r => Value.int r.c r.t).toArray nc) ∈ LG) (mpl : (pl, W.listOf ws.toArray 0) ∈ LG)
    (hne : ∀ p ∈ LG, p.1 ≠ L + 1 + 1 + 1) (hI : IntsAre ws ks) (hk3 : ks.length ≤ 3) (hr7 : rs.length ≤ 7) (hp : Picks rs rk ks) (hm : m ("places" : Str) = some (.ref pl))
    (ret : ∀ h' tk' Di nDi oD, oD.data = .cell (some (.ref Di)) → Fr h₀ L h' m → News h₀ L h' ((L + 1 + 1 + 1, oD) :: (Di, W.listOf (rk.map fun r => Value.int r.c r.t).toArray nDi) :: LG) → (∀ p ∈ (L + 1 + 1 + 1, oC) :: LG, p.1 < Di) → Q .next { s with heap := h', toks := tk' }) :
    wpAny (model prog w) (A.deeper (setsEnv L cdv)) (exec (setsAt 3) (setsEnv L cdv)) Q E s := by
  obtain ⟨hA, dp, fr, gd, un⟩ := A
  dsimp only at hh hd hu
  subst hh
  have F0 := F
  rw [pull hm] at F
  clear F0
  conv in exec _ => arg 1; whnf
  k_steps
  rename Fr _ _ _ _ => F1
  have hwl := hI.length
  refine comp_list (lo := W.listOf ws.toArray 0) (vs := ws) (nn := 0) (fun i ys nx => nx = (L + 1 + 1 + 1, oC) :: LG ∧ ys = (rk.take i).map fun r => Value.int r.c r.t) rfl rfl rfl
    (fun i ys nx hj h H => by obtain ⟨rfl, _⟩ := hj; exact H.2 _ (.tail _ mpl)) (by exact eqk (by assumption) (by assumption) (by exact rfl)) F1 N ⟨rfl, rfl⟩ ?turn ?done
  case turn =>
    rintro j v C mc ys nx h2 tk2 own E2 hv ⟨hnx, hys⟩ hyl hoff F2 N2
    subst nx
    refine comp_turn0 ?_
    have mcK' : (L + 1 + 1, oK) ∈ (L + 1 + 1 + 1, oC) :: LG ++ own := List.mem_append_left _ (.tail _ mcK)
    clear F1 N
    k_steps
    all_goals (try k_data)
    obtain ⟨k, tq, rfl, hkj⟩ := ints_get hI hv
    obtain ⟨r, hrk, hr, hk0⟩ := hp.2 j k hkj
    have hkl := (List.getElem?_eq_some_iff.mp hr).1
    refine item_litK (vs := rs.map fun r => Value.int r.c r.t) (v := Value.int r.c r.t) ⟨_, (N2 _ (List.mem_append_left _ (.tail _ mac))).1, rfl, _, rfl⟩ hk0 (by simp; exact tnk (by assumption) (by assumption) (by exact rfl)) (by rw [List.getElem?_map, hr]; rfl) ?_
    exact ⟨_, _, _, _, rfl, F2, N2, hoff, rfl, by rw [hys, List.take_add_one, hrk]; simp⟩
  case done =>
    rintro Di nDi ys nx h2 tk2 ⟨hnx, hys⟩ hyl F2 N2 ltD neD
    subst nx
    clear F1 N
    rw [hwl, ← hp.1, List.take_length] at hys
    subst hys
    k_steps
    all_goals (try k_data)
    have hneD : ∀ p ∈ (Di, W.listOf (rk.map fun r => Value.int r.c r.t).toArray nDi) :: LG, p.1 ≠ L + 1 + 1 + 1 := fun p hp => by
      rcases List.mem_cons.mp hp with rfl | hp
      · exact Nat.ne_of_gt (ltD _ (.head _))
      · exact hne p hp
    refine storeX_C (o := oC) (g := fun o' => (L + 1 + 1 + 1, o') :: (Di, W.listOf (rk.map fun r => Value.int r.c r.t).toArray nDi) :: LG) F2 (News.mono' N2 fun p hp => ?_) rfl (UpdF.head hneD) dC ?_ rfl rfl
    · rcases List.mem_cons.mp hp with rfl | hp
      · exact .tail _ (.head _)
      rcases List.mem_cons.mp hp with rfl | hp
      · exact .head _
      · exact .tail _ (.tail _ hp)
    intro h3 oD F3 N3 dD
    rw [← pull hm] at F3
    exact ret h3 _ Di nDi oD dD F3 N3 ltD
end
end

/- NTc -/
theorem offNTc : True := by
  w_top off
  exact trivial
section
open PySem PySem.W PyProof.Rows PySem.Spec PySem.Calls PySem.SeqAt PyProof.V
set_option Elab.async false
set_option maxRecDepth 100000
set_option maxHeartbeats 2000000
section
variable {prog : Program} {w : World} {mean : ExcName → Option Value} {mg mb : Str → Option Value} {A : Around} {h₀ : Heap} {L : Addr} {m : Str → Option Value} {s : Shared}
    {Q : Flow → Shared → Prop} {E : Value → Shared → Prop} {cdv : Value}
theorem sets_c {ad an pl : Addr} {na nd : Nat} {ws : List Value} {ks : List Int} {rs rk : List SetR} {LG : List (Addr × Obj)} {oN : Obj} (F : Fr h₀ L s.heap m) (X : Frag.In (Mine.hd.heap_39 w.params) h₀) (T : Top topProg loo mean mg mb h₀) (N : News h₀ L s.heap ((ad, W.listOf (rs.map fun r => Value.ref r.d).toArray nd) :: LG)) (hh : A.handled = none)
    (dN : oN.data = .cell (some (.ref an))) (mcN : (L + 1, oN) ∈ LG) (man : (an, W.listOf (rs.map fun r => r.v).toArray na) ∈ LG) (mpl : (pl, W.listOf ws.toArray 0) ∈ LG)
    (hne : ∀ p ∈ LG, p.1 ≠ ad) (hI : IntsAre ws ks) (hk3 : ks.length ≤ 3) (hr7 : rs.length ≤ 7) (hp : Picks rs rk ks) (hm : m ("places" : Str) = some (.ref pl)) (hm2 : m ("draws" : Str) = some (.ref ad))
    (ret : ∀ h' tk' Dd nDd, Fr h₀ L h' m → News h₀ L h' ((ad, W.listOf ((rs.map fun r : SetR => Value.ref r.d) ++ [Value.ref Dd]).toArray (nd + 1)) :: (Dd, W.listOf (rk.map fun r => r.v).toArray nDd) :: LG) → (∀ p ∈ (ad, W.listOf (rs.map fun r => Value.ref r.d).toArray nd) :: LG, p.1 < Dd) → Q .next { s with heap := h', toks := tk' }) :
    wpAny (model prog w) (A.deeper (setsEnv L cdv)) (exec (setsAt 4) (setsEnv L cdv)) Q E s := by
  obtain ⟨hA, dp, fr, gd, un⟩ := A
  dsimp only at hh
  subst hh
  have F0 := F
  rw [pull hm, pull hm2] at F
  clear F0
  conv in exec _ => arg 1; whnf
  k_steps
  all_goals (try k_data)
  rename Fr _ _ _ _ => F1
  rename News _ _ _ _ => N1
  have hwl := hI.length
  refine comp_list (lo := W.listOf ws.toArray 0) (vs := ws) (nn := 0) (fun i ys nx => nx = (ad, W.listOf (rs.map fun r => Value.ref r.d).toArray nd) :: LG ∧ ys = (rk.take i).map fun r => r.v) rfl rfl rfl
    (fun i ys nx hj h H => by obtain ⟨rfl, _⟩ := hj; exact H.2 _ (.tail _ mpl)) (by exact eqk (by assumption) (by assumption) (by exact rfl)) F1 N1 ⟨rfl, rfl⟩ ?turn ?done
  case turn =>
    rintro j v C mc ys nx h2 tk2 own E2 hv ⟨hnx, hys⟩ hyl hoff F2 N2
    subst nx
    refine comp_turn0 ?_
    have mcN' : (L + 1, oN) ∈ (ad, W.listOf (rs.map fun r => Value.ref r.d).toArray nd) :: LG ++ own := List.mem_append_left _ (.tail _ mcN)
    clear F1 N1
    k_steps
    all_goals (try k_data)
    obtain ⟨k, tq, rfl, hkj⟩ := ints_get hI hv
    obtain ⟨r, hrk, hr, hk0⟩ := hp.2 j k hkj
    have hkl := (List.getElem?_eq_some_iff.mp hr).1
    refine item_litK (vs := rs.map fun r => r.v) (v := r.v) ⟨_, (N2 _ (List.mem_append_left _ (.tail _ man))).1, rfl, _, rfl⟩ hk0 (by simp; exact tnk (by assumption) (by assumption) (by exact rfl)) (by rw [List.getElem?_map, hr]; rfl) ?_
    exact ⟨_, _, _, _, rfl, F2, N2, hoff, rfl, by rw [hys, List.take_add_one, hrk]; simp⟩
  case done =>
    rintro Dd nDd ys nx h2 tk2 ⟨hnx, hys⟩ hyl F2 N2 ltD neD
    subst nx
    clear F1 N1
    rw [hwl, ← hp.1, List.take_length] at hys
    subst hys
    k_steps
    all_goals (try k_data)
    have hneD : ∀ p ∈ (Dd, W.listOf (rk.map fun r => r.v).toArray nDd) :: LG, p.1 ≠ ad := fun p hp => by
      rcases List.mem_cons.mp hp with rfl | hp
      · exact Nat.ne_of_gt (ltD _ (.head _))
      · exact hne p hp
    refine append_K (its := (rs.map fun r => Value.ref r.d).toArray) (n := nd) F2 (News.mono' N2 fun p hp => ?_) (Upd.head hneD) ?_ ?size
    case size => simp only [List.size_toArray, List.length_map, sizeLine_eq]; exact lek (by assumption) (by exact rfl)
    · rcases List.mem_cons.mp hp with rfl | hp
      · exact .tail _ (.head _)
      rcases List.mem_cons.mp hp with rfl | hp
      · exact .head _
      · exact .tail _ (.tail _ hp)
    intro h3 F3 N3
    rw [List.push_toArray] at N3
    rw [← pull hm2, ← pull hm] at F3
    k_steps
    exact ret h3 _ Dd nDd F3 N3 ltD
theorem sets_e {ac Di : Addr} {nc nDi : Nat} {rs rk : List SetR} {LG : List (Addr × Obj)} {oK oD : Obj} (F : Fr h₀ L s.heap m) (X : Frag.In (Mine.hd.heap_39 w.params) h₀) (T : Top topProg loo mean mg mb h₀) (N : News h₀ L s.heap ((ac, W.listOf (rs.map fun r => Value.int r.c r.t).toArray nc) :: LG)) (hh : A.handled = none)
    (dK : oK.data = .cell (some (.ref ac))) (dD : oD.data = .cell (some (.ref Di))) (mcK : (L + 1 + 1, oK) ∈ LG) (mcI : (L + 1 + 1 + 1, oD) ∈ LG) (mDi : (Di, W.listOf (rk.map fun r => Value.int r.c r.t).toArray nDi) ∈ LG)
    (hne : ∀ p ∈ LG, p.1 ≠ ac) (hr7 : rs.length ≤ 7)
    (ret : ∀ h' tk' t, Fr h₀ L h' m → News h₀ L h' ((ac, W.listOf ((rs.map fun r : SetR => Value.int r.c r.t) ++ [Value.int ((sumTo (rk.map (·.c)) 12 : Nat) : Int) t]).toArray (nc + 1)) :: LG) → Q .next { s with heap := h', toks := tk' }) :
    wpAny (model prog w) (A.deeper (setsEnv L cdv)) (exec (setsAt 6) (setsEnv L cdv)) Q E s := by
  obtain ⟨hA, dp, fr, gd, un⟩ := A
  dsimp only at hh
  subst hh
  conv in exec _ => arg 1; whnf
  obtain ⟨LX, hX⟩ : ∃ LX, LX = (ac, W.listOf (rs.map fun r => Value.int r.c r.t).toArray nc) :: LG := ⟨_, rfl⟩
  rw [← hX] at N
  have macX : (ac, W.listOf (rs.map fun r => Value.int r.c r.t).toArray nc) ∈ LX := by rw [hX]; exact .head _
  have mcK' : (L + 1 + 1, oK) ∈ LX := by rw [hX]; exact .tail _ mcK
  have mcI0 : (L + 1 + 1 + 1, oD) ∈ LX := by rw [hX]; exact .tail _ mcI
  have mDi0 : (Di, W.listOf (rk.map fun r => Value.int r.c r.t).toArray nDi) ∈ LX := by rw [hX]; exact .tail _ mDi
  k_steps
  all_goals (try k_data)
  rename Fr _ _ _ _ => F1
  rename News _ _ _ _ => N1
  rename IsRange _ _ _ _ _ _ _ _ => hR
  have hIr : IntsAre (rk.map fun r => Value.int r.c r.t) ((rk.map (·.c)).map fun c => ((c : Nat) : Int)) := ints_rk rk
  refine comp_range (fun i ys nx => nx = LX ∧ IntsAre ys (pows (rk.map (·.c)) i)) (n := 12) rfl hR (by decide +kernel) (by decide +kernel) (by exact Nat.le_of_ble_eq_true rfl) F1 N1 ⟨rfl, .nil⟩ ?turn ?done
  case turn =>
    rintro j C mc ys nx h2 tk2 own E2 t2 hj ⟨hnx, hys⟩ hyl hoff F2 N2
    subst nx
    refine comp_turn1 ?_
    have mcI' := List.mem_append_left own mcI0
    clear mcK' mcI0 mcK mcI mDi
    clear F1 N1 hR
    k_steps
    all_goals (try k_data)
    refine in_list_ints ⟨_, (N2 _ (List.mem_append_left _ mDi0)).1, rfl, _, rfl⟩ hIr ?_
    have hj2 : (0 : Int) + (j : Int) * 1 = ((j : Nat) : Int) := by exact ze _
    rw [hj2] at F2
    rw [hj2, any_cast]
    by_cases hjc : j ∈ rk.map (·.c)
    · rw [decide_eq_true hjc]
      have hpow : pows (rk.map (·.c)) (j + 1) = pows (rk.map (·.c)) j ++ [2 ^ j] := if_pos hjc
      k_steps
      all_goals (try k_data)
      unfold EltGoal
      k_steps
      all_goals (try k_data)
      refine ⟨_, _, _, _, rfl, F2, N2, hoff, rfl, ?_⟩
      rw [hpow, Int.toNat_natCast]; exact ints_snoc hys
    · rw [decide_eq_false hjc]
      have hpow : pows (rk.map (·.c)) (j + 1) = pows (rk.map (·.c)) j := if_neg hjc
      k_steps
      all_goals (try k_data)
      refine ⟨_, _, _, _, rfl, F2, N2, hoff, rfl, ?_⟩
      rw [hpow]; exact hys
  case done =>
    rintro D nD ys nx h2 tk2 ⟨hnx, hys⟩ hyl F2 N2 ltD neD
    subst nx
    clear F1 N1 hR
    k_steps
    all_goals (try k_data)
    rename Fr _ _ _ _ => F3
    rename News _ _ _ _ => N3
    rename Tok => t3
    rw [pows_sum]
    refine append_K (its := (rs.map fun r => Value.int r.c r.t).toArray) (n := nc) F3 (News.mono' N3 fun p hp => .tail _ (by rw [hX]; exact hp)) (Upd.head hne) ?_ ?size
    case size => simp only [List.size_toArray, List.length_map, sizeLine_eq]; exact lek (by assumption) (by exact rfl)
    intro h4 F4 N4
    rw [List.push_toArray] at N4
    k_steps
    exact ret h4 _ t3 F4 N4
theorem sets_d {ad an Dd : Addr} {na nd nDd : Nat} {rs : List SetR} {ds : List (Value × Nat)} {LG : List (Addr × Obj)} {oN : Obj} (F : Fr h₀ L s.heap m) (X : Frag.In (Mine.hd.heap_39 w.params) h₀) (T : Top topProg loo mean mg mb h₀) (N : News h₀ L s.heap ((an, W.listOf (rs.map fun r => r.v).toArray na) :: LG)) (hh : A.handled = none)
    (hd : A.depth + 25 < recursionLimit) (hu : A.units + 250 < cLine) (dN : oN.data = .cell (some (.ref an))) (mcN : (L + 1, oN) ∈ LG) (mad : (ad, W.listOf ((rs.map fun r : SetR => Value.ref r.d) ++ [Value.ref Dd]).toArray nd) ∈ LG) (mDd : (Dd, W.listOf (ds.map (·.1)).toArray nDd) ∈ LG)
    (hne : ∀ p ∈ LG, p.1 ≠ an) (hr7 : rs.length ≤ 7) (hds : ∀ p ∈ ds, NstK eH LG p.1 p.2) (hd3 : ds.length ≤ 3) (hm2 : m ("draws" : Str) = some (.ref ad))
    (ret : ∀ (h' : Heap) (tk' : Nat) (b : Addr) (qs : List (Value × Nat)) (n : Nat), qs.Perm (dd ds) → qs.Pairwise (fun p q => q.2 ≤ p.2) → Fr h₀ L h' m → News h₀ L h' ((an, W.listOf ((rs.map fun r : SetR => r.v) ++ [Value.ref b]).toArray (na + 1)) :: (b, W.listOf (qs.map (·.1)).toArray n) :: LG) → (∀ p ∈ (an, W.listOf (rs.map fun r => r.v).toArray na) :: LG, p.1 < b) → Q .next { s with heap := h', toks := tk' }) :
    wpAny (model prog w) (A.deeper (setsEnv L cdv)) (exec (setsAt 5) (setsEnv L cdv)) Q E s := by
  obtain ⟨hA, dp, fr, gd, un⟩ := A
  dsimp only at hh hd hu
  subst hh
  have F0 := F
  rw [pull hm2] at F
  clear F0
  conv in exec _ => arg 1; whnf
  obtain ⟨LX, hX⟩ : ∃ LX, LX = (an, W.listOf (rs.map fun r => r.v).toArray na) :: LG := ⟨_, rfl⟩
  rw [← hX] at N
  have sX : ∀ p ∈ LG, p ∈ LX := fun p hp => by rw [hX]; exact .tail _ hp
  have manX : (an, W.listOf (rs.map fun r => r.v).toArray na) ∈ LX := by rw [hX]; exact .head _
  have mcX := sX _ mcN
  have madX := sX _ mad
  k_steps
  all_goals (try k_data)
  rename Fr _ _ _ _ => F1
  rename News _ _ _ _ => N1
  refine item_last (vs := rs.map fun r => Value.ref r.d) (v := Value.ref Dd) ⟨_, (N1 _ madX).1, rfl, _, rfl⟩ ?_
  k_steps
  all_goals (try k_data)
  refine dedup (ps := ds) F1 X N1 T rfl rfl rfl (fun h H => H.2 _ (sX _ mDd)) (fun p hp => (hds p hp).mono eH_keep sX) (by exact lek (by assumption) (by exact rfl)) (by ((try dsimp only [depth_deeper, depth_in1]); exact rm2 (by assumption) (by exact rfl))) (by ((try dsimp only [units_deeper, units_in1, Around.mark_units]); exact rm2 (by assumption) (by exact rfl))) ?_
  intro b1 n1 h2 tk2 F2 N2 lt2
  clear F1 N1
  have hdd3 : (dd ds).length ≤ 3 := Nat.le_trans (dd_len ds) (by assumption)
  k_steps
  all_goals (try k_data)
  refine sortedRev (ps := dd ds) F2 N2 ⟨_, (N2 _ (.head _)).1, rfl, _, rfl⟩ (fun p hp => (hds p ((ddGo_sub _ _ _ hp).resolve_left (fun h => nomatch h))).mono eH_keep fun q hq => .tail _ (sX q hq)) (by exact ltk (by assumption) (by exact rfl)) (by ((try dsimp only [units_deeper, units_in1, Around.mark_units]); exact rm2 (by assumption) (by exact rfl))) ?_
  intro b2 qs n2 h3 F3 N3 lt3 hperm hfall
  clear F2 N2
  k_steps
  all_goals (try k_data)
  have hne2 : ∀ p ∈ (b2, W.listOf (qs.map (·.1)).toArray n2) :: LG, p.1 ≠ an := fun p hp => by
    rcases List.mem_cons.mp hp with rfl | hp
    · exact Nat.ne_of_gt (lt3 _ (.tail _ manX))
    · exact hne p hp
  refine append_K (its := (rs.map fun r => r.v).toArray) (n := na) F3 (News.mono' N3 fun p hp => ?_) (Upd.head hne2) ?_ ?size
  case size => simp only [List.size_toArray, List.length_map, sizeLine_eq]; exact lek (by assumption) (by exact rfl)
  · rcases List.mem_cons.mp hp with rfl | hp
    · exact .tail _ (.tail _ manX)
    rcases List.mem_cons.mp hp with rfl | hp
    · exact .head _
    · exact .tail _ (.tail _ (sX p hp))
  intro h4 F4 N4
  rw [List.push_toArray] at N4
  rw [← pull hm2] at F4
  k_steps
  exact ret h4 _ b2 qs n2 hperm hfall F4 N4 fun p hp => lt3 p (.tail _ (by rw [hX]; exact hp))
end
end

/- NTd -/
theorem offNTd : True := by
  w_top off
  exact trivial
section
open PySem PySem.W PyProof.Rows PySem.Spec PySem.Calls PySem.SeqAt PyProof.V
set_option Elab.async false
set_option maxRecDepth 100000
set_option maxHeartbeats 2000000
theorem execs_app {M : Model} {A : Around} {E : Value → Shared → Prop} {env : Env} {ys : List Stmt} : ∀ {xs : List Stmt} {s : Shared} {Q : Flow → Shared → Prop},
    wpAny M A (execs xs env) (fun f s' => match f with | .next => wpAny M A (execs ys env) Q E s' | f => Q f s') E s → wpAny M A (execs (xs ++ ys) env) Q E s := by
  have e : ∀ xs : List Stmt, execs (xs ++ ys) env = (execs xs env >>= fun f => match f with | .next => execs ys env | f => pure f) := by
    intro xs
    induction xs with
    | nil => exact (pure_bind _ _).symm
    | cons x xs ih =>
      show (exec x env >>= fun f => match f with | .next => execs (xs ++ ys) env | f => pure f) = ((exec x env >>= fun f => match f with | .next => execs xs env | f => pure f) >>= _)
      rw [bind_assoc, ih]
      congr 1
      funext f
      cases f <;> simp only [pure_bind]
  intro xs s Q h
  rw [e]
  refine wpAny_bind (wpAny_mono h (fun f s' hf => ?_) fun _ _ x => x)
  cases f with
  | next => exact hf
  | _ => exact wpAny_pure hf
section
variable {prog : Program} {w : World} {mean : ExcName → Option Value} {mg mb : Str → Option Value} {A : Around} {h₀ : Heap} {L : Addr} {m : Str → Option Value} {s : Shared}
    {Q : Flow → Shared → Prop} {E : Value → Shared → Prop} {cdv : Value}
inductive SetsAt (L an ac ad : Addr) (oN oK : Obj) (i : Nat) (nx : List (Addr × Obj)) : Prop
  | mk (rs : List SetR) (tl : List (Addr × Obj)) (na nc nd : Nat) (oC : Obj) (cv : Option Value) (hlen : rs.length = i + 1) (hG : Good tl rs) (hB : Bd rs) (hoC : oC.data = .cell cv)
      (hsep : ∀ p ∈ tl, p.1 ≠ ad ∧ p.1 ≠ ac ∧ p.1 ≠ an ∧ p.1 ≠ L + 1 + 1 + 1 ∧ p.1 ≠ L + 1 + 1 ∧ p.1 ≠ L + 1) (hlo : ∀ p ∈ tl, L < p.1)
      (e : nx = (ad, W.listOf (rs.map fun r => Value.ref r.d).toArray nd) :: (ac, W.listOf (rs.map fun r => Value.int r.c r.t).toArray nc) :: (an, W.listOf (rs.map fun r => r.v).toArray na) :: (L + 1 + 1 + 1, oC) :: (L + 1 + 1, oK) :: (L + 1, oN) :: tl) : SetsAt L an ac ad oN oK i nx
theorem picks_of {rs : List SetR} {ks : List Int} {i : Nat} (hlen : rs.length = i + 1) (hkb : ∀ k ∈ ks, 0 ≤ k ∧ k < 4 ∧ k < (i : Int) + 1) :
    ∃ rk, Picks rs rk ks ∧ ∀ r ∈ rk, r ∈ rs ∧ ∃ j : Nat, j < 4 ∧ j < i + 1 ∧ rs[j]? = some r := by
  refine ⟨ks.map fun k => rs.getD k.toNat ⟨.none, 0, 0, 0, [], 0⟩, ⟨by simp, fun j k hk => ?_⟩, fun r hr => ?_⟩
  · have hb := hkb k (List.mem_of_getElem? hk)
    have hl : k.toNat < rs.length := castn hb.1 (by rw [hlen]; exact hb.2.2)
    refine ⟨rs[k.toNat], ?_, List.getElem?_eq_getElem hl, hb.1⟩
    rw [List.getElem?_map, hk, Option.map_some, List.getD_eq_getElem?_getD, List.getElem?_eq_getElem hl]; rfl
  · obtain ⟨k, hk, rfl⟩ := List.mem_map.mp hr
    have hb := hkb k hk
    have hl : k.toNat < rs.length := castn hb.1 (by rw [hlen]; exact hb.2.2)
    have e : rs.getD k.toNat ⟨.none, 0, 0, 0, [], 0⟩ = rs[k.toNat] := by rw [List.getD_eq_getElem?_getD, List.getElem?_eq_getElem hl]; rfl
    rw [e]
    exact ⟨List.getElem_mem hl, k.toNat, castn hb.1 hb.2.1, by exact eqlt' (by assumption) (by assumption), List.getElem?_eq_getElem hl⟩
theorem sets_turn {an ac ad I : Addr} {i : Nat} {x : Int} {t : Tok} {nx own : List (Addr × Obj)} {oN oK : Obj} (F : Fr h₀ L s.heap m) (X : Frag.In (Mine.hd.heap_39 w.params) h₀) (T : Top topProg loo mean mg mb h₀) (N : News h₀ L s.heap (nx ++ own)) (hh : A.handled = none)
    (hd : A.depth + 25 < recursionLimit) (hu : A.units + 250 < cLine) (dN : oN.data = .cell (some (.ref an))) (dK : oK.data = .cell (some (.ref ac))) (J : SetsAt L an ac ad oN oK i nx) (hi6 : i < 6) (hx : m ("x" : Str) = some (.int x t)) (hm2 : m ("draws" : Str) = some (.ref ad))
    (ord : L + 1 + 1 + 1 < an ∧ an < ac ∧ ac < ad) (ho : ∀ p ∈ own, p.1 = I) (hIm : ∃ o, (I, o) ∈ own) (hnI : ∀ p ∈ nx, p.1 ≠ I)
    (ret : ∀ h' tk' m' nx', Fr h₀ L h' m' → News h₀ L h' (nx' ++ own) → (∀ p ∈ nx', p.1 ≠ I) → (∀ z, z ∉ [("size" : Str), ("rest" : Str), ("places" : Str)] → m' z = m z) → SetsAt L an ac ad oN oK (i + 1) nx' → Q .next { s with heap := h', toks := tk' }) :
    wpAny (model prog w) (A.deeper (setsEnv L cdv)) (execs [setsAt 0, setsAt 1, setsAt 2, setsAt 3, setsAt 4, setsAt 5, setsAt 6] (setsEnv L cdv)) Q E s := by
  obtain ⟨rs, tl, na, nc, nd, oC, cv, hlen, hG, hB, hoC, hsep, hlo, e⟩ := J
  obtain ⟨oI, hoI⟩ := hIm
  obtain ⟨B, hBd⟩ : ∃ B, B = (L + 1 + 1, oK) :: (L + 1, oN) :: (tl ++ own) := ⟨_, rfl⟩
  have mB1 : (L + 1 + 1, oK) ∈ B := by rw [hBd]; exact .head _
  have mB2 : (L + 1, oN) ∈ B := by rw [hBd]; exact .tail _ (.head _)
  have mB3 : ∀ p ∈ tl, p ∈ B := fun p hp => by rw [hBd]; exact .tail _ (.tail _ (List.mem_append_left _ hp))
  have mB4 : ∀ p ∈ own, p ∈ B := fun p hp => by rw [hBd]; exact .tail _ (.tail _ (List.mem_append_right _ hp))
  have nB : ∀ p ∈ B, p.1 ≠ ad ∧ p.1 ≠ ac ∧ p.1 ≠ an ∧ p.1 ≠ L + 1 + 1 + 1 := by
    rw [hBd]
    have l1 := ord.1
    have l2 := Nat.lt_trans ord.1 ord.2.1
    have l3 := Nat.lt_trans l2 ord.2.2
    first | refine fm8 ?_ | refine fm7 ?_ | refine fm6 ?_ | refine fm5 ?_ | refine fm4 ?_ | refine fm3 ?_ | refine fm2 ?_ | refine fm1 ?_
    refine ⟨⟨Nat.ne_of_lt (Nat.lt_of_succ_lt l3), Nat.ne_of_lt (Nat.lt_of_succ_lt l2), Nat.ne_of_lt (Nat.lt_of_succ_lt l1), Nat.ne_of_lt (Nat.lt_succ_self _)⟩, ⟨Nat.ne_of_lt (Nat.lt_of_succ_lt (Nat.lt_of_succ_lt l3)), Nat.ne_of_lt (Nat.lt_of_succ_lt (Nat.lt_of_succ_lt l2)), Nat.ne_of_lt (Nat.lt_of_succ_lt (Nat.lt_of_succ_lt l1)), Nat.ne_of_lt (Nat.lt_succ_of_lt (Nat.lt_succ_self _))⟩, fun p hp => ?_⟩
    rcases List.mem_append.mp hp with hp | hp
    · exact ⟨(hsep p hp).1, (hsep p hp).2.1, (hsep p hp).2.2.1, (hsep p hp).2.2.2.1⟩
    · rw [e] at hnI
      rw [ho p hp]
      exact ⟨fun q => hnI _ (.head _) q.symm, fun q => hnI _ (.tail _ (.head _)) q.symm, fun q => hnI _ (.tail _ (.tail _ (.head _))) q.symm, fun q => hnI _ (.tail _ (.tail _ (.tail _ (.head _)))) q.symm⟩
  have N1 : News h₀ L s.heap ((ad, W.listOf (rs.map fun r => Value.ref r.d).toArray nd) :: (ac, W.listOf (rs.map fun r => Value.int r.c r.t).toArray nc) :: (an, W.listOf (rs.map fun r => r.v).toArray na) :: (L + 1 + 1 + 1, oC) :: B) := by
    rw [hBd]; rw [e] at N; exact N
  have hnI' : ad ≠ I ∧ ac ≠ I ∧ an ≠ I ∧ L + 1 + 1 + 1 ≠ I ∧ L + 1 + 1 ≠ I ∧ L + 1 ≠ I ∧ ∀ p ∈ tl, p.1 ≠ I := by
    rw [e] at hnI
    exact ⟨hnI _ (.head _), hnI _ (.tail _ (.head _)), hnI _ (.tail _ (.tail _ (.head _))), hnI _ (.tail _ (.tail _ (.tail _ (.head _)))), hnI _ (.tail _ (.tail _ (.tail _ (.tail _ (.head _))))), hnI _ (.tail _ (.tail _ (.tail _ (.tail _ (.tail _ (.head _)))))), fun p hp => hnI p (.tail _ (.tail _ (.tail _ (.tail _ (.tail _ (.tail _ hp))))))⟩
  clear N hnI e
  refine execs_app (xs := [setsAt 0, setsAt 1, setsAt 2]) (ys := [setsAt 3, setsAt 4, setsAt 5, setsAt 6]) (sets_a F X N1 T hh (Nat.lt_of_le_of_lt (Nat.add_le_add_left (by decide) _) hd) (Nat.lt_of_le_of_lt (Nat.add_le_add_left (by decide) _) hu) dN (.tail _ (.tail _ (.tail _ (.tail _ mB2)))) (.tail _ (.tail _ (.head _))) hx hlen hi6 ?_)
  intro h1 tk1 pl ws ks m1 hI hk3 hkb hpl hm1 F1 N2 lt1
  obtain ⟨rk, hp, hrk⟩ := picks_of hlen hkb
  have hd1 : m1 ("draws" : Str) = some (.ref ad) := (hm1 _ (by decide)).trans hm2
  have hr7 : rs.length ≤ 7 := by exact eqk (by assumption) (by assumption) (by exact rfl)
  have lp := lt1
  first | replace lp := um8 lp | replace lp := um7 lp | replace lp := um6 lp | replace lp := um5 lp | replace lp := um4 lp | replace lp := um3 lp | replace lp := um2 lp | replace lp := um1 lp
  refine wpAny_execs_cons (sets_b (oC := oC) (s := { s with heap := h1, toks := tk1 }) (LG := (pl, W.listOf ws.toArray 0) :: (ad, W.listOf (rs.map fun r => Value.ref r.d).toArray nd) :: (ac, W.listOf (rs.map fun r => Value.int r.c r.t).toArray nc) :: (an, W.listOf (rs.map fun r => r.v).toArray na) :: B) F1 X (News.mono' N2 ?s1) T hh (Nat.lt_of_le_of_lt (Nat.add_le_add_left (by decide) _) hd) (Nat.lt_of_le_of_lt (Nat.add_le_add_left (by decide) _) hu) dK hoC (.tail _ (.tail _ (.tail _ (.tail _ mB1)))) (.tail _ (.tail _ (.head _))) (.head _) ?n1 hI hk3 hr7 hp hpl ?_)
  case s1 => (((first | refine fm8 ?_ | refine fm7 ?_ | refine fm6 ?_ | refine fm5 ?_ | refine fm4 ?_ | refine fm3 ?_ | refine fm2 ?_ | refine fm1 ?_); (repeat' (apply And.intro)); all_goals ((try intro p hp); ((repeat (first | with_reducible assumption | with_reducible exact List.mem_cons_self | with_reducible apply List.mem_cons_of_mem))))))
  case n1 =>
    first | refine fm8 ?_ | refine fm7 ?_ | refine fm6 ?_ | refine fm5 ?_ | refine fm4 ?_ | refine fm3 ?_ | refine fm2 ?_ | refine fm1 ?_
    exact ⟨Nat.ne_of_gt lp.2.2.2.1, Nat.ne_of_gt (Nat.lt_trans ord.1 (Nat.lt_trans ord.2.1 ord.2.2)), Nat.ne_of_gt (Nat.lt_trans ord.1 ord.2.1), Nat.ne_of_gt ord.1, fun p hp => (nB p hp).2.2.2⟩
  intro h2 tk2 Di nDi oD dD F2 N3 lt2
  have li := lt2
  first | replace li := um8 li | replace li := um7 li | replace li := um6 li | replace li := um5 li | replace li := um4 li | replace li := um3 li | replace li := um2 li | replace li := um1 li
  refine wpAny_execs_cons (sets_c (nd := nd) (s := { s with heap := h2, toks := tk2 }) (LG := (L + 1 + 1 + 1, oD) :: (Di, W.listOf (rk.map fun r => Value.int r.c r.t).toArray nDi) :: (pl, W.listOf ws.toArray 0) :: (ac, W.listOf (rs.map fun r => Value.int r.c r.t).toArray nc) :: (an, W.listOf (rs.map fun r => r.v).toArray na) :: B) F2 X T (News.mono' N3 ?s2) hh dN (.tail _ (.tail _ (.tail _ (.tail _ (.tail _ mB2))))) (.tail _ (.tail _ (.tail _ (.tail _ (.head _))))) (.tail _ (.tail _ (.head _))) ?n2 hI hk3 hr7 hp hpl hd1 ?_)
  case s2 => (((first | refine fm8 ?_ | refine fm7 ?_ | refine fm6 ?_ | refine fm5 ?_ | refine fm4 ?_ | refine fm3 ?_ | refine fm2 ?_ | refine fm1 ?_); (repeat' (apply And.intro)); all_goals ((try intro p hp); ((repeat (first | with_reducible assumption | with_reducible exact List.mem_cons_self | with_reducible apply List.mem_cons_of_mem))))))
  case n2 =>
    first | refine fm8 ?_ | refine fm7 ?_ | refine fm6 ?_ | refine fm5 ?_ | refine fm4 ?_ | refine fm3 ?_ | refine fm2 ?_ | refine fm1 ?_
    exact ⟨Nat.ne_of_lt (Nat.lt_trans ord.1 (Nat.lt_trans ord.2.1 ord.2.2)), Nat.ne_of_gt li.2.2.1, Nat.ne_of_gt lp.1, Nat.ne_of_lt ord.2.2, Nat.ne_of_lt (Nat.lt_trans ord.2.1 ord.2.2), fun p hp => (nB p hp).1⟩
  intro h3 tk3 Dd nDd F3 N4 lt3
  have ld := lt3
  first | replace ld := um8 ld | replace ld := um7 ld | replace ld := um6 ld | replace ld := um5 ld | replace ld := um4 ld | replace ld := um3 ld | replace ld := um2 ld | replace ld := um1 ld
  obtain ⟨ds, hds⟩ : ∃ ds, ds = rk.map (fun r => (r.v, r.c)) := ⟨_, rfl⟩
  have hdsv : (rk.map fun r => r.v) = ds.map (·.1) := by rw [hds, List.map_map]; rfl
  rw [hdsv] at N4
  have hds3 : ds.length ≤ 3 := by rw [hds, List.length_map, hp.1]; exact hk3
  have hdsG : ∀ p ∈ ds, NstK eH tl p.1 p.2 := fun p hp => by
    rw [hds] at hp
    obtain ⟨r, hr, rfl⟩ := List.mem_map.mp hp
    exact (hG r (hrk r hr).1).1
  refine wpAny_execs_cons (sets_d (na := na) (s := { s with heap := h3, toks := tk3 }) (LG := (ad, W.listOf ((rs.map fun r : SetR => Value.ref r.d) ++ [Value.ref Dd]).toArray (nd + 1)) :: (Dd, W.listOf (ds.map (·.1)).toArray nDd) :: (L + 1 + 1 + 1, oD) :: (Di, W.listOf (rk.map fun r => Value.int r.c r.t).toArray nDi) :: (ac, W.listOf (rs.map fun r => Value.int r.c r.t).toArray nc) :: B) F3 X T (News.mono' N4 ?s3) hh hd hu dN (.tail _ (.tail _ (.tail _ (.tail _ (.tail _ mB2))))) (.head _) (.tail _ (.head _)) ?n3 hr7
    (fun p hp => (hdsG p hp).mono eH_keep fun q hq => .tail _ (.tail _ (.tail _ (.tail _ (.tail _ (mB3 q hq)))))) hds3 hd1 ?_)
  case s3 => (((first | refine fm8 ?_ | refine fm7 ?_ | refine fm6 ?_ | refine fm5 ?_ | refine fm4 ?_ | refine fm3 ?_ | refine fm2 ?_ | refine fm1 ?_); (repeat' (apply And.intro)); all_goals ((try intro p hp); ((repeat (first | with_reducible assumption | with_reducible exact List.mem_cons_self | with_reducible apply List.mem_cons_of_mem))))))
  case n3 =>
    first | refine fm8 ?_ | refine fm7 ?_ | refine fm6 ?_ | refine fm5 ?_ | refine fm4 ?_ | refine fm3 ?_ | refine fm2 ?_ | refine fm1 ?_
    exact ⟨Nat.ne_of_gt (Nat.lt_trans ord.2.1 ord.2.2), Nat.ne_of_gt ld.2.2.2.2.2.1, Nat.ne_of_lt ord.1, Nat.ne_of_gt li.2.2.2.2.1, Nat.ne_of_gt ord.2.1, fun p hp => (nB p hp).2.2.1⟩
  intro h4 tk4 b qs n hperm hfall F4 N5 lt4
  have lb := lt4
  first | replace lb := um8 lb | replace lb := um7 lb | replace lb := um6 lb | replace lb := um5 lb | replace lb := um4 lb | replace lb := um3 lb | replace lb := um2 lb | replace lb := um1 lb
  refine wpAny_execs_cons (sets_e (nc := nc) (s := { s with heap := h4, toks := tk4 }) (LG := (ad, W.listOf ((rs.map fun r : SetR => Value.ref r.d) ++ [Value.ref Dd]).toArray (nd + 1)) :: (an, W.listOf ((rs.map fun r : SetR => r.v) ++ [Value.ref b]).toArray (na + 1)) :: (L + 1 + 1 + 1, oD) :: (b, W.listOf (qs.map (·.1)).toArray n) :: (Dd, W.listOf (ds.map (·.1)).toArray nDd) :: (Di, W.listOf (rk.map fun r => Value.int r.c r.t).toArray nDi) :: B) F4 X T (News.mono' N5 ?s4) hh dK dD (.tail _ (.tail _ (.tail _ (.tail _ (.tail _ (.tail _ mB1)))))) (.tail _ (.tail _ (.head _))) (.tail _ (.tail _ (.tail _ (.tail _ (.tail _ (.head _)))))) ?n4 hr7 ?_)
  case s4 => (((first | refine fm8 ?_ | refine fm7 ?_ | refine fm6 ?_ | refine fm5 ?_ | refine fm4 ?_ | refine fm3 ?_ | refine fm2 ?_ | refine fm1 ?_); (repeat' (apply And.intro)); all_goals ((try intro p hp); ((repeat (first | with_reducible assumption | with_reducible exact List.mem_cons_self | with_reducible apply List.mem_cons_of_mem))))))
  case n4 =>
    first | refine fm8 ?_ | refine fm7 ?_ | refine fm6 ?_ | refine fm5 ?_ | refine fm4 ?_ | refine fm3 ?_ | refine fm2 ?_ | refine fm1 ?_
    exact ⟨Nat.ne_of_gt ord.2.2, Nat.ne_of_lt ord.2.1, Nat.ne_of_lt (Nat.lt_trans ord.1 ord.2.1), Nat.ne_of_gt lb.2.2.2.2.2.1, Nat.ne_of_gt ld.2.2.2.2.1, Nat.ne_of_gt li.2.2.2.1, fun p hp => (nB p hp).2.1⟩
  intro h5 tk5 t5 F5 N6
  have hcs : ds.map (·.2) = rk.map (·.c) := by rw [hds, List.map_map]; rfl
  have h12 : ∀ p ∈ ds, p.2 < 12 := fun p hp => by
    rw [hds] at hp
    obtain ⟨r, hr, rfl⟩ := List.mem_map.mp hp
    obtain ⟨-, j, hj, -, hrj⟩ := hrk r hr
    exact bd_lt hB hj hrj
  have hbit : ∀ b, (sumTo (rk.map (·.c)) 12).testBit b = true ↔ ∃ p ∈ ds, p.2 = b := by
    intro b
    rw [sumTo_bit, ← hcs]
    constructor
    · rintro ⟨_, h⟩; obtain ⟨p, hp, e⟩ := List.mem_map.mp h; exact ⟨p, hp, e⟩
    · rintro ⟨p, hp, rfl⟩; exact ⟨h12 p hp, List.mem_map.mpr ⟨p, hp, rfl⟩⟩
  have hqsG : ∀ q ∈ qs, NstK eH tl q.1 q.2 := fun q hq => hdsG q ((ddGo_sub _ _ _ (hperm.mem_iff.mp hq)).resolve_left (fun h => nomatch h))
  have ldB := ld.2.2.2.2.2.2
  have lbB := lb.2.2.2.2.2.2
  refine wpAny_execs_nil ?_
  refine ret h5 tk5 m1 _ F5 (News.mono' N6 ?pn) ?pne hm1 ⟨rs ++ [⟨.ref b, sumTo (rk.map (·.c)) 12, t5, Dd, ds, nDd⟩], (b, W.listOf (qs.map (·.1)).toArray n) :: (Dd, W.listOf (ds.map (·.1)).toArray nDd) :: tl, na + 1, nc + 1, nd + 1, oD, _, by simp [hlen], ?pgood, ?pbd, dD, ?psep, ?plo, rfl⟩
  case pn =>
    rw [hBd]
    simp only [List.map_append, List.map_cons, List.map_nil, List.cons_append]
    (((first | refine fm8 ?_ | refine fm7 ?_ | refine fm6 ?_ | refine fm5 ?_ | refine fm4 ?_ | refine fm3 ?_ | refine fm2 ?_ | refine fm1 ?_); (repeat' (apply And.intro)); all_goals ((try intro p hp); ((repeat (first | with_reducible assumption | with_reducible exact List.mem_cons_self | with_reducible apply List.mem_cons_of_mem))))))
  case pne =>
    first | refine fm8 ?_ | refine fm7 ?_ | refine fm6 ?_ | refine fm5 ?_ | refine fm4 ?_ | refine fm3 ?_ | refine fm2 ?_ | refine fm1 ?_
    exact ⟨hnI'.1, hnI'.2.1, hnI'.2.2.1, hnI'.2.2.2.1, hnI'.2.2.2.2.1, hnI'.2.2.2.2.2.1, Nat.ne_of_gt (lbB _ (mB4 _ hoI)), Nat.ne_of_gt (ldB _ (mB4 _ hoI)), hnI'.2.2.2.2.2.2⟩
  case pgood =>
    refine good_step hG (fun p hp => .tail _ (.tail _ hp)) fun r hr => ?_
    rw [List.mem_singleton.mp hr]
    exact ⟨nst_new (.head _) (fall_bits hperm hfall hbit h12) (sumTo_lt _ 12) fun q hq => (hqsG q hq).mono eH_keep (fun p hp => .tail _ (.tail _ hp)), .tail _ (.head _), hds3, fun p hp => (hdsG p hp).mono eH_keep (fun p hp => .tail _ (.tail _ hp)), hbit⟩
  case pbd =>
    refine bd_step hlen hB (cs := rk.map (·.c)) (fun c hc => ?_) rfl
    obtain ⟨r, hr, rfl⟩ := List.mem_map.mp hc
    obtain ⟨-, j, hj, hji, hrj⟩ := hrk r hr
    exact ⟨j, r, hj, hji, hrj, rfl⟩
  case psep =>
    first | refine fm8 ?_ | refine fm7 ?_ | refine fm6 ?_ | refine fm5 ?_ | refine fm4 ?_ | refine fm3 ?_ | refine fm2 ?_ | refine fm1 ?_
    exact ⟨⟨Nat.ne_of_gt lb.2.1, Nat.ne_of_gt lb.2.2.2.2.2.1, Nat.ne_of_gt lb.1, Nat.ne_of_gt lb.2.2.2.1, Nat.ne_of_gt (lbB _ mB1), Nat.ne_of_gt (lbB _ mB2)⟩, ⟨Nat.ne_of_gt ld.1, Nat.ne_of_gt ld.2.2.2.2.1, Nat.ne_of_gt ld.2.2.2.2.2.1, Nat.ne_of_gt ld.2.1, Nat.ne_of_gt (ldB _ mB1), Nat.ne_of_gt (ldB _ mB2)⟩, hsep⟩
  case plo =>
    first | refine fm8 ?_ | refine fm7 ?_ | refine fm6 ?_ | refine fm5 ?_ | refine fm4 ?_ | refine fm3 ?_ | refine fm2 ?_ | refine fm1 ?_
    exact ⟨Nat.lt_of_succ_lt (lbB _ mB2), Nat.lt_of_succ_lt (ldB _ mB2), hlo⟩
end
end

/- NT -/
theorem offNT : True := by
  w_top off
  exact trivial
section
open PySem PySem.W PyProof.Rows PySem.Spec PySem.Calls PySem.SeqAt PyProof.V
set_option Elab.async false
set_option maxRecDepth 100000
set_option maxHeartbeats 2000000

section
variable {prog : Program} {w : World} {mean : ExcName → Option Value} {mg mb : Str → Option Value} {A : Around} {h₀ : Heap} {L : Addr} {m : Str → Option Value} {news : List (Addr × Obj)} {s : Shared} {x y : Addr} {c d : Nat}
    {Q E : Value → Shared → Prop}




theorem law_sets {l : Addr} {lo : Obj} {vs : List Value} {xs : List Int} {nn : Nat} (F : Fr h₀ L s.heap m) (X : Frag.In (Mine.hd.heap_39 w.params) h₀) (N : News h₀ L s.heap news) (T : Top topProg loo mean mg mb h₀) (hh : A.handled = none)
    (hlc : lo.cls = .type "list") (hld : lo.data = .seq vs.toArray nn) (hl : ∀ h, Has h₀ news h → h.get? l = some lo) (hI : IntsAre vs xs) (hx6 : xs.length ≤ 6)
    (hd : A.depth + 30 < recursionLimit) (hu : A.units + 300 < cLine)
    (ret : ∀ (b an ac ad : Addr) (rs : List SetR) (tl : List (Addr × Obj)) (na nc nd : Nat) (h' : Heap) (tk' : Nat), rs.length = xs.length + 1 → Good tl rs → Fr h₀ L h' m →
      News h₀ L h' ((b, ({ cls := .type "tuple", data := .seq #[.ref an, .ref ac, .ref ad] } : Obj)) :: (ad, W.listOf (rs.map fun r => Value.ref r.d).toArray nd) :: (ac, W.listOf (rs.map fun r => Value.int r.c r.t).toArray nc) :: (an, W.listOf (rs.map fun r => r.v).toArray na) :: (tl ++ news)) →
      (an < ac ∧ ac < ad ∧ ad < b) → (∀ p ∈ tl, p.1 ≠ ad ∧ p.1 ≠ ac ∧ p.1 ≠ an ∧ p.1 < b) → (∀ q ∈ news, q.1 < an ∧ ∀ p ∈ tl, q.1 < p.1) → Q (.ref b) { s with heap := h', toks := tk' }) : wpAny (model prog w) A (call (.ref 77) [.ref l]) Q E s := by
  obtain ⟨hA, dp, fr, gd, un⟩ := A
  dsimp only at hh hd hu
  subst hh
  have N0 := N
  clear N
  ((refine wpAny_call ?_; k_dflt (refine' enterC0 ?k2 ?k3 ?k5 ?k6 ?k7 ?k8 ?k9 ?kB ?kD ?_ ?c2 ?c3 ?c4; (case k2 => k_asm); (case k3 => k_asm); (case k5 => k_asm); (case k6 => k_is); (case k7 => k_is); (case k8 => (((try dsimp only [depth_deeper, depth_in1]); (first | exact rm3 (by assumption) (by exact rfl) | exact rm2 (by assumption) (by exact rfl) | exact rm1 (by assumption) (by exact rfl) | exact rm0 (by assumption) | exact rm00 (by assumption) | exact rmd (by assumption) (by exact rfl) | assumption | omega)))); (case k9 => first | exact binds_K (by k_in) rfl (by k_is) rfl rfl rfl | exact BindsTo.of_eq rfl); (case kB => exact rfl); (case kD => decide +kernel); (case c2 => exact rfl); (case c3 => exact rfl); (case c4 => exact rfl); k_whole); intro _ _ _ _ _ N' Y' _ _; k_cells Y'; (try simp only [List.cons_append, List.nil_append] at N'); revert N'; intro _; (try dsimp only); (try k_fold)))
  iterate 40 walk1
  rename Fr _ _ _ _ => F1
  with_unfolding_all refine' For_invVF F1 ?k1 ?k2 ?_; (case k1 => exact rfl); (case k2 => exact rfl); k_whole
  k_steps
  rename_i L1 hA1 tkA X1 T1 oI oX oY dI dX dY n0 hB1 q1 an hB2 q2 ac hB3 q3 d0 hB4 q4 ad hB5 q5 Dt hB6 q6 hB7 hB8 oN dN hB9 oK dK hB10 N1
  have hls : s.heap.get? l = some lo := hl _ (has_of F N0 fun _ h => h)
  refine iter_gm (lo := lo) (vs := vs) (nn := nn) [Str.ofString "size", Str.ofString "rest", Str.ofString "places"] (news := (ad, W.listOf #[.ref d0] 0) :: (ac, W.listOf #[.int 0 tkA] 0) :: (an, W.listOf #[.ref n0] 0) :: (L1 + 1 + 1 + 1, oI) :: (L1 + 1 + 1, oK) :: (L1 + 1, oN) :: [(d0, W.listOf #[] 0), (n0, W.listOf #[] 0)])
    (fun i u nx => SetsAt L1 an ac ad oN oK i nx)
    rfl hlc hld (fun i u nx _ h H => H.1 _ _ hls) ?ne F1 ?nw ?start ?turn ?done
  case ne => exact Nat.ne_of_lt (Nat.lt_of_lt_of_le (Heap.lt_size hls) F1.above)
  case nw => exact News.mono' N1 (by (((first | refine fm8 ?_ | refine fm7 ?_ | refine fm6 ?_ | refine fm5 ?_ | refine fm4 ?_ | refine fm3 ?_ | refine fm2 ?_ | refine fm1 ?_); (repeat' (apply And.intro)); all_goals ((try intro p hp); ((repeat (first | with_reducible assumption | with_reducible exact List.mem_cons_self | with_reducible apply List.mem_cons_of_mem)))))))
  case start =>
    refine ⟨[⟨.ref n0, 0, tkA, d0, [], 0⟩], [(d0, W.listOf #[] 0), (n0, W.listOf #[] 0)], 0, 0, 0, oI, _, rfl, ?_, ?_, dI, ?_, ?_, rfl⟩
    · intro r hr
      rw [List.mem_singleton.mp hr]
      refine ⟨nst_new (qs := []) (n := 0) (.tail _ (.head _)) (by show [] = bitsD 12 0; decide) (by show 0 < 2 ^ 12; decide) (fun q hq => nomatch hq), .head _, (Nat.zero_le _), (fun p hp => nomatch hp), fun b => ?_⟩
      simp
    · refine ⟨fun r hr => ?_, fun r hr => ?_, fun r hr => ?_, fun r hr => ?_⟩ <;> simp at hr
      rw [← hr]
    · first | refine fm8 ?_ | refine fm7 ?_ | refine fm6 ?_ | refine fm5 ?_ | refine fm4 ?_ | refine fm3 ?_ | refine fm2 ?_ | refine fm1 ?_
      exact ⟨⟨Nat.ne_of_lt q5.1, Nat.ne_of_gt q4.1, Nat.ne_of_gt q4.2.1, Nat.ne_of_gt q4.2.2.2.1, Nat.ne_of_gt q4.2.2.2.2.1, Nat.ne_of_gt q4.2.2.2.2.2⟩, ⟨Nat.ne_of_lt q5.2.2.2.1, Nat.ne_of_lt q3.2.1, Nat.ne_of_lt q2.1, Nat.ne_of_gt q1.1, Nat.ne_of_gt q1.2.1, Nat.ne_of_gt q1.2.2⟩, fun p hp => nomatch hp⟩
    · first | refine fm8 ?_ | refine fm7 ?_ | refine fm6 ?_ | refine fm5 ?_ | refine fm4 ?_ | refine fm3 ?_ | refine fm2 ?_ | refine fm1 ?_
      exact ⟨Nat.lt_of_succ_lt q4.2.2.2.2.2, Nat.lt_of_succ_lt q1.2.2, fun p hp => nomatch hp⟩
  case turn =>
    rintro I i v u nx₁ h2 tk2 own hv J hoI hoI2 hnI F2 N2
    obtain ⟨x, t', rfl, hx⟩ : ∃ x t', v = .int x t' ∧ xs[i]? = some x := ints_get hI hv
    have hi6 : i < 6 := Nat.lt_of_lt_of_le (List.getElem?_eq_some_iff.mp hx).1 hx6
    refine sets_turn (s := { s with heap := h2, toks := tk2 }) F2 X1 T1 N2 rfl ?room ?units dN dK J hi6 (if_pos rfl) rfl ⟨q2.2.1, q3.1, q5.2.1⟩ hoI hoI2 hnI ?_
    case room => ((try dsimp only [depth_deeper, depth_in1]); exact rm1 (by assumption) (by exact rfl))
    case units => ((try dsimp only [units_deeper, units_in1, Around.mark_units]); exact rm1 (by assumption) (by exact rfl))
    intro h3 tk3 m3 nx3 F3 N3 hn3 hm3 J3
    refine ⟨h3, tk3, m3, nx3, rfl, F3, N3, hn3, fun z hz => ?_, J3⟩
    simp only [List.mem_cons, List.not_mem_nil, or_false, not_or] at hz
    rw [hm3 z (by simp only [List.mem_cons, List.not_mem_nil, or_false, not_or]; exact hz.2)]
    simp only [over, if_neg hz.1, if_neg hz.2.1, if_neg hz.2.2.1, if_neg hz.2.2.2]
  case done =>
    rintro u nx₁ h2 tk2 ⟨rs, tl, na, nc, nd, oC, cv, hlen, hG, hB, hoC, hsep, hlo, rfl⟩ F2 N2
    have above := F1.above
    clear F1 N1
    k_steps
    all_goals (try k_data)
    rename Fr _ _ _ _ => F3
    rename_i D3 h3 N3 l3
    have sN : ∀ p ∈ (D3, ({ cls := .type "tuple", data := .seq #[.ref an, .ref ac, .ref ad] } : Obj)) :: (ad, W.listOf (rs.map fun r => Value.ref r.d).toArray nd) :: (ac, W.listOf (rs.map fun r => Value.int r.c r.t).toArray nc) :: (an, W.listOf (rs.map fun r => r.v).toArray na) :: tl, h3.get? p.1 = some p.2 ∧ s.heap.get? p.1 = none := by
      have N4 : ∀ p ∈ (D3, ({ cls := .type "tuple", data := .seq #[.ref an, .ref ac, .ref ad] } : Obj)) :: (ad, W.listOf (rs.map fun r => Value.ref r.d).toArray nd) :: (ac, W.listOf (rs.map fun r => Value.int r.c r.t).toArray nc) :: (an, W.listOf (rs.map fun r => r.v).toArray na) :: (L1 + 1 + 1 + 1, oC) :: (L1 + 1 + 1, oK) :: (L1 + 1, oN) :: tl, h3.get? p.1 = some p.2 ∧ s.heap.get? p.1 = none := fun p hp => ⟨(N3 p hp).1, (N3 p hp).2.2⟩
      exact fun p hp => N4 p (by revert p; (((first | refine fm8 ?_ | refine fm7 ?_ | refine fm6 ?_ | refine fm5 ?_ | refine fm4 ?_ | refine fm3 ?_ | refine fm2 ?_ | refine fm1 ?_); (repeat' (apply And.intro)); all_goals ((try intro p hp); ((repeat (first | with_reducible assumption | with_reducible exact List.mem_cons_self | with_reducible apply List.mem_cons_of_mem)))))))
    refine ret D3 an ac ad rs tl na nc nd h3 _ (by rw [hlen, hI.length]) hG (F.keeps F3.keep) ?_ ⟨q3.1, q5.2.1, l3.1⟩ (fun p hp => ⟨(hsep p hp).1, (hsep p hp).2.1, (hsep p hp).2.2.1, ?_⟩) (fun q hq => ?_)
    · have cn : ∀ p ∈ (D3, ({ cls := .type "tuple", data := .seq #[.ref an, .ref ac, .ref ad] } : Obj)) :: (ad, W.listOf (rs.map fun r => Value.ref r.d).toArray nd) :: (ac, W.listOf (rs.map fun r => Value.int r.c r.t).toArray nc) :: (an, W.listOf (rs.map fun r => r.v).toArray na) :: tl, h3.get? p.1 = some p.2 ∧ p.1 ≠ L ∧ h₀.get? p.1 = none := by
        intro p hp
        refine ⟨(sN p hp).1, fun e => ?_, ?_⟩
        · obtain ⟨oL, _, _, hL, _⟩ := F.ns
          have := (sN p hp).2; rw [e, hL] at this; cases this
        · cases q : h₀.get? p.1 with
          | none => rfl
          | some o => have := (sN p hp).2; rw [F.keep _ _ q] at this; cases this
      intro p hp
      rcases List.mem_cons.mp hp with rfl | hp
      · exact cn _ (.head _)
      rcases List.mem_cons.mp hp with rfl | hp
      · exact cn _ (.tail _ (.head _))
      rcases List.mem_cons.mp hp with rfl | hp
      · exact cn _ (.tail _ (.tail _ (.head _)))
      rcases List.mem_cons.mp hp with rfl | hp
      · exact cn _ (.tail _ (.tail _ (.tail _ (.head _))))
      rcases List.mem_append.mp hp with hp | hp
      · exact cn _ (.tail _ (.tail _ (.tail _ (.tail _ hp))))
      · exact ⟨F3.keep _ _ (N0 p hp).1, (N0 p hp).2⟩
    · exact ktn_ltOf l3.2.2.2.2.2.2 p hp
    · have hq1 : q.1 < L1 := Nat.lt_of_lt_of_le (Heap.lt_size (N0 q hq).1) above
      exact ⟨Nat.lt_trans hq1 (Nat.lt_of_succ_lt q2.2.2.2), fun p hp => Nat.lt_trans hq1 (hlo p hp)⟩
end
end

/- OE -/
theorem offOE : True := by
  w_top off
  exact trivial
section
open PySem PySem.W PyProof.Rows PySem.Spec PySem.Calls PySem.SeqAt PyProof.V
set_option Elab.async false
set_option maxRecDepth 100000
set_option maxHeartbeats 2000000
noncomputable def lawStmt : Stmt := PySem.Challenge.pw_of0007_01.main.body.getD 17 (.Pass ⟨0, 0, 0, 0⟩)
noncomputable def lawAt (k : Nat) : Stmt := (stmtsOf lawStmt).getD k (.Pass ⟨0, 0, 0, 0⟩)
noncomputable abbrev lawEnv (L fa : Addr) (cdv : Value) : Env := envOfC "law" (scopeOf lawStmt) L fa cdv
theorem allLt_to {d : Addr} : ∀ {l : List (Addr × Obj)}, AllLt d l → ∀ q ∈ l, q.1 < d
  | [], _, _, h => nomatch h
  | _ :: _, h, q, hq => by
    rcases List.mem_cons.mp hq with rfl | hq
    · exact h.1
    · exact allLt_to h.2 q hq
section
variable {prog : Program} {w : World} {mean : ExcName → Option Value} {mg mb : Str → Option Value} {A : Around} {h₀ : Heap} {L fa : Addr} {m : Str → Option Value} {news : List (Addr × Obj)} {s : Shared} {x y : Addr} {c d : Nat}
    {Q : Flow → Shared → Prop} {E : Value → Shared → Prop} {qual : Str} {cdv : Value}
theorem law_a {l : Addr} {vs : List Value} {xs : List Int} {o1 o2 o3 o4 : Obj} (F : Fr h₀ L s.heap m) (X : Frag.In (Mine.hd.heap_39 w.params) h₀) (N : News h₀ L s.heap ((L + 1, o1) :: (L + 2, o2) :: (L + 3, o3) :: (L + 4, o4) :: news)) (T : Top topProg loo mean mg mb h₀) (hh : A.handled = none)
    (hm : m = fun y : Str => if y = ("script" : Str) then some (Value.ref l) else none)
    (hd : A.depth + 60 < recursionLimit) (hu : A.units + 600 < cLine) (hl : h₀.IsList l vs.toArray) (hI : IntsAre vs xs) (hx : xs.length ≤ 63)
    (ret : ∀ D us ns h' tk, IntsAre us ns → 3 ≤ ns.length → ns.length ≤ 6 → Fr h₀ L h' (fun y : Str => if y = ("numbers" : Str) then some (Value.ref D) else m y) → News h₀ L h' ((D, W.listOf us.toArray 0) :: (L + 1, o1) :: (L + 2, o2) :: (L + 3, o3) :: (L + 4, o4) :: news) → (L + 4 < D ∧ ∀ q ∈ news, q.1 < D) →
      Q .next { s with heap := h', toks := tk }) :
    wpAny (model prog w) (A.deeper (lawEnv L fa cdv)) (exec (lawAt 0) (lawEnv L fa cdv)) Q E s := by
  obtain ⟨hA, dp, fr, gd, un⟩ := A
  dsimp only at hh hd hu
  subst hh
  subst hm
  conv in exec _ => arg 1; whnf
  k_steps
  rename News _ _ _ _ => N7
  rename Fr _ _ _ _ => F7
  rename IntsAre _ _ => I7
  rename_i D7 w7 g7 c7 b7 l7 h7
  have hk : (List.take 6 xs).length ≤ 6 := by rw [List.length_take]; exact mn6
  obtain ⟨ns, hns⟩ : ∃ ns, ns = List.take (if ((List.take 6 xs).length : Int) > 3 then ((List.take 6 xs).length : Int) else 3).toNat (List.take 6 xs ++ [2, 23, 14]) := ⟨_, rfl⟩
  rw [← hns] at I7 c7
  have hn3 : 3 ≤ ns.length ∧ ns.length ≤ 6 := by
    rw [c7, List.length_append]
    generalize (List.take 6 xs).length = k at hk ⊢
    simp only [List.length_cons, List.length_nil]
    exact mn3 k (Nat.lt_succ_of_le hk)
  refine ret D7 w7 ns _ _ I7 hn3.1 hn3.2 F7 (News.mono' N7 ?_) ?_
  · intro p hp
    rcases List.mem_cons.mp hp with rfl | hp
    · exact .head _
    · exact .tail _ (.tail _ (.tail _ (.tail _ (.tail _ hp))))
  · obtain ⟨-, -, -, -, -, -, -, a, b⟩ := l7
    exact ⟨a, allLt_to b⟩

theorem storeCell {cn : Str} {cs : Scope} {ccd : Value} {cl : List (Str × Addr)} {x : Str} {v : Value} {v₀ : Option Value} {o : Obj} {a c : Addr} {Q : Unit → Shared → Prop} (F : Fr h₀ L s.heap m) (N : News h₀ L s.heap ((c, o) :: news)) (hc : cl.lookup x = some c) (hne : ∀ p ∈ news, p.1 ≠ c) (hd : o.data = .cell v₀)
    (h : ∀ h' o', Fr h₀ L h' m → News h₀ L h' ((c, o') :: news) → o'.data = .cell (some v) → Q () { s with heap := h' })
    (hk : cs.kind = .function := by rfl) (hx : (envX cn cs L a ccd cl).kindOf x = some .cell := by rfl) : wpAny (model prog w) A (storeName (envX cn cs L a ccd cl) x v) Q E s :=
  storeX_C F N hc (UpdF.head hne) hd h hk hx
noncomputable abbrev lawLed (L : Addr) (o1 o2 o3 o4 : Obj) (X : List (Addr × Obj)) : List (Addr × Obj) := (L + 1, o1) :: (L + 2, o2) :: (L + 3, o3) :: (L + 4, o4) :: X
noncomputable def Off (L : Addr) (X : List (Addr × Obj)) : Prop := ∀ p ∈ X, p.1 < L ∨ L + 4 < p.1
theorem off_ne {L : Addr} {X : List (Addr × Obj)} (h : Off L X) {p : Addr × Obj} (hp : p ∈ X) (k : Nat) (h4 : k ≤ 4) : p.1 ≠ L + k := by
  rcases h p hp with h | h
  · exact Nat.ne_of_lt (Nat.lt_of_lt_of_le h (Nat.le_add_right _ _))
  · exact Nat.ne_of_gt (Nat.lt_of_le_of_lt (Nat.add_le_add_left h4 _) h)
noncomputable abbrev setsLed (an ac ad : Addr) (rs : List SetR) (na nc nd : Nat) (tl : List (Addr × Obj)) : List (Addr × Obj) :=
  (ad, W.listOf (rs.map fun r => Value.ref r.d).toArray nd) :: (ac, W.listOf (rs.map fun r => Value.int r.c r.t).toArray nc) :: (an, W.listOf (rs.map fun r => r.v).toArray na) :: tl
theorem store_c1 {cn : Str} {cs : Scope} {ccd : Value} {cl : List (Str × Addr)} {x : Str} {v : Value} {v₀ : Option Value} {o1 o2 o3 o4 : Obj} {Y : List (Addr × Obj)} {a : Addr} {Q : Unit → Shared → Prop} (F : Fr h₀ L s.heap m) (N : News h₀ L s.heap (lawLed L o1 o2 o3 o4 Y)) (ofs : Off L Y) (hd : o1.data = .cell v₀) (hc : cl.lookup x = some (L + 1))
    (h : ∀ h' o', Fr h₀ L h' m → News h₀ L h' (lawLed L o' o2 o3 o4 Y) → o'.data = .cell (some v) → Q () { s with heap := h' })
    (hk : cs.kind = .function := by rfl) (hx : (envX cn cs L a ccd cl).kindOf x = some .cell := by rfl) : wpAny (model prog w) A (storeName (envX cn cs L a ccd cl) x v) Q E s := by
  refine storeCell (news := (L + 2, o2) :: (L + 3, o3) :: (L + 4, o4) :: Y) (o := o1) F (News.mono' N ?_) hc ?_ hd (fun h' o' F' N' d' => h h' o' F' (News.mono' N' ?_) d') hk hx
  · intro p hp
    simp only [lawLed, List.mem_cons] at hp ⊢
    rcases hp with h | h | h | h | h
    · exact .inl h
    · exact .inr (.inl h)
    · exact .inr (.inr (.inl h))
    · exact .inr (.inr (.inr (.inl h)))
    · exact .inr (.inr (.inr (.inr h)))
  · intro p hp
    simp only [List.mem_cons] at hp
    rcases hp with rfl | rfl | rfl | hp
    · exact fun e => absurd (Nat.add_left_cancel e) (by decide)
    · exact fun e => absurd (Nat.add_left_cancel e) (by decide)
    · exact fun e => absurd (Nat.add_left_cancel e) (by decide)
    · exact off_ne ofs hp 1 (by decide)
  · intro p hp
    simp only [lawLed, List.mem_cons] at hp ⊢
    rcases hp with h | h | h | h | h
    · exact .inl h
    · exact .inr (.inl h)
    · exact .inr (.inr (.inl h))
    · exact .inr (.inr (.inr (.inl h)))
    · exact .inr (.inr (.inr (.inr h)))
theorem store_c2 {cn : Str} {cs : Scope} {ccd : Value} {cl : List (Str × Addr)} {x : Str} {v : Value} {v₀ : Option Value} {o1 o2 o3 o4 : Obj} {Y : List (Addr × Obj)} {a : Addr} {Q : Unit → Shared → Prop} (F : Fr h₀ L s.heap m) (N : News h₀ L s.heap (lawLed L o1 o2 o3 o4 Y)) (ofs : Off L Y) (hd : o2.data = .cell v₀) (hc : cl.lookup x = some (L + 2))
    (h : ∀ h' o', Fr h₀ L h' m → News h₀ L h' (lawLed L o1 o' o3 o4 Y) → o'.data = .cell (some v) → Q () { s with heap := h' })
    (hk : cs.kind = .function := by rfl) (hx : (envX cn cs L a ccd cl).kindOf x = some .cell := by rfl) : wpAny (model prog w) A (storeName (envX cn cs L a ccd cl) x v) Q E s := by
  refine storeCell (news := (L + 1, o1) :: (L + 3, o3) :: (L + 4, o4) :: Y) (o := o2) F (News.mono' N ?_) hc ?_ hd (fun h' o' F' N' d' => h h' o' F' (News.mono' N' ?_) d') hk hx
  · intro p hp
    simp only [lawLed, List.mem_cons] at hp ⊢
    rcases hp with h | h | h | h | h
    · exact .inr (.inl h)
    · exact .inl h
    · exact .inr (.inr (.inl h))
    · exact .inr (.inr (.inr (.inl h)))
    · exact .inr (.inr (.inr (.inr h)))
  · intro p hp
    simp only [List.mem_cons] at hp
    rcases hp with rfl | rfl | rfl | hp
    · exact fun e => absurd (Nat.add_left_cancel e) (by decide)
    · exact fun e => absurd (Nat.add_left_cancel e) (by decide)
    · exact fun e => absurd (Nat.add_left_cancel e) (by decide)
    · exact off_ne ofs hp 2 (by decide)
  · intro p hp
    simp only [lawLed, List.mem_cons] at hp ⊢
    rcases hp with h | h | h | h | h
    · exact .inr (.inl h)
    · exact .inl h
    · exact .inr (.inr (.inl h))
    · exact .inr (.inr (.inr (.inl h)))
    · exact .inr (.inr (.inr (.inr h)))
theorem store_c3 {cn : Str} {cs : Scope} {ccd : Value} {cl : List (Str × Addr)} {x : Str} {v : Value} {v₀ : Option Value} {o1 o2 o3 o4 : Obj} {Y : List (Addr × Obj)} {a : Addr} {Q : Unit → Shared → Prop} (F : Fr h₀ L s.heap m) (N : News h₀ L s.heap (lawLed L o1 o2 o3 o4 Y)) (ofs : Off L Y) (hd : o3.data = .cell v₀) (hc : cl.lookup x = some (L + 3))
    (h : ∀ h' o', Fr h₀ L h' m → News h₀ L h' (lawLed L o1 o2 o' o4 Y) → o'.data = .cell (some v) → Q () { s with heap := h' })
    (hk : cs.kind = .function := by rfl) (hx : (envX cn cs L a ccd cl).kindOf x = some .cell := by rfl) : wpAny (model prog w) A (storeName (envX cn cs L a ccd cl) x v) Q E s := by
  refine storeCell (news := (L + 1, o1) :: (L + 2, o2) :: (L + 4, o4) :: Y) (o := o3) F (News.mono' N ?_) hc ?_ hd (fun h' o' F' N' d' => h h' o' F' (News.mono' N' ?_) d') hk hx
  · intro p hp
    simp only [lawLed, List.mem_cons] at hp ⊢
    rcases hp with h | h | h | h | h
    · exact .inr (.inr (.inl h))
    · exact .inl h
    · exact .inr (.inl h)
    · exact .inr (.inr (.inr (.inl h)))
    · exact .inr (.inr (.inr (.inr h)))
  · intro p hp
    simp only [List.mem_cons] at hp
    rcases hp with rfl | rfl | rfl | hp
    · exact fun e => absurd (Nat.add_left_cancel e) (by decide)
    · exact fun e => absurd (Nat.add_left_cancel e) (by decide)
    · exact fun e => absurd (Nat.add_left_cancel e) (by decide)
    · exact off_ne ofs hp 3 (by decide)
  · intro p hp
    simp only [lawLed, List.mem_cons] at hp ⊢
    rcases hp with h | h | h | h | h
    · exact .inr (.inl h)
    · exact .inr (.inr (.inl h))
    · exact .inl h
    · exact .inr (.inr (.inr (.inl h)))
    · exact .inr (.inr (.inr (.inr h)))
theorem store_c4 {cn : Str} {cs : Scope} {ccd : Value} {cl : List (Str × Addr)} {x : Str} {v : Value} {v₀ : Option Value} {o1 o2 o3 o4 : Obj} {Y : List (Addr × Obj)} {a : Addr} {Q : Unit → Shared → Prop} (F : Fr h₀ L s.heap m) (N : News h₀ L s.heap (lawLed L o1 o2 o3 o4 Y)) (ofs : Off L Y) (hd : o4.data = .cell v₀) (hc : cl.lookup x = some (L + 4))
    (h : ∀ h' o', Fr h₀ L h' m → News h₀ L h' (lawLed L o1 o2 o3 o' Y) → o'.data = .cell (some v) → Q () { s with heap := h' })
    (hk : cs.kind = .function := by rfl) (hx : (envX cn cs L a ccd cl).kindOf x = some .cell := by rfl) : wpAny (model prog w) A (storeName (envX cn cs L a ccd cl) x v) Q E s := by
  refine storeCell (news := (L + 1, o1) :: (L + 2, o2) :: (L + 3, o3) :: Y) (o := o4) F (News.mono' N ?_) hc ?_ hd (fun h' o' F' N' d' => h h' o' F' (News.mono' N' ?_) d') hk hx
  · intro p hp
    simp only [lawLed, List.mem_cons] at hp ⊢
    rcases hp with h | h | h | h | h
    · exact .inr (.inr (.inr (.inl h)))
    · exact .inl h
    · exact .inr (.inl h)
    · exact .inr (.inr (.inl h))
    · exact .inr (.inr (.inr (.inr h)))
  · intro p hp
    simp only [List.mem_cons] at hp
    rcases hp with rfl | rfl | rfl | hp
    · exact fun e => absurd (Nat.add_left_cancel e) (by decide)
    · exact fun e => absurd (Nat.add_left_cancel e) (by decide)
    · exact fun e => absurd (Nat.add_left_cancel e) (by decide)
    · exact off_ne ofs hp 4 (by decide)
  · intro p hp
    simp only [lawLed, List.mem_cons] at hp ⊢
    rcases hp with h | h | h | h | h
    · exact .inr (.inl h)
    · exact .inr (.inr (.inl h))
    · exact .inr (.inr (.inr (.inl h)))
    · exact .inl h
    · exact .inr (.inr (.inr (.inr h)))
theorem law_b {D : Addr} {us : List Value} {ns : List Int} {o1 o2 o3 o4 : Obj} {m0 : Str → Option Value} {c1 c2 : Option Value} (F : Fr h₀ L s.heap (fun y : Str => if y = ("numbers" : Str) then some (Value.ref D) else m0 y)) (X : Frag.In (Mine.hd.heap_39 w.params) h₀) (N : News h₀ L s.heap ((D, W.listOf us.toArray 0) :: lawLed L o1 o2 o3 o4 news)) (T : Top topProg loo mean mg mb h₀) (hh : A.handled = none)
    (hd : A.depth + 60 < recursionLimit) (hu : A.units + 600 < cLine) (hI : IntsAre us ns) (hn6 : ns.length ≤ 6) (d1 : o1.data = .cell c1) (d2 : o2.data = .cell c2) (hoff : Off L news) (hD : L + 4 < D)
    (ret : ∀ an ac ad rs tl na nc nd h' tk' o1 o2, rs.length = ns.length + 1 → Good tl rs → o1.data = .cell (some (.ref an)) → o2.data = .cell (some (.ref ac)) →
      Fr h₀ L h' (fun y : Str => if y = ("draws" : Str) then some (Value.ref ad) else if y = ("numbers" : Str) then some (Value.ref D) else m0 y) → News h₀ L h' (lawLed L o1 o2 o3 o4 (setsLed an ac ad rs na nc nd tl ++ news)) →
      (∀ p ∈ setsLed an ac ad rs na nc nd tl, L + 4 < p.1) → (∀ p ∈ tl, p.1 ≠ ad ∧ p.1 ≠ ac ∧ p.1 ≠ an) → (an < ac ∧ ac < ad) → Q .next { s with heap := h', toks := tk' }) :
    wpAny (model prog w) (A.deeper (lawEnv L fa cdv)) (exec (lawAt 1) (lawEnv L fa cdv)) Q E s := by
  obtain ⟨hA, dp, fr, gd, un⟩ := A
  dsimp only at hh hd hu
  subst hh
  conv in exec _ => arg 1; whnf
  k_steps
  rename Fr _ _ _ _ => F7
  refine law_sets (lo := W.listOf us.toArray 0) F7 X N T rfl rfl rfl (fun h H => H.2 _ (.head _)) hI hn6 ?room ?units ?_
  case room => ((try dsimp only [depth_deeper, depth_in1]); exact rm2 (by assumption) (by exact rfl))
  case units => ((try dsimp only [units_deeper, units_in1, Around.mark_units]); exact rm2 (by assumption) (by exact rfl))
  intro b an ac ad rs tl na nc nd h8 tk8 hrs good F8 N8' lt1 lt2 lt3
  have q1 := lt3 (L + 1, o1) (.tail _ (.head _))
  have q4 := lt3 (L + 4, o4) (.tail _ (.tail _ (.tail _ (.tail _ (.head _)))))
  dsimp only at q1 q4
  have hq : L + 4 < an ∧ L + 4 < ac ∧ L + 4 < ad ∧ L + 4 < b ∧ ∀ p ∈ tl, L + 4 < p.1 := by
    refine ⟨q4.1, Nat.lt_trans q4.1 lt1.1, Nat.lt_trans q4.1 (Nat.lt_trans lt1.1 lt1.2.1), Nat.lt_trans q4.1 (Nat.lt_trans lt1.1 (Nat.lt_trans lt1.2.1 lt1.2.2)), q4.2⟩
  have abS : ∀ p ∈ setsLed an ac ad rs na nc nd tl, L + 4 < p.1 := by
    intro p hp
    rcases List.mem_cons.mp hp with rfl | hp
    · exact hq.2.2.1
    rcases List.mem_cons.mp hp with rfl | hp
    · exact hq.2.1
    rcases List.mem_cons.mp hp with rfl | hp
    · exact hq.1
    exact hq.2.2.2.2 p hp
  have offS : Off L (setsLed an ac ad rs na nc nd tl) := fun p hp => .inr (abS p hp)
  obtain ⟨btup, hbt⟩ : ∃ o : Obj, o = { cls := .type "tuple", data := .seq #[.ref an, .ref ac, .ref ad] } := ⟨_, rfl⟩
  have N9 : News h₀ L h8 ((L + 1, o1) :: (L + 2, o2) :: (L + 3, o3) :: (L + 4, o4) :: (b, ({ cls := .type "tuple", data := .seq #[.ref an, .ref ac, .ref ad] } : Obj)) :: (setsLed an ac ad rs na nc nd tl ++ news)) := News.mono' N8' (by
    intro p hp
    simp only [List.mem_cons, List.mem_append] at hp ⊢
    rcases hp with h | h | h | h | h | (h | h | h | h) | h
    · exact .inr (.inr (.inr (.inr (.inr (.inr (.inl h))))))
    · exact .inr (.inr (.inr (.inr (.inr (.inr (.inr (.inl h)))))))
    · exact .inr (.inr (.inr (.inr (.inr (.inr (.inr (.inr (.inl h))))))))
    · exact .inr (.inr (.inr (.inr (.inr (.inr (.inr (.inr (.inr (.inl h)))))))))
    · exact .inl h
    · exact .inr (.inl h)
    · exact .inr (.inr (.inl h))
    · exact .inr (.inr (.inr (.inl h)))
    · exact .inr (.inr (.inr (.inr (.inl h))))
    · exact .inr (.inr (.inr (.inr (.inr (.inr (.inr (.inr (.inr (.inr h))))))))))
  clear N8' N
  have ofs : Off L ((b, ({ cls := .type "tuple", data := .seq #[.ref an, .ref ac, .ref ad] } : Obj)) :: (setsLed an ac ad rs na nc nd tl ++ news)) := by
    intro p hp
    rcases List.mem_cons.mp hp with rfl | hp
    · exact .inr hq.2.2.2.1
    · rcases List.mem_append.mp hp with hp | hp
      · exact offS p hp
      · exact hoff p hp
  clear F7
  k_steps
  rename Fr _ _ _ _ => F9
  rename News _ _ _ _ => N10
  refine store_c1 F9 N10 ofs d1 rfl ?_
  intro h' o1' F' N' d1'
  clear F9 N10
  k_steps
  rename Fr _ _ _ _ => F9
  rename News _ _ _ _ => N10
  refine store_c2 F9 N10 ofs d2 rfl ?_
  intro h' o2' F' N' d2'
  clear F9 N10
  k_steps
  rename Fr _ _ _ _ => F9
  rename News _ _ _ _ => N10
  refine ret an ac ad rs tl na nc nd _ _ o1' o2' hrs good d1' d2' F9 (News.mono' N10 ?_) abS (fun p hp => ⟨(lt2 p hp).1, (lt2 p hp).2.1, (lt2 p hp).2.2.1⟩) ⟨lt1.1, lt1.2.1⟩
  intro p hp
  simp only [lawLed, List.mem_cons] at hp ⊢
  rcases hp with h | h | h | h | h
  · exact .inl h
  · exact .inr (.inl h)
  · exact .inr (.inr (.inl h))
  · exact .inr (.inr (.inr (.inl h)))
  · exact .inr (.inr (.inr (.inr (.inr h))))
end
end

/- OF -/
theorem offOF : True := by
  w_top off
  exact trivial
section
open PySem PySem.W PyProof.Rows PySem.Spec PySem.Calls PySem.SeqAt PyProof.V
set_option Elab.async false
set_option maxRecDepth 100000
set_option maxHeartbeats 2000000
section
variable {prog : Program} {w : World} {mean : ExcName → Option Value} {mg mb : Str → Option Value} {A : Around} {h₀ : Heap} {L fa : Addr} {m : Str → Option Value} {news : List (Addr × Obj)} {s : Shared} {x y : Addr} {c d : Nat}
    {Q : Flow → Shared → Prop} {E : Value → Shared → Prop} {qual : Str} {cdv : Value}
theorem good_nth {tl : List (Addr × Obj)} {rs : List SetR} (good : Good tl rs) {i : Nat} {r : SetR} (h : rs[i]? = some r) : NstK eH tl r.v r.c := (good r (List.mem_of_getElem? h)).1
theorem rs_ints : ∀ rs : List SetR, IntsAre (rs.map fun r => Value.int r.c r.t) (rs.map fun r => (r.c : Int))
  | [] => .nil
  | r :: rs => .cons _ _ (rs_ints rs)
theorem Has.sub {news news' : List (Addr × Obj)} {h₀ h : Heap} (H : Has h₀ news h) (hs : ∀ p ∈ news', p ∈ news) : Has eH news' h := H.mono eH_keep hs
theorem ne_nests {a b : Addr} {vs us : List Value} {cs : List Nat} {A : Around} {Q : Value → Shared → Prop} {t1 t2 : List (Addr × Obj)} (ha : s.heap.IsList a vs.toArray) (hb : s.heap.IsList b us.toArray) (h1 : vs.length = cs.length) (h2 : us.length = cs.length)
    (n1 : ∀ (i : Nat) (v : Value) (c : Nat), vs[i]? = some v → cs[i]? = some c → NstK eH t1 v c) (n2 : ∀ (i : Nat) (v : Value) (c : Nat), us[i]? = some v → cs[i]? = some c → NstK eH t2 v c) (H1 : Has eH t1 s.heap) (H2 : Has eH t2 s.heap)
    (hu : A.units + 20 < cLine) (h : Q (.bool false) s) : wpAny (model prog w) A (compareOp .NotEq (.ref a) (.ref b)) Q E s := by
  refine RcNeAt.lists (e := fun _ => true) ha hb (by simp [h1, h2]) (by exact rm0 (by assumption)) (fun j h3 h4 => ?_) prog w E Q ?_
  · have hj : j < cs.length := by simpa [h1] using h3
    have e1 : vs[j]? = some vs.toArray[j] := by simp
    have e2 : us[j]? = some us.toArray[j] := by simp
    have m1 := n1 j _ _ e1 (List.getElem?_eq_getElem hj)
    have m2 := n2 j _ _ e2 (List.getElem?_eq_getElem hj)
    have := Nst.eqAt (A := A.in1) m1.lt m2.lt (m1.at H1) (m2.at H2) (by show A.units + 1 + 4 < cLine; exact rm2 (by assumption) (by exact rfl))
    simpa using this
  · have : (List.range vs.toArray.size).all (fun _ => true) = true := by simp
    rw [this]; exact h
theorem ne_ints {a b : Addr} {vs us : List Value} {ns : List Int} {A : Around} {Q : Value → Shared → Prop} (ha : s.heap.IsList a vs.toArray) (hb : s.heap.IsList b us.toArray) (h1 : IntsAre vs ns) (h2 : IntsAre us ns)
    (hu : A.units + 20 < cLine) (h : Q (.bool false) s) : wpAny (model prog w) A (compareOp .NotEq (.ref a) (.ref b)) Q E s := by
  have l1 := h1.length
  have l2 := h2.length
  refine RcNeAt.lists (e := fun _ => true) ha hb (by simp [l1, l2]) (by exact rm0 (by assumption)) (fun j h3 h4 => ?_) prog w E Q ?_
  · have e1 : vs[j]? = some vs.toArray[j] := by simp
    have e2 : us[j]? = some us.toArray[j] := by simp
    obtain ⟨k, t, ek, e3⟩ := ints_get h1 e1
    obtain ⟨k', t', ek', e4⟩ := ints_get h2 e2
    rw [e3] at e4; cases e4
    rw [ek, ek']
    have := EqAt.int_int (A := A.in1) (s := s) k t k t'
    simpa using this
  · have : (List.range vs.toArray.size).all (fun _ => true) = true := by simp
    rw [this]; exact h
theorem law_c {an ac ad : Addr} {rs : List SetR} {tl : List (Addr × Obj)} {na nc nd : Nat} {o1 o2 o3 o4 : Obj} (F : Fr h₀ L s.heap m) (X : Frag.In (Mine.hd.heap_39 w.params) h₀) (N : News h₀ L s.heap (lawLed L o1 o2 o3 o4 (setsLed an ac ad rs na nc nd tl ++ news))) (T : Top topProg loo mean mg mb h₀) (hh : A.handled = none)
    (hd : A.depth + 100 < recursionLimit) (hu : A.units + 900 < cLine) (d1 : o1.data = .cell (some (.ref an))) (d2 : o2.data = .cell (some (.ref ac))) (good : Good tl rs) (hrl : rs.length ≤ 7)
    (ret : ∀ h' tk', Fr h₀ L h' m → News h₀ L h' (lawLed L o1 o2 o3 o4 (setsLed an ac ad rs na nc nd tl ++ news)) → Q .next { s with heap := h', toks := tk' }) :
    wpAny (model prog w) (A.deeper (lawEnv L fa cdv)) (exec (lawAt 2) (lawEnv L fa cdv)) Q E s := by
  obtain ⟨hA, dp, fr, gd, un⟩ := A
  dsimp only at hh hd hu
  subst hh
  conv in exec _ => arg 1; whnf
  k_steps
  generalize hLG : lawLed L o1 o2 o3 o4 (setsLed an ac ad rs na nc nd tl ++ news) = LG at N ret
  have mc1 : (L + 1, o1) ∈ LG := by rw [← hLG]; exact .head _
  have mc2 : (L + 2, o2) ∈ LG := by rw [← hLG]; exact .tail _ (.head _)
  have mad : (ad, W.listOf (rs.map fun r => Value.ref r.d).toArray nd) ∈ LG := by rw [← hLG]; exact .tail _ (.tail _ (.tail _ (.tail _ (.head _))))
  have mac : (ac, W.listOf (rs.map fun r => Value.int r.c r.t).toArray nc) ∈ LG := by rw [← hLG]; exact .tail _ (.tail _ (.tail _ (.tail _ (.tail _ (.head _)))))
  have man : (an, W.listOf (rs.map fun r => r.v).toArray na) ∈ LG := by rw [← hLG]; exact .tail _ (.tail _ (.tail _ (.tail _ (.tail _ (.tail _ (.head _))))))
  have mtl : ∀ p ∈ tl, p ∈ LG := fun p hp => by rw [← hLG]; exact .tail _ (.tail _ (.tail _ (.tail _ (.tail _ (.tail _ (.tail _ (List.mem_append_left _ hp)))))))
  rename Fr _ _ _ _ => F1
  refine comp_list (lo := W.listOf (rs.map fun r => Value.int r.c r.t).toArray nc) (vs := rs.map fun r => Value.int r.c r.t) (nn := nc) (fun i ys nx => GrowJ LG LG (NestR (rs.map (·.c))) i ys nx) rfl rfl rfl
    (fun i ys nx hj h H => by obtain ⟨t2, rfl, _, _, _⟩ := hj; exact H.2 _ (List.mem_append_right _ mac)) (by rw [List.length_map]; exact lek (by assumption) (by exact rfl)) F1 N ⟨[], rfl, (fun _ h => nomatch h), rfl, fun _ _ h => by cases h⟩ ?turn ?done
  case turn =>
    rintro i v C mc ys nx h2 tk2 own E2 hv ⟨t2, rfl, hlt, hlen, hys⟩ hyl hoff F2 N2
    rw [List.getElem?_map] at hv
    obtain ⟨r, hr, rfl⟩ := Option.map_eq_some_iff.mp hv
    refine comp_turn0 ?_
    k_steps
    all_goals (try k_data)
    rename Fr _ _ _ _ => F3
    have nr := good_nth good hr
    refine spell_all 4 r.c (tw4 nr.lt) nr.lt _ _ _ _ _ _ _ _ _ F3 X N2 T rfl (by ((try dsimp only [depth_deeper, depth_in1]); exact rm3 (by assumption) (by exact rfl))) (by ((try dsimp only [units_deeper, units_in1, Around.mark_units]); exact rm3 (by assumption) (by exact rfl))) ?_
    intro b tl2 h3 tk3 F4 N3 hn3 hlt3
    refine ⟨h3, tk3, _, tl2 ++ (t2 ++ LG), rfl, F4, by rw [List.append_assoc]; exact N3, ?_, grow_step hlt hlen hys (fun p hp q hq => hlt3 p hp q (List.mem_append_left _ (List.mem_append_right _ hq))) (fun j y _ h c hc => (h c hc).mono (fun _ _ e => e) fun p hp => List.mem_append_right _ hp) (fun c hc => ?_) (List.append_assoc _ _ _)⟩
    · intro p hp q hq
      rcases List.mem_append.mp hp with hp | hp
      · exact Nat.ne_of_gt (hlt3 p hp q (List.mem_append_right _ hq))
      · exact hoff p hp q hq
    · rw [List.getElem?_map, hr] at hc
      cases hc
      exact hn3.mono (fun _ _ e => e) fun p hp => List.mem_append_left _ hp
  case done =>
    rintro D nD ys nx h2 tk2 ⟨t2, rfl, hlt, hlen, hys⟩ hyl F2 N2 ltD neD
    rw [List.length_map] at hlen
    k_steps
    all_goals (try k_data)
    have nth : ∀ (i : Nat) (v : Value) (c : Nat), (rs.map fun r => r.v)[i]? = some v → (rs.map (·.c))[i]? = some c → NstK eH tl v c := fun i v c hv hc => by
      rw [List.getElem?_map] at hv hc
      obtain ⟨r, hr, rfl⟩ := Option.map_eq_some_iff.mp hv
      rw [hr] at hc; cases hc
      exact good_nth good hr
    refine ne_nests (cs := rs.map (·.c)) ⟨_, (N2 _ (.tail _ (List.mem_append_right _ man))).1, rfl, _, rfl⟩ ⟨_, (N2 _ (.head _)).1, rfl, _, rfl⟩ (by simp) (by simp [hlen]) nth (fun j y c hy hc => hys j y hy c hc) (Has.sub (has_of F2 N2 fun _ h => h) fun p hp => .tail _ (List.mem_append_right _ (mtl p hp))) (Has.sub (has_of F2 N2 fun _ h => h) fun p hp => .tail _ (List.mem_append_left _ hp)) (by ((try dsimp only [units_deeper, units_in1, Around.mark_units]); exact rm2 (by assumption) (by exact rfl))) ?_
    have N3 : News h₀ L h2 LG := News.mono' N2 fun p hp => .tail _ (List.mem_append_right _ hp)
    clear N2 ltD neD hlt hys
    k_steps
    all_goals (try k_data)
    rename Fr _ _ _ _ => F1
    refine comp_list (lo := W.listOf (rs.map fun r => r.v).toArray na) (vs := rs.map fun r => r.v) (nn := na) (fun i ys nx => nx = LG ∧ ys.length = i ∧ IntsAre ys ((rs.map fun r => (r.c : Int)).take i)) rfl rfl rfl
      (fun i ys nx hj h H => by obtain ⟨rfl, _⟩ := hj; exact H.2 _ man) (by rw [List.length_map]; exact lek (by assumption) (by exact rfl)) F1 N3 ⟨rfl, rfl, by simpa using IntsAre.nil⟩ ?turn ?done
    case turn =>
      rintro i v C mc zs nx h3 tk3 own E2 hv ⟨hnx, hlen3, hzs⟩ hyl3 hoff3 F3 N4
      subst nx
      rw [List.getElem?_map] at hv
      obtain ⟨r, hr, rfl⟩ := Option.map_eq_some_iff.mp hv
      refine comp_turn0 ?_
      have nr := good_nth good hr
      obtain ⟨av, hav⟩ := nst_ref nr
      rw [hav] at F3 nr
      k_steps
      all_goals (try k_data)
      rename Fr _ _ _ _ => F4
      refine law_read F4 X N4 T rfl (nr.mono eH_keep fun p hp => List.mem_append_left _ (mtl p hp)) (by ((try dsimp only [depth_deeper, depth_in1]); exact rm2 (by assumption) (by exact rfl))) (by ((try dsimp only [units_deeper, units_in1, Around.mark_units]); exact rm2 (by assumption) (by exact rfl))) ?_
      intro t h4 tk4 F5 N5
      refine ⟨h4, tk4, _, LG, rfl, F5, N5, hoff3, rfl, by simp [hlen3], ?_⟩
      have e : (rs.map fun r => (r.c : Int)).take (i + 1) = (rs.map fun r => (r.c : Int)).take i ++ [(r.c : Int)] := by
        rw [List.take_add_one, List.getElem?_map, hr]; rfl
      rw [e]
      exact ksk_snoc hzs
    case done =>
      rintro D2 nD2 zs nx h3 tk3 ⟨hnx, hlen3, hzs⟩ hyl3 F3 N4 ltD2 neD2
      subst nx
      clear N3 N F1
      refine nameX_C N4 rfl (.tail _ mc2) d2 ?_
      have hzs2 : IntsAre zs (rs.map fun r => (r.c : Int)) := by rwa [List.take_of_length_le (by simp)] at hzs
      refine ne_ints (ns := rs.map fun r => (r.c : Int)) ⟨_, (N4 _ (.head _)).1, rfl, _, rfl⟩ ⟨_, (N4 _ (.tail _ mac)).1, rfl, _, rfl⟩ hzs2 (rs_ints rs) (by ((try dsimp only [units_deeper, units_in1, Around.mark_units]); exact rm2 (by assumption) (by exact rfl))) ?_
      k_steps
      rename Fr _ _ _ _ => F9
      rename News _ _ _ _ => N9
      exact ret _ _ F9 (News.mono' N9 fun p hp => .tail _ hp)
end
end

/- OG -/
theorem offOG : True := by
  w_top off
  exact trivial
section
open PySem PySem.W PyProof.Rows PySem.Spec PySem.Calls PySem.SeqAt PyProof.V
set_option Elab.async false
set_option maxRecDepth 100000
set_option maxHeartbeats 2000000
section
variable {prog : Program} {w : World} {mean : ExcName → Option Value} {mg mb : Str → Option Value} {A : Around} {h₀ : Heap} {L fa : Addr} {m : Str → Option Value} {news : List (Addr × Obj)} {s : Shared} {x y : Addr} {c d : Nat}
    {Q : Flow → Shared → Prop} {E : Value → Shared → Prop} {qual : Str} {cdv : Value}
noncomputable def eParts (e : PySem.Expr) : List PySem.Expr × Arguments × PySem.Expr × Scope := by
  cases e with
  | Call _ as => exact (as, ⟨[], [], none, [], [], none, []⟩, .Constant (.int 0) 0 ⟨0, 0, 0, 0⟩, ⟨.function, [], false, false, []⟩)
  | List es => exact (es, ⟨[], [], none, [], [], none, []⟩, .Constant (.int 0) 0 ⟨0, 0, 0, 0⟩, ⟨.function, [], false, false, []⟩)
  | Lambda p b s => exact ([], p, b, s)
  | _ => exact ([], ⟨[], [], none, [], [], none, []⟩, .Constant (.int 0) 0 ⟨0, 0, 0, 0⟩, ⟨.function, [], false, false, []⟩)
noncomputable def lamOf (e : PySem.Expr) : Arguments × PySem.Expr × Scope := (eParts ((eParts e).1.getD 0 (.Constant (.int 0) 0 ⟨0, 0, 0, 0⟩))).2
noncomputable def lamAt (k : Nat) : Arguments × PySem.Expr × Scope := lamOf ((eParts (sParts (lawAt 3)).2.2.2).1.getD k (.Constant (.int 0) 0 ⟨0, 0, 0, 0⟩))
section
variable {K : Frag} {p : Program} {loose : List Str} {R : Result → Shared → Prop} {name qual : Str} {params : Arguments} {body : Expr} {scope : Scope} {cl : List (Str × Addr)} {pm ctv : Value} {c' f : Addr} {args : Args} {binds : List (Str × Value)}
theorem enterL (F : Fr h₀ L s.heap m) (X₀ : K.In h₀) (N : News h₀ L s.heap news) (T : Top p loose mean mg mb h₀)
    (ho : (f, kla_obj name qual params body scope cl pm c' ctv) ∈ news) (hcd : s.heap.CodeRec (.ref c') qual) (hroom : A.depth < recursionLimit)
    (hbind : bindArgs (kla_fn name qual params body scope cl pm (.ref c') ctv) args = pure binds) (hloc : ∀ y ∈ binds, scope.names.lookup y.1 = some .local)
    (h : ∀ g L' h₁, Fr h₀ L g m → Fr g L' h₁ (fun y => binds.reverse.lookup y) → News g L' h₁ news → K.In g → Top p loose mean mg mb g → (∀ p ∈ news, p.1 < L') →
      wpAny (model prog w) (A.deeper (envX qual scope L' f (.ref c') cl)) (eval body (envX qual scope L' f (.ref c') cl))
        (fun v s' => LeaveK h₀ L m g R v s')
        (fun e s' => wpAny (model prog w) (A.deeper (envX qual scope L' f (.ref c') cl)) (leaving (envX qual scope L' f (.ref c') cl) e) (fun _ s'' => R (.error e) s'') (fun e' s'' => R (.error e') s'') s')
        { s with heap := h₁, toks := s.toks + binds.length })
    (hco : scope.isCoroutine = false) (hgen : scope.isGenerator = false) (hk : scope.kind = .function)
    (hcell : ∀ x ∈ scope.names, x.2 ≠ .cell) : codeAny (model prog w) A (.call (.ref f) args) R s := by
  obtain ⟨FG, st, lv⟩ := groundN (R := R) F N
  refine kla_callFunE hroom (N _ ho).1 rfl hco hgen rfl hcd ?_
  rw [hbind]
  refine wpAny_pure (wpAny_newFunctionEnv hcell hloc (fun h₁ hns hsb => ⟨((T.nolimit).keeps F.keep).fresh _ hsb, ?_⟩) hk)
  show codeAny _ _ (.expr body (envX qual scope s.heap.objs.size f (.ref c') cl)) _ _
  have hk₁ : ∀ b o, s.heap.get? b = some o → h₁.get? b = some o := fun b o e => hsb.extBut b o (Nat.ne_of_lt (Heap.lt_size e)) (Heap.get?_push_of_some _ e)
  exact kla_codeExpr (wpAny_mono (h _ s.heap.objs.size h₁ FG ⟨hns, fun b o e => hk₁ b o (of_hideAll _ e), Nat.le_of_eq (hideAll_size _ _)⟩
    (fun p hp => ⟨hk₁ _ _ (N p hp).1, Nat.ne_of_lt (Heap.lt_size (N p hp).1), hideAll_none _ (List.mem_map_of_mem hp)⟩) (X₀.keeps st) (T.keeps st) (fun p hp => Heap.lt_size (N p hp).1)) (fun v s' hl => lv _ _ hl) fun _ _ y => y)
end
section
variable {Q E : Value → Shared → Prop} {f c1 l : Addr} {oc1 : Obj} {q : Str} {pm ct v1 v2 v3 : Value}
theorem lam_list (F : Fr h₀ L s.heap m) (X : Frag.In (Mine.hd.heap_39 w.params) h₀) (N : News h₀ L s.heap news) (T : Top topProg loo mean mg mb h₀) (hh : A.handled = none)
    (hd : A.depth + 10 < recursionLimit) (hu : A.units + 100 < cLine) (hf : (f, kla_obj "<lambda>" q (lamAt 0).1 (lamAt 0).2.1 (lamAt 0).2.2 [] pm c1 ct) ∈ news) (hc : (c1, oc1) ∈ news) (d : NamedCode oc1 q)
    (ret : ∀ b h' tk', Fr h₀ L h' m → News h₀ L h' ((b, W.listOf #[v1, v2] 0) :: news) → (∀ p ∈ news, p.1 < b) → Q (.ref b) { s with heap := h', toks := tk' }) :
    wpAny (model prog w) A (call (.ref f) [v1, v2]) Q E s := by
  obtain ⟨hA, dp, fr, gd, un⟩ := A
  dsimp only at hh hd hu
  subst hh
  refine wpAny_call (enterL (binds := [(Str.ofString "a", v1), (Str.ofString "b", v2)]) F X N T hf (d.rec' (N _ hc).1) ?room ?bind ?loc ?_ rfl rfl rfl (by decide))
  case room => dsimp only; exact rm0 (by assumption)
  case bind => rfl
  case loc => exact List.forall_mem_cons.mpr ⟨rfl, List.forall_mem_cons.mpr ⟨rfl, fun _ h => nomatch h⟩⟩
  intro g1 L1 h1 FG F1 N1 X1 T1 l1
  conv in eval _ => arg 1; whnf
  k_steps
  rename_i b1 g2 fx nx lb kF kN kT kX
  exact ret b1 _ _ kF kN lb
theorem lam_add {x y : Int} {t u : Tok} (F : Fr h₀ L s.heap m) (X : Frag.In (Mine.hd.heap_39 w.params) h₀) (N : News h₀ L s.heap news) (T : Top topProg loo mean mg mb h₀) (hh : A.handled = none)
    (hd : A.depth + 10 < recursionLimit) (hu : A.units + 100 < cLine) (hf : (f, kla_obj "<lambda>" q (lamAt 2).1 (lamAt 2).2.1 (lamAt 2).2.2 [] pm c1 ct) ∈ news) (hc : (c1, oc1) ∈ news) (d : NamedCode oc1 q)
    (ret : ∀ t' h' tk', Fr h₀ L h' m → News h₀ L h' news → Q (.int (x + y) t') { s with heap := h', toks := tk' }) :
    wpAny (model prog w) A (call (.ref f) [.int x t, .int y u]) Q E s := by
  obtain ⟨hA, dp, fr, gd, un⟩ := A
  dsimp only at hh hd hu
  subst hh
  refine wpAny_call (enterL (binds := [(Str.ofString "a", .int x t), (Str.ofString "b", .int y u)]) F X N T hf (d.rec' (N _ hc).1) ?room ?bind ?loc ?_ rfl rfl rfl (by decide))
  case room => dsimp only; exact rm0 (by assumption)
  case bind => rfl
  case loc => exact List.forall_mem_cons.mpr ⟨rfl, List.forall_mem_cons.mpr ⟨rfl, fun _ h => nomatch h⟩⟩
  intro g1 L1 h1 FG F1 N1 X1 T1 l1
  conv in eval _ => arg 1; whnf
  k_steps
  exact ret _ _ _ (by assumption) (by assumption)
theorem nextK {I l : Addr} {items : Array Value} {i : Nat} {x : Value} (F : Fr h₀ L s.heap m) (N : News h₀ L s.heap ((I, itObj l i) :: news)) (hne : ∀ p ∈ news, p.1 ≠ I) (hl : s.heap.IsList l items) (hx : items[i]? = some x)
    (h : ∀ h', Fr h₀ L h' m → News h₀ L h' ((I, itObj l (i + 1)) :: news) → Q x { s with heap := h' }) : wpAny (model prog w) A (call (.builtin "next") [.ref I]) Q E s := by
  have hm := N _ (.head _)
  have hit : s.heap.IsListIter I l i := ⟨_, hm.1, rfl, rfl⟩
  have ho := hm.1
  obtain ⟨ol, hol, _, nl, hdl⟩ := hl
  refine call_function_entry (by decide +kernel) (by decide +kernel) kdk_entry_next (kdk_args_next _) ?_
  unfold Builtin.«next»
  refine wpAny_bind (m := someArgs "next" 1 2 _) (wpAny_of_eq (a := [Value.ref I]) (by first | rfl | kernel_rfl!) ?_)
  dsimp only
  refine wpAny_bind (wpAny_specialOf (name := Str.ofString "__next__") hit.typeIs slot_listiter_next.lookup ?_)
  refine wpAny_ite_split (fun hab => absurd hab (by decide)) (fun _ => ?_)
  refine wpAny_bind (wpAny_callSpecial?_slot (name := Str.ofString "__next__") hit.typeIs slot_listiter_next
    (wpAny_call_entry slot_listiter_next hit.typeIs entry_listiter_next ?_ (args_listiter_next _)))
  have hd : (itObj l i).data = .fields #[.ref l, .int i 0] := rfl
  show wpAny _ _ (field (.ref I) 0 >>= _) _ _ s
  refine wpAny_bind (wpAny_field ho hd (x := .ref l) rfl ?_)
  show wpAny _ _ (if (Value.ref l == Value.none) = true then _ else _) _ _ s
  rw [if_neg (show ¬ ((Value.ref l == Value.none) = true) from Bool.false_ne_true)]
  show wpAny _ _ (field (.ref I) 1 >>= _) _ _ s
  refine wpAny_bind (wpAny_field ho hd (x := .int i 0) rfl ?_)
  show wpAny _ _ (seqItems? (.ref l) >>= _) _ _ s
  refine wpAny_bind (wpAny_seqItems hol hdl ?_)
  simp only [Int.toNat_natCast, hx]
  refine wpAny_bind (wpAny_setField ho hd (by simp) (wpAny_pure ⟨x, rfl, wpAny_pure ⟨_, rfl, ?_⟩⟩))
  have hs := Heap.SameBut.update s.heap I (Obj.mapFields (·.setIfInBounds 1 (rawInt ((i : Int) + 1))))
  have he : Obj.mapFields (·.setIfInBounds 1 (rawInt ((i : Int) + 1))) (itObj l i) = itObj l (i + 1) := rfl
  refine h _ (F.change hs hm.2.1 hm.2.2) (fun p hp => ?_)
  rcases List.mem_cons.mp hp with rfl | hp
  · exact ⟨by rw [← he]; exact Heap.get?_update_self _ ho (Obj.isFreed_of_fields (Obj.data_mapFields hd _)), hm.2⟩
  · have z := N p (.tail _ hp)
    exact ⟨(hs.2 p.1 (hne p hp)).trans z.1, z.2⟩
theorem callWith_lam {M : Model} {env : Env} {pos : Pos} {e : Expr} {rest : List Expr} {fv c' : Addr} {nm q : Str} {params : Arguments} {body : Expr} {scope : Scope} {cl : List (Str × Addr)} {pm ct : Value}
    (h : wpAny M A (spliced (backTo pos (starEach (e :: rest) env))) (fun vs s₁ => s₁.heap.get? fv = some (kla_obj nm q params body scope cl pm c' ct) ∧ wpAny M A (call (.ref fv) vs) Q E s₁) E s)
    (he : starEach (e :: rest) env = (false, eval e env) :: starEach rest env := by rfl) (hplain : (backTo pos (starEach rest env)).any (·.1) = false := by rfl) :
    wpAny M A (callWith pos (.ref fv) [] (backTo pos (starEach (e :: rest) env)) []) Q E s := by
  rw [he] at h ⊢
  exact callWith_of (P := fun h => h.get? fv = some (kla_obj nm q params body scope cl pm c' ct)) (by show ((false || (backTo pos (starEach rest env)).any (·.1)) || false) = false; rw [hplain]; rfl)
    (fun h hp => ⟨.frame, .inl rfl, (Looks.ld (part := none) hp).andThen .now⟩) (evalArgs_plain h)
noncomputable def StepC (prog : Program) (w : World) (mean : ExcName → Option Value) (mg mb : Str → Option Value) (f : Value) (vs : List Value) (du uu : Nat) (St : Nat → Value → List (Addr × Obj) → Prop) : Prop :=
  ∀ (A : Around) (h₀ : Heap) (L : Addr) (m : Str → Option Value) (nx own : List (Addr × Obj)) (s : Shared) (Q E : Value → Shared → Prop) (i : Nat) (u v : Value), A.handled = none → A.depth + du < recursionLimit → A.units + uu < cLine → vs[i]? = some v → St i u nx →
    Fr h₀ L s.heap m → Frag.In (Mine.hd.heap_39 w.params) h₀ → Top topProg loo mean mg mb h₀ → News h₀ L s.heap (nx ++ own) → (∀ p ∈ nx, ∀ q ∈ own, p.1 ≠ q.1) →
    (∀ u' nx' h' tk', St (i + 1) u' nx' → Fr h₀ L h' m → News h₀ L h' (nx' ++ own) → (∀ p ∈ nx', ∀ q ∈ own, p.1 ≠ q.1) → Q u' { s with heap := h', toks := tk' }) → wpAny (model prog w) A (call f [u, v]) Q E s
theorem red_init {fv : Addr} {vs : List Value} {n du uu : Nat} {a0 : Value} {St : Nat → Value → List (Addr × Obj) → Prop} {nm qf : Str} {params : Arguments} {body : Expr} {scope : Scope} {cl : List (Str × Addr)} {pmf ctf : Value} {cf : Addr} (S : StepC prog w mean mg mb (.ref fv) vs du uu St) (F : Fr h₀ L s.heap m) (X : Frag.In (Mine.hd.heap_39 w.params) h₀) (N : News h₀ L s.heap news) (T : Top topProg loo mean mg mb h₀) (hh : A.handled = none)
    (hd : A.depth + du + 20 < recursionLimit) (hu : A.units + uu + 200 < cLine) (hl : (l, W.listOf vs.toArray n) ∈ news) (hget : ∀ i u nx, St i u nx → (l, W.listOf vs.toArray n) ∈ nx ∧ (fv, kla_obj nm qf params body scope cl pmf cf ctf) ∈ nx) (hst : St 0 a0 news) (hi : ∃ z t, a0 = .int z t)
    (ret : ∀ u nx h' tk', St vs.length u nx → Fr h₀ L h' m → News h₀ L h' nx → Q u { s with heap := h', toks := tk' }) :
    wpAny (model prog w) A (call (.ref 72) [.ref fv, .ref l, a0]) Q E s := by
  obtain ⟨z0, t0, rfl⟩ := hi
  obtain ⟨hA, dp, fr, gd, un⟩ := A
  dsimp only at hh hd hu
  subst hh
  ((refine wpAny_call ?_; k_dflt (refine' enterN ?k2 ?k3 ?k4 ?k5 ?k6 ?k7 ?k8 ?k9 ?kB ?_ ?c2 ?c3 ?c4 ?c5; (case k2 => k_asm); (case k3 => k_asm); (case k4 => k_asm); (case k5 => k_asm); (case k6 => k_is); (case k7 => k_is); (case k8 => (((try dsimp only [depth_deeper, depth_in1]); (first | exact rm3 (by assumption) (by exact rfl) | exact rm2 (by assumption) (by exact rfl) | exact rm1 (by assumption) (by exact rfl) | exact rm0 (by assumption) | exact rm00 (by assumption) | exact rmd (by assumption) (by exact rfl) | assumption | omega)))); (case k9 => first | exact binds_K (by k_in) rfl (by k_is) rfl rfl rfl | exact BindsTo.of_eq rfl); (case c5 => decide); (case kB => exact locs rfl); (case c2 => exact rfl); (case c3 => exact rfl); (case c4 => exact rfl); k_whole); intro _ _ _ _ _ _ _ _ _; (try dsimp only); (try k_fold)))
  rename_i g1 L1 hh1 F1 N1 X1 T1 ltL
  k_steps
  refine iterK F1 N1 ⟨_, (N1 _ hl).1, rfl, _, rfl⟩ ?_
  intro I h2 F2 N2 ltI
  k_steps
  refine wpAny_is_other (by rfl) (by intro x; cases x) ?_
  iterate 11 walk1
  rename Fr _ _ _ _ => lF'
  with_unfolding_all refine' For_invVF lF' ?k1 ?k2 ?_; (case k1 => exact rfl); (case k2 => exact rfl); k_whole
  k_steps
  rename Fr _ _ _ _ => F4
  rename News _ _ _ _ => N4
  have hIt := (N4 _ (.head _)).1
  have hlh := (N4 _ (.tail _ hl)).1
  have hlI : l ≠ I := Nat.ne_of_lt (ltI _ hl)
  have N5 : News _ _ _ news := fun p hp => N4 p (.tail _ hp)
  refine wpAny_pyIter_listiter ⟨_, hIt, rfl, rfl⟩ (loop_gm (l := l) (lo := W.listOf (vs).toArray n) (vs := vs) (nn := n) (i0 := 0) [Str.ofString "value"]
    (fun i u nx => ∃ v, u (Str.ofString "value") = some v ∧ St i v nx)
    rfl rfl rfl (fun i m' nx hj h H => by obtain ⟨v, _, hs⟩ := hj; exact H.2 _ (hget _ _ _ hs).1)
    (seq_ne_ns hlh rfl F4.ns) (N4 _ (.head _)).2.1 hlI ⟨_, hIt, rfl, rfl⟩ (N4 _ (.head _)).2.2 (fun p hp => Nat.ne_of_lt (ltI p hp)) (Nat.zero_le _) F4 N5
    ⟨_, rfl, hst⟩ ?turn ?done)
  case turn =>
    rintro i v u nx₁ h5 tk5 own hv ⟨uv, hu', hS⟩ hoI ⟨oI, hoI2⟩ hnI F5 N6
    rw [over1 hu'] at F5
    clear F4 N4 N5
    have hsep : ∀ p ∈ nx₁, ∀ q ∈ own, p.1 ≠ q.1 := fun p hp q hq => by rw [hoI q hq]; exact hnI p hp
    k_steps
    refine callWith_lam (nm := nm) (q := qf) (params := params) (body := body) (scope := scope) (cl := cl) (pm := pmf) (ct := ctf) (c' := cf) ?_
    k_steps
    · exact (N6 _ (List.mem_append_left _ (hget _ _ _ hS).2)).1
    rename Fr _ _ _ _ => F6
    rename News _ _ _ _ => N7
    refine S _ _ g1 _ _ _ { s with heap := h5, toks := _ } _ _ i uv v ?_ ?_ ?_ (by simpa using hv) hS F6 X1 T1 N7 hsep ?_
    · rfl
    · ((try dsimp only [depth_deeper, depth_in1]); exact rmd (by assumption) (by exact rfl))
    · ((try dsimp only [units_deeper, units_in1, Around.mark_units]); exact rmd (by assumption) (by exact rfl))
    intro u' nx' h6 tk6 hS' F7 N8 hsep'
    k_steps
    rename Fr _ _ _ _ => F8
    rename News _ _ _ _ => N9
    unfold PostG
    dsimp only
    refine ⟨_, _, _, nx', rfl, F8, N9, ?_, ?_, u', rfl, hS'⟩
    · exact fun p hp => by have := hsep' p hp _ hoI2; exact this
    · intro z hz
      have h1 : z ≠ Str.ofString "element" := fun e => hz (by rw [e]; exact .head _)
      have h2 : z ≠ Str.ofString "value" := fun e => hz (by rw [e]; exact .tail _ (.head _))
      simp only [if_neg h1, if_neg h2]
  case done =>
    rintro u nx₁ h5 tk5 ⟨uv, hu', hS⟩ F5 N6
    clear F4 N4 N5
    dsimp only
    rw [over2 hu'] at F5
    k_steps
    exact ret uv nx₁ _ _ hS (by assumption) (by assumption)
theorem red_none {fv : Addr} {v0 : Value} {vs : List Value} {n du uu : Nat} {St : Nat → Value → List (Addr × Obj) → Prop} {nm qf : Str} {params : Arguments} {body : Expr} {scope : Scope} {cl : List (Str × Addr)} {pmf ctf : Value} {cf : Addr} (S : StepC prog w mean mg mb (.ref fv) vs du uu St) (F : Fr h₀ L s.heap m) (X : Frag.In (Mine.hd.heap_39 w.params) h₀) (N : News h₀ L s.heap news) (T : Top topProg loo mean mg mb h₀) (hh : A.handled = none)
    (hd : A.depth + du + 20 < recursionLimit) (hu : A.units + uu + 200 < cLine) (hl : (l, W.listOf (v0 :: vs).toArray n) ∈ news) (hget : ∀ i u nx, St i u nx → (l, W.listOf (v0 :: vs).toArray n) ∈ nx ∧ (fv, kla_obj nm qf params body scope cl pmf cf ctf) ∈ nx) (hst : St 0 v0 news)
    (ret : ∀ u nx h' tk', St vs.length u nx → Fr h₀ L h' m → News h₀ L h' nx → Q u { s with heap := h', toks := tk' }) :
    wpAny (model prog w) A (call (.ref 72) [.ref fv, .ref l]) Q E s := by
  obtain ⟨hA, dp, fr, gd, un⟩ := A
  dsimp only at hh hd hu
  subst hh
  ((refine wpAny_call ?_; k_dflt (refine' enterN ?k2 ?k3 ?k4 ?k5 ?k6 ?k7 ?k8 ?k9 ?kB ?_ ?c2 ?c3 ?c4 ?c5; (case k2 => k_asm); (case k3 => k_asm); (case k4 => k_asm); (case k5 => k_asm); (case k6 => k_is); (case k7 => k_is); (case k8 => (((try dsimp only [depth_deeper, depth_in1]); (first | exact rm3 (by assumption) (by exact rfl) | exact rm2 (by assumption) (by exact rfl) | exact rm1 (by assumption) (by exact rfl) | exact rm0 (by assumption) | exact rm00 (by assumption) | exact rmd (by assumption) (by exact rfl) | assumption | omega)))); (case k9 => first | exact binds_K (by k_in) rfl (by k_is) rfl rfl rfl | exact BindsTo.of_eq rfl); (case c5 => decide); (case kB => exact locs rfl); (case c2 => exact rfl); (case c3 => exact rfl); (case c4 => exact rfl); k_whole); intro _ _ _ _ _ _ _ _ _; (try dsimp only); (try k_fold)))
  rename_i g1 L1 hh1 F1 N1 X1 T1 ltL
  k_steps
  refine iterK F1 N1 ⟨_, (N1 _ hl).1, rfl, _, rfl⟩ ?_
  intro I h2 F2 N2 ltI
  k_steps
  rename Fr _ _ _ _ => F3
  rename News _ _ _ _ => N3
  refine nextK (items := (v0 :: vs).toArray) (x := v0) F3 N3 (fun p hp => Nat.ne_of_lt (ltI p hp)) ⟨_, (N3 _ (.tail _ hl)).1, rfl, _, rfl⟩ (by simp) ?_
  intro h3 F3' N3'
  clear F3 N3
  iterate 9 walk1
  rename Fr _ _ _ _ => lF'
  with_unfolding_all refine' For_invVF lF' ?k1 ?k2 ?_; (case k1 => exact rfl); (case k2 => exact rfl); k_whole
  k_steps
  have hlen : (v0 :: vs).length - 1 = vs.length := by simp
  rename Fr _ _ _ _ => F4
  rename News _ _ _ _ => N4
  have hIt := (N4 _ (.head _)).1
  have hlh := (N4 _ (.tail _ hl)).1
  have hlI : l ≠ I := Nat.ne_of_lt (ltI _ hl)
  have N5 : News _ _ _ news := fun p hp => N4 p (.tail _ hp)
  refine wpAny_pyIter_listiter ⟨_, hIt, rfl, rfl⟩ (loop_gm (l := l) (lo := W.listOf ((v0 :: vs)).toArray n) (vs := (v0 :: vs)) (nn := n) (i0 := 1) [Str.ofString "value"]
    (fun i u nx => ∃ v, u (Str.ofString "value") = some v ∧ St i v nx)
    rfl rfl rfl (fun i m' nx hj h H => by obtain ⟨v, _, hs⟩ := hj; exact H.2 _ (hget _ _ _ hs).1)
    (seq_ne_ns hlh rfl F4.ns) (N4 _ (.head _)).2.1 hlI ⟨_, hIt, rfl, rfl⟩ (N4 _ (.head _)).2.2 (fun p hp => Nat.ne_of_lt (ltI p hp)) (by simp) F4 N5
    ⟨_, rfl, hst⟩ ?turn ?done)
  case turn =>
    rintro i v u nx₁ h5 tk5 own hv ⟨uv, hu', hS⟩ hoI ⟨oI, hoI2⟩ hnI F5 N6
    rw [over1 hu'] at F5
    clear F4 N4 N5
    have hsep : ∀ p ∈ nx₁, ∀ q ∈ own, p.1 ≠ q.1 := fun p hp q hq => by rw [hoI q hq]; exact hnI p hp
    k_steps
    refine callWith_lam (nm := nm) (q := qf) (params := params) (body := body) (scope := scope) (cl := cl) (pm := pmf) (ct := ctf) (c' := cf) ?_
    k_steps
    · exact (N6 _ (List.mem_append_left _ (hget _ _ _ hS).2)).1
    rename Fr _ _ _ _ => F6
    rename News _ _ _ _ => N7
    refine S _ _ g1 _ _ _ { s with heap := h5, toks := _ } _ _ i uv v ?_ ?_ ?_ (by rw [Nat.add_comm, List.getElem?_cons_succ] at hv; exact hv) hS F6 X1 T1 N7 hsep ?_
    · rfl
    · ((try dsimp only [depth_deeper, depth_in1]); exact rmd (by assumption) (by exact rfl))
    · ((try dsimp only [units_deeper, units_in1, Around.mark_units]); exact rmd (by assumption) (by exact rfl))
    intro u' nx' h6 tk6 hS' F7 N8 hsep'
    k_steps
    rename Fr _ _ _ _ => F8
    rename News _ _ _ _ => N9
    unfold PostG
    dsimp only
    refine ⟨_, _, _, nx', rfl, F8, N9, ?_, ?_, u', rfl, hS'⟩
    · exact fun p hp => by have := hsep' p hp _ hoI2; exact this
    · intro z hz
      have h1 : z ≠ Str.ofString "element" := fun e => hz (by rw [e]; exact .head _)
      have h2 : z ≠ Str.ofString "value" := fun e => hz (by rw [e]; exact .tail _ (.head _))
      simp only [if_neg h1, if_neg h2]
  case done =>
    rintro u nx₁ h5 tk5 ⟨uv, hu', hS⟩ F5 N6
    clear F4 N4 N5
    dsimp only
    rw [hlen] at hS
    rw [over2 hu'] at F5
    k_steps
    exact ret uv nx₁ _ _ hS (by assumption) (by assumption)
end
end
end

/- OH -/
theorem offOH : True := by
  w_top off
  exact trivial
section
open PySem PySem.W PyProof.Rows PySem.Spec PySem.Calls PySem.SeqAt PyProof.V
set_option Elab.async false
set_option maxRecDepth 100000
set_option maxHeartbeats 2000000
section
variable {prog : Program} {w : World} {mean : ExcName → Option Value} {mg mb : Str → Option Value} {A : Around} {h₀ : Heap} {L fa : Addr} {m : Str → Option Value} {news : List (Addr × Obj)} {s : Shared} {x y : Addr} {c d : Nat}
    {Q : Flow → Shared → Prop} {E : Value → Shared → Prop} {qual : Str} {cdv : Value}
noncomputable def StA (v1 v2 v3 : Value) (LG : List (Addr × Obj)) (i : Nat) (u : Value) (nx : List (Addr × Obj)) : Prop :=
  (i = 0 ∧ u = v1 ∧ nx = LG) ∨ (i = 1 ∧ ∃ b, u = .ref b ∧ nx = (b, W.listOf #[v1, v2] 0) :: LG ∧ ∀ p ∈ LG, p.1 < b) ∨ (i = 2 ∧ ∃ b b', u = .ref b' ∧ nx = (b', W.listOf #[.ref b, v3] 0) :: (b, W.listOf #[v1, v2] 0) :: LG ∧ (∀ p ∈ LG, p.1 < b) ∧ b < b')
theorem step_a {f c1 : Addr} {oc1 : Obj} {q : Str} {pm ct v1 v2 v3 : Value} {LG : List (Addr × Obj)} (hf : (f, kla_obj "<lambda>" q (lamAt 0).1 (lamAt 0).2.1 (lamAt 0).2.2 [] pm c1 ct) ∈ LG) (hc : (c1, oc1) ∈ LG) (d : NamedCode oc1 q) :
    StepC prog w mean mg mb (.ref f) [v2, v3] 10 100 (StA v1 v2 v3 LG) := by
  intro A h₀ L m nx own s Q E i u v hh hd hu hv hS F X T N hsep ret
  have sub : ∀ p ∈ LG, p ∈ nx := by
    rcases hS with ⟨_, _, rfl⟩ | ⟨_, b, _, rfl, _⟩ | ⟨_, b, b', _, rfl, _⟩
    · exact fun _ h => h
    · exact fun _ h => .tail _ h
    · exact fun _ h => .tail _ (.tail _ h)
  refine lam_list F X N T hh hd hu (List.mem_append_left _ (sub _ hf)) (List.mem_append_left _ (sub _ hc)) d ?_
  intro b h' tk' F' N' lb
  refine ret _ ((b, W.listOf #[u, v] 0) :: nx) _ _ ?_ F' N' ?_
  · rcases hS with ⟨rfl, rfl, rfl⟩ | ⟨rfl, b0, rfl, rfl, l0⟩ | ⟨rfl, _⟩
    · cases hv
      exact .inr (.inl ⟨rfl, b, rfl, rfl, fun p hp => lb p (List.mem_append_left _ hp)⟩)
    · cases hv
      exact .inr (.inr ⟨rfl, b0, b, rfl, rfl, l0, lb _ (List.mem_append_left _ (.head _))⟩)
    · cases hv
  · intro p hp q hq
    rcases List.mem_cons.mp hp with rfl | hp
    · exact Nat.ne_of_gt (lb q (List.mem_append_right _ hq))
    · exact hsep p hp q hq
theorem StA.sub {v1 v2 v3 : Value} {LG nx : List (Addr × Obj)} {i : Nat} {u : Value} (h : StA v1 v2 v3 LG i u nx) : ∀ p ∈ LG, p ∈ nx := by
  rcases h with ⟨_, _, rfl⟩ | ⟨_, b, _, rfl, _⟩ | ⟨_, b, b', _, rfl, _⟩
  · exact fun _ h => h
  · exact fun _ h => .tail _ h
  · exact fun _ h => .tail _ (.tail _ h)
theorem StA.fin {v1 v2 v3 : Value} {LG nx : List (Addr × Obj)} {u : Value} (h : StA v1 v2 v3 LG 2 u nx) : ∃ b b', u = .ref b' ∧ nx = (b', W.listOf #[.ref b, v3] 0) :: (b, W.listOf #[v1, v2] 0) :: LG ∧ (∀ p ∈ LG, p.1 < b) ∧ b < b' := by
  rcases h with ⟨h, _⟩ | ⟨h, _⟩ | ⟨_, h⟩
  · cases h
  · cases h
  · exact h
noncomputable def StB (LG : List (Addr × Obj)) (i : Nat) (u : Value) (nx : List (Addr × Obj)) : Prop := i ≤ 1 ∧ nx = LG ∧ ∃ t, u = .int i t
theorem step_b {f : Addr} {LG : List (Addr × Obj)} : StepC prog w mean mg mb (.ref f) [] 10 100 (StB LG) := by
  intro A h₀ L m nx own s Q E i u v hh hd hu hv
  simp at hv
theorem step_c {f c1 : Addr} {oc1 : Obj} {q : Str} {pm ct : Value} {LG : List (Addr × Obj)} {t1 : Tok} (hf : (f, kla_obj "<lambda>" q (lamAt 2).1 (lamAt 2).2.1 (lamAt 2).2.2 [] pm c1 ct) ∈ LG) (hc : (c1, oc1) ∈ LG) (d : NamedCode oc1 q) :
    StepC prog w mean mg mb (.ref f) [.int 1 t1] 10 100 (StB LG) := by
  intro A h₀ L m nx own s Q E i u v hh hd hu hv hS F X T N hsep ret
  obtain ⟨h1, rfl, t, rfl⟩ := hS
  have hi : i = 0 := by
    rcases Nat.lt_or_ge i 1 with h | h
    · omega
    · rw [List.getElem?_eq_none (by simpa using h)] at hv; cases hv
  subst hi
  cases hv
  refine lam_add F X N T hh hd hu (List.mem_append_left _ hf) (List.mem_append_left _ hc) d ?_
  intro t' h' tk' F' N'
  exact ret _ _ _ _ ⟨by exact Nat.le_of_ble_eq_true rfl, rfl, t', rfl⟩ F' N' hsep
theorem law_d {rest : List (Addr × Obj)} (F : Fr h₀ L s.heap m) (X : Frag.In (Mine.hd.heap_39 w.params) h₀) (N : News h₀ L s.heap ((105, tabObj #[]) :: rest)) (T : Top topProg loo mean mg mb h₀) (hh : A.handled = none) (C : CodeHd h₀ 107 105) (h105 : ∀ p ∈ rest, p.1 ≠ 105)
    (hd : A.depth + 100 < recursionLimit) (hu : A.units + 900 < cLine)
    (ret : ∀ h' tk' D ps, Fr h₀ L h' (fun y : Str => if y = ("written" : Str) then some (Value.ref D) else m y) → News h₀ L h' ((105, tabObj ps) :: rest) → Q .next { s with heap := h', toks := tk' }) :
    wpAny (model prog w) (A.deeper (lawEnv L fa (.ref 107))) (execs [lawAt 3, lawAt 4] (lawEnv L fa (.ref 107))) Q E s := by
  obtain ⟨hA, dp, fr, gd, un⟩ := A
  dsimp only at hh hd hu
  subst hh
  refine wpAny_execs_cons ?_
  conv in exec _ => arg 1; whnf
  k_steps
  refine kla_eval rfl ?_
  refine kla_nest (g := fun o => (105, o) :: rest) F N T C rfl (UpdF.head h105) trivial rfl rfl ?_
  intro f1 c1 oc1 vs1 t1 ct1 h1 tk1 F1 N1 d1 d1' l1 l1'
  dsimp only at N1
  k_steps
  rename Fr _ _ _ _ => F2
  rename News _ _ _ _ => N2
  rename_i la ga la1
  obtain ⟨q1, q2, q3, q4⟩ := la1
  generalize hR : (105, tabObj _) :: rest = R at N2
  refine red_none (n := 0) (v0 := .int 1 tk1) (vs := [.int 2 (tk1 + 1), .int 3 (tk1 + 1 + 1)]) (du := 10) (uu := 100) (step_a (.tail _ (.head _)) (.tail _ (.tail _ (.head _))) ⟨vs1, t1, d1, d1'⟩) F2 X N2 T rfl (by ((try dsimp only [depth_deeper, depth_in1]); exact rm3 (by assumption) (by exact rfl))) (by ((try dsimp only [units_deeper, units_in1, Around.mark_units]); exact rm3 (by assumption) (by exact rfl))) (.head _)
    (fun i u nx h => ⟨h.sub _ (.head _), h.sub _ (.tail _ (.head _))⟩) (.inl ⟨rfl, rfl, rfl⟩) ?_
  intro u nx h3 tk3 hS F3 N3
  obtain ⟨b, b', rfl, rfl, lb, lb'⟩ := hS.fin
  subst hR
  clear N2 F2
  k_steps
  have N4 : News h₀ L h3 ((105, tabObj (#[] ++ #[rawInt 106, rawInt 0, .ref c1])) :: (b', W.listOf #[.ref b, .int 3 (tk1 + 1 + 1)] 0) :: (b, W.listOf #[.int 1 tk1, .int 2 (tk1 + 1)] 0) :: rest) := News.mono' N3 (by
    intro p hp
    rcases List.mem_cons.mp hp with rfl | hp
    · exact .tail _ (.tail _ (.tail _ (.tail _ (.tail _ (.head _)))))
    rcases List.mem_cons.mp hp with rfl | hp
    · exact .head _
    rcases List.mem_cons.mp hp with rfl | hp
    · exact .tail _ (.head _)
    exact .tail _ (.tail _ (.tail _ (.tail _ (.tail _ (.tail _ hp))))))
  have lb105 : 105 < b := lb (105, tabObj (#[] ++ #[rawInt 106, rawInt 0, .ref c1])) (.tail _ (.tail _ (.tail _ (.head _))))
  have h105' : ∀ p ∈ (b', W.listOf #[.ref b, .int 3 (tk1 + 1 + 1)] 0) :: (b, W.listOf #[.int 1 tk1, .int 2 (tk1 + 1)] 0) :: rest, p.1 ≠ 105 := by
    intro p hp
    rcases List.mem_cons.mp hp with rfl | hp
    · exact Nat.ne_of_gt (Nat.lt_trans lb105 lb')
    rcases List.mem_cons.mp hp with rfl | hp
    · exact Nat.ne_of_gt lb105
    exact h105 p hp
  clear N3 hS lb
  refine kla_eval rfl ?_
  refine kla_nest (ps := #[] ++ #[rawInt 106, rawInt 0, .ref c1]) (g := fun o => (105, o) :: (b', W.listOf #[.ref b, .int 3 (tk1 + 1 + 1)] 0) :: (b, W.listOf #[.int 1 tk1, .int 2 (tk1 + 1)] 0) :: rest) F3 N4 T C rfl (UpdF.head h105') trivial rfl rfl ?_
  intro f2 c2 oc2 vs2 t2 ct2 h4 tk4 F4 N4' d2 d2' l2 l2'
  dsimp only at N4'
  clear N4 F3
  k_steps
  rename Fr _ _ _ _ => F5
  rename News _ _ _ _ => N5
  rename_i lb2 gb la2
  obtain ⟨r1, r2, r3, -⟩ := la2
  refine red_init (n := 0) (vs := []) (du := 10) (uu := 100) step_b F5 X N5 T rfl (by ((try dsimp only [depth_deeper, depth_in1]); exact rm3 (by assumption) (by exact rfl))) (by ((try dsimp only [units_deeper, units_in1, Around.mark_units]); exact rm3 (by assumption) (by exact rfl))) (.head _)
    (fun i u nx h => by obtain ⟨_, rfl, _⟩ := h; exact ⟨.head _, .tail _ (.head _)⟩) ⟨by exact Nat.le_of_ble_eq_true rfl, rfl, _, rfl⟩ ⟨_, _, rfl⟩ ?_
  intro u2 nx2 h6 tk6 hS2 F6 N6
  obtain ⟨-, rfl, t6, hu2⟩ := hS2
  obtain rfl : u2 = .int 0 t6 := hu2
  clear N5 F5
  k_steps
  have N7 : News h₀ L h6 ((105, tabObj (#[] ++ #[rawInt 106, rawInt 0, .ref c1] ++ #[rawInt 107, rawInt 0, .ref c2])) :: (b', W.listOf #[.ref b, .int 3 (tk1 + 1 + 1)] 0) :: (b, W.listOf #[.int 1 tk1, .int 2 (tk1 + 1)] 0) :: rest) := News.mono' N6 (by
    intro p hp
    rcases List.mem_cons.mp hp with rfl | hp
    · exact .tail _ (.tail _ (.tail _ (.head _)))
    exact .tail _ (.tail _ (.tail _ (.tail _ hp))))
  clear N6
  refine kla_eval rfl ?_
  refine kla_nest (ps := #[] ++ #[rawInt 106, rawInt 0, .ref c1] ++ #[rawInt 107, rawInt 0, .ref c2]) (g := fun o => (105, o) :: (b', W.listOf #[.ref b, .int 3 (tk1 + 1 + 1)] 0) :: (b, W.listOf #[.int 1 tk1, .int 2 (tk1 + 1)] 0) :: rest) F6 N7 T C rfl (UpdF.head h105') trivial rfl rfl ?_
  intro f3 c3 oc3 vs3 t3 ct3 h7 tk7 F7 N7' d3 d3' l3 l3'
  dsimp only at N7'
  clear N7 F6
  k_steps
  rename Fr _ _ _ _ => F8
  rename News _ _ _ _ => N8
  rename_i lb3 gb3 la3
  refine red_init (n := 0) (vs := [.int 1 tk7]) (du := 10) (uu := 100) (step_c (.tail _ (.head _)) (.tail _ (.tail _ (.head _))) ⟨vs3, t3, d3, d3'⟩) F8 X N8 T rfl (by ((try dsimp only [depth_deeper, depth_in1]); exact rm3 (by assumption) (by exact rfl))) (by ((try dsimp only [units_deeper, units_in1, Around.mark_units]); exact rm3 (by assumption) (by exact rfl))) (.head _)
    (fun i u nx h => by obtain ⟨_, rfl, _⟩ := h; exact ⟨.head _, .tail _ (.head _)⟩) ⟨by exact Nat.le_of_ble_eq_true rfl, rfl, _, rfl⟩ ⟨_, _, rfl⟩ ?_
  intro u3 nx3 h9 tk9 hS3 F9 N9
  obtain ⟨-, rfl, t9, hu3⟩ := hS3
  obtain rfl : u3 = .int 1 t9 := hu3
  obtain ⟨ps9, z9⟩ : ∃ ps, h9.get? 105 = some (tabObj ps) ∧ 105 ≠ L ∧ h₀.get? 105 = none := ⟨_, N9 _ (.tail _ (.tail _ (.tail _ (.head _))))⟩
  have N10 : News h₀ L h9 ((b', W.listOf #[.ref b, .int 3 (tk1 + 1 + 1)] 0) :: (b, W.listOf #[.int 1 tk1, .int 2 (tk1 + 1)] 0) :: (105, tabObj ps9) :: rest) := fun p hp => by
    rcases List.mem_cons.mp hp with rfl | hp
    · exact N9 _ (.tail _ (.tail _ (.tail _ (.tail _ (.head _)))))
    rcases List.mem_cons.mp hp with rfl | hp
    · exact N9 _ (.tail _ (.tail _ (.tail _ (.tail _ (.tail _ (.head _))))))
    rcases List.mem_cons.mp hp with rfl | hp
    · exact z9
    · exact N9 _ (.tail _ (.tail _ (.tail _ (.tail _ (.tail _ (.tail _ hp))))))
  clear N8 F8 N9
  k_steps
  conv in exec _ => arg 1; whnf
  k_steps
  rename Fr _ _ _ _ => F11
  rename News _ _ _ _ => N11
  refine ret _ _ _ ps9 F11 (News.mono' N11 fun p hp => ?_)
  exact .tail _ (.tail _ (.tail _ (.tail _ (.tail _ (.tail _ hp)))))
end
end

/- OJ -/
theorem offOJ : True := by
  w_top off
  exact trivial
section
open PySem PySem.W PyProof.Rows PySem.Spec PySem.Calls PySem.SeqAt PyProof.V
set_option Elab.async false
set_option maxRecDepth 100000
set_option maxHeartbeats 2000000
section
variable {prog : Program} {w : World} {A : Around} {E : Value → Shared → Prop} {env : Env} {s : Shared} {h₀ : Heap} {L : Addr} {elt iter target : Expr} {ifs : List Expr} {scope : Scope} {cl : List (Str × Addr)} {Q : Value → Shared → Prop} {m : Str → Option Value} {news : List (Addr × Obj)} {use : Option (Value → Sem Unit)}
theorem list_H {l : Addr} {lo : Obj} {vs : List Value} {nn : Nat} (J : Nat → List Value → List (Addr × Obj) → Prop) (hh : A.handled = none) (hc : lo.cls = .type "list") (hd : lo.data = .seq vs.toArray nn)
    (hget : ∀ i ys nx, J i ys nx → ∀ h, Has h₀ nx h → h.get? l = some lo) (hn1 : vs.length ≤ 1000)
    (F : Fr h₀ L s.heap m) (N : News h₀ L s.heap news) (hj : J 0 [] news)
    (turn : ∀ (i : Nat) (v : Value) (C : Addr) (mc : Str → Option Value) (ys : List Value) (nx : List (Addr × Obj)) (h : Heap) (tk : Nat) (own : List (Addr × Obj)) (E' : Value → Shared → Prop), vs[i]? = some v → J i ys nx → ys.length ≤ i → (∀ p ∈ nx, ∀ q ∈ own, p.1 ≠ q.1) → Fr h₀ C h mc → News h₀ C h (nx ++ own) →
      wpAny (model prog w) A (assign target (compEnvC scope cl C env) v) (fun _ s₃ => CompTurn prog w A h₀ C (compEnvC scope cl C env) ifs elt own (fun nx' => J (i + 1) ys nx') (fun y nx' => J (i + 1) (ys ++ [y]) nx') s E' s₃) E' { s with heap := h, toks := tk })
    (done : ∀ D C nD mC ys nx h' tk, J vs.length ys nx → ys.length ≤ vs.length → Fr h₀ L h' m → News h₀ L h' ((D, W.listOf ys.toArray nD) :: nx) → (∀ p ∈ news, p.1 < D) → (∀ p ∈ nx, p.1 ≠ D) → h'.Ns C mC → h₀.get? C = none → C ≠ L → C ≠ D → (∀ p ∈ nx, p.1 ≠ C) → compPost (model prog w) A E use Q (.ref D) C (.ok .next) { s with heap := h', toks := tk }) :
    wpAny (model prog w) A (pyIter (.ref l)) (fun it s₂ => CompAtH prog w A h₀ L env scope cl target ifs elt use Q E it s₂) E s := by
  have hol : s.heap.get? l = some lo := hget 0 [] news hj _ (has_of F N fun _ h => h)
  have hls : s.heap.IsList l vs.toArray := ⟨_, hol, hc, nn, hd⟩
  have hne : l ≠ s.heap.objs.size := Nat.ne_of_lt (Heap.lt_size hol)
  refine wpAny_pyIter_list hls ?_
  have Wk := Walks.list (prog := prog) (w := w) hh s.heap.objs.size l hne vs.toArray
  have hlen : vs.toArray.size = vs.length := by simp
  rw [hlen] at Wk
  refine ⟨_, _, _, vs.length, _, _, m, news, J, rfl, Wk, hn1, ⟨⟨_, Heap.get?_push_size _ rfl, rfl, rfl⟩, hls.at fun o e => Heap.get?_push_of_some _ e⟩, ?_, ?_, ?_, ?_, ?_, ?_, fun i v s Q E st hq => letGo_listiter st.1 hq, F.push _, (fun p hp => ⟨Heap.get?_push_of_some _ (N p hp).1, (N p hp).2⟩), hj, ?_, ?_⟩
  · intro b hb
    rw [Heap.size_push]
    rcases List.mem_cons.mp hb with rfl | hb
    · exact Nat.lt_succ_self _
    · rw [List.mem_singleton.mp hb]; exact Nat.lt_succ_of_lt (Heap.lt_size hol)
  · intro b' hb
    rw [List.mem_singleton.mp hb]; exact next_is_new F
  · intro p hp hI
    exact absurd (Heap.lt_size (N p hp).1) ((List.mem_singleton.mp hI) ▸ Nat.lt_irrefl _)
  · intro hm
    exact absurd F.ns.lt ((List.mem_singleton.mp hm) ▸ Nat.lt_irrefl _)
  · intro b hb hb'
    rcases List.mem_cons.mp hb with rfl | hb
    · exact absurd (.head _) hb'
    · rw [List.mem_singleton.mp hb]; exact ⟨lo, hget⟩
  · intro i b hb h st e
    rw [List.mem_singleton.mp hb] at e
    obtain ⟨o, ho, _⟩ := st.1
    rw [e] at ho; cases ho
  · rintro i v C mc ys nx h tk own E' hi hP hJ hyl _ hoff F₁ N₁
    exact wpAny_mono (turn i v C mc ys nx h tk own E' (by simpa using hP) hJ hyl hoff F₁ N₁) (fun _ _ z => CompTurn.at z) fun _ _ e => e
  · exact done

theorem comp_store {y : Str} {py pos spos : Pos} {Q : Flow → Shared → Prop} (hsw : swapsWith (.ListComp elt [⟨target, iter, ifs, 0⟩] scope pos) (some (.Name y py)) spos.line env = pure true)
    (hclos : closureFor scope env = pure cl) (hcell : ∀ y ∈ scope.names, y.2 ≠ .cell) (hkind : scope.kind = .function)
    (hnames : ∀ y ∈ scope.names, y.2 = .local → scope.names.lookup y.1 = some .local)
    (h : wpAny (model prog w) A (eval iter env) (fun xv s₁ => wpAny (model prog w) A (pyIter xv) (fun it s₂ => CompAtH prog w A h₀ L env scope cl target ifs elt (some (assign (.Name y py) env)) (fun _ s' => Q .next s') E it s₂) E s₁) E s)
    (hs : ∀ x, foldedSetIterable iter env x = pure x := by intro _; rfl) :
    wpAny (model prog w) A (exec (.Assign [.Name y py] (.ListComp elt [⟨target, iter, ifs, 0⟩] scope pos) spos) env) Q E s := by
  rw [exec_Assign_Name_used _ _ _ _ hsw]
  refine wpAny_bind (wpAny_standAt (wpAny_bind ?_))
  show wpAny _ A (do let _ ← comprehension (.ListComp elt [⟨target, iter, ifs, 0⟩] scope pos) scope env _ (newList []) false (eval iter env) (some (assign (.Name y py) env))) _ _ s
  exact wpAny_bind (wpAny_mono (comp_core (use := some (assign (.Name y py) env)) (Q := fun _ s' => Q .next s') hclos hcell hkind hnames h hs) (fun _ s' hq => wpAny_pure (wpAny_pure hq)) fun _ _ e => e)
theorem comp_value {pos : Pos} (hclos : closureFor scope env = pure cl) (hcell : ∀ y ∈ scope.names, y.2 ≠ .cell) (hkind : scope.kind = .function)
    (hnames : ∀ y ∈ scope.names, y.2 = .local → scope.names.lookup y.1 = some .local)
    (h : wpAny (model prog w) A (eval iter env) (fun xv s₁ => wpAny (model prog w) A (pyIter xv) (fun it s₂ => CompAtH prog w A h₀ L env scope cl target ifs elt none Q E it s₂) E s₁) E s)
    (hs : ∀ x, foldedSetIterable iter env x = pure x := by intro _; rfl) :
    wpAny (model prog w) A (eval (.ListComp elt [⟨target, iter, ifs, 0⟩] scope pos) env) Q E s := by
  rw [eval_ListComp]
  exact comp_core hclos hcell hkind hnames h hs
end
end

/- OI -/
theorem offOI : True := by
  w_top off
  exact trivial
section
open PySem PySem.W PyProof.Rows PySem.Spec PySem.Calls PySem.SeqAt PyProof.V
set_option Elab.async false
set_option maxRecDepth 100000
set_option maxHeartbeats 2000000
section
variable {prog : Program} {w : World} {mean : ExcName → Option Value} {mg mb : Str → Option Value} {A : Around} {h₀ : Heap} {L fa : Addr} {m : Str → Option Value} {news : List (Addr × Obj)} {s : Shared} {x y : Addr} {c d : Nat}
    {Q : Flow → Shared → Prop} {E : Value → Shared → Prop} {qual : Str} {cdv : Value}
theorem good_draw {tl : List (Addr × Obj)} {rs : List SetR} (good : Good tl rs) {i : Nat} {r : SetR} (h : rs[i]? = some r) : (r.d, W.listOf (r.ds.map (·.1)).toArray r.n) ∈ tl := (good r (List.mem_of_getElem? h)).2.1
theorem law_e {an ac ad : Addr} {rs : List SetR} {tl : List (Addr × Obj)} {na nc nd : Nat} {o1 o2 o3 o4 : Obj} (F : Fr h₀ L s.heap m) (X : Frag.In (Mine.hd.heap_39 w.params) h₀) (N : News h₀ L s.heap (lawLed L o1 o2 o3 o4 (setsLed an ac ad rs na nc nd tl ++ news))) (T : Top topProg loo mean mg mb h₀) (hh : A.handled = none)
    (hd : A.depth + 100 < recursionLimit) (hu : A.units + 900 < cLine) (good : Good tl rs) (hrl : rs.length ≤ 7) (hm : m ("draws" : Str) = some (.ref ad))
    (ret : ∀ h' tk' D n ys, IntsAre ys (rs.map fun r => (r.ds.length : Int)) → Fr h₀ L h' (fun y : Str => if y = ("sizes" : Str) then some (Value.ref D) else m y) → News h₀ L h' ((D, W.listOf ys.toArray n) :: lawLed L o1 o2 o3 o4 (setsLed an ac ad rs na nc nd tl ++ news)) → (∀ p ∈ lawLed L o1 o2 o3 o4 (setsLed an ac ad rs na nc nd tl ++ news), p.1 < D) → Q .next { s with heap := h', toks := tk' }) :
    wpAny (model prog w) (A.deeper (lawEnv L fa cdv)) (exec (lawAt 5) (lawEnv L fa cdv)) Q E s := by
  obtain ⟨hA, dp, fr, gd, un⟩ := A
  dsimp only at hh hd hu
  subst hh
  rw [pull hm] at F
  conv in exec _ => arg 1; whnf
  refine comp_store (h₀ := h₀) (L := L) (by with_unfolding_all rfl) rfl (by decide) rfl (by decide) ?_
  k_steps
  generalize hLG : lawLed L o1 o2 o3 o4 (setsLed an ac ad rs na nc nd tl ++ news) = LG at N ret
  have mad : (ad, W.listOf (rs.map fun r => Value.ref r.d).toArray nd) ∈ LG := by rw [← hLG]; exact .tail _ (.tail _ (.tail _ (.tail _ (.head _))))
  have mtl : ∀ p ∈ tl, p ∈ LG := fun p hp => by rw [← hLG]; exact .tail _ (.tail _ (.tail _ (.tail _ (.tail _ (.tail _ (.tail _ (List.mem_append_left _ hp)))))))
  rename Fr _ _ _ _ => F1
  refine list_H (lo := W.listOf (rs.map fun r => Value.ref r.d).toArray nd) (vs := rs.map fun r => Value.ref r.d) (nn := nd) (fun i ys nx => nx = LG ∧ ys.length = i ∧ IntsAre ys ((rs.map fun r => (r.ds.length : Int)).take i)) rfl rfl rfl
    (fun i ys nx hj h H => by obtain ⟨rfl, _⟩ := hj; exact H.2 _ mad) (by rw [List.length_map]; exact lek (by assumption) (by exact rfl)) F1 N ⟨rfl, rfl, by simpa using IntsAre.nil⟩ ?turn ?done
  case turn =>
    rintro i v C mc zs nx h3 tk3 own E2 hv ⟨hnx, hlen3, hzs⟩ hyl3 hoff3 F3 N4
    subst nx
    rw [List.getElem?_map] at hv
    obtain ⟨r, hr, rfl⟩ := Option.map_eq_some_iff.mp hv
    have hdr := mtl _ (good_draw good hr)
    k_steps
    refine store_comp rfl rfl F3 N4 ?_
    intro h4 tk4 F4 N5
    clear F3 N4
    refine comp_turn0 ?_
    k_steps
    all_goals (try k_data)
    have hds := (good r (List.mem_of_getElem? hr)).2.2.1
    have hL : h4.IsList r.d (r.ds.map (·.1)).toArray := ⟨_, (N5 _ (List.mem_append_left _ hdr)).1, rfl, _, rfl⟩
    refine len_L (s := { s with heap := h4, toks := _ }) (items := (r.ds.map (·.1)).toArray) hL (by simp; exact lek (by assumption) (by exact rfl)) fun t tk => ?_
    rename Fr _ _ _ _ => F6
    refine ⟨_, _, _, LG, rfl, F6, N5, hoff3, rfl, by simp [hlen3], ?_⟩
    have e : (rs.map fun r => (r.ds.length : Int)).take (i + 1) = (rs.map fun r => (r.ds.length : Int)).take i ++ [(r.ds.length : Int)] := by
      rw [List.take_add_one, List.getElem?_map, hr]; rfl
    have e2 : (((r.ds.map (·.1)).toArray.size : Nat) : Int) = (r.ds.length : Int) := by simp
    rw [e, e2]
    exact ksk_snoc hzs
  case done =>
    rintro D C nD mC ys nx h3 tk3 ⟨hnx, hlen3, hzs⟩ hyl3 F3 N4 ltD2 neD2 hC h0C hCL hCD offC
    subst nx
    rw [← pull hm] at F3
    refine end_store (h₀ := h₀) rfl F3 N4 hC h0C hCL hCD offC rfl rfl fun h'' tk'' F5 N5 => ?_
    have e5 : IntsAre ys (rs.map fun r => (r.ds.length : Int)) := by rwa [List.take_of_length_le (by simp)] at hzs
    exact ret _ _ D nD ys e5 F5 N5 ltD2
end
end

/- OK -/
theorem offOK : True := by
  w_top off
  exact trivial
section
open PySem PySem.W PyProof.Rows PySem.Spec PySem.Calls PySem.SeqAt PyProof.V
set_option Elab.async false
set_option maxRecDepth 100000
set_option maxHeartbeats 2000000
theorem compTurn2f (elt t0 i0 t1 i1 : Expr) (scope : Scope) (pos : Pos) (it acc : Value) (env : Env) :
    compTurn (.ListComp elt [⟨t0, i0, [], 0⟩, ⟨t1, i1, [], 0⟩] scope pos) 0 it acc env = (standAt i0.pos >>= fun _ => pyNext it >>= fun r => match r with
      | none => pure (.done .next)
      | some v => letOwnedTupleGo t0 it v >>= fun _ => assign t0 env v >>= fun _ =>
        eval i1 env >>= fun x => standAt i1.pos >>= fun _ => foldedSetIterable i1 env x >>= fun x => holding [x] (pyIter x) >>= fun it' =>
          runOwn (.compStart (.ListComp elt [⟨t0, i0, [], 0⟩, ⟨t1, i1, [], 0⟩] scope pos) 1 it' acc env) env >>= fun _ =>
          again (.compLoop (.ListComp elt [⟨t0, i0, [], 0⟩, ⟨t1, i1, [], 0⟩] scope pos) 0 it acc env)) := by rfl
theorem compTurn2a (elt t0 i0 t1 i1 : Expr) (scope : Scope) (pos : Pos) (it acc : Value) (env : Env) :
    compTurn (.ListComp elt [⟨t0, i0, [], 0⟩, ⟨t1, i1, [], 0⟩] scope pos) 0 it acc env = (standAt i0.pos >>= fun _ => pyNext it >>= fun r => match r with
      | none => pure (.done .next)
      | some v => letOwnedTupleGo t0 it v >>= fun _ => assign t0 env v >>= fun _ =>
        (eval i1 env >>= fun x => standAt i1.pos >>= fun _ => foldedSetIterable i1 env x >>= fun x => holding [x] (pyIter x) >>= fun it' =>
          runOwn (.compStart (.ListComp elt [⟨t0, i0, [], 0⟩, ⟨t1, i1, [], 0⟩] scope pos) 1 it' acc env) env >>= fun _ => pure ()) >>= fun _ =>
          again (.compLoop (.ListComp elt [⟨t0, i0, [], 0⟩, ⟨t1, i1, [], 0⟩] scope pos) 0 it acc env)) := by
  rw [compTurn2f]
  simp only [bind_assoc, pure_bind]
theorem compTurn2b (elt t0 i0 t1 i1 : Expr) (scope : Scope) (pos : Pos) (it acc : Value) (env : Env) :
    compTurn (.ListComp elt [⟨t0, i0, [], 0⟩, ⟨t1, i1, [], 0⟩] scope pos) 1 it acc env = (standAt i1.pos >>= fun _ => pyNext it >>= fun r => match r with
      | none => pure (.done .next)
      | some v => letOwnedTupleGo t1 it v >>= fun _ => assign t1 env v >>= fun _ =>
        (eval elt env >>= fun x => call (.builtin "list.append") [acc, x] >>= fun _ => pure ()) >>= fun _ =>
          again (.compLoop (.ListComp elt [⟨t0, i0, [], 0⟩, ⟨t1, i1, [], 0⟩] scope pos) 1 it acc env)) := by rfl
section
variable {prog : Program} {w : World} {A : Around} {R : Result → Shared → Prop} {s : Shared} {env : Env} {it acc : Value} {depth n : Nat} {target elt : Expr} {gens : List Comprehension} {scope : Scope} {pos pos0 : Pos} {body : Sem Unit}
theorem loop_G (hT : compTurn (.ListComp elt gens scope pos) depth it acc env = (standAt pos0 >>= fun _ => pyNext it >>= fun r => match r with
      | none => pure (.done .next)
      | some v => letOwnedTupleGo target it v >>= fun _ => assign target env v >>= fun _ => body >>= fun _ => again (.compLoop (.ListComp elt gens scope pos) depth it acc env)))
    (J : Nat → Shared → Prop) (hj : J 0 s)
    (turn : ∀ i s, i < n → J i s → wpAny (model prog w) A (pyNext it) (fun r s₁ => ∃ v, r = some v ∧ wpAny (model prog w) A (assign target env v) (fun _ s₂ => wpAny (model prog w) A body (fun _ s₃ => J (i + 1) s₃) (notedBy (model prog w) A env fun e s' => R (.error e) s') s₂) (notedBy (model prog w) A env fun e s' => R (.error e) s') s₁)
      (notedBy (model prog w) A env fun e s' => R (.error e) s') s)
    (fin : ∀ s, J n s → wpAny (model prog w) A (pyNext it) (fun r s₁ => r = none ∧ R (.ok .next) s₁) (notedBy (model prog w) A env fun e s' => R (.error e) s') s)
    (ht : ∀ v, letOwnedTupleGo target it v = pure () := by intro _; rfl) :
    codeAny (model prog w) A (.compLoop (.ListComp elt gens scope pos) depth it acc env) R s := by
  refine codeAny_loop rfl (fun k s' => ∃ i, i ≤ n ∧ k = n + 1 - i ∧ J i s') (fun k s' hI => ?_) (n + 1) ⟨0, Nat.zero_le _, rfl, hj⟩
  obtain ⟨i, hi, rfl, hJ⟩ := hI
  show wpAny _ A ((compTurn (.ListComp elt gens scope pos) depth it acc env).onRaise (fun x => do noteFrame x env; theTreesLotGoes x)) _ _ s'
  refine wpAny_noted ?_
  rw [hT]
  by_cases hlt : i < n
  · refine wpAny_bind (wpAny_standAt (wpAny_bind (wpAny_mono (turn i s' hlt hJ) (fun r s₁ h₁ => ?_) fun _ _ h' => h')))
    obtain ⟨v, rfl, h₁⟩ := h₁
    refine wpAny_bind (wpAny_of_eq (ht v) ?_)
    refine wpAny_bind (wpAny_mono h₁ (fun _ s₂ h₂ => wpAny_bind (wpAny_mono h₂ (fun _ s₃ h₃ => wpAny_pure ⟨rfl, n + 1 - (i + 1), by exact decr (by assumption), i + 1, hlt, rfl, h₃⟩) fun _ _ h' => h')) fun _ _ h' => h')
  · have : i = n := by exact eqn (by assumption) (by assumption)
    subst this
    refine wpAny_bind (wpAny_standAt (wpAny_bind (wpAny_mono (fin s' hJ) (fun r s₁ h₁ => ?_) fun _ _ h' => h')))
    obtain ⟨rfl, h₁⟩ := h₁
    exact wpAny_pure h₁
theorem compStart_G {g0 g1 : Comprehension} (ha : g0.is_async = 0) (hb : g1.is_async = 0)
    (h0 : codeAny (model prog w) A (.compLoop (.ListComp elt [g0, g1] scope pos) 1 it acc env) R s)
    (h : wpAny (model prog w) A (pyIter it) (fun it' s' => codeAny (model prog w) A (.compLoop (.ListComp elt [g0, g1] scope pos) 1 it' acc env) R s')
      (notedBy (model prog w) A env fun x s' => R (.error x) s') s) :
    codeAny (model prog w) A (.compStart (.ListComp elt [g0, g1] scope pos) 1 it acc env) R s := by
  obtain ⟨a0, a1, a2, a3⟩ := g0
  obtain ⟨b0, b1, b2, b3⟩ := g1
  dsimp only at ha hb
  subst ha hb
  refine codeAny_of_tree ?_
  show wpAny _ _ ((compStart (.ListComp elt [⟨a0, a1, a2, 0⟩, ⟨b0, b1, b2, 0⟩] scope pos) 1 it acc env).onRaise (fun x => do noteFrame x env; standAt theWindowsPlace)) _ _ s
  refine wpAny_notedAt ?_
  unfold compStart
  show wpAny _ _ (ask >>= _) _ _ s
  refine wpAny_bind (wpAny_askSetting (wpAny_ite ?_))
  split
  · first
      | exact wpAny_bind (wpAny_pure (wpAny_pure (And.intro rfl h0)))
      | exact wpAny_pure (And.intro rfl h0)
  · first
      | exact wpAny_bind (wpAny_rule (wpAny_bind (wpAny_standAt (wpAny_bind (wpAny_mono h (fun it' s' h' => wpAny_pure (And.intro rfl h')) fun _ _ x => x)))))
      | (refine wpAny_bind (wpAny_rule ?_); show wpAny _ _ (standAt b1.pos >>= _) _ _ s; exact wpAny_bind (wpAny_standAt (wpAny_bind (wpAny_mono h (fun it' s' h' => wpAny_pure (And.intro rfl h')) fun _ _ x => x))))
end
end

/- OL -/
theorem offOL : True := by
  w_top off
  exact trivial
section
open PySem PySem.W PyProof.Rows PySem.Spec PySem.Calls PySem.SeqAt PyProof.V
set_option Elab.async false
set_option maxRecDepth 100000
set_option maxHeartbeats 2000000
section
variable {prog : Program} {w : World} {mean : ExcName → Option Value} {mg mb : Str → Option Value} {A : Around} {h₀ : Heap} {L fa : Addr} {m : Str → Option Value} {news : List (Addr × Obj)} {s : Shared} {x y : Addr} {c d : Nat}
    {Q : Flow → Shared → Prop} {E : Value → Shared → Prop} {qual : Str} {cdv : Value}
theorem range_small : ∀ n : Nat, n < 9 → Builtin.Range.small 0 (n : Int) 1 = true ∧ Builtin.Range.rangeSize 0 n 1 = (n : Int) := by decide +kernel
noncomputable def ordNums (rs : List SetR) : List Nat := rs.zipIdx.map fun p => p.1.c * 64 + p.2
theorem ordNums_get {rs : List SetR} {j N : Nat} (h : (ordNums rs)[j]? = some N) : ∃ r, rs[j]? = some r ∧ N = r.c * 64 + j := by
  unfold ordNums at h
  rw [List.getElem?_map, List.getElem?_zipIdx] at h
  cases hr : rs[j]? with
  | none => rw [hr] at h; cases h
  | some r => rw [hr] at h; simp at h; exact ⟨r, rfl, h.symm⟩
noncomputable def TupR (rs : List SetR) (t2 : List (Addr × Obj)) (j : Nat) (y : Value) : Prop := ∀ r, rs[j]? = some r → ∃ a t u, y = .ref a ∧ (a, ({ cls := .type "tuple", data := .seq #[.int (Int.ofNat r.c) t, .int (Int.ofNat j) u] } : Obj)) ∈ t2
theorem law_h {an ac ad : Addr} {rs : List SetR} {tl : List (Addr × Obj)} {na nc nd : Nat} {o1 o2 o3 o4 : Obj} (F : Fr h₀ L s.heap m) (X : Frag.In (Mine.hd.heap_39 w.params) h₀) (N : News h₀ L s.heap (lawLed L o1 o2 o3 o4 (setsLed an ac ad rs na nc nd tl ++ news))) (T : Top topProg loo mean mg mb h₀) (hh : A.handled = none)
    (hd : A.depth + 100 < recursionLimit) (hu : A.units + 900 < cLine) (d2 : o2.data = .cell (some (.ref ac))) (hrl : rs.length ≤ 7)
    (ret : ∀ h' tk' D n (t2 : List (Addr × Obj)) (qs : List (Value × Nat)) (ys : List Value), ys.length = rs.length → qs.Perm (ys.zip (ordNums rs)) → qs.Pairwise (fun p q => p.2 ≤ q.2) → (∀ p ∈ qs, ∀ h, Has eH t2 h → TupIs h p.1 p.2) → Fr h₀ L h' (fun y : Str => if y = ("order" : Str) then some (Value.ref D) else m y) →
      News h₀ L h' ((D, W.listOf (qs.map (·.1)).toArray n) :: (t2 ++ lawLed L o1 o2 o3 o4 (setsLed an ac ad rs na nc nd tl ++ news))) → (∀ p ∈ t2, ∀ q ∈ lawLed L o1 o2 o3 o4 (setsLed an ac ad rs na nc nd tl ++ news), q.1 < p.1) → (∀ p ∈ t2 ++ lawLed L o1 o2 o3 o4 (setsLed an ac ad rs na nc nd tl ++ news), p.1 < D) → Q .next { s with heap := h', toks := tk' })
    : wpAny (model prog w) (A.deeper (lawEnv L fa cdv)) (exec (lawAt 8) (lawEnv L fa cdv)) Q E s := by
  obtain ⟨hA, dp, fr, gd, un⟩ := A
  dsimp only at hh hd hu
  subst hh
  conv in exec _ => arg 1; whnf
  k_steps
  have hlc : s.heap.IsList ac (rs.map fun r => Value.int r.c r.t).toArray := ⟨_, (N _ (.tail _ (.tail _ (.tail _ (.tail _ (.tail _ (.head _))))))).1, rfl, _, rfl⟩
  refine len_L hlc (by simp; exact lek (by assumption) (by exact rfl)) fun t tk => ?_
  have hsz : (((rs.map fun r => Value.int r.c r.t).toArray.size : Nat) : Int) = (rs.length : Int) := by simp
  rw [hsz]
  k_steps
  rename IsRange _ _ _ _ _ _ _ _ => hR
  rename Fr _ _ _ _ => F1
  rename News _ _ _ _ => N1
  generalize hLG : lawLed L o1 o2 o3 o4 (setsLed an ac ad rs na nc nd tl ++ news) = LG at N1 ret
  have mc2 : (L + 2, o2) ∈ LG := by rw [← hLG]; exact .tail _ (.head _)
  have mac : (ac, W.listOf (rs.map fun r => Value.int r.c r.t).toArray nc) ∈ LG := by rw [← hLG]; exact .tail _ (.tail _ (.tail _ (.tail _ (.tail _ (.head _)))))
  dsimp only at F1 N1 hR ⊢
  refine comp_range (fun i ys nx => GrowJ LG LG (TupR rs) i ys nx) (n := rs.length) rfl hR ?small ?size (by exact lek (by assumption) (by exact rfl)) F1 N1 ⟨[], rfl, (fun _ h => nomatch h), rfl, fun _ _ h => by cases h⟩ ?turn ?done
  case small => exact (range_small rs.length (by exact ltk (by assumption) (by exact rfl))).1
  case size => exact (range_small rs.length (by exact ltk (by assumption) (by exact rfl))).2
  case turn =>
    rintro i C mc ys nx h2 tk2 own E2 t2' hi ⟨t2, rfl, hlt, hlen, hys⟩ hyl hoff F2 N2
    refine comp_turn0 ?_
    clear F1 N1 hR
    have mc2' : (L + 1 + 1, o2) ∈ t2 ++ LG ++ own := List.mem_append_left _ (List.mem_append_right _ mc2)
    k_steps
    all_goals (try k_data)
    have hri : rs[i]? = some rs[i] := List.getElem?_eq_getElem hi
    generalize rs[i] = r at hri
    have hl2 : h2.IsList ac (rs.map fun r => Value.int r.c r.t).toArray := ⟨_, (N2 _ (List.mem_append_left _ (List.mem_append_right _ mac))).1, rfl, _, rfl⟩
    refine item_litK (vs := rs.map fun r => Value.int r.c r.t) (v := Value.int r.c r.t) hl2 (by exact Int.natCast_nonneg _) (by simp; exact ill (by assumption) (by assumption) (by exact rfl)) ?get ?_
    case get =>
      have e : ((0 : Int) + (i : Int) * 1).toNat = i := by exact toN _
      rw [e, List.getElem?_map, hri]; rfl
    k_steps
    all_goals (try k_data)
    rename_i Dt gt F5 N5 lD
    have hst : News h₀ C gt (((Dt, ({ cls := .type "tuple", data := .seq #[.int (Int.ofNat r.c) r.t, .int (Int.ofNat i) t2'] } : Obj)) :: t2) ++ LG ++ own) := by
      have e : (0 : Int) + (i : Int) * 1 = Int.ofNat i := by rw [Int.mul_one, Int.zero_add]; rfl
      rw [e] at N5
      exact N5
    refine ⟨_, _, _, ((Dt, ({ cls := .type "tuple", data := .seq #[.int (Int.ofNat r.c) r.t, .int (Int.ofNat i) t2'] } : Obj)) :: t2) ++ LG, rfl, F5, hst, ?_, grow_step (tl2 := [(Dt, _)]) hlt hlen hys (fun p hp q hq => by cases List.mem_singleton.mp hp; exact lD q (List.mem_append_left _ (List.mem_append_right _ hq))) (fun j y _ h r hr => ?_) (fun r' hr' => ?_) rfl⟩
    · intro p hp q hq
      rcases List.mem_cons.mp hp with rfl | hp
      · exact Nat.ne_of_gt (lD q (List.mem_append_right _ hq))
      · exact hoff p hp q hq
    · obtain ⟨a, t, u, e1, e2⟩ := h r hr
      exact ⟨a, t, u, e1, .tail _ e2⟩
    · rw [hri] at hr'; cases hr'
      exact ⟨Dt, _, _, rfl, .head _⟩
  case done =>
    rintro D nD ys nx h2 tk2 ⟨t2, rfl, hlt, hlen, hys⟩ hyl F2 N2 ltD neD
    clear F1 N1 hR
    k_steps
    all_goals (try k_data)
    have hps : (ys.zip (ordNums rs)).map (·.1) = ys := by
      rw [List.map_fst_zip]; unfold ordNums; simp [hlen]
    have tup : ∀ p ∈ ys.zip (ordNums rs), ∀ h, Has eH t2 h → TupIs h p.1 p.2 := by
      intro p hp h H
      obtain ⟨j, hj⟩ := List.mem_iff_getElem?.mp hp
      obtain ⟨y, N⟩ := p
      rw [List.getElem?_zip_eq_some] at hj
      obtain ⟨r, hr, hN⟩ := ordNums_get hj.2
      obtain ⟨a, t, u, e1, e2⟩ := hys j y hj.1 r hr
      have hjl : j < rs.length := (List.getElem?_eq_some_iff.mp hr).1
      exact ⟨a, _, r.c, j, t, u, _, e1, H.2 _ e2, rfl, rfl, lts (by assumption) (by assumption) (by exact rfl), hN⟩
    have hHas : Has eH t2 h2 := ⟨eH_keep, fun p hp => (N2 p (.tail _ (List.mem_append_left _ hp))).1⟩
    refine sorted_tup (ps := ys.zip (ordNums rs)) F2 N2 ⟨_, (N2 _ (.head _)).1, rfl, _, by rw [hps]⟩ (fun p hp => tup p hp h2 hHas) (by rw [List.length_zip]; exact Nat.lt_of_le_of_lt (Nat.min_le_left _ _) (eqlk (by assumption) (by assumption) (by exact rfl))) (by ((try dsimp only [units_deeper, units_in1, Around.mark_units]); exact rm2 (by assumption) (by exact rfl))) ?_
    intro b qs n h3 F3 N3 ltb perm pw
    have N4 : News h₀ L h3 ((b, W.listOf (qs.map (·.1)).toArray n) :: (t2 ++ LG)) := News.mono' N3 fun p hp => by
      rcases List.mem_cons.mp hp with rfl | hp
      · exact .head _
      · exact .tail _ (.tail _ hp)
    clear N3 N2
    k_steps
    rename Fr _ _ _ _ => F9
    rename News _ _ _ _ => N9
    exact ret _ _ b n t2 qs ys hlen perm pw (fun p hp => tup p (perm.mem_iff.mp hp)) F9 N9 hlt (fun p hp => ltb p (.tail _ hp))
end
end

/- OM -/
theorem offOM : True := by
  w_top off
  exact trivial
section
open PySem PySem.W PyProof.Rows PySem.Spec PySem.Calls PySem.SeqAt PyProof.V
set_option Elab.async false
set_option maxRecDepth 100000
set_option maxHeartbeats 2000000
section
variable {prog : Program} {w : World} {mean : ExcName → Option Value} {mg mb : Str → Option Value} {A : Around} {h₀ : Heap} {L fa : Addr} {m : Str → Option Value} {rest news : List (Addr × Obj)} {s : Shared} {x y : Addr} {c d : Nat}
    {Q : Flow → Shared → Prop} {E : Value → Shared → Prop} {qual : Str} {cdv : Value}
theorem law_i (F : Fr h₀ L s.heap m) (X : Frag.In (Mine.hd.heap_39 w.params) h₀) (N : News h₀ L s.heap ((58, tabObj #[]) :: rest)) (T : Top topProg loo mean mg mb h₀) (hh : A.handled = none)
    (hd : A.depth + 100 < recursionLimit) (hu : A.units + 900 < cLine) (C : CodeHd h₀ 62 58) (h58 : ∀ p ∈ rest, p.1 ≠ 58)
    (ret : ∀ (K : Addr) (kl : List (Addr × Obj)) (ps : Array Value) (h' : Heap) (tk' : Nat), KOk kl K → Fr h₀ L h' (fun y : Str => if y = ("key" : Str) then some (Value.ref K) else m y) → News h₀ L h' (kl ++ (58, tabObj ps) :: rest) → (∀ q ∈ rest, ∀ p ∈ kl, q.1 < p.1) → Q .next { s with heap := h', toks := tk' }) :
    wpAny (model prog w) (A.deeper (lawEnv L fa cdv)) (exec (lawAt 9) (lawEnv L fa cdv)) Q E s := by
  obtain ⟨hA, dp, fr, gd, un⟩ := A
  dsimp only at hh hd hu
  subst hh
  conv in exec _ => arg 1; whnf
  k_steps
  rename Fr _ _ _ _ => F1
  rename News _ _ _ _ => N1
  refine cmp_key F1 X N1 T rfl ?_ ?_ C h58 ?_
  · ((try dsimp only [depth_deeper, depth_in1]); exact rm2 (by assumption) (by exact rfl))
  · ((try dsimp only [units_deeper, units_in1, Around.mark_units]); exact rm2 (by assumption) (by exact rfl))
  intro K kl ps h' tk' kok F2 N2 lt
  clear N1 F1
  k_steps
  rename Fr _ _ _ _ => F9
  rename News _ _ _ _ => N9
  exact ret K kl ps _ _ kok F9 N9 fun q hq => lt q (.tail _ hq)
end
end

/- ON -/
theorem offON : True := by
  w_top off
  exact trivial
section
open PySem PySem.W PyProof.Rows PySem.Spec PySem.Calls PySem.SeqAt PyProof.V
set_option Elab.async false
set_option maxRecDepth 100000
set_option maxHeartbeats 2000000
section
variable {prog : Program} {w : World} {mean : ExcName → Option Value} {mg mb : Str → Option Value} {A : Around} {h₀ : Heap} {L fa : Addr} {m : Str → Option Value} {rest news : List (Addr × Obj)} {s : Shared} {x y : Addr} {c d : Nat}
    {Q : Flow → Shared → Prop} {E : Value → Shared → Prop} {qual : Str} {cdv : Value}
noncomputable def psOf (rs : List SetR) : List (Value × Nat) := rs.map fun r => (r.v, r.c)
theorem psOf_fst (rs : List SetR) : (psOf rs).map (·.1) = rs.map fun r => r.v := by unfold psOf; rw [List.map_map]; rfl
theorem law_k {an : Addr} {na : Nat} {rs : List SetR} {tl Y : List (Addr × Obj)} {o1 o2 o3 o4 : Obj} {c3 : Option Value} (F : Fr h₀ L s.heap m) (X : Frag.In (Mine.hd.heap_39 w.params) h₀) (N : News h₀ L s.heap (lawLed L o1 o2 o3 o4 Y)) (T : Top topProg loo mean mg mb h₀) (hh : A.handled = none)
    (hd : A.depth + 100 < recursionLimit) (hu : A.units + 900 < cLine) (d1 : o1.data = .cell (some (.ref an))) (d3 : o3.data = .cell c3) (man : (an, W.listOf (rs.map fun r => r.v).toArray na) ∈ Y) (good : Good tl rs) (htl : ∀ p ∈ tl, p ∈ Y) (hrl : rs.length ≤ 7) (off : Off L Y)
    (ret : ∀ b n h' tk' o3', o3'.data = .cell (some (.ref b)) → Fr h₀ L h' m → News h₀ L h' (lawLed L o1 o2 o3' o4 ((b, W.listOf ((dd (psOf rs)).map (·.1)).toArray n) :: Y)) → (∀ p ∈ lawLed L o1 o2 o3 o4 Y, p.1 < b) → Q .next { s with heap := h', toks := tk' }) :
    wpAny (model prog w) (A.deeper (lawEnv L fa cdv)) (exec (lawAt 11) (lawEnv L fa cdv)) Q E s := by
  obtain ⟨hA, dp, fr, gd, un⟩ := A
  dsimp only at hh hd hu
  subst hh
  conv in exec _ => arg 1; whnf
  k_steps
  rename Fr _ _ _ _ => F1
  rename News _ _ _ _ => N1
  have sub : ∀ p ∈ Y, p ∈ lawLed L o1 o2 o3 o4 Y := fun p hp => .tail _ (.tail _ (.tail _ (.tail _ hp)))
  refine dedup (ps := psOf rs) (lo := W.listOf (rs.map fun r => r.v).toArray na) (nn := na) F1 X N1 T rfl rfl (by rw [psOf_fst]) (fun h H => H.2 _ (sub _ man)) ?hp (by unfold psOf; rw [List.length_map]; exact lek (by assumption) (by exact rfl)) ?room ?units ?_
  case room => ((try dsimp only [depth_deeper, depth_in1]); exact rm2 (by assumption) (by exact rfl))
  case units => ((try dsimp only [units_deeper, units_in1, Around.mark_units]); exact rm2 (by assumption) (by exact rfl))
  case hp =>
    intro p hp
    obtain ⟨r, hr, rfl⟩ := List.mem_map.mp hp
    exact (good r hr).1.mono eH_keep fun q hq => sub q (htl q hq)
  intro b n h' tk' F2 N2 lb
  have N3 : News h₀ L h' (lawLed L o1 o2 o3 o4 ((b, W.listOf ((dd (psOf rs)).map (·.1)).toArray n) :: Y)) := News.mono' N2 fun p hp => by
    simp only [lawLed, List.mem_cons] at hp ⊢
    rcases hp with h | h | h | h | h | h
    · exact .inr (.inl h)
    · exact .inr (.inr (.inl h))
    · exact .inr (.inr (.inr (.inl h)))
    · exact .inr (.inr (.inr (.inr (.inl h))))
    · exact .inl h
    · exact .inr (.inr (.inr (.inr (.inr h))))
  have off' : Off L ((b, W.listOf ((dd (psOf rs)).map (·.1)).toArray n) :: Y) := by
    intro p hp
    rcases List.mem_cons.mp hp with rfl | hp
    · exact .inr (lb (L + 4, o4) (.tail _ (.tail _ (.tail _ (.head _)))))
    · exact off p hp
  clear N2 N1 F1
  k_steps
  rename Fr _ _ _ _ => F9
  rename News _ _ _ _ => N9
  refine store_c3 F9 N9 off' d3 rfl ?_
  intro h2 o3' F4 N4 d3'
  k_steps
  rename Fr _ _ _ _ => F10
  rename News _ _ _ _ => N10
  exact ret b n _ _ o3' d3' F10 N10 lb
end
end

/- OP -/
theorem offOP : True := by
  w_top off
  exact trivial
section
open PySem PySem.W PyProof.Rows PySem.Spec PySem.Calls PySem.SeqAt PyProof.V
set_option Elab.async false
set_option maxRecDepth 100000
set_option maxHeartbeats 2000000
section
variable {prog : Program} {w : World} {mean : ExcName → Option Value} {mg mb : Str → Option Value} {A : Around} {h₀ : Heap} {L fa : Addr} {m : Str → Option Value} {rest news : List (Addr × Obj)} {s : Shared} {x y : Addr} {c d : Nat}
    {Q : Flow → Shared → Prop} {E : Value → Shared → Prop} {qual : Str} {cdv : Value}
theorem law_l {an ac ad b Ds : Addr} {na nc nd nb ns : Nat} {vb ys : List Value} {rs : List SetR} {tl Y : List (Addr × Obj)} {o1 o2 o3 o4 : Obj} (F : Fr h₀ L s.heap m) (X : Frag.In (Mine.hd.heap_39 w.params) h₀) (N : News h₀ L s.heap (lawLed L o1 o2 o3 o4 Y)) (T : Top topProg loo mean mg mb h₀) (hh : A.handled = none)
    (hd : A.depth + 100 < recursionLimit) (hu : A.units + 900 < cLine) (d1 : o1.data = .cell (some (.ref an))) (d2 : o2.data = .cell (some (.ref ac))) (d3 : o3.data = .cell (some (.ref b))) (man : (an, W.listOf (rs.map fun r => r.v).toArray na) ∈ Y) (mac : (ac, W.listOf (rs.map fun r => Value.int r.c r.t).toArray nc) ∈ Y) (mad : (ad, W.listOf (rs.map fun r => Value.ref r.d).toArray nd) ∈ Y)
    (mb' : (b, W.listOf vb.toArray nb) ∈ Y) (ms : (Ds, W.listOf ys.toArray ns) ∈ Y) (hys : IntsAre ys (rs.map fun r => (r.ds.length : Int))) (hne : b ≠ an)
    (good : Good tl rs) (htl : ∀ p ∈ tl, p ∈ Y) (hrl : rs.length ≤ 7) (hm : m ("draws" : Str) = some (.ref ad)) (hm2 : m ("sizes" : Str) = some (.ref Ds))
    (ret : ∀ h' tk', Fr h₀ L h' m → News h₀ L h' (lawLed L o1 o2 o3 o4 Y) → Q .next { s with heap := h', toks := tk' }) :
    wpAny (model prog w) (A.deeper (lawEnv L fa cdv)) (exec (lawAt 12) (lawEnv L fa cdv)) Q E s := by
  obtain ⟨hA, dp, fr, gd, un⟩ := A
  dsimp only at hh hd hu
  subst hh
  have F0 := F
  rw [pull hm, pull hm2] at F
  clear F0
  conv in exec _ => arg 1; whnf
  k_steps
  have sub : ∀ p ∈ Y, p ∈ lawLed L o1 o2 o3 o4 Y := fun p hp => .tail _ (.tail _ (.tail _ (.tail _ hp)))
  refine is_other' hne (N _ (sub _ mb')).1 (N _ (sub _ man)).1 (by show Value.type "list" ≠ Value.type "tuple"; decide) ?_
  k_steps
  have hl1 : s.heap.IsList an (rs.map fun r => r.v).toArray := ⟨_, (N _ (sub _ man)).1, rfl, _, rfl⟩
  refine len_L hl1 (by simp; exact lek (by assumption) (by exact rfl)) fun t tk => ?_
  k_steps
  rename News _ _ _ _ => N2
  have hl2 : s.heap.IsList ac (rs.map fun r => Value.int r.c r.t).toArray := ⟨_, (N2 _ (sub _ mac)).1, rfl, _, rfl⟩
  refine len_L (s := { s with heap := s.heap, toks := _ }) hl2 (by simp; exact lek (by assumption) (by exact rfl)) fun t' tk' => ?_
  have e1 : (((rs.map fun r => r.v).toArray.size : Nat) : Int) = (rs.length : Int) := by simp
  have e2 : (((rs.map fun r => Value.int r.c r.t).toArray.size : Nat) : Int) = (rs.length : Int) := by simp
  rw [e1, e2]
  k_steps
  · rename _ ≠ _ => hq
    exact absurd rfl hq
  generalize hLG : lawLed L o1 o2 o3 o4 Y = LG at *
  rename Fr _ _ _ _ => F1
  refine comp_list (lo := W.listOf (rs.map fun r => Value.ref r.d).toArray nd) (vs := rs.map fun r => Value.ref r.d) (nn := nd) (fun i ys nx => nx = LG ∧ ys.length = i ∧ IntsAre ys ((rs.map fun r => (r.ds.length : Int)).take i)) rfl rfl rfl
    (fun i ys nx hj h H => by obtain ⟨rfl, _⟩ := hj; exact H.2 _ (sub _ mad)) (by rw [List.length_map]; exact lek (by assumption) (by exact rfl)) F1 N2 ⟨rfl, rfl, by simpa using IntsAre.nil⟩ ?turn ?done
  case turn =>
    rintro i v C mc zs nx h3 tk3 own E2 hv ⟨hnx, hlen3, hzs⟩ hyl3 hoff3 F3 N4
    subst nx
    rw [List.getElem?_map] at hv
    obtain ⟨r, hr, rfl⟩ := Option.map_eq_some_iff.mp hv
    have hdr := sub _ (htl _ (good_draw good hr))
    refine comp_turn0 ?_
    k_steps
    all_goals (try k_data)
    have hds := (good r (List.mem_of_getElem? hr)).2.2.1
    have hL : h3.IsList r.d (r.ds.map (·.1)).toArray := ⟨_, (N4 _ (List.mem_append_left _ hdr)).1, rfl, _, rfl⟩
    refine len_L (s := { s with heap := h3, toks := _ }) (items := (r.ds.map (·.1)).toArray) hL (by simp; exact lek (by assumption) (by exact rfl)) fun t tk => ?_
    rename Fr _ _ _ _ => F6
    refine ⟨_, _, _, LG, rfl, F6, N4, hoff3, rfl, by simp [hlen3], ?_⟩
    have e : (rs.map fun r => (r.ds.length : Int)).take (i + 1) = (rs.map fun r => (r.ds.length : Int)).take i ++ [(r.ds.length : Int)] := by
      rw [List.take_add_one, List.getElem?_map, hr]; rfl
    have e2 : (((r.ds.map (·.1)).toArray.size : Nat) : Int) = (r.ds.length : Int) := by simp
    rw [e, e2]
    exact ksk_snoc hzs
  case done =>
    rintro D nD zs nx h3 tk3 ⟨hnx, hlen3, hzs⟩ hyl3 F3 N4 ltD neD
    subst nx
    clear F1 N2
    have F3' : Fr h₀ L h3 m := by rw [pull hm, pull hm2]; exact F3
    clear F3
    refine nameX_L F3' hm2 ?_
    have hzs2 : IntsAre zs (rs.map fun r => (r.ds.length : Int)) := by rwa [List.take_of_length_le (by simp)] at hzs
    refine ne_ints (ns := rs.map fun r => (r.ds.length : Int)) ⟨_, (N4 _ (.head _)).1, rfl, _, rfl⟩ ⟨_, (N4 _ (.tail _ (sub _ ms))).1, rfl, _, rfl⟩ hzs2 hys (by ((try dsimp only [units_deeper, units_in1, Around.mark_units]); exact rm2 (by assumption) (by exact rfl))) ?_
    k_steps
    rename Fr _ _ _ _ => F9
    rename News _ _ _ _ => N9
    exact ret _ _ F9 (News.mono' N9 fun p hp => .tail _ hp)
end
end

/- OR -/
theorem offOR : True := by
  w_top off
  exact trivial
section
open PySem PySem.W PyProof.Rows PySem.Spec PySem.Calls PySem.SeqAt PyProof.V
set_option Elab.async false
set_option maxRecDepth 100000
set_option maxHeartbeats 2000000
noncomputable abbrev riObj (x left step : Int) : Obj := { cls := .type "range_iterator", dict := none, data := .fields #[rawInt x, rawInt left, rawInt step], slots := #[] }
section
variable {h₀ h h' : Heap} {L a : Addr} {m : Str → Option Value} {rest : List (Addr × Obj)} {o o' : Obj}
theorem upd_same (F : Fr h₀ L h m) (N : News h₀ L h ((a, o) :: rest)) (hne : ∀ p ∈ rest, p.1 ≠ a) (hs : Heap.SameBut a h h') (ho : h'.get? a = some o') : Fr h₀ L h' m ∧ News h₀ L h' ((a, o') :: rest) := by
  have z := N _ (.head _)
  refine ⟨F.change hs z.2.1 z.2.2, fun p hp => ?_⟩
  rcases List.mem_cons.mp hp with rfl | hp
  · exact ⟨ho, z.2⟩
  · have y := N p (.tail _ hp)
    exact ⟨(hs.2 p.1 (hne p hp)).trans y.1, y.2⟩
theorem upd_gone (F : Fr h₀ L h m) (N : News h₀ L h ((a, o) :: rest)) (hne : ∀ p ∈ rest, p.1 ≠ a) (hs : Heap.ExtBut a h h') : Fr h₀ L h' m ∧ News h₀ L h' rest := by
  have z := N _ (.head _)
  obtain ⟨oL, es, ep, hL, r⟩ := F.ns
  refine ⟨⟨⟨oL, es, ep, hs _ _ (Ne.symm z.2.1) hL, r⟩, fun b ob e => hs b ob (fun q => by rw [q, z.2.2] at e; cases e) (F.keep b ob e), F.above⟩, fun p hp => ?_⟩
  have y := N p (.tail _ hp)
  exact ⟨hs _ _ (hne p hp) y.1, y.2⟩
end
section
variable {prog : Program} {w : World} {A : Around} {E : Value → Shared → Prop} {env : Env} {s : Shared} {h₀ : Heap} {L : Addr} {elt iter i1 : Expr} {x0 x1 : Str} {p0 p1 : Pos} {scope : Scope} {cl : List (Str × Addr)} {m : Str → Option Value} {news : List (Addr × Obj)}

noncomputable def riN (j n : Nat) : Obj := riObj (j : Int) ((n : Int) - (j : Int)) 1
theorem News.sw {h₀ h : Heap} {L : Addr} {a b : Addr × Obj} {r : List (Addr × Obj)} (N : News h₀ L h (a :: b :: r)) : News h₀ L h (b :: a :: r) := fun p hp => by
  rcases List.mem_cons.mp hp with rfl | hp
  · exact N _ (.tail _ (.head _))
  rcases List.mem_cons.mp hp with rfl | hp
  · exact N _ (.head _)
  · exact N _ (.tail _ (.tail _ hp))
theorem News.sw1 {h₀ h : Heap} {L : Addr} {a b c : Addr × Obj} {r : List (Addr × Obj)} (N : News h₀ L h (a :: b :: c :: r)) : News h₀ L h (a :: c :: b :: r) := fun p hp => by
  rcases List.mem_cons.mp hp with rfl | hp
  · exact N _ (.head _)
  · exact News.sw (fun q hq => N q (.tail _ hq)) p hp
theorem News.rot {h₀ h : Heap} {L : Addr} {a b c d : Addr × Obj} {r : List (Addr × Obj)} (N : News h₀ L h (a :: b :: c :: d :: r)) : News h₀ L h (r ++ [b, a, c, d]) := fun p hp => by
  rcases List.mem_append.mp hp with hp | hp
  · exact N _ (.tail _ (.tail _ (.tail _ (.tail _ hp))))
  · exact News.sw N p (List.mem_append_left r hp : p ∈ [b, a, c, d] ++ r)
theorem News.unrot {h₀ h : Heap} {L : Addr} {a b c d : Addr × Obj} {r : List (Addr × Obj)} (N : News h₀ L h (r ++ [a, b, c, d])) : News h₀ L h (a :: b :: c :: d :: r) := fun p hp =>
  N p ((List.mem_append.mp (hp : p ∈ [a, b, c, d] ++ r)).elim (fun h => List.mem_append_right _ h) fun h => List.mem_append_left _ h)
inductive EltEnd2 (h₀ : Heap) (C : Addr) (own : List (Addr × Obj)) (P : (Str → Option Value) → Prop) (J1 : Value → List (Addr × Obj) → Prop) (s₂ : Shared) (y : Value) (s₅ : Shared) : Prop
  | mk (h' : Heap) (tk' : Nat) (mc' : Str → Option Value) (nx' : List (Addr × Obj)) (q1 : s₅ = { s₂ with heap := h', toks := tk' }) (q2 : Fr h₀ C h' mc') (q3 : P mc') (q4 : News h₀ C h' (nx' ++ own)) (q5 : (∀ p ∈ nx', ∀ q ∈ own, p.1 ≠ q.1)) (q6 : J1 y nx') : EltEnd2 h₀ C own P J1 s₂ y s₅
inductive IterEnd (h₀ : Heap) (L : Addr) (m₁ : Str → Option Value) (nw₁ : List (Addr × Obj)) (n : Nat) (s : Shared) (xv : Value) (s₁ : Shared) : Prop
  | mk (r : Addr) (h1 : Heap) (tk1 : Nat) (t u v : Tok) (q1 : xv = .ref r) (q2 : s₁ = { s with heap := h1, toks := tk1 }) (q3 : IsRange h1 r 0 n 1 t u v) (q4 : Fr h₀ L h1 m₁) (q5 : News h₀ L h1 nw₁) : IterEnd h₀ L m₁ nw₁ n s xv s₁
inductive InEnd (h₀ : Heap) (C : Addr) (x0 : Str) (v : Value) (nl : List (Addr × Obj)) (n : Nat) (s : Shared) (xv : Value) (s₁ : Shared) : Prop
  | mk (r : Addr) (h1 : Heap) (tk1 : Nat) (t' u v' : Tok) (mc' : Str → Option Value) (q1 : xv = .ref r) (q2 : s₁ = { s with heap := h1, toks := tk1 }) (q3 : IsRange h1 r 0 n 1 t' u v') (q4 : Fr h₀ C h1 mc') (q5 : mc' x0 = some v) (q6 : News h₀ C h1 nl) : InEnd h₀ C x0 v nl n s xv s₁
inductive OutAt (h₀ : Heap) (C D I0 L : Addr) (oL : Obj) (n : Nat) (J : Nat → Nat → List Value → List (Addr × Obj) → Prop) (s : Shared) (i : Nat) (s' : Shared) : Prop
  | mk (h : Heap) (tk : Nat) (mc : Str → Option Value) (ys : List Value) (nx : List (Addr × Obj)) (nD : Nat) (q1 : s' = { s with heap := h, toks := tk }) (q2 : Fr h₀ C h mc) (q3 : News h₀ C h ((D, W.listOf ys.toArray nD) :: (I0, riN i n) :: (L, oL) :: nx)) (q4 : ∀ p ∈ nx, p.1 ≠ D ∧ p.1 ≠ I0 ∧ p.1 ≠ L) (q5 : ys.length ≤ 7 * i) (q6 : J i 0 ys nx) : OutAt h₀ C D I0 L oL n J s i s'
inductive InnAt (h₀ : Heap) (C D I0 I1 L : Addr) (oL : Obj) (o0 : Obj) (i : Nat) (x0 : Str) (v0 : Value) (J : Nat → Nat → List Value → List (Addr × Obj) → Prop) (s : Shared) (j : Nat) (s' : Shared) : Prop
  | mk (h : Heap) (tk' : Nat) (mc : Str → Option Value) (ys : List Value) (nx : List (Addr × Obj)) (nD : Nat) (q1 : s' = { s with heap := h, toks := tk' }) (q2 : Fr h₀ C h mc) (q3 : mc x0 = some v0) (q4 : News h₀ C h ((I1, riN j (i + 1)) :: (D, W.listOf ys.toArray nD) :: (I0, o0) :: (L, oL) :: nx)) (q5 : ∀ p ∈ nx, p.1 ≠ D ∧ p.1 ≠ I0 ∧ p.1 ≠ L ∧ p.1 ≠ I1) (q6 : ys.length ≤ 7 * i + j) (q7 : J i j ys nx) : InnAt h₀ C D I0 I1 L oL o0 i x0 v0 J s j s'
theorem comp2_store {y : Str} {py pos spos : Pos} {Q : Flow → Shared → Prop} {n : Nat} {m₁ : Str → Option Value} {nw₁ : List (Addr × Obj)} (hn7 : n ≤ 7) (hh : A.handled = none) (J : Nat → Nat → List Value → List (Addr × Obj) → Prop)
    (hsw : swapsWith (.ListComp elt [⟨.Name x0 p0, iter, [], 0⟩, ⟨.Name x1 p1, i1, [], 0⟩] scope pos) (some (.Name y py)) spos.line env = pure true) (hL : env.locals = L)
    (hclos : closureFor scope env = pure cl) (hcell : ∀ y ∈ scope.names, y.2 ≠ .cell) (hkind : scope.kind = .function)
    (hnames : ∀ y ∈ scope.names, y.2 = .local → scope.names.lookup y.1 = some .local) (hx0 : scope.names.lookup x0 = some .local) (hx1 : scope.names.lookup x1 = some .local) (_h01 : x0 ≠ x1)
    (hy : env.kindOf y = some .local) (hpl : (env.scope.kind == .class || (env.scope.kind == .module && env.locals != env.globals)) = false)
    (hs0 : ∀ x, foldedSetIterable iter env x = pure x) (hs1 : ∀ env x, foldedSetIterable i1 env x = pure x)
    (smalls : ∀ k : Nat, k ≤ 7 → Builtin.Range.small 0 (k : Int) 1 = true ∧ Builtin.Range.rangeSize 0 k 1 = (k : Int))
    (h : wpAny (model prog w) A (eval iter env) (IterEnd h₀ L m₁ nw₁ n s) E s) (hj : J 0 0 [] nw₁)
    (hin : ∀ (i : Nat) (C : Addr) (mc : Str → Option Value) (nl : List (Addr × Obj)) (h : Heap) (tk : Nat) (t : Tok) (E' : Value → Shared → Prop), i < n → Fr h₀ C h (fun z => if z = x0 then some (.int i t) else mc z) → News h₀ C h nl →
      wpAny (model prog w) A (eval i1 (compEnvC scope cl C env)) (InEnd h₀ C x0 (.int i t) nl (i + 1) s) E' { s with heap := h, toks := tk })
    (hel : ∀ (i j : Nat) (C : Addr) (mc : Str → Option Value) (ys : List Value) (nx own : List (Addr × Obj)) (h : Heap) (tk : Nat) (t t' : Tok) (E' : Value → Shared → Prop), i < n → j < i + 1 → J i j ys nx → (∀ p ∈ nx, ∀ q ∈ own, p.1 ≠ q.1) → Fr h₀ C h (fun z => if z = x1 then some (.int j t') else if z = x0 then some (.int i t) else mc z) → News h₀ C h (nx ++ own) →
      wpAny (model prog w) A (eval elt (compEnvC scope cl C env)) (EltEnd2 h₀ C own (fun mc' => mc' x0 = some (.int i t)) (fun y nx' => J i (j + 1) (ys ++ [y]) nx') s) E' { s with heap := h, toks := tk })
    (hst : ∀ i ys nx, J i (i + 1) ys nx → J (i + 1) 0 ys nx)
    (done : ∀ D nD ys nx h' tk, J n 0 ys nx → (∀ p ∈ nx, p.1 ≠ D) → Fr h₀ L h' (fun z => if z = y then some (.ref D) else m₁ z) → News h₀ L h' ((D, W.listOf ys.toArray nD) :: nx) → Q .next { s with heap := h', toks := tk }) :
    wpAny (model prog w) A (exec (.Assign [.Name y py] (.ListComp elt [⟨.Name x0 p0, iter, [], 0⟩, ⟨.Name x1 p1, i1, [], 0⟩] scope pos) spos) env) Q E s := by
  rw [exec_Assign_Name_used _ _ _ _ hsw]
  refine wpAny_bind (wpAny_standAt (wpAny_bind ?_))
  show wpAny _ A (do let _ ← comprehension (.ListComp elt [⟨.Name x0 p0, iter, [], 0⟩, ⟨.Name x1 p1, i1, [], 0⟩] scope pos) scope env _ (newList []) false (eval iter env) (some (assign (.Name y py) env))) _ _ s
  refine wpAny_bind (wpAny_mono ?_ (fun _ s' (hq : Q .next s') => wpAny_pure (wpAny_pure hq)) fun _ _ e => e)
  refine wpAny_comprehension_free (use := some (assign (.Name y py) env)) (Q := fun _ s' => Q .next s') rfl hs0 hclos hkind hnames (wpAny_mono h (fun xv s₁ h₁ => ?_) fun _ _ e => e)
  obtain ⟨r, h1, tk1, t, u, v, rfl, rfl, hr, F, N⟩ := h₁
  have sm := smalls n hn7
  refine wpAny_pyIter_range hr sm.1 ?_
  rw [sm.2]
  refine wpAny_newObj_type (wpAny_newFunctionEnv hcell (by intro y hy; simp at hy) (fun h₁ hns₁ hsb₁ => ?_) hkind)
  dsimp only at hns₁ hsb₁ ⊢
  generalize hH1 : h1.push _ = H1 at hns₁ hsb₁ ⊢
  generalize hH2 : H1.push { cls := .type "list", dict := none, data := .seq ([] : List Value).toArray } = H2 at hns₁ hsb₁ ⊢
  have e1 : H1.objs.size = h1.objs.size + 1 := by rw [← hH1, Heap.size_push]
  have e2 : H2.objs.size = H1.objs.size + 1 := by rw [← hH2, Heap.size_push]
  have gI : H1.get? h1.objs.size = some (riObj 0 n 1) := by rw [← hH1]; exact Heap.get?_push_size _ rfl
  have gD : H2.get? H1.objs.size = some (W.listOf #[] 0) := by rw [← hH2]; exact Heap.get?_push_size _ rfl
  have gI2 : H2.get? h1.objs.size = some (riObj 0 n 1) := by rw [← hH2]; exact Heap.get?_push_of_some _ gI
  have up2 : ∀ b o, h1.get? b = some o → H2.get? b = some o := fun b o e => by rw [← hH2]; exact Heap.get?_push_of_some _ (by rw [← hH1]; exact Heap.get?_push_of_some _ e)
  generalize hIe : h1.objs.size = I0 at *
  generalize hDe : H1.objs.size = D at *
  generalize hCe : H2.objs.size = C at *
  have hID : I0 < D := by rw [e1]; exact Nat.lt_succ_self _
  have hDC : D < C := by rw [e2]; exact Nat.lt_succ_self _
  have up : ∀ b o, h1.get? b = some o → h₁.get? b = some o := fun b o e => hsb₁.extBut b o (Nat.ne_of_lt (Nat.lt_trans (Nat.lt_trans (hIe ▸ Heap.lt_size e) hID) hDC)) (Heap.get?_push_of_some _ (up2 b o e))
  obtain ⟨oL, esL, epL, hLo, hLd, hLk, hLf⟩ := id F.ns
  have hLI : L < I0 := hIe ▸ Heap.lt_size hLo
  have h0I : h₀.objs.size ≤ I0 := Nat.le_trans F.above (Nat.le_of_lt hLI)
  have h0D : h₀.objs.size ≤ D := Nat.le_trans h0I (Nat.le_of_lt hID)
  have h0C : h₀.objs.size ≤ C := Nat.le_trans h0D (Nat.le_of_lt hDC)
  have F0 : Fr h₀ C h₁ _ := ⟨hns₁, fun b o e => up b o (F.keep b o e), h0C⟩
  have newsI : ∀ p ∈ nw₁, p.1 < I0 := fun p hp => hIe ▸ Heap.lt_size (N p hp).1
  have N0 : News h₀ C h₁ ((D, W.listOf ([] : List Value).toArray 0) :: (I0, riObj 0 n 1) :: (L, oL) :: nw₁) := by
    intro p hp
    rcases List.mem_cons.mp hp with rfl | hp
    · exact ⟨hsb₁.extBut _ _ (Nat.ne_of_lt hDC) (Heap.get?_push_of_some _ gD), Nat.ne_of_lt hDC, Heap.get?_none_of_le h0D⟩
    rcases List.mem_cons.mp hp with rfl | hp
    · exact ⟨hsb₁.extBut _ _ (Nat.ne_of_lt (Nat.lt_trans hID hDC)) (Heap.get?_push_of_some _ gI2), Nat.ne_of_lt (Nat.lt_trans hID hDC), Heap.get?_none_of_le h0I⟩
    rcases List.mem_cons.mp hp with rfl | hp
    · exact ⟨up _ _ hLo, Nat.ne_of_lt (Nat.lt_trans hLI (Nat.lt_trans hID hDC)), Heap.get?_none_of_le F.above⟩
    · exact ⟨up _ _ (N p hp).1, Nat.ne_of_lt (Nat.lt_trans (newsI p hp) (Nat.lt_trans hID hDC)), (N p hp).2.2⟩
  have newsO : ∀ p ∈ nw₁, p.1 ≠ D ∧ p.1 ≠ I0 ∧ p.1 ≠ L := fun p hp => ⟨Nat.ne_of_lt (Nat.lt_trans (newsI p hp) hID), Nat.ne_of_lt (newsI p hp), (N p hp).2.1⟩
  have loop : ∀ s₃ : Shared, (∃ tk, s₃ = { s with heap := h₁, toks := tk }) →
      codeAny (model prog w) A (.compLoop (.ListComp elt [⟨.Name x0 p0, iter, [], 0⟩, ⟨.Name x1 p1, i1, [], 0⟩] scope pos) 0 (.ref I0) (.ref D) (compEnvC scope cl C env)) (compPost (model prog w) A E (some (assign (.Name y py) env)) (fun _ s' => Q .next s') (.ref D) C) s₃ := by
    rintro s₃ ⟨tk0, rfl⟩
    refine loop_G (n := n) (compTurn2a elt (.Name x0 p0) iter (.Name x1 p1) i1 scope pos (.ref I0) (.ref D) (compEnvC scope cl C env))
      (OutAt h₀ C D I0 L oL n J s)
      ⟨h₁, tk0, _, [], nw₁, 0, rfl, F0, by rw [show riN 0 n = riObj 0 (n : Int) 1 from by unfold riN; simp]; exact N0, newsO, Nat.zero_le _, hj⟩ ?_ ?_
    · rintro i s' hi ⟨h, tk, mc, ys, nx, nD, rfl, F1, N1, off1, hlen, hJ⟩
      have hit : IsRangeIter h I0 i ((n : Int) - i) 1 := (N1 _ (.tail _ (.head _))).1
      refine wpAny_pyNext_range_item hit (Int.sub_pos_of_lt (Int.ofNat_lt.mpr (by assumption))) fun h2 hit2 hs2 => ⟨_, rfl, wpAny_assign_Name ?_⟩
      obtain ⟨F2, N2⟩ := upd_same F1 (News.sw N1) (fun p hp => by
        rcases List.mem_cons.mp hp with rfl | hp
        · exact Nat.ne_of_gt hID
        rcases List.mem_cons.mp hp with rfl | hp
        · exact Nat.ne_of_lt hLI
        · exact (off1 p hp).2.1) hs2 hit2
      have ei : (i : Int) + 1 = ((i + 1 : Nat) : Int) := by push_cast; rfl
      have en : (n : Int) - i - 1 = (n : Int) - ((i + 1 : Nat) : Int) := by push_cast; exact Int.sub_sub _ _ _
      rw [ei, en] at N2
      replace N2 : News h₀ C h2 ((I0, riN (i + 1) n) :: (D, W.listOf ys.toArray nD) :: (L, oL) :: nx) := N2
      clear ei en N1 F1 hit hit2 hs2
      refine store_comp (s := { s with heap := h2, toks := _ }) hx0 hkind F2 N2 ?_
      intro h3 tk3 F3 N3
      refine wpAny_bind (wpAny_mono (hin i C mc _ h3 tk3 _ _ hi F3 N3) (fun xv s4 h4 => ?_) fun _ _ e => e)
      obtain ⟨r4, h4, tk4, t4, u4, v4, mc4, rfl, rfl, hr4, F4, hm4, N4⟩ := h4
      refine wpAny_bind (wpAny_standAt (wpAny_bind (wpAny_of_eq (hs1 _ _) (wpAny_bind (wpAny_holding ?_)))))
      have sm4 := smalls (i + 1) (by exact Nat.lt_of_lt_of_le (by assumption) (by assumption))
      refine wpAny_pyIter_range (s := { s with heap := h4, toks := _ }) hr4 sm4.1 ?_
      rw [sm4.2]
      have F5 := F4.push (riObj 0 ((i + 1 : Nat) : Int) 1)
      have N5 := News.push F4 N4 (riObj 0 ((i + 1 : Nat) : Int) 1) rfl
      have lt5 : ∀ p ∈ (I0, riN (i + 1) n) :: (D, W.listOf ys.toArray nD) :: (L, oL) :: nx, p.1 < h4.objs.size := fun p hp => Heap.lt_size (N4 p hp).1
      generalize hI1 : h4.objs.size = I1 at N5 lt5
      have hD1 : D < I1 := lt5 _ (.tail _ (.head _))
      refine wpAny_bind (wpAny_runOwn (codeAny_mono (R := fun r s' => r = .ok .next ∧ OutAt h₀ C D I0 L oL n J s (i + 1) s') ?_
        (fun r s' hr => by obtain ⟨rfl, hr⟩ := hr; exact wpAny_pure hr)))
      have inner : codeAny (model prog w) A (.compLoop (.ListComp elt [⟨.Name x0 p0, iter, [], 0⟩, ⟨.Name x1 p1, i1, [], 0⟩] scope pos) 1 (.ref I1) (.ref D) (compEnvC scope cl C env)) (fun r s' => r = .ok .next ∧ OutAt h₀ C D I0 L oL n J s (i + 1) s')
          { s with heap := h4.push (riObj 0 ((i + 1 : Nat) : Int) 1), toks := tk4 } := by
        refine loop_G (n := i + 1) (compTurn2b elt (.Name x0 p0) iter (.Name x1 p1) i1 scope pos (.ref I1) (.ref D) (compEnvC scope cl C env))
          (InnAt h₀ C D I0 I1 L oL (riN (i + 1) n) i x0 (.int i tk) J s)
          ?start ?turn ?fin
        case start =>
          refine ⟨_, tk4, mc4, ys, nx, nD, rfl, F5, hm4, ?_, fun p hp => ⟨(off1 p hp).1, (off1 p hp).2.1, (off1 p hp).2.2, Nat.ne_of_lt (lt5 p (.tail _ (.tail _ (.tail _ hp))))⟩, hlen, hJ⟩
          have ez : riN 0 (i + 1) = riObj 0 ((i + 1 : Nat) : Int) 1 := by unfold riN; simp
          rw [ez]
          exact News.sw1 N5
        case turn =>
          rintro j s' hj ⟨h, tk', mc, ys, nx, nD, rfl, F6, hm6, N6, off6, hlen6, hJ6⟩
          have hit6 : IsRangeIter h I1 j (((i + 1 : Nat) : Int) - j) 1 := (N6 _ (.head _)).1
          refine wpAny_pyNext_range_item hit6 (Int.sub_pos_of_lt (Int.ofNat_lt.mpr (by assumption))) fun h7 hit7 hs7 => ⟨_, rfl, wpAny_assign_Name ?_⟩
          obtain ⟨F7, N7⟩ := upd_same F6 N6 (fun p hp => by
            rcases List.mem_cons.mp hp with rfl | hp
            · exact Nat.ne_of_lt hD1
            rcases List.mem_cons.mp hp with rfl | hp
            · exact Nat.ne_of_lt (Nat.lt_trans hID hD1)
            rcases List.mem_cons.mp hp with rfl | hp
            · exact Nat.ne_of_lt (Nat.lt_trans hLI (Nat.lt_trans hID hD1))
            · exact (off6 p hp).2.2.2) hs7 hit7
          have ej : (j : Int) + 1 = ((j + 1 : Nat) : Int) := by push_cast; rfl
          have en2 : ((i + 1 : Nat) : Int) - j - 1 = ((i + 1 : Nat) : Int) - ((j + 1 : Nat) : Int) := by push_cast; exact Int.sub_sub _ _ _
          rw [ej, en2] at N7
          replace N7 : News h₀ C h7 ((I1, riN (j + 1) (i + 1)) :: (D, W.listOf ys.toArray nD) :: (I0, riN (i + 1) n) :: (L, oL) :: nx) := N7
          clear ej en2 N6 F6 hit6 hit7 hs7
          refine store_comp (s := { s with heap := h7, toks := _ }) hx1 hkind F7 N7 ?_
          intro h8 tk8 F8 N8
          rw [pull hm6] at F8
          have sep8 : ∀ p ∈ nx, ∀ q ∈ [(D, W.listOf ys.toArray nD), (I1, riN (j + 1) (i + 1)), (I0, riN (i + 1) n), (L, oL)], p.1 ≠ q.1 := fun p hp =>
            List.forall_mem_cons.mpr ⟨(off6 p hp).1, List.forall_mem_cons.mpr ⟨(off6 p hp).2.2.2, List.forall_mem_cons.mpr ⟨(off6 p hp).2.1, List.forall_mem_cons.mpr ⟨(off6 p hp).2.2.1, fun _ h => nomatch h⟩⟩⟩⟩
          refine wpAny_bind (wpAny_mono (hel i j C mc ys nx _ h8 tk8 _ _ _ hi hj hJ6 sep8 F8 (News.rot N8)) (fun y s9 h9 => ?_) fun _ _ e => e)
          obtain ⟨h9, tk9, mc9, nx9, rfl, F9, hm9, N9, sep9, hJ9⟩ := h9
          have N9' := News.unrot N9
          clear N9 N8 F8 N7 F7
          have off9 : ∀ p ∈ nx9, p.1 ≠ D ∧ p.1 ≠ I0 ∧ p.1 ≠ L ∧ p.1 ≠ I1 := fun p hp => ⟨sep9 p hp _ (.head _), sep9 p hp _ (.tail _ (.tail _ (.head _))), sep9 p hp _ (.tail _ (.tail _ (.tail _ (.head _)))), sep9 p hp _ (.tail _ (.head _))⟩
          refine wpAny_bind (append_at (s := { s with heap := h9, toks := _ }) (N9' _ (.head _)).1 (fun h10 hs10 ho10 => ?_) (hsz := by simp only [List.size_toArray]; rw [sizeLine_eq]; exact sz77 (by assumption) (by assumption) (by assumption) (by assumption)))
          obtain ⟨F10, N10⟩ := upd_same F9 N9' (fun p hp => by
            rcases List.mem_cons.mp hp with rfl | hp
            · exact Nat.ne_of_gt hD1
            rcases List.mem_cons.mp hp with rfl | hp
            · exact Nat.ne_of_lt hID
            rcases List.mem_cons.mp hp with rfl | hp
            · exact Nat.ne_of_lt (Nat.lt_trans hLI hID)
            · exact (off9 p hp).1) hs10 ho10
          rw [List.push_toArray] at N10
          refine wpAny_pure ⟨h10, tk9, mc9, ys ++ [y], nx9, nD + 1, rfl, F10, hm9, News.sw N10, off9, by simp; exact Nat.succ_le_succ (by assumption), hJ9⟩
        case fin =>
          rintro s' ⟨h, tk', mc, ys, nx, nD, rfl, F6, hm6, N6, off6, hlen6, hJ6⟩
          have hit6 : IsRangeIter h I1 ((i + 1 : Nat) : Int) (((i + 1 : Nat) : Int) - ((i + 1 : Nat) : Int)) 1 := (N6 _ (.head _)).1
          refine wpAny_pyNext_range_end hh hit6 (Int.le_of_eq (Int.sub_self _)) fun h7 hs7 => ⟨rfl, rfl, ?_⟩
          obtain ⟨F7, N7⟩ := upd_gone F6 N6 (fun p hp => by
            rcases List.mem_cons.mp hp with rfl | hp
            · exact Nat.ne_of_lt hD1
            rcases List.mem_cons.mp hp with rfl | hp
            · exact Nat.ne_of_lt (Nat.lt_trans hID hD1)
            rcases List.mem_cons.mp hp with rfl | hp
            · exact Nat.ne_of_lt (Nat.lt_trans hLI (Nat.lt_trans hID hD1))
            · exact (off6 p hp).2.2.2) hs7
          exact ⟨h7, tk', mc, ys, nx, nD, rfl, F7, N7, fun p hp => ⟨(off6 p hp).1, (off6 p hp).2.1, (off6 p hp).2.2.1⟩, sz7 (by assumption) (by assumption) (by assumption), hst i ys nx hJ6⟩
      exact compStart_G rfl rfl inner (wpAny_pyIter_rangeiter (s := { s with heap := h4.push (riObj 0 ((i + 1 : Nat) : Int) 1), toks := tk4 }) (x := 0) (left := ((i + 1 : Nat) : Int)) (step := 1) (by rw [← hI1]; exact Heap.get?_push_size _ rfl) inner)
    · rintro s' ⟨h, tk, mc, ys, nx, nD, rfl, F1, N1, off1, hlen, hJ⟩
      have hit : IsRangeIter h I0 n ((n : Int) - n) 1 := (N1 _ (.tail _ (.head _))).1
      refine wpAny_pyNext_range_end hh hit (Int.le_of_eq (Int.sub_self _)) fun h2 hs2 => ⟨rfl, ?_⟩
      obtain ⟨F2, N2⟩ := upd_gone F1 (News.sw N1) (fun p hp => by
        rcases List.mem_cons.mp hp with rfl | hp
        · exact Nat.ne_of_gt hID
        rcases List.mem_cons.mp hp with rfl | hp
        · exact Nat.ne_of_lt hLI
        · exact (off1 p hp).2.1) hs2
      have FL : Fr h₀ L h2 m₁ := ⟨⟨oL, esL, epL, (N2 _ (.tail _ (.head _))).1, hLd, hLk, hLf⟩, F2.keep, F.above⟩
      have NL : News h₀ L h2 ((D, W.listOf ys.toArray nD) :: nx) := by
        intro p hp
        rcases List.mem_cons.mp hp with rfl | hp
        · have z := N2 _ (.head _)
          exact ⟨z.1, Nat.ne_of_gt (Nat.lt_trans hLI hID), z.2.2⟩
        · have z := N2 _ (.tail _ (.tail _ hp))
          exact ⟨z.1, (off1 p hp).2.2, z.2.2⟩
      refine end_store (s := { s with heap := h2, toks := tk }) hL FL NL F2.ns (Heap.get?_none_of_le h0C) (Nat.ne_of_gt (Nat.lt_trans hLI (Nat.lt_trans hID hDC))) (Nat.ne_of_gt hDC) (fun p hp => (N2 p (.tail _ (.tail _ hp))).2.1) hy hpl fun h'' tk'' F5 N5 => ?_
      exact done D nD ys nx h'' tk'' hJ (fun p hp => (off1 p hp).1) F5 N5
  exact codeAny_compStart_list (loop _ ⟨_, rfl⟩) (wpAny_pyIter_rangeiter (x := 0) (left := (n : Int)) (step := 1) (hsb₁.extBut _ _ (Nat.ne_of_lt (Nat.lt_trans hID hDC)) (Heap.get?_push_of_some _ gI2)) (loop _ ⟨_, rfl⟩))
end
end

/- OS -/
theorem offOS : True := by
  w_top off
  exact trivial
section
open PySem PySem.W PyProof.Rows PySem.Spec PySem.Calls PySem.SeqAt PyProof.V
set_option Elab.async false
set_option maxRecDepth 100000
set_option maxHeartbeats 2000000
section
variable {prog : Program} {w : World} {mean : ExcName → Option Value} {mg mb : Str → Option Value} {A : Around} {h₀ : Heap} {L fa : Addr} {m : Str → Option Value} {rest news : List (Addr × Obj)} {s : Shared} {x y : Addr} {c d : Nat}
    {Q : Flow → Shared → Prop} {E : Value → Shared → Prop} {qual : Str} {cdv : Value}
noncomputable def PairIs (n : Nat) (t2 : List (Addr × Obj)) (v : Value) : Prop := ∃ (a : Addr) (i j : Nat) (t u : Tok), i < n ∧ j < n ∧ v = .ref a ∧ (a, ({ cls := .type "tuple", data := .seq #[.int (i : Int) t, .int (j : Int) u] } : Obj)) ∈ t2
theorem PairIs.mono {n : Nat} {t2 t3 : List (Addr × Obj)} {v : Value} (h : PairIs n t2 v) (hs : ∀ p ∈ t2, p ∈ t3) : PairIs n t3 v := by
  obtain ⟨a, i, j, t, u, hi, hj, e, hm⟩ := h
  exact ⟨a, i, j, t, u, hi, hj, e, hs _ hm⟩
theorem law_f {ac : Addr} {nc : Nat} {rs : List SetR} {Y : List (Addr × Obj)} {o1 o2 o3 o4 : Obj} (F : Fr h₀ L s.heap m) (X : Frag.In (Mine.hd.heap_39 w.params) h₀) (N : News h₀ L s.heap (lawLed L o1 o2 o3 o4 Y)) (T : Top topProg loo mean mg mb h₀) (hh : A.handled = none)
    (hd : A.depth + 100 < recursionLimit) (hu : A.units + 900 < cLine) (d2 : o2.data = .cell (some (.ref ac))) (mac : (ac, W.listOf (rs.map fun r => Value.int r.c r.t).toArray nc) ∈ Y) (hrl : rs.length ≤ 7)
    (ret : ∀ h' tk' D n (t2 : List (Addr × Obj)) (ys : List Value), (∀ y ∈ ys, PairIs rs.length t2 y) → Fr h₀ L h' (fun y : Str => if y = ("pairs" : Str) then some (Value.ref D) else m y) →
      News h₀ L h' ((D, W.listOf ys.toArray n) :: (t2 ++ lawLed L o1 o2 o3 o4 Y)) → (∀ p ∈ t2, ∀ q ∈ lawLed L o1 o2 o3 o4 Y, q.1 < p.1) → (∀ p ∈ t2 ++ lawLed L o1 o2 o3 o4 Y, p.1 ≠ D) → Q .next { s with heap := h', toks := tk' }) :
    wpAny (model prog w) (A.deeper (lawEnv L fa cdv)) (exec (lawAt 6) (lawEnv L fa cdv)) Q E s := by
  obtain ⟨hA, dp, fr, gd, un⟩ := A
  dsimp only at hh hd hu
  subst hh
  conv in exec _ => arg 1; whnf
  refine comp2_store (h₀ := h₀) (L := L) (n := rs.length) (m₁ := m) (nw₁ := lawLed L o1 o2 o3 o4 Y) hrl rfl (fun i j ys nx => ∃ t2, nx = t2 ++ lawLed L o1 o2 o3 o4 Y ∧ (∀ p ∈ t2, ∀ q ∈ lawLed L o1 o2 o3 o4 Y, q.1 < p.1) ∧ ∀ y ∈ ys, PairIs rs.length t2 y)
    (by with_unfolding_all rfl) rfl rfl (by decide) rfl (by decide) rfl rfl (by decide) rfl rfl (fun _ => rfl) (fun _ _ => rfl) (fun k hk => range_small k (by exact ltk (by assumption) (by exact rfl))) ?h ⟨[], rfl, (fun _ h => nomatch h), (fun _ h => nomatch h)⟩ ?hin ?hel ?hst ?done
  case h =>
    k_steps
    have hlc : s.heap.IsList ac (rs.map fun r => Value.int r.c r.t).toArray := ⟨_, (N _ (.tail _ (.tail _ (.tail _ (.tail _ mac))))).1, rfl, _, rfl⟩
    refine len_L hlc (by simp; exact lek (by assumption) (by exact rfl)) fun t tk => ?_
    have hsz : (((rs.map fun r => Value.int r.c r.t).toArray.size : Nat) : Int) = (rs.length : Int) := by simp
    rw [hsz]
    k_steps
    rename IsRange _ _ _ _ _ _ _ _ => hR
    rename Fr _ _ _ _ => F1
    rename News _ _ _ _ => N1
    exact ⟨_, _, _, _, _, _, rfl, rfl, hR, F1, N1⟩
  case hin =>
    intro i C mc nl h tk t E' hi F1 N1
    k_steps
    all_goals (try k_data)
    rename IsRange _ _ _ _ _ _ _ _ => hR
    rename Fr _ _ _ _ => F2
    rename News _ _ _ _ => N2
    have e : (i : Int) + 1 = ((i + 1 : Nat) : Int) := by push_cast; rfl
    rw [e] at hR
    exact ⟨_, _, _, _, _, _, _, rfl, rfl, hR, F2, if_pos rfl, N2⟩
  case hel =>
    intro i j C mc ys nx own h tk t t' E' hi hj ⟨t2, hnx, hlt, hys⟩ hsep F1 N1
    subst hnx
    k_steps
    all_goals (try k_data)
    rename_i Dt h2 F2 N2 lD
    refine ⟨h2, _, _, (Dt, ({ cls := .type "tuple", data := .seq #[.int (i : Int) t, .int (j : Int) t'] } : Obj)) :: (t2 ++ lawLed L o1 o2 o3 o4 Y), rfl, F2, (if_neg (by decide)).trans (if_pos rfl), N2, ?_, (Dt, _) :: t2, rfl, ?_, ?_⟩
    · intro p hp q hq
      rcases List.mem_cons.mp hp with rfl | hp
      · exact Nat.ne_of_gt (lD q (List.mem_append_right _ hq))
      · exact hsep p hp q hq
    · intro p hp q hq
      rcases List.mem_cons.mp hp with rfl | hp
      · exact lD q (List.mem_append_left _ (List.mem_append_right _ hq))
      · exact hlt p hp q hq
    · intro y hy
      rcases List.mem_append.mp hy with hy | hy
      · exact (hys y hy).mono fun p hp => .tail _ hp
      · rw [List.mem_singleton.mp hy]
        exact ⟨Dt, i, j, t, t', hi, Nat.lt_of_lt_of_le hj hi, rfl, .head _⟩
  case hst => exact fun i ys nx h => h
  case done =>
    rintro D nD ys nx h' tk ⟨t2, rfl, hlt, hys⟩ hne F1 N1
    exact ret h' tk D nD t2 ys hys F1 N1 hlt hne
end
end

/- OT -/
theorem offOT : True := by
  w_top off
  exact trivial
section
open PySem PySem.W PyProof.Rows PySem.Spec PySem.Calls PySem.SeqAt PyProof.V
set_option Elab.async false
set_option maxRecDepth 100000
set_option maxHeartbeats 2000000
section
variable {prog : Program} {w : World} {A : Around} {E : Value → Shared → Prop} {env : Env} {s : Shared} {h₀ : Heap} {L : Addr} {m : Str → Option Value}
theorem assign_pair {a b : Str} {pa pb tp : Pos} {kk : Nat} {T : Addr} {x y : Value} {no : List (Addr × Obj)} {Q : Unit → Shared → Prop} (hh : A.handled = none) (F : Fr h₀ env.locals s.heap m) (N : News h₀ env.locals s.heap no) (ht : s.heap.IsTuple T #[x, y])
    (ha : env.kindOf a = some .local) (hb : env.kindOf b = some .local) (hp : (env.scope.kind == .class || (env.scope.kind == .module && env.locals != env.globals)) = false)
    (h : ∀ h' tk, Fr h₀ env.locals h' (fun z => if z = b then some y else if z = a then some x else m z) → News h₀ env.locals h' no → Q () { s with heap := h', toks := tk }) :
    wpAny (model prog w) A (assign (.Tuple [.Name a pa, .Name b pb] kk tp) env (.ref T)) Q E s := by
  refine kcp_assign hh ht ha hb hp F.ns fun h' tk hn hk => h h' tk ⟨hn, fun c o e => hk c o (fun q => ?_) (F.keep c o e), F.above⟩ fun p hp => ⟨hk _ _ (N p hp).2.1 (N p hp).1, (N p hp).2⟩
  rw [q, Heap.get?_none_of_le F.above] at e; cases e

inductive ForEnd (h₀ : Heap) (L : Addr) (m : Str → Option Value) (LG : List (Addr × Obj)) (l : Addr) (s : Shared) (xv : Value) (s₁ : Shared) : Prop
  | mk (h1 : Heap) (tk1 : Nat) (q1 : xv = .ref l) (q2 : s₁ = { s with heap := h1, toks := tk1 }) (q3 : Fr h₀ L h1 m) (q4 : News h₀ L h1 LG) : ForEnd h₀ L m LG l s xv s₁
inductive TurnEnd (h₀ : Heap) (L : Addr) (own LG : List (Addr × Obj)) (st : List Str) (m : Str → Option Value) (s : Shared) (f : Flow) (s₁ : Shared) : Prop
  | mk (q0 : f = .next) (h1 : Heap) (tk1 : Nat) (u : Str → Option Value) (q1 : s₁ = { s with heap := h1, toks := tk1 }) (q2 : Fr h₀ L h1 (over st u m)) (q3 : News h₀ L h1 (own ++ LG)) : TurnEnd h₀ L own LG st m s f s₁
inductive ForAt (h₀ : Heap) (L I l : Addr) (vs : List Value) (LG : List (Addr × Obj)) (st : List Str) (m : Str → Option Value) (s : Shared) (k : Nat) (s' : Shared) : Prop
  | mk (i : Nat) (h : Heap) (tk : Nat) (u : Str → Option Value) (q1 : s' = { s with heap := h, toks := tk }) (q2 : i ≤ vs.length) (q3 : k = vs.length + 1 - i) (q4 : h.IsListIter I l i ∧ h.IsList l vs.toArray) (q5 : Fr h₀ L h (over st u m)) (q6 : News h₀ L h LG) : ForAt h₀ L I l vs LG st m s k s'
theorem for_pairs {a b : Str} {pa pb tp pos : Pos} {kk : Nat} {iter : Expr} {body : List Stmt} {l : Addr} {lo : Obj} {vs : List Value} {nn : Nat} {LG : List (Addr × Obj)} {Q : Flow → Shared → Prop} (st : List Str) (hL : env.locals = L) (hh : A.handled = none) (hc : lo.cls = .type "list") (hd : lo.data = .seq vs.toArray nn) (hm : (l, lo) ∈ LG)
    (ha : env.kindOf a = some .local) (hb : env.kindOf b = some .local) (hp : (env.scope.kind == .class || (env.scope.kind == .module && env.locals != env.globals)) = false)
    (hs : ∀ x, foldedSetIterable iter env x = pure x)
    (h : wpAny (model prog w) A (eval iter env) (ForEnd h₀ L m LG l s) E s)
    (hv : ∀ v ∈ vs, ∃ T x y, v = .ref T ∧ (T, ({ cls := .type "tuple", data := .seq #[x, y] } : Obj)) ∈ LG)
    (turn : ∀ (T : Addr) (x y : Value) (u : Str → Option Value) (h : Heap) (tk : Nat) (own : List (Addr × Obj)) (E' : Value → Shared → Prop), .ref T ∈ vs → (T, ({ cls := .type "tuple", data := .seq #[x, y] } : Obj)) ∈ LG → Fr h₀ L h (fun z => if z = b then some y else if z = a then some x else over st u m z) → News h₀ L h (own ++ LG) →
      wpAny (model prog w) A (execs body env) (TurnEnd h₀ L own LG (a :: b :: st) m s) E' { s with heap := h, toks := tk })
    (done : ∀ u h tk, Fr h₀ L h (over (a :: b :: st) u m) → News h₀ L h LG → Q .next { s with heap := h, toks := tk }) :
    wpAny (model prog w) A (exec (.For (.Tuple [.Name a pa, .Name b pb] kk tp) iter body [] pos) env) Q E s := by
  subst hL
  refine wpAny_For (wpAny_mono h (fun xv s₁ h₁ => ?_) fun _ _ e => e) hs
  obtain ⟨h1, tk1, rfl, rfl, F, N⟩ := h₁
  have hls : h1.IsList l vs.toArray := ⟨_, (N _ hm).1, hc, nn, hd⟩
  have hne : l ≠ h1.objs.size := Nat.ne_of_lt (Heap.lt_size (N _ hm).1)
  refine wpAny_pyIter_list (s := { s with heap := h1, toks := tk1 }) hls ?_
  dsimp only
  have W := Walks.list (prog := prog) (w := w) hh h1.objs.size l hne vs.toArray
  have F1 := F.push { cls := .type "list_iterator", data := .fields #[.ref l, .int 0 0] }
  have ltI : ∀ p ∈ LG, p.1 < h1.objs.size := fun p hp => Heap.lt_size (N p hp).1
  have nI := next_is_new F
  have hLI : env.locals ≠ h1.objs.size := Nat.ne_of_lt F.ns.lt
  generalize hH : h1.push _ = H at F1 ⊢
  have hst : H.IsListIter h1.objs.size l 0 ∧ H.IsList l vs.toArray := by
    rw [← hH]
    exact ⟨⟨_, Heap.get?_push_size _ rfl, rfl, rfl⟩, hls.at fun o e => Heap.get?_push_of_some _ e⟩
  have N1 : News h₀ env.locals H LG := fun p hp => ⟨by rw [← hH]; exact Heap.get?_push_of_some _ (N p hp).1, (N p hp).2⟩
  generalize h1.objs.size = I at *
  refine codeAny_forLoop_any (ForAt h₀ env.locals I l vs LG (a :: b :: st) m s) ?_ (vs.length + 1)
    ⟨0, H, tk1, m, rfl, Nat.zero_le _, rfl, hst, by rw [over_self]; exact F1, N1⟩
  rintro k s' ⟨i, h, tk, u, rfl, hi, rfl, hst2, F2, N2⟩
  have hsz : vs.toArray.size = vs.length := by simp
  by_cases hlt : i < vs.length
  · refine W.item i _ _ _ (by assumption) hst2 fun v h3 tk3 hP hst3 hk3 => ?_
    have hP' : vs[i]? = some v := by simpa using hP
    have hvm := List.mem_of_getElem? hP'
    obtain ⟨T, x, y, rfl, hT⟩ := hv v hvm
    refine letGo_listiter hst3.1 ?_
    have up : ∀ c o, c ≠ I → h.get? c = some o → h3.get? c = some o := fun c o hc e => hk3 c o (by simpa using hc) e
    obtain ⟨oL, es, ep, hoL, r⟩ := F2.ns
    have F3 : Fr h₀ env.locals h3 (over (a :: b :: st) u m) := ⟨⟨oL, es, ep, up _ _ hLI hoL, r⟩, fun c o e => up c o (fun q => by rw [q, nI] at e; cases e) (F2.keep c o e), F2.above⟩
    obtain ⟨oI, hoI, hcI, hdI⟩ := hst3.1
    have N3 : News h₀ env.locals h3 ((I, oI) :: LG) := by
      intro p hp
      rcases List.mem_cons.mp hp with rfl | hp
      · exact ⟨hoI, Ne.symm hLI, nI⟩
      · exact ⟨up _ _ (Nat.ne_of_lt (ltI p hp)) (N2 p hp).1, (N2 p hp).2⟩
    refine assign_pair (s := { s with heap := h3, toks := tk3 }) hh F3 N3 ⟨_, (N3 _ (.tail _ hT)).1, rfl, _, rfl⟩ ha hb hp fun h4 tk4 F4 N4 => ?_
    have em : (fun z => if z = b then some y else if z = a then some x else over (a :: b :: st) u m z) = fun z => if z = b then some y else if z = a then some x else over st u m z := by
      funext z
      by_cases hzb : z = b
      · simp [hzb]
      · by_cases hza : z = a
        · simp [hza]
        · simp only [if_neg hzb, if_neg hza, over]
    rw [em] at F4
    refine wpAny_mono (turn T x y u h4 tk4 [(I, oI)] _ hvm hT F4 N4) (fun f s₃ h₃ => ?_) fun _ _ e => e
    obtain ⟨rfl, h5, tk5, u5, rfl, F5, N5⟩ := h₃
    refine ⟨vs.length + 1 - (i + 1), by exact decr (by assumption), i + 1, h5, tk5, u5, rfl, hlt, rfl, ⟨⟨oI, (N5 _ (.head _)).1, hcI, hdI⟩, ⟨_, (N5 _ (.tail _ hm)).1, hc, nn, hd⟩⟩, F5, fun p hp => N5 p (.tail _ hp)⟩
  · have hin : i = vs.length := by exact eqn (by assumption) (by assumption)
    subst hin
    rw [← hsz] at hst2
    refine W.done _ _ _ hst2 fun h3 tk3 hk3 => wpAny_execs_nil ?_
    have up : ∀ c o, c ≠ I → h.get? c = some o → h3.get? c = some o := fun c o hc e => hk3 c o (by simpa using hc) e
    obtain ⟨oL, es, ep, hoL, r⟩ := F2.ns
    have F3 : Fr h₀ env.locals h3 (over (a :: b :: st) u m) := ⟨⟨oL, es, ep, up _ _ hLI hoL, r⟩, fun c o e => up c o (fun q => by rw [q, nI] at e; cases e) (F2.keep c o e), F2.above⟩
    exact done u h3 tk3 F3 fun p hp => ⟨up _ _ (Nat.ne_of_lt (ltI p hp)) (N2 p hp).1, (N2 p hp).2⟩
end
end

/- PA -/
theorem offPA : True := by
  w_top off
  exact trivial
section
open PySem PySem.W PyProof.Rows PySem.Spec PySem.Calls PySem.SeqAt PyProof.V
set_option Elab.async false
set_option maxRecDepth 100000
set_option maxHeartbeats 2000000
theorem rem1_perm {c : Nat} {acc t : List (Value × Nat)} (h : rem1 c acc = some t) : (acc.map (·.2)).Perm (c :: t.map (·.2)) := by
  obtain ⟨pre, q, post, rfl, rfl, _, rfl⟩ := rem1_some h
  simp only [List.map_append, List.map_cons]
  exact List.perm_middle
theorem remAll_perm : ∀ {l acc t : List (Value × Nat)}, remAll l acc = some t → (acc.map (·.2)).Perm (l.map (·.2) ++ t.map (·.2))
  | [], acc, t, h => by cases h; exact List.Perm.refl _
  | p :: r, acc, t, h => by
    rw [remAll] at h
    cases hr : rem1 p.2 acc with
    | none => rw [hr] at h; cases h
    | some t' =>
      rw [hr] at h
      exact (rem1_perm hr).trans ((remAll_perm (l := r) (acc := t') h).cons _)
theorem remAll_of : ∀ {l acc : List (Value × Nat)}, (acc.map (·.2)).Perm (l.map (·.2)) → remAll l acc = some []
  | [], acc, h => by
    have : acc = [] := by simpa using h
    rw [this]; rfl
  | p :: r, acc, h => by
    rw [remAll]
    cases hr : rem1 p.2 acc with
    | none =>
      have hm : p.2 ∈ acc.map (·.2) := h.mem_iff.mpr (.head _)
      obtain ⟨q, hq, e⟩ := List.mem_map.mp hm
      exact absurd e (rem1_none hr q hq)
    | some t' => exact remAll_of (l := r) (acc := t') (((rem1_perm hr).symm.trans h).cons_inv)
theorem dd_same {ps qs : List (Value × Nat)} (h : ∀ x, x ∈ ps.map (·.2) ↔ x ∈ qs.map (·.2)) : ((dd qs).map (·.2)).Perm ((dd ps).map (·.2)) := by
  refine (List.perm_ext_iff_of_nodup (ddGo_nodup qs [] .nil) (ddGo_nodup ps [] .nil)).mpr fun x => ?_
  rw [ddGo_mem, ddGo_mem]
  simpa using (h x).symm
theorem cmpo_eq {ps qs : List (Value × Nat)} {c d : Nat} (hc : ∀ b, c.testBit b = true ↔ ∃ p, p ∈ ps ∧ p.2 = b) (hd : ∀ b, d.testBit b = true ↔ ∃ p, p ∈ qs ∧ p.2 = b) : cmpo ps qs = decide (c = d) := by
  have hc' : ∀ b, c.testBit b = true ↔ b ∈ ps.map (·.2) := fun b => by rw [hc, List.mem_map]
  have hd' : ∀ b, d.testBit b = true ↔ b ∈ qs.map (·.2) := fun b => by rw [hd, List.mem_map]
  by_cases e : c = d
  · subst e
    rw [decide_eq_true rfl]
    unfold cmpo
    rw [remAll_of (dd_same fun x => (hc' x).symm.trans (hd' x))]
    rfl
  · rw [decide_eq_false e]
    unfold cmpo
    cases hr : remAll (dd ps) (dd qs) with
    | none => rfl
    | some t =>
      cases t with
      | cons q t => rfl
      | nil =>
        refine absurd (Nat.eq_of_testBit_eq fun b => ?_) e
        have hp := remAll_perm hr
        rw [List.map_nil, List.append_nil] at hp
        have h1 : ∀ x, x ∈ qs.map (·.2) ↔ x ∈ ps.map (·.2) := fun x => by
          have a := ddGo_mem qs [] x
          have b := ddGo_mem ps [] x
          have c := hp.mem_iff (a := x)
          unfold dd at c
          rw [a, b] at c
          simpa using c
        rw [Bool.eq_iff_iff, hc', hd', h1]
section
variable {prog : Program} {w : World} {A : Around} {E : Value → Shared → Prop} {s : Shared}
theorem ne_same {a b : Addr} {vs : Array Value} {Q : Value → Shared → Prop} (ha : s.heap.IsList a vs) (hb : s.heap.IsList b vs) (hu : A.units < cLine) (h : Q (.bool false) s) : wpAny (model prog w) A (compareOp .NotEq (.ref a) (.ref b)) Q E s := by
  refine RcNeAt.lists (e := fun _ => true) ha hb rfl hu (fun j h1 h2 => EqAt.same _) prog w E Q ?_
  have : (List.range vs.size).all (fun _ => true) = true := by simp
  rw [this]; exact h
end
end

/- OU -/
theorem offOU : True := by
  w_top off
  exact trivial
section
open PySem PySem.W PyProof.Rows PySem.Spec PySem.Calls PySem.SeqAt PyProof.V
set_option Elab.async false
set_option maxRecDepth 100000
set_option maxHeartbeats 2000000
section
variable {prog : Program} {w : World} {mean : ExcName → Option Value} {mg mb : Str → Option Value} {A : Around} {h₀ : Heap} {L fa : Addr} {m : Str → Option Value} {rest news : List (Addr × Obj)} {s : Shared} {x y : Addr} {c d : Nat}
    {Q : Flow → Shared → Prop} {E : Value → Shared → Prop} {qual : Str} {cdv : Value}
theorem sub_at {l : Addr} {f : SetR → Value} {rs : List SetR} {r : SetR} {v : Value} {n i : Nat} {t : Tok} {nl : List (Addr × Obj)} {A : Around} {e1 e2 : PySem.Expr} {Q : Value → Shared → Prop} (N : News h₀ L s.heap nl) (hm : (l, W.listOf (rs.map f).toArray n) ∈ nl) (hrl : rs.length ≤ 7) (hr : rs[i]? = some r) (hv : f r = v) (h : Q v s) (hs : subscripted e2 false (.ref l) (.int (i : Int) t) = operate [.ref l, .int (i : Int) t] (getItem (.ref l) (.int (i : Int) t)) := by rfl) :
    wpAny (model prog w) A (subscriptTail e1 e2 (.ref l) (.int (i : Int) t)) Q E s := by
  have hlt : i < rs.length := (List.getElem?_eq_some_iff.mp hr).1
  refine item_litK (vs := rs.map f) (v := v) ⟨_, (N _ hm).1, rfl, _, rfl⟩ (by exact Int.natCast_nonneg _) (by simp; exact ill (by assumption) (by assumption) (by exact rfl)) ?_ h hs
  rw [Int.toNat_natCast, List.getElem?_map, hr]
  exact congrArg some hv
theorem sub_c {A : Around} {cn : Str} {cs : Scope} {a : Addr} {ccd : Value} {cl : List (Str × Addr)} {m : Str → Option Value} {x z : Str} {p1 p2 p3 : Pos} {l c : Addr} {o : Obj} {f : SetR → Value} {rs : List SetR} {r : SetR} {v : Value} {n i : Nat} {t : Tok} {nl : List (Addr × Obj)} {Q : Value → Shared → Prop}
    (F : Fr h₀ L s.heap m) (N : News h₀ L s.heap nl) (hl : cl.lookup x = some c) (mc : (c, o) ∈ nl) (d : o.data = .cell (some (.ref l))) (hm : (l, W.listOf (rs.map f).toArray n) ∈ nl) (hrl : rs.length ≤ 7) (hz : m z = some (.int (i : Int) t)) (hr : rs[i]? = some r) (hv : f r = v) (h : Q v s)
    (k1 : cs.kind = .function := by rfl) (k2 : (envX cn cs L a ccd cl).kindOf x = some .cell := by rfl) (k3 : (x == ("__debug__" : Str)) = false := by rfl) (k4 : (envX cn cs L a ccd cl).kindOf z = some .local := by rfl) (k5 : (z == ("__debug__" : Str)) = false := by rfl) :
    wpAny (model prog w) A (eval (.Subscript (.Name x p1) (.Name z p2) p3) (envX cn cs L a ccd cl)) Q E s :=
  Subscript_ (nameX_C N hl mc d (nameX_L F hz (sub_at N hm hrl hr hv h) k1 k4 k5) k1 k2 k3)
theorem sub_l {A : Around} {cn : Str} {cs : Scope} {a : Addr} {ccd : Value} {cl : List (Str × Addr)} {m : Str → Option Value} {x z : Str} {p1 p2 p3 : Pos} {l : Addr} {f : SetR → Value} {rs : List SetR} {r : SetR} {v : Value} {n i : Nat} {t : Tok} {nl : List (Addr × Obj)} {Q : Value → Shared → Prop}
    (F : Fr h₀ L s.heap m) (N : News h₀ L s.heap nl) (hx : m x = some (.ref l)) (hm : (l, W.listOf (rs.map f).toArray n) ∈ nl) (hrl : rs.length ≤ 7) (hz : m z = some (.int (i : Int) t)) (hr : rs[i]? = some r) (hv : f r = v) (h : Q v s)
    (k1 : cs.kind = .function := by rfl) (k2 : (envX cn cs L a ccd cl).kindOf x = some .local := by rfl) (k3 : (x == ("__debug__" : Str)) = false := by rfl) (k4 : (envX cn cs L a ccd cl).kindOf z = some .local := by rfl) (k5 : (z == ("__debug__" : Str)) = false := by rfl) :
    wpAny (model prog w) A (eval (.Subscript (.Name x p1) (.Name z p2) p3) (envX cn cs L a ccd cl)) Q E s :=
  Subscript_ (nameX_L F hx (nameX_L F hz (sub_at N hm hrl hr hv h) k1 k4 k5) k1 k2 k3)
theorem two_c {A : Around} {cn : Str} {cs : Scope} {a : Addr} {ccd : Value} {cl : List (Str × Addr)} {m : Str → Option Value} {x z z' : Str} {p1 p2 p3 q1 q2 q3 pos : Pos} {l c : Addr} {o : Obj} {f : SetR → Value} {rs : List SetR} {r r' : SetR} {v v' : Value} {n i i' : Nat} {t t' : Tok} {nl : List (Addr × Obj)} {Q : List Value → Shared → Prop}
    (F : Fr h₀ L s.heap m) (N : News h₀ L s.heap nl) (hl : cl.lookup x = some c) (mc : (c, o) ∈ nl) (d : o.data = .cell (some (.ref l))) (hm : (l, W.listOf (rs.map f).toArray n) ∈ nl) (hrl : rs.length ≤ 7) (hz : m z = some (.int (i : Int) t)) (hr : rs[i]? = some r) (hv : f r = v)
    (hz' : m z' = some (.int (i' : Int) t')) (hr' : rs[i']? = some r') (hv' : f r' = v') (h : Q [v, v'] s)
    (k1 : cs.kind = .function := by rfl) (k2 : (envX cn cs L a ccd cl).kindOf x = some .cell := by rfl) (k3 : (x == ("__debug__" : Str)) = false := by rfl) (k4 : (envX cn cs L a ccd cl).kindOf z = some .local := by rfl) (k5 : (z == ("__debug__" : Str)) = false := by rfl)
    (k6 : (envX cn cs L a ccd cl).kindOf z' = some .local := by rfl) (k7 : (z' == ("__debug__" : Str)) = false := by rfl) :
    wpAny (model prog w) A (spliced (backTo pos (starEach [.Subscript (.Name x p1) (.Name z p2) p3, .Subscript (.Name x q1) (.Name z' q2) q3] (envX cn cs L a ccd cl)))) Q E s :=
  args_cons (sub_c F N hl mc d hm hrl hz hr hv (args_cons (sub_c F N hl mc d hm hrl hz' hr' hv' (args_nil h) k1 k2 k3 k6 k7)) k1 k2 k3 k4 k5)
theorem two_l {A : Around} {cn : Str} {cs : Scope} {a : Addr} {ccd : Value} {cl : List (Str × Addr)} {m : Str → Option Value} {x z z' : Str} {p1 p2 p3 q1 q2 q3 pos : Pos} {l : Addr} {f : SetR → Value} {rs : List SetR} {r r' : SetR} {v v' : Value} {n i i' : Nat} {t t' : Tok} {nl : List (Addr × Obj)} {Q : List Value → Shared → Prop}
    (F : Fr h₀ L s.heap m) (N : News h₀ L s.heap nl) (hx : m x = some (.ref l)) (hm : (l, W.listOf (rs.map f).toArray n) ∈ nl) (hrl : rs.length ≤ 7) (hz : m z = some (.int (i : Int) t)) (hr : rs[i]? = some r) (hv : f r = v)
    (hz' : m z' = some (.int (i' : Int) t')) (hr' : rs[i']? = some r') (hv' : f r' = v') (h : Q [v, v'] s)
    (k1 : cs.kind = .function := by rfl) (k2 : (envX cn cs L a ccd cl).kindOf x = some .local := by rfl) (k3 : (x == ("__debug__" : Str)) = false := by rfl) (k4 : (envX cn cs L a ccd cl).kindOf z = some .local := by rfl) (k5 : (z == ("__debug__" : Str)) = false := by rfl)
    (k6 : (envX cn cs L a ccd cl).kindOf z' = some .local := by rfl) (k7 : (z' == ("__debug__" : Str)) = false := by rfl) :
    wpAny (model prog w) A (spliced (backTo pos (starEach [.Subscript (.Name x p1) (.Name z p2) p3, .Subscript (.Name x q1) (.Name z' q2) q3] (envX cn cs L a ccd cl)))) Q E s :=
  args_cons (sub_l F N hx hm hrl hz hr hv (args_cons (sub_l F N hx hm hrl hz' hr' hv' (args_nil h) k1 k2 k3 k6 k7)) k1 k2 k3 k4 k5)
theorem cmp_c {A : Around} {cn : Str} {cs : Scope} {a : Addr} {ccd : Value} {cl : List (Str × Addr)} {m : Str → Option Value} {x z z' : Str} {p1 p2 p3 q1 q2 q3 pos : Pos} {l c : Addr} {o : Obj} {op : CmpOp} {f : SetR → Value} {rs : List SetR} {r r' : SetR} {v v' : Value} {n i i' : Nat} {t t' : Tok} {nl : List (Addr × Obj)} {Q : Value → Shared → Prop}
    (F : Fr h₀ L s.heap m) (N : News h₀ L s.heap nl) (hl : cl.lookup x = some c) (mc : (c, o) ∈ nl) (d : o.data = .cell (some (.ref l))) (hm : (l, W.listOf (rs.map f).toArray n) ∈ nl) (hrl : rs.length ≤ 7) (hz : m z = some (.int (i : Int) t)) (hr : rs[i]? = some r) (hv : f r = v)
    (hz' : m z' = some (.int (i' : Int) t')) (hr' : rs[i']? = some r') (hv' : f r' = v') (h : wpAny (model prog w) A (compareOp op v v') Q E s)
    (k1 : cs.kind = .function := by rfl) (k2 : (envX cn cs L a ccd cl).kindOf x = some .cell := by rfl) (k3 : (x == ("__debug__" : Str)) = false := by rfl) (k4 : (envX cn cs L a ccd cl).kindOf z = some .local := by rfl) (k5 : (z == ("__debug__" : Str)) = false := by rfl)
    (k6 : (envX cn cs L a ccd cl).kindOf z' = some .local := by rfl) (k7 : (z' == ("__debug__" : Str)) = false := by rfl) (k8 : behindInMarks op (.Subscript (.Name x q1) (.Name z' q2) q3) = false := by rfl) :
    wpAny (model prog w) A (eval (.Compare (.Subscript (.Name x p1) (.Name z p2) p3) [op] [.Subscript (.Name x q1) (.Name z' q2) q3] pos) (envX cn cs L a ccd cl)) Q E s :=
  wpAny_Compare1 (sub_c F N hl mc d hm hrl hz hr hv (sub_c F N hl mc d hm hrl hz' hr' hv' h k1 k2 k3 k6 k7) k1 k2 k3 k4 k5) k8
theorem fr_over {h : Heap} {m' : Str → Option Value} {st : List Str} (F : Fr h₀ L h m') (hz : ∀ z, z ∉ st → m' z = m z) : Fr h₀ L h (over st m' m) := by rw [← over_eq hz]; exact F
theorem law_g {an ac ad Dp : Addr} {na nc nd np : Nat} {rs : List SetR} {ys : List Value} {tl LG : List (Addr × Obj)} {o1 o2 : Obj} (F : Fr h₀ L s.heap m) (X : Frag.In (Mine.hd.heap_39 w.params) h₀) (N : News h₀ L s.heap LG) (T : Top topProg loo mean mg mb h₀) (hh : A.handled = none)
    (hd : A.depth + 100 < recursionLimit) (hu : A.units + 900 < cLine) (hfr : A.frames = some []) (d1 : o1.data = .cell (some (.ref an))) (d2 : o2.data = .cell (some (.ref ac)))
    (mc1 : (L + 1, o1) ∈ LG) (mc2 : (L + 1 + 1, o2) ∈ LG) (man : (an, W.listOf (rs.map fun r => r.v).toArray na) ∈ LG) (mac : (ac, W.listOf (rs.map fun r => Value.int r.c r.t).toArray nc) ∈ LG) (mad : (ad, W.listOf (rs.map fun r => Value.ref r.d).toArray nd) ∈ LG)
    (mdp : (Dp, W.listOf ys.toArray np) ∈ LG) (hys : ∀ y ∈ ys, PairIs rs.length LG y) (good : Good tl rs) (htl : ∀ p ∈ tl, p ∈ LG) (hrl : rs.length ≤ 7) (hm : m ("draws" : Str) = some (.ref ad)) (hm2 : m ("pairs" : Str) = some (.ref Dp))
    (ret : ∀ h' tk' u, Fr h₀ L h' (over [("i" : Str), ("j" : Str), ("told" : Str), ("due" : Str)] u m) → News h₀ L h' LG → Q .next { s with heap := h', toks := tk' }) :
    wpAny (model prog w) (A.deeper (lawEnv L fa cdv)) (exec (lawAt 7) (lawEnv L fa cdv)) Q E s := by
  obtain ⟨hA, dp, fr, gd, un⟩ := A
  dsimp only at hh hd hu hfr
  subst hh
  conv in exec _ => arg 1; whnf
  refine for_pairs (h₀ := h₀) (L := L) (m := m) (l := Dp) (LG := LG) [("told" : Str), ("due" : Str)] rfl rfl rfl rfl mdp rfl rfl rfl (fun _ => rfl) ?it (fun v hv => ?hv) ?turn ?done
  case it =>
    rw [pull hm2] at F
    k_steps
    exact ⟨_, _, rfl, rfl, by rw [pull hm2]; exact F, N⟩
  case hv =>
    obtain ⟨a, i, j, t, u, _, _, e, hm⟩ := hys v hv
    exact ⟨a, _, _, e, hm⟩
  case done => exact fun u h tk F1 N1 => ret h tk u F1 N1
  case turn =>
    rintro T0 x y u h tk own E2 hT hTm F1 N1
    obtain ⟨a, i, j, ti, tj, hi, hj, ea, hpm⟩ := hys _ hT
    cases ea
    have e1 := (N1 _ (List.mem_append_right _ hTm)).1
    rw [(N1 _ (List.mem_append_right _ hpm)).1] at e1
    injection e1 with e1
    injection e1 with _ _ e1 _
    injection e1 with e1 _
    injection e1 with e1
    injection e1 with ex e1
    injection e1 with ey _
    subst ex ey
    have hri : rs[i]? = some rs[i] := List.getElem?_eq_getElem hi
    have hrj : rs[j]? = some rs[j] := List.getElem?_eq_getElem hj
    have nI : NstK eH LG _ _ := (good_nth good hri).mono eH_keep htl
    have nJ : NstK eH LG _ _ := (good_nth good hrj).mono eH_keep htl
    have gI := good _ (List.mem_of_getElem? hri)
    have gJ := good _ (List.mem_of_getElem? hrj)
    generalize rs[i] = ri at *
    generalize rs[j] = rj at *
    obtain ⟨vi, hvi⟩ := nst_ref nI
    obtain ⟨vj, hvj⟩ := nst_ref nJ
    rw [hvi] at nI
    rw [hvj] at nJ
    clear F N
    rw [pull hm] at F1
    iterate 7 walk1
    refine two_c (f := fun r => r.v) (by k_asm) (by k_asm) rfl (List.mem_append_right _ mc1) d1 (List.mem_append_right _ man) hrl (by rfl) hri hvi (by rfl) hrj hvj ?_
    walk1
    refine gt_from_le (by k_asm) X (by k_asm) T rfl (nI.mono eH_keep fun _ hp => List.mem_append_right _ hp) (nJ.mono eH_keep fun _ hp => List.mem_append_right _ hp) (by ((try dsimp only [depth_deeper, depth_in1]); exact rm2 (by assumption) (by exact rfl))) (by ((try dsimp only [units_deeper, units_in1, Around.mark_units]); exact rm2 (by assumption) (by exact rfl))) ?_
    intro h' tk' F' N'
    (try k_sweep)
    iterate 4 walk1
    refine two_c (f := fun r => r.v) (by k_asm) (by k_asm) rfl (List.mem_append_right _ mc1) d1 (List.mem_append_right _ man) hrl (by rfl) hri hvi (by rfl) hrj hvj ?_
    walk1
    refine ge_from_le (by k_asm) X (by k_asm) T rfl (nI.mono eH_keep fun _ hp => List.mem_append_right _ hp) (nJ.mono eH_keep fun _ hp => List.mem_append_right _ hp) (by ((try dsimp only [depth_deeper, depth_in1]); exact rm2 (by assumption) (by exact rfl))) (by ((try dsimp only [units_deeper, units_in1, Around.mark_units]); exact rm2 (by assumption) (by exact rfl))) ?_
    intro h' tk' F' N'
    (try k_sweep)
    iterate 4 walk1
    refine two_c (f := fun r => r.v) (by k_asm) (by k_asm) rfl (List.mem_append_right _ mc1) d1 (List.mem_append_right _ man) hrl (by rfl) hri hvi (by rfl) hrj hvj ?_
    walk1
    refine lt_from_ge (by k_asm) X (by k_asm) T rfl (nI.mono eH_keep fun _ hp => List.mem_append_right _ hp) (nJ.mono eH_keep fun _ hp => List.mem_append_right _ hp) (by ((try dsimp only [depth_deeper, depth_in1]); exact rm2 (by assumption) (by exact rfl))) (by ((try dsimp only [units_deeper, units_in1, Around.mark_units]); exact rm2 (by assumption) (by exact rfl))) ?_
    intro h' tk' F' N'
    (try k_sweep)
    iterate 4 walk1
    refine two_c (f := fun r => r.v) (by k_asm) (by k_asm) rfl (List.mem_append_right _ mc1) d1 (List.mem_append_right _ man) hrl (by rfl) hri hvi (by rfl) hrj hvj ?_
    walk1
    refine le_from_gt (by k_asm) X (by k_asm) T rfl (nI.mono eH_keep fun _ hp => List.mem_append_right _ hp) (nJ.mono eH_keep fun _ hp => List.mem_append_right _ hp) (by ((try dsimp only [depth_deeper, depth_in1]); exact rm2 (by assumption) (by exact rfl))) (by ((try dsimp only [units_deeper, units_in1, Around.mark_units]); exact rm2 (by assumption) (by exact rfl))) ?_
    intro h' tk' F' N'
    (try k_sweep)
    iterate 14 walk1
    refine two_l (f := fun r => .ref r.d) (by k_asm) (by k_asm) (by rfl) (.tail _ (List.mem_append_right _ mad)) hrl (by rfl) hri rfl (by rfl) hrj rfl ?_
    walk1
    rename Fr _ _ _ _ => F2
    rename News _ _ _ _ => N2
    rename_i Dt _ _ _
    obtain ⟨lo, hlo⟩ : ∃ lo, lo = W.listOf #[Value.bool (szB .Gt ri.c rj.c), Value.bool (szB .GtE ri.c rj.c), Value.bool (szB .Lt ri.c rj.c), Value.bool (szB .LtE ri.c rj.c)] 0 := ⟨_, rfl⟩
    refine cmp_orderless (ps := ri.ds) (qs := rj.ds) (ev := lawEnv L fa cdv) F2 X N2 T rfl ?fr ?ev ?evf rfl rfl (fun h H => H.2 _ (.tail _ (List.mem_append_right _ (htl _ gI.2.1)))) (fun p hp => (gI.2.2.2.1 p hp).mono eH_keep fun q hq => .tail _ (List.mem_append_right _ (htl q hq))) (by omega) rfl rfl (fun h H => H.2 _ (.tail _ (List.mem_append_right _ (htl _ gJ.2.1)))) (fun p hp => (gJ.2.2.2.1 p hp).mono eH_keep fun q hq => .tail _ (List.mem_append_right _ (htl q hq))) (by omega) (by ((try dsimp only [depth_deeper, depth_in1]); exact rm2 (by assumption) (by exact rfl))) (by ((try dsimp only [units_deeper, units_in1, Around.mark_units]); exact rm2 (by assumption) (by exact rfl))) ?_
    case fr => subst hfr; rfl
    case ev => exact fun h => by cases h
    case evf => rfl
    intro h3 tk3 F3 N3
    clear F2 N2
    walk1
    walk1
    rename Fr _ _ _ _ => F4
    rename News _ _ _ _ => N4
    obtain ⟨b1, hb1⟩ : ∃ b, b = szB .Gt ri.c rj.c := ⟨_, rfl⟩
    obtain ⟨b2, hb2⟩ : ∃ b, b = szB .GtE ri.c rj.c := ⟨_, rfl⟩
    obtain ⟨b3, hb3⟩ : ∃ b, b = szB .Lt ri.c rj.c := ⟨_, rfl⟩
    obtain ⟨b4, hb4⟩ : ∃ b, b = szB .LtE ri.c rj.c := ⟨_, rfl⟩
    obtain ⟨b5, hb5⟩ : ∃ b, b = cmpo ri.ds rj.ds := ⟨_, rfl⟩
    rw [← hb1, ← hb2, ← hb3, ← hb4, ← hb5] at N4
    obtain ⟨LG2, hLG2⟩ : ∃ LG2, LG2 = (Dt, W.listOf #[Value.bool b1, Value.bool b2, Value.bool b3, Value.bool b4, Value.bool b5] 1) :: (own ++ LG) := ⟨_, rfl⟩
    change News h₀ L _ ((Dt, W.listOf #[Value.bool b1, Value.bool b2, Value.bool b3, Value.bool b4, Value.bool b5] 1) :: (own ++ LG)) at N4
    rw [← hLG2] at N4
    have sub2 : ∀ p ∈ own ++ LG, p ∈ LG2 := fun p hp => by rw [hLG2]; exact .tail _ hp
    have mt2 : (Dt, W.listOf #[Value.bool b1, Value.bool b2, Value.bool b3, Value.bool b4, Value.bool b5] 1) ∈ LG2 := by rw [hLG2]; exact .head _
    have mc2' := sub2 _ (List.mem_append_right _ mc2)
    have mac' := sub2 _ (List.mem_append_right _ mac)
    clear hLG2 hlo hTm
    clear mc1 mc2 man mac mad mdp
    iterate 5 walk1
    refine cmp_c (f := fun r => Value.int r.c r.t) (by k_asm) (by k_asm) rfl mc2' d2 mac' hrl (by rfl) hri rfl (by rfl) hrj rfl ?_
    iterate 2 walk1
    refine cmp_c (f := fun r => Value.int r.c r.t) (by k_asm) (by k_asm) rfl mc2' d2 mac' hrl (by rfl) hri rfl (by rfl) hrj rfl ?_
    iterate 2 walk1
    refine cmp_c (f := fun r => Value.int r.c r.t) (by k_asm) (by k_asm) rfl mc2' d2 mac' hrl (by rfl) hri rfl (by rfl) hrj rfl ?_
    iterate 2 walk1
    refine cmp_c (f := fun r => Value.int r.c r.t) (by k_asm) (by k_asm) rfl mc2' d2 mac' hrl (by rfl) hri rfl (by rfl) hrj rfl ?_
    iterate 2 walk1
    refine cmp_c (f := fun r => Value.int r.c r.t) (by k_asm) (by k_asm) rfl mc2' d2 mac' hrl (by rfl) hri rfl (by rfl) hrj rfl ?_
    iterate 2 walk1
    k_steps
    rename News _ _ _ _ => N5
    rename_i Dd _ lDd _ F5
    have c1 : decide ((rj.c : Int) < (ri.c : Int)) = b1 := by rw [hb1]; exact decide_eq_decide.mpr (by exact casl)
    have c2 : decide ((rj.c : Int) ≤ (ri.c : Int)) = b2 := by rw [hb2]; exact decide_eq_decide.mpr (by exact leg)
    have c3 : decide ((ri.c : Int) < (rj.c : Int)) = b3 := by rw [hb3]; exact decide_eq_decide.mpr (by exact casl)
    have c4 : decide ((ri.c : Int) ≤ (rj.c : Int)) = b4 := by rw [hb4]; exact decide_eq_decide.mpr (by exact leg)
    have c5 : ((ri.c : Int) == (rj.c : Int)) = b5 := by
      rw [hb5, cmpo_eq gI.2.2.2.2 gJ.2.2.2.2, Bool.eq_iff_iff, beq_iff_eq, decide_eq_true_iff]; exact Int.ofNat_inj
    rw [c1, c2, c3, c4, c5] at N5
    clear c1 c2 c3 c4 c5
    refine ne_same ⟨_, (N5 _ (.tail _ mt2)).1, rfl, _, rfl⟩ ⟨_, (N5 _ (.head _)).1, rfl, _, rfl⟩ (by ((try dsimp only [units_deeper, units_in1, Around.mark_units]); exact rm1 (by assumption) (by exact rfl))) ?_
    k_steps
    generalize hLG3 : (Dd, W.listOf #[Value.bool b1, Value.bool b2, Value.bool b3, Value.bool b4, Value.bool b5] 0) :: LG2 = LG3 at N5
    have mt3 : (Dt, W.listOf #[Value.bool b1, Value.bool b2, Value.bool b3, Value.bool b4, Value.bool b5] 1) ∈ LG3 := by rw [← hLG3]; exact .tail _ mt2
    have sub3 : ∀ p ∈ own ++ LG, p ∈ LG3 := fun p hp => by rw [← hLG3]; exact .tail _ (sub2 p hp)
    rename Fr _ _ _ _ => F5
    clear mt2 mc2' mac' lDd hLG3
    refine comp_list (lo := W.listOf #[Value.bool b1, Value.bool b2, Value.bool b3, Value.bool b4, Value.bool b5] 1) (vs := [Value.bool b1, Value.bool b2, Value.bool b3, Value.bool b4, Value.bool b5]) (nn := 1) (fun i zs nx => nx = LG3 ∧ zs = List.replicate i (Value.bool true)) rfl rfl rfl (fun i zs nx hj h H => by obtain ⟨rfl, _⟩ := hj; exact H.2 _ mt3) (by simp only [List.length_cons, List.length_nil]; decide) F5 N5 ⟨rfl, rfl⟩ ?cturn ?cdone
    case cturn =>
      rintro k v C mc zs nx h6 tk6 own6 E6 hv ⟨hnx, hzs⟩ hyl hoff F6 N6
      subst nx
      obtain ⟨bv, hbv⟩ : ∃ bv, v = .bool bv := by
        have := List.mem_of_getElem? hv
        simp only [List.mem_cons, List.not_mem_nil, or_false] at this
        rcases this with h | h | h | h | h <;> exact ⟨_, h⟩
      subst hbv
      refine comp_turn0 ?_
      clear F5 N5
      k_steps
      all_goals (try k_data)
      rename Fr _ _ _ _ => F7
      refine ⟨_, _, _, LG3, rfl, F7, N6, hoff, rfl, ?_⟩
      rw [hzs, List.replicate_succ']
    case cdone =>
      rintro D nD zs nx h6 tk6 ⟨hnx, hzs⟩ hyl F6 N6 ltD neD
      subst nx
      clear F5 N5
      k_steps
      all_goals (try k_data)
      rename Fr _ _ _ _ => F7
      rename News _ _ _ _ => N7
      refine KMa.mul (vs := [Value.bool true]) (ws := List.replicate 5 (Value.bool true)) F7 N7 ⟨_, (N7 _ (.head _)).1, rfl, _, rfl⟩ (by decide) (by decide) (by decide) rfl ?_
      intro D8 h8 F8 N8 lt8
      clear F7 N7
      subst hzs
      refine ne_same ⟨_, (N8 _ (.tail _ (.tail _ (.head _)))).1, rfl, _, rfl⟩ ⟨_, (N8 _ (.head _)).1, rfl, _, rfl⟩ (by ((try dsimp only [units_deeper, units_in1, Around.mark_units]); exact rm1 (by assumption) (by exact rfl))) ?_
      k_steps
      all_goals (try k_data)
      refine ⟨rfl, h8, _, _, rfl, fr_over F8 ?_, fun p hp => N8 p (.tail _ (.tail _ (.tail _ (sub3 p hp))))⟩
      intro z hz
      simp only [List.mem_cons, List.not_mem_nil, or_false, not_or] at hz
      simp only [if_neg hz.1, if_neg hz.2.1, if_neg hz.2.2.1, if_neg hz.2.2.2, over]
      exact congrFun (pull hm).symm z
end
end

/- OV -/
theorem offOV : True := by
  w_top off
  exact trivial
section
open PySem PySem.W PyProof.Rows PySem.Spec PySem.Calls PySem.SeqAt PyProof.V
set_option Elab.async false
set_option maxRecDepth 100000
set_option maxHeartbeats 2000000
theorem ord_div {rs : List SetR} (h : rs.length ≤ 7) : (ordNums rs).map (· / 64) = rs.map (·.c) := by
  unfold ordNums
  refine List.ext_getElem? fun i => ?_
  rw [List.getElem?_map, List.getElem?_map, List.getElem?_map, List.getElem?_zipIdx]
  cases hr : rs[i]? with
  | none => rfl
  | some r =>
    have := (List.getElem?_eq_some_iff.mp hr).1
    simp only [Option.map_some, Nat.zero_add, Option.some.injEq]
    exact div64 (lts this (by assumption) rfl)
theorem orders_agree {rs : List SetR} {qs ps : List (Value × Nat)} {ys : List Value} (h7 : rs.length ≤ 7) (hl : ys.length = rs.length) (p1 : ps.Perm (psOf rs)) (s1 : ps.Pairwise (fun p q => p.2 ≤ q.2)) (p2 : qs.Perm (ys.zip (ordNums rs))) (s2 : qs.Pairwise (fun p q => p.2 ≤ q.2)) :
    ps.map (·.2) = qs.map (fun q => q.2 / 64) := by
  have hlo : (ordNums rs).length = rs.length := by unfold ordNums; simp
  have e1 : ((psOf rs).map (·.2)) = rs.map (·.c) := by unfold psOf; rw [List.map_map]; rfl
  have e2 : ((ys.zip (ordNums rs)).map (fun q => q.2 / 64)) = rs.map (·.c) := by
    rw [← ord_div h7, ← List.map_snd_zip (l₁ := ys) (l₂ := ordNums rs) (Nat.le_of_eq (hlo.trans hl.symm)), List.map_map, List.map_snd_zip (Nat.le_of_eq (hlo.trans hl.symm))]
    rfl
  have hp : (ps.map (·.2)).Perm (qs.map (fun q => q.2 / 64)) := ((p1.map _).trans (List.Perm.of_eq e1)).trans ((p2.map _).trans (List.Perm.of_eq e2)).symm
  refine List.Perm.eq_of_pairwise (le := fun a b : Nat => a ≤ b) (fun a b _ _ h1 h2 => Nat.le_antisymm h1 h2) ?_ ?_ hp
  · exact List.pairwise_map.mpr s1
  · exact List.pairwise_map.mpr (s2.imp fun h => Nat.div_le_div_right h)
section
variable {prog : Program} {w : World} {mean : ExcName → Option Value} {mg mb : Str → Option Value} {A : Around} {h₀ : Heap} {L : Addr} {m : Str → Option Value} {s : Shared} {c c' : Nat} {Q E : Value → Shared → Prop} {K : Addr}
theorem less_rich {own : List (Addr × Obj)} {k k' v v' : Value} (F : Fr h₀ L s.heap m) (X : Frag.In (Mine.hd.heap_39 w.params) h₀) (N : News h₀ L s.heap own) (T : Top topProg loo mean mg mb h₀) (hh : A.handled = none)
    (hd : A.depth + 30 < recursionLimit) (hu : A.units + 300 < cLine) (B : KOk own K) (hk : KeyOf K own k v) (hk' : KeyOf K own k' v') (nv : NstK h₀ own v c) (nv' : NstK h₀ own v' c')
    (ret : ∀ h' tk', Fr h₀ L h' m → News h₀ L h' own → Q (.bool (decide (c < c'))) { s with heap := h', toks := tk' }) : wpAny (model prog w) A (compareOp .Lt k k') Q E s := by
  obtain ⟨x, dx, rfl, mx, mdx⟩ := hk
  obtain ⟨y, dy, rfl, my, mdy⟩ := hk'
  have nv0 := nv
  have nv0' := nv'
  cases nv with
  | mk _ _ _ _ _ _ =>
  cases nv' with
  | mk _ _ _ _ _ _ =>
  obtain ⟨fI, fL, md, cI, oI, qI, dI, pI, ctI, cL, oL, qL, dL, pL, ctL, cell, oC, ks, hfI, hcI, hnI, hfL, hcL, hnL, hce, hoC, hown⟩ := B.fs (newsHere N)
  refine cmp_ofLt ?_
  unfold richCompare
  simp only [oneThing_ref]
  refine wpAny_holding (wpAny_bind (wpAny_cRoomFor (by exact rm0 (by assumption)) ?_))
  refine wpAny_bind (wpAny_typeOf_ref (N _ mx).1 (wpAny_bind (wpAny_typeOf_ref (N _ my).1 ?_)))
  split
  · rename_i q
    exact absurd q (by show ¬ ((Value.ref K != Value.ref K) = true); simp)
  refine wpAny_bind (wpAny_pure ?_)
  simp only [Bool.false_eq_true, if_false]
  refine wpAny_bind ?_
  unfold tryCompare
  obtain ⟨hp, g, dr, t, os⟩ := s
  refine wpAny_bind (wpAny_callSpecialIfBound?_own (hown hp x _ (newsHere N) (N _ mx).1 rfl) ?_)
  refine less_KV F X N T hh hd hu ks hfL hcL hnL hce hoC mx mdx my mdy nv0 nv0' ?_
  intro h' tk' F' N'
  exact wpAny_pure (wpAny_pure (ret h' tk' F' N'))
theorem keep_of_makes {Kf : Frag} {C : Addr} (h : makesIn Kf C = true) : keepIn Kf (.ref C) = true := by
  unfold makesIn at h
  unfold keepIn
  dsimp only
  split at h
  · rename_i e
    rw [e]
    simp only [Bool.and_eq_true] at h
    exact h.1.2
  · cases h
theorem callWith_key {own : List (Addr × Obj)} {env : Env} {pos : Pos} {e : PySem.Expr} {rest : List PySem.Expr} (B : KOk own K)
    (h : wpAny (model prog w) A (spliced (backTo pos (starEach (e :: rest) env))) (fun vs s₁ => (∀ p ∈ own, s₁.heap.get? p.1 = some p.2) ∧ wpAny (model prog w) A (call (.ref K) vs) Q E s₁) E s)
    (he : starEach (e :: rest) env = (false, eval e env) :: starEach rest env := by rfl) (hplain : (backTo pos (starEach rest env)).any (·.1) = false := by rfl) :
    wpAny (model prog w) A (callWith pos (.ref K) [] (backTo pos (starEach (e :: rest) env)) []) Q E s := by
  rw [he] at h ⊢
  refine callWith_of (P := fun h => ∀ p ∈ own, h.get? p.1 = some p.2) (by show ((false || (backTo pos (starEach rest env)).any (·.1)) || false) = false; rw [hplain]; rfl) (fun h hp => ?_) (evalArgs_plain h)
  obtain ⟨fI, fL, md, cI, oI, qI, dI, pI, ctI, cL, oL, qL, dL, pL, ctL, cell, oC, ks, -⟩ := B.fs hp
  exact keeps_K (keep_of_makes ks.makes) h (frag_in hp)
end
end

/- OW -/
theorem offOW : True := by
  w_top off
  exact trivial
section
open PySem PySem.W PyProof.Rows PySem.Spec PySem.Calls PySem.SeqAt PyProof.V
set_option Elab.async false
set_option maxRecDepth 100000
set_option maxHeartbeats 2000000
section
variable {prog : Program} {w : World} {mean : ExcName → Option Value} {mg mb : Str → Option Value} {A : Around} {h₀ : Heap} {L fa : Addr} {m : Str → Option Value} {rest news : List (Addr × Obj)} {s : Shared} {x y : Addr} {c d : Nat}
    {Q : Flow → Shared → Prop} {E : Value → Shared → Prop} {qual : Str} {cdv : Value}
theorem law_j {an Do K : Addr} {na no : Nat} {rs : List SetR} {qs : List (Value × Nat)} {ys : List Value} {tl t2 kl LG : List (Addr × Obj)} {o1 : Obj} (F : Fr h₀ L s.heap m) (X : Frag.In (Mine.hd.heap_39 w.params) h₀) (N : News h₀ L s.heap LG) (T : Top topProg loo mean mg mb h₀) (hh : A.handled = none)
    (hd : A.depth + 100 < recursionLimit) (hu : A.units + 900 < cLine) (d1 : o1.data = .cell (some (.ref an)))
    (mc1 : (L + 1, o1) ∈ LG) (man : (an, W.listOf (rs.map fun r => r.v).toArray na) ∈ LG) (mdo : (Do, W.listOf (qs.map (·.1)).toArray no) ∈ LG)
    (hys : ys.length = rs.length) (perm : qs.Perm (ys.zip (ordNums rs))) (pw : qs.Pairwise (fun p q => p.2 ≤ q.2)) (tup : ∀ p ∈ qs, ∀ h, Has eH t2 h → TupIs h p.1 p.2) (ht2 : ∀ p ∈ t2, p ∈ LG)
    (good : Good tl rs) (htl : ∀ p ∈ tl, p ∈ LG) (hrl : rs.length ≤ 7) (hr2 : 2 ≤ rs.length) (kok : KOk kl K) (hkl : ∀ p ∈ kl, p ∈ LG) (hm : m ("order" : Str) = some (.ref Do)) (hm2 : m ("key" : Str) = some (.ref K))
    (ret : ∀ h' tk', Fr h₀ L h' m → News h₀ L h' LG → Q .next { s with heap := h', toks := tk' }) :
    wpAny (model prog w) (A.deeper (lawEnv L fa cdv)) (exec (lawAt 10) (lawEnv L fa cdv)) Q E s := by
  obtain ⟨hA, dp, fr, gd, un⟩ := A
  dsimp only at hh hd hu
  subst hh
  rw [pull hm, pull hm2] at F
  conv in exec _ => arg 1; whnf
  k_steps
  change wpAny _ _ (call (.builtin "sorted") [.ref an] [(Str.ofString "key", .ref K)]) _ _ _
  refine sorted_key (ps := psOf rs) F X N T rfl ?room ?units (kok.mono hkl) (by rw [psOf_fst]; exact ⟨_, (N _ man).1, rfl, _, rfl⟩) ?hps (by unfold psOf; rw [List.length_map]; assumption) (by unfold psOf; rw [List.length_map]; exact ltk (by assumption) (by exact rfl)) ?_
  case room => ((try dsimp only [depth_deeper, depth_in1]); exact rm2 (by assumption) (by exact rfl))
  case units => ((try dsimp only [units_deeper, units_in1, Around.mark_units]); exact rm2 (by assumption) (by exact rfl))
  case hps =>
    intro p hp
    obtain ⟨r, hr, rfl⟩ := List.mem_map.mp hp
    exact (good r hr).1.mono eH_keep htl
  intro D1 h1 tk1 out c1 F1 N1 lt1 ⟨ps, pp, ho, ps1⟩
  clear F N
  obtain ⟨LG1, hLG1⟩ : ∃ LG1, LG1 = (D1, seqObj "list" out c1) :: LG := ⟨_, rfl⟩
  rw [← hLG1] at N1
  have sub1 : ∀ p ∈ LG, p ∈ LG1 := fun p hp => by rw [hLG1]; exact .tail _ hp
  have md1 : (D1, seqObj "list" out c1) ∈ LG1 := by rw [hLG1]; exact .head _
  have mdo1 := sub1 _ mdo
  clear hLG1
  k_steps
  all_goals (try k_data)
  have nthq : ∀ (p : Value × Nat), p ∈ qs → ∀ h, Has eH t2 h → ∃ (a : Addr) (r : SetR) (i : Nat) (x : Value) (t : Tok), p.1 = .ref a ∧ h.IsTuple a #[x, .int (i : Int) t] ∧ rs[i]? = some r ∧ p.2 / 64 = r.c := by
    intro p hp h H
    obtain ⟨a, o, c, i, t, u, k, e1, e2, e3, e4, e5, e6⟩ := tup p hp h H
    obtain ⟨j, hj⟩ := List.mem_iff_getElem?.mp (perm.mem_iff.mp hp)
    obtain ⟨y, n⟩ := p
    rw [List.getElem?_zip_eq_some] at hj
    obtain ⟨r, hr, hn⟩ := ordNums_get hj.2
    have hjl : j < rs.length := (List.getElem?_eq_some_iff.mp hr).1
    dsimp only at e1 e6 ⊢
    have eij : i = j := eq64 (by assumption) (lts hjl (by assumption) rfl) (e6.symm.trans hn)
    subst eij
    exact ⟨a, r, i, _, u, e1, ⟨o, e2, e3, k, e4⟩, hr, (congrArg (· / 64) hn).trans (div64 (by assumption))⟩
  refine comp_value (h₀ := h₀) (L := L) rfl (by decide) rfl (by decide) ?_
  k_steps
  refine list_H (lo := W.listOf (qs.map (·.1)).toArray no) (vs := qs.map (·.1)) (nn := no) (fun i zs nx => nx = LG1 ∧ zs.length = i ∧ ∀ (j : Nat) (z : Value) (p : Value × Nat), zs[j]? = some z → qs[j]? = some p → NstK eH tl z (p.2 / 64)) rfl rfl rfl
    (fun i zs nx hj h H => by obtain ⟨rfl, _⟩ := hj; exact H.2 _ mdo1) (by rw [List.length_map, perm.length_eq, List.length_zip]; exact Nat.le_trans (Nat.min_le_left _ _) (eqk (by assumption) (by assumption) (by exact rfl))) F1 N1 ⟨rfl, rfl, fun _ _ _ h => by cases h⟩ ?turn ?done
  case turn =>
    rintro i v C mc zs nx h3 tk3 own E2 hv ⟨hnx, hlen, hzs⟩ hyl hoff F3 N3
    subst nx
    rw [List.getElem?_map] at hv
    obtain ⟨p, hp, rfl⟩ := Option.map_eq_some_iff.mp hv
    obtain ⟨a, r, k, x, t, e1, e2, e3, e4⟩ := nthq p (List.mem_of_getElem? hp) h3 ⟨eH_keep, fun q hq => (N3 q (List.mem_append_left _ (sub1 _ (ht2 q hq)))).1⟩
    rw [e1]
    refine assign_pair (s := { s with heap := h3, toks := tk3 }) rfl F3 N3 e2 rfl rfl rfl fun h4 tk4 F4 N4 => ?_
    refine comp_turn0 ?_
    clear F1 N1 F3 N3
    have mc1' : (L + 1, o1) ∈ LG1 ++ own := List.mem_append_left _ (sub1 _ mc1)
    have man' := List.mem_append_left own (sub1 _ man)
    clear mc1 man mdo md1 mdo1
    k_steps
    all_goals (try k_data)
    replace N4 : News h₀ C h4 (LG1 ++ own) := N4
    refine sub_at N4 man' hrl e3 rfl ?_
    refine ⟨_, _, _, LG1, rfl, F4, N4, hoff, rfl, by simp [hlen], ?_⟩
    intro j z p' hz hp'
    rcases Nat.lt_trichotomy j i with hj | hj | hj
    · rw [List.getElem?_append_left (by exact eqlt (by assumption) (by assumption))] at hz
      exact hzs j z p' hz hp'
    · subst hj
      rw [List.getElem?_append_right (by assumption), hlen, Nat.sub_self] at hz
      cases hz
      rw [hp] at hp'; cases hp'
      rw [e4]
      exact good_nth good e3
    · rw [List.getElem?_eq_none (by simp; exact len1 (by assumption) (by assumption))] at hz; cases hz
  case done =>
    rintro D C nD mC zs nx h3 tk3 ⟨hnx, hlen, hzs⟩ hyl F3 N3 ltD neD hC h0C hCL hCD offC
    subst nx
    refine end_none F3 N3 hC h0C hCL hCD offC fun h4 F4 N4 => ?_
    clear F1 N1 F3 N3
    k_steps
    rw [List.length_map] at hlen
    have hqp : qs.length = ps.length := by rw [perm.length_eq, pp.length_eq, List.length_zip, hys]; unfold ordNums psOf; simp
    have hag := orders_agree hrl hys pp ps1 perm pw
    refine ne_nests (vs := out.toList) (us := zs) (cs := ps.map (·.2)) (t1 := tl) (t2 := tl) ⟨_, (N4 _ (.tail _ md1)).1, rfl, _, by rw [Array.toArray_toList]⟩ ⟨_, (N4 _ (.head _)).1, rfl, _, rfl⟩ (by rw [ho]; simp) (by simp [hlen, hqp]) ?n1 ?n2
      (Has.sub (has_of F4 N4 fun _ h => h) fun p hp => .tail _ (sub1 _ (htl p hp))) (Has.sub (has_of F4 N4 fun _ h => h) fun p hp => .tail _ (sub1 _ (htl p hp))) (by ((try dsimp only [units_deeper, units_in1, Around.mark_units]); exact rm2 (by assumption) (by exact rfl))) ?_
    case n1 =>
      intro i v c hv hc
      rw [ho, List.getElem?_map] at hv
      rw [List.getElem?_map] at hc
      obtain ⟨p, hp, rfl⟩ := Option.map_eq_some_iff.mp hv
      rw [hp] at hc; cases hc
      obtain ⟨r, hr, rfl⟩ := List.mem_map.mp (pp.mem_iff.mp (List.mem_of_getElem? hp))
      exact (good r hr).1
    case n2 =>
      intro i v c hv hc
      rw [hag, List.getElem?_map] at hc
      obtain ⟨p, hp, rfl⟩ := Option.map_eq_some_iff.mp hc
      exact hzs i v p hv hp
    obtain ⟨LG2, hLG2⟩ : ∃ LG2, LG2 = (D, W.listOf zs.toArray nD) :: LG1 := ⟨_, rfl⟩
    rw [← hLG2] at N4
    have sub2 : ∀ p ∈ LG, p ∈ LG2 := fun p hp => by rw [hLG2]; exact .tail _ (sub1 p hp)
    have mc1' := sub2 _ mc1
    have man' := sub2 _ man
    clear hLG2 mc1 man mdo md1 mdo1 ltD neD offC hzs hag
    k_steps
    have kok2 : KOk LG2 K := kok.mono fun p hp => sub2 p (hkl p hp)
    have hr0 : rs[0]? = some rs[0] := List.getElem?_eq_getElem (by exact Nat.le_of_lt (by assumption))
    have n0 : NstK eH LG2 _ _ := (good_nth good hr0).mono eH_keep fun p hp => sub2 p (htl p hp)
    generalize rs[0] = r0 at hr0 n0
    obtain ⟨v0, hv0⟩ := nst_ref n0
    rw [hv0] at n0
    refine callWith_key kok2 ?_
    k_steps
    refine sub_at (i := 0) (s := { s with heap := h4, toks := _ }) N4 man' hrl hr0 hv0 ?_
    k_steps
    · rename_i p hp
      exact (N4 p hp).1
    refine make_KV F4 X N4 T rfl (by ((try dsimp only [depth_deeper, depth_in1]); exact rm2 (by assumption) (by exact rfl))) (by ((try dsimp only [units_deeper, units_in1, Around.mark_units]); exact rm2 (by assumption) (by exact rfl))) kok2 ?_
    intro x1 dx1 h5 tk5 F5 N5 lt5 lt5'
    obtain ⟨LG3, hLG3⟩ : ∃ LG3, LG3 = (x1, instK K dx1 (.ref v0)) :: (dx1, emptyDict) :: LG2 := ⟨_, rfl⟩
    rw [← hLG3] at N5
    have sub3 : ∀ p ∈ LG2, p ∈ LG3 := fun p hp => by rw [hLG3]; exact .tail _ (.tail _ hp)
    have k1 : KeyOf K LG3 (.ref x1) (.ref v0) := ⟨x1, dx1, rfl, by rw [hLG3]; exact .head _, by rw [hLG3]; exact .tail _ (.head _)⟩
    have mc3 := sub3 _ mc1'
    have man3 := sub3 _ man'
    clear hLG3 lt5 lt5' mc1' man' F4 N4
    first | walk1 | (dsimp only; walk1)
    first | walk1 | (dsimp only; walk1)
    have kok3 := kok2.mono sub3
    have n1 : NstK eH LG3 _ _ := n0.mono eH_keep sub3
    refine callWith_key kok3 ?_
    k_steps
    refine sub_at (i := 0) (s := { s with heap := h5, toks := _ }) N5 man3 hrl hr0 hv0 ?_
    k_steps
    · rename_i p hp
      exact (N5 p hp).1
    refine make_KV F5 X N5 T rfl (by ((try dsimp only [depth_deeper, depth_in1]); exact rm2 (by assumption) (by exact rfl))) (by ((try dsimp only [units_deeper, units_in1, Around.mark_units]); exact rm2 (by assumption) (by exact rfl))) kok3 ?_
    intro x2 dx2 h6 tk6 F6 N6 lt6 lt6'
    clear F5 N5
    have sub6 : ∀ p ∈ LG3, p ∈ (x2, instK K dx2 (.ref v0)) :: (dx2, emptyDict) :: LG3 := fun p hp => .tail _ (.tail _ hp)
    k_steps
    refine less_rich F6 X N6 T rfl (by ((try dsimp only [depth_deeper, depth_in1]); exact rm2 (by assumption) (by exact rfl))) (by ((try dsimp only [units_deeper, units_in1, Around.mark_units]); exact rm2 (by assumption) (by exact rfl))) (kok3.mono sub6) (k1.mono sub6) ⟨x2, dx2, rfl, .head _, .tail _ (.head _)⟩ (n1.mono eH_keep sub6) (n1.mono eH_keep sub6) ?_
    intro h7 tk7 F7 N7
    clear F6 N6
    rw [decide_eq_false (Nat.lt_irrefl _)]
    k_steps
    refine ret h7 tk7 ?_ fun p hp => N7 p (sub6 _ (sub3 _ (sub2 p hp)))
    rw [pull hm, pull hm2]
    exact F7
end
end

/- OQ -/
theorem offOQ : True := by
  w_top off
  exact trivial
section
open PySem PySem.W PyProof.Rows PySem.Spec PySem.Calls PySem.SeqAt PyProof.V
set_option Elab.async false
set_option maxRecDepth 100000
set_option maxHeartbeats 2000000
section
variable {prog : Program} {w : World} {mean : ExcName → Option Value} {mg mb : Str → Option Value} {A : Around} {h₀ : Heap} {L fa : Addr} {m : Str → Option Value} {rest news : List (Addr × Obj)} {s : Shared} {x y : Addr} {c d : Nat}
    {Q : Flow → Shared → Prop} {E : Value → Shared → Prop} {qual : Str} {cdv : Value}
theorem dd_next {rs : List SetR} {i : Nat} {r : SetR} (hri : rs[i]? = some r) : dd (psOf (rs.take (i + 1))) = if ((rs.map fun r => (r.c : Int)).take i).any (fun x => x == (r.c : Int)) = true then dd (psOf (rs.take i)) else dd (psOf (rs.take i)) ++ [(r.v, r.c)] := by
  have e : psOf (rs.take (i + 1)) = psOf (rs.take i) ++ [(r.v, r.c)] := by unfold psOf; rw [List.take_add_one, hri, List.map_append]; rfl
  have hb : (ddGo [] (psOf (rs.take i))).any (fun q => decide (q.2 = r.c)) = ((rs.map fun r => (r.c : Int)).take i).any (fun x => x == (r.c : Int)) := by
    rw [Bool.eq_iff_iff, List.any_eq_true, List.any_eq_true, ← List.map_take]
    have hm := ddGo_mem (psOf (rs.take i)) [] r.c
    constructor
    · rintro ⟨q, hq, e1⟩
      have := hm.mp (List.mem_map.mpr ⟨q, hq, by simpa using e1⟩)
      rcases this with h | h
      · cases h
      · obtain ⟨q', hq', e2⟩ := List.mem_map.mp h
        obtain ⟨r', hr', rfl⟩ := List.mem_map.mp hq'
        exact ⟨_, List.mem_map.mpr ⟨r', hr', rfl⟩, beq_iff_eq.mpr (congrArg Int.ofNat (by assumption))⟩
    · rintro ⟨x, hx, e1⟩
      obtain ⟨r', hr', rfl⟩ := List.mem_map.mp hx
      have e2 : r'.c = r.c := by exact Int.ofNat.inj (beq_iff_eq.mp e1)
      have := hm.mpr (.inr (List.mem_map.mpr ⟨(r'.v, r'.c), List.mem_map.mpr ⟨r', hr', rfl⟩, e2⟩))
      obtain ⟨q, hq, e3⟩ := List.mem_map.mp this
      exact ⟨q, hq, by simpa using e3⟩
  show ddGo [] (psOf (rs.take (i + 1))) = _
  rw [e, ddGo_snoc, hb]
  rfl
theorem law_m {an ac : Addr} {na nc : Nat} {rs : List SetR} {Y : List (Addr × Obj)} {o1 o2 o3 o4 : Obj} {c4 : Option Value} (F : Fr h₀ L s.heap m) (X : Frag.In (Mine.hd.heap_39 w.params) h₀) (N : News h₀ L s.heap (lawLed L o1 o2 o3 o4 Y)) (T : Top topProg loo mean mg mb h₀) (hh : A.handled = none)
    (hd : A.depth + 100 < recursionLimit) (hu : A.units + 900 < cLine) (d1 : o1.data = .cell (some (.ref an))) (d2 : o2.data = .cell (some (.ref ac))) (d4 : o4.data = .cell c4) (man : (an, W.listOf (rs.map fun r => r.v).toArray na) ∈ Y) (mac : (ac, W.listOf (rs.map fun r => Value.int r.c r.t).toArray nc) ∈ Y) (hrl : rs.length ≤ 7) (off : Off L Y)
    (ret : ∀ b n h' tk' o4', o4'.data = .cell (some (.ref b)) → Fr h₀ L h' m → News h₀ L h' (lawLed L o1 o2 o3 o4' ((b, W.listOf ((dd (psOf rs)).map (·.1)).toArray n) :: Y)) → (∀ p ∈ lawLed L o1 o2 o3 o4 Y, p.1 < b) → Q .next { s with heap := h', toks := tk' }) :
    wpAny (model prog w) (A.deeper (lawEnv L fa cdv)) (exec (lawAt 13) (lawEnv L fa cdv)) Q E s := by
  obtain ⟨hA, dp, fr, gd, un⟩ := A
  dsimp only at hh hd hu
  subst hh
  conv in exec _ => arg 1; whnf
  k_steps
  have sub : ∀ p ∈ Y, p ∈ lawLed L o1 o2 o3 o4 Y := fun p hp => .tail _ (.tail _ (.tail _ (.tail _ hp)))
  have hlc : s.heap.IsList ac (rs.map fun r => Value.int r.c r.t).toArray := ⟨_, (N _ (sub _ mac)).1, rfl, _, rfl⟩
  refine len_L hlc (by simp; exact lek (by assumption) (by exact rfl)) fun t tk => ?_
  have hsz : (((rs.map fun r => Value.int r.c r.t).toArray.size : Nat) : Int) = (rs.length : Int) := by simp
  rw [hsz]
  k_steps
  rename IsRange _ _ _ _ _ _ _ _ => hR
  rename Fr _ _ _ _ => F1
  rename News _ _ _ _ => N1
  generalize hLG : lawLed L o1 o2 o3 o4 Y = LG at N1 ret sub
  have mc1 : (L + 1, o1) ∈ LG := by rw [← hLG]; exact .head _
  have mc2 : (L + 2, o2) ∈ LG := by rw [← hLG]; exact .tail _ (.head _)
  dsimp only at F1 N1 hR ⊢
  refine comp_range (fun i ys nx => nx = LG ∧ ys = (dd (psOf (rs.take i))).map (·.1)) (n := rs.length) rfl hR (range_small rs.length (by exact ltk (by assumption) (by exact rfl))).1 (range_small rs.length (by exact ltk (by assumption) (by exact rfl))).2 (by exact lek (by assumption) (by exact rfl)) F1 N1 ⟨rfl, by simp; rfl⟩ ?turn ?done
  case turn =>
    rintro i C mc ys nx h2 tk2 own E2 t2' hi ⟨hnx, hys⟩ hyl hoff F2 N2
    subst nx
    refine comp_turn1 ?_
    clear F1 N1 hR
    have mc2' : (L + 1 + 1, o2) ∈ LG ++ own := List.mem_append_left _ mc2
    have mc1' : (L + 1, o1) ∈ LG ++ own := List.mem_append_left _ mc1
    have hI := rs_ints rs
    k_steps
    all_goals (try k_data)
    have hri : rs[i]? = some rs[i] := List.getElem?_eq_getElem hi
    generalize hrr : rs[i] = r at hri
    have hl2 : h2.IsList ac (rs.map fun r => Value.int r.c r.t).toArray := ⟨_, (N2 _ (List.mem_append_left _ (sub _ mac))).1, rfl, _, rfl⟩
    have ei : ((0 : Int) + (i : Int) * 1).toNat = i := by exact toN _
    refine item_litK (vs := rs.map fun r => Value.int r.c r.t) (v := Value.int r.c r.t) hl2 (by exact Int.natCast_nonneg _) (by simp; exact ill (by assumption) (by assumption) (by exact rfl)) (by rw [ei, List.getElem?_map, hri]; rfl) ?_
    k_steps
    all_goals (try k_data)
    · rename Fr _ _ _ _ => F3
      rename News _ _ _ _ => N3
      rename _ = true => hany
      rw [ei] at hany
      exact ⟨_, _, _, LG, rfl, F3, News.mono' N3 (fun p hp => .tail _ hp), hoff, rfl, by rw [dd_next hri, if_pos hany]; exact hys⟩
    · rename Fr _ _ _ _ => F3
      rename News _ _ _ _ => N3
      rename _ = false => hany
      rw [ei] at hany
      have N4 : News h₀ C _ (LG ++ own) := News.mono' N3 (fun p hp => .tail _ hp)
      clear N3
      unfold EltGoal
      k_steps
      all_goals (try k_data)
      have e0 : (0 : Int) + (i : Int) * 1 = (i : Int) := by exact ze _
      rw [e0]
      refine sub_at N4 (List.mem_append_left _ (sub _ man)) hrl hri rfl ?_
      exact ⟨_, _, _, LG, rfl, F3, N4, hoff, rfl, by rw [dd_next hri, if_neg (by rw [hany]; simp), List.map_append, hys]; rfl⟩
  case done =>
    rintro D nD ys nx h3 tk3 ⟨hnx, hys⟩ hyl F3 N4 ltD neD
    subst nx
    clear F1 N1 hR
    k_steps
    rw [List.take_length] at hys
    subst hys
    have N5 : News h₀ L h3 (lawLed L o1 o2 o3 o4 ((D, W.listOf ((dd (psOf rs)).map (·.1)).toArray nD) :: Y)) := News.mono' N4 fun p hp => by
      rw [← hLG]
      simp only [lawLed, List.mem_cons] at hp ⊢
      rcases hp with h | h | h | h | h | h
      · exact .inr (.inl h)
      · exact .inr (.inr (.inl h))
      · exact .inr (.inr (.inr (.inl h)))
      · exact .inr (.inr (.inr (.inr (.inl h))))
      · exact .inl h
      · exact .inr (.inr (.inr (.inr (.inr h))))
    have off' : Off L ((D, W.listOf ((dd (psOf rs)).map (·.1)).toArray nD) :: Y) := by
      intro p hp
      rcases List.mem_cons.mp hp with rfl | hp
      · exact .inr (ltD (L + 4, o4) (by rw [← hLG]; exact .tail _ (.tail _ (.tail _ (.head _)))))
      · exact off p hp
    clear N4
    refine store_c4 (s := { s with heap := h3, toks := tk3 }) F3 N5 off' d4 rfl ?_
    intro h4 o4' F4 N4 d4'
    k_steps
    exact ret D nD _ _ o4' d4' F4 N4 ltD
end
end

/- OX -/
theorem offOX : True := by
  w_top off
  exact trivial
section
open PySem PySem.W PyProof.Rows PySem.Spec PySem.Calls PySem.SeqAt PyProof.V
set_option Elab.async false
set_option maxRecDepth 100000
set_option maxHeartbeats 2000000
section
variable {prog : Program} {w : World} {mean : ExcName → Option Value} {mg mb : Str → Option Value} {A : Around} {h₀ : Heap} {L fa : Addr} {m : Str → Option Value} {rest news : List (Addr × Obj)} {s : Shared} {x y : Addr} {c d : Nat}
    {Q : Flow → Shared → Prop} {E : Value → Shared → Prop} {qual : Str} {cdv : Value}
theorem law_n {b1 b2 : Addr} {n1 n2 : Nat} {vs : List Value} {LG : List (Addr × Obj)} {o3 o4 : Obj} (F : Fr h₀ L s.heap m) (X : Frag.In (Mine.hd.heap_39 w.params) h₀) (N : News h₀ L s.heap LG) (T : Top topProg loo mean mg mb h₀) (hh : A.handled = none)
    (hd : A.depth + 100 < recursionLimit) (hu : A.units + 900 < cLine) (d3 : o3.data = .cell (some (.ref b1))) (d4 : o4.data = .cell (some (.ref b2)))
    (mc3 : (L + 1 + 1 + 1, o3) ∈ LG) (mc4 : (L + 1 + 1 + 1 + 1, o4) ∈ LG) (mb1 : (b1, W.listOf vs.toArray n1) ∈ LG) (mb2 : (b2, W.listOf vs.toArray n2) ∈ LG) (hv7 : vs.length ≤ 7) (hvr : ∀ v ∈ vs, ∃ a, v = .ref a)
    (ret : ∀ h' tk', Fr h₀ L h' m → News h₀ L h' LG → Q (.ret (.bool true)) { s with heap := h', toks := tk' }) :
    wpAny (model prog w) (A.deeper (lawEnv L fa cdv)) (exec (lawAt 14) (lawEnv L fa cdv)) Q E s := by
  obtain ⟨hA, dp, fr, gd, un⟩ := A
  dsimp only at hh hd hu
  subst hh
  conv in exec _ => arg 1; whnf
  k_steps
  refine len_L (items := vs.toArray) ⟨_, (N _ mb1).1, rfl, _, rfl⟩ (by simp; exact lek (by assumption) (by exact rfl)) fun t tk => ?_
  k_steps
  rename Fr _ _ _ _ => F1
  rename News _ _ _ _ => N1
  refine len_L (s := { s with heap := s.heap, toks := _ }) (items := vs.toArray) ⟨_, (N1 _ mb2).1, rfl, _, rfl⟩ (by simp; exact lek (by assumption) (by exact rfl)) fun t' tk' => ?_
  k_steps
  rotate_left
  · exact absurd rfl (by assumption)
  refine len_L (s := { s with heap := s.heap, toks := _ }) (items := vs.toArray) ⟨_, (N1 _ mb2).1, rfl, _, rfl⟩ (by simp; exact lek (by assumption) (by exact rfl)) fun t2 tk2 => ?_
  have hsz : ((vs.toArray.size : Nat) : Int) = (vs.length : Int) := by simp
  rw [hsz]
  k_steps
  rename IsRange _ _ _ _ _ _ _ _ => hR
  rename Fr _ _ _ _ => F2
  rename News _ _ _ _ => N2
  clear hsz
  dsimp only at F2 N2 hR ⊢
  refine comp_range (fun i ys nx => nx = LG ∧ ys = []) (n := vs.length) rfl hR (range_small vs.length (by exact ltk (by assumption) (by exact rfl))).1 (range_small vs.length (by exact ltk (by assumption) (by exact rfl))).2 (by exact lek (by assumption) (by exact rfl)) F2 N2 ⟨rfl, rfl⟩ ?turn ?done
  case turn =>
    rintro i C mc ys nx h3 tk3 own E2 t3 hi ⟨hnx, hys⟩ hyl hoff F3 N3
    subst nx
    refine comp_turn1 ?_
    clear F2 N2 hR
    have mc3' := List.mem_append_left own mc3
    have mc4' := List.mem_append_left own mc4
    k_steps
    all_goals (try k_data)
    have e0 : (0 : Int) + (i : Int) * 1 = (i : Int) := by exact ze _
    rw [e0]
    have hvi : vs[i]? = some vs[i] := List.getElem?_eq_getElem hi
    obtain ⟨av, hav⟩ := hvr vs[i] (List.getElem_mem hi)
    rw [hav] at hvi
    refine item_litK (vs := vs) (v := .ref av) ⟨_, (N3 _ (List.mem_append_left _ mb1)).1, rfl, _, rfl⟩ (by exact Int.natCast_nonneg _) (by exact ill (by assumption) (by assumption) (by exact rfl)) (by rw [Int.toNat_natCast]; exact hvi) ?_
    k_steps
    all_goals (try k_data)
    rw [e0]
    refine item_litK (vs := vs) (v := .ref av) ⟨_, (N3 _ (List.mem_append_left _ mb2)).1, rfl, _, rfl⟩ (by exact Int.natCast_nonneg _) (by exact ill (by assumption) (by assumption) (by exact rfl)) (by rw [Int.toNat_natCast]; exact hvi) ?_
    k_steps
    all_goals (try k_data)
    try refine wpAny_isNot_ref_self ?_
    k_steps
    all_goals (try k_data)
    rename Fr _ _ _ _ => F4
    rename News _ _ _ _ => N4
    exact ⟨_, _, _, LG, rfl, F4, N4, hoff, rfl, hys⟩
  case done =>
    rintro D nD ys nx h3 tk3 ⟨hnx, hys⟩ hyl F3 N3 ltD neD
    subst nx hys
    clear F2 N2 hR
    k_steps
    all_goals (try k_data)
    rename Fr _ _ _ _ => F9
    rename News _ _ _ _ => N9
    exact ret _ _ F9 fun p hp => N9 p (.tail _ (.tail _ hp))
end
end

/- PB -/
theorem offPB : True := by
  w_top off
  exact trivial
section
open PySem PySem.W PyProof.Rows PySem.Spec PySem.Calls PySem.SeqAt PyProof.V
set_option Elab.async false
set_option maxRecDepth 100000
set_option maxHeartbeats 2000000
section
variable {prog : Program} {w : World} {mean : ExcName → Option Value} {mg mb : Str → Option Value} {A : Around} {h₀ : Heap} {L fa : Addr} {m : Str → Option Value} {s : Shared}
    {Q : Flow → Shared → Prop} {E : Value → Shared → Prop} {cdv : Value}
theorem tail_c {an ac ad Ds : Addr} {na nc nd ns : Nat} {zs : List Value} {rs : List SetR} {tl Y : List (Addr × Obj)} {o1 o2 o3 o4 : Obj} {c3 c4 : Option Value} {pa pb : Array Value} (F : Fr h₀ L s.heap m) (X : Frag.In (Mine.hd.heap_39 w.params) h₀) (N : News h₀ L s.heap (lawLed L o1 o2 o3 o4 Y)) (T : Top topProg loo mean mg mb h₀) (hh : A.handled = none)
    (hd : A.depth + 100 < recursionLimit) (hu : A.units + 900 < cLine) (d1 : o1.data = .cell (some (.ref an))) (d2 : o2.data = .cell (some (.ref ac))) (d3 : o3.data = .cell c3) (d4 : o4.data = .cell c4)
    (man : (an, W.listOf (rs.map fun r => r.v).toArray na) ∈ Y) (mac : (ac, W.listOf (rs.map fun r => Value.int r.c r.t).toArray nc) ∈ Y) (mad : (ad, W.listOf (rs.map fun r => Value.ref r.d).toArray nd) ∈ Y) (ms : (Ds, W.listOf zs.toArray ns) ∈ Y) (hzs : IntsAre zs (rs.map fun r => (r.ds.length : Int)))
    (ma : (58, tabObj pa) ∈ Y) (mb' : (105, tabObj pb) ∈ Y) (good : Good tl rs) (htl : ∀ p ∈ tl, p ∈ Y) (hrl : rs.length ≤ 7) (off : Off L Y) (hm : m ("draws" : Str) = some (.ref ad)) (hm2 : m ("sizes" : Str) = some (.ref Ds))
    (ret : ∀ h' tk' m', Fr h₀ L h' m' → h'.get? 58 = some (tabObj pa) → h'.get? 105 = some (tabObj pb) → Q (.ret (.bool true)) { s with heap := h', toks := tk' }) :
    wpAny (model prog w) (A.deeper (lawEnv L fa cdv)) (execs [lawAt 11, lawAt 12, lawAt 13, lawAt 14] (lawEnv L fa cdv)) Q E s := by
  refine wpAny_execs_cons (law_k F X N T hh hd hu d1 d3 man good htl hrl off ?_)
  intro b n h1 tk1 o3' d3' F1 N1 lb
  have off1 : Off L ((b, W.listOf ((dd (psOf rs)).map (·.1)).toArray n) :: Y) := fun p hp => by
    rcases List.mem_cons.mp hp with rfl | hp
    · exact .inr (lb (L + 4, o4) (.tail _ (.tail _ (.tail _ (.head _)))))
    · exact off p hp
  have hne : b ≠ an := Nat.ne_of_gt (lb _ (.tail _ (.tail _ (.tail _ (.tail _ man)))))
  refine wpAny_execs_cons (law_l (s := { s with heap := h1, toks := tk1 }) F1 X N1 T hh hd hu d1 d2 d3' (.tail _ man) (.tail _ mac) (.tail _ mad) (.head _) (.tail _ ms) hzs hne good (fun p hp => .tail _ (htl p hp)) hrl hm hm2 ?_)
  intro h2 tk2 F2 N2
  refine wpAny_execs_cons (law_m (s := { s with heap := h2, toks := tk2 }) F2 X N2 T hh hd hu d1 d2 d4 (.tail _ man) (.tail _ mac) hrl off1 ?_)
  intro b2 n2 h3 tk3 o4' d4' F3 N3 lb2
  refine wpAny_execs_cons (law_n (s := { s with heap := h3, toks := tk3 }) F3 X N3 T hh hd hu d3' d4' (.tail _ (.tail _ (.head _))) (.tail _ (.tail _ (.tail _ (.head _)))) (.tail _ (.tail _ (.tail _ (.tail _ (.tail _ (.head _)))))) (.tail _ (.tail _ (.tail _ (.tail _ (.head _))))) ?_ ?_ ?_)
  · rw [List.length_map]
    exact Nat.le_trans (dd_len _) (by unfold psOf; rw [List.length_map]; assumption)
  · intro v hv
    obtain ⟨p, hp, rfl⟩ := List.mem_map.mp hv
    have := (ddGo_sub _ _ _ hp).resolve_left (fun h => nomatch h)
    obtain ⟨r, hr, rfl⟩ := List.mem_map.mp this
    exact nst_ref (good r hr).1
  · intro h4 tk4 F4 N4
    exact ret h4 tk4 _ F4 (N4 _ (.tail _ (.tail _ (.tail _ (.tail _ (.tail _ (.tail _ ma))))))).1 (N4 _ (.tail _ (.tail _ (.tail _ (.tail _ (.tail _ (.tail _ mb'))))))).1
theorem tail_b {an ac ad Ds : Addr} {na nc nd ns : Nat} {zs : List Value} {rs : List SetR} {tl Wl : List (Addr × Obj)} {o1 o2 o3 o4 : Obj} {c3 c4 : Option Value} {pb : Array Value} (F : Fr h₀ L s.heap m) (X : Frag.In (Mine.hd.heap_39 w.params) h₀)
    (N : News h₀ L s.heap (lawLed L o1 o2 o3 o4 (setsLed an ac ad rs na nc nd tl ++ ((58, tabObj #[]) :: (105, tabObj pb) :: (Ds, W.listOf zs.toArray ns) :: Wl)))) (T : Top topProg loo mean mg mb h₀) (hh : A.handled = none)
    (hd : A.depth + 100 < recursionLimit) (hu : A.units + 900 < cLine) (d1 : o1.data = .cell (some (.ref an))) (d2 : o2.data = .cell (some (.ref ac))) (d3 : o3.data = .cell c3) (d4 : o4.data = .cell c4)
    (hzs : IntsAre zs (rs.map fun r => (r.ds.length : Int))) (good : Good tl rs) (hrl : rs.length ≤ 7) (hr2 : 2 ≤ rs.length) (abS : ∀ p ∈ setsLed an ac ad rs na nc nd tl, L + 4 < p.1) (abW : ∀ p ∈ (Ds, W.listOf zs.toArray ns) :: Wl, L + 4 < p.1) (h58 : 58 < L) (h105 : 105 < L)
    (C1 : CodeHd h₀ 62 58) (hm : m ("draws" : Str) = some (.ref ad)) (hm2 : m ("sizes" : Str) = some (.ref Ds))
    (ret : ∀ h' tk' m' pa, Fr h₀ L h' m' → h'.get? 58 = some (tabObj pa) → h'.get? 105 = some (tabObj pb) → Q (.ret (.bool true)) { s with heap := h', toks := tk' }) :
    wpAny (model prog w) (A.deeper (lawEnv L fa cdv)) (execs [lawAt 8, lawAt 9, lawAt 10, lawAt 11, lawAt 12, lawAt 13, lawAt 14] (lawEnv L fa cdv)) Q E s := by
  have above : ∀ q : Addr, L + 4 < q → q ≠ 58 := fun q h => Nat.ne_of_gt (Nat.lt_trans h58 (Nat.lt_of_le_of_lt (Nat.le_add_right L 4) h))
  refine wpAny_execs_cons (law_h F X N T hh hd hu d2 hrl ?_)
  intro h1 tk1 D n t2 qs ys hlen perm pw tup F1 N1 lt2 ltD
  have ab2 : ∀ p ∈ t2, L + 4 < p.1 := fun p hp => lt2 p hp (L + 4, o4) (.tail _ (.tail _ (.tail _ (.head _))))
  have abD : L + 4 < D := ltD (L + 4, o4) (List.mem_append_right _ (.tail _ (.tail _ (.tail _ (.head _)))))
  obtain ⟨R, hR⟩ : ∃ R, R = (D, W.listOf (qs.map (·.1)).toArray n) :: (t2 ++ (setsLed an ac ad rs na nc nd tl ++ ((105, tabObj pb) :: (Ds, W.listOf zs.toArray ns) :: Wl))) := ⟨_, rfl⟩
  have abR : ∀ p ∈ R, p = (105, tabObj pb) ∨ L + 4 < p.1 := by
    intro p hp
    rw [hR] at hp
    rcases List.mem_cons.mp hp with rfl | hp
    · exact .inr abD
    rcases List.mem_append.mp hp with hp | hp
    · exact .inr (ab2 p hp)
    rcases List.mem_append.mp hp with hp | hp
    · exact .inr (abS p hp)
    rcases List.mem_cons.mp hp with rfl | hp
    · exact .inl rfl
    · exact .inr (abW p hp)
  have mD : (D, W.listOf (qs.map (·.1)).toArray n) ∈ R := by rw [hR]; exact .head _
  have m2 : ∀ p ∈ t2, p ∈ R := fun p hp => by rw [hR]; exact .tail _ (List.mem_append_left _ hp)
  have mS : ∀ p ∈ setsLed an ac ad rs na nc nd tl, p ∈ R := fun p hp => by rw [hR]; exact .tail _ (List.mem_append_right _ (List.mem_append_left _ hp))
  have mW : ∀ p ∈ (105, tabObj pb) :: (Ds, W.listOf zs.toArray ns) :: Wl, p ∈ R := fun p hp => by rw [hR]; exact .tail _ (List.mem_append_right _ (List.mem_append_right _ hp))
  have N1' : News h₀ L h1 ((58, tabObj #[]) :: lawLed L o1 o2 o3 o4 R) := News.mono' N1 fun p hp => by
    rcases List.mem_cons.mp hp with rfl | hp
    · exact .tail _ (List.mem_append_right _ (.tail _ (.tail _ (.tail _ (.tail _ (List.mem_append_right _ (.head _)))))))
    rcases List.mem_cons.mp hp with rfl | hp
    · exact .tail _ (List.mem_append_right _ (.head _))
    rcases List.mem_cons.mp hp with rfl | hp
    · exact .tail _ (List.mem_append_right _ (.tail _ (.head _)))
    rcases List.mem_cons.mp hp with rfl | hp
    · exact .tail _ (List.mem_append_right _ (.tail _ (.tail _ (.head _))))
    rcases List.mem_cons.mp hp with rfl | hp
    · exact .tail _ (List.mem_append_right _ (.tail _ (.tail _ (.tail _ (.head _)))))
    rw [hR] at hp
    rcases List.mem_cons.mp hp with rfl | hp
    · exact .head _
    rcases List.mem_append.mp hp with hp | hp
    · exact .tail _ (List.mem_append_left _ hp)
    rcases List.mem_append.mp hp with hp | hp
    · exact .tail _ (List.mem_append_right _ (.tail _ (.tail _ (.tail _ (.tail _ (List.mem_append_left _ hp))))))
    · exact .tail _ (List.mem_append_right _ (.tail _ (.tail _ (.tail _ (.tail _ (List.mem_append_right _ (.tail _ hp)))))))
  clear N1 N F hR
  have ne58 : ∀ p ∈ lawLed L o1 o2 o3 o4 R, p.1 ≠ 58 := by
    intro p hp
    have hk : ∀ k : Nat, L + k ≠ 58 := fun k => Nat.ne_of_gt (Nat.lt_of_lt_of_le h58 (Nat.le_add_right L k))
    rcases List.mem_cons.mp hp with rfl | hp
    · exact hk 1
    rcases List.mem_cons.mp hp with rfl | hp
    · exact hk 2
    rcases List.mem_cons.mp hp with rfl | hp
    · exact hk 3
    rcases List.mem_cons.mp hp with rfl | hp
    · exact hk 4
    rcases abR p hp with rfl | h
    · exact fun e => absurd (show (105 : Nat) = 58 from e) (by decide)
    · exact above _ h
  refine wpAny_execs_cons (law_i (s := { s with heap := h1, toks := tk1 }) F1 X N1' T hh hd hu C1 ne58 ?_)
  intro K kl ps h2 tk2 kok F2 N2 ltk
  have abk : ∀ p ∈ kl, L + 4 < p.1 := fun p hp => ltk (L + 4, o4) (.tail _ (.tail _ (.tail _ (.head _)))) p hp
  have hR2 : ∀ p ∈ R, p ∈ kl ++ (58, tabObj ps) :: lawLed L o1 o2 o3 o4 R := fun p hp => List.mem_append_right _ (.tail _ (.tail _ (.tail _ (.tail _ (.tail _ hp)))))
  refine wpAny_execs_cons (law_j (s := { s with heap := h2, toks := tk2 }) F2 X N2 T hh hd hu d1 (List.mem_append_right _ (.tail _ (.head _))) (hR2 _ (mS _ (.tail _ (.tail _ (.head _))))) (hR2 _ mD) hlen perm pw tup (fun p hp => hR2 p (m2 p hp)) good
    (fun p hp => hR2 p (mS p (.tail _ (.tail _ (.tail _ hp))))) hrl hr2 kok (fun p hp => List.mem_append_left _ hp) ((if_neg (by decide)).trans (if_pos rfl)) (if_pos rfl) ?_)
  intro h3 tk3 F3 N3
  have N3' : News h₀ L h3 (lawLed L o1 o2 o3 o4 (kl ++ (58, tabObj ps) :: R)) := News.mono' N3 fun p hp => by
    rcases List.mem_cons.mp hp with rfl | hp
    · exact List.mem_append_right _ (.tail _ (.head _))
    rcases List.mem_cons.mp hp with rfl | hp
    · exact List.mem_append_right _ (.tail _ (.tail _ (.head _)))
    rcases List.mem_cons.mp hp with rfl | hp
    · exact List.mem_append_right _ (.tail _ (.tail _ (.tail _ (.head _))))
    rcases List.mem_cons.mp hp with rfl | hp
    · exact List.mem_append_right _ (.tail _ (.tail _ (.tail _ (.tail _ (.head _)))))
    rcases List.mem_append.mp hp with hp | hp
    · exact List.mem_append_left _ hp
    rcases List.mem_cons.mp hp with rfl | hp
    · exact List.mem_append_right _ (.head _)
    · exact hR2 p hp
  have hY : ∀ p ∈ R, p ∈ kl ++ (58, tabObj ps) :: R := fun p hp => List.mem_append_right _ (.tail _ hp)
  refine tail_c (s := { s with heap := h3, toks := tk3 }) F3 X N3' T hh hd hu d1 d2 d3 d4 (hY _ (mS _ (.tail _ (.tail _ (.head _))))) (hY _ (mS _ (.tail _ (.head _)))) (hY _ (mS _ (.head _))) (hY _ (mW _ (.tail _ (.head _)))) hzs
    (List.mem_append_right _ (.head _)) (hY _ (mW _ (.head _))) good (fun p hp => hY p (mS p (.tail _ (.tail _ (.tail _ hp))))) hrl ?_ (((if_neg (by decide)).trans (if_neg (by decide))).trans hm) (((if_neg (by decide)).trans (if_neg (by decide))).trans hm2) fun h' tk' m' F' g1 g2 => ret h' tk' m' ps F' g1 g2
  intro p hp
  rcases List.mem_append.mp hp with hp | hp
  · exact .inr (abk p hp)
  rcases List.mem_cons.mp hp with rfl | hp
  · exact .inl h58
  rcases abR p hp with rfl | h
  · exact .inl h105
  · exact .inr h
end
end

/- PC -/
theorem offPC : True := by
  w_top off
  exact trivial
section
open PySem PySem.W PyProof.Rows PySem.Spec PySem.Calls PySem.SeqAt PyProof.V
set_option Elab.async false
set_option maxRecDepth 100000
set_option maxHeartbeats 2000000
theorem over_not {z : Str} {u m : Str → Option Value} : ∀ {st : List Str}, z ∉ st → over st u m z = m z
  | [], _ => rfl
  | a :: r, h => by
    show (if z = a then u z else over r u m z) = m z
    rw [if_neg (fun (e : z = a) => h (by rw [e]; exact .head _))]
    exact over_not fun hm => h (.tail _ hm)
theorem execs_two {M : Model} {A : Around} {E : Value → Shared → Prop} {s : Shared} {env : Env} {a b : Stmt} {rest : List Stmt} {Q : Flow → Shared → Prop}
    (h : wpAny M A (execs [a, b] env) (fun f s' => match f with | .next => wpAny M A (execs rest env) Q E s' | f => Q f s') E s) : wpAny M A (execs (a :: b :: rest) env) Q E s := by
  have e : execs (a :: b :: rest) env = (execs [a, b] env >>= fun f => match f with | .next => execs rest env | f => pure f) := by
    show (exec a env >>= fun f => match f with | .next => (exec b env >>= fun f => match f with | .next => execs rest env | f => pure f) | f => pure f) = ((exec a env >>= fun f => match f with | .next => (exec b env >>= fun f => match f with | .next => pure .next | f => pure f) | f => pure f) >>= fun f => match f with | .next => execs rest env | f => pure f)
    rw [bind_assoc]
    congr 1
    funext f
    cases f with
    | next =>
      dsimp only
      rw [bind_assoc]
      congr 1
      funext f
      cases f <;> simp only [pure_bind]
    | _ => simp only [pure_bind]
  rw [e]
  refine wpAny_bind (wpAny_mono h (fun f s' hf => ?_) fun _ _ x => x)
  cases f with
  | next => exact hf
  | _ => exact wpAny_pure hf
section
variable {prog : Program} {w : World} {mean : ExcName → Option Value} {mg mb : Str → Option Value} {A : Around} {h₀ : Heap} {L fa : Addr} {m : Str → Option Value} {s : Shared}
    {Q : Flow → Shared → Prop} {E : Value → Shared → Prop}
theorem tail_a {an ac ad : Addr} {na nc nd : Nat} {rs : List SetR} {tl : List (Addr × Obj)} {o1 o2 o3 o4 : Obj} {c3 c4 : Option Value} (F : Fr h₀ L s.heap m) (X : Frag.In (Mine.hd.heap_39 w.params) h₀)
    (N : News h₀ L s.heap (lawLed L o1 o2 o3 o4 (setsLed an ac ad rs na nc nd tl ++ [(58, tabObj #[]), (105, tabObj #[])]))) (T : Top topProg loo mean mg mb h₀) (hh : A.handled = none)
    (hd : A.depth + 100 < recursionLimit) (hu : A.units + 900 < cLine) (hfr : A.frames = some []) (d1 : o1.data = .cell (some (.ref an))) (d2 : o2.data = .cell (some (.ref ac))) (d3 : o3.data = .cell c3) (d4 : o4.data = .cell c4)
    (good : Good tl rs) (hrl : rs.length ≤ 7) (hr2 : 2 ≤ rs.length) (abS : ∀ p ∈ setsLed an ac ad rs na nc nd tl, L + 4 < p.1) (h58 : 58 < L) (h105 : 105 < L)
    (C1 : CodeHd h₀ 62 58) (C2 : CodeHd h₀ 107 105) (hm : m ("draws" : Str) = some (.ref ad))
    (ret : ∀ h' tk' m' pa pb, Fr h₀ L h' m' → h'.get? 58 = some (tabObj pa) → h'.get? 105 = some (tabObj pb) → Q (.ret (.bool true)) { s with heap := h', toks := tk' }) :
    wpAny (model prog w) (A.deeper (lawEnv L fa (.ref 107))) (execs [lawAt 3, lawAt 4, lawAt 5, lawAt 6, lawAt 7, lawAt 8, lawAt 9, lawAt 10, lawAt 11, lawAt 12, lawAt 13, lawAt 14] (lawEnv L fa (.ref 107))) Q E s := by
  obtain ⟨S, hS⟩ : ∃ S, S = setsLed an ac ad rs na nc nd tl := ⟨_, rfl⟩
  have mS : ∀ p ∈ setsLed an ac ad rs na nc nd tl, p ∈ S := fun p hp => by rw [hS]; exact hp
  have abS' : ∀ p ∈ S, L + 4 < p.1 := by rw [hS]; exact abS
  have N0 : News h₀ L s.heap ((105, tabObj #[]) :: lawLed L o1 o2 o3 o4 (S ++ [(58, tabObj #[])])) := News.mono' N fun p hp => by
    rw [hS] at hp
    rcases List.mem_cons.mp hp with rfl | hp
    · exact .tail _ (.tail _ (.tail _ (.tail _ (List.mem_append_right _ (.tail _ (.head _))))))
    rcases List.mem_cons.mp hp with rfl | hp
    · exact .head _
    rcases List.mem_cons.mp hp with rfl | hp
    · exact .tail _ (.head _)
    rcases List.mem_cons.mp hp with rfl | hp
    · exact .tail _ (.tail _ (.head _))
    rcases List.mem_cons.mp hp with rfl | hp
    · exact .tail _ (.tail _ (.tail _ (.head _)))
    rcases List.mem_append.mp hp with hp | hp
    · exact .tail _ (.tail _ (.tail _ (.tail _ (List.mem_append_left _ hp))))
    · rw [List.mem_singleton.mp hp]
      exact .tail _ (.tail _ (.tail _ (.tail _ (List.mem_append_right _ (.head _)))))
  have ne105 : ∀ p ∈ lawLed L o1 o2 o3 o4 (S ++ [(58, tabObj #[])]), p.1 ≠ 105 := by
    intro p hp
    have hk : ∀ k : Nat, L + k ≠ 105 := fun k => Nat.ne_of_gt (Nat.lt_of_lt_of_le h105 (Nat.le_add_right L k))
    rcases List.mem_cons.mp hp with rfl | hp
    · exact hk 1
    rcases List.mem_cons.mp hp with rfl | hp
    · exact hk 2
    rcases List.mem_cons.mp hp with rfl | hp
    · exact hk 3
    rcases List.mem_cons.mp hp with rfl | hp
    · exact hk 4
    rcases List.mem_append.mp hp with hp | hp
    · exact Nat.ne_of_gt (Nat.lt_trans h105 (Nat.lt_of_le_of_lt (Nat.le_add_right L 4) (abS' p hp)))
    · rw [List.mem_singleton.mp hp]; exact fun e => absurd (show (58 : Nat) = 105 from e) (by decide)
  clear N
  refine execs_two (law_d F X N0 T hh C2 ne105 hd hu ?_)
  intro h1 tk1 Dw pb F1 N1
  have N1' : News h₀ L h1 (lawLed L o1 o2 o3 o4 (setsLed an ac ad rs na nc nd tl ++ [(58, tabObj #[]), (105, tabObj pb)])) := News.mono' N1 fun p hp => by
    rw [← hS] at hp
    rcases List.mem_cons.mp hp with rfl | hp
    · exact .tail _ (.head _)
    rcases List.mem_cons.mp hp with rfl | hp
    · exact .tail _ (.tail _ (.head _))
    rcases List.mem_cons.mp hp with rfl | hp
    · exact .tail _ (.tail _ (.tail _ (.head _)))
    rcases List.mem_cons.mp hp with rfl | hp
    · exact .tail _ (.tail _ (.tail _ (.tail _ (.head _))))
    rcases List.mem_append.mp hp with hp | hp
    · exact .tail _ (.tail _ (.tail _ (.tail _ (.tail _ (List.mem_append_left _ hp)))))
    rcases List.mem_cons.mp hp with rfl | hp
    · exact .tail _ (.tail _ (.tail _ (.tail _ (.tail _ (List.mem_append_right _ (.head _))))))
    · rw [List.mem_singleton.mp hp]; exact .head _
  clear N1
  have hm1 : (fun y : Str => if y = ("written" : Str) then some (Value.ref Dw) else m y) ("draws" : Str) = some (.ref ad) := (if_neg (by decide)).trans hm
  generalize (fun y : Str => if y = ("written" : Str) then some (Value.ref Dw) else m y) = m1 at F1 hm1
  refine wpAny_execs_cons (law_e (s := { s with heap := h1, toks := tk1 }) F1 X N1' T hh hd hu good hrl hm1 ?_)
  intro h2 tk2 Ds ns zs hzs F2 N2 ltS
  have abDs : L + 4 < Ds := ltS (L + 4, o4) (.tail _ (.tail _ (.tail _ (.head _))))
  have hm2 : (fun y : Str => if y = ("sizes" : Str) then some (Value.ref Ds) else m1 y) ("draws" : Str) = some (.ref ad) := (if_neg (by decide)).trans hm1
  have hs2 : (fun y : Str => if y = ("sizes" : Str) then some (Value.ref Ds) else m1 y) ("sizes" : Str) = some (.ref Ds) := if_pos rfl
  generalize (fun y : Str => if y = ("sizes" : Str) then some (Value.ref Ds) else m1 y) = m2 at F2 hm2 hs2
  obtain ⟨Y, hY⟩ : ∃ Y, Y = S ++ [(58, tabObj #[]), (105, tabObj pb), (Ds, W.listOf zs.toArray ns)] := ⟨_, rfl⟩
  have N2' : News h₀ L h2 (lawLed L o1 o2 o3 o4 Y) := News.mono' N2 fun p hp => by
    rw [hY] at hp
    rw [← hS]
    rcases List.mem_cons.mp hp with rfl | hp
    · exact .tail _ (.head _)
    rcases List.mem_cons.mp hp with rfl | hp
    · exact .tail _ (.tail _ (.head _))
    rcases List.mem_cons.mp hp with rfl | hp
    · exact .tail _ (.tail _ (.tail _ (.head _)))
    rcases List.mem_cons.mp hp with rfl | hp
    · exact .tail _ (.tail _ (.tail _ (.tail _ (.head _))))
    rcases List.mem_append.mp hp with hp | hp
    · exact .tail _ (.tail _ (.tail _ (.tail _ (.tail _ (List.mem_append_left _ hp)))))
    rcases List.mem_cons.mp hp with rfl | hp
    · exact .tail _ (.tail _ (.tail _ (.tail _ (.tail _ (List.mem_append_right _ (.head _))))))
    rcases List.mem_cons.mp hp with rfl | hp
    · exact .tail _ (.tail _ (.tail _ (.tail _ (.tail _ (List.mem_append_right _ (.tail _ (.head _)))))))
    · rw [List.mem_singleton.mp hp]; exact .head _
  have sY : ∀ p ∈ S, p ∈ Y := fun p hp => by rw [hY]; exact List.mem_append_left _ hp
  clear N2 N1'
  refine wpAny_execs_cons (law_f (s := { s with heap := h2, toks := tk2 }) F2 X N2' T hh hd hu d2 (sY _ (mS _ (.tail _ (.head _)))) hrl ?_)
  intro h3 tk3 Dp np t2 ys hys F3 N3 lt3 ne3
  have hm3 : (fun y : Str => if y = ("pairs" : Str) then some (Value.ref Dp) else m2 y) ("draws" : Str) = some (.ref ad) := (if_neg (by decide)).trans hm2
  have hs3 : (fun y : Str => if y = ("pairs" : Str) then some (Value.ref Dp) else m2 y) ("sizes" : Str) = some (.ref Ds) := (if_neg (by decide)).trans hs2
  have hp3 : (fun y : Str => if y = ("pairs" : Str) then some (Value.ref Dp) else m2 y) ("pairs" : Str) = some (.ref Dp) := if_pos rfl
  generalize (fun y : Str => if y = ("pairs" : Str) then some (Value.ref Dp) else m2 y) = m3 at F3 hm3 hs3 hp3
  have sLG : ∀ p ∈ lawLed L o1 o2 o3 o4 Y, p ∈ (Dp, W.listOf ys.toArray np) :: (t2 ++ lawLed L o1 o2 o3 o4 Y) := fun p hp => .tail _ (List.mem_append_right _ hp)
  have sY2 : ∀ p ∈ setsLed an ac ad rs na nc nd tl, p ∈ (Dp, W.listOf ys.toArray np) :: (t2 ++ lawLed L o1 o2 o3 o4 Y) := fun p hp => sLG p (.tail _ (.tail _ (.tail _ (.tail _ (sY p (mS p hp))))))
  refine wpAny_execs_cons (law_g (s := { s with heap := h3, toks := tk3 }) F3 X N3 T hh hd hu hfr d1 d2 (sLG _ (.head _)) (sLG _ (.tail _ (.head _))) (sY2 _ (.tail _ (.tail _ (.head _)))) (sY2 _ (.tail _ (.head _))) (sY2 _ (.head _)) (.head _)
    (fun y hy => (hys y hy).mono fun p hp => .tail _ (List.mem_append_left _ hp)) good (fun p hp => sY2 p (.tail _ (.tail _ (.tail _ hp)))) hrl hm3 hp3 ?_)
  intro h4 tk4 u F4 N4
  have N4' : News h₀ L h4 (lawLed L o1 o2 o3 o4 (setsLed an ac ad rs na nc nd tl ++ ((58, tabObj #[]) :: (105, tabObj pb) :: (Ds, W.listOf zs.toArray ns) :: []))) := News.mono' N4 fun p hp => sLG p (by rw [hY, hS]; exact hp)
  refine tail_b (s := { s with heap := h4, toks := tk4 }) F4 X N4' T hh hd hu d1 d2 d3 d4 hzs good hrl hr2 abS (fun p hp => by rw [List.mem_singleton.mp hp]; exact abDs) h58 h105 C1 ((over_not (by decide)).trans hm3) ((over_not (by decide)).trans hs3) fun h' tk' m' pa F' g1 g2 => ret h' tk' m' pa pb F' g1 g2
theorem lenA {r n : Nat} (h : r = n + 1) (h6 : n ≤ 6) : r ≤ 7 := h ▸ Nat.succ_le_succ h6
theorem lenB {r n : Nat} (h : r = n + 1) (h3 : 3 ≤ n) : 2 ≤ r := h ▸ Nat.le_succ_of_le (Nat.le_trans (Nat.le_of_ble_eq_true rfl) h3)
theorem law_all {l : Addr} {vs : List Value} {xs : List Int} {o1 o2 o3 o4 : Obj} {c1 c2 c3 c4 : Option Value} (F : Fr h₀ L s.heap m) (X : Frag.In (Mine.hd.heap_39 w.params) h₀)
    (N : News h₀ L s.heap (lawLed L o1 o2 o3 o4 [(58, tabObj #[]), (105, tabObj #[])])) (T : Top topProg loo mean mg mb h₀) (hh : A.handled = none) (hm : m = fun y : Str => if y = ("script" : Str) then some (Value.ref l) else none)
    (hd : A.depth + 100 < recursionLimit) (hu : A.units + 900 < cLine) (hfr : A.frames = some []) (d1 : o1.data = .cell c1) (d2 : o2.data = .cell c2) (d3 : o3.data = .cell c3) (d4 : o4.data = .cell c4)
    (hl : h₀.IsList l vs.toArray) (hI : IntsAre vs xs) (hx : xs.length ≤ 63) (h58 : 58 < L) (h105 : 105 < L) (C1 : CodeHd h₀ 62 58) (C2 : CodeHd h₀ 107 105)
    (ret : ∀ h' tk' m' pa pb, Fr h₀ L h' m' → h'.get? 58 = some (tabObj pa) → h'.get? 105 = some (tabObj pb) → Q (.ret (.bool true)) { s with heap := h', toks := tk' }) :
    wpAny (model prog w) (A.deeper (lawEnv L fa (.ref 107))) (execs (stmtsOf lawStmt) (lawEnv L fa (.ref 107))) Q E s := by
  have e : stmtsOf lawStmt = [lawAt 0, lawAt 1, lawAt 2, lawAt 3, lawAt 4, lawAt 5, lawAt 6, lawAt 7, lawAt 8, lawAt 9, lawAt 10, lawAt 11, lawAt 12, lawAt 13, lawAt 14] := by with_unfolding_all rfl
  rw [e]
  refine wpAny_execs_cons (law_a F X N T hh hm (Nat.lt_of_le_of_lt (Nat.add_le_add_left (by decide) _) hd) (Nat.lt_of_le_of_lt (Nat.add_le_add_left (by decide) _) hu) hl hI hx ?_)
  intro D us ns h1 tk1 hI1 h3 h6 F1 N1 hD
  have hoff : Off L [(58, tabObj #[]), (105, tabObj #[])] := fun p hp => by
    rcases List.mem_cons.mp hp with rfl | hp
    · exact .inl h58
    · rw [List.mem_singleton.mp hp]; exact .inl h105
  refine wpAny_execs_cons (law_b (s := { s with heap := h1, toks := tk1 }) F1 X N1 T hh (Nat.lt_of_le_of_lt (Nat.add_le_add_left (by decide) _) hd) (Nat.lt_of_le_of_lt (Nat.add_le_add_left (by decide) _) hu) hI1 h6 d1 d2 hoff hD.1 ?_)
  intro an ac ad rs tl na nc nd h2 tk2 o1' o2' hrs good d1' d2' F2 N2 abS _ _
  refine wpAny_execs_cons (law_c (s := { s with heap := h2, toks := tk2 }) F2 X N2 T hh hd hu d1' d2' good (lenA (by assumption) (by assumption)) ?_)
  intro h3' tk3 F3 N3
  exact tail_a (s := { s with heap := h3', toks := tk3 }) F3 X N3 T hh hd hu hfr d1' d2' d3 d4 good (lenA (by assumption) (by assumption)) (lenB (by assumption) (by assumption)) abS h58 h105 C1 C2 (if_pos rfl) ret
theorem led_turn {h : Heap} {a b c d : Obj} {R : List (Addr × Obj)} (N : News h₀ L h ((L + 1 + 1 + 1 + 1, d) :: (L + 1 + 1 + 1, c) :: (L + 1 + 1, b) :: (L + 1, a) :: R)) : News h₀ L h (lawLed L a b c d R) := by
  refine News.mono' N fun p hp => ?_
  rcases List.mem_cons.mp hp with rfl | hp
  · exact .tail _ (.tail _ (.tail _ (.head _)))
  rcases List.mem_cons.mp hp with rfl | hp
  · exact .tail _ (.tail _ (.head _))
  rcases List.mem_cons.mp hp with rfl | hp
  · exact .tail _ (.head _)
  rcases List.mem_cons.mp hp with rfl | hp
  · exact .head _
  · exact .tail _ (.tail _ (.tail _ (.tail _ hp)))
end
end
end Mine

/- PD -/
theorem Mine.offPD : True := by
  w_top off
  exact trivial
section
open PySem PySem.W PyProof.Rows PySem.Spec PySem.Calls PySem.SeqAt PyProof.V
set_option Elab.async false
set_option maxRecDepth 100000
set_option maxHeartbeats 2000000
theorem PySem.Challenge.cw_of0007_01_holds : PySem.Challenge.rw_of0007_01.Holds := by
  refine Mine.hd ?_
  w_strict (
    k_go0
    w_top off
    rename Fr _ _ _ _ => F9
    rename News _ _ _ _ => N9
    rename IntsAre _ _ => I9
    rename _ < _ ∧ _ < _ => l9
    rename ¬ (_ < _) => c9
    refine Mine.law_all F9 (by assumption) (Mine.led_turn N9) (by assumption) rfl ?hm (by decide) (by decide) rfl (by assumption) (by assumption) (by assumption) (by assumption) (by assumption) I9 ?hx l9.1 l9.2 (by assumption) (by assumption) ?ret
    case hm => with_unfolding_all rfl
    case hx => omega
    intro h' tk' m' pa pb F' g1 g2
    refine ⟨?_, ⟨pa, g1⟩, ⟨pb, g2⟩, trivial⟩
    clear F9 N9
    dsimp only
    w_top on
    k_steps)
end
