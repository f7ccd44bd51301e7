import PyProof.Rows.All
import Wide.All
import OpenK.AllK
import Wide.FinOn
import PySem.Challenge.RW_ae6025_01
open PySem PySem.W PyProof.Rows
set_option Elab.async false
set_option maxRecDepth 100000
set_option maxHeartbeats 8000000

-- part F1
section
namespace Mine

/-! the field of 256: its tables, sum by xor, product by the logs -/

def expT : List Nat := [
  1, 2, 4, 8, 16, 32, 64, 128, 29, 58, 116, 232, 205, 135, 19, 38, 76, 152, 45, 90, 180, 117, 234, 201, 143, 3, 6,
  12, 24, 48, 96, 192, 157, 39, 78, 156, 37, 74, 148, 53, 106, 212, 181, 119, 238, 193, 159, 35, 70, 140, 5, 10,
  20, 40, 80, 160, 93, 186, 105, 210, 185, 111, 222, 161, 95, 190, 97, 194, 153, 47, 94, 188, 101, 202, 137, 15,
  30, 60, 120, 240, 253, 231, 211, 187, 107, 214, 177, 127, 254, 225, 223, 163, 91, 182, 113, 226, 217, 175, 67,
  134, 17, 34, 68, 136, 13, 26, 52, 104, 208, 189, 103, 206, 129, 31, 62, 124, 248, 237, 199, 147, 59, 118, 236,
  197, 151, 51, 102, 204, 133, 23, 46, 92, 184, 109, 218, 169, 79, 158, 33, 66, 132, 21, 42, 84, 168, 77, 154, 41,
  82, 164, 85, 170, 73, 146, 57, 114, 228, 213, 183, 115, 230, 209, 191, 99, 198, 145, 63, 126, 252, 229, 215, 179,
  123, 246, 241, 255, 227, 219, 171, 75, 150, 49, 98, 196, 149, 55, 110, 220, 165, 87, 174, 65, 130, 25, 50, 100,
  200, 141, 7, 14, 28, 56, 112, 224, 221, 167, 83, 166, 81, 162, 89, 178, 121, 242, 249, 239, 195, 155, 43, 86, 172,
  69, 138, 9, 18, 36, 72, 144, 61, 122, 244, 245, 247, 243, 251, 235, 203, 139, 11, 22, 44, 88, 176, 125, 250, 233,
  207, 131, 27, 54, 108, 216, 173, 71, 142, 1]
def logT : List Nat := [
  0, 0, 1, 25, 2, 50, 26, 198, 3, 223, 51, 238, 27, 104, 199, 75, 4, 100, 224, 14, 52, 141, 239, 129, 28, 193, 105,
  248, 200, 8, 76, 113, 5, 138, 101, 47, 225, 36, 15, 33, 53, 147, 142, 218, 240, 18, 130, 69, 29, 181, 194, 125,
  106, 39, 249, 185, 201, 154, 9, 120, 77, 228, 114, 166, 6, 191, 139, 98, 102, 221, 48, 253, 226, 152, 37, 179,
  16, 145, 34, 136, 54, 208, 148, 206, 143, 150, 219, 189, 241, 210, 19, 92, 131, 56, 70, 64, 30, 66, 182, 163, 195,
  72, 126, 110, 107, 58, 40, 84, 250, 133, 186, 61, 202, 94, 155, 159, 10, 21, 121, 43, 78, 212, 229, 172, 115, 243,
  167, 87, 7, 112, 192, 247, 140, 128, 99, 13, 103, 74, 222, 237, 49, 197, 254, 24, 227, 165, 153, 119, 38, 184,
  180, 124, 17, 68, 146, 217, 35, 32, 137, 46, 55, 63, 209, 91, 149, 188, 207, 205, 144, 135, 151, 178, 220, 252,
  190, 97, 242, 86, 211, 171, 20, 42, 93, 158, 132, 60, 57, 83, 71, 109, 65, 162, 31, 45, 67, 216, 183, 123, 164,
  118, 196, 23, 73, 236, 127, 12, 111, 246, 108, 161, 59, 82, 41, 157, 85, 170, 251, 96, 134, 177, 187, 204, 62,
  90, 203, 89, 95, 176, 156, 169, 160, 81, 11, 245, 22, 235, 122, 117, 44, 215, 79, 174, 213, 233, 230, 231, 173,
  232, 116, 214, 244, 234, 168, 80, 88, 175]

abbrev F := BitVec 8

def ex (n : Nat) : F := BitVec.ofNat 8 (expT.getD (n % 255) 0)
def lg (a : F) : Nat := logT.getD a.toNat 0
def mul (a b : F) : F := if a = 0#8 ∨ b = 0#8 then 0#8 else ex (lg a + lg b)

def xt (x : F) : F := (x <<< 1) ^^^ (if x.msb then 0x1d#8 else 0#8)

theorem all_f {P : F → Prop} [∀ a, Decidable (P a)] (h : (List.range 256).all (fun n => decide (P (BitVec.ofNat 8 n))) = true) : ∀ a, P a := by
  intro a
  have := List.all_eq_true.mp h a.toNat (List.mem_range.mpr a.isLt)
  have h2 := of_decide_eq_true this
  rwa [BitVec.ofNat_toNat, BitVec.setWidth_eq] at h2

theorem ex_lg (a : F) : a ≠ 0#8 → ex (lg a) = a := all_f (P := fun a => a ≠ 0#8 → ex (lg a) = a) (by decide +kernel) a
theorem lg_lt (a : F) : lg a < 255 := all_f (P := fun a => lg a < 255) (by decide +kernel) a
theorem lg_one : lg 1#8 = 0 := by decide +kernel
theorem ex_zero : ex 0 = 1#8 := by decide +kernel
theorem ex_mod (n : Nat) : ex (n % 255) = ex n := by unfold ex; rw [Nat.mod_mod]

theorem all_n {P : Nat → Prop} [∀ a, Decidable (P a)] (h : (List.range 255).all (fun n => decide (P n)) = true) (n : Nat) (hn : n < 255) : P n :=
  of_decide_eq_true (List.all_eq_true.mp h n (List.mem_range.mpr hn))
theorem lg_ex_lt : ∀ n, n < 255 → lg (ex n) = n := all_n (by decide +kernel)
theorem ex_ne_lt : ∀ n, n < 255 → ex n ≠ 0#8 := all_n (by decide +kernel)
theorem ex_succ_lt : ∀ n, n < 255 → ex (n + 1) = xt (ex n) := all_n (by decide +kernel)

theorem lg_ex (n : Nat) : lg (ex n) = n % 255 := by
  rw [← ex_mod]; exact lg_ex_lt _ (Nat.mod_lt _ (by decide))
theorem ex_ne (n : Nat) : ex n ≠ 0#8 := by
  rw [← ex_mod]; exact ex_ne_lt _ (Nat.mod_lt _ (by decide))
theorem ex_succ (n : Nat) : ex (n + 1) = xt (ex n) := by
  rw [← ex_mod n, ← ex_succ_lt _ (Nat.mod_lt _ (by decide)), ← ex_mod (n + 1), ← ex_mod (n % 255 + 1)]
  congr 1; omega
theorem ex_inj {m n : Nat} (h : ex m = ex n) : m % 255 = n % 255 := by
  rw [← lg_ex, ← lg_ex, h]
theorem ex_congr {m n : Nat} (h : m % 255 = n % 255) : ex m = ex n := by
  rw [← ex_mod m, ← ex_mod n, h]
theorem eq_ex {a : F} (h : a ≠ 0#8) : ∃ n, a = ex n := ⟨lg a, (ex_lg a h).symm⟩

theorem mul_ex (m n : Nat) : mul (ex m) (ex n) = ex (m + n) := by
  unfold mul
  rw [if_neg (by rintro (h | h) <;> exact ex_ne _ h), lg_ex, lg_ex]
  apply ex_congr; omega
theorem zero_mul (a : F) : mul 0#8 a = 0#8 := by unfold mul; simp
theorem mul_zero (a : F) : mul a 0#8 = 0#8 := by unfold mul; simp
theorem mul_comm (a b : F) : mul a b = mul b a := by
  unfold mul; rw [Nat.add_comm]; simp only [Or.comm]
theorem mul_assoc (a b c : F) : mul (mul a b) c = mul a (mul b c) := by
  by_cases ha : a = 0#8
  · subst ha; simp [zero_mul]
  by_cases hb : b = 0#8
  · subst hb; simp [zero_mul, mul_zero]
  by_cases hc : c = 0#8
  · subst hc; simp [mul_zero]
  obtain ⟨i, rfl⟩ := eq_ex ha
  obtain ⟨j, rfl⟩ := eq_ex hb
  obtain ⟨k, rfl⟩ := eq_ex hc
  simp only [mul_ex, Nat.add_assoc]
theorem one_mul (a : F) : mul 1#8 a = a := by
  by_cases ha : a = 0#8
  · subst ha; exact mul_zero _
  obtain ⟨i, rfl⟩ := eq_ex ha
  rw [← ex_zero, mul_ex, Nat.zero_add]
theorem mul_one (a : F) : mul a 1#8 = a := by rw [mul_comm, one_mul]
theorem mul_ne {a b : F} (ha : a ≠ 0#8) (hb : b ≠ 0#8) : mul a b ≠ 0#8 := by
  obtain ⟨i, rfl⟩ := eq_ex ha
  obtain ⟨j, rfl⟩ := eq_ex hb
  rw [mul_ex]; exact ex_ne _

theorem xt_xor (a b : F) : xt (a ^^^ b) = xt a ^^^ xt b := by
  unfold xt
  rw [BitVec.shiftLeft_xor_distrib, BitVec.msb_xor]
  cases a.msb <;> cases b.msb <;> simp only [Bool.xor_false, Bool.false_xor, Bool.xor_self, if_true, if_false, Bool.false_eq_true, BitVec.xor_zero]
  all_goals first
    | ac_rfl
    | (rw [BitVec.xor_assoc, BitVec.xor_comm (b <<< 1), ← BitVec.xor_assoc (29#8), BitVec.xor_self, BitVec.zero_xor])

noncomputable def xts : Nat → F → F
  | 0, a => a
  | n + 1, a => xts n (xt a)
theorem xts_xor : ∀ (n : Nat) (a b : F), xts n (a ^^^ b) = xts n a ^^^ xts n b
  | 0, _, _ => rfl
  | n + 1, a, b => by simp only [xts, xt_xor, xts_xor n]
theorem xts_zero : ∀ n : Nat, xts n 0#8 = 0#8
  | 0 => rfl
  | n + 1 => by rw [xts, show xt 0#8 = 0#8 from by decide, xts_zero n]
theorem xts_ex : ∀ n m : Nat, xts n (ex m) = ex (n + m)
  | 0, m => by rw [Nat.zero_add]; rfl
  | n + 1, m => by rw [xts, ← ex_succ, xts_ex n]; congr 1; omega
theorem mul_xts (n : Nat) (b : F) : mul (ex n) b = xts n b := by
  by_cases hb : b = 0#8
  · subst hb; rw [mul_zero, xts_zero]
  obtain ⟨j, rfl⟩ := eq_ex hb
  rw [mul_ex, xts_ex]
theorem mul_xor (a b c : F) : mul a (b ^^^ c) = mul a b ^^^ mul a c := by
  by_cases ha : a = 0#8
  · subst ha; simp [zero_mul]
  obtain ⟨i, rfl⟩ := eq_ex ha
  simp only [mul_xts, xts_xor]
theorem xor_mul (a b c : F) : mul (a ^^^ b) c = mul a c ^^^ mul b c := by
  rw [mul_comm, mul_xor, mul_comm c a, mul_comm c b]

end Mine
end

-- the head
section
namespace Mine
open_top hd for PySem.Challenge.rw_ae6025_01
end Mine
end

-- part W1
section
open PySem PySem.W PyProof.Rows PySem.Spec PySem.Calls
set_option maxRecDepth 100000
set_option maxHeartbeats 8000000
namespace Mine
theorem fill_it : (fun (_ : OpenLaw) => hd.heap_39 = hd.heap_39) PySem.Challenge.rw_ae6025_01 := by k_fill; rfl

def up (a : F) : Int := (a.toNat : Int)
def exI (n : Int) : F := ex (n % 255).toNat

theorem up_lt (a : F) : up a < 256 := by unfold up; have := a.isLt; omega
theorem up_nn (a : F) : 0 ≤ up a := by unfold up; omega
theorem up_inj {a b : F} (h : up a = up b) : a = b := by
  unfold up at h
  exact BitVec.eq_of_toNat_eq (by omega)
theorem up_zero : up 0#8 = 0 := rfl
theorem up_pos {a : F} (h : a ≠ 0#8) : 1 ≤ up a := by
  have h0 := up_nn a
  have : up a ≠ 0 := fun e => h (up_inj (e.trans up_zero.symm))
  omega
theorem up_eq_zero {a : F} (h : up a = 0) : a = 0#8 := up_inj (h.trans up_zero.symm)

theorem up_ne {a : F} (h : up a ≠ 0) : a ≠ 0#8 := fun e => h (e ▸ up_zero)

def tokOf : Option Value → Tok
  | some (.int _ t) => t
  | _ => 0

theorem exp_lookup (P : Params) : ∃ l n d sl, (hd.heap_39 P).lookup 15 = some ⟨.type "list", d, .seq (List.toArray l) n, sl⟩ ∧ ∀ k, k < 255 → l[k]? = some (.int (up (ex k)) (tokOf l[k]?)) := by
  refine ⟨_, _, _, _, by k_is, all_n (by decide +kernel)⟩
theorem log_lookup (P : Params) : ∃ l n d sl, (hd.heap_39 P).lookup 16 = some ⟨.type "list", d, .seq (List.toArray l) n, sl⟩ ∧ ∀ a : F, a ≠ 0#8 → l[a.toNat]? = some (.int (lg a) (tokOf l[a.toNat]?)) := by
  refine ⟨_, _, _, _, by k_is, all_f (by decide +kernel)⟩

section
variable {prog : Program} {w : World} {p : Program} {loose : List Str} {mean : ExcName → Option Value} {mg mb : Str → Option Value} {dp un : Nat} {gd : Option (List Code)} {cn : Str} {cs : Scope} {a : Addr} {ccd : Value} {cl : List (Str × Addr)} {outer : List Env} {A₀ : Around} {base h₀ : Heap} {L : Addr} {m : Str → Option Value} {news : List (Addr × Obj)} {s : Shared} {Q E : Value → Shared → Prop}
theorem exp_item {A : Around} {value slice : PySem.Expr} {n : Int} {u : Tok} {Q : Value → Shared → Prop} {E : Value → Shared → Prop} (F : Fr h₀ L s.heap m) (X : (hd.heap_39 w.params).In h₀)
    (h : ∀ t, Q (.int (up (exI n)) t) s)
    (hs : subscripted slice false (.ref 15) (.int (n.fmod 255) u) = operate [.ref 15, .int (n.fmod 255) u] (getItem (.ref 15) (.int (n.fmod 255) u)) := by with_unfolding_all rfl) :
    wpAny (model prog w) A (subscriptTail value slice (.ref 15) (.int (n.fmod 255) u)) Q E s := by
  obtain ⟨l, k, d, sl, hl, hx⟩ := exp_lookup w.params
  have e : n.fmod 255 = n % 255 := Int.fmod_eq_emod_of_nonneg _ (by decide)
  have h0 : 0 ≤ n % 255 := Int.emod_nonneg _ (by decide)
  have h1 : n % 255 < 255 := Int.emod_lt_of_pos _ (by decide)
  exact topList_K F X hl (by omega) (by omega) (by rw [e]; exact hx _ (by omega)) (h _) hs
theorem log_item {A : Around} {value slice : PySem.Expr} {b : F} {u : Tok} {Q : Value → Shared → Prop} {E : Value → Shared → Prop} (F : Fr h₀ L s.heap m) (X : (hd.heap_39 w.params).In h₀) (hb : b ≠ 0#8)
    (h : ∀ t, Q (.int (lg b) t) s)
    (hs : subscripted slice false (.ref 16) (.int (up b) u) = operate [.ref 16, .int (up b) u] (getItem (.ref 16) (.int (up b) u)) := by with_unfolding_all rfl) :
    wpAny (model prog w) A (subscriptTail value slice (.ref 16) (.int (up b) u)) Q E s := by
  obtain ⟨l, k, d, sl, hl, hx⟩ := log_lookup w.params
  exact topList_K F X hl (up_nn b) (by have := up_lt b; omega) (hx b hb) (h _) hs

local macro_rules | `(tactic| walk_at "subscriptTail") => `(tactic| (k_here; (with_reducible show wpAny _ _ (subscriptTail _ _ (Value.ref 15) (Value.int (Int.fmod _ 255) _)) _ _ _); k_dflt (refine' exp_item ?F ?X ?_; (case F => k_asm); (case X => k_asm); k_whole); intro t9))
local macro_rules | `(tactic| walk_at "subscriptTail") => `(tactic| (k_here; (with_reducible show wpAny _ _ (subscriptTail _ _ (Value.ref 16) (Value.int (up _) _)) _ _ _); k_dflt (refine' log_item ?F ?X ?b ?_; (case F => k_asm); (case X => k_asm); (case b => assumption); k_whole); intro t9))

theorem gexp_call {n : Int} {t : Tok} (B : Below A₀ base outer h₀) (F : Fr h₀ L s.heap m) (X : (hd.heap_39 w.params).In h₀) (N : News h₀ L s.heap news) (T : Top p loose mean mg mb h₀) (hk : cs.kind = .function) (hd1 : dp + 1 < recursionLimit) (hu : un + 8 < cLine)
   (hret : ∀ (t : Tok) h' tk', Fr h₀ L h' m → News h₀ L h' news → Q (.int (up (exI n)) t) {s with heap := h', toks := tk'}) : wpAny (model prog w) (ktrTop dp un gd cn cs L a ccd cl outer) (call (.ref 30) [.int n t]) Q E s := by
  w_top off
  refine wpAny_call ?_
  k_dflt cell_enter
  k_steps
  all_goals cb_end hret

theorem glog_call {b : F} {t : Tok} (hb : b ≠ 0#8) (B : Below A₀ base outer h₀) (F : Fr h₀ L s.heap m) (X : (hd.heap_39 w.params).In h₀) (N : News h₀ L s.heap news) (T : Top p loose mean mg mb h₀) (hk : cs.kind = .function) (hd1 : dp + 1 < recursionLimit) (hu : un + 8 < cLine)
   (hret : ∀ (t : Tok) h' tk', Fr h₀ L h' m → News h₀ L h' news → Q (.int (lg b) t) {s with heap := h', toks := tk'}) : wpAny (model prog w) (ktrTop dp un gd cn cs L a ccd cl outer) (call (.ref 23) [.int (up b) t]) Q E s := by
  have h1 := up_pos hb
  have h2 := up_lt b
  refine wpAny_call ?_
  k_dflt cell_enter
  k_steps
  all_goals cb_end hret
end
end Mine
end

-- part L1
section
open PySem PySem.W PyProof.Rows PySem.Spec PySem.Calls
set_option maxRecDepth 100000
namespace Mine

theorem frm1 {m m₀ : Str → Option Value} {a : Str} (h : ∀ z, z ≠ a → m z = m₀ z) : m = fun z => if z = a then m a else m₀ z := by
  funext z
  by_cases h1 : z = a
  · subst h1; rw [if_pos rfl]
  rw [if_neg h1, h z h1]
theorem frm2 {m m₀ : Str → Option Value} {a b : Str} (h : ∀ z, z ≠ a → z ≠ b → m z = m₀ z) : m = fun z => if z = a then m a else if z = b then m b else m₀ z := by
  funext z
  by_cases h1 : z = a
  · subst h1; rw [if_pos rfl]
  by_cases h2 : z = b
  · subst h2; rw [if_neg h1, if_pos rfl]
  rw [if_neg h1, if_neg h2, h z h1 h2]
theorem frm3 {m m₀ : Str → Option Value} {a b c : Str} (h : ∀ z, z ≠ a → z ≠ b → z ≠ c → m z = m₀ z) : m = fun z => if z = a then m a else if z = b then m b else if z = c then m c else m₀ z := by
  funext z
  by_cases h1 : z = a
  · subst h1; rw [if_pos rfl]
  by_cases h2 : z = b
  · subst h2; rw [if_neg h1, if_pos rfl]
  by_cases h3 : z = c
  · subst h3; rw [if_neg h1, if_neg h2, if_pos rfl]
  rw [if_neg h1, if_neg h2, if_neg h3, h z h1 h2 h3]
theorem frm4 {m m₀ : Str → Option Value} {a b c d : Str} (h : ∀ z, z ≠ a → z ≠ b → z ≠ c → z ≠ d → m z = m₀ z) : m = fun z => if z = a then m a else if z = b then m b else if z = c then m c else if z = d then m d else m₀ z := by
  funext z
  by_cases h1 : z = a
  · subst h1; rw [if_pos rfl]
  by_cases h2 : z = b
  · subst h2; rw [if_neg h1, if_pos rfl]
  by_cases h3 : z = c
  · subst h3; rw [if_neg h1, if_neg h2, if_pos rfl]
  by_cases h4 : z = d
  · subst h4; rw [if_neg h1, if_neg h2, if_neg h3, if_pos rfl]
  rw [if_neg h1, if_neg h2, if_neg h3, if_neg h4, h z h1 h2 h3 h4]

/-- two parts of a ledger lie apart -/
def Off (a b : List (Addr × Obj)) : Prop := ∀ p ∈ a, ∀ q ∈ b, p.1 ≠ q.1
theorem Off.nil {b : List (Addr × Obj)} : Off [] b := fun _ h => nomatch h
theorem Off.cons {a : Addr} {o : Obj} {r b : List (Addr × Obj)} (h : ∀ q ∈ b, q.1 ≠ a) (k : Off r b) : Off ((a, o) :: r) b := fun p hp q hq => by
  rcases List.mem_cons.mp hp with rfl | hp
  · exact fun e => h q hq e.symm
  · exact k p hp q hq
theorem Off.sub {a b c : List (Addr × Obj)} (h : Off a b) (k : ∀ p ∈ c, p ∈ b) : Off a c := fun p hp q hq => h p hp q (k q hq)
theorem Off.head {a : Addr} {o : Obj} {r b : List (Addr × Obj)} (h : Off ((a, o) :: r) b) : ∀ q ∈ b, q.1 ≠ a := fun q hq e => h _ (.head _) q hq e.symm
theorem Off.tail {a : Addr} {o : Obj} {r b : List (Addr × Obj)} (h : Off ((a, o) :: r) b) : Off r b := fun p hp q hq => h p (.tail _ hp) q hq

theorem ints_item {vs : List Value} {ns : List Int} {i : Nat} {v : Value} (hi : IntsAre vs ns) (hv : vs[i]? = some v) : ∃ n t, ns[i]? = some n ∧ v = .int n t ∧ ns.take (i + 1) = ns.take i ++ [n] := by
  have hl := hi.length
  have h1 : i < ns.length := by have := (List.getElem?_eq_some_iff.mp hv).1; omega
  have h2 := List.getElem?_eq_getElem h1
  obtain ⟨t, hx⟩ := hi.get i _ h2
  rw [hv] at hx
  exact ⟨_, t, h2, Option.some.inj hx, by rw [List.take_add_one, h2]; rfl⟩

theorem news_poly {h₀ h : Heap} {L : Addr} {a b c d x y : Addr × Obj} {r : List (Addr × Obj)} (N : News h₀ L h (a :: b :: c :: d :: x :: y :: r)) : News h₀ L h (x :: y :: a :: r) := fun p hp => N p (by
  simp only [List.mem_cons] at hp ⊢
  rcases hp with h | h | h | h <;> simp only [h, true_or, or_true])
theorem lt_all {news : List (Addr × Obj)} {d : Addr} (h : ∀ p ∈ news, p.1 < d) : ∀ p ∈ news, p.1 ≠ d := fun p hp => Nat.ne_of_lt (h p hp)
theorem news_drop2 {h₀ h : Heap} {L : Addr} {a b : Addr × Obj} {c : List (Addr × Obj)} (N : News h₀ L h (a :: b :: c)) : News h₀ L h (a :: c) := fun p hp => N p (by
  rcases List.mem_cons.mp hp with rfl | hp
  · exact .head _
  · exact .tail _ (.tail _ hp))
theorem news_drop1 {h₀ h : Heap} {L : Addr} {a : Addr × Obj} {c : List (Addr × Obj)} (N : News h₀ L h (a :: c)) : News h₀ L h c := fun p hp => N p (.tail _ hp)

/-- a turn's end: the local part of the ledger may have turned, the rest stands -/
def TurnEnd (h₀ : Heap) (L : Addr) (J : (Str → Option Value) → List (Addr × Obj) → Prop) (nw : List (Addr × Obj)) (s s₂ : Shared) : Prop :=
  ∃ h' tk m' loc', s₂ = { s with heap := h', toks := tk } ∧ Fr h₀ L h' m' ∧ News h₀ L h' (loc' ++ nw) ∧ Off loc' nw ∧ J m' loc'
def TurnPost (h₀ : Heap) (L : Addr) (J : (Str → Option Value) → List (Addr × Obj) → Prop) (nw : List (Addr × Obj)) (s : Shared) (Q : Flow → Shared → Prop) (f : Flow) (s₂ : Shared) : Prop :=
  match f with
  | .ret v => Q (.ret v) s₂
  | .brk => Q .next s₂
  | _ => TurnEnd h₀ L J nw s s₂
theorem TurnEnd.intro {h₀ h' : Heap} {L : Addr} {J : (Str → Option Value) → List (Addr × Obj) → Prop} {m' : Str → Option Value} {loc' nw news' : List (Addr × Obj)} {s : Shared} {tk : Nat} (F : Fr h₀ L h' m') (N : News h₀ L h' news')
    (hs : ∀ p ∈ loc' ++ nw, p ∈ news') (ho : Off loc' nw) (hj : J m' loc') : TurnEnd h₀ L J nw s { s with heap := h', toks := tk } := ⟨h', tk, m', loc', rfl, F, fun p hp => N p (hs p hp), ho, hj⟩

section
variable {prog : Program} {w : World} {A : Around} {E : Value → Shared → Prop} {s : Shared} {env : Env} {h₀ : Heap} {x : Str} {body : List Stmt} {Q : Flow → Shared → Prop}

theorem loopAt_of {I : Addr} {fp wr : List Addr} {n : Nat} {P : Nat → Value → Prop} {St : Nat → Heap → Prop} {m : Str → Option Value} {loc news : List (Addr × Obj)}
    (J : Nat → (Str → Option Value) → List (Addr × Obj) → Prop) (W : Walks prog w A I fp wr n P St) (hst : St 0 s.heap) (hLf : env.locals ∉ fp) (hwr : ∀ b ∈ wr, h₀.get? b = none)
    (hnw : ∀ p ∈ news, p.1 ∉ wr) (hloc : ∀ p ∈ loc, p.1 ∉ fp) (live : ∀ i h, St i h → ∀ b ∈ fp, ∃ o, h.get? b = some o)
    (F : Fr h₀ env.locals s.heap m) (N : News h₀ env.locals s.heap (loc ++ news)) (ho : Off loc news) (h0 : J 0 m loc)
    (step : ∀ i v m₁ loc₁ h tk nw, i < n → P i v → J i m₁ loc₁ → (∀ p ∈ news, p ∈ nw) → Off loc₁ nw → Fr h₀ env.locals h (fun y => if y = x then some v else m₁ y) → News h₀ env.locals h (loc₁ ++ nw) →
      wpAny (model prog w) A (execs body env) (TurnPost h₀ env.locals (J (i + 1)) nw s Q) E { s with heap := h, toks := tk })
    (done : ∀ m₁ loc₁ h tk, J n m₁ loc₁ → Off loc₁ news → Fr h₀ env.locals h m₁ → News h₀ env.locals h (loc₁ ++ news) → Q .next { s with heap := h, toks := tk }) :
    LoopAtV prog w A h₀ env x body Q E (.ref I) s := by
  have wrfp : ∀ b ∈ wr, b ∈ fp := W.sub
  let J' : Nat → (Str → Option Value) → List (Addr × Obj) → Prop := fun i m₁ news₁ => ∃ loc₁, news₁ = loc₁ ++ news ∧ Off loc₁ news ∧ (∀ p ∈ loc₁, p.1 ∉ fp) ∧ J i m₁ loc₁
  refine ⟨I, fp, wr, n, P, St, m, loc ++ news, J', rfl, W, hLf, hwr, ?_, hst, F, N, ⟨loc, rfl, ho, hloc, h0⟩, ?_, ?_⟩
  · intro p hp
    rcases List.mem_append.mp hp with hp | hp
    · exact fun hb => hloc p hp (wrfp _ hb)
    · exact hnw p hp
  · rintro i v m₁ news₁ s₁ own ⟨h, tk, rfl⟩ hi hP ⟨loc₁, rfl, ho₁, hl₁, hJ⟩ _ hown hget hall hst₁ F₁ N₁
    have N₂ : News h₀ env.locals h (loc₁ ++ (own ++ news)) := fun p hp => N₁ p (by
      simp only [List.mem_append] at hp ⊢
      rcases hp with hp | hp | hp
      · exact .inr (.inl hp)
      · exact .inl hp
      · exact .inr (.inr hp))
    have ho₂ : Off loc₁ (own ++ news) := fun p hp q hq => by
      rcases List.mem_append.mp hq with hq | hq
      · exact fun e => hl₁ p hp (e ▸ hown q hq)
      · exact ho₁ p hp q hq
    refine wpAny_mono (step i v m₁ loc₁ h tk (own ++ news) hi hP hJ (fun p hp => List.mem_append_right _ hp) ho₂ F₁ N₂) (fun f s₂ q => ?_) fun _ _ e => e
    have fin : TurnEnd h₀ env.locals (J (i + 1)) (own ++ news) s s₂ → LoopStepU h₀ env.locals wr own (J' (i + 1)) { s with heap := h, toks := tk } .next s₂ := by
      rintro ⟨h', tk', m', loc', rfl, F', N', ho', hJ'⟩
      have hf : ∀ p ∈ loc', p.1 ∉ fp := fun p hp hb => by
        obtain ⟨o, hoo⟩ := live _ _ hst₁ _ hb
        have h1 := (N' p (List.mem_append_left _ hp)).2.2
        exact ho' p hp _ (List.mem_append_left _ (hall _ hb h1 _ hoo)) rfl
      refine ⟨rfl, h', tk', m', loc' ++ news, rfl, F', fun p hp => N' p ?_, ?_, loc', rfl, ?_, hf, hJ'⟩
      · simp only [List.mem_append] at hp ⊢
        rcases hp with hp | hp | hp
        · exact .inr (.inl hp)
        · exact .inl hp
        · exact .inr (.inr hp)
      · intro p hp
        rcases List.mem_append.mp hp with hp | hp
        · exact fun hb => hf p hp (wrfp _ hb)
        · exact hnw p hp
      · exact ho'.sub fun p hp => List.mem_append_right _ hp
    cases f with
    | ret v => exact .ret q
    | brk => exact .brk q
    | next => exact .next (fin q)
    | cont => exact .cont (fin q)
  · rintro h tk m₁ news₁ F₁ N₁ _ ⟨loc₁, rfl, ho₁, _, hJ⟩
    exact done m₁ loc₁ h tk hJ ho₁ F₁ N₁

/-- a list of the ledger -/
theorem iter_list {l : Addr} {vs : List Value} {k : Nat} {m : Str → Option Value} {loc news : List (Addr × Obj)} (J : (Str → Option Value) → Nat → (Str → Option Value) → List (Addr × Obj) → Prop)
    (hh : A.handled = none) (hl : (l, listOf vs.toArray k) ∈ news) (F : Fr h₀ env.locals s.heap m) (N : News h₀ env.locals s.heap (loc ++ news)) (ho : Off loc news) (h0 : J m 0 m loc)
    (step : ∀ i v m₁ loc₁ h tk nw, vs[i]? = some v → J m i m₁ loc₁ → (∀ p ∈ news, p ∈ nw) → Off loc₁ nw → Fr h₀ env.locals h (fun y => if y = x then some v else m₁ y) → News h₀ env.locals h (loc₁ ++ nw) →
      wpAny (model prog w) A (execs body env) (TurnPost h₀ env.locals (J m (i + 1)) nw s Q) E { s with heap := h, toks := tk })
    (done : ∀ m₁ loc₁ h tk, J m vs.length m₁ loc₁ → Off loc₁ news → Fr h₀ env.locals h m₁ → News h₀ env.locals h (loc₁ ++ news) → Q .next { s with heap := h, toks := tk }) :
    wpAny (model prog w) A (pyIter (.ref l)) (fun it s₂ => LoopAtV prog w A h₀ env x body Q E it s₂) E s := by
  have hN := N _ (List.mem_append_right loc hl)
  have hls : s.heap.IsList l vs.toArray := ⟨_, hN.1, rfl, _, rfl⟩
  have hlt : l < s.heap.objs.size := Heap.lt_size hN.1
  have hne : l ≠ s.heap.objs.size := Nat.ne_of_lt hlt
  have lt : ∀ p ∈ loc ++ news, p.1 < s.heap.objs.size := fun p hp => Heap.lt_size (N p hp).1
  refine wpAny_pyIter_list hls ?_
  have W := Walks.list (prog := prog) (w := w) hh s.heap.objs.size l hne vs.toArray
  have N₁ : News h₀ env.locals (s.heap.push { cls := .type "list_iterator", data := .fields #[.ref l, .int 0 0] }) (loc ++ news) := fun p hp => ⟨Heap.get?_push_of_some _ (N p hp).1, (N p hp).2⟩
  refine loopAt_of (s := { s with heap := s.heap.push { cls := .type "list_iterator", data := .fields #[.ref l, .int 0 0] } }) (J m) W ⟨⟨_, Heap.get?_push_size _ rfl, rfl, rfl⟩, hls.at fun o e => Heap.get?_push_of_some _ e⟩ ?_ ?_ ?_ ?_ ?_ (F.push _) N₁ ho h0 ?_ ?_
  · intro hm
    rcases List.mem_cons.mp hm with e | hm
    · exact absurd F.ns.lt (e ▸ Nat.lt_irrefl _)
    · exact hN.2.1 (List.mem_singleton.mp hm).symm
  · intro b hb
    rw [List.mem_singleton.mp hb]
    exact next_is_new F
  · intro p hp hb
    exact absurd (lt p (List.mem_append_right _ hp)) (by rw [List.mem_singleton.mp hb]; exact Nat.lt_irrefl _)
  · intro p hp hb
    rcases List.mem_cons.mp hb with e | hb
    · exact absurd (lt p (List.mem_append_left _ hp)) (by rw [e]; exact Nat.lt_irrefl _)
    · exact ho p hp _ hl (List.mem_singleton.mp hb)
  · rintro i h ⟨⟨o, h1, _⟩, ⟨o', h2, _⟩⟩ b hb
    rcases List.mem_cons.mp hb with e | hb
    · exact ⟨o, e ▸ h1⟩
    · exact ⟨o', (List.mem_singleton.mp hb) ▸ h2⟩
  · intro i v m₁ loc₁ h tk nw hi hP
    exact step i v m₁ loc₁ h tk nw (by simpa using hP)
  · intro m₁ loc₁ h tk hJ
    exact done m₁ loc₁ h tk (by simpa using hJ)

/-- range(n) -/
theorem iter_range {r : Addr} {b₀ : Int} {t₀ u₀ v₀ : Tok} {n : Nat} {m : Str → Option Value} {loc news : List (Addr × Obj)} (J : (Str → Option Value) → Nat → (Str → Option Value) → List (Addr × Obj) → Prop)
    (hh : A.handled = none) (hr : IsRange s.heap r 0 b₀ 1 t₀ u₀ v₀) (hb : b₀ = (n : Int)) (hz : n < 2 ^ 62) (F : Fr h₀ env.locals s.heap m) (N : News h₀ env.locals s.heap (loc ++ news)) (ho : Off loc news) (h0 : J m 0 m loc)
    (step : ∀ i t m₁ loc₁ h tk nw, i < n → J m i m₁ loc₁ → (∀ p ∈ news, p ∈ nw) → Off loc₁ nw → Fr h₀ env.locals h (fun y => if y = x then some (.int (i : Int) t) else m₁ y) → News h₀ env.locals h (loc₁ ++ nw) →
      wpAny (model prog w) A (execs body env) (TurnPost h₀ env.locals (J m (i + 1)) nw s Q) E { s with heap := h, toks := tk })
    (done : ∀ m₁ loc₁ h tk, J m n m₁ loc₁ → Off loc₁ news → Fr h₀ env.locals h m₁ → News h₀ env.locals h (loc₁ ++ news) → Q .next { s with heap := h, toks := tk }) :
    wpAny (model prog w) A (pyIter (.ref r)) (fun it s₂ => LoopAtV prog w A h₀ env x body Q E it s₂) E s := by
  subst hb
  have lt : ∀ p ∈ loc ++ news, p.1 < s.heap.objs.size := fun p hp => Heap.lt_size (N p hp).1
  have hsz : Builtin.Range.rangeSize 0 (n : Int) 1 = (n : Int) := by rw [rangeSize_one]; split <;> omega
  refine wpAny_pyIter_range hr (small_one (by omega) (by omega) (by omega) (by omega)) ?_
  rw [hsz]
  have W := Walks.range (prog := prog) (w := w) hh s.heap.objs.size 0 1 n
  have N₁ : News h₀ env.locals (s.heap.push { cls := .type "range_iterator", data := .fields #[rawInt 0, rawInt (n : Int), rawInt 1] }) (loc ++ news) := fun p hp => ⟨Heap.get?_push_of_some _ (N p hp).1, (N p hp).2⟩
  refine loopAt_of (s := { s with heap := s.heap.push { cls := .type "range_iterator", data := .fields #[rawInt 0, rawInt (n : Int), rawInt 1] } }) (J m) W ?_ ?_ ?_ ?_ ?_ ?_ (F.push _) N₁ ho h0 ?_ ?_
  · show IsRangeIter _ _ _ _ _
    simpa using Heap.get?_push_size _ rfl
  · intro hm
    exact absurd F.ns.lt ((List.mem_singleton.mp hm) ▸ Nat.lt_irrefl _)
  · intro b hb
    rw [List.mem_singleton.mp hb]
    exact next_is_new F
  · intro p hp hb
    exact absurd (lt p (List.mem_append_right _ hp)) (by rw [List.mem_singleton.mp hb]; exact Nat.lt_irrefl _)
  · intro p hp hb
    exact absurd (lt p (List.mem_append_left _ hp)) (by rw [List.mem_singleton.mp hb]; exact Nat.lt_irrefl _)
  · intro i h hst b hb
    rw [List.mem_singleton.mp hb]
    exact ⟨_, hst⟩
  · rintro i v m₁ loc₁ h tk nw hi ⟨t, rfl⟩
    have e : (0 : Int) + (i : Int) * 1 = (i : Int) := by omega
    rw [e]
    exact step i t m₁ loc₁ h tk nw hi
  · intro m₁ loc₁ h tk hJ
    exact done m₁ loc₁ h tk hJ

/-- the walk stands still here -/
structure Stop (P : Prop) : Prop where
  out : P

/-- one statement now, the rest behind a stop -/
theorem execs_stop {st : Stmt} {rest : List Stmt} (h : wpAny (model prog w) A (exec st env) (fun f s' => match f with | .next => Stop (wpAny (model prog w) A (execs rest env) Q E s') | f => Q f s') E s) :
    wpAny (model prog w) A (execs (st :: rest) env) Q E s := by
  refine wpAny_execs_cons (wpAny_mono h (fun f s' q => ?_) fun _ _ e => e)
  cases f <;> first | exact q.out | exact q

/-- a while: its test is walked at every turn, its body behind a stop -/
theorem While_stop {L : Addr} {test : PySem.Expr} {pos : Pos} {m : Str → Option Value} {news : List (Addr × Obj)} (J : (Str → Option Value) → Nat → (Str → Option Value) → List (Addr × Obj) → Prop) {n₀ : Nat}
    (F : Fr h₀ L s.heap m) (N : News h₀ L s.heap news) (hJ : J m n₀ m news)
    (turn : ∀ n m₁ news₁ h₁ tk₁, Fr h₀ L h₁ m₁ → News h₀ L h₁ news₁ → J m n m₁ news₁ →
      wpAny (model prog w) A (isTrue test env (eval test env)) (fun b s₂ =>
        if b = true then Stop (wpAny (model prog w) A (execs body env) (WhileStep h₀ L s (J m) n) E s₂) else Stop (Q .next s₂)) E { s with heap := h₁, toks := tk₁ })
    (hE : PassesOwn (model prog w) A env E := by passes_own) :
    wpAny (model prog w) A (exec (.While test body [] pos) env) Q E s :=
  While_inv (J m) F N hJ (fun n m₁ news₁ h₁ tk₁ F₁ N₁ hj => wpAny_mono (turn n m₁ news₁ h₁ tk₁ F₁ N₁ hj) (fun b s₂ q => by
    cases b
    · simp only [Bool.false_eq_true, if_false] at q ⊢; exact q.out
    · simp only [if_true] at q ⊢; exact q.out) fun _ _ e => e) hE

/-- a for: its source is walked, its iterator not yet taken -/
theorem For_stop {m : Str → Option Value} {px pos : Pos} {iter : PySem.Expr} (F : Fr h₀ env.locals s.heap m) (hx : env.kindOf x = some .local)
    (hp : (env.scope.kind == .class || (env.scope.kind == .module && env.locals != env.globals)) = false)
    (h : wpAny (model prog w) A (eval iter env) (fun xv s₁ => Stop (wpAny (model prog w) A (pyIter xv) (fun it s₂ => LoopAtV prog w A h₀ env x body Q E it s₂) E s₁)) E s)
    (hs : ∀ x, foldedSetIterable iter env x = pure x := by intro _; rfl)
    (hE : PassesOwn (model prog w) A env E := by passes_own) :
    wpAny (model prog w) A (exec (.For (.Name x px) iter body [] pos) env) Q E s :=
  For_invVF F hx hp (wpAny_mono h (fun _ _ q => q.out) fun _ _ e => e) hs hE
end
end Mine
end

-- part W1b
section
open PySem PySem.W PyProof.Rows PySem.Spec PySem.Calls
set_option maxRecDepth 100000
set_option maxHeartbeats 8000000
namespace Mine
def cf (p : List F) (i : Nat) : F := p.getD i 0#8

theorem xor_and_nat : ∀ a b : Nat, (a ^^^ b) + 2 * (a &&& b) = a + b := by
  intro a
  induction a using Nat.strongRecOn with
  | ind a ih =>
    intro b
    by_cases h0 : a = 0
    · subst h0; simp
    have h := ih (a / 2) (by omega) (b / 2)
    have e1 : (a ^^^ b) / 2 = a / 2 ^^^ b / 2 := Nat.xor_div_two
    have e2 : (a &&& b) / 2 = a / 2 &&& b / 2 := Nat.and_div_two
    have e3 : (a ^^^ b) % 2 = (a % 2 + b % 2) % 2 := by
      have h1 : (a ^^^ b) % 2 = (a % 2) ^^^ (b % 2) := by
        have := Nat.xor_mod_two_pow (a := a) (b := b) (n := 1)
        simpa using this
      rw [h1]
      have ha : a % 2 = 0 ∨ a % 2 = 1 := by omega
      have hb : b % 2 = 0 ∨ b % 2 = 1 := by omega
      rcases ha with ha | ha <;> rcases hb with hb | hb <;> rw [ha, hb] <;> rfl
    have e4 : (a &&& b) % 2 = (a % 2) * (b % 2) := by
      have h1 : (a &&& b) % 2 = (a % 2) &&& (b % 2) := by
        have := Nat.and_mod_two_pow (a := a) (b := b) (n := 1)
        simpa using this
      rw [h1]
      have ha : a % 2 = 0 ∨ a % 2 = 1 := by omega
      have hb : b % 2 = 0 ∨ b % 2 = 1 := by omega
      rcases ha with ha | ha <;> rcases hb with hb | hb <;> rw [ha, hb] <;> rfl
    have ha : a % 2 = 0 ∨ a % 2 = 1 := by omega
    have hb : b % 2 = 0 ∨ b % 2 = 1 := by omega
    rw [← e1, ← e2] at h
    generalize a ^^^ b = X at *
    generalize a &&& b = Y at *
    rcases ha with ha | ha <;> rcases hb with hb | hb <;> rw [ha, hb] at e3 e4 <;> simp only [Nat.mul_zero, Nat.zero_mul, Nat.mul_one] at e3 e4 <;> omega

theorem bitXor_up (a b : F) : Builtin.bitXor (up a) (up b) = up (a ^^^ b) := by
  rw [bitXor_and]
  have ha := up_nn a
  have hb := up_nn b
  have e : Builtin.bitAnd (up a) (up b) = ((a.toNat &&& b.toNat : Nat) : Int) := by
    unfold Builtin.bitAnd
    rw [decide_eq_true ha, decide_eq_true hb]
    rfl
  rw [e]
  have h := xor_and_nat a.toNat b.toNat
  unfold up
  rw [BitVec.toNat_xor]
  omega

theorem map_up_getD (p : List F) (j : Nat) : (p.map up).getD j 0 = up (cf p j) := by
  unfold cf
  rw [List.getD_eq_getElem?_getD, List.getD_eq_getElem?_getD, List.getElem?_map]
  cases p[j]? <;> rfl
theorem map_up_set (p : List F) (j : Nat) (x : F) : (p.map up).set j (up x) = (p.set j x).map up := by rw [List.map_set]

def tab (n : Nat) (f : Nat → F) : List F := (List.range n).map f
theorem tab_length (n : Nat) (f : Nat → F) : (tab n f).length = n := by simp [tab]
theorem tab_get (n : Nat) (f : Nat → F) (j : Nat) (h : j < n) : (tab n f)[j]? = some (f j) := by simp [tab, h]
theorem cf_tab (n : Nat) (f : Nat → F) (j : Nat) : cf (tab n f) j = if j < n then f j else 0#8 := by
  unfold cf
  rw [List.getD_eq_getElem?_getD]
  by_cases h : j < n
  · rw [tab_get n f j h, if_pos h]; rfl
  · rw [List.getElem?_eq_none (by rw [tab_length]; omega), if_neg h]; rfl
theorem cf_out (p : List F) (j : Nat) (h : p.length ≤ j) : cf p j = 0#8 := by
  unfold cf; rw [List.getD_eq_getElem?_getD, List.getElem?_eq_none h]; rfl
theorem cf_get (p : List F) (j : Nat) (h : j < p.length) : p[j]? = some (cf p j) := by
  unfold cf; rw [List.getD_eq_getElem?_getD, List.getElem?_eq_getElem h]; rfl
theorem list_ext {p q : List F} (hl : p.length = q.length) (h : ∀ j, j < p.length → cf p j = cf q j) : p = q := by
  apply List.ext_getElem? 
  intro j
  by_cases hj : j < p.length
  · rw [cf_get p j hj, cf_get q j (hl ▸ hj), h j hj]
  · rw [List.getElem?_eq_none (by omega), List.getElem?_eq_none (by omega)]
theorem cf_set (p : List F) (j k : Nat) (x : F) (h : j < p.length) : cf (p.set j x) k = if k = j then x else cf p k := by
  unfold cf
  rw [List.getD_eq_getElem?_getD, List.getD_eq_getElem?_getD, List.getElem?_set]
  by_cases e : k = j
  · subst e; simp [h]
  · rw [if_neg (fun q => e q.symm), if_neg e]
theorem cf_append (p q : List F) (j : Nat) : cf (p ++ q) j = if j < p.length then cf p j else cf q (j - p.length) := by
  unfold cf
  rw [List.getD_eq_getElem?_getD, List.getD_eq_getElem?_getD, List.getD_eq_getElem?_getD]
  by_cases h : j < p.length
  · rw [if_pos h, List.getElem?_append_left h]
  · rw [if_neg h, List.getElem?_append_right (by omega)]

theorem ups_item {vs : List Value} {q : List F} {j : Nat} {v : Value} (hi : IntsAre vs (List.map up q)) (hv : vs[j]? = some v) : j < q.length ∧ ∃ t, v = .int (up (cf q j)) t := by
  have hl := hi.length
  rw [List.length_map] at hl
  have h1 : j < q.length := by have := (List.getElem?_eq_some_iff.mp hv).1; omega
  obtain ⟨t, hx⟩ := hi.get j (up (cf q j)) (by rw [List.getElem?_map, cf_get q j h1]; rfl)
  rw [hv] at hx
  exact ⟨h1, t, Option.some.inj hx⟩
theorem ups_of {vs : List Value} : ∀ {n : Nat} {f : Nat → F}, vs.length = n → (∀ (i : Nat) (v : Value), vs[i]? = some v → ∃ t, v = Value.int (up (f i)) t) → IntsAre vs (List.map up (tab n f)) := by
  induction vs with
  | nil => intro n f hl _; subst hl; exact IntsAre.nil
  | cons v r ih =>
    intro n f hl h
    subst hl
    obtain ⟨t, e⟩ := h 0 v rfl
    subst e
    have := ih (n := r.length) (f := fun i => f (i + 1)) rfl fun i u hu => h (i + 1) u (by simpa using hu)
    have e : tab (r.length + 1) f = f 0 :: tab r.length (fun i => f (i + 1)) := by
      unfold tab; rw [List.range_succ_eq_map]; simp [Function.comp_def]
    show IntsAre _ (List.map up (tab (r.length + 1) f))
    rw [e]
    exact IntsAre.cons _ _ this

theorem exI_add (b : F) (hb : b ≠ 0#8) (n : Int) : exI ((lg b : Int) + n) = mul b (exI n) := by
  obtain ⟨i, rfl⟩ := eq_ex hb
  unfold exI
  rw [mul_ex, lg_ex]
  apply ex_congr
  omega

section
variable {prog : Program} {w : World} {p : Program} {loose : List Str} {mean : ExcName → Option Value} {mg mb : Str → Option Value} {dp un : Nat} {gd : Option (List Code)} {cn : Str} {cs : Scope} {a : Addr} {ccd : Value} {cl : List (Str × Addr)} {outer : List Env} {A₀ : Around} {base h₀ : Heap} {L : Addr} {m : Str → Option Value} {news : List (Addr × Obj)} {s : Shared} {Q E : Value → Shared → Prop}
section
variable {A : Around} {Q : Value → Shared → Prop} {E : Value → Shared → Prop} {D : Addr} {vs : List Value} {q : List F} {n j : Nat} {k : Int} {u : Tok}
theorem up_get (N : News h₀ L s.heap news) (hm : (D, listOf vs.toArray n) ∈ news) (hi : IntsAre vs (List.map up q)) (hk : k = (j : Int)) (h1 : j < q.length) (hfit : k < 2 ^ 63) (h : ∀ t, Q (.int (up (cf q j)) t) s) :
    wpAny (model prog w) A (getItem (.ref D) (.int k u)) Q E s := by
  subst hk
  refine ksa_get N hm hi (by omega) (by simpa using h1) hfit fun t => ?_
  rw [Int.toNat_natCast, map_up_getD]; exact h t
theorem up_sub {value slice : PySem.Expr} (N : News h₀ L s.heap news) (hm : (D, listOf vs.toArray n) ∈ news) (hi : IntsAre vs (List.map up q)) (hk : k = (j : Int)) (h1 : j < q.length) (hfit : k < 2 ^ 63) (h : ∀ t, Q (.int (up (cf q j)) t) s)
    (hs : subscripted slice false (.ref D) (.int k u) = operate [.ref D, .int k u] (getItem (.ref D) (.int k u)) := by with_unfolding_all rfl) :
    wpAny (model prog w) A (subscriptTail value slice (.ref D) (.int k u)) Q E s := by
  subst hk
  refine ksa_sub N hm hi (by omega) (by simpa using h1) hfit (fun t => ?_) hs
  rw [Int.toNat_natCast, map_up_getD]; exact h t
theorem up_set {Q : Unit → Shared → Prop} {news' : List (Addr × Obj)} {x : F} {t : Tok} (F : Fr h₀ L s.heap m) (N : News h₀ L s.heap news) (U : Upd D (listOf vs.toArray n) (listOf (vs.set j (.int (up x) u)).toArray n) news news') (hi : IntsAre vs (List.map up q)) (hk : k = (j : Int)) (h1 : j < q.length) (hfit : k < 2 ^ 63)
    (h : ∀ h', Fr h₀ L h' m → News h₀ L h' news' → IntsAre (vs.set j (.int (up x) u)) (List.map up (q.set j x)) → Q () { s with heap := h' }) :
    wpAny (model prog w) A (setItem (.ref D) (.int k t) (.int (up x) u)) Q E s := by
  subst hk
  refine ksa_set (k := (j : Int)) F N (by rw [Int.toNat_natCast]; exact U) hi (by omega) (by simpa using h1) hfit fun h' F' N' hi' _ _ => ?_
  rw [Int.toNat_natCast, map_up_set] at hi'
  exact h h' F' N' hi'
theorem up_copy (F : Fr h₀ L s.heap m) (N : News h₀ L s.heap news) (hm : (D, listOf vs.toArray n) ∈ news) (hi : IntsAre vs (List.map up q)) (hz : q.length ≤ 64)
    (h : ∀ D' c h', Fr h₀ L h' m → News h₀ L h' ((D', listOf vs.toArray c) :: news) → (∀ p ∈ news, p.1 < D') → Q (.ref D') { s with heap := h' }) :
    wpAny (model prog w) A (call (.type "list") [.ref D]) Q E s := by
  refine list_copyK F N (PySem.IsL.isList (n := n) (N _ hm).1) h ?_
  have hl := hi.length
  rw [List.length_map] at hl
  rw [List.size_toArray, sizeLine_eq]
  omega
theorem up_len (N : News h₀ L s.heap news) (hm : (D, listOf vs.toArray n) ∈ news) (hi : IntsAre vs (List.map up q)) (hz : q.length ≤ 64) (h : ∀ t tk, Q (.int (q.length : Int) t) { s with toks := tk }) :
    wpAny (model prog w) A (call (.builtin "len") [.ref D]) Q E s := by
  refine len_ints_fit (PySem.IsL.isList (n := n) (N _ hm).1) hi (by rw [List.length_map]; omega) ?_
  rw [List.length_map]
  exact h _ _
theorem up_true {Q : Bool → Shared → Prop} (N : News h₀ L s.heap news) (hm : (D, listOf vs.toArray n) ∈ news) (hi : IntsAre vs (List.map up q)) (hz : q.length ≤ 64) (h0 : 0 < q.length) (h : ∀ tk, Q true { s with toks := tk }) :
    wpAny (model prog w) A (truthy (.ref D)) Q E s := by
  refine truthy_ints_fit (PySem.IsL.isList (n := n) (N _ hm).1) hi (by rw [List.length_map]; omega) ?_
  rw [List.length_map, decide_eq_true h0]
  exact h _
theorem up_extend {news' : List (Addr × Obj)} {b : Addr} {ws : List Value} {q2 : List F} {n2 : Nat} (F : Fr h₀ L s.heap m) (N : News h₀ L s.heap news) (hb : (b, listOf ws.toArray n2) ∈ news) (hi : IntsAre vs (List.map up q)) (hj : IntsAre ws (List.map up q2)) (h0 : 0 < q2.length) (hz : q.length ≤ 64) (hz2 : q2.length ≤ 64)
    (U : Upd D (listOf vs.toArray n) (listOf (vs ++ ws).toArray (n + 1)) news news')
    (h : ∀ h', Fr h₀ L h' m → News h₀ L h' news' → IntsAre (vs ++ ws) (List.map up (q ++ q2)) → Q .none { s with heap := h' }) : wpAny (model prog w) A (call (.builtin "list.extend") [.ref D, .ref b]) Q E s := by
  have hl := hi.length
  have hl2 := hj.length
  rw [List.length_map] at hl hl2
  refine kl_extend F N hb (l := vs ++ ws) rfl (by show ws.length ≠ 0; omega) U ?_ (by show vs.length ≤ _; rw [sizeLine_eq]; omega) (by rw [List.size_toArray, List.size_toArray, sizeLine_eq]; omega) fun h' F' N' => h h' F' N' (by rw [List.map_append]; exact hi.append hj)
  refine extend_door ?_
  rw [List.size_toArray, List.size_toArray, sizeLine_eq]
  omega
theorem xor_up {a b : F} {t : Tok} (h : Q (.int (up (a ^^^ b)) s.toks) { s with toks := s.toks + 1 }) : wpAny (model prog w) A (binaryOp .BitXor (.int (up a) t) (.int (up b) u)) Q E s :=
  xor_int (by rw [bitXor_up]; exact h)
theorem ixor_up {a b : F} {t : Tok} (h : Q (.int (up (a ^^^ b)) s.toks) { s with toks := s.toks + 1 }) : wpAny (model prog w) A (inplaceOp .BitXor (.int (up a) t) (.int (up b) u)) Q E s :=
  ixor_int (by rw [bitXor_up]; exact h)
end
end
end Mine
end

-- part W2
section
open PySem PySem.W PyProof.Rows PySem.Spec PySem.Calls
set_option maxRecDepth 100000
set_option maxHeartbeats 8000000
namespace Mine
theorem fill_it2 : (fun (_ : OpenLaw) => hd.heap_39 = hd.heap_39) PySem.Challenge.rw_ae6025_01 := by k_fill; rfl

def cell0 (ns : List Int) (i : Int) : Int := if ns = [] then 0 else ns.getD (i % ns.length).toNat 0
def draw (ns : List Int) (place most : Int) : Int := (cell0 ns place + 37 * place) % most

section
variable {prog : Program} {w : World} {p : Program} {loose : List Str} {mean : ExcName → Option Value} {mg mb : Str → Option Value} {dp un : Nat} {gd : Option (List Code)} {cn : Str} {cs : Scope} {a : Addr} {ccd : Value} {cl : List (Str × Addr)} {outer : List Env} {A₀ : Around} {base h₀ : Heap} {L : Addr} {m : Str → Option Value} {news : List (Addr × Obj)} {s : Shared} {Q E : Value → Shared → Prop}
theorem draw_call {l : Addr} {vs : List Value} {ns : List Int} {place most : Int} {t1 t2 : Tok} (hl : base.IsList l vs.toArray) (hi : IntsAre vs ns) (hfit : ns.length < 2 ^ 62) (hp0 : 0 ≤ place) (hp1 : place < 64) (hm0 : 0 < most) (hm1 : most < 256)
  (B : Below A₀ base outer h₀) (F : Fr h₀ L s.heap m) (X : (hd.heap_39 w.params).In h₀) (N : News h₀ L s.heap news) (T : Top p loose mean mg mb h₀) (hk : cs.kind = .function) (hd1 : dp + 1 < recursionLimit) (hu : un + 8 < cLine)
   (hret : ∀ (t : Tok) h' tk', Fr h₀ L h' m → News h₀ L h' news → Q (.int (draw ns place most) t) {s with heap := h', toks := tk'}) : wpAny (model prog w) (ktrTop dp un gd cn cs L a ccd cl outer) (call (.ref 91) [.ref l, .int place t1, .int most t2]) Q E s := by
  w_top off
  refine wpAny_call ?_
  k_dflt cell_enter
  k_steps
  all_goals (refine cb_retI (Q := Q) hret ?_ (by k_asm) (by k_asm))
  · have h0 : 0 < ns.length := by assumption
    rw [Int.fmod_eq_emod_of_nonneg _ (by omega), Int.fmod_eq_emod_of_nonneg _ (by omega)]
    unfold draw cell0
    rw [if_neg (by rintro rfl; simp at h0)]
  · have h0 : ¬ 0 < ns.length := by assumption
    rw [Int.fmod_eq_emod_of_nonneg _ (by omega)]
    unfold draw cell0
    rw [if_pos (by cases ns with | nil => rfl | cons => simp at h0)]
end
end Mine
end

-- part W3
section
open PySem PySem.W PyProof.Rows PySem.Spec PySem.Calls
set_option maxRecDepth 100000
set_option maxHeartbeats 8000000
namespace Mine
theorem fill_it3 : (fun (_ : OpenLaw) => hd.heap_39 = hd.heap_39) PySem.Challenge.rw_ae6025_01 := by k_fill; rfl

/-- the wider row after i turns of the inner loop -/
def widen (row : List F) (α : F) (i : Nat) : List F := tab (row.length + 1) fun j => cf row j ^^^ (if 1 ≤ j ∧ j ≤ i then mul (cf row (j - 1)) α else 0#8)
def laidStep (row : List F) (α : F) : List F := widen row α row.length
def laid (ns : List Int) (lead : F) : List F := ns.foldl (fun row r => laidStep row (exI r)) [lead]

theorem widen_length (row : List F) (α : F) (i : Nat) : (widen row α i).length = row.length + 1 := tab_length _ _
theorem cf_widen (row : List F) (α : F) (i j : Nat) (h : j < row.length + 1) : cf (widen row α i) j = cf row j ^^^ (if 1 ≤ j ∧ j ≤ i then mul (cf row (j - 1)) α else 0#8) := by
  unfold widen; rw [cf_tab, if_pos h]
theorem widen_zero (row : List F) (α : F) : widen row α 0 = row ++ [0#8] := by
  refine list_ext (by rw [widen_length, List.length_append]; rfl) fun j hj => ?_
  rw [widen_length] at hj
  rw [cf_widen _ _ _ _ hj, cf_append, if_neg (by omega), BitVec.xor_zero]
  split
  · rfl
  · rename_i h
    rw [cf_out row j (by omega), show j - row.length = 0 by omega]; rfl
theorem widen_same (row : List F) (α : F) (i : Nat) (h : cf row i = 0#8) : widen row α i = widen row α (i + 1) := by
  refine list_ext (by rw [widen_length, widen_length]) fun j hj => ?_
  rw [widen_length] at hj
  rw [cf_widen _ _ _ _ hj, cf_widen _ _ _ _ hj]
  by_cases e : j = i + 1
  · subst e
    rw [if_neg (by omega), if_pos (by omega), Nat.add_sub_cancel, h, zero_mul]
  · by_cases h1 : 1 ≤ j ∧ j ≤ i
    · rw [if_pos h1, if_pos (by omega)]
    · rw [if_neg h1, if_neg (by omega)]
theorem widen_set (row : List F) (α : F) (i : Nat) (hi : i < row.length) : (widen row α i).set (i + 1) (cf (widen row α i) (i + 1) ^^^ mul (cf row i) α) = widen row α (i + 1) := by
  refine list_ext (by rw [List.length_set, widen_length, widen_length]) fun j hj => ?_
  rw [List.length_set, widen_length] at hj
  rw [cf_set _ _ _ _ (by rw [widen_length]; omega), cf_widen _ _ _ _ (by omega), cf_widen _ _ _ _ hj, cf_widen _ _ _ _ hj]
  by_cases e : j = i + 1
  · subst e
    rw [if_pos rfl, if_neg (by omega), if_pos (by omega), BitVec.xor_zero, Nat.add_sub_cancel]
  · rw [if_neg e]
    by_cases h1 : 1 ≤ j ∧ j ≤ i
    · rw [if_pos h1, if_pos (by omega)]
    · rw [if_neg h1, if_neg (by omega)]
theorem laidStep_length (row : List F) (α : F) : (laidStep row α).length = row.length + 1 := widen_length _ _ _
theorem laid_fold_length : ∀ (ns : List Int) (p : List F), (ns.foldl (fun row r => laidStep row (exI r)) p).length = p.length + ns.length
  | [], _ => rfl
  | n :: r, p => by rw [List.foldl_cons, laid_fold_length r, laidStep_length, List.length_cons]; omega
theorem laid_length (ns : List Int) (lead : F) : (laid ns lead).length = ns.length + 1 := by
  unfold laid; rw [laid_fold_length]; show 1 + _ = _; omega
theorem laid_snoc (ns : List Int) (n : Int) (lead : F) : laid (ns ++ [n]) lead = laidStep (laid ns lead) (exI n) := by
  unfold laid; rw [List.foldl_append]; rfl

def WideJ (row : List F) (α : F) (m₀ : Str → Option Value) (i : Nat) (m₁ : Str → Option Value) (loc : List (Addr × Obj)) : Prop :=
  (∀ z, z ≠ Str.ofString "spot" → z ≠ Str.ofString "wider" → m₁ z = m₀ z) ∧ ∃ D vw kw, m₁ (Str.ofString "wider") = some (.ref D) ∧ loc = [(D, listOf (List.toArray vw) kw)] ∧ IntsAre vw ((widen row α i).map up)
def LaidJ (ns : List Int) (lead : F) (m₀ : Str → Option Value) (i : Nat) (m₁ : Str → Option Value) (loc : List (Addr × Obj)) : Prop :=
  (∀ z, z ≠ Str.ofString "power" → z ≠ Str.ofString "row" → z ≠ Str.ofString "wider" → z ≠ Str.ofString "spot" → m₁ z = m₀ z) ∧
  ∃ r vr kr, m₁ (Str.ofString "row") = some (.ref r) ∧ loc = [(r, listOf (List.toArray vr) kr)] ∧ IntsAre vr ((laid (ns.take i) lead).map up)

section
variable {prog : Program} {w : World} {p : Program} {loose : List Str} {mean : ExcName → Option Value} {mg mb : Str → Option Value} {dp un : Nat} {gd : Option (List Code)} {cn : Str} {cs : Scope} {a : Addr} {ccd : Value} {cl : List (Str × Addr)} {outer : List Env} {A₀ : Around} {base h₀ : Heap} {L : Addr} {m : Str → Option Value} {news : List (Addr × Obj)} {s : Shared} {Q E : Value → Shared → Prop}
local macro_rules | `(tactic| walk_at "call ref") => `(tactic| (k_here; (with_reducible show wpAny _ _ (call (Value.ref _) _) _ _ _); refine wpAny_call ?_; k_dflt (refine' code_def ?k1 ?k2 ?k3 ?k4 ?k5 ?kA ?kF ?kK ?k6 ?k7 ?k8 ?k9 ?kB ?_ ?c2 ?c3 ?c4 ?c5; (case kA => exact rfl); (case kF => exact rfl); (case kK => first | exact rfl | assumption); (case k1 => k_asm); (case k2 => k_asm); (case k3 => k_asm); (case k4 => k_asm); (case k5 => k_asm); (case k6 => k_is); (case k7 => k_is); (case k8 => ktr_room); (case k9 => exact BindsTo.of_eq rfl); (case c5 => decide); (case kB => exact locs rfl); (case c2 => exact rfl); (case c3 => exact rfl); (case c4 => exact rfl); k_whole; intro g' L' h' FG' F' N' B' X' T'; (try dsimp only); (try k_lift B'); (try k_fold))))
local macro_rules | `(tactic| walk_at "subscriptTail") => `(tactic| (k_here; (with_reducible show wpAny _ _ (subscriptTail _ _ (Value.ref 15) (Value.int (Int.fmod _ 255) _)) _ _ _); k_dflt (refine' exp_item ?F ?X ?_; (case F => k_asm); (case X => k_asm); k_whole); intro t9))
local macro_rules | `(tactic| walk_at "subscriptTail") => `(tactic| (k_here; (with_reducible show wpAny _ _ (subscriptTail _ _ (Value.ref 16) (Value.int (up _) _)) _ _ _); k_dflt (refine' log_item ?F ?X ?b ?_; (case F => k_asm); (case X => k_asm); (case b => assumption); k_whole); intro t9))
local macro_rules | `(tactic| walk_at "getItem ref int") => `(tactic| (k_here; (with_reducible show wpAny _ _ (getItem (Value.ref _) (Value.int _ _)) _ _ _); k_dflt (refine' up_get ?k1 ?k2 ?k3 ?k4 ?k5 ?k6 ?_; (case k1 => k_asm); (case k2 => k_mem); (case k3 => with_reducible assumption); (case k4 => first | exact (rfl : (0:Int) = ((0:Nat):Int)) | exact (rfl : ((_:Nat):Int) = ((_:Nat):Int)) | exact (Int.natCast_succ _).symm); (case k5 => ksa_idx); (case k6 => ksa_idx); k_whole); intro t9))
local macro_rules | `(tactic| walk_at "subscriptTail") => `(tactic| (k_here; (with_reducible show wpAny _ _ (subscriptTail _ _ (Value.ref _) (Value.int _ _)) _ _ _); k_dflt (refine' up_sub ?k1 ?k2 ?k3 ?k4 ?k5 ?k6 ?_ ?k7; (case k1 => k_asm); (case k2 => k_mem); (case k3 => with_reducible assumption); (case k4 => first | exact (rfl : (0:Int) = ((0:Nat):Int)) | exact (rfl : ((_:Nat):Int) = ((_:Nat):Int)) | exact (Int.natCast_succ _).symm); (case k5 => ksa_idx); (case k6 => ksa_idx); (case k7 => with_unfolding_all rfl); k_whole); intro t9))
local macro_rules | `(tactic| walk_at "subscriptTail Name Constant ref int") => `(tactic| (k_here; (with_reducible show wpAny _ _ (subscriptTail _ _ (Value.ref _) (Value.int _ _)) _ _ _); k_dflt (refine' up_sub ?k1 ?k2 ?k3 ?k4 ?k5 ?k6 ?_ ?k7; (case k1 => k_asm); (case k2 => k_mem); (case k3 => with_reducible assumption); (case k4 => first | exact (rfl : (0:Int) = ((0:Nat):Int)) | exact (rfl : ((_:Nat):Int) = ((_:Nat):Int)) | exact (Int.natCast_succ _).symm); (case k5 => ksa_idx); (case k6 => ksa_idx); (case k7 => with_unfolding_all rfl); k_whole); intro t9))
local macro_rules | `(tactic| walk_at "subscriptTail Name Name ref int") => `(tactic| (k_here; (with_reducible show wpAny _ _ (subscriptTail _ _ (Value.ref _) (Value.int _ _)) _ _ _); k_dflt (refine' up_sub ?k1 ?k2 ?k3 ?k4 ?k5 ?k6 ?_ ?k7; (case k1 => k_asm); (case k2 => k_mem); (case k3 => with_reducible assumption); (case k4 => first | exact (rfl : (0:Int) = ((0:Nat):Int)) | exact (rfl : ((_:Nat):Int) = ((_:Nat):Int)) | exact (Int.natCast_succ _).symm); (case k5 => ksa_idx); (case k6 => ksa_idx); (case k7 => with_unfolding_all rfl); k_whole); intro t9))
local macro_rules | `(tactic| walk_at "subscriptTail Name BinOp ref int") => `(tactic| (k_here; (with_reducible show wpAny _ _ (subscriptTail _ _ (Value.ref _) (Value.int _ _)) _ _ _); k_dflt (refine' up_sub ?k1 ?k2 ?k3 ?k4 ?k5 ?k6 ?_ ?k7; (case k1 => k_asm); (case k2 => k_mem); (case k3 => with_reducible assumption); (case k4 => first | exact (rfl : (0:Int) = ((0:Nat):Int)) | exact (rfl : ((_:Nat):Int) = ((_:Nat):Int)) | exact (Int.natCast_succ _).symm); (case k5 => ksa_idx); (case k6 => ksa_idx); (case k7 => with_unfolding_all rfl); k_whole); intro t9))
local macro_rules | `(tactic| walk_at "setItem ref int") => `(tactic| (k_here; (with_reducible show wpAny _ _ (setItem (Value.ref _) (Value.int _ _) (Value.int (up _) _)) _ _ _); k_dflt (refine' up_set ?k1 ?k2 ?k3 ?k4 ?k5 ?k6 ?k7 ?_; (case k1 => k_asm); (case k2 => k_asm); (case k3 => k_upd); (case k4 => with_reducible assumption); (case k5 => first | exact (rfl : (0:Int) = ((0:Nat):Int)) | exact (rfl : ((_:Nat):Int) = ((_:Nat):Int)) | exact (Int.natCast_succ _).symm); (case k6 => ksa_idx); (case k7 => ksa_idx); k_whole); intro h' F' N' hi'; (try k_sweep)))
local macro_rules | `(tactic| walk_at "binaryOp BitXor int int") => `(tactic| ((with_reducible show wpAny _ _ (binaryOp _ (Value.int (up _) _) (Value.int (up _) _)) _ _ _); refine xor_up ?_))
local macro_rules | `(tactic| walk_at "inplaceOp BitXor int int") => `(tactic| ((with_reducible show wpAny _ _ (inplaceOp _ (Value.int (up _) _) (Value.int (up _) _)) _ _ _); refine ixor_up ?_))
local macro_rules | `(tactic| walk_at "call ref") => `(tactic| (k_here; (with_reducible show wpAny _ _ (call (Value.ref 30) [Value.int _ _]) _ _ _); k_dflt (refine' gexp_call ?k1 ?k2 ?k3 ?k4 ?k5 ?kK ?kd ?ku ?_; (case k1 => k_asm); (case k2 => k_asm); (case k3 => k_asm); (case k4 => k_asm); (case k5 => k_asm); (case kK => first | exact rfl | assumption); (case kd => ktr_room); (case ku => ktr_units); intro t9 h9 tk9 F9 N9; (try dsimp only); (try k_sweep); (try k_fold))))
local macro_rules | `(tactic| walk_at "call ref") => `(tactic| (k_here; (with_reducible show wpAny _ _ (call (Value.ref 23) [Value.int (up _) _]) _ _ _); k_dflt (refine' glog_call ?kb ?k1 ?k2 ?k3 ?k4 ?k5 ?kK ?kd ?ku ?_; (case kb => first | assumption | (refine up_ne ?_; assumption)); (case k1 => k_asm); (case k2 => k_asm); (case k3 => k_asm); (case k4 => k_asm); (case k5 => k_asm); (case kK => first | exact rfl | assumption); (case kd => ktr_room); (case ku => ktr_units); intro t9 h9 tk9 F9 N9; (try dsimp only); (try k_sweep); (try k_fold))))
local macro_rules | `(tactic| k_all) => `(tactic| exact Off.head (by assumption))
local macro_rules | `(tactic| k_mem) => `(tactic| ((repeat' (first | exact List.Mem.head _ | refine List.mem_cons_of_mem _ ?_ | assumption)); done))
local macro_rules | `(tactic| walk_at "exec For Name Call cons nil") => `(tactic| (k_here; k_dflt (refine' For_stop ?F ?a ?b ?_; (case F => k_asm); (case a => exact rfl); (case b => exact rfl); k_whole)))
local macro_rules | `(tactic| walk_at "exec For Name Name cons nil") => `(tactic| (k_here; k_dflt (refine' For_stop ?F ?a ?b ?_; (case F => k_asm); (case a => exact rfl); (case b => exact rfl); k_whole)))
local macro_rules | `(tactic| walk_at "exec While Compare cons nil") => `(tactic| (k_here; refine Stop.out ?_))
local macro_rules | `(tactic| walk_at "exec While BoolOp cons nil") => `(tactic| (k_here; refine Stop.out ?_))
local macro_rules | `(tactic| walk_at "call type:list") => `(tactic| (k_here; (with_reducible show wpAny _ _ (call (Value.type _) [Value.ref _]) _ _ _); k_dflt (refine' up_copy ?k1 ?k2 ?k3 ?k4 ?k5 ?_; (case k1 => k_asm); (case k2 => k_asm); (case k3 => k_mem); (case k4 => with_reducible assumption); (case k5 => assumption); k_whole); intro D' c' h' F' N' l1; (try k_sweep)))
local macro_rules | `(tactic| walk_at "call builtin:len") => `(tactic| (k_here; (with_reducible show wpAny _ _ (call (Value.builtin _) [Value.ref _]) _ _ _); k_dflt (refine' up_len ?k1 ?k2 ?k3 ?k4 ?_; (case k1 => k_asm); (case k2 => k_mem); (case k3 => with_reducible assumption); (case k4 => assumption); k_whole); intro t9 tk9))
local macro_rules | `(tactic| walk_at "truthy ref") => `(tactic| (k_here; (with_reducible show wpAny _ _ (truthy (Value.ref _)) _ _ _); k_dflt (refine' up_true ?k1 ?k2 ?k3 ?k4 ?k5 ?_; (case k1 => k_asm); (case k2 => k_mem); (case k3 => with_reducible assumption); (case k4 => assumption); (case k5 => assumption); k_whole); intro tk9; (try simp only [Bool.not_true, Bool.false_eq_true, if_false, if_true])))
local macro_rules | `(tactic| k_all) => `(tactic| exact lt_all (by assumption))
local macro_rules | `(tactic| walk_at "call builtin:iter") => `(tactic| (k_here; (with_reducible show wpAny _ _ (call (Value.builtin "iter") [Value.ref _]) _ _ _); k_dflt (refine' iter_of_list ?k1 ?k2 ?k3 ?_; (case k1 => k_asm); (case k2 => k_asm); (case k3 => k_mem); k_whole); intro i9 h9 F9 N9 l9; (try k_sweep)))
local macro_rules | `(tactic| walk_at "call ref") => `(tactic| (k_here; (with_reducible show wpAny _ _ (call (Value.ref 80) [Value.ref _, Value.int 0 _]) _ _ _); k_dflt (refine' poly_call ?kl ?ki ?kq ?kq0 ?k1 ?k2 ?k3 ?k4 ?k5 ?kK ?kd ?ku ?_; (case k1 => k_asm); (case k2 => k_asm); (case k3 => k_asm); (case k4 => k_asm); (case k5 => k_asm); (case kl => k_mem); (case ki => with_reducible assumption); (case kq => assumption); (case kq0 => assumption); (case kK => first | exact rfl | assumption); (case kd => ktr_room); (case ku => ktr_units); intro x9 dx9 r9 vr9 k9 hsh9 tk9 n9 res9 h9 tk9' F9 N9 l9 l9' l9'' i9 st9 nz9; (try dsimp only); (try k_fold))))
local macro_rules | `(tactic| walk_at "call type:zip") => `(tactic| (k_here; (with_reducible show wpAny _ _ (call (Value.type _) [Value.ref _, Value.ref _]) _ _ _); k_dflt (refine' zip_polys ?h1 ?h2 ?h3 ?h4 ?h5 ?h6 ?k1 ?k2 ?k3 ?k4 ?k5 ?kK ?kd ?ku ?_; (case k1 => k_asm); (case k2 => k_asm); (case k3 => k_asm); (case k4 => k_asm); (case k5 => k_asm); (case h1 => k_mem); (case h2 => k_mem); (case h3 => k_mem); (case h4 => k_mem); (case h5 => k_mem); (case h6 => k_mem); (case kK => first | exact rfl | assumption); (case kd => ktr_room); (case ku => ktr_units); intro z9 TI9 TO9 i91 i92 h9 tk9 D9 st9 fp9 Lf9 wr9 nw9 F9 N9; (try dsimp only); (try k_sweep))))
local macro_rules | `(tactic| walk_at "subscriptTail Name Slice ref ref") => `(tactic| (k_here; (with_reducible show wpAny _ _ (subscriptTail _ (PySem.Expr.Slice _ _ none _) (Value.ref _) (Value.ref _)) _ _ _); k_dflt (refine' sub_slice_own ?F ?N ?X ?h1 ?h2 ?hq ?hs ?hf ?hn ?_; (case F => k_asm); (case N => k_asm); (case X => k_asm); (case h1 => k_mem); (case h2 => k_mem); (case hq => k_is); (case hs => k_is); (case hf => k_is); (case hn => k_is); k_whole); intro sl9 h9 F9 N9 l9; (try k_lt l9); (try dsimp only); (try k_sweep)))
local macro_rules | `(tactic| walk_at "subscriptTail") => `(tactic| (k_here; (with_reducible show wpAny _ _ (subscriptTail _ (PySem.Expr.Name _ _) (Value.ref _) (Value.ref _)) _ _ _); k_dflt (refine' list_slice_obj ?F ?N ?h1 ?h2 ?p ?q ?m ?z ?_; (case F => k_asm); (case N => k_asm); (case h1 => k_mem); (case h2 => k_mem); (case p => kmk_part); (case q => kmk_part); (case m => first | exact kmk_from_neg (by with_reducible assumption) (by omega) | kmk_nums); (case z => assumption); k_whole); intro D9 ws9 h9 F9 N9 l9 i9; (try k_lt l9); (try dsimp only); (try k_sweep)))
theorem laid_call {l : Addr} {vs : List Value} {ns : List Int} {k : Nat} {lead : F} {t2 : Tok} (hl : (l, listOf vs.toArray k) ∈ news) (hi : IntsAre vs ns) (hfit : ns.length < 64)
  (B : Below A₀ base outer h₀) (F : Fr h₀ L s.heap m) (X : (hd.heap_39 w.params).In h₀) (N : News h₀ L s.heap news) (T : Top p loose mean mg mb h₀) (hk : cs.kind = .function) (hd1 : dp + 2 < recursionLimit) (hu : un + 16 < cLine)
   (hret : ∀ r vr k h' tk', Fr h₀ L h' m → News h₀ L h' ((r, listOf (List.toArray vr) k) :: news) → (∀ p ∈ news, p.1 ≠ r) → IntsAre vr ((laid ns lead).map up) → Q (.ref r) {s with heap := h', toks := tk'}) : wpAny (model prog w) (ktrTop dp un gd cn cs L a ccd cl outer) (call (.ref 98) [.ref l, .int (up lead) t2]) Q E s := by
  w_top off
  refine wpAny_call ?_
  k_dflt cell_enter
  k_steps
  rename Fr _ _ _ _ => F'
  rename News _ _ _ _ => N'
  rename (∀ p ∈ news, p.1 < _) => l1
  refine ⟨?_⟩
  refine iter_list (loc := [_]) (LaidJ ns lead) rfl hl F' N' (Off.cons (fun q hq => Nat.ne_of_lt (l1 q hq)) Off.nil) ?_ ?_ ?_
  · exact ⟨fun _ _ _ _ _ => rfl, _, _, _, rfl, rfl, IntsAre.cons _ _ IntsAre.nil⟩
  · rintro i v m₁ loc₁ h tk nw hv ⟨hag, r, vr, kr, hrow, rfl, hints⟩ hsub hoff F₁ N₁
    obtain ⟨n, t, hn, rfl, htake⟩ := ints_item hi hv
    have e := frm4 hag
    rw [hrow] at e
    generalize m₁ (Str.ofString "power") = u1 at e
    generalize m₁ (Str.ofString "wider") = u2 at e
    generalize m₁ (Str.ofString "spot") = u3 at e
    subst e
    clear F' N' hag hrow
    have hlen : (laid (ns.take i) lead).length ≤ 64 := by rw [laid_length, List.length_take]; omega
    generalize hrw : laid (ns.take i) lead = row at hints hlen
    refine execs_stop ?_
    k_steps
    refine ⟨?_⟩
    refine execs_stop ?_
    rename Fr _ _ _ _ => F'
    rename News _ _ _ _ => N'
    refine For_stop F' rfl rfl ?_
    k_steps
    refine ⟨?_⟩
    rename IsRange _ _ _ _ _ _ _ _ => R'
    rename (_ < _ ∧ AllLt _ _) => l2
    rename Fr _ _ _ _ => F'
    rename News _ _ _ _ => N'
    rename IntsAre _ (_ ++ [0]) => hw
    refine iter_range (loc := [_]) (WideJ row (exI n)) rfl R' rfl (by (try rw [List.length_map]); omega) F' N' ?_ ?_ ?_ ?_
    · exact Off.cons (fun q hq => Nat.ne_of_lt (ktn_ltOf (l := (_, _) :: _) l2 q hq)) Off.nil
    · refine ⟨fun _ _ _ => rfl, _, _, _, rfl, rfl, ?_⟩
      rw [widen_zero, List.map_append]
      exact hw
    · (try rw [List.length_map])
      rintro i₂ t₂ m₂ loc₂ h₂ tk₂ nw₂ hi₂ ⟨hag₂, D, vw, kw, hwd, rfl, hints₂⟩ hsub₂ hoff₂ F₂ N₂
      have e := frm2 hag₂
      rw [hwd] at e
      generalize m₂ (Str.ofString "spot") = u4 at e
      subst e
      clear hag₂ hwd
      have hwl : (widen row (exI n) i₂).length = row.length + 1 := widen_length _ _ _
      generalize hW : widen row (exI n) i₂ = wl at hints₂ hwl
      have hrm : (r, listOf vr.toArray kr) ∈ nw₂ := hsub₂ _ (by k_mem)
      simp only [List.cons_append, List.nil_append] at N₂
      k_steps
      · rename Fr _ _ _ _ => F'
        rename News _ _ _ _ => N'
        rename IntsAre _ (List.map up (wl.set _ _)) => hi'
        rename up (cf row i₂) ≠ 0 => hne
        refine TurnEnd.intro F' N' (loc' := [_]) (fun p hp => hp) (Off.cons hoff₂.head Off.nil) ⟨fun z h1 h2 => ?_, D, _, _, rfl, rfl, ?_⟩
        · simp only [h1, h2, if_false]
        · have e : wl.set (i₂ + 1) (cf wl (i₂ + 1) ^^^ exI (↑(lg (cf row i₂)) + n)) = widen row (exI n) (i₂ + 1) := by rw [exI_add _ (up_ne hne), ← hW, widen_set _ _ _ hi₂]
          rw [e] at hi'
          exact hi'
      · rename up (cf row i₂) = 0 => hz
        refine TurnEnd.intro F₂ N₂ (loc' := [_]) (fun p hp => hp) hoff₂ ⟨fun z h1 h2 => ?_, D, _, _, rfl, rfl, ?_⟩
        · simp only [h1, h2, if_false]
        · rw [← widen_same _ _ _ (up_eq_zero hz), hW]
          exact hints₂
    · (try rw [List.length_map])
      rintro m₂ loc₂ h₂ tk₂ ⟨hag₂, D, vw, kw, hwd, rfl, hints₂⟩ hoff₂ F₂ N₂
      have e := frm2 hag₂
      rw [hwd] at e
      generalize m₂ (Str.ofString "spot") = u4 at e
      subst e
      clear hag₂ hwd
      refine ⟨?_⟩
      k_steps
      rename Fr _ _ _ _ => F'
      rename News _ _ _ _ => N'
      refine TurnEnd.intro F' N' (loc' := [_]) (fun p hp => ?_) (hoff₂.sub fun p hp => ?_) ⟨fun z h1 h2 h3 h4 => ?_, D, _, _, rfl, rfl, ?_⟩
      · rcases List.mem_cons.mp hp with rfl | hp
        · exact .head _
        · exact .tail _ (.tail _ (.tail _ hp))
      · exact .tail _ (.tail _ hp)
      · simp only [h1, h2, h3, h4, if_false]
      · rw [htake, laid_snoc, hrw]
        exact hints₂
  · rintro m₁ loc₁ h tk ⟨hag, r, vr, kr, hrow, rfl, hints⟩ hoff F₁ N₁
    have e := frm4 hag
    rw [hrow] at e
    generalize m₁ (Str.ofString "power") = u1 at e
    generalize m₁ (Str.ofString "wider") = u2 at e
    generalize m₁ (Str.ofString "spot") = u3 at e
    subst e
    clear hag hrow
    k_steps
    rename Fr h₀ _ _ _ => F'
    rename News h₀ _ _ _ => N'
    refine hret r vr kr h tk F' N' hoff.head ?_
    rw [hi.length, List.take_length] at hints
    exact hints
end
end Mine
end

-- part W4
section
open PySem PySem.W PyProof.Rows PySem.Spec PySem.Calls
set_option maxRecDepth 100000
set_option maxHeartbeats 8000000
namespace Mine
theorem fill_it4 : (fun (_ : OpenLaw) => hd.heap_39 = hd.heap_39) PySem.Challenge.rw_ae6025_01 := by k_fill; rfl

/-- a row less a multiple of the divisor, as far as i places -/
def subRow (row q : List F) (α : F) (i : Nat) : List F := tab row.length fun j => cf row j ^^^ (if j < i then mul (cf q j) α else 0#8)
def ratioOf (row q : List F) : Int := (lg (cf row 0) : Int) - (lg (cf q 0) : Int)
def lowered (row q : List F) : List F := if cf row 0 = 0#8 then row else subRow row q (exI (ratioOf row q)) q.length
inductive Rch (q : List F) : List F → List F → Prop
  | refl (p : List F) : Rch q p p
  | step {p row : List F} : Rch q p row → q.length ≤ row.length → Rch q p ((lowered row q).drop 1)
inductive Strip : List F → List F → Prop
  | refl (p : List F) : Strip p p
  | drop {p row : List F} : Strip p row → 1 < row.length → cf row 0 = 0#8 → Strip p (row.drop 1)

theorem subRow_length (row q : List F) (α : F) (i : Nat) : (subRow row q α i).length = row.length := tab_length _ _
theorem cf_subRow (row q : List F) (α : F) (i j : Nat) (h : j < row.length) : cf (subRow row q α i) j = cf row j ^^^ (if j < i then mul (cf q j) α else 0#8) := by
  unfold subRow; rw [cf_tab, if_pos h]
theorem subRow_zero (row q : List F) (α : F) : subRow row q α 0 = row := by
  refine list_ext (subRow_length _ _ _ _) fun j hj => ?_
  rw [subRow_length] at hj
  rw [cf_subRow _ _ _ _ _ hj, if_neg (by omega), BitVec.xor_zero]
theorem subRow_same (row q : List F) (α : F) (i : Nat) (h : cf q i = 0#8) : subRow row q α i = subRow row q α (i + 1) := by
  refine list_ext (by rw [subRow_length, subRow_length]) fun j hj => ?_
  rw [subRow_length] at hj
  rw [cf_subRow _ _ _ _ _ hj, cf_subRow _ _ _ _ _ hj]
  by_cases e : j = i
  · subst e
    rw [if_neg (by omega), if_pos (by omega), h, zero_mul]
  · by_cases h1 : j < i
    · rw [if_pos h1, if_pos (by omega)]
    · rw [if_neg h1, if_neg (by omega)]
theorem subRow_set (row q : List F) (α : F) (i : Nat) (hi : i < row.length) : (subRow row q α i).set i (cf (subRow row q α i) i ^^^ mul (cf q i) α) = subRow row q α (i + 1) := by
  refine list_ext (by rw [List.length_set, subRow_length, subRow_length]) fun j hj => ?_
  rw [List.length_set, subRow_length] at hj
  rw [cf_set _ _ _ _ (by rw [subRow_length]; omega), cf_subRow _ _ _ _ _ hi, cf_subRow _ _ _ _ _ hj, cf_subRow _ _ _ _ _ hj]
  by_cases e : j = i
  · subst e
    rw [if_pos rfl, if_neg (by omega), if_pos (by omega), BitVec.xor_zero]
  · rw [if_neg e]
    by_cases h1 : j < i
    · rw [if_pos h1, if_pos (by omega)]
    · rw [if_neg h1, if_neg (by omega)]
theorem lowered_length (row q : List F) : (lowered row q).length = row.length := by
  unfold lowered; split
  · rfl
  · exact subRow_length _ _ _ _

def SubJ (row q : List F) (α : F) (m₀ : Str → Option Value) (i : Nat) (m₁ : Str → Option Value) (loc : List (Addr × Obj)) : Prop :=
  (∀ z, z ≠ Str.ofString "spot" → m₁ z = m₀ z) ∧ ∃ r vr kr, m₀ (Str.ofString "row") = some (.ref r) ∧ loc = [(r, listOf (List.toArray vr) kr)] ∧ IntsAre vr ((subRow row q α i).map up)
def RestJ (p q : List F) (base : List (Addr × Obj)) (m₀ : Str → Option Value) (n : Nat) (m₁ : Str → Option Value) (news₁ : List (Addr × Obj)) : Prop :=
  (∀ z, z ≠ Str.ofString "row" → z ≠ Str.ofString "ratio" → z ≠ Str.ofString "spot" → m₁ z = m₀ z) ∧
  ∃ r vr kr row, m₁ (Str.ofString "row") = some (.ref r) ∧ news₁ = (r, listOf (List.toArray vr) kr) :: base ∧ Off [(r, listOf (List.toArray vr) kr)] base ∧ IntsAre vr (List.map up row) ∧ n = row.length ∧ row.length ≤ 64 ∧ Rch q p row
def StripJ (p : List F) (base : List (Addr × Obj)) (m₀ : Str → Option Value) (n : Nat) (m₁ : Str → Option Value) (news₁ : List (Addr × Obj)) : Prop :=
  (∀ z, z ≠ Str.ofString "row" → m₁ z = m₀ z) ∧
  ∃ r vr kr row, m₁ (Str.ofString "row") = some (.ref r) ∧ news₁ = (r, listOf (List.toArray vr) kr) :: base ∧ Off [(r, listOf (List.toArray vr) kr)] base ∧ IntsAre vr (List.map up row) ∧ n = row.length ∧ row.length ≤ 64 ∧ Strip p row

section
variable {prog : Program} {w : World} {p : Program} {loose : List Str} {mean : ExcName → Option Value} {mg mb : Str → Option Value} {dp un : Nat} {gd : Option (List Code)} {cn : Str} {cs : Scope} {a : Addr} {ccd : Value} {cl : List (Str × Addr)} {outer : List Env} {A₀ : Around} {base h₀ : Heap} {L : Addr} {m : Str → Option Value} {news : List (Addr × Obj)} {s : Shared} {Q E : Value → Shared → Prop}
local macro_rules | `(tactic| walk_at "call ref") => `(tactic| (k_here; (with_reducible show wpAny _ _ (call (Value.ref _) _) _ _ _); refine wpAny_call ?_; k_dflt (refine' code_def ?k1 ?k2 ?k3 ?k4 ?k5 ?kA ?kF ?kK ?k6 ?k7 ?k8 ?k9 ?kB ?_ ?c2 ?c3 ?c4 ?c5; (case kA => exact rfl); (case kF => exact rfl); (case kK => first | exact rfl | assumption); (case k1 => k_asm); (case k2 => k_asm); (case k3 => k_asm); (case k4 => k_asm); (case k5 => k_asm); (case k6 => k_is); (case k7 => k_is); (case k8 => ktr_room); (case k9 => exact BindsTo.of_eq rfl); (case c5 => decide); (case kB => exact locs rfl); (case c2 => exact rfl); (case c3 => exact rfl); (case c4 => exact rfl); k_whole; intro g' L' h' FG' F' N' B' X' T'; (try dsimp only); (try k_lift B'); (try k_fold))))
local macro_rules | `(tactic| walk_at "subscriptTail") => `(tactic| (k_here; (with_reducible show wpAny _ _ (subscriptTail _ _ (Value.ref 15) (Value.int (Int.fmod _ 255) _)) _ _ _); k_dflt (refine' exp_item ?F ?X ?_; (case F => k_asm); (case X => k_asm); k_whole); intro t9))
local macro_rules | `(tactic| walk_at "subscriptTail") => `(tactic| (k_here; (with_reducible show wpAny _ _ (subscriptTail _ _ (Value.ref 16) (Value.int (up _) _)) _ _ _); k_dflt (refine' log_item ?F ?X ?b ?_; (case F => k_asm); (case X => k_asm); (case b => assumption); k_whole); intro t9))
local macro_rules | `(tactic| walk_at "getItem ref int") => `(tactic| (k_here; (with_reducible show wpAny _ _ (getItem (Value.ref _) (Value.int _ _)) _ _ _); k_dflt (refine' up_get ?k1 ?k2 ?k3 ?k4 ?k5 ?k6 ?_; (case k1 => k_asm); (case k2 => k_mem); (case k3 => with_reducible assumption); (case k4 => first | exact (rfl : (0:Int) = ((0:Nat):Int)) | exact (rfl : ((_:Nat):Int) = ((_:Nat):Int)) | exact (Int.natCast_succ _).symm); (case k5 => ksa_idx); (case k6 => ksa_idx); k_whole); intro t9))
local macro_rules | `(tactic| walk_at "subscriptTail") => `(tactic| (k_here; (with_reducible show wpAny _ _ (subscriptTail _ _ (Value.ref _) (Value.int _ _)) _ _ _); k_dflt (refine' up_sub ?k1 ?k2 ?k3 ?k4 ?k5 ?k6 ?_ ?k7; (case k1 => k_asm); (case k2 => k_mem); (case k3 => with_reducible assumption); (case k4 => first | exact (rfl : (0:Int) = ((0:Nat):Int)) | exact (rfl : ((_:Nat):Int) = ((_:Nat):Int)) | exact (Int.natCast_succ _).symm); (case k5 => ksa_idx); (case k6 => ksa_idx); (case k7 => with_unfolding_all rfl); k_whole); intro t9))
local macro_rules | `(tactic| walk_at "subscriptTail Name Constant ref int") => `(tactic| (k_here; (with_reducible show wpAny _ _ (subscriptTail _ _ (Value.ref _) (Value.int _ _)) _ _ _); k_dflt (refine' up_sub ?k1 ?k2 ?k3 ?k4 ?k5 ?k6 ?_ ?k7; (case k1 => k_asm); (case k2 => k_mem); (case k3 => with_reducible assumption); (case k4 => first | exact (rfl : (0:Int) = ((0:Nat):Int)) | exact (rfl : ((_:Nat):Int) = ((_:Nat):Int)) | exact (Int.natCast_succ _).symm); (case k5 => ksa_idx); (case k6 => ksa_idx); (case k7 => with_unfolding_all rfl); k_whole); intro t9))
local macro_rules | `(tactic| walk_at "subscriptTail Name Name ref int") => `(tactic| (k_here; (with_reducible show wpAny _ _ (subscriptTail _ _ (Value.ref _) (Value.int _ _)) _ _ _); k_dflt (refine' up_sub ?k1 ?k2 ?k3 ?k4 ?k5 ?k6 ?_ ?k7; (case k1 => k_asm); (case k2 => k_mem); (case k3 => with_reducible assumption); (case k4 => first | exact (rfl : (0:Int) = ((0:Nat):Int)) | exact (rfl : ((_:Nat):Int) = ((_:Nat):Int)) | exact (Int.natCast_succ _).symm); (case k5 => ksa_idx); (case k6 => ksa_idx); (case k7 => with_unfolding_all rfl); k_whole); intro t9))
local macro_rules | `(tactic| walk_at "subscriptTail Name BinOp ref int") => `(tactic| (k_here; (with_reducible show wpAny _ _ (subscriptTail _ _ (Value.ref _) (Value.int _ _)) _ _ _); k_dflt (refine' up_sub ?k1 ?k2 ?k3 ?k4 ?k5 ?k6 ?_ ?k7; (case k1 => k_asm); (case k2 => k_mem); (case k3 => with_reducible assumption); (case k4 => first | exact (rfl : (0:Int) = ((0:Nat):Int)) | exact (rfl : ((_:Nat):Int) = ((_:Nat):Int)) | exact (Int.natCast_succ _).symm); (case k5 => ksa_idx); (case k6 => ksa_idx); (case k7 => with_unfolding_all rfl); k_whole); intro t9))
local macro_rules | `(tactic| walk_at "setItem ref int") => `(tactic| (k_here; (with_reducible show wpAny _ _ (setItem (Value.ref _) (Value.int _ _) (Value.int (up _) _)) _ _ _); k_dflt (refine' up_set ?k1 ?k2 ?k3 ?k4 ?k5 ?k6 ?k7 ?_; (case k1 => k_asm); (case k2 => k_asm); (case k3 => k_upd); (case k4 => with_reducible assumption); (case k5 => first | exact (rfl : (0:Int) = ((0:Nat):Int)) | exact (rfl : ((_:Nat):Int) = ((_:Nat):Int)) | exact (Int.natCast_succ _).symm); (case k6 => ksa_idx); (case k7 => ksa_idx); k_whole); intro h' F' N' hi'; (try k_sweep)))
local macro_rules | `(tactic| walk_at "binaryOp BitXor int int") => `(tactic| ((with_reducible show wpAny _ _ (binaryOp _ (Value.int (up _) _) (Value.int (up _) _)) _ _ _); refine xor_up ?_))
local macro_rules | `(tactic| walk_at "inplaceOp BitXor int int") => `(tactic| ((with_reducible show wpAny _ _ (inplaceOp _ (Value.int (up _) _) (Value.int (up _) _)) _ _ _); refine ixor_up ?_))
local macro_rules | `(tactic| walk_at "call ref") => `(tactic| (k_here; (with_reducible show wpAny _ _ (call (Value.ref 30) [Value.int _ _]) _ _ _); k_dflt (refine' gexp_call ?k1 ?k2 ?k3 ?k4 ?k5 ?kK ?kd ?ku ?_; (case k1 => k_asm); (case k2 => k_asm); (case k3 => k_asm); (case k4 => k_asm); (case k5 => k_asm); (case kK => first | exact rfl | assumption); (case kd => ktr_room); (case ku => ktr_units); intro t9 h9 tk9 F9 N9; (try dsimp only); (try k_sweep); (try k_fold))))
local macro_rules | `(tactic| walk_at "call ref") => `(tactic| (k_here; (with_reducible show wpAny _ _ (call (Value.ref 23) [Value.int (up _) _]) _ _ _); k_dflt (refine' glog_call ?kb ?k1 ?k2 ?k3 ?k4 ?k5 ?kK ?kd ?ku ?_; (case kb => first | assumption | (refine up_ne ?_; assumption)); (case k1 => k_asm); (case k2 => k_asm); (case k3 => k_asm); (case k4 => k_asm); (case k5 => k_asm); (case kK => first | exact rfl | assumption); (case kd => ktr_room); (case ku => ktr_units); intro t9 h9 tk9 F9 N9; (try dsimp only); (try k_sweep); (try k_fold))))
local macro_rules | `(tactic| k_all) => `(tactic| exact Off.head (by assumption))
local macro_rules | `(tactic| k_mem) => `(tactic| ((repeat' (first | exact List.Mem.head _ | refine List.mem_cons_of_mem _ ?_ | assumption)); done))
local macro_rules | `(tactic| walk_at "exec For Name Call cons nil") => `(tactic| (k_here; k_dflt (refine' For_stop ?F ?a ?b ?_; (case F => k_asm); (case a => exact rfl); (case b => exact rfl); k_whole)))
local macro_rules | `(tactic| walk_at "exec For Name Name cons nil") => `(tactic| (k_here; k_dflt (refine' For_stop ?F ?a ?b ?_; (case F => k_asm); (case a => exact rfl); (case b => exact rfl); k_whole)))
local macro_rules | `(tactic| walk_at "exec While Compare cons nil") => `(tactic| (k_here; refine Stop.out ?_))
local macro_rules | `(tactic| walk_at "exec While BoolOp cons nil") => `(tactic| (k_here; refine Stop.out ?_))
local macro_rules | `(tactic| walk_at "call type:list") => `(tactic| (k_here; (with_reducible show wpAny _ _ (call (Value.type _) [Value.ref _]) _ _ _); k_dflt (refine' up_copy ?k1 ?k2 ?k3 ?k4 ?k5 ?_; (case k1 => k_asm); (case k2 => k_asm); (case k3 => k_mem); (case k4 => with_reducible assumption); (case k5 => assumption); k_whole); intro D' c' h' F' N' l1; (try k_sweep)))
local macro_rules | `(tactic| walk_at "call builtin:len") => `(tactic| (k_here; (with_reducible show wpAny _ _ (call (Value.builtin _) [Value.ref _]) _ _ _); k_dflt (refine' up_len ?k1 ?k2 ?k3 ?k4 ?_; (case k1 => k_asm); (case k2 => k_mem); (case k3 => with_reducible assumption); (case k4 => assumption); k_whole); intro t9 tk9))
local macro_rules | `(tactic| walk_at "truthy ref") => `(tactic| (k_here; (with_reducible show wpAny _ _ (truthy (Value.ref _)) _ _ _); k_dflt (refine' up_true ?k1 ?k2 ?k3 ?k4 ?k5 ?_; (case k1 => k_asm); (case k2 => k_mem); (case k3 => with_reducible assumption); (case k4 => assumption); (case k5 => assumption); k_whole); intro tk9; (try simp only [Bool.not_true, Bool.false_eq_true, if_false, if_true])))
local macro_rules | `(tactic| k_all) => `(tactic| exact lt_all (by assumption))
local macro_rules | `(tactic| walk_at "call builtin:iter") => `(tactic| (k_here; (with_reducible show wpAny _ _ (call (Value.builtin "iter") [Value.ref _]) _ _ _); k_dflt (refine' iter_of_list ?k1 ?k2 ?k3 ?_; (case k1 => k_asm); (case k2 => k_asm); (case k3 => k_mem); k_whole); intro i9 h9 F9 N9 l9; (try k_sweep)))
local macro_rules | `(tactic| walk_at "call ref") => `(tactic| (k_here; (with_reducible show wpAny _ _ (call (Value.ref 80) [Value.ref _, Value.int 0 _]) _ _ _); k_dflt (refine' poly_call ?kl ?ki ?kq ?kq0 ?k1 ?k2 ?k3 ?k4 ?k5 ?kK ?kd ?ku ?_; (case k1 => k_asm); (case k2 => k_asm); (case k3 => k_asm); (case k4 => k_asm); (case k5 => k_asm); (case kl => k_mem); (case ki => with_reducible assumption); (case kq => assumption); (case kq0 => assumption); (case kK => first | exact rfl | assumption); (case kd => ktr_room); (case ku => ktr_units); intro x9 dx9 r9 vr9 k9 hsh9 tk9 n9 res9 h9 tk9' F9 N9 l9 l9' l9'' i9 st9 nz9; (try dsimp only); (try k_fold))))
local macro_rules | `(tactic| walk_at "call type:zip") => `(tactic| (k_here; (with_reducible show wpAny _ _ (call (Value.type _) [Value.ref _, Value.ref _]) _ _ _); k_dflt (refine' zip_polys ?h1 ?h2 ?h3 ?h4 ?h5 ?h6 ?k1 ?k2 ?k3 ?k4 ?k5 ?kK ?kd ?ku ?_; (case k1 => k_asm); (case k2 => k_asm); (case k3 => k_asm); (case k4 => k_asm); (case k5 => k_asm); (case h1 => k_mem); (case h2 => k_mem); (case h3 => k_mem); (case h4 => k_mem); (case h5 => k_mem); (case h6 => k_mem); (case kK => first | exact rfl | assumption); (case kd => ktr_room); (case ku => ktr_units); intro z9 TI9 TO9 i91 i92 h9 tk9 D9 st9 fp9 Lf9 wr9 nw9 F9 N9; (try dsimp only); (try k_sweep))))
local macro_rules | `(tactic| walk_at "subscriptTail Name Slice ref ref") => `(tactic| (k_here; (with_reducible show wpAny _ _ (subscriptTail _ (PySem.Expr.Slice _ _ none _) (Value.ref _) (Value.ref _)) _ _ _); k_dflt (refine' sub_slice_own ?F ?N ?X ?h1 ?h2 ?hq ?hs ?hf ?hn ?_; (case F => k_asm); (case N => k_asm); (case X => k_asm); (case h1 => k_mem); (case h2 => k_mem); (case hq => k_is); (case hs => k_is); (case hf => k_is); (case hn => k_is); k_whole); intro sl9 h9 F9 N9 l9; (try k_lt l9); (try dsimp only); (try k_sweep)))
local macro_rules | `(tactic| walk_at "subscriptTail") => `(tactic| (k_here; (with_reducible show wpAny _ _ (subscriptTail _ (PySem.Expr.Name _ _) (Value.ref _) (Value.ref _)) _ _ _); k_dflt (refine' list_slice_obj ?F ?N ?h1 ?h2 ?p ?q ?m ?z ?_; (case F => k_asm); (case N => k_asm); (case h1 => k_mem); (case h2 => k_mem); (case p => kmk_part); (case q => kmk_part); (case m => first | exact kmk_from_neg (by with_reducible assumption) (by omega) | kmk_nums); (case z => assumption); k_whole); intro D9 ws9 h9 F9 N9 l9 i9; (try k_lt l9); (try dsimp only); (try k_sweep)))
theorem rest_call {lu ll : Addr} {vu vl : List Value} {p' q : List F} {k1 k2 : Nat} (h1 : (lu, listOf vu.toArray k1) ∈ news) (h2 : (ll, listOf vl.toArray k2) ∈ news) (i1 : IntsAre vu (List.map up p')) (i2 : IntsAre vl (List.map up q)) (hp : p'.length ≤ 64) (hq : q.length ≤ 64) (hq0 : 1 < q.length) (hqz : cf q 0 ≠ 0#8)
  (B : Below A₀ base outer h₀) (F : Fr h₀ L s.heap m) (X : (hd.heap_39 w.params).In h₀) (N : News h₀ L s.heap news) (T : Top p loose mean mg mb h₀) (hk : cs.kind = .function) (hd1 : dp + 2 < recursionLimit) (hu : un + 16 < cLine)
   (hret : ∀ r vr k row res h' tk', Fr h₀ L h' m → News h₀ L h' ((r, listOf (List.toArray vr) k) :: news) → (∀ p ∈ news, p.1 ≠ r) → IntsAre vr (List.map up res) → Rch q p' row → row.length < q.length → Strip row res → ¬ (1 < res.length ∧ cf res 0 = 0#8) → Q (.ref r) {s with heap := h', toks := tk'}) : wpAny (model prog w) (ktrTop dp un gd cn cs L a ccd cl outer) (call (.ref 105) [.ref lu, .ref ll]) Q E s := by
  w_top off
  refine wpAny_call ?_
  k_dflt cell_enter
  k_steps
  refine ⟨?_⟩
  rename Fr _ _ _ _ => F'
  rename News _ _ _ _ => N'
  rename (∀ p ∈ news, p.1 < _) => l1
  refine While_stop (RestJ p' q news) F' N' ⟨fun _ _ _ _ => rfl, _, _, _, p', rfl, rfl, Off.cons (fun q hq => Nat.ne_of_lt (l1 q hq)) Off.nil, i1, rfl, hp, .refl _⟩ ?_
  rintro n m₁ news₁ h tk F₁ N₁ ⟨hag, r, vr, kr, row, hrow, rfl, hoff, hints, rfl, hlen, hrch⟩
  have e := frm3 hag
  rw [hrow] at e
  generalize m₁ (Str.ofString "ratio") = u1 at e
  generalize m₁ (Str.ofString "spot") = u2 at e
  subst e
  clear hag hrow
  k_steps
  · refine ⟨?_⟩
    have hr0 : 0 < row.length := by omega
    k_steps
    · refine ⟨?_⟩
      rename up (cf row 0) ≠ 0 => hne
      rename IsRange _ _ _ _ _ _ _ _ => R'
      rename Fr _ _ _ _ => F'
      rename News _ _ _ _ => N'
      refine iter_range (loc := [_]) (SubJ row q (exI (ratioOf row q))) rfl R' rfl (by omega) F' N' hoff ?_ ?_ ?_
      · refine ⟨fun _ _ => rfl, _, _, _, rfl, rfl, ?_⟩
        rw [subRow_zero]; exact hints
      · rintro i₂ t₂ m₂ loc₂ h₂ tk₂ nw₂ hi₂ ⟨hag₂, r₂, vw, kw, hr₂, rfl, hints₂⟩ hsub₂ hoff₂ F₂ N₂
        have e := frm1 hag₂
        generalize m₂ (Str.ofString "spot") = u4 at e
        subst e
        have er : r₂ = r := (Value.ref.inj (Option.some.inj hr₂)).symm
        subst er
        clear hag₂ hr₂
        have hwl : (subRow row q (exI (ratioOf row q)) i₂).length = row.length := subRow_length _ _ _ _
        generalize hW : subRow row q (exI (ratioOf row q)) i₂ = wl at hints₂ hwl
        have hlm : (ll, listOf vl.toArray k2) ∈ nw₂ := hsub₂ _ (by k_mem)
        simp only [List.cons_append, List.nil_append] at N₂
        k_steps
        · rename Fr _ _ _ _ => F'
          rename News _ _ _ _ => N'
          rename IntsAre _ (List.map up (wl.set _ _)) => hi'
          rename up (cf q i₂) ≠ 0 => hne2
          refine TurnEnd.intro F' N' (loc' := [_]) (fun p hp => hp) (Off.cons hoff₂.head Off.nil) ⟨fun z h1 => ?_, r₂, _, _, rfl, rfl, ?_⟩
          · simp only [h1, if_false]
          · have e : wl.set i₂ (cf wl i₂ ^^^ exI (↑(lg (cf q i₂)) + ratioOf row q)) = subRow row q (exI (ratioOf row q)) (i₂ + 1) := by rw [exI_add _ (up_ne hne2), ← hW, subRow_set _ _ _ _ (by omega)]
            rw [← e]
            exact hi'
        · rename up (cf q i₂) = 0 => hz
          refine TurnEnd.intro F₂ N₂ (loc' := [_]) (fun p hp => hp) hoff₂ ⟨fun z h1 => ?_, r₂, _, _, rfl, rfl, ?_⟩
          · simp only [h1, if_false]
          · rw [← subRow_same _ _ _ _ (up_eq_zero hz), hW]
            exact hints₂
      · rintro m₂ loc₂ h₂ tk₂ ⟨hag₂, r₂, vw, kw, hr₂, rfl, hints₂⟩ hoff₂ F₂ N₂
        have e := frm1 hag₂
        generalize m₂ (Str.ofString "spot") = u4 at e
        subst e
        have er : r₂ = r := (Value.ref.inj (Option.some.inj hr₂)).symm
        subst er
        clear hag₂ hr₂
        have hwl : (subRow row q (exI (ratioOf row q)) q.length).length = row.length := subRow_length _ _ _ _
        have hlw : lowered row q = subRow row q (exI (ratioOf row q)) q.length := if_neg (up_ne hne)
        generalize hW : subRow row q (exI (ratioOf row q)) q.length = wl at hints₂ hwl hlw
        have hwl2 : wl.length ≤ 64 := by omega
        simp only [List.cons_append, List.nil_append] at N₂
        k_steps
        rename Fr _ _ _ _ => F'
        rename News _ _ _ _ => N'
        rename IntsAre _ (List.drop 1 (List.map up wl)) => hi'
        rename (_ < _ ∧ AllLt _ _) => l2
        refine WhileStep.intro F' (news_drop2 N') (n' := (wl.drop 1).length) (by rw [List.length_drop]; omega) ⟨fun z h1 h2 h3 => ?_, _, _, _, wl.drop 1, rfl, rfl, ?_, ?_, rfl, by rw [List.length_drop]; omega, ?_⟩
        · simp only [h1, h2, h3, if_false]
        · exact Off.cons (fun q hq => Nat.ne_of_lt (ktn_ltOf l2.2 q hq)) Off.nil
        · rw [List.map_drop]; exact hi'
        · rw [← hlw]; exact hrch.step (by omega)
    · rename up (cf row 0) = 0 => hz
      rename Fr _ _ _ _ => F'
      rename News _ _ _ _ => N'
      rename IntsAre _ (List.drop 1 (List.map up row)) => hi'
      rename (_ < _ ∧ AllLt _ _) => l2
      refine WhileStep.intro F' (news_drop2 N') (n' := (row.drop 1).length) (by rw [List.length_drop]; omega) ⟨fun z h1 h2 h3 => ?_, _, _, _, row.drop 1, rfl, rfl, ?_, ?_, rfl, by rw [List.length_drop]; omega, ?_⟩
      · simp only [h1, h2, h3, if_false]
      · exact Off.cons (fun q hq => Nat.ne_of_lt (ktn_ltOf l2.2 q hq)) Off.nil
      · rw [List.map_drop]; exact hi'
      · have := hrch.step (by omega)
        rw [show lowered row q = row from if_pos (up_eq_zero hz)] at this
        exact this
  · refine ⟨?_⟩
    have hlt : row.length < q.length := by omega
    k_steps
    refine ⟨?_⟩
    refine While_stop (StripJ row news) F₁ N₁ ⟨fun _ _ => rfl, _, _, _, row, rfl, rfl, hoff, hints, rfl, hlen, .refl _⟩ ?_
    clear F₁ N₁
    rintro n m₁ news₁ h tk F₁ N₁ ⟨hag, r, vr, kr, res, hrow, rfl, hoff, hints, rfl, hlen2, hstr⟩
    have e := frm1 hag
    rw [hrow] at e
    subst e
    clear hag hrow
    k_steps
    · have hgt : 1 < res.length := by omega
      rename up (cf res 0) = 0 => hz
      refine ⟨?_⟩
      k_steps
      rename Fr _ _ _ _ => F'
      rename News _ _ _ _ => N'
      rename IntsAre _ (List.drop 1 (List.map up res)) => hi'
      rename (_ < _ ∧ AllLt _ _) => l2
      refine WhileStep.intro F' (news_drop2 N') (n' := (res.drop 1).length) (by rw [List.length_drop]; omega) ⟨fun z h1 => ?_, _, _, _, res.drop 1, rfl, rfl, ?_, ?_, rfl, by rw [List.length_drop]; omega, ?_⟩
      · simp only [h1, if_false]
      · exact Off.cons (fun q hq => Nat.ne_of_lt (ktn_ltOf l2.2 q hq)) Off.nil
      · rw [List.map_drop]; exact hi'
      · exact hstr.drop hgt (up_eq_zero hz)
    · rename up (cf res 0) ≠ 0 => hnz
      refine ⟨?_⟩
      k_steps
      rename Fr h₀ _ _ _ => F'
      rename News h₀ _ _ _ => N'
      exact hret _ _ _ row res _ _ F' N' hoff.head hints hrch hlt hstr (fun c => up_ne hnz c.2)
    · refine ⟨?_⟩
      k_steps
      rename Fr h₀ _ _ _ => F'
      rename News h₀ _ _ _ => N'
      exact hret _ _ _ row res _ _ F' N' hoff.head hints hrch hlt hstr (fun c => by omega)
end
end Mine
end

-- part W5
section
open PySem PySem.W PyProof.Rows PySem.Spec PySem.Calls
set_option maxRecDepth 100000
set_option maxHeartbeats 8000000
namespace Mine
theorem fill_it5 : (fun (_ : OpenLaw) => hd.heap_39 = hd.heap_39) PySem.Challenge.rw_ae6025_01 := by k_fill; rfl

theorem strip_drop (q : List F) : ∀ o : Nat, o < q.length → (∀ j, j < o → cf q j = 0#8) → Strip q (q.drop o)
  | 0, _, _ => Strip.refl q
  | o + 1, h, hz => by
    have ih := strip_drop q o (by omega) fun j hj => hz j (by omega)
    have h0 : cf (q.drop o) 0 = 0#8 := by
      have := hz o (by omega)
      unfold cf at this ⊢
      rw [List.getD_eq_getElem?_getD] at this ⊢
      rw [List.getElem?_drop, Nat.add_zero]; exact this
    have := ih.drop (by rw [List.length_drop]; omega) h0
    rw [List.drop_drop] at this
    exact this
theorem cf_drop (q : List F) (o j : Nat) : cf (q.drop o) j = cf q (o + j) := by
  unfold cf
  rw [List.getD_eq_getElem?_getD, List.getD_eq_getElem?_getD, List.getElem?_drop]

def OffJ (q : List F) (m₀ : Str → Option Value) (i : Nat) (m₁ : Str → Option Value) (loc : List (Addr × Obj)) : Prop :=
  (∀ z, z ≠ Str.ofString "offset" → m₁ z = m₀ z) ∧ loc = [] ∧ (∀ j, j < i → cf q j = 0#8) ∧ (0 < i → ∃ t, m₁ (Str.ofString "offset") = some (.int ((i - 1 : Nat) : Int) t))

section
variable {prog : Program} {w : World} {p : Program} {loose : List Str} {mean : ExcName → Option Value} {mg mb : Str → Option Value} {dp un : Nat} {gd : Option (List Code)} {cn : Str} {cs : Scope} {a : Addr} {ccd : Value} {cl : List (Str × Addr)} {outer : List Env} {A₀ : Around} {base h₀ : Heap} {L : Addr} {m : Str → Option Value} {news : List (Addr × Obj)} {s : Shared} {Q E : Value → Shared → Prop}
local macro_rules | `(tactic| walk_at "subscriptTail") => `(tactic| (k_here; (with_reducible show wpAny _ _ (subscriptTail _ _ (Value.ref 15) (Value.int (Int.fmod _ 255) _)) _ _ _); k_dflt (refine' exp_item ?F ?X ?_; (case F => k_asm); (case X => k_asm); k_whole); intro t9))
local macro_rules | `(tactic| walk_at "subscriptTail") => `(tactic| (k_here; (with_reducible show wpAny _ _ (subscriptTail _ _ (Value.ref 16) (Value.int (up _) _)) _ _ _); k_dflt (refine' log_item ?F ?X ?b ?_; (case F => k_asm); (case X => k_asm); (case b => assumption); k_whole); intro t9))
local macro_rules | `(tactic| walk_at "getItem ref int") => `(tactic| (k_here; (with_reducible show wpAny _ _ (getItem (Value.ref _) (Value.int _ _)) _ _ _); k_dflt (refine' up_get ?k1 ?k2 ?k3 ?k4 ?k5 ?k6 ?_; (case k1 => k_asm); (case k2 => k_mem); (case k3 => with_reducible assumption); (case k4 => first | exact (rfl : (0:Int) = ((0:Nat):Int)) | exact (rfl : ((_:Nat):Int) = ((_:Nat):Int)) | exact (Int.natCast_succ _).symm); (case k5 => ksa_idx); (case k6 => ksa_idx); k_whole); intro t9))
local macro_rules | `(tactic| walk_at "subscriptTail") => `(tactic| (k_here; (with_reducible show wpAny _ _ (subscriptTail _ _ (Value.ref _) (Value.int _ _)) _ _ _); k_dflt (refine' up_sub ?k1 ?k2 ?k3 ?k4 ?k5 ?k6 ?_ ?k7; (case k1 => k_asm); (case k2 => k_mem); (case k3 => with_reducible assumption); (case k4 => first | exact (rfl : (0:Int) = ((0:Nat):Int)) | exact (rfl : ((_:Nat):Int) = ((_:Nat):Int)) | exact (Int.natCast_succ _).symm); (case k5 => ksa_idx); (case k6 => ksa_idx); (case k7 => with_unfolding_all rfl); k_whole); intro t9))
local macro_rules | `(tactic| walk_at "subscriptTail Name Constant ref int") => `(tactic| (k_here; (with_reducible show wpAny _ _ (subscriptTail _ _ (Value.ref _) (Value.int _ _)) _ _ _); k_dflt (refine' up_sub ?k1 ?k2 ?k3 ?k4 ?k5 ?k6 ?_ ?k7; (case k1 => k_asm); (case k2 => k_mem); (case k3 => with_reducible assumption); (case k4 => first | exact (rfl : (0:Int) = ((0:Nat):Int)) | exact (rfl : ((_:Nat):Int) = ((_:Nat):Int)) | exact (Int.natCast_succ _).symm); (case k5 => ksa_idx); (case k6 => ksa_idx); (case k7 => with_unfolding_all rfl); k_whole); intro t9))
local macro_rules | `(tactic| walk_at "subscriptTail Name Name ref int") => `(tactic| (k_here; (with_reducible show wpAny _ _ (subscriptTail _ _ (Value.ref _) (Value.int _ _)) _ _ _); k_dflt (refine' up_sub ?k1 ?k2 ?k3 ?k4 ?k5 ?k6 ?_ ?k7; (case k1 => k_asm); (case k2 => k_mem); (case k3 => with_reducible assumption); (case k4 => first | exact (rfl : (0:Int) = ((0:Nat):Int)) | exact (rfl : ((_:Nat):Int) = ((_:Nat):Int)) | exact (Int.natCast_succ _).symm); (case k5 => ksa_idx); (case k6 => ksa_idx); (case k7 => with_unfolding_all rfl); k_whole); intro t9))
local macro_rules | `(tactic| walk_at "subscriptTail Name BinOp ref int") => `(tactic| (k_here; (with_reducible show wpAny _ _ (subscriptTail _ _ (Value.ref _) (Value.int _ _)) _ _ _); k_dflt (refine' up_sub ?k1 ?k2 ?k3 ?k4 ?k5 ?k6 ?_ ?k7; (case k1 => k_asm); (case k2 => k_mem); (case k3 => with_reducible assumption); (case k4 => first | exact (rfl : (0:Int) = ((0:Nat):Int)) | exact (rfl : ((_:Nat):Int) = ((_:Nat):Int)) | exact (Int.natCast_succ _).symm); (case k5 => ksa_idx); (case k6 => ksa_idx); (case k7 => with_unfolding_all rfl); k_whole); intro t9))
local macro_rules | `(tactic| walk_at "setItem ref int") => `(tactic| (k_here; (with_reducible show wpAny _ _ (setItem (Value.ref _) (Value.int _ _) (Value.int (up _) _)) _ _ _); k_dflt (refine' up_set ?k1 ?k2 ?k3 ?k4 ?k5 ?k6 ?k7 ?_; (case k1 => k_asm); (case k2 => k_asm); (case k3 => k_upd); (case k4 => with_reducible assumption); (case k5 => first | exact (rfl : (0:Int) = ((0:Nat):Int)) | exact (rfl : ((_:Nat):Int) = ((_:Nat):Int)) | exact (Int.natCast_succ _).symm); (case k6 => ksa_idx); (case k7 => ksa_idx); k_whole); intro h' F' N' hi'; (try k_sweep)))
local macro_rules | `(tactic| walk_at "binaryOp BitXor int int") => `(tactic| ((with_reducible show wpAny _ _ (binaryOp _ (Value.int (up _) _) (Value.int (up _) _)) _ _ _); refine xor_up ?_))
local macro_rules | `(tactic| walk_at "inplaceOp BitXor int int") => `(tactic| ((with_reducible show wpAny _ _ (inplaceOp _ (Value.int (up _) _) (Value.int (up _) _)) _ _ _); refine ixor_up ?_))
local macro_rules | `(tactic| walk_at "call ref") => `(tactic| (k_here; (with_reducible show wpAny _ _ (call (Value.ref 30) [Value.int _ _]) _ _ _); k_dflt (refine' gexp_call ?k1 ?k2 ?k3 ?k4 ?k5 ?kK ?kd ?ku ?_; (case k1 => k_asm); (case k2 => k_asm); (case k3 => k_asm); (case k4 => k_asm); (case k5 => k_asm); (case kK => first | exact rfl | assumption); (case kd => ktr_room); (case ku => ktr_units); intro t9 h9 tk9 F9 N9; (try dsimp only); (try k_sweep); (try k_fold))))
local macro_rules | `(tactic| walk_at "call ref") => `(tactic| (k_here; (with_reducible show wpAny _ _ (call (Value.ref 23) [Value.int (up _) _]) _ _ _); k_dflt (refine' glog_call ?kb ?k1 ?k2 ?k3 ?k4 ?k5 ?kK ?kd ?ku ?_; (case kb => first | assumption | (refine up_ne ?_; assumption)); (case k1 => k_asm); (case k2 => k_asm); (case k3 => k_asm); (case k4 => k_asm); (case k5 => k_asm); (case kK => first | exact rfl | assumption); (case kd => ktr_room); (case ku => ktr_units); intro t9 h9 tk9 F9 N9; (try dsimp only); (try k_sweep); (try k_fold))))
local macro_rules | `(tactic| k_all) => `(tactic| exact Off.head (by assumption))
local macro_rules | `(tactic| k_mem) => `(tactic| ((repeat' (first | exact List.Mem.head _ | refine List.mem_cons_of_mem _ ?_ | assumption)); done))
local macro_rules | `(tactic| walk_at "exec For Name Call cons nil") => `(tactic| (k_here; k_dflt (refine' For_stop ?F ?a ?b ?_; (case F => k_asm); (case a => exact rfl); (case b => exact rfl); k_whole)))
local macro_rules | `(tactic| walk_at "exec For Name Name cons nil") => `(tactic| (k_here; k_dflt (refine' For_stop ?F ?a ?b ?_; (case F => k_asm); (case a => exact rfl); (case b => exact rfl); k_whole)))
local macro_rules | `(tactic| walk_at "exec While Compare cons nil") => `(tactic| (k_here; refine Stop.out ?_))
local macro_rules | `(tactic| walk_at "exec While BoolOp cons nil") => `(tactic| (k_here; refine Stop.out ?_))
local macro_rules | `(tactic| walk_at "call type:list") => `(tactic| (k_here; (with_reducible show wpAny _ _ (call (Value.type _) [Value.ref _]) _ _ _); k_dflt (refine' up_copy ?k1 ?k2 ?k3 ?k4 ?k5 ?_; (case k1 => k_asm); (case k2 => k_asm); (case k3 => k_mem); (case k4 => with_reducible assumption); (case k5 => assumption); k_whole); intro D' c' h' F' N' l1; (try k_sweep)))
local macro_rules | `(tactic| walk_at "call builtin:len") => `(tactic| (k_here; (with_reducible show wpAny _ _ (call (Value.builtin _) [Value.ref _]) _ _ _); k_dflt (refine' up_len ?k1 ?k2 ?k3 ?k4 ?_; (case k1 => k_asm); (case k2 => k_mem); (case k3 => with_reducible assumption); (case k4 => assumption); k_whole); intro t9 tk9))
local macro_rules | `(tactic| walk_at "truthy ref") => `(tactic| (k_here; (with_reducible show wpAny _ _ (truthy (Value.ref _)) _ _ _); k_dflt (refine' up_true ?k1 ?k2 ?k3 ?k4 ?k5 ?_; (case k1 => k_asm); (case k2 => k_mem); (case k3 => with_reducible assumption); (case k4 => assumption); (case k5 => assumption); k_whole); intro tk9; (try simp only [Bool.not_true, Bool.false_eq_true, if_false, if_true])))
local macro_rules | `(tactic| k_all) => `(tactic| exact lt_all (by assumption))
local macro_rules | `(tactic| kmk_nums) => `(tactic| exact kmk_from (by with_reducible assumption) (by omega))
theorem poly_call {l : Addr} {vs : List Value} {q : List F} {k : Nat} {t2 : Tok} (hl : (l, listOf vs.toArray k) ∈ news) (hi : IntsAre vs (List.map up q)) (hq : q.length ≤ 64) (hq0 : 0 < q.length)
  (B : Below A₀ base outer h₀) (F : Fr h₀ L s.heap m) (X : (hd.heap_39 w.params).In h₀) (N : News h₀ L s.heap news) (T : Top p loose mean mg mb h₀) (hk : cs.kind = .function) (hd1 : dp + 4 < recursionLimit) (hu : un + 32 < cLine)
   (hret : ∀ x dx r vr k hsh tk n res h' tk', Fr h₀ L h' m → News h₀ L h' ((x, instObj 80 dx) :: (dx, dictOf [⟨hsh, .str "num" tk, .ref r⟩] n) :: (r, listOf (List.toArray vr) k) :: news) → (∀ p ∈ news, p.1 < dx) → dx < x → x < r → IntsAre vr (List.map up res) → Strip q res → ¬ (1 < res.length ∧ cf res 0 = 0#8) → Q (.ref x) {s with heap := h', toks := tk'}) : wpAny (model prog w) (ktrTop dp un gd cn cs L a ccd cl outer) (call (.ref 80) [.ref l, .int 0 t2]) Q E s := by
  w_top off
  k_dflt (refine' call_cls ?k1 ?k2 ?k3 ?k4 ?k5 ?k6 ?_)
  case k1 => k_asm
  case k2 => k_asm
  case k3 => k_asm
  case k4 => k_is
  case k5 => k_is
  case k6 => k_is
  intro x dx h' F' N' l1 l2
  k_lt2 l2
  k_dflt cell_enter
  k_steps
  refine ⟨?_⟩
  rename IsRange _ _ _ _ _ _ _ _ => R'
  rename Fr _ _ _ _ => F'
  rename News _ _ _ _ => N'
  refine iter_range (loc := []) (OffJ q) rfl R' rfl (by omega) F' N' Off.nil ⟨fun _ _ => rfl, rfl, fun j hj => absurd hj (Nat.not_lt_zero _), fun h => absurd h (Nat.lt_irrefl _)⟩ ?_ ?_
  · rintro i₂ t₂ m₂ loc₂ h₂ tk₂ nw₂ hi₂ ⟨hag₂, rfl, hz, _⟩ hsub₂ hoff₂ F₂ N₂
    have e := frm1 hag₂
    generalize m₂ (Str.ofString "offset") = u4 at e
    subst e
    clear hag₂
    have hlm : (l, listOf vs.toArray k) ∈ nw₂ := hsub₂ _ (by k_mem)
    simp only [List.nil_append] at N₂
    k_steps
    · rename up (cf q i₂) ≠ 0 => hne
      have N₃ : News _ _ _ _ := fun p hp => N₂ p (hsub₂ p hp)
      clear N₂
      show wpAny _ _ (execs _ _) _ _ _
      k_steps
      rename Fr h₀ _ _ _ => kF
      rename News h₀ _ _ _ => kN
      rename IntsAre _ (List.drop _ (List.map up q) ++ _) => hi'
      rename (_ < _ ∧ _ < _ ∧ _ < _ ∧ _ < _ ∧ _ < _ ∧ AllLt _ _) => l9
      refine hret x dx _ _ _ _ _ _ (q.drop i₂) _ _ kF (news_poly kN) l1 l2 l9.2.2.2.1 ?_ (strip_drop q i₂ hi₂ hz) ?_
      · have e : List.drop (i₂ : Int).toNat (List.map up q) ++ (List.replicate (Int.toNat 0) [0]).flatten = List.map up (q.drop i₂) := by
          rw [Int.toNat_natCast, List.map_drop]; exact List.append_nil _
        rw [e] at hi'
        exact hi'
      · rw [cf_drop]; exact fun c => up_ne hne c.2
    · rename up (cf q i₂) = 0 => hzz
      refine TurnEnd.intro F₂ N₂ (loc' := []) (fun p hp => hp) Off.nil ⟨fun z h1 => ?_, rfl, fun j hj => ?_, fun _ => ⟨_, rfl⟩⟩
      · simp only [h1, if_false]
      · by_cases e : j = i₂
        · rw [e]; exact up_eq_zero hzz
        · exact hz j (by omega)
  · rintro m₂ loc₂ h₂ tk₂ ⟨hag₂, rfl, hz, ho⟩ hoff₂ F₂ N₂
    obtain ⟨t₂, ho⟩ := ho hq0
    have e := frm1 hag₂
    rw [ho] at e
    subst e
    clear hag₂ ho
    simp only [List.nil_append] at N₂
    show wpAny _ _ (execs _ _) _ _ _
    k_steps
    rename Fr h₀ _ _ _ => kF
    rename News h₀ _ _ _ => kN
    rename IntsAre _ (List.drop _ (List.map up q) ++ _) => hi'
    rename (_ < _ ∧ _ < _ ∧ _ < _ ∧ _ < _ ∧ _ < _ ∧ AllLt _ _) => l9
    refine hret x dx _ _ _ _ _ _ (q.drop (q.length - 1)) _ _ kF (news_poly kN) l1 l2 l9.2.2.2.1 ?_ (strip_drop q _ (by omega) fun j hj => hz j (by omega)) ?_
    · have e : List.drop ((q.length - 1 : Nat) : Int).toNat (List.map up q) ++ (List.replicate (Int.toNat 0) [0]).flatten = List.map up (q.drop (q.length - 1)) := by
        rw [Int.toNat_natCast, List.map_drop]; exact List.append_nil _
      rw [e] at hi'
      exact hi'
    · rw [List.length_drop]; omega
end
end Mine
end

-- part Z1
section
open PySem PySem.W PyProof.Rows PySem.Spec PySem.Calls PyProof.Rows.LCg
set_option maxRecDepth 100000
set_option maxHeartbeats 4000000
namespace Mine

section
variable {prog : Program} {w : World} {A : Around} {E : Value → Shared → Prop} {s : Shared} {h₀ : Heap} {L : Addr} {m : Str → Option Value} {env : Env}

/-- a list comprehension over pairs: its block -/
theorem pair_block {elt iter : PySem.Expr} {a b : Str} {pa pb tp : Pos} {kk : Nat} {scope : Scope} {cl : List (Str × Addr)} {pos : Pos} {I : Addr} {fp wr : List Addr} {n : Nat} {Pt : Nat → Array Value → Prop} {St : Nat → Heap → Prop} {Mid : Nat → Addr → Heap → Prop}
    {news : List (Addr × Obj)} {P : Nat → Value → Value → Prop} {Rel : Nat → Value → Prop} {RR : Value → Addr → Result → Shared → Prop}
    (W : WalksT prog w A I fp wr n Pt St Mid) (hPt : ∀ i vals, Pt i vals → ∃ x y, vals = #[x, y] ∧ P i x y) (hh : A.handled = none) (hsz : n ≤ sizeLine)
    (hcell : ∀ y ∈ scope.names, y.2 ≠ .cell) (hkind : scope.kind = .function) (hxa : scope.names.lookup a = some .local) (hxb : scope.names.lookup b = some .local) (hab : ¬ a = b)
    (hst : St 0 s.heap) (hfp : ∀ c ∈ fp, c < s.heap.objs.size) (hLf : L ∉ fp) (hwr : ∀ c ∈ wr, h₀.get? c = none) (hnw : ∀ p ∈ news, p.1 ∉ wr)
    (F : Fr h₀ L s.heap m) (N : News h₀ L s.heap news)
    (turn : ∀ i x y C oC D acc m₂ h tk nw (E' : Value → Shared → Prop), i < n → P i x y → NsObj oC m₂ → m₂ a = some x → m₂ b = some y → Fr h₀ L h m → News h₀ L h ((C, oC) :: (D, lst acc) :: nw) → (∀ p ∈ news, p ∈ nw) →
      wpAny (model prog w) A (eval elt (compEnvC scope cl C env)) (fun v s' => ∃ h' tk', s' = { s with heap := h', toks := tk' } ∧ Fr h₀ L h' m ∧ News h₀ L h' ((C, oC) :: (D, lst acc) :: nw) ∧ Rel i v) E' { s with heap := h, toks := tk })
    (hRR : ∀ D C h tk m' ys, Fr h₀ L h m → News h₀ L h ((D, lst ys) :: news) → (∀ p ∈ news, p.1 < D) → h.Ns C m' → h₀.get? C = none → h₀.get? D = none → C ≠ L → D ≠ L → C ≠ D → (∀ p ∈ news, p.1 ≠ C) → ys.length = n → (∀ i v, ys[i]? = some v → Rel i v) → RR (.ref D) C (.ok .next) { s with heap := h, toks := tk }) :
    wpAny (model prog w) A (newList []) (fun acc s₃ => wpAny (model prog w) A (newFunctionEnv scope env.globals cl [] env.qual none .none (some env)) (fun cenv s₄ =>
      codeAny (model prog w) A (.compStart (.ListComp elt [⟨.Tuple [.Name a pa, .Name b pb] kk tp, iter, [], 0⟩] scope pos) 0 (.ref I) acc { cenv with scope := relabel scope env }) (RR acc cenv.locals) s₄) E s₃) E s := by
  refine wpAny_newObj_type (wpAny_newFunctionEnv hcell (by intro y hy; simp at hy) (fun h₁ hns₁ hsb₁ => ?_) hkind)
  dsimp only at hns₁ hsb₁ ⊢
  generalize hH2 : s.heap.push { cls := .type "list", dict := none, data := .seq ([] : List Value).toArray } = H2 at hns₁ hsb₁ ⊢
  have hC : H2.objs.size = s.heap.objs.size + 1 := by rw [← hH2, Heap.size_push]
  have hDC : s.heap.objs.size ≠ H2.objs.size := by rw [hC]; exact Nat.ne_of_lt (Nat.lt_succ_self _)
  have below : ∀ c, c < s.heap.objs.size → c ≠ H2.objs.size ∧ c ≠ s.heap.objs.size := fun c hc => ⟨by rw [hC]; exact Nat.ne_of_lt (Nat.lt_succ_of_lt hc), Nat.ne_of_lt hc⟩
  have hDf : s.heap.objs.size ∉ fp := fun hm => Nat.lt_irrefl _ (hfp _ hm)
  have hCf : H2.objs.size ∉ fp := fun hm => by have := hfp _ hm; rw [hC] at this; exact Nat.lt_irrefl _ (Nat.lt_of_succ_lt this)
  have hDw : s.heap.objs.size ∉ wr := fun h => hDf (W.sub _ h)
  have hCw : H2.objs.size ∉ wr := fun h => hCf (W.sub _ h)
  have hLw : L ∉ wr := fun h => hLf (W.sub _ h)
  have old : ∀ c o, s.heap.get? c = some o → h₁.get? c = some o := fun c o e => hsb₁.extBut c o (below c (Heap.lt_size e)).1 (Heap.get?_push_of_some _ (hH2 ▸ Heap.get?_push_of_some _ e))
  have hacc : h₁.get? s.heap.objs.size = some (lst []) := hsb₁.extBut _ _ hDC (Heap.get?_push_of_some _ (hH2 ▸ Heap.get?_push_size _ rfl))
  have hst₁ : St 0 h₁ := W.frame _ _ _ hst fun c _ o e => old c o e
  have fresh₀ : ∀ c, s.heap.objs.size ≤ c → h₀.get? c = none := fun c hc => by
    cases e : h₀.get? c with
    | none => rfl
    | some o' => exact absurd (Heap.lt_size (F.keep c o' e)) (Nat.not_lt.mpr hc)
  have hD₀ : h₀.get? s.heap.objs.size = none := fresh₀ _ (Nat.le_refl _)
  have hC₀ : h₀.get? H2.objs.size = none := fresh₀ _ (by rw [hC]; exact Nat.le_succ _)
  have hLlt : L < s.heap.objs.size := F.ns.lt
  have hDL : s.heap.objs.size ≠ L := Ne.symm (below L hLlt).2
  have hCL : H2.objs.size ≠ L := Ne.symm (below L hLlt).1
  have nlt : ∀ p ∈ news, p.1 < s.heap.objs.size := fun p hp => Heap.lt_size (N p hp).1
  have loop : ∀ s₃ : Shared, s₃ = { s with heap := h₁, toks := s.toks + ([] : List (Str × Value)).length } →
      codeAny (model prog w) A (.compLoop (.ListComp elt [⟨.Tuple [.Name a pa, .Name b pb] kk tp, iter, [], 0⟩] scope pos) 0 (.ref I) (.ref s.heap.objs.size) (compEnvC scope cl H2.objs.size env))
        (RR (.ref s.heap.objs.size) H2.objs.size) s₃ := by
    rintro s₃ rfl
    refine kcp_loop
      (fun k s' => ∃ h' tk i ys m', s' = { s with heap := h', toks := tk } ∧ i ≤ n ∧ k = n + 1 - i ∧ ys.length = i ∧ St i h' ∧ Fr h₀ L h' m ∧ h'.Ns H2.objs.size m' ∧
        News h₀ L h' ((s.heap.objs.size, lst ys) :: news) ∧ ∀ j v, ys[j]? = some v → Rel j v) ?_ (n + 1)
      ⟨h₁, _, 0, [], _, rfl, Nat.zero_le _, rfl, rfl, hst₁, F.keeps old, hns₁, fun p hp => ?_, fun j v e => by simp at e⟩
    · rintro k s' ⟨h', tk, i, ys, m', rfl, hi, rfl, hyl, hst', F', hn', N', hrel⟩
      by_cases hlt : i < n
      · refine W.item i _ _ _ hlt hst' fun T vals h₂ tk₂ hPv hsT hT hMd hk₂ => ?_
        obtain ⟨x, y, rfl, hxy⟩ := hPt _ _ hPv
        refine W.go _ _ _ i T _ _ _ hMd fun h₃ hst₃ hk₃ => ?_
        have hTw := W.apart _ _ _ hMd
        have hT₃ : h₃.IsTuple T #[x, y] := by
          obtain ⟨o, ho, r⟩ := hT
          exact ⟨o, hk₃ _ _ hTw ho, r⟩
        have up₃ : ∀ c o, c ∉ wr → h'.get? c = some o → h₃.get? c = some o := fun c o hc e => hk₃ c o hc (hk₂ c o hc e)
        refine kcp_assign (env := compEnvC scope cl H2.objs.size env) hh hT₃ (lookup_relabel_local hxa) (lookup_relabel_local hxb) (by simp [compEnvC, relabel, hkind]) (hn'.at' fun o e => up₃ _ o hCw e) fun h₄ tk₄ hn₄ hs₄ => ?_
        have up : ∀ c o, c ∉ wr → c ≠ H2.objs.size → h'.get? c = some o → h₄.get? c = some o := fun c o h1 h2 e => hs₄ c o h2 (up₃ c o h1 e)
        have hst₄ : St (i + 1) h₄ := W.frame _ _ _ hst₃ fun c hc o e => hs₄ c o (fun q => hCf (by have q' : c = H2.objs.size := q; rw [← q']; exact hc)) e
        obtain ⟨oC, heC, hoC⟩ := ns_obj hn₄
        have F₄ : Fr h₀ L h₄ m := ⟨F'.ns.at' fun o e => up _ o hLw (Ne.symm hCL) e, fun c o e => up c o (fun q => by rw [hwr c q] at e; cases e) (fun q => by rw [q, hC₀] at e; cases e) (F'.keep c o e), F'.above⟩
        have Nown : News h₀ L h₄ (ownOf h₀ fp h₄) := news_ownOf hLf
        have N₄ : News h₀ L h₄ ((H2.objs.size, oC) :: (s.heap.objs.size, lst ys) :: (ownOf h₀ fp h₄ ++ news)) := fun q hq => by
          rcases List.mem_cons.mp hq with rfl | hq
          · exact ⟨heC, hCL, hC₀⟩
          · have old4 : ∀ q ∈ (s.heap.objs.size, lst ys) :: news, h₄.get? q.1 = some q.2 ∧ q.1 ≠ L ∧ h₀.get? q.1 = none := fun q hq => by
              have z := N' q hq
              refine ⟨up _ _ ?_ ?_ z.1, z.2⟩
              · rcases List.mem_cons.mp hq with rfl | hq
                · exact hDw
                · exact hnw q hq
              · rcases List.mem_cons.mp hq with rfl | hq
                · exact hDC
                · exact (below _ (nlt q hq)).1
            rcases List.mem_cons.mp hq with rfl | hq
            · exact old4 _ (.head _)
            · rcases List.mem_append.mp hq with hq | hq
              · exact Nown q hq
              · exact old4 q (.tail _ hq)
        refine wpAny_mono (turn i x y H2.objs.size oC s.heap.objs.size ys _ h₄ tk₄ _ _ hlt hxy hoC (by simp [hab]) (by simp) F₄ N₄ fun p hp => List.mem_append_right _ hp) (fun v s₅ h₅ => ?_) fun _ _ e => e
        obtain ⟨h₅, tk₅, rfl, F₅, N₅, hv⟩ := h₅
        have zC := (N₅ _ (.head _)).1
        have zD := (N₅ _ (.tail _ (.head _))).1
        have hst₅ : St (i + 1) h₅ := W.frame _ _ _ hst₄ fun c hc o e => by
          cases q : h₀.get? c with
          | some o' =>
            have e1 := F₄.keep c o' q
            rw [e] at e1
            cases Option.some.inj e1
            exact F₅.keep c o q
          | none => exact (N₅ _ (.tail _ (.tail _ (List.mem_append_left _ (mem_ownOf hc q e))))).1
        refine append_at (hsz := by show ys.toArray.size ≤ sizeLine; rw [List.size_toArray, hyl]; exact Nat.le_trans hi hsz) zD fun h₆ hs₆ hD₆ => ?_
        refine ⟨n + 1 - (i + 1), by omega, h₆, tk₅, i + 1, ys ++ [v], _, rfl, hlt, rfl, by rw [List.length_append, List.length_singleton, hyl], W.frame _ _ _ hst₅ fun c hc o e => hs₆.extBut c o (fun q => hDf (q ▸ hc)) e, F₅.change hs₆ hDL hD₀,
          (hoC.ns zC).sameBut hs₆ (Ne.symm hDC), fun q hq => ?_, fun j u hj => ?_⟩
        · rcases List.mem_cons.mp hq with rfl | hq
          · exact ⟨hD₆.trans (congrArg some (lst_snoc ys v)), hDL, hD₀⟩
          · have z := N₅ q (.tail _ (.tail _ (List.mem_append_right _ hq)))
            exact ⟨hs₆.extBut _ _ (below _ (nlt q hq)).2 z.1, z.2⟩
        · rcases Nat.lt_trichotomy j ys.length with h | h | h
          · exact hrel j u (by rwa [List.getElem?_append_left h] at hj)
          · subst h
            rw [hyl] at hj ⊢
            rw [← hyl] at hj
            simp at hj
            subst hj
            exact hv
          · rw [List.getElem?_eq_none (by rw [List.length_append, List.length_singleton]; omega)] at hj
            cases hj
      · have hin : i = n := Nat.le_antisymm hi (Nat.not_lt.mp hlt)
        subst hin
        refine W.done _ _ _ hst' fun h₂ tk₂ hk₂ => ?_
        refine hRR _ _ h₂ tk₂ _ ys ⟨F'.ns.at' fun o e => hk₂ _ o hLw e, fun c o e => hk₂ c o (fun q => by rw [hwr c q] at e; cases e) (F'.keep c o e), F'.above⟩ (fun p hp => ?_) nlt (hn'.at' fun o e => hk₂ _ o hCw e) hC₀ hD₀ hCL hDL (Ne.symm hDC) (fun p hp => (below _ (nlt p hp)).1) hyl hrel
        refine ⟨hk₂ _ _ ?_ (N' p hp).1, (N' p hp).2⟩
        rcases List.mem_cons.mp hp with rfl | hp
        · exact hDw
        · exact hnw p hp
    · rcases List.mem_cons.mp hp with rfl | hp
      · exact ⟨hacc, hDL, hD₀⟩
      · exact ⟨old _ _ (N p hp).1, (N p hp).2⟩
  exact codeAny_compStart_list (loop _ rfl) (W.self 0 _ _ _ hst₁ (loop _ rfl))

def PairSrc (prog : Program) (w : World) (A : Around) (h₀ : Heap) (L : Addr) (env : Env) (elt : PySem.Expr) (a b y : Str) (scope : Scope) (cl : List (Str × Addr)) (Q : Flow → Shared → Prop) (xv : Value) (s₁ : Shared) : Prop :=
  ∃ (I : Addr) (fp wr : List Addr) (n : Nat) (Pt : Nat → Array Value → Prop) (St : Nat → Heap → Prop) (Mid : Nat → Addr → Heap → Prop) (m : Str → Option Value) (news : List (Addr × Obj)) (P : Nat → Value → Value → Prop) (Rel : Nat → Value → Prop),
    xv = .ref I ∧ A.handled = none ∧ WalksT prog w A I fp wr n Pt St Mid ∧ (∀ i vals, Pt i vals → ∃ x y, vals = #[x, y] ∧ P i x y) ∧ n ≤ sizeLine ∧ St 0 s₁.heap ∧ (∀ c ∈ fp, c < s₁.heap.objs.size) ∧ L ∉ fp ∧ (∀ c ∈ wr, h₀.get? c = none) ∧ (∀ p ∈ news, p.1 ∉ wr) ∧
    Fr h₀ L s₁.heap m ∧ News h₀ L s₁.heap news ∧
    (∀ i x y C oC D acc m₂ h tk nw (E' : Value → Shared → Prop), i < n → P i x y → NsObj oC m₂ → m₂ a = some x → m₂ b = some y → Fr h₀ L h m → News h₀ L h ((C, oC) :: (D, lst acc) :: nw) → (∀ p ∈ news, p ∈ nw) →
      wpAny (model prog w) A (eval elt (compEnvC scope cl C env)) (fun v s' => ∃ h' tk', s' = { s₁ with heap := h', toks := tk' } ∧ Fr h₀ L h' m ∧ News h₀ L h' ((C, oC) :: (D, lst acc) :: nw) ∧ Rel i v) E' { s₁ with heap := h, toks := tk }) ∧
    ∀ D ys h tk, Fr h₀ L h (fun z => if z = y then some (.ref D) else m z) → News h₀ L h ((D, lst ys) :: news) → (∀ p ∈ news, p.1 < D) → ys.length = n → (∀ i v, ys[i]? = some v → Rel i v) → Q .next { s₁ with heap := h, toks := tk }

theorem Assign_pair {elt iter : PySem.Expr} {a b y : Str} {pa pb tp py : Pos} {kk : Nat} {scope : Scope} {cl : List (Str × Addr)} {pos spos : Pos} {Q : Flow → Shared → Prop} (_F₀ : Fr h₀ L s.heap m) (hLe : env.locals = L)
    (hsw : swapsWith (.ListComp elt [⟨.Tuple [.Name a pa, .Name b pb] kk tp, iter, [], 0⟩] scope pos) (some (.Name y py)) spos.line env = pure true)
    (hclos : closureFor scope env = pure cl) (hcell : ∀ z ∈ scope.names, z.2 ≠ .cell) (hkind : scope.kind = .function)
    (hnames : ∀ z ∈ scope.names, z.2 = .local → scope.names.lookup z.1 = some .local) (hxa : scope.names.lookup a = some .local) (hxb : scope.names.lookup b = some .local) (hab : ¬ a = b)
    (hy : env.kindOf y = some .local) (hp : (env.scope.kind == .class || (env.scope.kind == .module && env.locals != env.globals)) = false)
    (h : wpAny (model prog w) A (eval iter env) (PairSrc prog w A h₀ L env elt a b y scope cl Q) E s)
    (hs : ∀ x, foldedSetIterable iter env x = pure x := by intro _; rfl) :
    wpAny (model prog w) A (exec (.Assign [.Name y py] (.ListComp elt [⟨.Tuple [.Name a pa, .Name b pb] kk tp, iter, [], 0⟩] scope pos) spos) env) Q E s := by
  subst hLe
  rw [exec_Assign_Name_used _ _ _ _ hsw]
  refine wpAny_bind (wpAny_standAt (wpAny_bind ?_))
  show wpAny _ A (do let _ ← comprehension (.ListComp elt [⟨.Tuple [.Name a pa, .Name b pb] kk tp, iter, [], 0⟩] scope pos) scope env _ (newList []) false (eval iter env) (some (assign (.Name y py) env))) _ _ s
  refine wpAny_bind (wpAny_mono (wpAny_comprehension_free (use := some (assign (.Name y py) env)) (Q := fun _ s' => Q .next s') rfl hs hclos hkind hnames
    (wpAny_mono h (fun xv s₁ h₁ => ?_) fun _ _ e => e)) (fun _ s' hq => wpAny_pure (wpAny_pure hq)) fun _ _ e => e)
  obtain ⟨I, fp, wr, n, Pt, St, Mid, m, news, P, Rel, rfl, hh, W, hPt, hsz, hst, hfp, hLf, hwr, hnw, F, N, turn, fin⟩ := h₁
  refine W.self 0 _ _ _ hst ?_
  refine pair_block W hPt hh hsz hcell hkind hxa hxb hab hst hfp hLf hwr hnw F N turn ?_
  intro D C h' tk m' ys F' N' lt hn hC₀ hD₀ hCL hDL hCD offC hl hr
  show wpAny _ A (assign (.Name y py) env (.ref D)) _ _ _
  refine wpAny_assign_Name (wpAny_storeName_local hy F'.ns (fun h₂ hn₂ hs₂ => ?_) hp)
  have hL₀ : h₀.get? env.locals = none := Heap.get?_none_of_le F'.above
  have F₂ : Fr h₀ env.locals h₂ (fun z => if z = y then some (.ref D) else m z) := ⟨hn₂, fun b o e => hs₂.extBut b o (fun q => by rw [q, hL₀] at e; cases e) (F'.keep b o e), F'.above⟩
  refine ⟨m', hn.sameBut hs₂ hCL, fun h'' hs'' => fin D ys h'' _ (F₂.change hs'' hCL hC₀) (fun p hp => ?_) lt hl hr⟩
  have z : h₂.get? p.1 = some p.2 := hs₂.extBut _ _ (N' p hp).2.1 (N' p hp).1
  refine ⟨hs''.extBut _ _ ?_ z, (N' p hp).2⟩
  rcases List.mem_cons.mp hp with rfl | hp
  · exact Ne.symm hCD
  · exact offC p hp
end
end Mine
end

-- part Z2
section
open PySem PySem.W PyProof.Rows PySem.Spec PySem.Calls PyProof.Rows.LCg
set_option maxRecDepth 100000
set_option maxHeartbeats 4000000
namespace Mine
abbrev zipObj (TI TO : Addr) : Obj := { cls := .type "zip", dict := none, data := .fields #[.none, .bool false, .bool false, .ref TI, .ref TO], slots := #[] }
abbrev pairObj (a b : Value) : Obj := { cls := .type "tuple", data := .seq #[a, b] }
abbrev itObj (l : Addr) (i : Nat) : Obj := { cls := .type "list_iterator", data := .fields #[.ref l, .int i 0] }
section
variable {prog : Program} {w : World} {A : Around} {E : Value → Shared → Prop} {s : Shared} {h₀ : Heap} {L : Addr} {m : Str → Option Value} {env : Env}

theorem iterAll_two {M : Model} {x y : Value} {P : Value → Value → Shared → Prop} {Q : List Value → Shared → Prop} (h : wpAny M A (pyIter x) (fun it1 s₁ => wpAny M A (pyIter y) (P it1) E s₁) E s)
    (k : ∀ it1 it2 s₂, P it1 it2 s₂ → Q [it1, it2] s₂) : wpAny M A (Builtin.SmallTypes.iterAll [x, y]) Q E s := by
  unfold Builtin.SmallTypes.iterAll
  refine wpAny_bind ?_
  simp only [List.forIn_cons, List.forIn_nil]
  refine wpAny_bind (wpAny_bind (wpAny_holding (wpAny_mono h (fun it1 s₁ h₁ => ?_) fun _ _ e => e)))
  refine wpAny_pure ?_
  refine wpAny_bind (wpAny_bind (wpAny_holding (wpAny_mono h₁ (fun it2 s₂ h₂ => ?_) fun _ _ e => e)))
  exact wpAny_pure (wpAny_pure (wpAny_pure (k _ _ _ h₂)))

theorem zip_new_in (x y : Value) : MeetsIn prog w (Builtin.«zip.__new__» ⟨[.type "zip", x, y], []⟩) (fun A R s =>
    wpAny (model prog w) A.in1 (pyIter x) (fun it1 s₁ => wpAny (model prog w) A.in1 (pyIter y) (fun it2 s₂ =>
      R (.ok (.ret (.ref (s₂.heap.objs.size + 2)))) { s₂ with heap := ((s₂.heap.push (pairObj it1 it2)).push (pairObj .none .none)).push (zipObj s₂.heap.objs.size (s₂.heap.objs.size + 1)) }) (fun e s' => R (.error e) s') s₁) (fun e s' => R (.error e) s') s) :=
  .of_wp fun A R s h => by
    have hsub := sub_zip
    wp_walk using iterAll_two h
    intro it1 it2 s₂ h₂
    wp_walk
    refine ⟨_, rfl, ?_⟩
    simp only [Heap.size_push]
    exact h₂

theorem call_zip_gen {x y : Value} {Q : Value → Shared → Prop} (h : wpAny (model prog w) A.in1.in1 (pyIter x) (fun it1 s₁ => wpAny (model prog w) A.in1.in1 (pyIter y) (fun it2 s₂ =>
      Q (.ref (s₂.heap.objs.size + 2)) { s₂ with heap := ((s₂.heap.push (pairObj it1 it2)).push (pairObj .none .none)).push (zipObj s₂.heap.objs.size (s₂.heap.objs.size + 1)) }) E s₁) E s) :
    wpAny (model prog w) A (call (.type "zip") [x, y]) Q E s := by
  refine callType_newIn F.called_zip (by decide) (F.typeCall_zip_2 _ _) (F.newCall_zip_2 _ _) (fun obj => F.args_object_init_3 obj _ _) F.entry_zip_new (zip_new_in x y) ?_
  refine wpAny_mono h (fun it1 s₁ h₁ => wpAny_mono h₁ (fun it2 s₂ h₂ => ?_) fun _ _ e => e) fun _ _ e => e
  refine ⟨⟨zipObj s₂.heap.objs.size (s₂.heap.objs.size + 1), ?_, rfl⟩, h₂⟩
  have := Heap.get?_push_size ((s₂.heap.push (pairObj it1 it2)).push (pairObj .none .none)) (o := zipObj s₂.heap.objs.size (s₂.heap.objs.size + 1)) rfl
  simp only [Heap.size_push] at this
  exact this

theorem iter_of_list {l : Addr} {vs : List Value} {k : Nat} {news : List (Addr × Obj)} {Q : Value → Shared → Prop} (F : Fr h₀ L s.heap m) (N : News h₀ L s.heap news) (hl : (l, listOf vs.toArray k) ∈ news)
    (h : ∀ i h', Fr h₀ L h' m → News h₀ L h' ((i, itObj l 0) :: news) → (∀ p ∈ news, p.1 < i) → Q (.ref i) { s with heap := h' }) :
    wpAny (model prog w) A (call (.builtin "iter") [.ref l]) Q E s := by
  refine call_function_entry (by decide +kernel) (by decide +kernel) kdk_entry_iter (kdk_args_iter _) ?_
  unfold Builtin.«iter»
  refine wpAny_bind (m := someArgs "iter" 1 2 _) (wpAny_of_eq (a := [Value.ref l]) (by first | rfl | kernel_rfl!) ?_)
  show wpAny _ _ (pyIter (.ref l) >>= _) _ _ _
  refine wpAny_bind (wpAny_pyIter_list ⟨_, (N _ hl).1, rfl, _, rfl⟩ ?_)
  exact wpAny_pure ⟨_, rfl, h _ _ (F.push _) (News.push F N _ rfl) (fun q hq => Heap.lt_size (N q hq).1)⟩

abbrev sliceObj (a b : Value) : Obj := { cls := .type "slice", data := .fields #[a, b, .none] }
theorem list_slice_obj {value : PySem.Expr} {y : Str} {pos : Pos} {l sl : Addr} {vs : List Value} {k : Nat} {vl vu : Value} {lo hi : Option Int} {news : List (Addr × Obj)} {ms : List Int} {Q : Value → Shared → Prop} (F : Fr h₀ L s.heap m) (N : News h₀ L s.heap news)
    (hl : (l, listOf vs.toArray k) ∈ news) (hs : (sl, sliceObj vl vu) ∈ news) (pl : IsPart vl lo) (pu : IsPart vu hi) (hm : IntsAre (slicePick vs.toArray lo hi none).toList ms) (hz : vs.length ≤ 64)
    (h : ∀ D ws h', Fr h₀ L h' m → News h₀ L h' ((D, listOf (List.toArray ws) 0) :: news) → (∀ p ∈ news, p.1 < D) → IntsAre ws ms → Q (.ref D) { s with heap := h' })
    (ht : ∀ r, letTemporaryGo value (.ref l) r = pure () := by intro _; with_unfolding_all rfl) :
    wpAny (model prog w) A (subscriptTail value (.Name y pos) (.ref l) (.ref sl)) Q E s := by
  have hL : s.heap.IsList l vs.toArray := ⟨_, (N _ hl).1, rfl, _, rfl⟩
  refine subscriptTail_ops (ops := [.ref l, .ref sl]) hL.typeIs list_getitem_lookup (wpAny_getItem_list_slice hL ⟨_, (N _ hs).1, rfl, rfl⟩ pl pu .none (by simp) ?_ (by rw [List.size_toArray, sizeLine_eq]; omega)) rfl ht
  refine h _ (slicePick vs.toArray lo hi none).toList _ (F.push _) ?_ (fun p hp => Heap.lt_size (N p hp).1) hm
  rw [Array.toArray_toList]
  exact News.push F N _ rfl
theorem sub_slice_K {K : Frag} {x C f : Addr} {ox : Obj} {od : Option Obj} {value : PySem.Expr} {lo up : Option PySem.Expr} {pos : Pos} {i : Value} {Q : Value → Shared → Prop} (F : Fr h₀ L s.heap m) (X₀ : K.In h₀) (I : InstAt s.heap x ox C od) (hq : noSeq K C = true) (hs : findIn K (.ref C) "__getitem__" = some (some (.ref f))) (hf : fnIn K f = true) (hfn : isFn K (.ref f) = true)
    (h : wpAny (model prog w) A (call (.ref f) [.ref x, i]) Q E s) :
    wpAny (model prog w) A (subscriptTail value (.Slice lo up none pos) (.ref x) i) Q E s := by
  have X := X₀.keeps F.keep
  have hg := getItem_K (M := model prog w) (A := A) (E := E) (v := i) F X₀ I hq hs hfn h
  unfold fnIn at hf
  split at hf
  · rename_i e
    unfold subscriptTail getitemInPython
    refine wpAny_bind (wpAny_bind (wpAny_bind (I.type.here ((looks_findIn X hs).here ?_))))
    dsimp only
    refine wpAny_bind (wpAny_load (X _ _ e) (wpAny_pure ?_))
    dsimp only
    show wpAny (model prog w) A (operate [i, .ref x] (getItem (.ref x) i) >>= _) Q E s
    refine wpAny_bind (wpAny_operating (wpAny_mono hg (fun v s' z => ?_) fun _ _ z => z))
    show wpAny (model prog w) A (letTemporaryGo value (.ref x) v >>= fun _ => pure v) Q E s'
    exact wpAny_bind (wpAny_letTemporaryGo (wpAny_pure z))
  · cases hf

theorem sub_slice_own {K : Frag} {x dx C f : Addr} {od : Obj} {value : PySem.Expr} {lo up : Option PySem.Expr} {pos : Pos} {vl vu : Value} {news : List (Addr × Obj)} {Q : Value → Shared → Prop} (F : Fr h₀ L s.heap m) (N : News h₀ L s.heap news) (X₀ : K.In h₀) (h1 : (x, instObj C dx) ∈ news) (h2 : (dx, od) ∈ news)
    (hq : noSeq K C = true) (hs : findIn K (.ref C) "__getitem__" = some (some (.ref f))) (hf : fnIn K f = true) (hfn : isFn K (.ref f) = true)
    (h : ∀ sl h', Fr h₀ L h' m → News h₀ L h' ((sl, sliceObj vl vu) :: news) → (∀ p ∈ news, p.1 < sl) → wpAny (model prog w) A (call (.ref f) [.ref x, .ref sl]) Q E { s with heap := h' }) :
    wpAny (model prog w) A (subscriptTail value (.Slice lo up none pos) (.ref x) (.ref s.heap.objs.size)) Q E { s with heap := s.heap.push { cls := .type "slice", data := .fields #[vl, vu, .none] } } := by
  have F' := F.push (sliceObj vl vu)
  have N' := News.push F N (sliceObj vl vu) rfl
  exact sub_slice_K (s := { s with heap := s.heap.push (sliceObj vl vu) }) F' X₀ (InstAt.of_news N' (.tail _ h1) (.tail _ h2)) hq hs hf hfn (h _ _ F' N' fun p hp => Heap.lt_size (N p hp).1)
end
end Mine
end

-- part W6a
section
open PySem PySem.W PyProof.Rows PySem.Spec PySem.Calls
set_option maxRecDepth 100000
set_option maxHeartbeats 8000000
namespace Mine
theorem fill_it6a : (fun (_ : OpenLaw) => hd.heap_39 = hd.heap_39) PySem.Challenge.rw_ae6025_01 := by k_fill; rfl

section
variable {prog : Program} {w : World} {p : Program} {loose : List Str} {mean : ExcName → Option Value} {mg mb : Str → Option Value} {dp un : Nat} {gd : Option (List Code)} {cn : Str} {cs : Scope} {a : Addr} {ccd : Value} {cl : List (Str × Addr)} {outer : List Env} {A₀ : Around} {base h₀ : Heap} {L : Addr} {m : Str → Option Value} {news : List (Addr × Obj)} {s : Shared} {Q E : Value → Shared → Prop}
local macro_rules | `(tactic| walk_at "call ref") => `(tactic| (k_here; (with_reducible show wpAny _ _ (call (Value.ref _) _) _ _ _); refine wpAny_call ?_; k_dflt (refine' code_def ?k1 ?k2 ?k3 ?k4 ?k5 ?kA ?kF ?kK ?k6 ?k7 ?k8 ?k9 ?kB ?_ ?c2 ?c3 ?c4 ?c5; (case kA => exact rfl); (case kF => exact rfl); (case kK => first | exact rfl | assumption); (case k1 => k_asm); (case k2 => k_asm); (case k3 => k_asm); (case k4 => k_asm); (case k5 => k_asm); (case k6 => k_is); (case k7 => k_is); (case k8 => ktr_room); (case k9 => exact BindsTo.of_eq rfl); (case c5 => decide); (case kB => exact locs rfl); (case c2 => exact rfl); (case c3 => exact rfl); (case c4 => exact rfl); k_whole; intro g' L' h' FG' F' N' B' X' T'; (try dsimp only); (try k_lift B'); (try k_fold))))
local macro_rules | `(tactic| walk_at "subscriptTail") => `(tactic| (k_here; (with_reducible show wpAny _ _ (subscriptTail _ _ (Value.ref 15) (Value.int (Int.fmod _ 255) _)) _ _ _); k_dflt (refine' exp_item ?F ?X ?_; (case F => k_asm); (case X => k_asm); k_whole); intro t9))
local macro_rules | `(tactic| walk_at "subscriptTail") => `(tactic| (k_here; (with_reducible show wpAny _ _ (subscriptTail _ _ (Value.ref 16) (Value.int (up _) _)) _ _ _); k_dflt (refine' log_item ?F ?X ?b ?_; (case F => k_asm); (case X => k_asm); (case b => assumption); k_whole); intro t9))
local macro_rules | `(tactic| walk_at "getItem ref int") => `(tactic| (k_here; (with_reducible show wpAny _ _ (getItem (Value.ref _) (Value.int _ _)) _ _ _); k_dflt (refine' up_get ?k1 ?k2 ?k3 ?k4 ?k5 ?k6 ?_; (case k1 => k_asm); (case k2 => k_mem); (case k3 => with_reducible assumption); (case k4 => first | exact (rfl : (0:Int) = ((0:Nat):Int)) | exact (rfl : ((_:Nat):Int) = ((_:Nat):Int)) | exact (Int.natCast_succ _).symm); (case k5 => ksa_idx); (case k6 => ksa_idx); k_whole); intro t9))
local macro_rules | `(tactic| walk_at "subscriptTail") => `(tactic| (k_here; (with_reducible show wpAny _ _ (subscriptTail _ _ (Value.ref _) (Value.int _ _)) _ _ _); k_dflt (refine' up_sub ?k1 ?k2 ?k3 ?k4 ?k5 ?k6 ?_ ?k7; (case k1 => k_asm); (case k2 => k_mem); (case k3 => with_reducible assumption); (case k4 => first | exact (rfl : (0:Int) = ((0:Nat):Int)) | exact (rfl : ((_:Nat):Int) = ((_:Nat):Int)) | exact (Int.natCast_succ _).symm); (case k5 => ksa_idx); (case k6 => ksa_idx); (case k7 => with_unfolding_all rfl); k_whole); intro t9))
local macro_rules | `(tactic| walk_at "subscriptTail Name Constant ref int") => `(tactic| (k_here; (with_reducible show wpAny _ _ (subscriptTail _ _ (Value.ref _) (Value.int _ _)) _ _ _); k_dflt (refine' up_sub ?k1 ?k2 ?k3 ?k4 ?k5 ?k6 ?_ ?k7; (case k1 => k_asm); (case k2 => k_mem); (case k3 => with_reducible assumption); (case k4 => first | exact (rfl : (0:Int) = ((0:Nat):Int)) | exact (rfl : ((_:Nat):Int) = ((_:Nat):Int)) | exact (Int.natCast_succ _).symm); (case k5 => ksa_idx); (case k6 => ksa_idx); (case k7 => with_unfolding_all rfl); k_whole); intro t9))
local macro_rules | `(tactic| walk_at "subscriptTail Name Name ref int") => `(tactic| (k_here; (with_reducible show wpAny _ _ (subscriptTail _ _ (Value.ref _) (Value.int _ _)) _ _ _); k_dflt (refine' up_sub ?k1 ?k2 ?k3 ?k4 ?k5 ?k6 ?_ ?k7; (case k1 => k_asm); (case k2 => k_mem); (case k3 => with_reducible assumption); (case k4 => first | exact (rfl : (0:Int) = ((0:Nat):Int)) | exact (rfl : ((_:Nat):Int) = ((_:Nat):Int)) | exact (Int.natCast_succ _).symm); (case k5 => ksa_idx); (case k6 => ksa_idx); (case k7 => with_unfolding_all rfl); k_whole); intro t9))
local macro_rules | `(tactic| walk_at "subscriptTail Name BinOp ref int") => `(tactic| (k_here; (with_reducible show wpAny _ _ (subscriptTail _ _ (Value.ref _) (Value.int _ _)) _ _ _); k_dflt (refine' up_sub ?k1 ?k2 ?k3 ?k4 ?k5 ?k6 ?_ ?k7; (case k1 => k_asm); (case k2 => k_mem); (case k3 => with_reducible assumption); (case k4 => first | exact (rfl : (0:Int) = ((0:Nat):Int)) | exact (rfl : ((_:Nat):Int) = ((_:Nat):Int)) | exact (Int.natCast_succ _).symm); (case k5 => ksa_idx); (case k6 => ksa_idx); (case k7 => with_unfolding_all rfl); k_whole); intro t9))
local macro_rules | `(tactic| walk_at "setItem ref int") => `(tactic| (k_here; (with_reducible show wpAny _ _ (setItem (Value.ref _) (Value.int _ _) (Value.int (up _) _)) _ _ _); k_dflt (refine' up_set ?k1 ?k2 ?k3 ?k4 ?k5 ?k6 ?k7 ?_; (case k1 => k_asm); (case k2 => k_asm); (case k3 => k_upd); (case k4 => with_reducible assumption); (case k5 => first | exact (rfl : (0:Int) = ((0:Nat):Int)) | exact (rfl : ((_:Nat):Int) = ((_:Nat):Int)) | exact (Int.natCast_succ _).symm); (case k6 => ksa_idx); (case k7 => ksa_idx); k_whole); intro h' F' N' hi'; (try k_sweep)))
local macro_rules | `(tactic| walk_at "binaryOp BitXor int int") => `(tactic| ((with_reducible show wpAny _ _ (binaryOp _ (Value.int (up _) _) (Value.int (up _) _)) _ _ _); refine xor_up ?_))
local macro_rules | `(tactic| walk_at "inplaceOp BitXor int int") => `(tactic| ((with_reducible show wpAny _ _ (inplaceOp _ (Value.int (up _) _) (Value.int (up _) _)) _ _ _); refine ixor_up ?_))
local macro_rules | `(tactic| walk_at "call ref") => `(tactic| (k_here; (with_reducible show wpAny _ _ (call (Value.ref 30) [Value.int _ _]) _ _ _); k_dflt (refine' gexp_call ?k1 ?k2 ?k3 ?k4 ?k5 ?kK ?kd ?ku ?_; (case k1 => k_asm); (case k2 => k_asm); (case k3 => k_asm); (case k4 => k_asm); (case k5 => k_asm); (case kK => first | exact rfl | assumption); (case kd => ktr_room); (case ku => ktr_units); intro t9 h9 tk9 F9 N9; (try dsimp only); (try k_sweep); (try k_fold))))
local macro_rules | `(tactic| walk_at "call ref") => `(tactic| (k_here; (with_reducible show wpAny _ _ (call (Value.ref 23) [Value.int (up _) _]) _ _ _); k_dflt (refine' glog_call ?kb ?k1 ?k2 ?k3 ?k4 ?k5 ?kK ?kd ?ku ?_; (case kb => first | assumption | (refine up_ne ?_; assumption)); (case k1 => k_asm); (case k2 => k_asm); (case k3 => k_asm); (case k4 => k_asm); (case k5 => k_asm); (case kK => first | exact rfl | assumption); (case kd => ktr_room); (case ku => ktr_units); intro t9 h9 tk9 F9 N9; (try dsimp only); (try k_sweep); (try k_fold))))
local macro_rules | `(tactic| k_all) => `(tactic| exact Off.head (by assumption))
local macro_rules | `(tactic| k_mem) => `(tactic| ((repeat' (first | exact List.Mem.head _ | refine List.mem_cons_of_mem _ ?_ | assumption)); done))
local macro_rules | `(tactic| walk_at "exec For Name Call cons nil") => `(tactic| (k_here; k_dflt (refine' For_stop ?F ?a ?b ?_; (case F => k_asm); (case a => exact rfl); (case b => exact rfl); k_whole)))
local macro_rules | `(tactic| walk_at "exec For Name Name cons nil") => `(tactic| (k_here; k_dflt (refine' For_stop ?F ?a ?b ?_; (case F => k_asm); (case a => exact rfl); (case b => exact rfl); k_whole)))
local macro_rules | `(tactic| walk_at "exec While Compare cons nil") => `(tactic| (k_here; refine Stop.out ?_))
local macro_rules | `(tactic| walk_at "exec While BoolOp cons nil") => `(tactic| (k_here; refine Stop.out ?_))
local macro_rules | `(tactic| walk_at "call type:list") => `(tactic| (k_here; (with_reducible show wpAny _ _ (call (Value.type _) [Value.ref _]) _ _ _); k_dflt (refine' up_copy ?k1 ?k2 ?k3 ?k4 ?k5 ?_; (case k1 => k_asm); (case k2 => k_asm); (case k3 => k_mem); (case k4 => with_reducible assumption); (case k5 => assumption); k_whole); intro D' c' h' F' N' l1; (try k_sweep)))
local macro_rules | `(tactic| walk_at "call builtin:len") => `(tactic| (k_here; (with_reducible show wpAny _ _ (call (Value.builtin _) [Value.ref _]) _ _ _); k_dflt (refine' up_len ?k1 ?k2 ?k3 ?k4 ?_; (case k1 => k_asm); (case k2 => k_mem); (case k3 => with_reducible assumption); (case k4 => assumption); k_whole); intro t9 tk9))
local macro_rules | `(tactic| walk_at "truthy ref") => `(tactic| (k_here; (with_reducible show wpAny _ _ (truthy (Value.ref _)) _ _ _); k_dflt (refine' up_true ?k1 ?k2 ?k3 ?k4 ?k5 ?_; (case k1 => k_asm); (case k2 => k_mem); (case k3 => with_reducible assumption); (case k4 => assumption); (case k5 => assumption); k_whole); intro tk9; (try simp only [Bool.not_true, Bool.false_eq_true, if_false, if_true])))
local macro_rules | `(tactic| k_all) => `(tactic| exact lt_all (by assumption))
local macro_rules | `(tactic| walk_at "call builtin:iter") => `(tactic| (k_here; (with_reducible show wpAny _ _ (call (Value.builtin "iter") [Value.ref _]) _ _ _); k_dflt (refine' iter_of_list ?k1 ?k2 ?k3 ?_; (case k1 => k_asm); (case k2 => k_asm); (case k3 => k_mem); k_whole); intro i9 h9 F9 N9 l9; (try k_sweep)))
local macro_rules | `(tactic| walk_at "call ref") => `(tactic| (k_here; (with_reducible show wpAny _ _ (call (Value.ref 80) [Value.ref _, Value.int 0 _]) _ _ _); k_dflt (refine' poly_call ?kl ?ki ?kq ?kq0 ?k1 ?k2 ?k3 ?k4 ?k5 ?kK ?kd ?ku ?_; (case k1 => k_asm); (case k2 => k_asm); (case k3 => k_asm); (case k4 => k_asm); (case k5 => k_asm); (case kl => k_mem); (case ki => with_reducible assumption); (case kq => assumption); (case kq0 => assumption); (case kK => first | exact rfl | assumption); (case kd => ktr_room); (case ku => ktr_units); intro x9 dx9 r9 vr9 k9 hsh9 tk9 n9 res9 h9 tk9' F9 N9 l9 l9' l9'' i9 st9 nz9; (try dsimp only); (try k_fold))))
local macro_rules | `(tactic| walk_at "call type:zip") => `(tactic| (k_here; (with_reducible show wpAny _ _ (call (Value.type _) [Value.ref _, Value.ref _]) _ _ _); k_dflt (refine' zip_polys ?h1 ?h2 ?h3 ?h4 ?h5 ?h6 ?k1 ?k2 ?k3 ?k4 ?k5 ?kK ?kd ?ku ?_; (case k1 => k_asm); (case k2 => k_asm); (case k3 => k_asm); (case k4 => k_asm); (case k5 => k_asm); (case h1 => k_mem); (case h2 => k_mem); (case h3 => k_mem); (case h4 => k_mem); (case h5 => k_mem); (case h6 => k_mem); (case kK => first | exact rfl | assumption); (case kd => ktr_room); (case ku => ktr_units); intro z9 TI9 TO9 i91 i92 h9 tk9 D9 st9 fp9 Lf9 wr9 nw9 F9 N9; (try dsimp only); (try k_sweep))))
local macro_rules | `(tactic| walk_at "subscriptTail Name Slice ref ref") => `(tactic| (k_here; (with_reducible show wpAny _ _ (subscriptTail _ (PySem.Expr.Slice _ _ none _) (Value.ref _) (Value.ref _)) _ _ _); k_dflt (refine' sub_slice_own ?F ?N ?X ?h1 ?h2 ?hq ?hs ?hf ?hn ?_; (case F => k_asm); (case N => k_asm); (case X => k_asm); (case h1 => k_mem); (case h2 => k_mem); (case hq => k_is); (case hs => k_is); (case hf => k_is); (case hn => k_is); k_whole); intro sl9 h9 F9 N9 l9; (try k_lt l9); (try dsimp only); (try k_sweep)))
local macro_rules | `(tactic| walk_at "subscriptTail") => `(tactic| (k_here; (with_reducible show wpAny _ _ (subscriptTail _ (PySem.Expr.Name _ _) (Value.ref _) (Value.ref _)) _ _ _); k_dflt (refine' list_slice_obj ?F ?N ?h1 ?h2 ?p ?q ?m ?z ?_; (case F => k_asm); (case N => k_asm); (case h1 => k_mem); (case h2 => k_mem); (case p => kmk_part); (case q => kmk_part); (case m => first | exact kmk_from_neg (by with_reducible assumption) (by omega) | kmk_nums); (case z => assumption); k_whole); intro D9 ws9 h9 F9 N9 l9 i9; (try k_lt l9); (try dsimp only); (try k_sweep)))
theorem poly_iter {x dx r : Addr} {vr : List Value} {k n : Nat} {hsh : Int} {tk : Tok} 
  (hx : (x, instObj 80 dx) ∈ news) (hdx : (dx, dictOf [⟨hsh, .str "num" tk, .ref r⟩] n) ∈ news) (hr : (r, listOf (List.toArray vr) k) ∈ news)
  (B : Below A₀ base outer h₀) (F : Fr h₀ L s.heap m) (X : (hd.heap_39 w.params).In h₀) (N : News h₀ L s.heap news) (T : Top p loose mean mg mb h₀) (hk : cs.kind = .function) (hd1 : dp + 4 < recursionLimit) (hu : un + 32 < cLine)
   (hret : ∀ i h' tk', Fr h₀ L h' m → News h₀ L h' ((i, itObj r 0) :: news) → (∀ p ∈ news, p.1 < i) → Q (.ref i) {s with heap := h', toks := tk'}) : wpAny (model prog w) (ktrTop dp un gd cn cs L a ccd cl outer) (pyIter (.ref x)) Q E s := by
  w_top off
  k_dflt (refine' owit_iter ?F ?X ?I ?hs ?hf ?_)
  case F => k_asm
  case X => k_asm
  case I => k_inst
  case hs => k_is
  case hf => k_is
  k_steps
  rename Fr h₀ _ _ _ => F'
  rename News h₀ _ _ _ => N'
  rename (∀ p ∈ news, p.1 < _) => l1
  unfold OwitIt
  refine wpAny_specialOf (name := Str.ofString "__next__") (T := "list_iterator") ⟨_, (N' _ (.head _)).1, rfl⟩ slot_listiter_next.lookup ?_
  exact hret _ _ _ F' N' l1
end
end Mine
end

-- part W6b
section
open PySem PySem.W PyProof.Rows PySem.Spec PySem.Calls
set_option maxRecDepth 100000
set_option maxHeartbeats 8000000
namespace Mine
theorem fill_it6b : (fun (_ : OpenLaw) => hd.heap_39 = hd.heap_39) PySem.Challenge.rw_ae6025_01 := by k_fill; rfl

section
variable {prog : Program} {w : World} {p : Program} {loose : List Str} {mean : ExcName → Option Value} {mg mb : Str → Option Value} {dp un : Nat} {gd : Option (List Code)} {cn : Str} {cs : Scope} {a : Addr} {ccd : Value} {cl : List (Str × Addr)} {outer : List Env} {A₀ : Around} {base h₀ : Heap} {L : Addr} {m : Str → Option Value} {news : List (Addr × Obj)} {s : Shared} {Q E : Value → Shared → Prop}
local macro_rules | `(tactic| walk_at "call ref") => `(tactic| (k_here; (with_reducible show wpAny _ _ (call (Value.ref _) _) _ _ _); refine wpAny_call ?_; k_dflt (refine' code_def ?k1 ?k2 ?k3 ?k4 ?k5 ?kA ?kF ?kK ?k6 ?k7 ?k8 ?k9 ?kB ?_ ?c2 ?c3 ?c4 ?c5; (case kA => exact rfl); (case kF => exact rfl); (case kK => first | exact rfl | assumption); (case k1 => k_asm); (case k2 => k_asm); (case k3 => k_asm); (case k4 => k_asm); (case k5 => k_asm); (case k6 => k_is); (case k7 => k_is); (case k8 => ktr_room); (case k9 => exact BindsTo.of_eq rfl); (case c5 => decide); (case kB => exact locs rfl); (case c2 => exact rfl); (case c3 => exact rfl); (case c4 => exact rfl); k_whole; intro g' L' h' FG' F' N' B' X' T'; (try dsimp only); (try k_lift B'); (try k_fold))))
local macro_rules | `(tactic| walk_at "subscriptTail") => `(tactic| (k_here; (with_reducible show wpAny _ _ (subscriptTail _ _ (Value.ref 15) (Value.int (Int.fmod _ 255) _)) _ _ _); k_dflt (refine' exp_item ?F ?X ?_; (case F => k_asm); (case X => k_asm); k_whole); intro t9))
local macro_rules | `(tactic| walk_at "subscriptTail") => `(tactic| (k_here; (with_reducible show wpAny _ _ (subscriptTail _ _ (Value.ref 16) (Value.int (up _) _)) _ _ _); k_dflt (refine' log_item ?F ?X ?b ?_; (case F => k_asm); (case X => k_asm); (case b => assumption); k_whole); intro t9))
local macro_rules | `(tactic| walk_at "getItem ref int") => `(tactic| (k_here; (with_reducible show wpAny _ _ (getItem (Value.ref _) (Value.int _ _)) _ _ _); k_dflt (refine' up_get ?k1 ?k2 ?k3 ?k4 ?k5 ?k6 ?_; (case k1 => k_asm); (case k2 => k_mem); (case k3 => with_reducible assumption); (case k4 => first | exact (rfl : (0:Int) = ((0:Nat):Int)) | exact (rfl : ((_:Nat):Int) = ((_:Nat):Int)) | exact (Int.natCast_succ _).symm); (case k5 => ksa_idx); (case k6 => ksa_idx); k_whole); intro t9))
local macro_rules | `(tactic| walk_at "subscriptTail") => `(tactic| (k_here; (with_reducible show wpAny _ _ (subscriptTail _ _ (Value.ref _) (Value.int _ _)) _ _ _); k_dflt (refine' up_sub ?k1 ?k2 ?k3 ?k4 ?k5 ?k6 ?_ ?k7; (case k1 => k_asm); (case k2 => k_mem); (case k3 => with_reducible assumption); (case k4 => first | exact (rfl : (0:Int) = ((0:Nat):Int)) | exact (rfl : ((_:Nat):Int) = ((_:Nat):Int)) | exact (Int.natCast_succ _).symm); (case k5 => ksa_idx); (case k6 => ksa_idx); (case k7 => with_unfolding_all rfl); k_whole); intro t9))
local macro_rules | `(tactic| walk_at "subscriptTail Name Constant ref int") => `(tactic| (k_here; (with_reducible show wpAny _ _ (subscriptTail _ _ (Value.ref _) (Value.int _ _)) _ _ _); k_dflt (refine' up_sub ?k1 ?k2 ?k3 ?k4 ?k5 ?k6 ?_ ?k7; (case k1 => k_asm); (case k2 => k_mem); (case k3 => with_reducible assumption); (case k4 => first | exact (rfl : (0:Int) = ((0:Nat):Int)) | exact (rfl : ((_:Nat):Int) = ((_:Nat):Int)) | exact (Int.natCast_succ _).symm); (case k5 => ksa_idx); (case k6 => ksa_idx); (case k7 => with_unfolding_all rfl); k_whole); intro t9))
local macro_rules | `(tactic| walk_at "subscriptTail Name Name ref int") => `(tactic| (k_here; (with_reducible show wpAny _ _ (subscriptTail _ _ (Value.ref _) (Value.int _ _)) _ _ _); k_dflt (refine' up_sub ?k1 ?k2 ?k3 ?k4 ?k5 ?k6 ?_ ?k7; (case k1 => k_asm); (case k2 => k_mem); (case k3 => with_reducible assumption); (case k4 => first | exact (rfl : (0:Int) = ((0:Nat):Int)) | exact (rfl : ((_:Nat):Int) = ((_:Nat):Int)) | exact (Int.natCast_succ _).symm); (case k5 => ksa_idx); (case k6 => ksa_idx); (case k7 => with_unfolding_all rfl); k_whole); intro t9))
local macro_rules | `(tactic| walk_at "subscriptTail Name BinOp ref int") => `(tactic| (k_here; (with_reducible show wpAny _ _ (subscriptTail _ _ (Value.ref _) (Value.int _ _)) _ _ _); k_dflt (refine' up_sub ?k1 ?k2 ?k3 ?k4 ?k5 ?k6 ?_ ?k7; (case k1 => k_asm); (case k2 => k_mem); (case k3 => with_reducible assumption); (case k4 => first | exact (rfl : (0:Int) = ((0:Nat):Int)) | exact (rfl : ((_:Nat):Int) = ((_:Nat):Int)) | exact (Int.natCast_succ _).symm); (case k5 => ksa_idx); (case k6 => ksa_idx); (case k7 => with_unfolding_all rfl); k_whole); intro t9))
local macro_rules | `(tactic| walk_at "setItem ref int") => `(tactic| (k_here; (with_reducible show wpAny _ _ (setItem (Value.ref _) (Value.int _ _) (Value.int (up _) _)) _ _ _); k_dflt (refine' up_set ?k1 ?k2 ?k3 ?k4 ?k5 ?k6 ?k7 ?_; (case k1 => k_asm); (case k2 => k_asm); (case k3 => k_upd); (case k4 => with_reducible assumption); (case k5 => first | exact (rfl : (0:Int) = ((0:Nat):Int)) | exact (rfl : ((_:Nat):Int) = ((_:Nat):Int)) | exact (Int.natCast_succ _).symm); (case k6 => ksa_idx); (case k7 => ksa_idx); k_whole); intro h' F' N' hi'; (try k_sweep)))
local macro_rules | `(tactic| walk_at "binaryOp BitXor int int") => `(tactic| ((with_reducible show wpAny _ _ (binaryOp _ (Value.int (up _) _) (Value.int (up _) _)) _ _ _); refine xor_up ?_))
local macro_rules | `(tactic| walk_at "inplaceOp BitXor int int") => `(tactic| ((with_reducible show wpAny _ _ (inplaceOp _ (Value.int (up _) _) (Value.int (up _) _)) _ _ _); refine ixor_up ?_))
local macro_rules | `(tactic| walk_at "call ref") => `(tactic| (k_here; (with_reducible show wpAny _ _ (call (Value.ref 30) [Value.int _ _]) _ _ _); k_dflt (refine' gexp_call ?k1 ?k2 ?k3 ?k4 ?k5 ?kK ?kd ?ku ?_; (case k1 => k_asm); (case k2 => k_asm); (case k3 => k_asm); (case k4 => k_asm); (case k5 => k_asm); (case kK => first | exact rfl | assumption); (case kd => ktr_room); (case ku => ktr_units); intro t9 h9 tk9 F9 N9; (try dsimp only); (try k_sweep); (try k_fold))))
local macro_rules | `(tactic| walk_at "call ref") => `(tactic| (k_here; (with_reducible show wpAny _ _ (call (Value.ref 23) [Value.int (up _) _]) _ _ _); k_dflt (refine' glog_call ?kb ?k1 ?k2 ?k3 ?k4 ?k5 ?kK ?kd ?ku ?_; (case kb => first | assumption | (refine up_ne ?_; assumption)); (case k1 => k_asm); (case k2 => k_asm); (case k3 => k_asm); (case k4 => k_asm); (case k5 => k_asm); (case kK => first | exact rfl | assumption); (case kd => ktr_room); (case ku => ktr_units); intro t9 h9 tk9 F9 N9; (try dsimp only); (try k_sweep); (try k_fold))))
local macro_rules | `(tactic| k_all) => `(tactic| exact Off.head (by assumption))
local macro_rules | `(tactic| k_mem) => `(tactic| ((repeat' (first | exact List.Mem.head _ | refine List.mem_cons_of_mem _ ?_ | assumption)); done))
local macro_rules | `(tactic| walk_at "exec For Name Call cons nil") => `(tactic| (k_here; k_dflt (refine' For_stop ?F ?a ?b ?_; (case F => k_asm); (case a => exact rfl); (case b => exact rfl); k_whole)))
local macro_rules | `(tactic| walk_at "exec For Name Name cons nil") => `(tactic| (k_here; k_dflt (refine' For_stop ?F ?a ?b ?_; (case F => k_asm); (case a => exact rfl); (case b => exact rfl); k_whole)))
local macro_rules | `(tactic| walk_at "exec While Compare cons nil") => `(tactic| (k_here; refine Stop.out ?_))
local macro_rules | `(tactic| walk_at "exec While BoolOp cons nil") => `(tactic| (k_here; refine Stop.out ?_))
local macro_rules | `(tactic| walk_at "call type:list") => `(tactic| (k_here; (with_reducible show wpAny _ _ (call (Value.type _) [Value.ref _]) _ _ _); k_dflt (refine' up_copy ?k1 ?k2 ?k3 ?k4 ?k5 ?_; (case k1 => k_asm); (case k2 => k_asm); (case k3 => k_mem); (case k4 => with_reducible assumption); (case k5 => assumption); k_whole); intro D' c' h' F' N' l1; (try k_sweep)))
local macro_rules | `(tactic| walk_at "call builtin:len") => `(tactic| (k_here; (with_reducible show wpAny _ _ (call (Value.builtin _) [Value.ref _]) _ _ _); k_dflt (refine' up_len ?k1 ?k2 ?k3 ?k4 ?_; (case k1 => k_asm); (case k2 => k_mem); (case k3 => with_reducible assumption); (case k4 => assumption); k_whole); intro t9 tk9))
local macro_rules | `(tactic| walk_at "truthy ref") => `(tactic| (k_here; (with_reducible show wpAny _ _ (truthy (Value.ref _)) _ _ _); k_dflt (refine' up_true ?k1 ?k2 ?k3 ?k4 ?k5 ?_; (case k1 => k_asm); (case k2 => k_mem); (case k3 => with_reducible assumption); (case k4 => assumption); (case k5 => assumption); k_whole); intro tk9; (try simp only [Bool.not_true, Bool.false_eq_true, if_false, if_true])))
local macro_rules | `(tactic| k_all) => `(tactic| exact lt_all (by assumption))
local macro_rules | `(tactic| walk_at "call builtin:iter") => `(tactic| (k_here; (with_reducible show wpAny _ _ (call (Value.builtin "iter") [Value.ref _]) _ _ _); k_dflt (refine' iter_of_list ?k1 ?k2 ?k3 ?_; (case k1 => k_asm); (case k2 => k_asm); (case k3 => k_mem); k_whole); intro i9 h9 F9 N9 l9; (try k_sweep)))
local macro_rules | `(tactic| walk_at "call ref") => `(tactic| (k_here; (with_reducible show wpAny _ _ (call (Value.ref 80) [Value.ref _, Value.int 0 _]) _ _ _); k_dflt (refine' poly_call ?kl ?ki ?kq ?kq0 ?k1 ?k2 ?k3 ?k4 ?k5 ?kK ?kd ?ku ?_; (case k1 => k_asm); (case k2 => k_asm); (case k3 => k_asm); (case k4 => k_asm); (case k5 => k_asm); (case kl => k_mem); (case ki => with_reducible assumption); (case kq => assumption); (case kq0 => assumption); (case kK => first | exact rfl | assumption); (case kd => ktr_room); (case ku => ktr_units); intro x9 dx9 r9 vr9 k9 hsh9 tk9 n9 res9 h9 tk9' F9 N9 l9 l9' l9'' i9 st9 nz9; (try dsimp only); (try k_fold))))
local macro_rules | `(tactic| walk_at "call type:zip") => `(tactic| (k_here; (with_reducible show wpAny _ _ (call (Value.type _) [Value.ref _, Value.ref _]) _ _ _); k_dflt (refine' zip_polys ?h1 ?h2 ?h3 ?h4 ?h5 ?h6 ?k1 ?k2 ?k3 ?k4 ?k5 ?kK ?kd ?ku ?_; (case k1 => k_asm); (case k2 => k_asm); (case k3 => k_asm); (case k4 => k_asm); (case k5 => k_asm); (case h1 => k_mem); (case h2 => k_mem); (case h3 => k_mem); (case h4 => k_mem); (case h5 => k_mem); (case h6 => k_mem); (case kK => first | exact rfl | assumption); (case kd => ktr_room); (case ku => ktr_units); intro z9 TI9 TO9 i91 i92 h9 tk9 D9 st9 fp9 Lf9 wr9 nw9 F9 N9; (try dsimp only); (try k_sweep))))
local macro_rules | `(tactic| walk_at "subscriptTail Name Slice ref ref") => `(tactic| (k_here; (with_reducible show wpAny _ _ (subscriptTail _ (PySem.Expr.Slice _ _ none _) (Value.ref _) (Value.ref _)) _ _ _); k_dflt (refine' sub_slice_own ?F ?N ?X ?h1 ?h2 ?hq ?hs ?hf ?hn ?_; (case F => k_asm); (case N => k_asm); (case X => k_asm); (case h1 => k_mem); (case h2 => k_mem); (case hq => k_is); (case hs => k_is); (case hf => k_is); (case hn => k_is); k_whole); intro sl9 h9 F9 N9 l9; (try k_lt l9); (try dsimp only); (try k_sweep)))
local macro_rules | `(tactic| walk_at "subscriptTail") => `(tactic| (k_here; (with_reducible show wpAny _ _ (subscriptTail _ (PySem.Expr.Name _ _) (Value.ref _) (Value.ref _)) _ _ _); k_dflt (refine' list_slice_obj ?F ?N ?h1 ?h2 ?p ?q ?m ?z ?_; (case F => k_asm); (case N => k_asm); (case h1 => k_mem); (case h2 => k_mem); (case p => kmk_part); (case q => kmk_part); (case m => first | exact kmk_from_neg (by with_reducible assumption) (by omega) | kmk_nums); (case z => assumption); k_whole); intro D9 ws9 h9 F9 N9 l9 i9; (try k_lt l9); (try dsimp only); (try k_sweep)))
theorem zip_polys {x dx r y dy ry : Addr} {vr vy : List Value} {k n ky ny : Nat} {hsh hsy : Int} {tk ty : Tok}
  (hx : (x, instObj 80 dx) ∈ news) (hdx : (dx, dictOf [⟨hsh, .str "num" tk, .ref r⟩] n) ∈ news) (hr : (r, listOf (List.toArray vr) k) ∈ news)
  (hy : (y, instObj 80 dy) ∈ news) (hdy : (dy, dictOf [⟨hsy, .str "num" ty, .ref ry⟩] ny) ∈ news) (hry : (ry, listOf (List.toArray vy) ky) ∈ news)
  (B : Below A₀ base outer h₀) (F : Fr h₀ L s.heap m) (X : (hd.heap_39 w.params).In h₀) (N : News h₀ L s.heap news) (T : Top p loose mean mg mb h₀) (hk : cs.kind = .function) (hd1 : dp + 4 < recursionLimit) (hu : un + 40 < cLine)
  (hret : ∀ z TI TO i1 i2 h' tk', ZipApart z TI TO i1 i2 r ry → (IsZip h' z TI TO .none ∧ IsPair h' TI (.ref i1) (.ref i2) ∧ (∃ a b, IsPair h' TO a b) ∧ h'.IsListIter i1 r 0 ∧ h'.IsListIter i2 ry 0 ∧ h'.IsList r vr.toArray ∧ h'.IsList ry vy.toArray) →
    (∀ c ∈ [z, TI, TO, i1, i2, r, ry], c < h'.objs.size) → L ∉ [z, TI, TO, i1, i2, r, ry] → (∀ c ∈ [z, TO, i1, i2], h₀.get? c = none) → (∀ p ∈ news, p.1 ∉ [z, TO, i1, i2]) → Fr h₀ L h' m → News h₀ L h' news → Q (.ref z) {s with heap := h', toks := tk'}) :
  wpAny (model prog w) (ktrTop dp un gd cn cs L a ccd cl outer) (call (.type "zip") [.ref x, .ref y]) Q E s := by
  refine call_zip_gen ?_
  refine poly_iter (un := un + 2) hx hdx hr B F X N T hk (by omega) (by omega) fun i1 h1 tk1 F1 N1 l1 => ?_
  refine poly_iter (un := un + 2) (.tail _ hy) (.tail _ hdy) (.tail _ hry) B F1 X N1 T hk (by omega) (by omega) fun i2 h2 tk2 F2 N2 l2 => ?_
  have F3 := F2.push (pairObj (.ref i1) (.ref i2))
  have N3 := News.push F2 N2 (pairObj (.ref i1) (.ref i2)) rfl
  have F4 := F3.push (pairObj .none .none)
  have N4 := News.push F3 N3 (pairObj .none .none) rfl
  have F5 := F4.push (zipObj h2.objs.size (h2.objs.size + 1))
  have N5 := News.push F4 N4 (zipObj h2.objs.size (h2.objs.size + 1)) rfl
  have e1 : (h2.push (pairObj (.ref i1) (.ref i2))).objs.size = h2.objs.size + 1 := Heap.size_push ..
  have e2 : ((h2.push (pairObj (.ref i1) (.ref i2))).push (pairObj .none .none)).objs.size = h2.objs.size + 2 := by rw [Heap.size_push, e1]
  rw [e1, e2] at N5
  have lt2 : ∀ p ∈ (i2, itObj ry 0) :: (i1, itObj r 0) :: news, p.1 < h2.objs.size := fun p hp => Heap.lt_size (N2 p hp).1
  have hi1 : i1 < h2.objs.size := lt2 _ (.tail _ (.head _))
  have hi2 : i2 < h2.objs.size := lt2 _ (.head _)
  have hi12 : i1 < i2 := l2 _ (.head _)
  have hr1 : r < i1 := l1 _ hr
  have hy1 : ry < i1 := l1 _ hry
  have hr' : r < h2.objs.size := lt2 _ (.tail _ (.tail _ hr))
  have hy' : ry < h2.objs.size := lt2 _ (.tail _ (.tail _ hry))
  have g (c : Addr) (o : Obj) (hc : (c, o) ∈ (h2.objs.size + 2, zipObj h2.objs.size (h2.objs.size + 1)) :: (h2.objs.size + 1, pairObj .none .none) :: (h2.objs.size, pairObj (.ref i1) (.ref i2)) :: (i2, itObj ry 0) :: (i1, itObj r 0) :: news) := (N5 _ hc)
  have nl : ∀ p ∈ news, p.1 < i1 := l1
  have N6 : News h₀ L (((h2.push (pairObj (.ref i1) (.ref i2))).push (pairObj .none .none)).push (zipObj h2.objs.size (h2.objs.size + 1))) news := fun p hp => N5 p (.tail _ (.tail _ (.tail _ (.tail _ (.tail _ hp)))))
  have gz := g _ _ (.head _)
  have gTO := g _ _ (.tail _ (.head _))
  have gTI := g _ _ (.tail _ (.tail _ (.head _)))
  have gi2 := g _ _ (.tail _ (.tail _ (.tail _ (.head _))))
  have gi1 := g _ _ (.tail _ (.tail _ (.tail _ (.tail _ (.head _)))))
  have gr := N6 _ hr
  have gy := N6 _ hry
  replace hi1 := ltN hi1
  replace hi2 := ltN hi2
  replace hi12 := ltN hi12
  replace hr1 := ltN hr1
  replace hy1 := ltN hy1
  refine hret (h2.objs.size + 2) h2.objs.size (h2.objs.size + 1) i1 i2 _ _ ?_ ⟨gz.1, gTI.1, ⟨_, _, gTO.1⟩, ⟨_, gi1.1, rfl, rfl⟩, ⟨_, gi2.1, rfl, rfl⟩, ⟨_, gr.1, rfl, _, rfl⟩, ⟨_, gy.1, rfl, _, rfl⟩⟩ ?_ ?_ ?_ ?_ F5 N6
  · constructor <;> (refine neN ?_) <;> omega
  · intro c hc
    simp only [List.mem_cons, List.not_mem_nil, or_false] at hc
    rcases hc with rfl | rfl | rfl | rfl | rfl | rfl | rfl
    · exact Heap.lt_size gz.1
    · exact Heap.lt_size gTI.1
    · exact Heap.lt_size gTO.1
    · exact Heap.lt_size gi1.1
    · exact Heap.lt_size gi2.1
    · exact Heap.lt_size gr.1
    · exact Heap.lt_size gy.1
  · intro hc
    simp only [List.mem_cons, List.not_mem_nil, or_false] at hc
    rcases hc with h | h | h | h | h | h | h
    · exact gz.2.1 h.symm
    · exact gTI.2.1 h.symm
    · exact gTO.2.1 h.symm
    · exact gi1.2.1 h.symm
    · exact gi2.2.1 h.symm
    · exact gr.2.1 h.symm
    · exact gy.2.1 h.symm
  · intro c hc
    simp only [List.mem_cons, List.not_mem_nil, or_false] at hc
    rcases hc with rfl | rfl | rfl | rfl
    · exact gz.2.2
    · exact gTO.2.2
    · exact gi1.2.2
    · exact gi2.2.2
  · intro p hp hc
    have h9 := ltN (nl p hp)
    simp only [List.mem_cons, List.not_mem_nil, or_false] at hc
    rcases hc with h | h | h | h <;> (rw [h] at h9; omega)
end
end Mine
end

-- part W6
section
open PySem PySem.W PyProof.Rows PySem.Spec PySem.Calls
set_option maxRecDepth 100000
set_option maxHeartbeats 80000000
namespace Mine
theorem fill_it6 : (fun (_ : OpenLaw) => hd.heap_39 = hd.heap_39) PySem.Challenge.rw_ae6025_01 := by k_fill; rfl

/-- the remainder as the package reckons it -/
inductive ModR (q : List F) : List F → List F → Prop
  | base {p : List F} : p.length < q.length → ModR q p p
  | step {p p' res : List F} : q.length ≤ p.length → Strip (subRow p q (exI (ratioOf p q)) q.length) p' → ¬ (1 < p'.length ∧ cf p' 0 = 0#8) → ModR q p' res → ModR q p res

def ModTells (prog : Program) (w : World) (p : Program) (loose : List Str) (mean : ExcName → Option Value) (mg mb : Str → Option Value) (n₀ : Nat) : Prop :=
  ∀ (dp un : Nat) (gd : Option (List Code)) (cn : Str) (cs : Scope) (a : Addr) (ccd : Value) (cl : List (Str × Addr)) (outer : List Env) (A₀ : Around) (base h₀ : Heap) (L : Addr) (m : Str → Option Value) (news : List (Addr × Obj)) (s : Shared) (Q E : Value → Shared → Prop)
    (x dx r y dy ry : Addr) (vr vy : List Value) (q p' : List F) (k n ky ny : Nat) (hsh hsy : Int) (tk ty : Tok),
  (x, instObj 80 dx) ∈ news → (dx, dictOf [⟨hsh, .str "num" tk, .ref r⟩] n) ∈ news → (r, listOf (List.toArray vr) k) ∈ news → IntsAre vr (List.map up p') → p'.length ≤ n₀ → n₀ ≤ 64 → 0 < p'.length → ¬ (1 < p'.length ∧ cf p' 0 = 0#8) →
  (y, instObj 80 dy) ∈ news → (dy, dictOf [⟨hsy, .str "num" ty, .ref ry⟩] ny) ∈ news → (ry, listOf (List.toArray vy) ky) ∈ news → IntsAre vy (List.map up q) → q.length ≤ 64 → 1 < q.length → (∀ j, j < q.length → cf q j ≠ 0#8) →
  Below A₀ base outer h₀ → Fr h₀ L s.heap m → (hd.heap_39 w.params).In h₀ → News h₀ L s.heap news → Top p loose mean mg mb h₀ → cs.kind = .function → dp + 8 + 2 * n₀ < recursionLimit → un + 64 + 16 * n₀ < cLine →
  (p'.length < q.length → ∀ h' tk', Fr h₀ L h' m → News h₀ L h' news → Q (.ref x) { s with heap := h', toks := tk' }) →
  (q.length ≤ p'.length → ∀ x' dx' r' vr' k' hsh' tk' n' res h' tk'', Fr h₀ L h' m → News h₀ L h' ((x', instObj 80 dx') :: (dx', dictOf [⟨hsh', .str "num" tk', .ref r'⟩] n') :: (r', listOf (List.toArray vr') k') :: news) → (∀ p ∈ news, p.1 < dx') → dx' < x' → x' < r' →
     IntsAre vr' (List.map up res) → ModR q p' res → 0 < res.length → res.length ≤ p'.length → ¬ (1 < res.length ∧ cf res 0 = 0#8) → Q (.ref x') { s with heap := h', toks := tk'' }) →
  wpAny (model prog w) (ktrTop dp un gd cn cs L a ccd cl outer) (call (.ref 77) [.ref x, .ref y]) Q E s

def ModTellsR (R : Nat → Nat → Prop) (prog : Program) (w : World) (p : Program) (loose : List Str) (mean : ExcName → Option Value) (mg mb : Str → Option Value) (n₀ : Nat) : Prop :=
  ∀ (dp un : Nat) (gd : Option (List Code)) (cn : Str) (cs : Scope) (a : Addr) (ccd : Value) (cl : List (Str × Addr)) (outer : List Env) (A₀ : Around) (base h₀ : Heap) (L : Addr) (m : Str → Option Value) (news : List (Addr × Obj)) (s : Shared) (Q E : Value → Shared → Prop)
    (x dx r y dy ry : Addr) (vr vy : List Value) (q p' : List F) (k n ky ny : Nat) (hsh hsy : Int) (tk ty : Tok),
  R p'.length q.length → (x, instObj 80 dx) ∈ news → (dx, dictOf [⟨hsh, .str "num" tk, .ref r⟩] n) ∈ news → (r, listOf (List.toArray vr) k) ∈ news → IntsAre vr (List.map up p') → p'.length ≤ n₀ → n₀ ≤ 64 → 0 < p'.length → ¬ (1 < p'.length ∧ cf p' 0 = 0#8) →
  (y, instObj 80 dy) ∈ news → (dy, dictOf [⟨hsy, .str "num" ty, .ref ry⟩] ny) ∈ news → (ry, listOf (List.toArray vy) ky) ∈ news → IntsAre vy (List.map up q) → q.length ≤ 64 → 1 < q.length → (∀ j, j < q.length → cf q j ≠ 0#8) →
  Below A₀ base outer h₀ → Fr h₀ L s.heap m → (hd.heap_39 w.params).In h₀ → News h₀ L s.heap news → Top p loose mean mg mb h₀ → cs.kind = .function → dp + 8 + 2 * n₀ < recursionLimit → un + 64 + 16 * n₀ < cLine →
  (p'.length < q.length → ∀ h' tk', Fr h₀ L h' m → News h₀ L h' news → Q (.ref x) { s with heap := h', toks := tk' }) →
  (q.length ≤ p'.length → ∀ x' dx' r' vr' k' hsh' tk' n' res h' tk'', Fr h₀ L h' m → News h₀ L h' ((x', instObj 80 dx') :: (dx', dictOf [⟨hsh', .str "num" tk', .ref r'⟩] n') :: (r', listOf (List.toArray vr') k') :: news) → (∀ p ∈ news, p.1 < dx') → dx' < x' → x' < r' →
     IntsAre vr' (List.map up res) → ModR q p' res → 0 < res.length → res.length ≤ p'.length → ¬ (1 < res.length ∧ cf res 0 = 0#8) → Q (.ref x') { s with heap := h', toks := tk'' }) →
  wpAny (model prog w) (ktrTop dp un gd cn cs L a ccd cl outer) (call (.ref 77) [.ref x, .ref y]) Q E s

theorem ModTells.use {prog : Program} {w : World} {p : Program} {loose : List Str} {mean : ExcName → Option Value} {mg mb : Str → Option Value} {n₁ : Nat} (I : ∀ n₀, n₀ < n₁ → ModTells prog w p loose mean mg mb n₀)
  {dp un : Nat} {gd : Option (List Code)} {cn : Str} {cs : Scope} {a : Addr} {ccd : Value} {cl : List (Str × Addr)} {outer : List Env} {A₀ : Around} {base h₀ : Heap} {L : Addr} {m : Str → Option Value} {news : List (Addr × Obj)} {s : Shared} {Q E : Value → Shared → Prop}
    {x dx r y dy ry : Addr} {vr vy : List Value} {q p' : List F} {k n ky ny : Nat} {hsh hsy : Int} {tk ty : Tok}
  (hx : (x, instObj 80 dx) ∈ news) (hdx : (dx, dictOf [⟨hsh, .str "num" tk, .ref r⟩] n) ∈ news) (hr : (r, listOf (List.toArray vr) k) ∈ news) (hvr : IntsAre vr (List.map up p')) (hpn : p'.length < n₁) (hn64 : n₁ ≤ 64) (hp0 : 0 < p'.length) (hpz : ¬ (1 < p'.length ∧ cf p' 0 = 0#8))
  (hy : (y, instObj 80 dy) ∈ news) (hdy : (dy, dictOf [⟨hsy, .str "num" ty, .ref ry⟩] ny) ∈ news) (hry : (ry, listOf (List.toArray vy) ky) ∈ news) (hvy : IntsAre vy (List.map up q)) (hq : q.length ≤ 64) (hq0 : 1 < q.length) (hqz : ∀ j, j < q.length → cf q j ≠ 0#8)
  (B : Below A₀ base outer h₀) (F : Fr h₀ L s.heap m) (X : (hd.heap_39 w.params).In h₀) (N : News h₀ L s.heap news) (T : Top p loose mean mg mb h₀) (hk : cs.kind = .function) (hd1 : dp + 8 + 2 * p'.length < recursionLimit) (hu : un + 64 + 16 * p'.length < cLine)
  (h1 : p'.length < q.length → ∀ h' tk', Fr h₀ L h' m → News h₀ L h' news → Q (.ref x) { s with heap := h', toks := tk' })
  (h2 : q.length ≤ p'.length → ∀ x' dx' r' vr' k' hsh' tk' n' res h' tk'', Fr h₀ L h' m → News h₀ L h' ((x', instObj 80 dx') :: (dx', dictOf [⟨hsh', .str "num" tk', .ref r'⟩] n') :: (r', listOf (List.toArray vr') k') :: news) → (∀ p ∈ news, p.1 < dx') → dx' < x' → x' < r' →
     IntsAre vr' (List.map up res) → ModR q p' res → 0 < res.length → res.length ≤ p'.length → ¬ (1 < res.length ∧ cf res 0 = 0#8) → Q (.ref x') { s with heap := h', toks := tk'' }) :
  wpAny (model prog w) (ktrTop dp un gd cn cs L a ccd cl outer) (call (.ref 77) [.ref x, .ref y]) Q E s :=
  I p'.length hpn dp un gd cn cs a ccd cl outer A₀ base h₀ L m news s Q E x dx r y dy ry vr vy q p' k n ky ny hsh hsy tk ty hx hdx hr hvr (Nat.le_refl _) (Nat.le_trans (Nat.le_of_lt hpn) hn64) hp0 hpz hy hdy hry hvy hq hq0 hqz B F X N T hk hd1 hu h1 h2

theorem strip_len {l res : List F} (st : Strip l res) : res.length ≤ l.length := by
  induction st with
  | refl => exact Nat.le_refl _
  | drop _ _ _ ih => rw [List.length_drop]; omega
theorem strip_pos {l res : List F} (st : Strip l res) (h : 0 < l.length) : 0 < res.length := by
  induction st with
  | refl => exact h
  | drop _ h1 _ ih => rw [List.length_drop]; omega
theorem strip_less {l res : List F} (st : Strip l res) (h0 : cf l 0 = 0#8) (h1 : 1 < l.length) (nz : ¬ (1 < res.length ∧ cf res 0 = 0#8)) : res.length < l.length := by
  cases st with
  | refl => exact absurd ⟨h1, h0⟩ nz
  | drop st' h2 _ => have := strip_len st'; rw [List.length_drop]; omega
theorem mod_kn {l res : List F} {n : Nat} (st : Strip l res) (nz : ¬ (1 < res.length ∧ cf res 0 = 0#8)) (h0 : cf l 0 = 0#8) (h1 : 1 < l.length) (h2 : l.length ≤ n) : res.length < n := Nat.lt_of_lt_of_le (strip_less st h0 h1 nz) h2
theorem neg_slice (a b : Nat) (h : b ≤ a) : a - (- -((a : Int) - (b : Int))).toNat = b := by omega
theorem exI_ratio (row q : List F) (hr : cf row 0 ≠ 0#8) (hq : cf q 0 ≠ 0#8) : mul (cf q 0) (exI (ratioOf row q)) = cf row 0 := by
  rw [← exI_add _ hq]
  have e : (lg (cf q 0) : Int) + ratioOf row q = (lg (cf row 0) : Int) := by unfold ratioOf; omega
  rw [e]
  unfold exI
  have := lg_lt (cf row 0)
  have e2 : (((lg (cf row 0) : Nat) : Int) % 255).toNat = lg (cf row 0) := by omega
  rw [e2, ex_lg _ hr]
theorem subRow_head (row q : List F) (hr : cf row 0 ≠ 0#8) (hq : cf q 0 ≠ 0#8) (h1 : 0 < row.length) (h2 : 0 < q.length) : cf (subRow row q (exI (ratioOf row q)) q.length) 0 = 0#8 := by
  rw [cf_subRow _ _ _ _ _ h1, if_pos h2, exI_ratio _ _ hr hq, BitVec.xor_self]
theorem news_t8 {h₀ h : Heap} {L : Addr} {a b c d e f g x : Addr × Obj} {r : List (Addr × Obj)} (N : News h₀ L h (a :: b :: c :: d :: e :: f :: g :: x :: r)) : News h₀ L h (a :: b :: c :: r) := fun p hp => N p (by
  rcases List.mem_cons.1 hp with rfl | hp
  · exact .head _
  rcases List.mem_cons.1 hp with rfl | hp
  · exact .tail _ (.head _)
  rcases List.mem_cons.1 hp with rfl | hp
  · exact .tail _ (.tail _ (.head _))
  exact .tail _ (.tail _ (.tail _ (.tail _ (.tail _ (.tail _ (.tail _ (.tail _ hp))))))))
theorem news_t5 {h₀ h : Heap} {L : Addr} {a b c d e : Addr × Obj} {r : List (Addr × Obj)} (N : News h₀ L h (a :: b :: c :: d :: e :: r)) : News h₀ L h (a :: b :: c :: r) := fun p hp => N p (by
  rcases List.mem_cons.1 hp with rfl | hp
  · exact .head _
  rcases List.mem_cons.1 hp with rfl | hp
  · exact .tail _ (.head _)
  rcases List.mem_cons.1 hp with rfl | hp
  · exact .tail _ (.tail _ (.head _))
  exact .tail _ (.tail _ (.tail _ (.tail _ (.tail _ hp)))))

theorem news_t9 {h₀ h : Heap} {L : Addr} {a b c d e f g x y : Addr × Obj} {r : List (Addr × Obj)} (N : News h₀ L h (a :: b :: c :: d :: e :: f :: g :: x :: y :: r)) : News h₀ L h (a :: b :: c :: r) := fun p hp => N p (by
  rcases List.mem_cons.1 hp with rfl | hp
  · exact .head _
  rcases List.mem_cons.1 hp with rfl | hp
  · exact .tail _ (.head _)
  rcases List.mem_cons.1 hp with rfl | hp
  · exact .tail _ (.tail _ (.head _))
  exact .tail _ (.tail _ (.tail _ (.tail _ (.tail _ (.tail _ (.tail _ (.tail _ (.tail _ hp)))))))))
theorem news_t6 {h₀ h : Heap} {L : Addr} {a b c d e f : Addr × Obj} {r : List (Addr × Obj)} (N : News h₀ L h (a :: b :: c :: d :: e :: f :: r)) : News h₀ L h (a :: b :: c :: r) := fun p hp => N p (by
  rcases List.mem_cons.1 hp with rfl | hp
  · exact .head _
  rcases List.mem_cons.1 hp with rfl | hp
  · exact .tail _ (.head _)
  rcases List.mem_cons.1 hp with rfl | hp
  · exact .tail _ (.tail _ (.head _))
  exact .tail _ (.tail _ (.tail _ (.tail _ (.tail _ (.tail _ hp))))))

theorem ints_eq {ws : List Value} {a b : List F} (h : IntsAre ws (List.map up a)) (e : a = b) : IntsAre ws (List.map up b) := e ▸ h
theorem slice_up {ws : List Value} {p' q : List F} (h : IntsAre ws (List.drop ((List.map up p').length - (- -((p'.length : Int) - (q.length : Int))).toNat) (List.map up p'))) (hl : q.length ≤ p'.length) : IntsAre ws (List.map up (p'.drop q.length)) := by
  rw [List.length_map, neg_slice _ _ hl, ← List.map_drop] at h
  exact h

theorem news_t7 {h₀ h : Heap} {L : Addr} {a b c d e f g : Addr × Obj} {r : List (Addr × Obj)} (N : News h₀ L h (a :: b :: c :: d :: e :: f :: g :: r)) : News h₀ L h (a :: b :: c :: r) := news_t6 fun p hp => N p (by
  rcases List.mem_cons.1 hp with rfl | hp
  · exact .head _
  rcases List.mem_cons.1 hp with rfl | hp
  · exact .tail _ (.head _)
  rcases List.mem_cons.1 hp with rfl | hp
  · exact .tail _ (.tail _ (.head _))
  rcases List.mem_cons.1 hp with rfl | hp
  · exact .tail _ (.tail _ (.tail _ (.head _)))
  rcases List.mem_cons.1 hp with rfl | hp
  · exact .tail _ (.tail _ (.tail _ (.tail _ (.head _))))
  rcases List.mem_cons.1 hp with rfl | hp
  · exact .tail _ (.tail _ (.tail _ (.tail _ (.tail _ (.head _)))))
  exact .tail _ (.tail _ (.tail _ (.tail _ (.tail _ (.tail _ (.tail _ hp)))))))
theorem news_t10 {h₀ h : Heap} {L : Addr} {a b c d e f g x y z : Addr × Obj} {r : List (Addr × Obj)} (N : News h₀ L h (a :: b :: c :: d :: e :: f :: g :: x :: y :: z :: r)) : News h₀ L h (a :: b :: c :: r) := fun p hp => N p (by
  rcases List.mem_cons.1 hp with rfl | hp
  · exact .head _
  rcases List.mem_cons.1 hp with rfl | hp
  · exact .tail _ (.head _)
  rcases List.mem_cons.1 hp with rfl | hp
  · exact .tail _ (.tail _ (.head _))
  exact .tail _ (.tail _ (.tail _ (.tail _ (.tail _ (.tail _ (.tail _ (.tail _ (.tail _ (.tail _ hp))))))))))

section
variable {prog : Program} {w : World} {p : Program} {loose : List Str} {mean : ExcName → Option Value} {mg mb : Str → Option Value}
local macro_rules | `(tactic| walk_at "call ref") => `(tactic| (k_here; (with_reducible show wpAny _ _ (call (Value.ref _) _) _ _ _); refine wpAny_call ?_; k_dflt (refine' code_def ?k1 ?k2 ?k3 ?k4 ?k5 ?kA ?kF ?kK ?k6 ?k7 ?k8 ?k9 ?kB ?_ ?c2 ?c3 ?c4 ?c5; (case kA => exact rfl); (case kF => exact rfl); (case kK => first | exact rfl | assumption); (case k1 => k_asm); (case k2 => k_asm); (case k3 => k_asm); (case k4 => k_asm); (case k5 => k_asm); (case k6 => k_is); (case k7 => k_is); (case k8 => ktr_room); (case k9 => exact BindsTo.of_eq rfl); (case c5 => decide); (case kB => exact locs rfl); (case c2 => exact rfl); (case c3 => exact rfl); (case c4 => exact rfl); k_whole; intro g' L' h' FG' F' N' B' X' T'; (try dsimp only); (try k_lift B'); (try k_fold))))
local macro_rules | `(tactic| walk_at "subscriptTail") => `(tactic| (k_here; (with_reducible show wpAny _ _ (subscriptTail _ _ (Value.ref 15) (Value.int (Int.fmod _ 255) _)) _ _ _); k_dflt (refine' exp_item ?F ?X ?_; (case F => k_asm); (case X => k_asm); k_whole); intro t9))
local macro_rules | `(tactic| walk_at "subscriptTail") => `(tactic| (k_here; (with_reducible show wpAny _ _ (subscriptTail _ _ (Value.ref 16) (Value.int (up _) _)) _ _ _); k_dflt (refine' log_item ?F ?X ?b ?_; (case F => k_asm); (case X => k_asm); (case b => assumption); k_whole); intro t9))
local macro_rules | `(tactic| walk_at "getItem ref int") => `(tactic| (k_here; (with_reducible show wpAny _ _ (getItem (Value.ref _) (Value.int _ _)) _ _ _); k_dflt (refine' up_get ?k1 ?k2 ?k3 ?k4 ?k5 ?k6 ?_; (case k1 => k_asm); (case k2 => k_mem); (case k3 => with_reducible assumption); (case k4 => first | exact (rfl : (0:Int) = ((0:Nat):Int)) | exact (rfl : ((_:Nat):Int) = ((_:Nat):Int)) | exact (Int.natCast_succ _).symm); (case k5 => ksa_idx); (case k6 => ksa_idx); k_whole); intro t9))
local macro_rules | `(tactic| walk_at "subscriptTail") => `(tactic| (k_here; (with_reducible show wpAny _ _ (subscriptTail _ _ (Value.ref _) (Value.int _ _)) _ _ _); k_dflt (refine' up_sub ?k1 ?k2 ?k3 ?k4 ?k5 ?k6 ?_ ?k7; (case k1 => k_asm); (case k2 => k_mem); (case k3 => with_reducible assumption); (case k4 => first | exact (rfl : (0:Int) = ((0:Nat):Int)) | exact (rfl : ((_:Nat):Int) = ((_:Nat):Int)) | exact (Int.natCast_succ _).symm); (case k5 => ksa_idx); (case k6 => ksa_idx); (case k7 => with_unfolding_all rfl); k_whole); intro t9))
local macro_rules | `(tactic| walk_at "subscriptTail Name Constant ref int") => `(tactic| (k_here; (with_reducible show wpAny _ _ (subscriptTail _ _ (Value.ref _) (Value.int _ _)) _ _ _); k_dflt (refine' up_sub ?k1 ?k2 ?k3 ?k4 ?k5 ?k6 ?_ ?k7; (case k1 => k_asm); (case k2 => k_mem); (case k3 => with_reducible assumption); (case k4 => first | exact (rfl : (0:Int) = ((0:Nat):Int)) | exact (rfl : ((_:Nat):Int) = ((_:Nat):Int)) | exact (Int.natCast_succ _).symm); (case k5 => ksa_idx); (case k6 => ksa_idx); (case k7 => with_unfolding_all rfl); k_whole); intro t9))
local macro_rules | `(tactic| walk_at "subscriptTail Name Name ref int") => `(tactic| (k_here; (with_reducible show wpAny _ _ (subscriptTail _ _ (Value.ref _) (Value.int _ _)) _ _ _); k_dflt (refine' up_sub ?k1 ?k2 ?k3 ?k4 ?k5 ?k6 ?_ ?k7; (case k1 => k_asm); (case k2 => k_mem); (case k3 => with_reducible assumption); (case k4 => first | exact (rfl : (0:Int) = ((0:Nat):Int)) | exact (rfl : ((_:Nat):Int) = ((_:Nat):Int)) | exact (Int.natCast_succ _).symm); (case k5 => ksa_idx); (case k6 => ksa_idx); (case k7 => with_unfolding_all rfl); k_whole); intro t9))
local macro_rules | `(tactic| walk_at "subscriptTail Name BinOp ref int") => `(tactic| (k_here; (with_reducible show wpAny _ _ (subscriptTail _ _ (Value.ref _) (Value.int _ _)) _ _ _); k_dflt (refine' up_sub ?k1 ?k2 ?k3 ?k4 ?k5 ?k6 ?_ ?k7; (case k1 => k_asm); (case k2 => k_mem); (case k3 => with_reducible assumption); (case k4 => first | exact (rfl : (0:Int) = ((0:Nat):Int)) | exact (rfl : ((_:Nat):Int) = ((_:Nat):Int)) | exact (Int.natCast_succ _).symm); (case k5 => ksa_idx); (case k6 => ksa_idx); (case k7 => with_unfolding_all rfl); k_whole); intro t9))
local macro_rules | `(tactic| walk_at "setItem ref int") => `(tactic| (k_here; (with_reducible show wpAny _ _ (setItem (Value.ref _) (Value.int _ _) (Value.int (up _) _)) _ _ _); k_dflt (refine' up_set ?k1 ?k2 ?k3 ?k4 ?k5 ?k6 ?k7 ?_; (case k1 => k_asm); (case k2 => k_asm); (case k3 => k_upd); (case k4 => with_reducible assumption); (case k5 => first | exact (rfl : (0:Int) = ((0:Nat):Int)) | exact (rfl : ((_:Nat):Int) = ((_:Nat):Int)) | exact (Int.natCast_succ _).symm); (case k6 => ksa_idx); (case k7 => ksa_idx); k_whole); intro h' F' N' hi'; (try k_sweep)))
local macro_rules | `(tactic| walk_at "binaryOp BitXor int int") => `(tactic| ((with_reducible show wpAny _ _ (binaryOp _ (Value.int (up _) _) (Value.int (up _) _)) _ _ _); refine xor_up ?_))
local macro_rules | `(tactic| walk_at "inplaceOp BitXor int int") => `(tactic| ((with_reducible show wpAny _ _ (inplaceOp _ (Value.int (up _) _) (Value.int (up _) _)) _ _ _); refine ixor_up ?_))
local macro_rules | `(tactic| walk_at "call ref") => `(tactic| (k_here; (with_reducible show wpAny _ _ (call (Value.ref 30) [Value.int _ _]) _ _ _); k_dflt (refine' gexp_call ?k1 ?k2 ?k3 ?k4 ?k5 ?kK ?kd ?ku ?_; (case k1 => k_asm); (case k2 => k_asm); (case k3 => k_asm); (case k4 => k_asm); (case k5 => k_asm); (case kK => first | exact rfl | assumption); (case kd => ktr_room); (case ku => ktr_units); intro t9 h9 tk9 F9 N9; (try dsimp only); (try k_sweep); (try k_fold))))
local macro_rules | `(tactic| walk_at "call ref") => `(tactic| (k_here; (with_reducible show wpAny _ _ (call (Value.ref 23) [Value.int (up _) _]) _ _ _); k_dflt (refine' glog_call ?kb ?k1 ?k2 ?k3 ?k4 ?k5 ?kK ?kd ?ku ?_; (case kb => first | assumption | (refine up_ne ?_; assumption)); (case k1 => k_asm); (case k2 => k_asm); (case k3 => k_asm); (case k4 => k_asm); (case k5 => k_asm); (case kK => first | exact rfl | assumption); (case kd => ktr_room); (case ku => ktr_units); intro t9 h9 tk9 F9 N9; (try dsimp only); (try k_sweep); (try k_fold))))
local macro_rules | `(tactic| k_all) => `(tactic| exact Off.head (by assumption))
local macro_rules | `(tactic| k_mem) => `(tactic| ((repeat' (first | exact List.Mem.head _ | refine List.mem_cons_of_mem _ ?_ | assumption)); done))
local macro_rules | `(tactic| walk_at "exec For Name Call cons nil") => `(tactic| (k_here; k_dflt (refine' For_stop ?F ?a ?b ?_; (case F => k_asm); (case a => exact rfl); (case b => exact rfl); k_whole)))
local macro_rules | `(tactic| walk_at "exec For Name Name cons nil") => `(tactic| (k_here; k_dflt (refine' For_stop ?F ?a ?b ?_; (case F => k_asm); (case a => exact rfl); (case b => exact rfl); k_whole)))
local macro_rules | `(tactic| walk_at "exec While Compare cons nil") => `(tactic| (k_here; refine Stop.out ?_))
local macro_rules | `(tactic| walk_at "exec While BoolOp cons nil") => `(tactic| (k_here; refine Stop.out ?_))
local macro_rules | `(tactic| walk_at "call type:list") => `(tactic| (k_here; (with_reducible show wpAny _ _ (call (Value.type _) [Value.ref _]) _ _ _); k_dflt (refine' up_copy ?k1 ?k2 ?k3 ?k4 ?k5 ?_; (case k1 => k_asm); (case k2 => k_asm); (case k3 => k_mem); (case k4 => with_reducible assumption); (case k5 => assumption); k_whole); intro D' c' h' F' N' l1; (try k_sweep)))
local macro_rules | `(tactic| walk_at "call builtin:len") => `(tactic| (k_here; (with_reducible show wpAny _ _ (call (Value.builtin _) [Value.ref _]) _ _ _); k_dflt (refine' up_len ?k1 ?k2 ?k3 ?k4 ?_; (case k1 => k_asm); (case k2 => k_mem); (case k3 => with_reducible assumption); (case k4 => assumption); k_whole); intro t9 tk9))
local macro_rules | `(tactic| walk_at "truthy ref") => `(tactic| (k_here; (with_reducible show wpAny _ _ (truthy (Value.ref _)) _ _ _); k_dflt (refine' up_true ?k1 ?k2 ?k3 ?k4 ?k5 ?_; (case k1 => k_asm); (case k2 => k_mem); (case k3 => with_reducible assumption); (case k4 => assumption); (case k5 => assumption); k_whole); intro tk9; (try simp only [Bool.not_true, Bool.false_eq_true, if_false, if_true])))
local macro_rules | `(tactic| k_all) => `(tactic| exact lt_all (by assumption))
local macro_rules | `(tactic| walk_at "call builtin:iter") => `(tactic| (k_here; (with_reducible show wpAny _ _ (call (Value.builtin "iter") [Value.ref _]) _ _ _); k_dflt (refine' iter_of_list ?k1 ?k2 ?k3 ?_; (case k1 => k_asm); (case k2 => k_asm); (case k3 => k_mem); k_whole); intro i9 h9 F9 N9 l9; (try k_sweep)))
local macro_rules | `(tactic| walk_at "call ref") => `(tactic| (k_here; (with_reducible show wpAny _ _ (call (Value.ref 80) [Value.ref _, Value.int 0 _]) _ _ _); k_dflt (refine' poly_call ?kl ?ki ?kq ?kq0 ?k1 ?k2 ?k3 ?k4 ?k5 ?kK ?kd ?ku ?_; (case k1 => k_asm); (case k2 => k_asm); (case k3 => k_asm); (case k4 => k_asm); (case k5 => k_asm); (case kl => k_mem); (case ki => with_reducible assumption); (case kq => assumption); (case kq0 => assumption); (case kK => first | exact rfl | assumption); (case kd => ktr_room); (case ku => ktr_units); intro x9 dx9 r9 vr9 k9 hsh9 tk9 n9 res9 h9 tk9' F9 N9 l9 l9' l9'' i9 st9 nz9; (try dsimp only); (try k_fold))))
local macro_rules | `(tactic| walk_at "call type:zip") => `(tactic| (k_here; (with_reducible show wpAny _ _ (call (Value.type _) [Value.ref _, Value.ref _]) _ _ _); k_dflt (refine' zip_polys ?h1 ?h2 ?h3 ?h4 ?h5 ?h6 ?k1 ?k2 ?k3 ?k4 ?k5 ?kK ?kd ?ku ?_; (case k1 => k_asm); (case k2 => k_asm); (case k3 => k_asm); (case k4 => k_asm); (case k5 => k_asm); (case h1 => k_mem); (case h2 => k_mem); (case h3 => k_mem); (case h4 => k_mem); (case h5 => k_mem); (case h6 => k_mem); (case kK => first | exact rfl | assumption); (case kd => ktr_room); (case ku => ktr_units); intro z9 TI9 TO9 i91 i92 h9 tk9 D9 st9 fp9 Lf9 wr9 nw9 F9 N9; (try dsimp only); (try k_sweep))))
local macro_rules | `(tactic| walk_at "subscriptTail Name Slice ref ref") => `(tactic| (k_here; (with_reducible show wpAny _ _ (subscriptTail _ (PySem.Expr.Slice _ _ none _) (Value.ref _) (Value.ref _)) _ _ _); k_dflt (refine' sub_slice_own ?F ?N ?X ?h1 ?h2 ?hq ?hs ?hf ?hn ?_; (case F => k_asm); (case N => k_asm); (case X => k_asm); (case h1 => k_mem); (case h2 => k_mem); (case hq => k_is); (case hs => k_is); (case hf => k_is); (case hn => k_is); k_whole); intro sl9 h9 F9 N9 l9; (try k_lt l9); (try dsimp only); (try k_sweep)))
local macro_rules | `(tactic| walk_at "subscriptTail") => `(tactic| (k_here; (with_reducible show wpAny _ _ (subscriptTail _ (PySem.Expr.Name _ _) (Value.ref _) (Value.ref _)) _ _ _); k_dflt (refine' list_slice_obj ?F ?N ?h1 ?h2 ?p ?q ?m ?z ?_; (case F => k_asm); (case N => k_asm); (case h1 => k_mem); (case h2 => k_mem); (case p => kmk_part); (case q => kmk_part); (case m => first | exact kmk_from_neg (by with_reducible assumption) (by omega) | kmk_nums); (case z => assumption); k_whole); intro D9 ws9 h9 F9 N9 l9 i9; (try k_lt l9); (try dsimp only); (try k_sweep)))
local macro_rules | `(tactic| walk_at "call ref") => `(tactic| (k_here; (with_reducible show wpAny _ _ (call (Value.ref 77) [Value.ref _, Value.ref _]) _ _ _); k_dflt (refine' ModTells.use ?kI ?h1 ?h2 ?h3 ?i1 ?kn ?h64 ?hp0 ?hpz ?h4 ?h5 ?h6 ?i2 ?hq ?hq0 ?hqz ?k1 ?k2 ?k3 ?k4 ?k5 ?kK ?kd ?ku ?r1 ?r2; (case k1 => k_asm); (case k2 => k_asm); (case k3 => k_asm); (case k4 => k_asm); (case k5 => k_asm); (case h1 => k_mem); (case h2 => k_mem); (case h3 => k_mem); (case h4 => k_mem); (case h5 => k_mem); (case h6 => k_mem); (case i1 => with_reducible assumption); (case i2 => with_reducible assumption); (case kI => assumption); (case kn => exact mod_kn (by assumption) (by assumption) (by assumption) (by assumption) (by assumption)); (case h64 => assumption); (case hp0 => exact strip_pos (by assumption) (by assumption)); (case hpz => assumption); (case hq => assumption); (case hq0 => assumption); (case hqz => assumption); (case kK => first | exact rfl | assumption); (case kd => (have hkn := mod_kn (by assumption) (by assumption) (by assumption) (by assumption) (by assumption)); first | omega | ktr_room); (case ku => (have hkn := mod_kn (by assumption) (by assumption) (by assumption) (by assumption) (by assumption)); first | omega | ktr_units); (case' r1 => intro ha9 h9 tk9 F9 N9; (try dsimp only); (try k_fold)); (case' r2 => intro hb9 x8 dx8 r8 vr8 k8 hsh8 tk8 n8 res8 h8 tk8' F8 N8 l8 l8' l8'' i8 md8 z8 le8 nz8; (try dsimp only); (try k_fold)))))
local macro_rules | `(tactic| walk_at "call builtin:list.extend") => `(tactic| (k_here; (with_reducible show wpAny _ _ (call (Value.builtin "list.extend") [Value.ref _, Value.ref _]) _ _ _); k_dflt (refine' up_extend ?k1 ?k2 ?k3 ?ki ?kj ?k4 ?kz ?k5 ?k6 ?_); (case k1 => k_asm); (case k2 => k_asm); (case k3 => exact List.Mem.head _); (case k6 => k_upd); (case ki => with_reducible assumption); (case kj => exact slice_up (by assumption) (by omega)); (case k4 => (rw [List.length_drop]; omega)); (case k5 => (rw [List.length_drop]; omega)); (case kz => assumption); intro h7 F7 N7 hi7; (replace hi7 := ints_eq hi7 (by assumption)); (try dsimp only); (try k_fold)))
local macro_rules | `(tactic| walk_at "call ref") => `(tactic| (exfalso; omega))
theorem mod_lt (n₀ : Nat) (IH : ∀ n₁, n₁ < n₀ → ModTells prog w p loose mean mg mb n₁) : ModTellsR (fun a b => a < b) prog w p loose mean mg mb n₀ := by
  w_top off
  intro dp un gd cn cs a ccd cl outer A₀ base h₀ L m news s Q E x dx r y dy ry vr vy q p' k n ky ny hsh hsy tk ty hRR hx hdx hr hvr hpn hn64 hp0 hpz hy hdy hry hvy hq hq0 hqz B F X N T hk hd1 hu hret0 hret1
  have hlt := hRR
  clear hRR
  try dsimp only at hlt
  have hp : p'.length ≤ 64 := by omega
  have hd4 : dp + 4 < recursionLimit := by omega
  refine wpAny_call ?_
  k_dflt (refine' code_defC ?k1 ?k2 ?k3 ?k4 ?k5 ?kA ?kF ?kK ?k6 ?k7 ?k8 ?k9 ?kB ?kD ?_ ?c2 ?c3 ?c4; (case kA => exact rfl); (case kF => exact rfl); (case kK => assumption); (case k1 => k_asm); (case k2 => k_asm); (case k3 => k_asm); (case k4 => k_asm); (case k5 => k_asm); (case k6 => k_is); (case k7 => k_is); (case k8 => ktr_room); (case k9 => exact BindsTo.of_eq rfl); (case kB => exact rfl); (case kD => decide +kernel); (case c2 => exact rfl); (case c3 => exact rfl); (case c4 => exact rfl); k_whole; intro g' L' h' tk' cells' FG' F' N' Y' B' X' T' l1; k_cells Y'; (try simp only [List.cons_append, List.nil_append] at N'); (try dsimp only); (try k_fold))
  have l1c : ∀ p ∈ news, p.1 < L' + 1 := fun p hp => Nat.lt_succ_of_lt (l1 p hp)
  k_steps
  rename Fr h₀ _ _ _ => kF
  rename News h₀ _ _ _ => kN
  exact hret0 hlt _ _ kF (news_drop1 kN)
theorem mod_eq (n₀ : Nat) (IH : ∀ n₁, n₁ < n₀ → ModTells prog w p loose mean mg mb n₁) : ModTellsR (fun a b => a = b) prog w p loose mean mg mb n₀ := by
  intro dp un gd cn cs a ccd cl outer A₀ base h₀ L m news s Q E x dx r y dy ry vr vy q p' k n ky ny hsh hsy tk ty hRR hx hdx hr hvr hpn hn64 hp0 hpz hy hdy hry hvy hq hq0 hqz B F X N T hk hd1 hu hret0 hret1
  have heq := hRR
  clear hRR
  try dsimp only at heq
  have hp : p'.length ≤ 64 := by omega
  have hd4 : dp + 4 < recursionLimit := by omega
  refine wpAny_call ?_
  k_dflt (refine' code_defC ?k1 ?k2 ?k3 ?k4 ?k5 ?kA ?kF ?kK ?k6 ?k7 ?k8 ?k9 ?kB ?kD ?_ ?c2 ?c3 ?c4; (case kA => exact rfl); (case kF => exact rfl); (case kK => assumption); (case k1 => k_asm); (case k2 => k_asm); (case k3 => k_asm); (case k4 => k_asm); (case k5 => k_asm); (case k6 => k_is); (case k7 => k_is); (case k8 => ktr_room); (case k9 => exact BindsTo.of_eq rfl); (case kB => exact rfl); (case kD => decide +kernel); (case c2 => exact rfl); (case c3 => exact rfl); (case c4 => exact rfl); k_whole; intro g' L' h' tk' cells' FG' F' N' Y' B' X' T' l1; k_cells Y'; (try simp only [List.cons_append, List.nil_append] at N'); (try dsimp only); (try k_fold))
  have l1c : ∀ p ∈ news, p.1 < L' + 1 := fun p hp => Nat.lt_succ_of_lt (l1 p hp)
  have hlt : ¬ p'.length < q.length := by omega
  have hp00 : cf p' 0 ≠ 0#8 := fun e => hpz ⟨by omega, e⟩
  have hq00 : cf q 0 ≠ 0#8 := hqz 0 (by omega)
  k_steps
  rename Fr g' L' _ _ => F1
  k_dflt (refine' Assign_pair F1 rfl ?ksw ?kcl ?kce ?kki ?kna ?kxa ?kxb ?kab ?ky ?kp ?_)
  case ksw => with_unfolding_all rfl
  case kcl => with_unfolding_all rfl
  case kce => decide
  case kki => rfl
  case kna => decide
  case kxa => rfl
  case kxb => rfl
  case kab => decide
  case ky => rfl
  case kp => rfl
  k_steps
  rename_i z9 TI9 TO9 i91 i92 h9 tk9 D9 st9 fp9 Lf9 wr9 nw9 F9 N9
  have hvl : vr.length = p'.length := by have := hvr.length; rw [List.length_map] at this; exact this
  have hyl : vy.length = q.length := by have := hvy.length; rw [List.length_map] at this; exact this
  have hmin : min vr.toArray.size vy.toArray.size = q.length := by rw [List.size_toArray, List.size_toArray]; omega
  refine ⟨_, _, _, _, _, _, _, _, _, fun i x y => vr[i]? = some x ∧ vy[i]? = some y, fun i v => ∃ t, v = .int (up (cf p' i ^^^ mul (cf q i) (exI (ratioOf p' q)))) t, rfl, rfl, WalksT.zip2 rfl _ _ _ _ _ _ _ D9 vr.toArray vy.toArray, ?_, by rw [hmin, sizeLine_eq]; omega, st9, fp9, Lf9, wr9, nw9, F9, N9, ?_, ?_⟩
  · rintro i vals ⟨x, y, h1, h2, rfl⟩
    exact ⟨x, y, rfl, by simpa using h1, by simpa using h2⟩
  · rintro i vx vy' C oC D acc m₂ h tk nw E' hin ⟨h1, h2⟩ hC ha hb F₂ N₂ hsub
    obtain ⟨hip, t1, rfl⟩ := ups_item hvr h1
    obtain ⟨hiq, t2, rfl⟩ := ups_item hvy h2
    have hqi : cf q i ≠ 0#8 := hqz i hiq
    have hcell := hsub _ (List.Mem.head _)
    k_steps
    · k_asm
    · k_asm
    · show Value.int (up (cf p' i ^^^ exI ((lg (cf q i) : Int) + ratioOf p' q))) _ = _
      rw [exI_add _ hqi]
  · rintro D ys h tk F₂ N₂ lt₂ hl₂ hr₂
    rw [hmin] at hl₂
    have hys := ups_of hl₂ hr₂
    have hl8 : (tab q.length fun i => cf p' i ^^^ mul (cf q i) (exI (ratioOf p' q))).length = q.length := tab_length _ _
    generalize hT : (tab q.length fun i => cf p' i ^^^ mul (cf q i) (exI (ratioOf p' q))) = tb at hys hl8
    have hl64 : tb.length ≤ 64 := by omega
    have hl0 : 0 < tb.length := by omega
    show wpAny _ _ (execs _ _) _ _ _
    have hvr64 : vr.length ≤ 64 := by omega
    have e : tb = subRow p' q (exI (ratioOf p' q)) q.length := by
      rw [← hT]; unfold subRow
      rw [heq]
      refine list_ext (by rw [tab_length, tab_length]) fun j hj => ?_
      rw [tab_length] at hj
      rw [cf_tab, cf_tab, if_pos hj, if_pos hj, if_pos hj]
    subst e
    have hs0 : cf (subRow p' q (exI (ratioOf p' q)) q.length) 0 = 0#8 := subRow_head _ _ hp00 hq00 (by omega) (by omega)
    have hs1 : 1 < (subRow p' q (exI (ratioOf p' q)) q.length).length := by omega
    have hsn : (subRow p' q (exI (ratioOf p' q)) q.length).length ≤ n₀ := by omega
    clear hx hdx hr hvr hr₂ hT
    k_steps
    · exfalso; omega
    · rename Strip _ _ => st9
      rename IntsAre _ (List.map up _) => i8
      rename ModR _ _ _ => md8
      rename ¬ (1 < List.length _ ∧ cf _ 0 = 0#8) => nz8
      rename (List.length _ ≤ List.length _) => le8
      rename (0 < List.length _) => z8
      dsimp only [W.CmpBack]
      k_steps
      rename Fr h₀ _ _ _ => kF
      rename News h₀ _ _ _ => kN
      rename (∀ p : Addr × Obj, p ∈ (_ :: _ :: _ :: _) → p.1 < _) => l8
      have ltk8 := fun p (hp : p ∈ news) => l8 p (.tail _ (.tail _ (.tail _ (.tail _ (.tail _ hp)))))
      have hsl := strip_len st9
      refine hret1 ?pu0 _ _ _ _ _ _ _ _ _ _ _ kF (news_t8 kN) ?lu0 ?au0 ?bu0 i8 (ModR.step ?o1u0 st9 ?cu0 md8) z8 ?o2u0 nz8
      case lu0 => exact ltk8
      case o1u0 => omega
      case o2u0 => omega
      case pu0 => omega
      case au0 => assumption
      case bu0 => assumption
      case cu0 => assumption
    · rename Strip _ _ => st9
      rename IntsAre _ (List.map up _) => i9
      rename ¬ (1 < List.length _ ∧ cf _ 0 = 0#8) => nz9
      rename (List.length _ < q.length) => ha9
      dsimp only [W.CmpBack]
      k_steps
      rename Fr h₀ _ _ _ => kF
      rename News h₀ _ _ _ => kN
      rename (∀ p : Addr × Obj, p ∈ (_ :: _ :: news) → p.1 < _) => l8
      have ltk8 := fun p (hp : p ∈ news) => l8 p (.tail _ (.tail _ hp))
      have hsl := strip_len st9
      refine hret1 ?pu1 _ _ _ _ _ _ _ _ _ _ _ kF (news_t5 kN) ?lu1 ?au1 ?bu1 i9 (ModR.step ?o1u1 st9 nz9 (.base ha9)) (strip_pos st9 ?o2u1) ?o3u1 nz9
      case lu1 => exact ltk8
      case o1u1 => omega
      case o2u1 => omega
      case o3u1 => omega
      case pu1 => omega
      case au1 => assumption
      case bu1 => assumption
theorem mod_gt (n₀ : Nat) (IH : ∀ n₁, n₁ < n₀ → ModTells prog w p loose mean mg mb n₁) : ModTellsR (fun a b => b < a) prog w p loose mean mg mb n₀ := by
  intro dp un gd cn cs a ccd cl outer A₀ base h₀ L m news s Q E x dx r y dy ry vr vy q p' k n ky ny hsh hsy tk ty hRR hx hdx hr hvr hpn hn64 hp0 hpz hy hdy hry hvy hq hq0 hqz B F X N T hk hd1 hu hret0 hret1
  have hgt := hRR
  clear hRR
  try dsimp only at hgt
  have hp : p'.length ≤ 64 := by omega
  have hd4 : dp + 4 < recursionLimit := by omega
  refine wpAny_call ?_
  k_dflt (refine' code_defC ?k1 ?k2 ?k3 ?k4 ?k5 ?kA ?kF ?kK ?k6 ?k7 ?k8 ?k9 ?kB ?kD ?_ ?c2 ?c3 ?c4; (case kA => exact rfl); (case kF => exact rfl); (case kK => assumption); (case k1 => k_asm); (case k2 => k_asm); (case k3 => k_asm); (case k4 => k_asm); (case k5 => k_asm); (case k6 => k_is); (case k7 => k_is); (case k8 => ktr_room); (case k9 => exact BindsTo.of_eq rfl); (case kB => exact rfl); (case kD => decide +kernel); (case c2 => exact rfl); (case c3 => exact rfl); (case c4 => exact rfl); k_whole; intro g' L' h' tk' cells' FG' F' N' Y' B' X' T' l1; k_cells Y'; (try simp only [List.cons_append, List.nil_append] at N'); (try dsimp only); (try k_fold))
  have l1c : ∀ p ∈ news, p.1 < L' + 1 := fun p hp => Nat.lt_succ_of_lt (l1 p hp)
  have hlt : ¬ p'.length < q.length := by omega
  have heq : ¬ p'.length = q.length := by omega
  have hp00 : cf p' 0 ≠ 0#8 := fun e => hpz ⟨by omega, e⟩
  have hq00 : cf q 0 ≠ 0#8 := hqz 0 (by omega)
  k_steps
  rename Fr g' L' _ _ => F1
  k_dflt (refine' Assign_pair F1 rfl ?ksw ?kcl ?kce ?kki ?kna ?kxa ?kxb ?kab ?ky ?kp ?_)
  case ksw => with_unfolding_all rfl
  case kcl => with_unfolding_all rfl
  case kce => decide
  case kki => rfl
  case kna => decide
  case kxa => rfl
  case kxb => rfl
  case kab => decide
  case ky => rfl
  case kp => rfl
  k_steps
  rename_i z9 TI9 TO9 i91 i92 h9 tk9 D9 st9 fp9 Lf9 wr9 nw9 F9 N9
  have hvl : vr.length = p'.length := by have := hvr.length; rw [List.length_map] at this; exact this
  have hyl : vy.length = q.length := by have := hvy.length; rw [List.length_map] at this; exact this
  have hmin : min vr.toArray.size vy.toArray.size = q.length := by rw [List.size_toArray, List.size_toArray]; omega
  refine ⟨_, _, _, _, _, _, _, _, _, fun i x y => vr[i]? = some x ∧ vy[i]? = some y, fun i v => ∃ t, v = .int (up (cf p' i ^^^ mul (cf q i) (exI (ratioOf p' q)))) t, rfl, rfl, WalksT.zip2 rfl _ _ _ _ _ _ _ D9 vr.toArray vy.toArray, ?_, by rw [hmin, sizeLine_eq]; omega, st9, fp9, Lf9, wr9, nw9, F9, N9, ?_, ?_⟩
  · rintro i vals ⟨x, y, h1, h2, rfl⟩
    exact ⟨x, y, rfl, by simpa using h1, by simpa using h2⟩
  · rintro i vx vy' C oC D acc m₂ h tk nw E' hin ⟨h1, h2⟩ hC ha hb F₂ N₂ hsub
    obtain ⟨hip, t1, rfl⟩ := ups_item hvr h1
    obtain ⟨hiq, t2, rfl⟩ := ups_item hvy h2
    have hqi : cf q i ≠ 0#8 := hqz i hiq
    have hcell := hsub _ (List.Mem.head _)
    k_steps
    · k_asm
    · k_asm
    · show Value.int (up (cf p' i ^^^ exI ((lg (cf q i) : Int) + ratioOf p' q))) _ = _
      rw [exI_add _ hqi]
  · rintro D ys h tk F₂ N₂ lt₂ hl₂ hr₂
    rw [hmin] at hl₂
    have hys := ups_of hl₂ hr₂
    have hl8 : (tab q.length fun i => cf p' i ^^^ mul (cf q i) (exI (ratioOf p' q))).length = q.length := tab_length _ _
    generalize hT : (tab q.length fun i => cf p' i ^^^ mul (cf q i) (exI (ratioOf p' q))) = tb at hys hl8
    have hl64 : tb.length ≤ 64 := by omega
    have hl0 : 0 < tb.length := by omega
    show wpAny _ _ (execs _ _) _ _ _
    have hvr64 : vr.length ≤ 64 := by omega
    have hdl : (p'.drop q.length).length = p'.length - q.length := List.length_drop ..
    have e : tb ++ p'.drop q.length = subRow p' q (exI (ratioOf p' q)) q.length := by
      refine list_ext (by rw [List.length_append, hdl, subRow_length]; omega) fun j hj => ?_
      rw [List.length_append, hdl] at hj
      rw [cf_append, hl8, cf_subRow _ _ _ _ _ (by omega), cf_drop]
      by_cases h : j < q.length
      · rw [if_pos h, if_pos h, ← hT, cf_tab, if_pos h]
      · rw [if_neg h, if_neg h, BitVec.xor_zero]
        exact congrArg _ (by omega)
    have hs0 : cf (subRow p' q (exI (ratioOf p' q)) q.length) 0 = 0#8 := subRow_head _ _ hp00 hq00 (by omega) (by omega)
    have hsrl : (subRow p' q (exI (ratioOf p' q)) q.length).length = p'.length := subRow_length _ _ _ _
    generalize hSR : subRow p' q (exI (ratioOf p' q)) q.length = sr at e hs0 hsrl
    have hs1 : 1 < sr.length := by omega
    have hs64 : sr.length ≤ 64 := by omega
    have hsn : sr.length ≤ n₀ := by omega
    have hsp : 0 < sr.length := by omega
    have hyl' := hyl
    clear hr₂ hT hyl hvl
    k_steps
    · rename Strip _ _ => st9
      rename IntsAre _ (List.map up _) => i8
      rename ModR _ _ _ => md8
      rename ¬ (1 < List.length _ ∧ cf _ 0 = 0#8) => nz8
      rename (List.length _ ≤ List.length _) => le8
      rename (0 < List.length _) => z8
      dsimp only [W.CmpBack]
      k_steps
      rename Fr h₀ _ _ _ => kF
      rename News h₀ _ _ _ => kN
      rename (∀ p : Addr × Obj, p ∈ (_ :: _ :: _ :: _) → p.1 < _) => l8
      have ltk8 := fun p (hp : p ∈ news) => l8 p (.tail _ (.tail _ (.tail _ (.tail _ (.tail _ (.tail _ (.tail _ hp)))))))
      have hsl := strip_len st9
      refine hret1 ?pw0 _ _ _ _ _ _ _ _ _ _ _ kF (news_t10 kN) ?lw0 ?aw0 ?bw0 i8 (ModR.step ?o1w0 (hSR ▸ st9) ?cw0 md8) z8 ?o2w0 nz8
      case lw0 => exact ltk8
      case o1w0 => omega
      case o2w0 => omega
      case pw0 => omega
      case aw0 => assumption
      case bw0 => assumption
      case cw0 => assumption
    · rename Strip _ _ => st9
      rename IntsAre _ (List.map up _) => i9
      rename ¬ (1 < List.length _ ∧ cf _ 0 = 0#8) => nz9
      rename (List.length _ < q.length) => ha9
      dsimp only [W.CmpBack]
      k_steps
      rename Fr h₀ _ _ _ => kF
      rename News h₀ _ _ _ => kN
      rename (∀ p : Addr × Obj, p ∈ (_ :: _ :: _ :: _ :: news) → p.1 < _) => l8
      have ltk8 := fun p (hp : p ∈ news) => l8 p (.tail _ (.tail _ (.tail _ (.tail _ hp))))
      have hsl := strip_len st9
      refine hret1 ?pw1 _ _ _ _ _ _ _ _ _ _ _ kF (news_t7 kN) ?lw1 ?aw1 ?bw1 i9 (ModR.step ?o1w1 (hSR ▸ st9) nz9 (.base ha9)) (strip_pos st9 ?o2w1) ?o3w1 nz9
      case lw1 => exact ltk8
      case o1w1 => omega
      case o2w1 => omega
      case o3w1 => omega
      case pw1 => omega
      case aw1 => assumption
      case bw1 => assumption
theorem mod_step (n₀ : Nat) (IH : ∀ n₁, n₁ < n₀ → ModTells prog w p loose mean mg mb n₁) : ModTells prog w p loose mean mg mb n₀ := by
  intro dp un gd cn cs a ccd cl outer A₀ base h₀ L m news s Q E x dx r y dy ry vr vy q p' k n ky ny hsh hsy tk ty
  rcases Nat.lt_trichotomy p'.length q.length with h | h | h
  · exact mod_lt n₀ IH dp un gd cn cs a ccd cl outer A₀ base h₀ L m news s Q E x dx r y dy ry vr vy q p' k n ky ny hsh hsy tk ty h
  · exact mod_eq n₀ IH dp un gd cn cs a ccd cl outer A₀ base h₀ L m news s Q E x dx r y dy ry vr vy q p' k n ky ny hsh hsy tk ty h
  · exact mod_gt n₀ IH dp un gd cn cs a ccd cl outer A₀ base h₀ L m news s Q E x dx r y dy ry vr vy q p' k n ky ny hsh hsy tk ty h
theorem mod_all : ∀ n₀, ModTells prog w p loose mean mg mb n₀ := fun n₀ => by
  induction n₀ using Nat.strongRecOn with
  | _ n ih => exact mod_step n ih
theorem mod_call {dp un : Nat} {gd : Option (List Code)} {cn : Str} {cs : Scope} {a : Addr} {ccd : Value} {cl : List (Str × Addr)} {outer : List Env} {A₀ : Around} {base h₀ : Heap} {L : Addr} {m : Str → Option Value} {news : List (Addr × Obj)} {s : Shared} {Q E : Value → Shared → Prop}
    {x dx r y dy ry : Addr} {vr vy : List Value} {q p' : List F} {k n ky ny : Nat} {hsh hsy : Int} {tk ty : Tok}
  (hx : (x, instObj 80 dx) ∈ news) (hdx : (dx, dictOf [⟨hsh, .str "num" tk, .ref r⟩] n) ∈ news) (hr : (r, listOf (List.toArray vr) k) ∈ news) (hvr : IntsAre vr (List.map up p')) (hn64 : p'.length ≤ 64) (hp0 : 0 < p'.length) (hpz : ¬ (1 < p'.length ∧ cf p' 0 = 0#8))
  (hy : (y, instObj 80 dy) ∈ news) (hdy : (dy, dictOf [⟨hsy, .str "num" ty, .ref ry⟩] ny) ∈ news) (hry : (ry, listOf (List.toArray vy) ky) ∈ news) (hvy : IntsAre vy (List.map up q)) (hq : q.length ≤ 64) (hq0 : 1 < q.length) (hqz : ∀ j, j < q.length → cf q j ≠ 0#8)
  (B : Below A₀ base outer h₀) (F : Fr h₀ L s.heap m) (X : (hd.heap_39 w.params).In h₀) (N : News h₀ L s.heap news) (T : Top p loose mean mg mb h₀) (hk : cs.kind = .function) (hd1 : dp + 8 + 2 * p'.length < recursionLimit) (hu : un + 64 + 16 * p'.length < cLine)
  (hret : ∀ x' dx' r' vr' k' hsh' tk' n' res news' h' tk'', Fr h₀ L h' m → News h₀ L h' news' → (∀ p ∈ news, p ∈ news') → (x', instObj 80 dx') ∈ news' → (dx', dictOf [⟨hsh', .str "num" tk', .ref r'⟩] n') ∈ news' → (r', listOf (List.toArray vr') k') ∈ news' →
     ((x' = x ∧ dx' = dx ∧ r' = r) ∨ ((∀ p ∈ news, p.1 ≠ x') ∧ (∀ p ∈ news, p.1 ≠ dx') ∧ (∀ p ∈ news, p.1 ≠ r'))) → IntsAre vr' (List.map up res) → ModR q p' res → 0 < res.length → res.length ≤ p'.length → ¬ (1 < res.length ∧ cf res 0 = 0#8) → Q (.ref x') { s with heap := h', toks := tk'' }) :
  wpAny (model prog w) (ktrTop dp un gd cn cs L a ccd cl outer) (call (.ref 77) [.ref x, .ref y]) Q E s := by
  refine mod_all p'.length dp un gd cn cs a ccd cl outer A₀ base h₀ L m news s Q E x dx r y dy ry vr vy q p' k n ky ny hsh hsy tk ty hx hdx hr hvr (Nat.le_refl _) hn64 hp0 hpz hy hdy hry hvy hq hq0 hqz B F X N T hk hd1 hu ?_ ?_
  · intro hlt h' tk' F' N'
    exact hret x dx r vr k hsh tk n p' news h' tk' F' N' (fun _ hp => hp) hx hdx hr (.inl ⟨rfl, rfl, rfl⟩) hvr (.base hlt) hp0 (Nat.le_refl _) hpz
  · intro hle x' dx' r' vr' k' hsh' tk' n' res h' tk'' F' N' l1 l2 l3 i1 md z1 le1 nz1
    refine hret x' dx' r' vr' k' hsh' tk' n' res _ h' tk'' F' N' (fun p hp => .tail _ (.tail _ (.tail _ hp))) (.head _) (.tail _ (.head _)) (.tail _ (.tail _ (.head _))) (.inr ⟨fun p hp => ?_, fun p hp => ?_, fun p hp => ?_⟩) i1 md z1 le1 nz1
    · exact Nat.ne_of_lt (Nat.lt_trans (l1 p hp) l2)
    · exact Nat.ne_of_lt (l1 p hp)
    · exact Nat.ne_of_lt (Nat.lt_trans (Nat.lt_trans (l1 p hp) l2) l3)
end
end Mine
end

-- part W6c
section
open PySem PySem.W PyProof.Rows PySem.Spec PySem.Calls
set_option maxRecDepth 100000
set_option maxHeartbeats 8000000
namespace Mine
theorem fill_it6c : (fun (_ : OpenLaw) => hd.heap_39 = hd.heap_39) PySem.Challenge.rw_ae6025_01 := by k_fill; rfl

theorem items_eq {vs : List Value} {acc : Array Value} (h : ItemsOf (fun i v => vs.toArray[i]? = some v) acc vs.toArray.size) : acc = vs.toArray := by
  refine Array.ext (h.1) fun i h1 h2 => ?_
  have := h.2 i acc[i] (by simp [h1])
  dsimp only at this
  rw [Array.getElem?_eq_getElem h2] at this
  exact (Option.some.inj this).symm

section
variable {prog : Program} {w : World} {p : Program} {loose : List Str} {mean : ExcName → Option Value} {mg mb : Str → Option Value} {dp un : Nat} {gd : Option (List Code)} {cn : Str} {cs : Scope} {a : Addr} {ccd : Value} {cl : List (Str × Addr)} {outer : List Env} {A₀ : Around} {base h₀ : Heap} {L : Addr} {m : Str → Option Value} {news : List (Addr × Obj)} {s : Shared} {Q E : Value → Shared → Prop}
local macro_rules | `(tactic| walk_at "call ref") => `(tactic| (k_here; (with_reducible show wpAny _ _ (call (Value.ref _) _) _ _ _); refine wpAny_call ?_; k_dflt (refine' code_def ?k1 ?k2 ?k3 ?k4 ?k5 ?kA ?kF ?kK ?k6 ?k7 ?k8 ?k9 ?kB ?_ ?c2 ?c3 ?c4 ?c5; (case kA => exact rfl); (case kF => exact rfl); (case kK => first | exact rfl | assumption); (case k1 => k_asm); (case k2 => k_asm); (case k3 => k_asm); (case k4 => k_asm); (case k5 => k_asm); (case k6 => k_is); (case k7 => k_is); (case k8 => ktr_room); (case k9 => exact BindsTo.of_eq rfl); (case c5 => decide); (case kB => exact locs rfl); (case c2 => exact rfl); (case c3 => exact rfl); (case c4 => exact rfl); k_whole; intro g' L' h' FG' F' N' B' X' T'; (try dsimp only); (try k_lift B'); (try k_fold))))
local macro_rules | `(tactic| walk_at "subscriptTail") => `(tactic| (k_here; (with_reducible show wpAny _ _ (subscriptTail _ _ (Value.ref 15) (Value.int (Int.fmod _ 255) _)) _ _ _); k_dflt (refine' exp_item ?F ?X ?_; (case F => k_asm); (case X => k_asm); k_whole); intro t9))
local macro_rules | `(tactic| walk_at "subscriptTail") => `(tactic| (k_here; (with_reducible show wpAny _ _ (subscriptTail _ _ (Value.ref 16) (Value.int (up _) _)) _ _ _); k_dflt (refine' log_item ?F ?X ?b ?_; (case F => k_asm); (case X => k_asm); (case b => assumption); k_whole); intro t9))
local macro_rules | `(tactic| walk_at "getItem ref int") => `(tactic| (k_here; (with_reducible show wpAny _ _ (getItem (Value.ref _) (Value.int _ _)) _ _ _); k_dflt (refine' up_get ?k1 ?k2 ?k3 ?k4 ?k5 ?k6 ?_; (case k1 => k_asm); (case k2 => k_mem); (case k3 => with_reducible assumption); (case k4 => first | exact (rfl : (0:Int) = ((0:Nat):Int)) | exact (rfl : ((_:Nat):Int) = ((_:Nat):Int)) | exact (Int.natCast_succ _).symm); (case k5 => ksa_idx); (case k6 => ksa_idx); k_whole); intro t9))
local macro_rules | `(tactic| walk_at "subscriptTail") => `(tactic| (k_here; (with_reducible show wpAny _ _ (subscriptTail _ _ (Value.ref _) (Value.int _ _)) _ _ _); k_dflt (refine' up_sub ?k1 ?k2 ?k3 ?k4 ?k5 ?k6 ?_ ?k7; (case k1 => k_asm); (case k2 => k_mem); (case k3 => with_reducible assumption); (case k4 => first | exact (rfl : (0:Int) = ((0:Nat):Int)) | exact (rfl : ((_:Nat):Int) = ((_:Nat):Int)) | exact (Int.natCast_succ _).symm); (case k5 => ksa_idx); (case k6 => ksa_idx); (case k7 => with_unfolding_all rfl); k_whole); intro t9))
local macro_rules | `(tactic| walk_at "subscriptTail Name Constant ref int") => `(tactic| (k_here; (with_reducible show wpAny _ _ (subscriptTail _ _ (Value.ref _) (Value.int _ _)) _ _ _); k_dflt (refine' up_sub ?k1 ?k2 ?k3 ?k4 ?k5 ?k6 ?_ ?k7; (case k1 => k_asm); (case k2 => k_mem); (case k3 => with_reducible assumption); (case k4 => first | exact (rfl : (0:Int) = ((0:Nat):Int)) | exact (rfl : ((_:Nat):Int) = ((_:Nat):Int)) | exact (Int.natCast_succ _).symm); (case k5 => ksa_idx); (case k6 => ksa_idx); (case k7 => with_unfolding_all rfl); k_whole); intro t9))
local macro_rules | `(tactic| walk_at "subscriptTail Name Name ref int") => `(tactic| (k_here; (with_reducible show wpAny _ _ (subscriptTail _ _ (Value.ref _) (Value.int _ _)) _ _ _); k_dflt (refine' up_sub ?k1 ?k2 ?k3 ?k4 ?k5 ?k6 ?_ ?k7; (case k1 => k_asm); (case k2 => k_mem); (case k3 => with_reducible assumption); (case k4 => first | exact (rfl : (0:Int) = ((0:Nat):Int)) | exact (rfl : ((_:Nat):Int) = ((_:Nat):Int)) | exact (Int.natCast_succ _).symm); (case k5 => ksa_idx); (case k6 => ksa_idx); (case k7 => with_unfolding_all rfl); k_whole); intro t9))
local macro_rules | `(tactic| walk_at "subscriptTail Name BinOp ref int") => `(tactic| (k_here; (with_reducible show wpAny _ _ (subscriptTail _ _ (Value.ref _) (Value.int _ _)) _ _ _); k_dflt (refine' up_sub ?k1 ?k2 ?k3 ?k4 ?k5 ?k6 ?_ ?k7; (case k1 => k_asm); (case k2 => k_mem); (case k3 => with_reducible assumption); (case k4 => first | exact (rfl : (0:Int) = ((0:Nat):Int)) | exact (rfl : ((_:Nat):Int) = ((_:Nat):Int)) | exact (Int.natCast_succ _).symm); (case k5 => ksa_idx); (case k6 => ksa_idx); (case k7 => with_unfolding_all rfl); k_whole); intro t9))
local macro_rules | `(tactic| walk_at "setItem ref int") => `(tactic| (k_here; (with_reducible show wpAny _ _ (setItem (Value.ref _) (Value.int _ _) (Value.int (up _) _)) _ _ _); k_dflt (refine' up_set ?k1 ?k2 ?k3 ?k4 ?k5 ?k6 ?k7 ?_; (case k1 => k_asm); (case k2 => k_asm); (case k3 => k_upd); (case k4 => with_reducible assumption); (case k5 => first | exact (rfl : (0:Int) = ((0:Nat):Int)) | exact (rfl : ((_:Nat):Int) = ((_:Nat):Int)) | exact (Int.natCast_succ _).symm); (case k6 => ksa_idx); (case k7 => ksa_idx); k_whole); intro h' F' N' hi'; (try k_sweep)))
local macro_rules | `(tactic| walk_at "binaryOp BitXor int int") => `(tactic| ((with_reducible show wpAny _ _ (binaryOp _ (Value.int (up _) _) (Value.int (up _) _)) _ _ _); refine xor_up ?_))
local macro_rules | `(tactic| walk_at "inplaceOp BitXor int int") => `(tactic| ((with_reducible show wpAny _ _ (inplaceOp _ (Value.int (up _) _) (Value.int (up _) _)) _ _ _); refine ixor_up ?_))
local macro_rules | `(tactic| walk_at "call ref") => `(tactic| (k_here; (with_reducible show wpAny _ _ (call (Value.ref 30) [Value.int _ _]) _ _ _); k_dflt (refine' gexp_call ?k1 ?k2 ?k3 ?k4 ?k5 ?kK ?kd ?ku ?_; (case k1 => k_asm); (case k2 => k_asm); (case k3 => k_asm); (case k4 => k_asm); (case k5 => k_asm); (case kK => first | exact rfl | assumption); (case kd => ktr_room); (case ku => ktr_units); intro t9 h9 tk9 F9 N9; (try dsimp only); (try k_sweep); (try k_fold))))
local macro_rules | `(tactic| walk_at "call ref") => `(tactic| (k_here; (with_reducible show wpAny _ _ (call (Value.ref 23) [Value.int (up _) _]) _ _ _); k_dflt (refine' glog_call ?kb ?k1 ?k2 ?k3 ?k4 ?k5 ?kK ?kd ?ku ?_; (case kb => first | assumption | (refine up_ne ?_; assumption)); (case k1 => k_asm); (case k2 => k_asm); (case k3 => k_asm); (case k4 => k_asm); (case k5 => k_asm); (case kK => first | exact rfl | assumption); (case kd => ktr_room); (case ku => ktr_units); intro t9 h9 tk9 F9 N9; (try dsimp only); (try k_sweep); (try k_fold))))
local macro_rules | `(tactic| k_all) => `(tactic| exact Off.head (by assumption))
local macro_rules | `(tactic| k_mem) => `(tactic| ((repeat' (first | exact List.Mem.head _ | refine List.mem_cons_of_mem _ ?_ | assumption)); done))
local macro_rules | `(tactic| walk_at "exec For Name Call cons nil") => `(tactic| (k_here; k_dflt (refine' For_stop ?F ?a ?b ?_; (case F => k_asm); (case a => exact rfl); (case b => exact rfl); k_whole)))
local macro_rules | `(tactic| walk_at "exec For Name Name cons nil") => `(tactic| (k_here; k_dflt (refine' For_stop ?F ?a ?b ?_; (case F => k_asm); (case a => exact rfl); (case b => exact rfl); k_whole)))
local macro_rules | `(tactic| walk_at "exec While Compare cons nil") => `(tactic| (k_here; refine Stop.out ?_))
local macro_rules | `(tactic| walk_at "exec While BoolOp cons nil") => `(tactic| (k_here; refine Stop.out ?_))
local macro_rules | `(tactic| walk_at "call type:list") => `(tactic| (k_here; (with_reducible show wpAny _ _ (call (Value.type _) [Value.ref _]) _ _ _); k_dflt (refine' up_copy ?k1 ?k2 ?k3 ?k4 ?k5 ?_; (case k1 => k_asm); (case k2 => k_asm); (case k3 => k_mem); (case k4 => with_reducible assumption); (case k5 => assumption); k_whole); intro D' c' h' F' N' l1; (try k_sweep)))
local macro_rules | `(tactic| walk_at "call builtin:len") => `(tactic| (k_here; (with_reducible show wpAny _ _ (call (Value.builtin _) [Value.ref _]) _ _ _); k_dflt (refine' up_len ?k1 ?k2 ?k3 ?k4 ?_; (case k1 => k_asm); (case k2 => k_mem); (case k3 => with_reducible assumption); (case k4 => assumption); k_whole); intro t9 tk9))
local macro_rules | `(tactic| walk_at "truthy ref") => `(tactic| (k_here; (with_reducible show wpAny _ _ (truthy (Value.ref _)) _ _ _); k_dflt (refine' up_true ?k1 ?k2 ?k3 ?k4 ?k5 ?_; (case k1 => k_asm); (case k2 => k_mem); (case k3 => with_reducible assumption); (case k4 => assumption); (case k5 => assumption); k_whole); intro tk9; (try simp only [Bool.not_true, Bool.false_eq_true, if_false, if_true])))
local macro_rules | `(tactic| k_all) => `(tactic| exact lt_all (by assumption))
local macro_rules | `(tactic| walk_at "call builtin:iter") => `(tactic| (k_here; (with_reducible show wpAny _ _ (call (Value.builtin "iter") [Value.ref _]) _ _ _); k_dflt (refine' iter_of_list ?k1 ?k2 ?k3 ?_; (case k1 => k_asm); (case k2 => k_asm); (case k3 => k_mem); k_whole); intro i9 h9 F9 N9 l9; (try k_sweep)))
local macro_rules | `(tactic| walk_at "call ref") => `(tactic| (k_here; (with_reducible show wpAny _ _ (call (Value.ref 80) [Value.ref _, Value.int 0 _]) _ _ _); k_dflt (refine' poly_call ?kl ?ki ?kq ?kq0 ?k1 ?k2 ?k3 ?k4 ?k5 ?kK ?kd ?ku ?_; (case k1 => k_asm); (case k2 => k_asm); (case k3 => k_asm); (case k4 => k_asm); (case k5 => k_asm); (case kl => k_mem); (case ki => with_reducible assumption); (case kq => assumption); (case kq0 => assumption); (case kK => first | exact rfl | assumption); (case kd => ktr_room); (case ku => ktr_units); intro x9 dx9 r9 vr9 k9 hsh9 tk9 n9 res9 h9 tk9' F9 N9 l9 l9' l9'' i9 st9 nz9; (try dsimp only); (try k_fold))))
local macro_rules | `(tactic| walk_at "call type:zip") => `(tactic| (k_here; (with_reducible show wpAny _ _ (call (Value.type _) [Value.ref _, Value.ref _]) _ _ _); k_dflt (refine' zip_polys ?h1 ?h2 ?h3 ?h4 ?h5 ?h6 ?k1 ?k2 ?k3 ?k4 ?k5 ?kK ?kd ?ku ?_; (case k1 => k_asm); (case k2 => k_asm); (case k3 => k_asm); (case k4 => k_asm); (case k5 => k_asm); (case h1 => k_mem); (case h2 => k_mem); (case h3 => k_mem); (case h4 => k_mem); (case h5 => k_mem); (case h6 => k_mem); (case kK => first | exact rfl | assumption); (case kd => ktr_room); (case ku => ktr_units); intro z9 TI9 TO9 i91 i92 h9 tk9 D9 st9 fp9 Lf9 wr9 nw9 F9 N9; (try dsimp only); (try k_sweep))))
local macro_rules | `(tactic| walk_at "subscriptTail Name Slice ref ref") => `(tactic| (k_here; (with_reducible show wpAny _ _ (subscriptTail _ (PySem.Expr.Slice _ _ none _) (Value.ref _) (Value.ref _)) _ _ _); k_dflt (refine' sub_slice_own ?F ?N ?X ?h1 ?h2 ?hq ?hs ?hf ?hn ?_; (case F => k_asm); (case N => k_asm); (case X => k_asm); (case h1 => k_mem); (case h2 => k_mem); (case hq => k_is); (case hs => k_is); (case hf => k_is); (case hn => k_is); k_whole); intro sl9 h9 F9 N9 l9; (try k_lt l9); (try dsimp only); (try k_sweep)))
local macro_rules | `(tactic| walk_at "subscriptTail") => `(tactic| (k_here; (with_reducible show wpAny _ _ (subscriptTail _ (PySem.Expr.Name _ _) (Value.ref _) (Value.ref _)) _ _ _); k_dflt (refine' list_slice_obj ?F ?N ?h1 ?h2 ?p ?q ?m ?z ?_; (case F => k_asm); (case N => k_asm); (case h1 => k_mem); (case h2 => k_mem); (case p => kmk_part); (case q => kmk_part); (case m => first | exact kmk_from_neg (by with_reducible assumption) (by omega) | kmk_nums); (case z => assumption); k_whole); intro D9 ws9 h9 F9 N9 l9 i9; (try k_lt l9); (try dsimp only); (try k_sweep)))
theorem poly_len {x dx r : Addr} {vr : List Value} {q : List F} {k n : Nat} {hsh : Int} {tk : Tok}
  (hx : (x, instObj 80 dx) ∈ news) (hdx : (dx, dictOf [⟨hsh, .str "num" tk, .ref r⟩] n) ∈ news) (hr : (r, listOf (List.toArray vr) k) ∈ news) (hi : IntsAre vr (List.map up q)) (hq : q.length ≤ 64)
  (B : Below A₀ base outer h₀) (F : Fr h₀ L s.heap m) (X : (hd.heap_39 w.params).In h₀) (N : News h₀ L s.heap news) (T : Top p loose mean mg mb h₀) (hk : cs.kind = .function) (hd1 : dp + 4 < recursionLimit) (hu : un + 32 < cLine)
   (hret : ∀ t h' tk', Fr h₀ L h' m → News h₀ L h' news → Q (.int (q.length : Int) t) {s with heap := h', toks := tk'}) : wpAny (model prog w) (ktrTop dp un gd cn cs L a ccd cl outer) (call (.builtin "len") [.ref x]) Q E s := by
  w_top off
  refine len_K (f := 65) F X (InstAt.of_news N hx hdx) (by k_is) (by k_is) ?_
  refine wpAny_call ?_
  k_dflt cell_enter
  k_steps
  rename Fr h₀ _ _ _ => F'
  rename News h₀ _ _ _ => N'
  exact hret _ _ _ F' N'

theorem list_poly {x dx r : Addr} {vr : List Value} {q : List F} {k n : Nat} {hsh : Int} {tk : Tok}
  (hx : (x, instObj 80 dx) ∈ news) (hdx : (dx, dictOf [⟨hsh, .str "num" tk, .ref r⟩] n) ∈ news) (hr : (r, listOf (List.toArray vr) k) ∈ news) (hi : IntsAre vr (List.map up q)) (hq : q.length ≤ 64)
  (B : Below A₀ base outer h₀) (F : Fr h₀ L s.heap m) (X : (hd.heap_39 w.params).In h₀) (N : News h₀ L s.heap news) (T : Top p loose mean mg mb h₀) (hk : cs.kind = .function) (hd1 : dp + 4 < recursionLimit) (hu : un + 40 < cLine)
   (hret : ∀ S c h' tk', Fr h₀ L h' m → News h₀ L h' ((S, listOf (List.toArray vr) c) :: news) → (∀ p ∈ news, p.1 < S) → Q (.ref S) {s with heap := h', toks := tk'}) : wpAny (model prog w) (ktrTop dp un gd cn cs L a ccd cl outer) (call (.type "list") [.ref x]) Q E s := by
  have hh : (ktrTop dp un gd cn cs L a ccd cl outer).handled = none := rfl
  have hvl : vr.length = q.length := by have := hi.length; rw [List.length_map] at this; exact this
  refine callType_codes (Q₁ := fun obj s₁ => obj = .ref s.heap.objs.size ∧ s₁ = { s with heap := s.heap.push { cls := .type "list", data := .seq #[] } }) PySem.F.called_list (PySem.F.typeCall_list_1 _) PySem.F.entry_list_init
    (code_list_new _ ⟨rfl, rfl⟩) fun obj s₁ h₁ => ?_
  obtain ⟨rfl, rfl⟩ := h₁
  have hS : (s.heap.push { cls := .type "list", data := .seq #[] }).get? s.heap.objs.size = some { cls := .type "list", data := .seq #[] } := Heap.get?_push_size _ rfl
  have lts : ∀ p ∈ news, p.1 < s.heap.objs.size := fun p hp => Heap.lt_size (N p hp).1
  have hSL : s.heap.objs.size ≠ L := Ne.symm (Nat.ne_of_lt F.ns.lt)
  have F₁ := F.push { cls := .type "list", data := .seq #[] }
  have N₁ := News.push F N { cls := .type "list", data := .seq #[] } rfl
  generalize s.heap.objs.size = S at *
  generalize s.heap.push { cls := .type "list", data := .seq #[] } = h₁ at *
  refine ⟨⟨_, hS, rfl⟩, PySem.F.args_list_init_2 _ _, ?_⟩
  show wpAny _ _ (do let old ← Builtin.List.listItems (.ref S); Builtin.List.listUpdate (.ref S) (fun _ => #[]); letGo old.toList.reverse; Builtin.List.listExtendWith (.ref S) (.ref x) .none) _ _ _
  refine wpAny_bind ?_
  unfold Builtin.List.listItems
  refine wpAny_bind (wpAny_seqItems hS rfl (wpAny_pure ?_))
  show wpAny _ _ (updateSeq S (fun _ => #[]) >>= fun _ => letGo (#[] : Array Value).toList.reverse >>= fun _ => Builtin.List.listExtendWith (.ref S) (.ref x) .none) _ _ _
  refine wpAny_bind (wpAny_updateSeq hS rfl ?_)
  have hS₂ := Heap.get?_update_self (Obj.mapSeq (fun _ => (#[] : Array Value))) hS rfl
  have oth : ∀ b o, b ≠ S → h₁.get? b = some o → (h₁.update S (Obj.mapSeq (fun _ => (#[] : Array Value)))).get? b = some o :=
    fun b o hb e => (Heap.get?_update_other _ _ (Ne.symm hb)).trans e
  refine wpAny_bind (wpAny_letGo ?_)
  have hSx : S ≠ x := fun e => absurd (lts _ hx) (by rw [e]; exact Nat.lt_irrefl _)
  have hSdx : S ≠ dx := fun e => absurd (lts _ hdx) (by rw [e]; exact Nat.lt_irrefl _)
  have ne_of (p : Addr × Obj) (hp : p ∈ news) : p.1 ≠ S := Nat.ne_of_lt (lts p hp)
  have hS₀ : h₀.get? S = none := (N₁ _ (.head _)).2.2
  have F₂ : Fr h₀ L (h₁.update S (Obj.mapSeq (fun _ => (#[] : Array Value)))) m := ⟨F₁.ns.at' fun o e => oth L o (Ne.symm hSL) e, fun b o e => oth b o (fun hb => by rw [hb, hS₀] at e; cases e) (F₁.keep b o e), F₁.above⟩
  have N₂ : News h₀ L (h₁.update S (Obj.mapSeq (fun _ => (#[] : Array Value)))) ((S, Obj.mapSeq (fun _ => (#[] : Array Value)) { cls := .type "list", data := .seq #[] }) :: news) := fun p hp => by
    rcases List.mem_cons.1 hp with rfl | hp
    · exact ⟨hS₂, (N₁ _ (.head _)).2⟩
    · exact ⟨oth _ _ (ne_of p hp) (N₁ _ (.tail _ hp)).1, (N₁ _ (.tail _ hp)).2⟩
  clear F₁ N₁ hS oth hS₂
  generalize h₁.update S (Obj.mapSeq (fun _ => (#[] : Array Value))) = h₂ at *
  unfold Builtin.List.listExtendWith
  have I₂ := InstAt.of_news N₂ (.tail _ hx) (.tail _ hdx)
  refine wpAny_bind (I₂.type.here ?_)
  have h1 : Builtin.List.listSameRef (.ref S) (.ref x) = false := by simp [Builtin.List.listSameRef, hSx]
  have h2 : (Value.ref 80 == Value.type "list") = false := by decide
  have h3 : (Value.ref 80 == Value.type "tuple") = false := by decide
  simp only [h1, h2, h3, Bool.or_false, Bool.false_eq_true, if_false]
  refine wpAny_bind (poly_iter (un := un + 2) (.tail _ hx) (.tail _ hdx) (.tail _ hr) B F₂ X N₂ T hk (by omega) (by omega) fun i h₃ tk₃ F₃ N₃ l₃ => ?_)
  refine wpAny_bind (wpAny_holding ?_)
  have I₃ := InstAt.of_news N₃ (.tail _ (.tail _ hx)) (.tail _ (.tail _ hdx))
  have X₃ := X.keeps F₃.keep
  unfold Builtin.List.listLengthHint
  refine wpAny_bind (wpAny_bind (I₃.type.here ((looks_findIn (r := some (.ref 65)) X₃ (by k_is)).here ?_)))
  dsimp only [pure_bind, Option.isSome]
  show wpAny _ _ (rule "list.length-hint.len" >>= _) _ _ _
  refine wpAny_bind (wpAny_rule ?_)
  refine wpAny_bind (wpAny_attempt (poly_len (un := un + 2) (.tail _ (.tail _ hx)) (.tail _ (.tail _ hdx)) (.tail _ (.tail _ hr)) hi hq B F₃ X N₃ T hk (by omega) (by omega) fun t h₄ tk₄ F₄ N₄ => ?_))
  have htl : Builtin.List.listTooLong ((q.length : Int).toNat) = false := by simp [Builtin.List.listTooLong, sizeLine]; omega
  refine wpAny_bind (m := asInt? _) (wpAny_pure ?_)
  refine wpAny_ite_split (fun hab => absurd hab (by rw [htl]; decide)) (fun _ => wpAny_pure ?_)
  clear F₂ N₂ F₃ N₃ I₂ I₃ X₃
  have hiS : i ≠ S := Nat.ne_of_gt (l₃ _ (.head _))
  have lti : ∀ p ∈ news, p.1 < i := fun p hp => l₃ p (.tail _ hp)
  have hiL : i ≠ L := (N₄ _ (.head _)).2.1
  have hi₀ : h₀.get? i = none := (N₄ _ (.head _)).2.2
  have hrS : r ≠ S := ne_of _ hr
  have hri : r ≠ i := Nat.ne_of_lt (lti _ hr)
  have W := (Walks.list (prog := prog) (w := w) (A := (ktrTop dp un gd cn cs L a ccd cl outer).in1.in1) hh i r hri vr.toArray).toS
  have hSf : S ∉ [i, r] := by simp; exact ⟨Ne.symm hiS, Ne.symm hrS⟩
  have key : ∀ (h : Heap) (c₁ tk : Nat), Fr h₀ L h m → News h₀ L h ((i, itObj r 0) :: (S, { cls := .type "list", dict := none, data := .seq #[] c₁, slots := #[] }) :: news) →
      codeAny (model prog w) (ktrTop dp un gd cn cs L a ccd cl outer).in1 (.builtin "list.extend.loop" ⟨[.ref S, .ref i, .none], []⟩) (wants (fun r s₂ => r = .none ∧ Q (.ref S) s₂) E) { s with heap := h, toks := tk } := by
    intro h c₁ tk F' N'
    refine codeAny_extend_loopS W (by rw [List.size_toArray, sizeLine_eq]; omega) S hSf .none _ 0 _ #[] c₁ rfl (Nat.zero_le _) ⟨⟨_, (N' _ (.head _)).1, rfl, rfl⟩, ⟨_, (N' _ (.tail _ (.tail _ hr))).1, rfl, _, rfl⟩⟩ (N' _ (.tail _ (.head _))).1 (ItemsOf.nil _) fun s' acc' c' hm hS' hacc => ?_
    rw [Moved.eq_with hm]
    have e := items_eq hacc
    subst e
    have kp : ∀ b o, b ≠ S → b ≠ i → h.get? b = some o → s'.heap.get? b = some o := fun b o h1 h2 e => hm.heap b o (by simp; exact ⟨h1, h2⟩) e
    refine ⟨rfl, hret S c' s'.heap s'.toks ⟨F'.ns.at' fun o e => kp L o (Ne.symm hSL) (Ne.symm hiL) e, fun b o e => kp b o (fun hb => by rw [hb, hS₀] at e; cases e) (fun hb => by rw [hb, hi₀] at e; cases e) (F'.keep b o e), F'.above⟩ (fun p hp => ?_) lts⟩
    rcases List.mem_cons.1 hp with rfl | hp
    · exact ⟨hS', (N' _ (.tail _ (.head _))).2⟩
    · exact ⟨kp _ _ (ne_of p hp) (Nat.ne_of_lt (lti p hp)) (N' _ (.tail _ (.tail _ hp))).1, (N' _ (.tail _ (.tail _ hp))).2⟩
  refine wpAny_ite_split (fun _ => ?_) (fun _ => wpAny_pure ⟨plainId_quiet PySem.F.plain_extend_loop _, key _ _ _ F₄ N₄⟩)
  refine wpAny_bind (wpAny_rule ?_)
  refine wpAny_bind ?_
  show wpAny _ _ (updateSeq S (·.push .none) >>= fun _ => updateSeq S (·.pop)) _ _ _
  have g1 := (N₄ _ (.tail _ (.head _))).1
  refine wpAny_bind (wpAny_updateSeq g1 rfl ?_)
  have g2 := Heap.get?_update_self (Obj.mapSeq (·.push Value.none)) g1 rfl
  refine wpAny_updateSeq (hz := by seq_fits) g2 rfl ?_
  have g3 := Heap.get?_update_self (Obj.mapSeq (·.pop)) g2 rfl
  have oth : ∀ b o, b ≠ S → h₄.get? b = some o → ((h₄.update S (Obj.mapSeq (·.push Value.none))).update S (Obj.mapSeq (·.pop))).get? b = some o :=
    fun b o hb e => (Heap.get?_update_other _ _ (Ne.symm hb)).trans ((Heap.get?_update_other _ _ (Ne.symm hb)).trans e)
  refine wpAny_pure ⟨plainId_quiet PySem.F.plain_extend_loop _, ?_⟩
  refine' key _ 2 _ ?ff ?nn
  case ff => exact ⟨F₄.ns.at' fun o e => oth L o (Ne.symm hSL) e, fun b o e => oth b o (fun hb => by rw [hb, hS₀] at e; cases e) (F₄.keep b o e), F₄.above⟩
  case nn =>
    have h9 : ∀ p ∈ news, _ := fun p hp => oth _ _ (ne_of p hp) (N₄ _ (.tail _ (.tail _ hp))).1
    have h8 := oth _ _ hiS (N₄ _ (.head _)).1
    refine List.forall_mem_cons.2 ⟨⟨h8, (N₄ _ (.head _)).2⟩, List.forall_mem_cons.2 ⟨⟨g3, (N₄ _ (.tail _ (.head _))).2⟩, fun p hp => ⟨h9 p hp, (N₄ _ (.tail _ (.tail _ hp))).2⟩⟩⟩
end
end Mine
end

-- part M1
section
namespace Mine
abbrev Pol := Nat → F
def zp : Pol := fun _ => 0#8
def padd (A B : Pol) : Pol := fun k => A k ^^^ B k
def psm (c : F) (A : Pol) : Pol := fun k => mul c (A k)
def psh (A : Pol) : Pol := fun k => match k with | 0 => 0#8 | k + 1 => A k
def lin (δ : F) (A : Pol) : Pol := padd (psh A) (psm δ A)
def con (c : F) : Pol := fun k => if k = 0 then c else 0#8
noncomputable def mulL : List F → Pol → Pol
  | [], _ => zp
  | c :: C, B => padd (psm c B) (psh (mulL C B))
def Red (B A r : Pol) : Prop := ∃ C, r = padd A (mulL C B)
def Dg (A : Pol) (n : Nat) : Prop := A n ≠ 0#8 ∧ ∀ k, n < k → A k = 0#8
def Bd (A : Pol) (n : Nat) : Prop := ∀ k, n ≤ k → A k = 0#8
noncomputable def pw (c : F) : Nat → F | 0 => 1#8 | n + 1 => mul c (pw c n)

theorem xcan (a b : F) : (a ^^^ b) ^^^ b = a := by rw [BitVec.xor_assoc, BitVec.xor_self, BitVec.xor_zero]
theorem xzero {a b : F} (h : a ^^^ b = 0#8) : a = b := by
  have := xcan a b; rw [h, BitVec.zero_xor] at this; exact this.symm
theorem padd_comm (A B : Pol) : padd A B = padd B A := funext fun k => BitVec.xor_comm _ _
theorem padd_assoc (A B C : Pol) : padd (padd A B) C = padd A (padd B C) := funext fun k => BitVec.xor_assoc _ _ _
theorem padd_zp (A : Pol) : padd A zp = A := funext fun k => BitVec.xor_zero
theorem zp_padd (A : Pol) : padd zp A = A := funext fun k => BitVec.zero_xor
theorem padd_self (A : Pol) : padd A A = zp := funext fun k => BitVec.xor_self
theorem padd_can (A B : Pol) : padd (padd A B) B = A := by rw [padd_assoc, padd_self, padd_zp]
theorem padd4 (A B C D : Pol) : padd (padd A B) (padd C D) = padd (padd A C) (padd B D) := funext fun k => by
  show (A k ^^^ B k) ^^^ (C k ^^^ D k) = (A k ^^^ C k) ^^^ (B k ^^^ D k)
  ac_rfl
theorem psm_padd (c : F) (A B : Pol) : psm c (padd A B) = padd (psm c A) (psm c B) := funext fun k => mul_xor _ _ _
theorem psm_add (c d : F) (A : Pol) : psm (c ^^^ d) A = padd (psm c A) (psm d A) := funext fun k => xor_mul _ _ _
theorem psm_zp (c : F) : psm c zp = zp := funext fun k => mul_zero _
theorem psm_zero (A : Pol) : psm 0#8 A = zp := funext fun k => zero_mul _
theorem psm_one (A : Pol) : psm 1#8 A = A := funext fun k => one_mul _
theorem psm_psm (c d : F) (A : Pol) : psm c (psm d A) = psm (mul c d) A := funext fun k => (mul_assoc _ _ _).symm
theorem psm_comm (c d : F) (A : Pol) : psm c (psm d A) = psm d (psm c A) := by rw [psm_psm, psm_psm, mul_comm]
theorem psh_padd (A B : Pol) : psh (padd A B) = padd (psh A) (psh B) := funext fun k => by
  cases k with
  | zero => exact BitVec.xor_zero.symm
  | succ k => rfl
theorem psh_zp : psh zp = zp := funext fun k => by cases k <;> rfl
theorem psh_psm (c : F) (A : Pol) : psh (psm c A) = psm c (psh A) := funext fun k => by
  cases k with
  | zero => exact (mul_zero _).symm
  | succ k => rfl
theorem lin_padd (δ : F) (A B : Pol) : lin δ (padd A B) = padd (lin δ A) (lin δ B) := by
  unfold lin; rw [psh_padd, psm_padd, padd4]
theorem lin_zp (δ : F) : lin δ zp = zp := by unfold lin; rw [psh_zp, psm_zp, padd_zp]
theorem lin_psm (δ c : F) (A : Pol) : lin δ (psm c A) = psm c (lin δ A) := by
  unfold lin; rw [psh_psm, psm_comm, psm_padd]
theorem lin_psh (δ : F) (A : Pol) : lin δ (psh A) = psh (lin δ A) := by
  unfold lin; rw [psh_padd, psh_psm]
theorem lin_comm (δ γ : F) (A : Pol) : lin δ (lin γ A) = lin γ (lin δ A) := by
  show padd (psh (lin γ A)) (psm δ (lin γ A)) = lin γ (padd (psh A) (psm δ A))
  rw [lin_padd, lin_psh, lin_psm]
theorem mulL_padd : ∀ (C : List F) (A B : Pol), mulL C (padd A B) = padd (mulL C A) (mulL C B)
  | [], _, _ => (padd_zp _).symm
  | c :: C, A, B => by show padd _ _ = padd (padd _ _) (padd _ _); rw [psm_padd, mulL_padd C, psh_padd, padd4]
theorem mulL_lin (δ : F) : ∀ (C : List F) (A : Pol), mulL C (lin δ A) = lin δ (mulL C A)
  | [], _ => (lin_zp _).symm
  | c :: C, A => by show padd _ _ = lin δ (padd _ _); rw [lin_padd, lin_psm, lin_psh, mulL_lin δ C]
theorem mulL_psh : ∀ (C : List F) (A : Pol), mulL C (psh A) = psh (mulL C A)
  | [], _ => psh_zp.symm
  | c :: C, A => by show padd _ _ = psh (padd _ _); rw [psh_padd, psh_psm, mulL_psh C]
theorem mulL_psm (d : F) : ∀ (C : List F) (A : Pol), mulL C (psm d A) = psm d (mulL C A)
  | [], _ => (psm_zp _).symm
  | c :: C, A => by show padd _ _ = psm d (padd _ _); rw [psm_padd, psm_comm, mulL_psm d C, psh_psm]
noncomputable def addL : List F → List F → List F
  | [], D => D
  | C, [] => C
  | c :: C, d :: D => (c ^^^ d) :: addL C D
theorem mulL_addL : ∀ (C D : List F) (A : Pol), mulL (addL C D) A = padd (mulL C A) (mulL D A)
  | [], D, A => by cases D <;> exact (zp_padd _).symm
  | c :: C, [], A => (padd_zp _).symm
  | c :: C, d :: D, A => by
    show padd (psm (c ^^^ d) A) (psh (mulL (addL C D) A)) = _
    rw [mulL_addL C D A, psm_add, psh_padd, padd4]; rfl
theorem mulL_map (d : F) : ∀ (C : List F) (A : Pol), mulL (C.map (mul d)) A = psm d (mulL C A)
  | [], _ => (psm_zp _).symm
  | c :: C, A => by show padd (psm (mul d c) A) (psh (mulL (C.map (mul d)) A)) = psm d (padd _ _); rw [mulL_map d C, psm_padd, psm_psm, psh_psm]

theorem Red.refl (B A : Pol) : Red B A A := ⟨[], (padd_zp _).symm⟩
theorem Red.symm {B A r : Pol} (h : Red B A r) : Red B r A := by
  obtain ⟨C, rfl⟩ := h; exact ⟨C, (padd_can _ _).symm⟩
theorem Red.trans {B A r t : Pol} (h : Red B A r) (k : Red B r t) : Red B A t := by
  obtain ⟨C, rfl⟩ := h; obtain ⟨D, rfl⟩ := k
  exact ⟨addL C D, by rw [mulL_addL, padd_assoc]⟩
theorem Red.lin {B A r : Pol} (δ : F) (h : Red B A r) : Red (lin δ B) (Mine.lin δ A) (Mine.lin δ r) := by
  obtain ⟨C, rfl⟩ := h; exact ⟨C, by rw [lin_padd, mulL_lin]⟩
theorem Red.psh_add {B A r : Pol} (h : Red B A r) : Red B (psh A) (psh r) := by
  obtain ⟨C, rfl⟩ := h; exact ⟨0#8 :: C, by show _ = padd _ (padd (psm 0#8 B) _); rw [psh_padd, psm_zero, zp_padd]⟩
theorem Red.psm {B A r : Pol} (d : F) (h : Red B A r) : Red B (psm d A) (Mine.psm d r) := by
  obtain ⟨C, rfl⟩ := h; exact ⟨C.map (mul d), by rw [mulL_map, psm_padd]⟩
theorem Red.add {B A r A' r' : Pol} (h : Red B A r) (k : Red B A' r') : Red B (padd A A') (padd r r') := by
  obtain ⟨C, rfl⟩ := h; obtain ⟨D, rfl⟩ := k; exact ⟨addL C D, by rw [mulL_addL, padd4]⟩
/-- the linear multiple reduces too -/
theorem Red.linA {B A r : Pol} (δ : F) (h : Red B A r) : Red B (Mine.lin δ A) (Mine.lin δ r) := (h.psh_add).add (h.psm δ)
theorem Red.scaleB {B A r : Pol} (d : F) (h : Red (Mine.psm d B) A r) : Red B A r := by
  obtain ⟨C, rfl⟩ := h; exact ⟨C.map (mul d), by rw [mulL_map, mulL_psm]⟩
/-- a multiple of (x+δ)B is a multiple of B -/
theorem Red.ofLin {B A r : Pol} {δ : F} (h : Red (Mine.lin δ B) A r) : Red B A r := by
  obtain ⟨C, rfl⟩ := h
  refine ⟨addL (0#8 :: C) (C.map (mul δ)), ?_⟩
  rw [mulL_addL, mulL_map, mulL_lin]
  show _ = padd _ (padd (padd (Mine.psm 0#8 B) (psh (mulL C B))) _)
  rw [psm_zero, zp_padd]; rfl
def mono (c : F) (k : Nat) (B : Pol) : Pol := fun j => if j < k then 0#8 else mul c (B (j - k))
theorem mulL_mono (c : F) (B : Pol) : ∀ k, mulL (List.replicate k 0#8 ++ [c]) B = mono c k B
  | 0 => by
    show padd (psm c B) (psh zp) = _
    rw [psh_zp, padd_zp]; rfl
  | k + 1 => by
    show padd (psm 0#8 B) (psh (mulL (List.replicate k 0#8 ++ [c]) B)) = _
    rw [mulL_mono c B k, psm_zero, zp_padd]
    funext j
    cases j with
    | zero => show 0#8 = if 0 < k + 1 then _ else _; rw [if_pos (by omega)]
    | succ j =>
      show (if j < k then 0#8 else mul c (B (j - k))) = if j + 1 < k + 1 then _ else mul c (B (j + 1 - (k + 1)))
      by_cases h : j < k
      · rw [if_pos h, if_pos (by omega)]
      · rw [if_neg h, if_neg (by omega), Nat.add_sub_add_right]
theorem Red.mono (c : F) (k : Nat) (B A : Pol) : Red B A (padd A (Mine.mono c k B)) := ⟨List.replicate k 0#8 ++ [c], by rw [mulL_mono]⟩

/-! degrees -/
theorem Dg.uniq {A : Pol} {n n' : Nat} (h : Dg A n) (k : Dg A n') : n = n' := by
  rcases Nat.lt_trichotomy n n' with l | l | l
  · exact absurd (h.2 _ l) k.1
  · exact l
  · exact absurd (k.2 _ l) h.1
theorem Dg.bd {A : Pol} {n : Nat} (h : Dg A n) : Bd A (n + 1) := fun k hk => h.2 k hk
theorem Bd.dg {A : Pol} : ∀ {N : Nat}, Bd A N → A = zp ∨ ∃ n, n < N ∧ Dg A n
  | 0, h => Or.inl (funext fun k => h k (Nat.zero_le _))
  | N + 1, h => by
    by_cases e : A N = 0#8
    · have h' : Bd A N := fun k hk => by
        by_cases e2 : k = N
        · rw [e2]; exact e
        · exact h k (by omega)
      rcases h'.dg with h1 | ⟨n, h1, h2⟩
      · exact .inl h1
      · exact .inr ⟨n, by omega, h2⟩
    · exact .inr ⟨N, by omega, e, fun k hk => h k hk⟩
theorem Dg.ne_zp {A : Pol} {n : Nat} (h : Dg A n) : A ≠ zp := fun e => h.1 (by rw [e]; rfl)
theorem Bd.padd {A B : Pol} {N : Nat} (h : Bd A N) (k : Bd B N) : Bd (padd A B) N := fun j hj => by
  show A j ^^^ B j = 0#8; rw [h j hj, k j hj]; rfl
theorem Bd.psh {A : Pol} {N : Nat} (h : Bd A N) : Bd (psh A) (N + 1) := fun j hj => by
  cases j with
  | zero => rfl
  | succ j => exact h j (by omega)
theorem Bd.psm {A : Pol} {N : Nat} (c : F) (h : Bd A N) : Bd (psm c A) N := fun j hj => by
  show mul c (A j) = 0#8; rw [h j hj, mul_zero]
theorem Bd.mono {A : Pol} {N M : Nat} (h : Bd A N) (k : N ≤ M) : Bd A M := fun j hj => h j (by omega)
theorem Bd.lin {A : Pol} {N : Nat} (c : F) (h : Bd A N) : Bd (lin c A) (N + 1) := (h.psh).padd ((h.psm c).mono (by omega))
theorem bd_mulL {B : Pol} {N : Nat} (h : Bd B N) : ∀ C : List F, Bd (mulL C B) (N + C.length)
  | [] => fun _ _ => rfl
  | c :: C => ((h.psm c).mono (by omega)).padd (((bd_mulL h C).psh).mono (by rw [List.length_cons]; omega))
theorem Dg.psm {A : Pol} {n : Nat} {c : F} (h : Dg A n) (hc : c ≠ 0#8) : Dg (psm c A) n := ⟨mul_ne hc h.1, fun k hk => by show mul c (A k) = 0#8; rw [h.2 k hk, mul_zero]⟩
theorem Dg.lin {A : Pol} {n : Nat} (c : F) (h : Dg A n) : Dg (lin c A) (n + 1) := ⟨by
  show A n ^^^ mul c (A (n + 1)) ≠ 0#8
  rw [h.2 (n + 1) (by omega), mul_zero, BitVec.xor_zero]; exact h.1, (h.bd.lin c)⟩
theorem lin_lead {A : Pol} {n : Nat} (c : F) (h : Dg A n) : lin c A (n + 1) = A n := by
  show A n ^^^ mul c (A (n + 1)) = A n
  rw [h.2 (n + 1) (by omega), mul_zero, BitVec.xor_zero]
/-- a multiple of B of lower degree is nought -/
theorem mulL_low {B : Pol} {n : Nat} (h : Dg B n) : ∀ C : List F, Bd (mulL C B) n → mulL C B = zp
  | [], _ => rfl
  | c :: C, hb => by
    have hD : Bd (mulL C B) n := fun k hk => by
      have := hb (k + 1) (by omega)
      have e : mul c (B (k + 1)) ^^^ mulL C B k = 0#8 := this
      rw [h.2 (k + 1) (by omega), mul_zero, BitVec.zero_xor] at e
      exact e
    have hz := mulL_low h C hD
    have e : mul c (B n) ^^^ psh (mulL C B) n = 0#8 := hb n (Nat.le_refl _)
    rw [hz, psh_zp] at e
    have e2 : mul c (B n) = 0#8 := xzero e
    have hc : c = 0#8 := Decidable.byContradiction fun hc => mul_ne hc h.1 e2
    show padd (psm c B) (psh (mulL C B)) = zp
    rw [hz, psh_zp, hc, psm_zero, padd_zp]
theorem red_uniq {B A r r' : Pol} {n : Nat} (h : Dg B n) (h1 : Red B A r) (h2 : Red B A r') (b1 : Bd r n) (b2 : Bd r' n) : r = r' := by
  obtain ⟨C, e⟩ := h1.symm.trans h2
  have e2 : mulL C B = padd r r' := by rw [e, ← padd_assoc, padd_self, zp_padd]
  have := mulL_low h C (by rw [e2]; exact b1.padd b2)
  rw [e, this, padd_zp]
theorem exists_inv {b : F} (h : b ≠ 0#8) : ∃ i, i ≠ 0#8 ∧ mul i b = 1#8 := by
  obtain ⟨n, rfl⟩ := eq_ex h
  refine ⟨ex (254 * n), ex_ne _, ?_⟩
  rw [mul_ex, ← ex_zero]
  exact ex_congr (by omega)
theorem red_exists {B : Pol} {n : Nat} (h : Dg B n) : ∀ (N : Nat) (A : Pol), Bd A (n + N) → ∃ r, Red B A r ∧ Bd r n
  | 0, A, hb => ⟨A, Red.refl _ _, hb⟩
  | N + 1, A, hb => by
    obtain ⟨i, _, hi⟩ := exists_inv h.1
    have hb' : Bd (padd A (mono (mul (A (n + N)) i) N B)) (n + N) := fun k hk => by
      show A k ^^^ (if k < N then 0#8 else mul (mul (A (n + N)) i) (B (k - N))) = 0#8
      rw [if_neg (by omega)]
      by_cases e : k = n + N
      · rw [e, Nat.add_sub_cancel, mul_assoc, hi, mul_one, BitVec.xor_self]
      · rw [hb k (by omega), h.2 (k - N) (by omega), mul_zero, BitVec.xor_zero]
    obtain ⟨r, h1, h2⟩ := red_exists h N _ hb'
    exact ⟨r, (Red.mono _ _ _ _).trans h1, h2⟩

theorem pw_add (c : F) : ∀ m n, mul (pw c m) (pw c n) = pw c (m + n)
  | 0, n => by rw [Nat.zero_add]; exact one_mul _
  | m + 1, n => by rw [Nat.succ_add]; show mul (mul c (pw c m)) _ = mul c (pw c (m + n)); rw [mul_assoc, pw_add c m n]
theorem pw_mul (c d : F) : ∀ n, pw (mul c d) n = mul (pw c n) (pw d n)
  | 0 => (one_mul _).symm
  | n + 1 => by
    show mul (mul c d) (pw (mul c d) n) = mul (mul c (pw c n)) (mul d (pw d n))
    rw [pw_mul c d n, mul_assoc, mul_assoc, ← mul_assoc d, mul_comm d (pw c n), mul_assoc (pw c n)]
theorem pw_one : ∀ n, pw 1#8 n = 1#8
  | 0 => rfl
  | n + 1 => by show mul _ _ = _; rw [pw_one n, one_mul]
theorem pw_ne {c : F} (h : c ≠ 0#8) : ∀ n, pw c n ≠ 0#8
  | 0 => by show (1#8 : F) ≠ 0#8; decide
  | n + 1 => mul_ne h (pw_ne h n)

/-- the resultant by Euclid's walk -/
inductive Rs : Pol → Pol → F → Prop
  | const {A B : Pol} {n : Nat} : Dg A n → Dg B 0 → Rs A B (pw (B 0) n)
  | zero {A B : Pol} {n m : Nat} : Dg A n → Dg B (m + 1) → Red B A zp → Rs A B 0#8
  | step {A B r : Pol} {n m k : Nat} {c : F} : Dg A n → Dg B (m + 1) → Red B A r → Dg r k → k ≤ m → Rs B r c → Rs A B (mul (pw (B (m + 1)) (n - k)) c)

theorem Dg.bdle {A : Pol} {n N : Nat} (h : Dg A n) (k : n < N) : Bd A N := h.bd.mono k
theorem Rs.uniq {A B : Pol} {c : F} (h : Rs A B c) : ∀ {c' : F}, Rs A B c' → c = c' := by
  induction h with
  | const hA hB =>
    intro c' h'
    cases h' with
    | const hA' hB' => rw [hA.uniq hA']
    | zero _ hB' _ => exact absurd (hB.uniq hB') (by omega)
    | step _ hB' _ _ _ _ => exact absurd (hB.uniq hB') (by omega)
  | zero hA hB hr =>
    intro c' h'
    cases h' with
    | const hA' hB' => exact absurd (hB.uniq hB') (by omega)
    | zero _ hB' _ => rfl
    | step _ hB' hr' hk hm _ =>
      have e := hB.uniq hB'
      have e2 := red_uniq hB hr hr' (fun _ _ => rfl) (hk.bdle (by omega))
      exact absurd e2.symm hk.ne_zp
  | step hA hB hr hk hm hs ih =>
    intro c' h'
    cases h' with
    | const hA' hB' => exact absurd (hB.uniq hB') (by omega)
    | zero _ hB' hr' =>
      have e2 := red_uniq hB hr hr' (hk.bdle (by omega)) (fun _ _ => rfl)
      exact absurd e2 hk.ne_zp
    | step hA' hB' hr' hk' hm' hs' =>
      have e := hB.uniq hB'
      have e2 := red_uniq hB hr hr' (hk.bdle (by omega)) (hk'.bdle (by omega))
      subst e2
      have e3 := hk.uniq hk'
      have e4 := hA.uniq hA'
      subst e3; subst e4
      rw [ih hs', ← e]
theorem rs_exists : ∀ (m : Nat) (A B : Pol) (n : Nat), Dg A n → Dg B m → ∃ c, Rs A B c := by
  intro m
  induction m using Nat.strongRecOn with
  | _ m ih =>
    intro A B n hA hB
    cases m with
    | zero => exact ⟨_, .const hA hB⟩
    | succ m =>
      obtain ⟨r, h1, h2⟩ := red_exists hB n A (hA.bdle (by omega))
      rcases h2.dg with rfl | ⟨k, h3, h4⟩
      · exact ⟨_, .zero hA hB h1⟩
      · obtain ⟨c, hc⟩ := ih k h3 B r _ hB h4
        exact ⟨_, .step hA hB h1 h4 (by omega) hc⟩
theorem Rs.red {A B s : Pol} {n k m : Nat} {c : F} (hA : Dg A n) (hB : Dg B m) (hs : Dg s k) (hkn : k ≤ n) (hr : Red B A s) (h : Rs s B c) : Rs A B (mul (pw (B m) (n - k)) c) := by
  cases h with
  | const hs' hB' =>
    have e := hs.uniq hs'; subst e
    have e := hB.uniq hB'; subst e
    rw [pw_add, Nat.sub_add_cancel hkn]
    exact .const hA hB
  | zero _ hB' hr' => rw [mul_zero]; exact .zero hA hB' (hr.trans hr')
  | step hs' hB' hr' hj hjm hrs =>
    have e := hs.uniq hs'; subst e
    have e := hB.uniq hB'; subst e
    rename_i r m j c
    have hjk : j ≤ k := by
      by_cases h : k ≤ m
      · have e2 := red_uniq hB (Red.refl B s) hr' (hs.bdle (by omega)) (hj.bdle (by omega))
        subst e2
        exact Nat.le_of_eq (hj.uniq hs)
      · omega
    have := Rs.step hA hB (hr.trans hr') hj hjm hrs
    rw [← mul_assoc, pw_add, show n - k + (k - j) = n - j by omega]
    exact this
theorem Rs.scale {A B : Pol} {c d e : F} (hd : d ≠ 0#8) (he : e ≠ 0#8) (h : Rs A B c) : ∀ {n m : Nat}, Dg A n → Dg B m → Rs (psm d A) (psm e B) (mul (mul (pw d m) (pw e n)) c) := by
  induction h generalizing d e with
  | const hA hB =>
    intro n m hA' hB'
    have e1 := hA.uniq hA'; subst e1
    have e1 := hB.uniq hB'; subst e1
    have := Rs.const (hA.psm hd) (hB.psm he)
    rw [show Mine.psm e _ 0 = mul e _ from rfl, pw_mul] at this
    rw [show pw d 0 = 1#8 from rfl, one_mul]
    exact this
  | zero hA hB hr =>
    intro n m hA' hB'
    rw [mul_zero]
    refine .zero (hA.psm hd) (hB.psm he) ?_
    obtain ⟨i, hi0, hi⟩ := exists_inv he
    have h1 := hr.psm d
    rw [psm_zp] at h1
    refine Red.scaleB i ?_
    rw [psm_psm, hi, psm_one]; exact h1
  | step hA hB hr hk hm hs ih =>
    intro n m hA' hB'
    have e1 := hA.uniq hA'; subst e1
    have e1 := hB.uniq hB'; subst e1
    rename_i A B r n m k c
    obtain ⟨i, hi0, hi⟩ := exists_inv he
    have h1 : Red (psm e B) (psm d A) (psm d r) := Red.scaleB i (by rw [psm_psm, hi, psm_one]; exact hr.psm d)
    have h2 := ih he hd hB hk
    have h3 := Rs.step (hA.psm hd) (hB.psm he) h1 (hk.psm hd) hm h2
    have hkn : k ≤ n := by
      by_cases h : n ≤ m
      · have e2 := red_uniq hB (Red.refl B A) hr (hA.bdle (by omega)) (hk.bdle (by omega))
        subst e2
        exact Nat.le_of_eq (hk.uniq hA)
      · omega
    have e : mul (mul (pw d (m + 1)) (pw e n)) (mul (pw (B (m + 1)) (n - k)) c) = mul (pw (psm e B (m + 1)) (n - k)) (mul (mul (pw e k) (pw d (m + 1))) c) := by
      show _ = mul (pw (mul e (B (m + 1))) (n - k)) _
      rw [pw_mul]
      have e2 : pw e n = mul (pw e (n - k)) (pw e k) := by rw [pw_add, Nat.sub_add_cancel hkn]
      rw [e2]
      generalize pw d (m + 1) = x1; generalize pw e (n - k) = x2; generalize pw e k = x3; generalize pw (B (m + 1)) (n - k) = x4
      rw [mul_comm x3 x1, ← mul_assoc x1 x2 x3, mul_assoc (mul x1 x2), mul_comm x1 x2, mul_assoc x2 x1, mul_assoc x2 x4]
      congr 1
      rw [← mul_assoc x3, mul_comm x3 x4, mul_assoc x4, ← mul_assoc x1 x4, mul_comm x1 x4, mul_assoc x4, ← mul_assoc x1 x3]
    rw [e]
    exact h3
end Mine
end

-- part M2
section
namespace Mine
theorem Dg.addlow {A B : Pol} {n : Nat} (h : Dg A n) (b : Bd B n) : Dg (padd A B) n := ⟨by
  show A n ^^^ B n ≠ 0#8; rw [b n (Nat.le_refl _), BitVec.xor_zero]; exact h.1, fun k hk => by
  show A k ^^^ B k = 0#8; rw [h.2 k hk, b k (by omega), BitVec.xor_zero]⟩
/-- equal degrees -/
theorem Rs.symEq {A B : Pol} {m : Nat} {c : F} (hA : Dg A (m + 1)) (hB : Dg B (m + 1)) (h : Rs A B c) : Rs B A c := by
  -- q = a / b
  obtain ⟨ib, hib0, hib⟩ := exists_inv hB.1
  obtain ⟨ia, hia0, hia⟩ := exists_inv hA.1
  cases h with
  | const _ hB' => exact absurd (hB'.uniq hB) (by omega)
  | zero _ hB' hr =>
    have e := hB.uniq hB'
    rename_i m' n'
    have e : m = m' := by omega
    subst e
    -- A + q B = 0, so A = q B
    have hq : Red B A (padd A (psm (mul (A (m + 1)) ib) B)) := by
      have := Red.mono (mul (A (m + 1)) ib) 0 B A
      have e2 : Mine.mono (mul (A (m + 1)) ib) 0 B = psm (mul (A (m + 1)) ib) B := funext fun j => by
        show (if j < 0 then _ else mul _ (B (j - 0))) = _
        rw [if_neg (by omega)]; rfl
      rw [e2] at this; exact this
    have hlow : Bd (padd A (psm (mul (A (m + 1)) ib) B)) (m + 1) := fun k hk => by
      show A k ^^^ mul (mul (A (m + 1)) ib) (B k) = 0#8
      by_cases e : k = m + 1
      · rw [e, mul_assoc, hib, mul_one, BitVec.xor_self]
      · rw [hA.2 k (by omega), hB.2 k (by omega), mul_zero, BitVec.xor_zero]
    have ez := red_uniq hB hr hq (fun _ _ => rfl) hlow
    have eA : A = psm (mul (A (m + 1)) ib) B := by
      have := padd_can A (psm (mul (A (m + 1)) ib) B)
      rw [← ez, zp_padd] at this; exact this.symm
    refine .zero hB hA ?_
    have hne : mul (A (m + 1)) ib ≠ 0#8 := mul_ne hA.1 hib0
    obtain ⟨i, _, hi⟩ := exists_inv hne
    have h2 : Red A B (padd B (psm i A)) := by
      have := Red.mono i 0 A B
      have e2 : Mine.mono i 0 A = psm i A := funext fun j => by
        show (if j < 0 then _ else mul _ (A (j - 0))) = _
        rw [if_neg (by omega)]; rfl
      rw [e2] at this; exact this
    have e3 : psm i A = B := by
      rw [eA, psm_psm]
      have : mul i (mul (A (m + 1)) ib) = 1#8 := hi
      rw [this, psm_one]
    rw [e3, padd_self] at h2
    exact h2
  | step hA' hB' hr hk hkm hs =>
    rename_i r n m' k c
    have e := hA.uniq hA'; subst e
    have e : m' = m := by have := hB.uniq hB'; omega
    subst e
    have hq : Red B A (padd A (psm (mul (A (m' + 1)) ib) B)) := by
      have := Red.mono (mul (A (m' + 1)) ib) 0 B A
      have e2 : Mine.mono (mul (A (m' + 1)) ib) 0 B = psm (mul (A (m' + 1)) ib) B := funext fun j => by
        show (if j < 0 then _ else mul _ (B (j - 0))) = _
        rw [if_neg (by omega)]; rfl
      rw [e2] at this; exact this
    have hlow : Bd (padd A (psm (mul (A (m' + 1)) ib) B)) (m' + 1) := fun k hk => by
      show A k ^^^ mul (mul (A (m' + 1)) ib) (B k) = 0#8
      by_cases e : k = m' + 1
      · rw [e, mul_assoc, hib, mul_one, BitVec.xor_self]
      · rw [hA.2 k (by omega), hB.2 k (by omega), mul_zero, BitVec.xor_zero]
    have ez := red_uniq hB hr hq (hk.bdle (by omega)) hlow
    have hne : mul (A (m' + 1)) ib ≠ 0#8 := mul_ne hA.1 hib0
    generalize hgq : mul (A (m' + 1)) ib = q at *
    obtain ⟨i, hi0, hi⟩ := exists_inv hne
    have hqb : mul q (B (m' + 1)) = A (m' + 1) := by rw [← hgq, mul_assoc, hib, mul_one]
    -- r = A + q B; B + i A = i r
    have eir : padd B (psm i A) = psm i r := by
      rw [ez, psm_padd, psm_psm, hi, psm_one, padd_comm]
    have h2 : Red A B (psm i r) := by
      have := Red.mono i 0 A B
      have e2 : Mine.mono i 0 A = psm i A := funext fun j => by
        show (if j < 0 then _ else mul _ (A (j - 0))) = _
        rw [if_neg (by omega)]; rfl
      rw [e2, eir] at this; exact this
    -- R(A, i r) from R(B, r)
    have hrB : Red r A (psm q B) := by
      have e4 : psm q B = padd A r := by rw [ez, ← padd_assoc, padd_self, zp_padd]
      rw [e4]
      refine ⟨[1#8], ?_⟩
      show _ = padd _ (padd (psm 1#8 r) (psh zp))
      rw [psh_zp, padd_zp, psm_one]
    have s1 := hs.scale hne (show (1#8 : F) ≠ 0#8 by decide) hB hk
    rw [psm_one] at s1
    have s2 := Rs.red hA hk (hB.psm hne) (Nat.le_refl _) hrB s1
    have s3 := s2.scale (show (1#8 : F) ≠ 0#8 by decide) hi0 hA hk
    rw [psm_one] at s3
    have s4 := Rs.step hB hA h2 (hk.psm hi0) hkm s3
    have e5 : mul (pw (A (m' + 1)) (m' + 1 - k)) (mul (mul (pw 1#8 k) (pw i (m' + 1))) (mul (pw (r k) (m' + 1 - (m' + 1))) (mul (mul (pw q k) (pw 1#8 (m' + 1))) c))) = mul (pw (B (m' + 1)) (m' + 1 - k)) c := by
      rw [pw_one, one_mul, pw_one, mul_one, Nat.sub_self, show pw (r k) 0 = 1#8 from rfl, one_mul, ← hqb, pw_mul]
      have e6 : pw i (m' + 1) = mul (pw i (m' + 1 - k)) (pw i k) := by rw [pw_add, Nat.sub_add_cancel (by omega)]
      have e7 : mul (pw q k) (pw i k) = 1#8 := by rw [← pw_mul, mul_comm q i, hi, pw_one]
      have e8 : mul (pw q (m' + 1 - k)) (pw i (m' + 1 - k)) = 1#8 := by rw [← pw_mul, mul_comm q i, hi, pw_one]
      rw [e6]
      generalize pw i (m' + 1 - k) = x1 at *; generalize pw i k = x2 at *; generalize pw q (m' + 1 - k) = y1 at *; generalize pw q k = y2 at *; generalize pw (B (m' + 1)) (m' + 1 - k) = z at *
      rw [mul_assoc x1 x2, ← mul_assoc x2 y2, mul_comm x2 y2, e7, one_mul, mul_comm y1 z, mul_assoc z, ← mul_assoc y1 x1, e8, one_mul]
    rw [e5] at s4
    exact s4
theorem Rs.sym {A B : Pol} {n m : Nat} {c : F} (hA : Dg A n) (hB : Dg B m) (h : Rs A B c) : Rs B A c := by
  rcases Nat.lt_trichotomy n m with l | l | l
  · obtain ⟨c', h'⟩ := rs_exists n B A m hB hA
    obtain ⟨m, rfl⟩ : ∃ m', m = m' + 1 := ⟨m - 1, by omega⟩
    have h2 := Rs.step hA hB (Red.refl B A) hA (by omega) h'
    rw [Nat.sub_self, show pw (B (m + 1)) 0 = 1#8 from rfl, one_mul] at h2
    rw [h.uniq h2]; exact h'
  · subst l
    cases n with
    | zero =>
      have h2 := Rs.const hA hB
      rw [h.uniq h2]
      exact .const hB hA
    | succ n => exact h.symEq hA hB
  · obtain ⟨n, rfl⟩ : ∃ n', n = n' + 1 := ⟨n - 1, by omega⟩
    have h2 := Rs.step hB hA (Red.refl A B) hB (by omega) h
    rw [Nat.sub_self, show pw (A (n + 1)) 0 = 1#8 from rfl, one_mul] at h2
    exact h2

/-! values at a point -/
def Ev (α : F) (A : Pol) (e : F) : Prop := ∃ Q N, Bd Q N ∧ A = padd (lin α Q) (con e)
theorem con_xor (a b : F) : con (a ^^^ b) = padd (con a) (con b) := funext fun k => by
  show (if k = 0 then _ else _) = (if k = 0 then a else 0#8) ^^^ (if k = 0 then b else 0#8)
  by_cases h : k = 0
  · rw [if_pos h, if_pos h, if_pos h]
  · rw [if_neg h, if_neg h, if_neg h]; rfl
theorem con_zero : con 0#8 = zp := funext fun k => by show (if k = 0 then _ else _) = _; split <;> rfl
theorem psm_con (c d : F) : psm c (con d) = con (mul c d) := funext fun k => by
  show mul c (if k = 0 then d else 0#8) = if k = 0 then mul c d else 0#8
  by_cases h : k = 0
  · rw [if_pos h, if_pos h]
  · rw [if_neg h, if_neg h, mul_zero]
theorem lin_con_zero {α : F} {d : F} : ∀ (N : Nat) (Q : Pol), Bd Q N → lin α Q = con d → Q = zp
  | 0, Q, h, _ => funext fun k => h k (Nat.zero_le _)
  | N + 1, Q, h, e => by
    refine lin_con_zero (d := d) N Q (fun k hk => ?_) e
    by_cases e2 : k = N
    · have := congrFun e (N + 1)
      have e3 : Q N ^^^ mul α (Q (N + 1)) = 0#8 := this
      rw [h (N + 1) (Nat.le_refl _), mul_zero, BitVec.xor_zero] at e3
      rw [e2]; exact e3
    · exact h k (by omega)
theorem lin_cancel {α : F} {Q : Pol} {N : Nat} (h : Bd Q N) (e : lin α Q = zp) : Q = zp := lin_con_zero N Q h (by rw [e, con_zero])
theorem Ev.uniq {α : F} {A : Pol} {e e' : F} (h : Ev α A e) (k : Ev α A e') : e = e' := by
  obtain ⟨Q, N, hQ, rfl⟩ := h
  obtain ⟨R, M, hR, hE⟩ := k
  have e1 : lin α (padd Q R) = con (e ^^^ e') := by
    rw [lin_padd, con_xor]
    have := congrArg (fun X => padd (padd X (lin α R)) (con e)) hE
    rw [padd_assoc (lin α Q), padd_comm (con e), ← padd_assoc, padd_assoc, padd_self, padd_zp] at this
    rw [this, padd_comm (lin α R) (con e'), padd_can, padd_comm]
  have h0 := lin_con_zero (N + M) (padd Q R) ((hQ.mono (by omega)).padd (hR.mono (by omega))) e1
  rw [h0, lin_zp] at e1
  have := congrFun e1 0
  have e2 : (0#8 : F) = e ^^^ e' := this
  exact xzero e2.symm
theorem Ev.con (α c : F) : Ev α (con c) c := ⟨zp, 0, fun _ _ => rfl, by rw [lin_zp, zp_padd]⟩
theorem Ev.root (α : F) {A : Pol} {N : Nat} (h : Bd A N) : Ev α (lin α A) 0#8 := ⟨A, N, h, by rw [con_zero, padd_zp]⟩
theorem Ev.lin {α : F} {A : Pol} {e : F} (β : F) (h : Ev α A e) : Ev α (lin β A) (mul (α ^^^ β) e) := by
  obtain ⟨Q, N, hQ, rfl⟩ := h
  refine ⟨padd (Mine.lin β Q) (Mine.con e), N + 1, (hQ.lin β).padd (fun k hk => ?_), ?_⟩
  · show (if k = 0 then _ else _) = _; rw [if_neg (by omega)]
  · rw [lin_padd, lin_padd, lin_comm α β, padd_assoc]
    congr 1
    rw [xor_mul, con_xor, ← psm_con, ← psm_con]
    show padd (psh _) (psm β _) = padd (padd (psh _) (psm α _)) (padd (psm α _) (psm β _))
    rw [padd_assoc, ← padd_assoc (psm α _), padd_self, zp_padd]
theorem Ev.red {α : F} {A B r : Pol} {e : F} {N : Nat} (hA : Bd A N) (h : Red (Mine.lin α A) B r) (k : Ev α B e) : Ev α r e := by
  obtain ⟨C, rfl⟩ := h
  obtain ⟨Q, M, hQ, rfl⟩ := k
  refine ⟨padd Q (mulL C A), M + (N + C.length), (hQ.mono (by omega)).padd ((bd_mulL hA C).mono (by omega)), ?_⟩
  rw [mulL_lin, lin_padd, padd_assoc, padd_comm (Mine.con e), ← padd_assoc]
theorem dg_con {c : F} (h : c ≠ 0#8) : Dg (con c) 0 := ⟨h, fun k hk => by show (if k = 0 then _ else _) = _; rw [if_neg (by omega)]⟩
theorem con_of {B : Pol} (h : Dg B 0) : B = con (B 0) := funext fun k => by
  show _ = if k = 0 then _ else _
  split
  · rename_i e; rw [e]
  · exact h.2 k (by omega)

/-- one more root on the left -/
theorem Rs.linL (α : F) : ∀ (s n m : Nat), n + m ≤ s → ∀ {A B : Pol} {c e : F}, Dg A n → Dg B m → Rs A B c → Ev α B e → Rs (lin α A) B (mul e c) := by
  intro s
  induction s with
  | zero =>
    intro n m hs A B c e hA hB h hE
    have : m = 0 := by omega
    subst this
    have h2 := Rs.const (hA.lin α) hB
    have h3 := h.uniq (Rs.const hA hB)
    rw [con_of hB] at hE
    rw [hE.uniq (Ev.con α _), h3]
    exact h2
  | succ s ih =>
    intro n m hs A B c e hA hB h hE
    cases m with
    | zero =>
      have h2 := Rs.const (hA.lin α) hB
      have h3 := h.uniq (Rs.const hA hB)
      rw [con_of hB] at hE
      rw [hE.uniq (Ev.con α _), h3]
      exact h2
    | succ m =>
      by_cases hnm : m + 1 ≤ n
      · -- reduce A by B
        cases h with
        | const _ hB' => exact absurd (hB'.uniq hB) (by omega)
        | zero hA' hB' hr =>
          rw [mul_zero]
          refine .zero (hA.lin α) hB ?_
          have := hr.linA α
          rw [lin_zp] at this; exact this
        | step hA' hB' hr hk hkm hs' =>
          rename_i r n' m' k c
          have e1 := hA.uniq hA'; subst e1
          have e1 : m' = m := by have := hB.uniq hB'; omega
          subst e1
          have h1 : Rs r B c := Rs.sym hB hk hs'
          have h2 := ih k (m' + 1) (by omega) hk hB h1 hE
          have h3 := Rs.red (hA.lin α) hB (hk.lin α) (by omega) (hr.linA α) h2
          rw [show n + 1 - (k + 1) = n - k by omega] at h3
          rw [← mul_assoc, mul_comm e, mul_assoc]
          exact h3
      · -- reduce B by (x+α)A
        have hAl := hA.lin α
        obtain ⟨B1, r1, r2⟩ := red_exists hAl (m + 1) B (hB.bdle (by omega))
        have hE1 := hE.red hA.bd r1
        rcases r2.dg with rfl | ⟨m1, hm1, hB1⟩
        · have he : e = 0#8 := hE1.uniq (by have := Ev.con α 0#8; rw [con_zero] at this; exact this)
          rw [he, zero_mul]
          exact Rs.sym hB hAl (.zero hB hAl r1)
        · obtain ⟨c1, hc1⟩ := rs_exists m1 A B1 n hA hB1
          have h2 := ih n m1 (by omega) hA hB1 hc1 hE1
          have h3 := Rs.step hB hAl r1 hB1 (by omega) h2
          have h4 := Rs.sym hB hAl h3
          have h5 := Rs.red hB hA hB1 (by omega) r1.ofLin (Rs.sym hA hB1 hc1)
          have h6 := (Rs.sym hB hA h5).uniq h
          rw [← h6, ← mul_assoc, mul_comm e, mul_assoc]
          rw [lin_lead α hA] at h4
          exact h4
end Mine
end

-- part M3
section
set_option maxRecDepth 100000
namespace Mine
def P (p : List F) : Pol := fun k => if k < p.length then cf p (p.length - 1 - k) else 0#8
noncomputable def lins : List F → Pol → Pol
  | [], A => A
  | γ :: S, A => lins S (lin γ A)

theorem P_bd (p : List F) : Bd (P p) p.length := fun k hk => if_neg (by omega)
theorem P_lead (p : List F) (h : 0 < p.length) : P p (p.length - 1) = cf p 0 := by
  unfold P; rw [if_pos (by omega), Nat.sub_self]
theorem P_dg (p : List F) (h : 0 < p.length) (h0 : cf p 0 ≠ 0#8) : Dg (P p) (p.length - 1) := ⟨by rw [P_lead p h]; exact h0, fun k hk => P_bd p k (by omega)⟩
theorem cf_drop1 (q : List F) (j : Nat) : cf (q.drop 1) j = cf q (1 + j) := by
  unfold cf
  rw [List.getD_eq_getElem?_getD, List.getD_eq_getElem?_getD, List.getElem?_drop]
theorem P_drop1 (p : List F) (h0 : cf p 0 = 0#8) : P (p.drop 1) = P p := funext fun k => by
  unfold P
  rw [List.length_drop, cf_drop1]
  by_cases h : k < p.length - 1
  · rw [if_pos h, if_pos (by omega)]
    congr 1; omega
  · rw [if_neg h]
    by_cases h2 : k < p.length
    · rw [if_pos h2, show p.length - 1 - k = 0 by omega, h0]
    · rw [if_neg h2]
theorem P_strip {p r : List F} (h : Strip p r) : P r = P p := by
  induction h with
  | refl => rfl
  | drop _ _ h0 ih => rw [P_drop1 _ h0, ih]
theorem P_sub (row q : List F) (α : F) (h : q.length ≤ row.length) : P (subRow row q α q.length) = padd (P row) (mono α (row.length - q.length) (P q)) := funext fun k => by
  show (if k < _ then _ else _) = (if k < _ then _ else _) ^^^ (if k < _ then _ else mul α (if _ then _ else _))
  rw [subRow_length]
  by_cases h1 : k < row.length
  · rw [if_pos h1, if_pos h1, cf_subRow _ _ _ _ _ (by omega)]
    congr 1
    by_cases h2 : k < row.length - q.length
    · rw [if_pos h2, if_neg (by omega)]
    · rw [if_neg h2, if_pos (by omega), if_pos (by omega), mul_comm]
      congr 2; omega
  · rw [if_neg h1, if_neg h1]
    by_cases h2 : k < row.length - q.length
    · rw [if_pos h2]; rfl
    · rw [if_neg h2, if_neg (by omega), mul_zero]; rfl
theorem P_low (row q : List F) (hq : cf q 0 ≠ 0#8) (h : q.length ≤ row.length) (h1 : 0 < q.length) : Red (P q) (P row) (P ((lowered row q).drop 1)) := by
  unfold lowered
  split
  · rename_i h0
    rw [P_drop1 _ h0]; exact Red.refl _ _
  · rename_i h0
    rw [P_drop1 _ (subRow_head _ _ h0 hq (by omega) h1), P_sub _ _ _ h]
    exact Red.mono _ _ _ _
theorem P_rch {q p row : List F} (hq : cf q 0 ≠ 0#8) (h1 : 0 < q.length) (h : Rch q p row) : Red (P q) (P p) (P row) := by
  induction h with
  | refl => exact Red.refl _ _
  | step _ hl ih => exact ih.trans (P_low _ _ hq hl h1)
theorem rch_len {q p row : List F} (h : Rch q p row) : row.length ≤ p.length := by
  induction h with
  | refl => exact Nat.le_refl _
  | step _ hl ih => rw [List.length_drop, lowered_length]; omega
theorem P_mod {q p res : List F} (h : ModR q p res) : Red (P q) (P p) (P res) := by
  induction h with
  | base => exact Red.refl _ _
  | step hl hs _ _ ih =>
    refine Red.trans ?_ ih
    rw [P_strip hs, P_sub _ _ _ hl]
    exact Red.mono _ _ _ _
theorem mod_len {q p res : List F} (h : ModR q p res) : res.length < q.length := by
  induction h with
  | base h => exact h
  | step _ _ _ _ ih => exact ih
theorem P_laidStep (row : List F) (α : F) : P (laidStep row α) = lin α (P row) := funext fun k => by
  show (if k < _ then cf (widen row α row.length) _ else _) = psh (P row) k ^^^ mul α (if _ then _ else _)
  rw [laidStep_length]
  cases k with
  | zero =>
    show _ = 0#8 ^^^ _
    rw [if_pos (by omega), cf_widen _ _ _ _ (by omega), cf_out row _ (by omega)]
    congr 1
    by_cases h : 0 < row.length
    · rw [if_pos (by omega), if_pos h, mul_comm]; congr 2
    · rw [if_neg (by omega), if_neg h, mul_zero]
  | succ k =>
    show _ = (if k < row.length then cf row (row.length - 1 - k) else 0#8) ^^^ _
    by_cases h : k < row.length
    · rw [if_pos (by omega), cf_widen _ _ _ _ (by omega), if_pos h]
      congr 1
      · congr 1; omega
      · by_cases h2 : k + 1 < row.length
        · rw [if_pos (by omega), if_pos h2, mul_comm]; congr 2; omega
        · rw [if_neg (by omega), if_neg h2, mul_zero]
    · rw [if_neg (by omega), if_neg h, if_neg (by omega), mul_zero]; rfl
theorem P_one (a : F) : P [a] = con a := funext fun k => by
  show (if k < 1 then cf [a] (1 - 1 - k) else 0#8) = if k = 0 then a else 0#8
  by_cases h : k = 0
  · subst h; rfl
  · rw [if_neg (by omega), if_neg h]
theorem P_fold : ∀ (ns : List Int) (p : List F), P (ns.foldl (fun row r => laidStep row (exI r)) p) = lins (ns.map exI) (P p)
  | [], _ => rfl
  | n :: ns, p => by rw [List.foldl_cons, P_fold ns, P_laidStep]; rfl
theorem P_laid (ns : List Int) (a : F) : P (laid ns a) = lins (ns.map exI) (con a) := by
  unfold laid; rw [P_fold, P_one]
theorem P_inj {p q : List F} (hl : p.length = q.length) (h : P p = P q) : p = q := by
  refine list_ext hl fun j hj => ?_
  have := congrFun h (p.length - 1 - j)
  unfold P at this
  rw [if_pos (by omega), if_pos (by omega)] at this
  rw [show p.length - 1 - (p.length - 1 - j) = j by omega, show q.length - 1 - (p.length - 1 - j) = j by omega] at this
  exact this

theorem lins_lin (γ : F) : ∀ (S : List F) (A : Pol), lins S (lin γ A) = lin γ (lins S A)
  | [], _ => rfl
  | δ :: S, A => by show lins S (lin δ (lin γ A)) = lin γ (lins S (lin δ A)); rw [lin_comm, lins_lin γ S]
theorem lins_append : ∀ (S T : List F) (A : Pol), lins (S ++ T) A = lins T (lins S A)
  | [], _, _ => rfl
  | δ :: S, T, A => lins_append S T (lin δ A)
theorem lins_comm (S T : List F) (A : Pol) : lins S (lins T A) = lins T (lins S A) := by
  induction T generalizing A with
  | nil => rfl
  | cons δ T ih => show lins S (lins T (lin δ A)) = lins T (lin δ (lins S A)); rw [ih, lins_lin]
theorem lins_padd : ∀ (S : List F) (A B : Pol), lins S (padd A B) = padd (lins S A) (lins S B)
  | [], _, _ => rfl
  | δ :: S, A, B => by show lins S (lin δ (padd A B)) = _; rw [lin_padd, lins_padd S]; rfl
theorem lins_psm (c : F) : ∀ (S : List F) (A : Pol), lins S (psm c A) = psm c (lins S A)
  | [], _ => rfl
  | δ :: S, A => by show lins S (lin δ (psm c A)) = _; rw [lin_psm, lins_psm c S]; rfl
theorem lins_mulL (C : List F) : ∀ (S : List F) (A : Pol), mulL C (lins S A) = lins S (mulL C A)
  | [], _ => rfl
  | δ :: S, A => by show mulL C (lins S (lin δ A)) = _; rw [lins_mulL C S, mulL_lin]; rfl
theorem lins_zp : ∀ (S : List F), lins S zp = zp
  | [] => rfl
  | δ :: S => by show lins S (lin δ zp) = _; rw [lin_zp, lins_zp S]
theorem lins_dg : ∀ (S : List F) {A : Pol} {n : Nat}, Dg A n → Dg (lins S A) (n + S.length) ∧ lins S A (n + S.length) = A n
  | [], A, n, h => ⟨h, rfl⟩
  | δ :: S, A, n, h => by
    obtain ⟨h1, h2⟩ := lins_dg S (h.lin δ)
    rw [List.length_cons, show n + (S.length + 1) = n + 1 + S.length by omega]
    exact ⟨h1, h2.trans (lin_lead δ h)⟩
theorem lins_cancel : ∀ (S : List F) {A : Pol} {N : Nat}, Bd A N → lins S A = zp → A = zp
  | [], _, _, _, h => h
  | δ :: S, A, N, hb, h => lin_cancel hb (lins_cancel S (hb.lin δ) h)

theorem exI_pw {b : F} (hb : b ≠ 0#8) (n : Int) : ∀ d : Nat, mul (exI n) (pw b d) = exI (n + (lg b : Int) * (d : Int))
  | 0 => by rw [Int.natCast_zero, Int.mul_zero, Int.add_zero]; exact mul_one _
  | d + 1 => by
    have e : n + (lg b : Int) * ((d + 1 : Nat) : Int) = (lg b : Int) + (n + (lg b : Int) * (d : Int)) := by
      rw [Int.natCast_add, Int.mul_add]; show _ + (_ + (lg b : Int) * 1) = _; omega
    rw [e, exI_add _ hb, ← exI_pw hb n d]
    show mul _ (mul b (pw b d)) = _
    rw [← mul_assoc, mul_comm _ b, mul_assoc]

/-- what Euclid's walk keeps -/
def Eu (S : List F) (c₀ : F) (u l : List F) (passed : Int) : Prop :=
  ∃ A B n m c, P u = lins S A ∧ P l = lins S B ∧ Dg A n ∧ Dg B m ∧ u.length = n + S.length + 1 ∧ l.length = m + S.length + 1 ∧ A n = cf u 0 ∧ B m = cf l 0 ∧ Rs A B c ∧ mul (exI passed) c = c₀
theorem Eu.next {S : List F} {c₀ : F} {u l r : List F} {passed : Int} (h : Eu S c₀ u l passed) (hr : Red (P l) (P u) (P r)) (h1 : r.length < l.length) (h2 : r.length ≤ u.length) (h0 : 0 < r.length) (hz : cf r 0 ≠ 0#8) :
    Eu S c₀ l r (passed + (lg (cf l 0) : Int) * ((u.length : Int) - (r.length : Int))) := by
  obtain ⟨A, B, n, m, c, hA, hB, dA, dB, lu, ll, au, bl, rs, hc⟩ := h
  obtain ⟨C, hC⟩ := hr
  rw [hA, hB, lins_mulL, ← lins_padd] at hC
  generalize hR : padd A (mulL C B) = R at hC
  have bR : Bd R ((n + 1) + (m + 1) + C.length) := by
    rw [← hR]
    exact (dA.bd.mono (by omega)).padd ((bd_mulL dB.bd C).mono (by omega))
  have dr := P_dg r h0 hz
  rcases bR.dg with rfl | ⟨k, hk, dR⟩
  · rw [lins_zp] at hC
    exact absurd hC dr.ne_zp
  · obtain ⟨dL, eL⟩ := lins_dg S dR
    rw [← hC] at dL eL
    have e1 := dL.uniq dr
    obtain ⟨m', rfl⟩ : ∃ m', m = m' + 1 := ⟨m - 1, by omega⟩
    obtain ⟨c1, hc1⟩ := rs_exists k B R _ dB dR
    have hs := Rs.step dA dB ⟨C, hR.symm⟩ dR (by omega) hc1
    have e2 := rs.uniq hs
    refine ⟨B, R, m' + 1, k, c1, hB, hC, dB, dR, ll, by omega, bl, ?_, hc1, ?_⟩
    · rw [← eL, e1, P_lead r h0]
    · have hb : cf l 0 ≠ 0#8 := bl ▸ dB.1
      have e3 : (u.length : Int) - (r.length : Int) = ((n - k : Nat) : Int) := by omega
      rw [e3, ← exI_pw hb, ← hc, e2, bl, mul_assoc]
theorem Eu.last {S : List F} {c₀ : F} {u l : List F} {passed : Int} (h : Eu S c₀ u l passed) (h0 : c₀ ≠ 0#8) (hr : Red (P l) (P u) zp) :
    exI (passed + (lg (cf l 0) : Int) * ((u.length : Int) - (l.length : Int))) = c₀ ∧ P l = psm (cf l 0) (lins S (con 1#8)) ∧ l.length = S.length + 1 ∧ l.length ≤ u.length ∧ cf l 0 ≠ 0#8 := by
  obtain ⟨A, B, n, m, c, hA, hB, dA, dB, lu, ll, au, bl, rs, hc⟩ := h
  obtain ⟨C, hC⟩ := hr
  rw [hA, hB, lins_mulL, ← lins_padd] at hC
  have bR : Bd (padd A (mulL C B)) ((n + 1) + (m + 1) + C.length) := (dA.bd.mono (by omega)).padd ((bd_mulL dB.bd C).mono (by omega))
  have hz := lins_cancel S bR hC.symm
  have hred : Red B A zp := ⟨C, hz.symm⟩
  have hb : cf l 0 ≠ 0#8 := bl ▸ dB.1
  cases m with
  | succ m =>
    have := rs.uniq (Rs.zero dA dB hred)
    rw [this, mul_zero] at hc
    exact absurd hc.symm h0
  | zero =>
    have e := rs.uniq (Rs.const dA dB)
    refine ⟨?_, ?_, by omega, by omega, hb⟩
    · have e3 : (u.length : Int) - (l.length : Int) = ((n : Nat) : Int) := by omega
      rw [e3, ← exI_pw hb, ← hc, e, bl]
    · rw [hB, con_of dB, bl, ← lins_psm, psm_con, mul_one]
theorem red_const {l : List F} (h : l.length = 1) (hz : cf l 0 ≠ 0#8) (u : List F) : Red (P l) (P u) zp := by
  have d := P_dg l (by omega) hz
  rw [h] at d
  obtain ⟨r, h1, h2⟩ := red_exists d u.length (P u) ((P_bd u).mono (by omega))
  have : r = zp := funext fun k => h2 k (Nat.zero_le _)
  rw [this] at h1; exact h1
theorem P_nought {r : List F} (h : r = [0#8]) : P r = zp := by
  rw [h, P_one, con_zero]

/-! the resultant of two products -/
noncomputable def prodX (α : F) : List F → F
  | [] => 1#8
  | β :: T => mul (α ^^^ β) (prodX α T)
noncomputable def resX (b : F) (T : List F) : List F → F
  | [] => 1#8
  | α :: S => mul (mul (prodX α T) b) (resX b T S)
theorem ev_lins (α b : F) : ∀ (T : List F) {A : Pol} {e : F}, Ev α A e → Ev α (lins T A) (mul (prodX α T) e)
  | [], _, _, h => by show Ev α _ (mul 1#8 _); rw [one_mul]; exact h
  | β :: T, A, e, h => by
    have := ev_lins α b T (h.lin β)
    show Ev α (lins T (lin β A)) (mul (mul (α ^^^ β) (prodX α T)) e)
    rw [mul_comm (α ^^^ β), mul_assoc]; exact this
theorem rs_lins {a b : F} (ha : a ≠ 0#8) (hb : b ≠ 0#8) (T : List F) : ∀ S : List F, Rs (lins S (con a)) (lins T (con b)) (mul (resX b T S) (pw a T.length))
  | [] => by
    obtain ⟨d, _⟩ := lins_dg T (dg_con hb)
    have := Rs.const d (dg_con ha)
    show Rs (con a) _ (mul 1#8 _)
    rw [one_mul]
    rw [Nat.zero_add] at d this
    exact Rs.sym d (dg_con ha) this
  | α :: S => by
    obtain ⟨dT, _⟩ := lins_dg T (dg_con hb)
    obtain ⟨dS, _⟩ := lins_dg S (dg_con ha)
    have := Rs.linL α _ _ _ (Nat.le_refl _) dS dT (rs_lins ha hb T S) (ev_lins α b T (Ev.con α b))
    show Rs (lins S (lin α (con a))) _ (mul (mul _ _) _)
    rw [lins_lin, mul_assoc]; exact this
theorem eu_init {S al sp : List F} {a b : F} (ha : a ≠ 0#8) (hb : b ≠ 0#8) {u l : List F} (hu : P u = lins S (lins al (con a))) (hl : P l = lins S (lins sp (con b))) (lu : u.length = al.length + S.length + 1) (ll : l.length = sp.length + S.length + 1) (cu : cf u 0 = a) (cl : cf l 0 = b) :
    Eu S (mul (resX b sp al) (pw a sp.length)) u l 0 := by
  obtain ⟨d1, e1⟩ := lins_dg al (dg_con ha)
  obtain ⟨d2, e2⟩ := lins_dg sp (dg_con hb)
  rw [Nat.zero_add] at d1 e1 d2 e2
  refine ⟨_, _, _, _, _, hu, hl, d1, d2, lu, ll, ?_, ?_, rs_lins ha hb sp al, ?_⟩
  · rw [e1, cu]; rfl
  · rw [e2, cl]; rfl
  · show mul (ex 0) _ = _
    rw [ex_zero, one_mul]
end Mine
end

-- part M4
section
set_option maxRecDepth 100000
namespace Mine
/-- shared, alone, spare: as the law parts the drawn roots -/
def part1 (st : List Int × List Int × List Int) (p : Int) : List Int × List Int × List Int :=
  if p ∈ st.2.2 then (st.1 ++ [p], st.2.1, st.2.2.erase p) else (st.1, st.2.1 ++ [p], st.2.2)
def parts (left right : List Int) : List Int × List Int × List Int := left.foldl part1 ([], [], right)
theorem parts_snoc (left right : List Int) (p : Int) : parts (left ++ [p]) right = part1 (parts left right) p := by
  unfold parts; rw [List.foldl_append]; rfl
theorem lins_erase {p : Int} : ∀ {T : List Int}, p ∈ T → ∀ A : Pol, lins (T.map exI) A = lin (exI p) (lins ((T.erase p).map exI) A)
  | [], h, _ => nomatch h
  | t :: T, h, A => by
    by_cases e : t = p
    · subst e
      rw [List.erase_cons_head]
      show lins (T.map exI) (lin (exI t) A) = _
      rw [lins_lin]
    · have h' : p ∈ T := by
        rcases List.mem_cons.1 h with h | h
        · exact absurd h.symm e
        · exact h
      rw [List.erase_cons_tail (by simpa using e)]
      show lins (T.map exI) (lin (exI t) A) = lin (exI p) (lins ((T.erase p).map exI) (lin (exI t) A))
      exact lins_erase h' _
structure Parted (left right sh al sp : List Int) : Prop where
  l : ∀ A : Pol, lins (left.map exI) A = lins (sh.map exI) (lins (al.map exI) A)
  r : ∀ A : Pol, lins (right.map exI) A = lins (sh.map exI) (lins (sp.map exI) A)
  ll : left.length = sh.length + al.length
  rl : right.length = sh.length + sp.length
  sub : ∀ x ∈ sp, x ∈ right
  subl : ∀ x ∈ al, x ∈ left
  subh : ∀ x ∈ sh, x ∈ left
  apart : ∀ x ∈ al, ∀ y ∈ sp, x ≠ y
theorem parted (right : List Int) : ∀ left : List Int, Parted left right (parts left right).1 (parts left right).2.1 (parts left right).2.2 := by
  intro left
  have key : ∀ (n : Nat) (left : List Int), left.length = n → Parted left right (parts left right).1 (parts left right).2.1 (parts left right).2.2 := by
    intro n
    induction n with
    | zero =>
      intro left h
      have := List.eq_nil_of_length_eq_zero h
      subst this
      refine ⟨fun _ => rfl, fun _ => rfl, rfl, ?_, fun _ h => h, (fun _ h => nomatch h), (fun _ h => nomatch h), (fun _ h => nomatch h)⟩
      show right.length = 0 + right.length
      omega
    | succ n ih =>
      intro left hl
      obtain ⟨l', p, rfl⟩ : ∃ l' p, left = l' ++ [p] := by
        have : left ≠ [] := by intro e; rw [e] at hl; cases hl
        exact ⟨left.dropLast, left.getLast this, (List.dropLast_concat_getLast this).symm⟩
      have I := ih l' (by rw [List.length_append] at hl; simpa using hl)
      rw [parts_snoc]
      generalize parts l' right = st at I
      unfold part1
      split
      · rename_i hm
        refine ⟨fun A => ?_, fun A => ?_, ?_, ?_, fun x hx => I.sub x (List.mem_of_mem_erase hx), fun x hx => List.mem_append_left _ (I.subl x hx), fun x hx => ?_, fun x hx y hy => I.apart x hx y (List.mem_of_mem_erase hy)⟩
        · rw [List.map_append, lins_append, I.l, List.map_append, lins_append]
          try rfl
        · rw [I.r, lins_erase hm, List.map_append, lins_append]
          first | done | (show _ = lin (exI p) _; rw [lins_lin]) | skip
        · rw [List.length_append, List.length_append, I.ll]; simp; omega
        · rw [List.length_append, I.rl, List.length_erase_of_mem hm]
          have := List.length_pos_of_mem hm
          simp; omega
        · rcases List.mem_append.1 hx with h | h
          · exact List.mem_append_left _ (I.subh x h)
          · exact List.mem_append_right _ h
      · rename_i hm
        refine ⟨fun A => ?_, I.r, ?_, I.rl, I.sub, fun x hx => ?_, fun x hx => List.mem_append_left _ (I.subh x hx), fun x hx y hy => ?_⟩
        · rw [List.map_append, lins_append, I.l, List.map_append, lins_append]
          show lin (exI p) _ = lins _ (lin (exI p) _)
          rw [lins_lin]
        · rw [List.length_append, List.length_append, I.ll]; simp; omega
        · rcases List.mem_append.1 hx with h | h
          · exact List.mem_append_left _ (I.subl x h)
          · exact List.mem_append_right _ h
        · rcases List.mem_append.1 hx with h | h
          · exact I.apart x h y hy
          · rw [List.mem_singleton.1 h]; intro e; exact hm (e ▸ hy)
  exact key _ left rfl

theorem laid_head (ns : List Int) (a : F) (h : a ≠ 0#8) : cf (laid ns a) 0 = a := by
  have e := P_lead (laid ns a) (by rw [laid_length]; omega)
  rw [P_laid, laid_length] at e
  obtain ⟨_, e2⟩ := lins_dg (ns.map exI) (dg_con h)
  rw [List.length_map, Nat.zero_add] at e2
  rw [Nat.add_sub_cancel, e2] at e
  exact e.symm
theorem strip_eq {p res : List F} (h : Strip p res) (h0 : cf p 0 ≠ 0#8) : res = p := by
  have key : ∀ {p res : List F}, Strip p res → cf p 0 ≠ 0#8 → res = p := by
    intro p res h
    induction h with
    | refl => intro _; rfl
    | drop _ _ hz ih => intro h0; have := ih h0; rw [this] at hz; exact absurd hz h0
  exact key h h0
theorem exI_inj {a b : Int} (ha : 0 ≤ a ∧ a < 255) (hb : 0 ≤ b ∧ b < 255) (h : exI a = exI b) : a = b := by
  unfold exI at h
  have := ex_inj h
  omega
theorem prodX_ne (α : F) : ∀ T : List F, (∀ β ∈ T, α ≠ β) → prodX α T ≠ 0#8
  | [], _ => by show (1#8 : F) ≠ 0#8; decide
  | β :: T, h => mul_ne (fun e => h β (.head _) (xzero e)) (prodX_ne α T fun x hx => h x (.tail _ hx))
theorem resX_ne {b : F} (hb : b ≠ 0#8) (T : List F) : ∀ S : List F, (∀ α ∈ S, ∀ β ∈ T, α ≠ β) → resX b T S ≠ 0#8
  | [], _ => by show (1#8 : F) ≠ 0#8; decide
  | α :: S, h => mul_ne (mul_ne (prodX_ne α T (h α (.head _))) hb) (resX_ne hb T S fun x hx => h x (.tail _ hx))
/-- the resultant of what the two have for themselves -/
noncomputable def resOf (la ob : F) (al sp : List Int) : F := mul (resX ob (sp.map exI) (al.map exI)) (pw la sp.length)
theorem law_start {left right sh al sp : List Int} {la ob : F} (hla : la ≠ 0#8) (hob : ob ≠ 0#8) (p : Parted left right sh al sp) : Eu (sh.map exI) (resOf la ob al sp) (laid left la) (laid right ob) 0 := by
  have := eu_init (S := sh.map exI) (al := al.map exI) (sp := sp.map exI) hla hob (u := laid left la) (l := laid right ob) (by rw [P_laid, p.l]) (by rw [P_laid, p.r]) (by rw [laid_length, p.ll, List.length_map, List.length_map]; omega) (by rw [laid_length, p.rl, List.length_map, List.length_map]; omega) (laid_head _ _ hla) (laid_head _ _ hob)
  rw [List.length_map] at this
  exact this
theorem resOf_ne {left right sh al sp : List Int} {la ob : F} (hla : la ≠ 0#8) (hob : ob ≠ 0#8) (p : Parted left right sh al sp) (hl : ∀ x ∈ left, 0 ≤ x ∧ x < 255) (hr : ∀ x ∈ right, 0 ≤ x ∧ x < 255) : resOf la ob al sp ≠ 0#8 := by
  refine mul_ne (resX_ne hob _ _ fun α hα β hβ => ?_) (pw_ne hla _)
  obtain ⟨x, hx, rfl⟩ := List.mem_map.1 hα
  obtain ⟨y, hy, rfl⟩ := List.mem_map.1 hβ
  exact fun e => p.apart x hx y hy (exI_inj (hl x (p.subl x hx)) (hr y (p.sub y hy)) e)
/-- the exponents that the law adds up -/
def dueIn (α : F) (d : Int) (sp : List Int) : Int := sp.foldl (fun d y => d + (lg (α ^^^ exI y) : Int)) d
def dueOf (d : Int) (al sp : List Int) : Int := al.foldl (fun d x => dueIn (exI x) d sp) d
theorem exI_lg {b : F} (hb : b ≠ 0#8) (n : Int) : exI (n + (lg b : Int)) = mul (exI n) b := by rw [Int.add_comm, exI_add _ hb, mul_comm]
theorem dueIn_is (α : F) : ∀ (sp : List Int) (d : Int), (∀ y ∈ sp, α ≠ exI y) → exI (dueIn α d sp) = mul (exI d) (prodX α (sp.map exI))
  | [], d, _ => (mul_one _).symm
  | y :: sp, d, h => by
    show exI (dueIn α (d + (lg (α ^^^ exI y) : Int)) sp) = mul _ (mul (α ^^^ exI y) (prodX α (sp.map exI)))
    rw [dueIn_is α sp _ fun z hz => h z (.tail _ hz), exI_lg (fun e => h y (.head _) (xzero e)), mul_assoc]
theorem dueOf_is {ob : F} (hob : ob ≠ 0#8) (sp : List Int) : ∀ (al : List Int) (d : Int), (∀ x ∈ al, ∀ y ∈ sp, exI x ≠ exI y) → mul (exI (dueOf d al sp)) (pw ob al.length) = mul (exI d) (resX ob (sp.map exI) (al.map exI))
  | [], d, _ => rfl
  | x :: al, d, h => by
    show mul (exI (dueOf (dueIn (exI x) d sp) al sp)) (mul ob (pw ob al.length)) = mul _ (mul (mul (prodX (exI x) (sp.map exI)) ob) (resX ob (sp.map exI) (al.map exI)))
    rw [mul_comm ob, ← mul_assoc, dueOf_is hob sp al _ fun z hz => h z (.tail _ hz), dueIn_is _ sp d (h x (.head _))]
    generalize resX ob (sp.map exI) (al.map exI) = R
    generalize prodX (exI x) (sp.map exI) = Pr
    rw [mul_assoc, mul_assoc, mul_assoc]
    rw [mul_comm R ob]
theorem law_due {left right sh al sp : List Int} {la ob : F} (hla : la ≠ 0#8) (hob : ob ≠ 0#8) (p : Parted left right sh al sp) (hl : ∀ x ∈ left, 0 ≤ x ∧ x < 255) (hr : ∀ x ∈ right, 0 ≤ x ∧ x < 255) :
    exI (dueOf ((lg la : Int) * (sp.length : Int) + (lg ob : Int) * (al.length : Int)) al sp) = resOf la ob al sp := by
  have h := dueOf_is hob sp al ((lg la : Int) * (sp.length : Int)) fun x hx y hy e => p.apart x hx y hy (exI_inj (hl x (p.subl x hx)) (hr y (p.sub y hy)) e)
  have shift : ∀ (al : List Int) (d e : Int), dueOf (d + e) al sp = dueOf d al sp + e := by
    have s1 : ∀ (α : F) (sp : List Int) (d e : Int), dueIn α (d + e) sp = dueIn α d sp + e := by
      intro α sp
      induction sp with
      | nil => intro d e; rfl
      | cons y sp ih => intro d e; show dueIn α (d + e + _) sp = dueIn α (d + _) sp + e; rw [← ih]; congr 1; omega
    intro al
    induction al with
    | nil => intro d e; rfl
    | cons x al ih => intro d e; show dueOf (dueIn _ (d + e) sp) al sp = dueOf (dueIn _ d sp) al sp + e; rw [s1, ih]
  rw [shift, ← exI_pw hob, h]
  unfold resOf
  have e0 : exI ((lg la : Int) * (sp.length : Int)) = pw la sp.length := by
    have := exI_pw hla 0 sp.length
    rw [Int.zero_add] at this
    rw [← this]
    show mul (ex 0) _ = _
    rw [ex_zero, one_mul]
  rw [e0, mul_comm]
end Mine
end

-- part L2
section
open PySem PySem.W PyProof.Rows PySem.Spec PySem.Calls
namespace Mine
theorem loop_start {h₀ h : Heap} {L : Addr} {x dx r rr x' dx' r' r3 : Addr} {ox od ol orr ox' od' ol' o3 : Obj} {a1 a2 a3 a4 a5 a6 a7 c : Addr × Obj}
  (N : News h₀ L h ((x, ox) :: (dx, od) :: (r, ol) :: (rr, orr) :: (x', ox') :: (dx', od') :: (r', ol') :: (r3, o3) :: a1 :: a2 :: a3 :: a4 :: a5 :: c :: a6 :: [a7]))
  (k1 : ∀ p ∈ a1 :: a2 :: a3 :: a4 :: a5 :: c :: a6 :: [a7], p.1 ≠ r3)
  (k2 : ∀ p ∈ (r3, o3) :: a1 :: a2 :: a3 :: a4 :: a5 :: c :: a6 :: [a7], p.1 < dx') (k3 : dx' < x') (k4 : x' < r')
  (k5 : ∀ p ∈ (x', ox') :: (dx', od') :: (r', ol') :: (r3, o3) :: a1 :: a2 :: a3 :: a4 :: a5 :: c :: a6 :: [a7], p.1 ≠ rr)
  (k6 : ∀ p ∈ (rr, orr) :: (x', ox') :: (dx', od') :: (r', ol') :: (r3, o3) :: a1 :: a2 :: a3 :: a4 :: a5 :: c :: a6 :: [a7], p.1 < dx) (k7 : dx < x) (k8 : x < r)
  (kc : ∀ p ∈ a1 :: a2 :: a3 :: a4 :: a5 :: a6 :: [a7], p.1 ≠ c.1) :
  News h₀ L h ([(x, ox), (dx, od), (r, ol), (x', ox'), (dx', od'), (r', ol'), c] ++ ((rr, orr) :: (r3, o3) :: a1 :: a2 :: a3 :: a4 :: a5 :: a6 :: [a7])) ∧
  Off [(x, ox), (dx, od), (r, ol), (x', ox'), (dx', od'), (r', ol'), c] ((rr, orr) :: (r3, o3) :: a1 :: a2 :: a3 :: a4 :: a5 :: a6 :: [a7]) ∧
  (@Ne Nat x c.1 ∧ @Ne Nat dx c.1 ∧ @Ne Nat r c.1 ∧ @Ne Nat x' c.1 ∧ @Ne Nat dx' c.1 ∧ @Ne Nat r' c.1) := by
  have m1 : ∀ q ∈ (r3, o3) :: a1 :: a2 :: a3 :: a4 :: a5 :: a6 :: [a7], q ∈ (r3, o3) :: a1 :: a2 :: a3 :: a4 :: a5 :: c :: a6 :: [a7] := fun q hq => by
    simp only [List.mem_cons, List.not_mem_nil, or_false] at hq ⊢
    rcases hq with h | h | h | h | h | h | h | h <;> simp [h]
  have mc : c ∈ (r3, o3) :: a1 :: a2 :: a3 :: a4 :: a5 :: c :: a6 :: [a7] := by simp
  refine ⟨?_, ?_, ?_⟩
  · refine fun p hp => N p ?_
    simp only [List.cons_append, List.nil_append, List.mem_cons, List.not_mem_nil, or_false] at hp ⊢
    rcases hp with h | h | h | h | h | h | h | h | h | h | h | h | h | h | h | h <;> simp [h]
  · have big : ∀ v : Addr, (∀ p ∈ (rr, orr) :: (x', ox') :: (dx', od') :: (r', ol') :: (r3, o3) :: a1 :: a2 :: a3 :: a4 :: a5 :: c :: a6 :: [a7], p.1 < v) → ∀ q ∈ (rr, orr) :: (r3, o3) :: a1 :: a2 :: a3 :: a4 :: a5 :: a6 :: [a7], q.1 ≠ v := fun v hv q hq => by
      rcases List.mem_cons.1 hq with rfl | hq
      · exact Nat.ne_of_lt (hv _ (.head _))
      · exact Nat.ne_of_lt (hv _ (.tail _ (.tail _ (.tail _ (.tail _ (m1 q hq))))))
    have mid : ∀ v : Addr, rr ≠ v → (∀ p ∈ (r3, o3) :: a1 :: a2 :: a3 :: a4 :: a5 :: c :: a6 :: [a7], p.1 < v) → ∀ q ∈ (rr, orr) :: (r3, o3) :: a1 :: a2 :: a3 :: a4 :: a5 :: a6 :: [a7], q.1 ≠ v := fun v he hv q hq => by
      rcases List.mem_cons.1 hq with rfl | hq
      · exact he
      · exact Nat.ne_of_lt (hv _ (m1 q hq))
    have k6' : ∀ p ∈ (rr, orr) :: (x', ox') :: (dx', od') :: (r', ol') :: (r3, o3) :: a1 :: a2 :: a3 :: a4 :: a5 :: c :: a6 :: [a7], p.1 < x := fun p hp => Nat.lt_trans (k6 p hp) k7
    have k2' : ∀ p ∈ (r3, o3) :: a1 :: a2 :: a3 :: a4 :: a5 :: c :: a6 :: [a7], p.1 < x' := fun p hp => Nat.lt_trans (k2 p hp) k3
    refine Off.cons (big _ k6') (Off.cons (big _ k6) (Off.cons (big _ fun p hp => Nat.lt_trans (k6' p hp) k8) (Off.cons (mid _ (Ne.symm (k5 _ (.head _))) k2') (Off.cons (mid _ (Ne.symm (k5 _ (.tail _ (.head _)))) k2) (Off.cons (mid _ (Ne.symm (k5 _ (.tail _ (.tail _ (.head _))))) fun p hp => Nat.lt_trans (k2' p hp) k4) (Off.cons (o := c.2) ?_ Off.nil))))))
    intro q hq
    rcases List.mem_cons.1 hq with rfl | hq
    · exact Ne.symm (k5 c (.tail _ (.tail _ (.tail _ mc))))
    rcases List.mem_cons.1 hq with rfl | hq
    · exact Ne.symm (k1 c (by simp))
    · exact kc q hq
  · have h2 := k2 c mc
    have h6 := k6 c (by simp)
    have h7 : dx < x := k7
    clear k1 k2 k5 k6 kc N m1 mc
    simp only [Addr] at *
    omega
theorem frm9 {m m₀ : Str → Option Value} {a0 a1 a2 a3 a4 a5 a6 a7 a8 : Str} (h : ∀ z, z ≠ a0 → z ≠ a1 → z ≠ a2 → z ≠ a3 → z ≠ a4 → z ≠ a5 → z ≠ a6 → z ≠ a7 → z ≠ a8 → m z = m₀ z) : m = fun z => if z = a0 then m a0 else if z = a1 then m a1 else if z = a2 then m a2 else if z = a3 then m a3 else if z = a4 then m a4 else if z = a5 then m a5 else if z = a6 then m a6 else if z = a7 then m a7 else if z = a8 then m a8 else m₀ z := by
  funext z
  by_cases h0 : z = a0
  · rw [if_pos h0]; exact congrArg m h0
  rw [if_neg h0]
  by_cases h1 : z = a1
  · rw [if_pos h1]; exact congrArg m h1
  rw [if_neg h1]
  by_cases h2 : z = a2
  · rw [if_pos h2]; exact congrArg m h2
  rw [if_neg h2]
  by_cases h3 : z = a3
  · rw [if_pos h3]; exact congrArg m h3
  rw [if_neg h3]
  by_cases h4 : z = a4
  · rw [if_pos h4]; exact congrArg m h4
  rw [if_neg h4]
  by_cases h5 : z = a5
  · rw [if_pos h5]; exact congrArg m h5
  rw [if_neg h5]
  by_cases h6 : z = a6
  · rw [if_pos h6]; exact congrArg m h6
  rw [if_neg h6]
  by_cases h7 : z = a7
  · rw [if_pos h7]; exact congrArg m h7
  rw [if_neg h7]
  by_cases h8 : z = a8
  · rw [if_pos h8]; exact congrArg m h8
  rw [if_neg h8]
  exact h z h0 h1 h2 h3 h4 h5 h6 h7 h8
/-- what the law's loop keeps -/
def MainJ (S : List F) (c₀ : F) (cL : Addr) (m₀ : Str → Option Value) (i : Nat) (m₁ : Str → Option Value) (loc : List (Addr × Obj)) : Prop :=
  (∀ z, z ≠ Str.ofString "_" → z ≠ Str.ofString "upper" → z ≠ Str.ofString "rest" → z ≠ Str.ofString "told" → z ≠ Str.ofString "octet" → z ≠ Str.ofString "passed" → z ≠ Str.ofString "ended" → z ≠ Str.ofString "above" → z ≠ Str.ofString "below" → m₁ z = m₀ z) ∧
  ∃ x dx r vr k n hsh tk y dy ry vy ky ny hshy tky u l passed t oc d,
    m₁ (Str.ofString "above") = some (.ref x) ∧ m₁ (Str.ofString "below") = some (.ref y) ∧ m₁ (Str.ofString "passed") = some (.int passed t) ∧ m₁ (Str.ofString "ended") = some (.bool false) ∧
    loc = [(y, instObj 80 dy), (dy, dictOf [⟨hshy, .str "num" tky, .ref ry⟩] ny), (ry, listOf (List.toArray vy) ky), (x, instObj 80 dx), (dx, dictOf [⟨hsh, .str "num" tk, .ref r⟩] n), (r, listOf (List.toArray vr) k), (cL, oc)] ∧ oc.data = .cell d ∧
    IntsAre vr (List.map up u) ∧ IntsAre vy (List.map up l) ∧ Eu S c₀ u l passed ∧ u.length ≤ 6 ∧ l.length + i ≤ 6 ∧ (@Ne Nat y cL ∧ @Ne Nat dy cL ∧ @Ne Nat ry cL ∧ @Ne Nat x cL ∧ @Ne Nat dx cL ∧ @Ne Nat r cL)
theorem iter_main {prog : Program} {w : World} {A : Around} {E : Value → Shared → Prop} {s : Shared} {env : Env} {h₀ : Heap} {x : Str} {body : List Stmt} {Q : Flow → Shared → Prop} {r : Addr} {t₀ u₀ v₀ : Tok} {m : Str → Option Value} {loc news : List (Addr × Obj)} {S : List F} {c₀ : F} {cL : Addr}
    (hh : A.handled = none) (hr : IsRange s.heap r 0 12 1 t₀ u₀ v₀) (F : Fr h₀ env.locals s.heap m) (N : News h₀ env.locals s.heap (loc ++ news)) (ho : Off loc news) (h0 : MainJ S c₀ cL m 0 m loc)
    (step : ∀ i t m₁ loc₁ h tk nw, i < 12 → MainJ S c₀ cL m i m₁ loc₁ → (∀ p ∈ news, p ∈ nw) → Off loc₁ nw → Fr h₀ env.locals h (fun y => if y = x then some (.int (i : Int) t) else m₁ y) → News h₀ env.locals h (loc₁ ++ nw) →
      wpAny (model prog w) A (execs body env) (TurnPost h₀ env.locals (MainJ S c₀ cL m (i + 1)) nw s Q) E { s with heap := h, toks := tk }) :
    wpAny (model prog w) A (pyIter (.ref r)) (fun it s₂ => LoopAtV prog w A h₀ env x body Q E it s₂) E s :=
  iter_range (n := 12) (MainJ S c₀ cL) hh hr rfl (by decide) F N ho h0 step fun m₁ loc₁ h tk hJ => by
    obtain ⟨_, x, dx, r, vr, k, n, hsh, tk, y, dy, ry, vy, ky, ny, hshy, tky, u, l, passed, t, oc, d, _, _, _, _, _, _, _, _, hE, _, hl, _⟩ := hJ
    obtain ⟨_, _, _, _, _, _, _, _, _, _, ll, _⟩ := hE
    omega
end Mine
end

-- part L3
section
open PySem PySem.W PyProof.Rows PySem.Spec PySem.Calls
set_option maxRecDepth 100000
namespace Mine
theorem strip_id {p r : List F} (h : Strip p r) (nz : ¬ (1 < p.length ∧ cf p 0 = 0#8)) : r = p := by
  have key : ∀ {p r : List F}, Strip p r → ¬ (1 < p.length ∧ cf p 0 = 0#8) → r = p := by
    intro p r h
    induction h with
    | refl => intro _; rfl
    | drop _ h1 h2 ih => intro nz; have e := ih nz; rw [e] at h1 h2; exact absurd ⟨h1, h2⟩ nz
  exact key h nz
/-- the next statement as far as a meeting place of its ways -/
theorem execs_join {M : Model} {A : Around} {st : Stmt} {rest : List Stmt} {env : Env} {Q : Flow → Shared → Prop} {E : Value → Shared → Prop} {s : Shared} (J : Shared → Prop)
    (h1 : wpAny M A (exec st env) (fun f s' => match f with | .next => J s' | f => Q f s') E s) (h2 : ∀ s', J s' → wpAny M A (execs rest env) Q E s') : wpAny M A (execs (st :: rest) env) Q E s :=
  wpAny_execs_cons (wpAny_mono h1 (fun f s' q => by cases f <;> first | exact h2 _ q | exact q) fun _ _ e => e)
section
variable {prog : Program} {w : World} {A : Around} {E : Value → Shared → Prop} {s : Shared} {h₀ : Heap} {L D D2 : Addr} {news : List (Addr × Obj)} {vs ws : List Value} {q q2 : List F} {n n2 : Nat} {Q : Value → Shared → Prop}
theorem map_up_inj {q q2 : List F} : (List.map up q = List.map up q2) ↔ q = q2 := by
  constructor
  · intro h
    exact (List.map_inj_right fun a b e => up_inj e).1 h
  · rintro rfl; rfl
theorem any_up (a : F) (q : List F) : (List.map up q).any (· == up a) = decide (a ∈ q) := by
  induction q with
  | nil => rfl
  | cons b r ih =>
    rw [List.map_cons, List.any_cons, ih]
    by_cases e : b = a
    · subst e; simp
    · have : up b ≠ up a := fun h => e (up_inj h)
      rw [beq_false_of_ne this, Bool.false_or]
      by_cases h : a ∈ r
      · simp [h]
      · simp [h, Ne.symm e]
theorem up_in {t : Tok} (N : News h₀ L s.heap news) (hm : (D, listOf vs.toArray n) ∈ news) (hi : IntsAre vs (List.map up q)) (h : ∀ b : Bool, (b = true → 0#8 ∈ q) → (b = false → 0#8 ∉ q) → Q (.bool b) s) :
    wpAny (model prog w) A (compareOp .In (.int 0 t) (.ref D)) Q E s := by
  refine in_list_ints (PySem.IsL.isList (n := n) (N _ hm).1) hi ?_
  rw [show (0 : Int) = up 0#8 from rfl, any_up]
  exact h _ (fun h => of_decide_eq_true h) (fun h => of_decide_eq_false h)
theorem int_in {ns : List Int} {k : Int} {t : Tok} (N : News h₀ L s.heap news) (hm : (D, listOf vs.toArray n) ∈ news) (hi : IntsAre vs ns) (h : ∀ b : Bool, (b = true → k ∈ ns) → (b = false → k ∉ ns) → Q (.bool b) s) :
    wpAny (model prog w) A (compareOp .In (.int k t) (.ref D)) Q E s := by
  refine in_list_ints (PySem.IsL.isList (n := n) (N _ hm).1) hi (h _ (fun h => ?_) (fun h => ?_))
  · obtain ⟨x, hx, e⟩ := List.any_eq_true.1 h
    rw [← eq_of_beq e]; exact hx
  · intro hk
    have := List.any_eq_false.1 h k hk
    simp at this
theorem up_eq (N : News h₀ L s.heap news) (hm : (D, listOf vs.toArray n) ∈ news) (hm2 : (D2, listOf ws.toArray n2) ∈ news) (hi : IntsAre vs (List.map up q)) (hj : IntsAre ws (List.map up q2)) (hu : A.units + 64 < cLine)
    (h : Q (.bool (decide (q = q2))) s) : wpAny (model prog w) A (compareOp .Eq (.ref D) (.ref D2)) Q E s := by
  refine ke_eq_ints (PySem.IsL.isList (n := n) (N _ hm).1) (PySem.IsL.isList (n := n2) (N _ hm2).1) hi hj hu ?_
  have e : decide (List.map up q = List.map up q2) = decide (q = q2) := by
    by_cases h : q = q2
    · rw [decide_eq_true h, decide_eq_true (map_up_inj.2 h)]
    · rw [decide_eq_false h, decide_eq_false (fun x => h (map_up_inj.1 x))]
  rw [e]; exact h
theorem up_eqT (N : News h₀ L s.heap news) (hm : (D, listOf vs.toArray n) ∈ news) (hm2 : (D2, listOf ws.toArray n2) ∈ news) (hi : IntsAre vs (List.map up q)) (hj : IntsAre ws (List.map up q2)) (hu : A.units + 64 < cLine) (e : q = q2)
    (h : Q (.bool true) s) : wpAny (model prog w) A (compareOp .Eq (.ref D) (.ref D2)) Q E s := up_eq N hm hm2 hi hj hu (by rw [decide_eq_true e]; exact h)
theorem up_eqF (N : News h₀ L s.heap news) (hm : (D, listOf vs.toArray n) ∈ news) (hm2 : (D2, listOf ws.toArray n2) ∈ news) (hi : IntsAre vs (List.map up q)) (hj : IntsAre ws (List.map up q2)) (hu : A.units + 64 < cLine) (e : q ≠ q2)
    (h : Q (.bool false) s) : wpAny (model prog w) A (compareOp .Eq (.ref D) (.ref D2)) Q E s := up_eq N hm hm2 hi hj hu (by rw [decide_eq_false e]; exact h)
theorem up_ne2 (N : News h₀ L s.heap news) (hm : (D, listOf vs.toArray n) ∈ news) (hm2 : (D2, listOf ws.toArray n2) ∈ news) (hi : IntsAre vs (List.map up q)) (hj : IntsAre ws (List.map up q)) (hu : A.units + 64 < cLine)
    (h : Q (.bool false) s) : wpAny (model prog w) A (compareOp .NotEq (.ref D) (.ref D2)) Q E s := by
  refine ke_ne_ints (PySem.IsL.isList (n := n) (N _ hm).1) (PySem.IsL.isList (n := n2) (N _ hm2).1) hi hj hu ?_
  rw [decide_eq_true rfl]; exact h
end
/-- where the ways of a turn's division meet -/
structure MidJ (h₀ : Heap) (L : Addr) (m : Str → Option Value) (news : List (Addr × Obj)) (s : Shared) (u l : List F) (x dx r : Addr) (s' : Shared) : Prop where
  out : ∃ h' tk' m' rl vr kr res, s' = { s with heap := h', toks := tk' } ∧ Fr h₀ L h' m' ∧ (∀ z, z ≠ Str.ofString "rest" → z ≠ Str.ofString "told" → z ≠ Str.ofString "octet" → m' z = m z) ∧ m' (Str.ofString "rest") = some (.ref rl) ∧
    IntsAre vr (List.map up res) ∧
    ((l.length = 1 ∧ res = [0#8] ∧ News h₀ L h' ((rl, listOf (List.toArray vr) kr) :: news)) ∨
     (res.length < l.length ∧ 0 < res.length ∧ res.length ≤ u.length ∧ Red (P l) (P u) (P res) ∧ ¬ (1 < res.length ∧ cf res 0 = 0#8) ∧
       ∃ x' dx' r' vr' k' hsh' tk2 n', m' (Str.ofString "told") = some (.ref x') ∧ IntsAre vr' (List.map up res) ∧
         News h₀ L h' ((rl, listOf (List.toArray vr) kr) :: (x', instObj 80 dx') :: (dx', dictOf [⟨hsh', .str "num" tk2, .ref r'⟩] n') :: (r', listOf (List.toArray vr') k') :: news) ∧
         ((x' = x ∧ dx' = dx ∧ r' = r) ∨ ((∀ p ∈ news, p.1 ≠ x') ∧ (∀ p ∈ news, p.1 ≠ dx') ∧ (∀ p ∈ news, p.1 ≠ r')))))
theorem mid_join {prog : Program} {w : World} {A : Around} {st : Stmt} {rest : List Stmt} {env : Env} {Q : Flow → Shared → Prop} {E : Value → Shared → Prop} {s : Shared} {h₀ : Heap} {L : Addr} {m : Str → Option Value} {z : Addr × Obj} {news : List (Addr × Obj)} {u l : List F} {x dx r : Addr}
    (_F : Fr h₀ L s.heap m) (_N : News h₀ L s.heap (z :: news))
    (h1 : wpAny (model prog w) A (exec st env) (fun f s' => match f with | .next => MidJ h₀ L m news s u l x dx r s' | f => Q f s') E s)
    (h2 : ∀ s', MidJ h₀ L m news s u l x dx r s' → wpAny (model prog w) A (execs rest env) Q E s') : wpAny (model prog w) A (execs (st :: rest) env) Q E s := execs_join _ h1 h2
end Mine
end

-- part L4
section
open PySem PySem.W PyProof.Rows PySem.Spec PySem.Calls
set_option maxRecDepth 100000
namespace Mine
theorem Eu.heads {S : List F} {c₀ : F} {u l : List F} {passed : Int} (h : Eu S c₀ u l passed) : 0 < u.length ∧ 0 < l.length ∧ cf u 0 ≠ 0#8 ∧ cf l 0 ≠ 0#8 := by
  obtain ⟨A, B, n, m, c, hA, hB, dA, dB, lu, ll, au, bl, rs, hc⟩ := h
  exact ⟨by omega, by omega, au ▸ dA.1, bl ▸ dB.1⟩
theorem rch_pos {q p row : List F} (h : Rch q p row) (hp : 0 < p.length) (hq : 1 < q.length) : 0 < row.length := by
  induction h with
  | refl => exact hp
  | step _ hl ih => rw [List.length_drop, lowered_length]; omega
theorem nz_of_any {q : List F} (h : (List.map up q).any (fun x => x == 0) = false) : ∀ j, j < q.length → cf q j ≠ 0#8 := by
  intro j hj e
  rw [show (0 : Int) = up 0#8 from rfl, any_up] at h
  refine of_decide_eq_false h ?_
  rw [← e]
  have := cf_get q j hj
  exact List.mem_of_getElem? this
theorem ups_item2 {vs : List Value} {q : List F} {j : Nat} {v : Value} (hi : IntsAre vs (List.map up q)) (hv : vs[j]? = some v) : ∃ t, v = .int (up (cf q j)) t ∧ 0 ≤ up (cf q j) ∧ up (cf q j) < 256 := by
  obtain ⟨_, t, e⟩ := ups_item hi hv
  exact ⟨t, e, up_nn _, up_lt _⟩
theorem news_three {h₀ h : Heap} {L : Addr} {nw' news : List (Addr × Obj)} {a b c : Addr × Obj} (N : News h₀ L h nw') (hs : ∀ p ∈ news, p ∈ nw') (m1 : a ∈ nw') (m2 : b ∈ nw') (m3 : c ∈ nw') : News h₀ L h (a :: b :: c :: news) := fun p hp => by
  rcases List.mem_cons.1 hp with rfl | hp
  · exact N _ m1
  rcases List.mem_cons.1 hp with rfl | hp
  · exact N _ m2
  rcases List.mem_cons.1 hp with rfl | hp
  · exact N _ m3
  · exact N _ (hs _ hp)
section
variable {h₀ h' : Heap} {L : Addr} {m m' : Str → Option Value} {news nw' : List (Addr × Obj)} {s : Shared} {u l res : List F} {x dx r x' dx' r' rl : Addr} {tk' : Nat} {vr vr' : List Value} {kr k' n' : Nat} {hsh' : Int} {tk2 : Tok}
theorem MidJ.const (F : Fr h₀ L h' m') (N : News h₀ L h' ((rl, listOf (List.toArray vr) kr) :: news)) (hag : ∀ z, z ≠ Str.ofString "rest" → z ≠ Str.ofString "told" → z ≠ Str.ofString "octet" → m' z = m z) (hr : m' (Str.ofString "rest") = some (.ref rl)) (hi : IntsAre vr [0]) (h1 : l.length = 1) :
    MidJ h₀ L m news s u l x dx r { s with heap := h', toks := tk' } := ⟨h', tk', m', rl, vr, kr, [0#8], rfl, F, hag, hr, hi, .inl ⟨h1, rfl, N⟩⟩
theorem MidJ.told (F : Fr h₀ L h' m') (N : News h₀ L h' nw') (hag : ∀ z, z ≠ Str.ofString "rest" → z ≠ Str.ofString "told" → z ≠ Str.ofString "octet" → m' z = m z) (hrest : m' (Str.ofString "rest") = some (.ref rl)) (htold : m' (Str.ofString "told") = some (.ref x'))
    (i : IntsAre vr (List.map up res)) (i' : IntsAre vr' (List.map up res)) (q1 : (rl, listOf (List.toArray vr) kr) ∈ nw') (q2 : (x', instObj 80 dx') ∈ nw') (q3 : (dx', dictOf [⟨hsh', .str "num" tk2, .ref r'⟩] n') ∈ nw') (q4 : (r', listOf (List.toArray vr') k') ∈ nw') (q5 : ∀ p ∈ news, p ∈ nw')
    (a : res.length < l.length) (b : 0 < res.length) (c : res.length ≤ u.length) (rd : Red (P l) (P u) (P res)) (nz : ¬ (1 < res.length ∧ cf res 0 = 0#8))
    (ho : (x' = x ∧ dx' = dx ∧ r' = r) ∨ ((∀ p ∈ news, p.1 ≠ x') ∧ (∀ p ∈ news, p.1 ≠ dx') ∧ (∀ p ∈ news, p.1 ≠ r'))) :
    MidJ h₀ L m news s u l x dx r { s with heap := h', toks := tk' } := ⟨h', tk', m', rl, vr, kr, res, rfl, F, hag, hrest, i, .inr ⟨a, b, c, rd, nz, x', dx', r', vr', k', hsh', tk2, n', htold, i', fun p hp => N p (by
      rcases List.mem_cons.1 hp with rfl | hp
      · exact q1
      rcases List.mem_cons.1 hp with rfl | hp
      · exact q2
      rcases List.mem_cons.1 hp with rfl | hp
      · exact q3
      rcases List.mem_cons.1 hp with rfl | hp
      · exact q4
      · exact q5 p hp), ho⟩⟩
theorem frm3' {m m₀ : Str → Option Value} {a b c : Str} (h : ∀ z, z ≠ a → z ≠ b → z ≠ c → m z = m₀ z) : m = fun z => if z = a then m a else if z = b then m b else if z = c then m c else m₀ z := frm3 h
theorem MidJ.cases {s' : Shared} (j : MidJ h₀ L m news s u l x dx r s') (hcl : cf l 0 ≠ 0#8) :
  (∃ h' tk' u4 u5 rl vr kr, s' = { s with heap := h', toks := tk' } ∧ Fr h₀ L h' (fun z => if z = Str.ofString "rest" then some (.ref rl) else if z = Str.ofString "told" then u4 else if z = Str.ofString "octet" then u5 else m z) ∧
     IntsAre vr (List.map up [0#8]) ∧ Red (P l) (P u) zp ∧ News h₀ L h' ((rl, listOf (List.toArray vr) kr) :: news)) ∨
  (∃ h' tk' u5 rl vr kr res x' dx' r' vr' k' hsh' tk2 n', s' = { s with heap := h', toks := tk' } ∧ Fr h₀ L h' (fun z => if z = Str.ofString "rest" then some (.ref rl) else if z = Str.ofString "told" then some (.ref x') else if z = Str.ofString "octet" then u5 else m z) ∧
     IntsAre vr (List.map up res) ∧ res.length < l.length ∧ 0 < res.length ∧ res.length ≤ u.length ∧ Red (P l) (P u) (P res) ∧ cf res 0 ≠ 0#8 ∧ res ≠ [0#8] ∧ IntsAre vr' (List.map up res) ∧
     News h₀ L h' ((rl, listOf (List.toArray vr) kr) :: (x', instObj 80 dx') :: (dx', dictOf [⟨hsh', .str "num" tk2, .ref r'⟩] n') :: (r', listOf (List.toArray vr') k') :: news) ∧
     ((x' = x ∧ dx' = dx ∧ r' = r) ∨ ((∀ p ∈ news, p.1 ≠ x') ∧ (∀ p ∈ news, p.1 ≠ dx') ∧ (∀ p ∈ news, p.1 ≠ r')))) := by
  obtain ⟨h', tk', m', rl, vr, kr, res, rfl, F, hag, hr, hi, alt⟩ := j.out
  have e := frm3 hag
  rw [hr] at e
  rcases alt with ⟨h1, rfl, N⟩ | ⟨a, b, c, rd, nz, x', dx', r', vr', k', hsh', tk2, n', ht, i', N, ho⟩
  · rw [e] at F
    exact .inl ⟨h', tk', _, _, rl, vr, kr, rfl, F, hi, red_const h1 hcl u, N⟩
  · by_cases hz : res = [0#8]
    · subst hz
      rw [e] at F
      rw [P_nought rfl] at rd
      refine .inl ⟨h', tk', _, _, rl, vr, kr, rfl, F, hi, rd, fun p hp => N p ?_⟩
      rcases List.mem_cons.1 hp with rfl | hp
      · exact .head _
      · exact .tail _ (.tail _ (.tail _ (.tail _ hp)))
    · rw [ht] at e
      rw [e] at F
      refine .inr ⟨h', tk', _, rl, vr, kr, res, x', dx', r', vr', k', hsh', tk2, n', rfl, F, hi, a, b, c, rd, fun h0 => ?_, hz, i', N, ho⟩
      have hl1 : res.length = 1 := by
        rcases Nat.lt_or_ge 1 res.length with h | h
        · exact absurd ⟨h, h0⟩ nz
        · omega
      obtain ⟨z, rfl⟩ := List.length_eq_one_iff.1 hl1
      exact hz (by rw [show z = 0#8 from h0])
theorem Off.sub2 {a b c : List (Addr × Obj)} (h : Off a b) (k : ∀ p ∈ c, p ∈ a) : Off c b := fun p hp q hq => h p (k p hp) q hq
/-- the next turn's part of the ledger lies apart from the rest -/
theorem next_off {y dy ry cL : Addr} {oy ody ory ox odx orr oc ox' odx' or' oc' : Obj} {e f : Addr × Obj} {nw : List (Addr × Obj)}
  (ho : (x' = x ∧ dx' = dx ∧ r' = r) ∨ ((∀ p ∈ e :: f :: (y, oy) :: (dy, ody) :: (ry, ory) :: (x, ox) :: (dx, odx) :: (r, orr) :: (cL, oc') :: nw, p.1 ≠ x') ∧ (∀ p ∈ e :: f :: (y, oy) :: (dy, ody) :: (ry, ory) :: (x, ox) :: (dx, odx) :: (r, orr) :: (cL, oc') :: nw, p.1 ≠ dx') ∧ (∀ p ∈ e :: f :: (y, oy) :: (dy, ody) :: (ry, ory) :: (x, ox) :: (dx, odx) :: (r, orr) :: (cL, oc') :: nw, p.1 ≠ r')))
  (hoff : Off [(y, oy), (dy, ody), (ry, ory), (x, ox), (dx, odx), (r, orr), (cL, oc)] nw) (hap : @Ne Nat y cL ∧ @Ne Nat dy cL ∧ @Ne Nat ry cL ∧ @Ne Nat x cL ∧ @Ne Nat dx cL ∧ @Ne Nat r cL) :
  Off [(x', ox'), (dx', odx'), (r', or'), (y, oy), (dy, ody), (ry, ory), (cL, oc')] nw ∧ (@Ne Nat x' cL ∧ @Ne Nat dx' cL ∧ @Ne Nat r' cL ∧ @Ne Nat y cL ∧ @Ne Nat dy cL ∧ @Ne Nat ry cL) := by
  have h1 := hoff.head
  have h2 := hoff.tail.head
  have h3 := hoff.tail.tail.head
  have h4 := hoff.tail.tail.tail.head
  have h5 := hoff.tail.tail.tail.tail.head
  have h6 := hoff.tail.tail.tail.tail.tail.head
  have h7 := hoff.tail.tail.tail.tail.tail.tail.head
  obtain ⟨q1, q2, q3, q4, q5, q6⟩ := hap
  have t : ∀ {p : Addr × Obj}, p ∈ nw → p ∈ e :: f :: (y, oy) :: (dy, ody) :: (ry, ory) :: (x, ox) :: (dx, odx) :: (r, orr) :: (cL, oc') :: nw := fun h => .tail _ (.tail _ (.tail _ (.tail _ (.tail _ (.tail _ (.tail _ (.tail _ (.tail _ h))))))))
  have tc : (cL, oc') ∈ e :: f :: (y, oy) :: (dy, ody) :: (ry, ory) :: (x, ox) :: (dx, odx) :: (r, orr) :: (cL, oc') :: nw := .tail _ (.tail _ (.tail _ (.tail _ (.tail _ (.tail _ (.tail _ (.tail _ (.head _))))))))
  rcases ho with ⟨rfl, rfl, rfl⟩ | ⟨g1, g2, g3⟩
  · exact ⟨Off.cons h4 (Off.cons h5 (Off.cons h6 (Off.cons h1 (Off.cons h2 (Off.cons h3 (Off.cons h7 Off.nil)))))), q4, q5, q6, q1, q2, q3⟩
  · exact ⟨Off.cons (fun q hq => g1 q (t hq)) (Off.cons (fun q hq => g2 q (t hq)) (Off.cons (fun q hq => g3 q (t hq)) (Off.cons h1 (Off.cons h2 (Off.cons h3 (Off.cons h7 Off.nil)))))), Ne.symm (g1 _ tc), Ne.symm (g2 _ tc), Ne.symm (g3 _ tc), q1, q2, q3⟩
theorem fresh3 {a b c : Addr × Obj} {P : Prop} (l4 : ∀ p ∈ a :: b :: c :: news, p.1 < dx') (h1 : dx' < x') (h2 : x' < r') : P ∨ ((∀ p ∈ news, p.1 ≠ x') ∧ (∀ p ∈ news, p.1 ≠ dx') ∧ (∀ p ∈ news, p.1 ≠ r')) :=
  .inr ⟨fun p hp => Nat.ne_of_lt (Nat.lt_trans (l4 p (.tail _ (.tail _ (.tail _ hp)))) h1), fun p hp => Nat.ne_of_lt (l4 p (.tail _ (.tail _ (.tail _ hp)))), fun p hp => Nat.ne_of_lt (Nat.lt_trans (Nat.lt_trans (l4 p (.tail _ (.tail _ (.tail _ hp)))) h1) h2)⟩
theorem fresh1 {a : Addr × Obj} {P : Prop} (h : P ∨ ((∀ p ∈ a :: news, p.1 ≠ x') ∧ (∀ p ∈ a :: news, p.1 ≠ dx') ∧ (∀ p ∈ a :: news, p.1 ≠ r'))) : P ∨ ((∀ p ∈ news, p.1 ≠ x') ∧ (∀ p ∈ news, p.1 ≠ dx') ∧ (∀ p ∈ news, p.1 ≠ r')) :=
  h.imp id fun ⟨a, b, c⟩ => ⟨fun p hp => a p (.tail _ hp), fun p hp => b p (.tail _ hp), fun p hp => c p (.tail _ hp)⟩
def OctJ (m₀ : Str → Option Value) (i : Nat) (m₁ : Str → Option Value) (loc : List (Addr × Obj)) : Prop := (∀ z, z ≠ Str.ofString "octet" → m₁ z = m₀ z) ∧ loc = []
end
section
variable {prog : Program} {w : World} {p : Program} {loose : List Str} {mean : ExcName → Option Value} {mg mb : Str → Option Value} {dp un : Nat} {gd : Option (List Code)} {cn : Str} {cs : Scope} {a : Addr} {ccd : Value} {cl : List (Str × Addr)} {outer : List Env} {A₀ : Around} {base h₀ : Heap} {L : Addr} {m : Str → Option Value} {news : List (Addr × Obj)} {s : Shared} {Q E : Value → Shared → Prop}
theorem rest_call2 {lu ll : Addr} {vu vl : List Value} {p' q : List F} {k1 k2 : Nat} (h1 : (lu, listOf vu.toArray k1) ∈ news) (h2 : (ll, listOf vl.toArray k2) ∈ news) (i1 : IntsAre vu (List.map up p')) (i2 : IntsAre vl (List.map up q)) (hp : p'.length ≤ 64) (hp0 : 0 < p'.length) (hq : q.length ≤ 64) (hq0 : 1 < q.length) (hqz : cf q 0 ≠ 0#8)
  (B : Below A₀ base outer h₀) (F : Fr h₀ L s.heap m) (X : (hd.heap_39 w.params).In h₀) (N : News h₀ L s.heap news) (T : Top p loose mean mg mb h₀) (hk : cs.kind = .function) (hd1 : dp + 2 < recursionLimit) (hu : un + 16 < cLine)
   (hret : ∀ r vr k res h' tk', Fr h₀ L h' m → News h₀ L h' ((r, listOf (List.toArray vr) k) :: news) → (∀ p ∈ news, p.1 ≠ r) → IntsAre vr (List.map up res) → res.length ≤ 64 → 0 < res.length → res.length < q.length → res.length ≤ p'.length → Red (P q) (P p') (P res) → ¬ (1 < res.length ∧ cf res 0 = 0#8) → Q (.ref r) {s with heap := h', toks := tk'}) : wpAny (model prog w) (ktrTop dp un gd cn cs L a ccd cl outer) (call (.ref 105) [.ref lu, .ref ll]) Q E s :=
  rest_call h1 h2 i1 i2 hp hq hq0 hqz B F X N T hk hd1 hu fun r vr k row res h' tk' F' N' o' i' rc hlt st nz => by
    have e1 := rch_len rc
    have e2 := strip_len st
    have e3 := strip_pos st (rch_pos rc hp0 hq0)
    have e4 := P_rch hqz (by omega) rc
    rw [← P_strip st] at e4
    exact hret r vr k res h' tk' F' N' o' i' (by omega) e3 (by omega) (by omega) e4 nz
theorem mod_call2 {x dx r y dy ry : Addr} {vr vy : List Value} {q p' : List F} {k n ky ny : Nat} {hsh hsy : Int} {tk ty : Tok}
  (hx : (x, instObj 80 dx) ∈ news) (hdx : (dx, dictOf [⟨hsh, .str "num" tk, .ref r⟩] n) ∈ news) (hr : (r, listOf (List.toArray vr) k) ∈ news) (hvr : IntsAre vr (List.map up p')) (hn64 : p'.length ≤ 6) (hp0 : 0 < p'.length) (hpz : cf p' 0 ≠ 0#8)
  (hy : (y, instObj 80 dy) ∈ news) (hdy : (dy, dictOf [⟨hsy, .str "num" ty, .ref ry⟩] ny) ∈ news) (hry : (ry, listOf (List.toArray vy) ky) ∈ news) (hvy : IntsAre vy (List.map up q)) (hq : q.length ≤ 64) (hq0 : 1 < q.length) (hqz : ∀ j, j < q.length → cf q j ≠ 0#8)
  (B : Below A₀ base outer h₀) (F : Fr h₀ L s.heap m) (X : (hd.heap_39 w.params).In h₀) (N : News h₀ L s.heap news) (T : Top p loose mean mg mb h₀) (hk : cs.kind = .function) (hd1 : dp + 20 < recursionLimit) (hu : un + 160 < cLine)
  (hret : ∀ x' dx' r' vr' k' hsh' tk' n' res h' tk'', Fr h₀ L h' m → News h₀ L h' ((x', instObj 80 dx') :: (dx', dictOf [⟨hsh', .str "num" tk', .ref r'⟩] n') :: (r', listOf (List.toArray vr') k') :: news) →
     ((x' = x ∧ dx' = dx ∧ r' = r) ∨ ((∀ p ∈ news, p.1 ≠ x') ∧ (∀ p ∈ news, p.1 ≠ dx') ∧ (∀ p ∈ news, p.1 ≠ r'))) → IntsAre vr' (List.map up res) → res.length ≤ 64 → 0 < res.length → res.length < q.length → res.length ≤ p'.length → Red (P q) (P p') (P res) → ¬ (1 < res.length ∧ cf res 0 = 0#8) → Q (.ref x') { s with heap := h', toks := tk'' }) :
  wpAny (model prog w) (ktrTop dp un gd cn cs L a ccd cl outer) (call (.ref 77) [.ref x, .ref y]) Q E s :=
  mod_call hx hdx hr hvr (by omega) hp0 (fun c => hpz c.2) hy hdy hry hvy hq hq0 hqz B F X N T hk (by omega) (by omega) fun x' dx' r' vr' k' hsh' tk' n' res nw' h' tk'' F' N' hs m1 m2 m3 ho i' md z1 le nz =>
    hret x' dx' r' vr' k' hsh' tk' n' res h' tk'' F' (news_three N' hs m1 m2 m3) ho i' (by have := mod_len md; omega) z1 (mod_len md) le (P_mod md) nz
end
end Mine
end

-- part L5
section
open PySem PySem.W PyProof.Rows PySem.Spec PySem.Calls
set_option maxRecDepth 100000
namespace Mine
theorem tail_news {h₀ h : Heap} {L cL S Dl Dr : Addr} {o' : Obj} {v : Value} {vy vl vr : List Value} {c kl kr : Nat} {left right : List Int} {l : List F} {news nw₂ pre : List (Addr × Obj)} (dc : o'.data = .cell (some v)) (N : News h₀ L h news) (mc : (cL, o') ∈ news) (_il : IntsAre vy (List.map up l)) (ml : (S, listOf (List.toArray vy) c) ∈ news)
    (hs : ∀ p ∈ pre, p ∈ nw₂) (hn : ∀ p ∈ nw₂, p ∈ news) (_hl : IntsAre vl left) (_hr : IntsAre vr right) (m1 : (Dl, listOf (List.toArray vl) kl) ∈ pre) (m2 : (Dr, listOf (List.toArray vr) kr) ∈ pre) :
    News h₀ L h [(cL, o'), (S, listOf (List.toArray vy) c), (Dl, listOf (List.toArray vl) kl), (Dr, listOf (List.toArray vr) kr)] := fun p hp => N p (by
  rcases List.mem_cons.1 hp with rfl | hp
  · exact mc
  rcases List.mem_cons.1 hp with rfl | hp
  · exact ml
  rcases List.mem_cons.1 hp with rfl | hp
  · exact hn _ (hs _ m1)
  rcases List.mem_cons.1 hp with rfl | hp
  · exact hn _ (hs _ m2)
  · exact nomatch hp)
theorem UpdF.toUpd {d : Addr} {o o' : Obj} {l : List (Addr × Obj)} {g : Obj → List (Addr × Obj)} (U : UpdF d o l g) : Upd d o o' l (g o') := by
  induction U with
  | head h => exact .head h
  | tail h _ ih => exact .tail h ih
theorem erase_facts {k : Int} : ∀ {vs : List Value} {ns : List Int}, IntsAre vs ns → kf_ints vs = true ∧ (k ∈ ns → ∃ j q, kf_at k vs = some j ∧ ki_delL vs j = some q ∧ IntsAre q (ns.erase k))
  | _, _, .nil => ⟨rfl, fun h => nomatch h⟩
  | _, _, .cons (vs := vs) (ns := ns) n t h => by
    obtain ⟨h1, h2⟩ := erase_facts (k := k) h
    refine ⟨h1, fun hk => ?_⟩
    by_cases e : n = k
    · subst e
      refine ⟨0, vs, ?_, rfl, ?_⟩
      · unfold kf_at
        simp [isInt]
      · rw [List.erase_cons_head]; exact h
    · have hk' : k ∈ ns := by
        rcases List.mem_cons.1 hk with h | h
        · exact absurd h.symm e
        · exact h
      obtain ⟨j, q, a, b, c⟩ := h2 hk'
      refine ⟨j + 1, .int n t :: q, ?_, ?_, ?_⟩
      · unfold kf_at
        simp [isInt, beq_false_of_ne e, a]
      · unfold ki_delL
        rw [b]
      · rw [List.erase_cons_tail (by simpa using e)]
        exact IntsAre.cons n t c
section
variable {prog : Program} {w : World} {A : Around} {E : Value → Shared → Prop} {s : Shared} {h₀ : Heap} {L D : Addr} {m : Str → Option Value} {news : List (Addr × Obj)} {vs : List Value} {ns : List Int} {n : Nat} {k : Int} {t : Tok} {Q : Value → Shared → Prop}
theorem int_remove {g : Obj → List (Addr × Obj)} (F : Fr h₀ L s.heap m) (N : News h₀ L s.heap news) (U : UpdF D (listOf vs.toArray n) news g) (hi : IntsAre vs ns) (hk : k ∈ ns) (hz : ns.length ≤ 64)
    (h : ∀ h' q, Fr h₀ L h' m → News h₀ L h' (g (listOf (List.toArray q) (n + 1))) → IntsAre q (ns.erase k) → Q .none { s with heap := h' }) : wpAny (model prog w) A (call (.builtin "list.remove") [.ref D, .int k t]) Q E s := by
  obtain ⟨h1, h2⟩ := erase_facts (k := k) hi
  obtain ⟨j, q, a, b, c⟩ := h2 hk
  exact kf_remove F N h1 a b (UpdF.toUpd U) (by have := hi.length; show vs.length ≤ _; rw [sizeLine_eq]; omega) fun h' F' N' => h h' q F' N' c
theorem int_inT (N : News h₀ L s.heap news) (hm : (D, listOf vs.toArray n) ∈ news) (hi : IntsAre vs ns) (hk : k ∈ ns) (h : Q (.bool true) s) : wpAny (model prog w) A (compareOp .In (.int k t) (.ref D)) Q E s :=
  int_in N hm hi fun b h1 h2 => by
    cases b
    · exact absurd hk (h2 rfl)
    · exact h
theorem int_inF (N : News h₀ L s.heap news) (hm : (D, listOf vs.toArray n) ∈ news) (hi : IntsAre vs ns) (hk : k ∉ ns) (h : Q (.bool false) s) : wpAny (model prog w) A (compareOp .In (.int k t) (.ref D)) Q E s :=
  int_in N hm hi fun b h1 h2 => by
    cases b
    · exact h
    · exact absurd (h1 rfl) hk
end
/-- the loop that parts the roots -/
def PartJ (left right : List Int) (Dsp Dal Dsh : Addr) (m₀ : Str → Option Value) (i : Nat) (m₁ : Str → Option Value) (loc : List (Addr × Obj)) : Prop :=
  (∀ z, z ≠ Str.ofString "power" → m₁ z = m₀ z) ∧ ∃ va vb vc ka kb kc, loc = [(Dsp, listOf (List.toArray vc) kc), (Dal, listOf (List.toArray vb) kb), (Dsh, listOf (List.toArray va) ka)] ∧
    IntsAre va (parts (left.take i) right).1 ∧ IntsAre vb (parts (left.take i) right).2.1 ∧ IntsAre vc (parts (left.take i) right).2.2
def DueJ (d : Int) (al sp : List Int) (m₀ : Str → Option Value) (i : Nat) (m₁ : Str → Option Value) (loc : List (Addr × Obj)) : Prop :=
  (∀ z, z ≠ Str.ofString "power" → z ≠ Str.ofString "more" → z ≠ Str.ofString "due" → m₁ z = m₀ z) ∧ loc = [] ∧ ∃ t, m₁ (Str.ofString "due") = some (.int (dueOf d (al.take i) sp) t)
def DueInJ (α : F) (d : Int) (sp : List Int) (m₀ : Str → Option Value) (i : Nat) (m₁ : Str → Option Value) (loc : List (Addr × Obj)) : Prop :=
  (∀ z, z ≠ Str.ofString "more" → z ≠ Str.ofString "due" → m₁ z = m₀ z) ∧ loc = [] ∧ ∃ t, m₁ (Str.ofString "due") = some (.int (dueIn α d (sp.take i)) t)
theorem dueOf_snoc (d : Int) (al sp : List Int) (x : Int) : dueOf d (al ++ [x]) sp = dueIn (exI x) (dueOf d al sp) sp := by
  unfold dueOf; rw [List.foldl_append]; rfl
theorem dueIn_snoc (α : F) (d : Int) (sp : List Int) (y : Int) : dueIn α d (sp ++ [y]) = dueIn α d sp + (lg (α ^^^ exI y) : Int) := by
  unfold dueIn; rw [List.foldl_append]; rfl
theorem apart_xor {left right sh al sp : List Int} (p : Parted left right sh al sp) (hl : ∀ x ∈ left, 0 ≤ x ∧ x < 255) (hr : ∀ x ∈ right, 0 ≤ x ∧ x < 255) {x y : Int} (hx : x ∈ al) (hy : y ∈ sp) : exI x ^^^ exI y ≠ 0#8 :=
  fun e => p.apart x hx y hy (exI_inj (hl x (p.subl x hx)) (hr y (p.sub y hy)) (xzero e))
theorem part1_T {st : List Int × List Int × List Int} {p : Int} (h : p ∈ st.2.2) : part1 st p = (st.1 ++ [p], st.2.1, st.2.2.erase p) := if_pos h
theorem part1_F {st : List Int × List Int × List Int} {p : Int} (h : p ∉ st.2.2) : part1 st p = (st.1, st.2.1 ++ [p], st.2.2) := if_neg h
def meetF (c b : F) : F := if b = 0#8 then 0#8 else exI ((lg b : Int) - (lg c : Int))
theorem meetF_z {c b : F} (h : up b = 0) : up (meetF c b) = 0 := by unfold meetF; rw [if_pos (up_eq_zero h)]; rfl
theorem meetF_n {c b : F} (h : up b ≠ 0) : up (meetF c b) = up (exI ((lg b : Int) - (lg c : Int))) := by unfold meetF; rw [if_neg (up_ne h)]
section
variable {prog : Program} {w : World} {A : Around} {h₀ : Heap} {L : Addr} {m : Str → Option Value} {env : Env} {elt : PySem.Expr} {x : Str} {scope : Scope} {cl : List (Str × Addr)} {s : Shared} {S : List (Addr × Obj) → Prop} {Fin : List Value → List (Addr × Obj) → Prop} {news : List (Addr × Obj)}
theorem kcf_up {vs : List Value} {q : List F} (g : F → F) (hi : IntsAre vs (List.map up q))
    (turn : ∀ b t I oI C oC D m₂ ys h tk (E' : Value → Shared → Prop), 0 ≤ up b → up b < 256 → LCg.NsObj oC m₂ → m₂ x = some (.int (up b) t) → Fr h₀ L h m → News h₀ L h ((I, oI) :: (C, oC) :: (D, LCg.lst ys) :: news) → LCg.Off3 I C D news → ((@Ne Nat I C) ∧ (@Ne Nat I D) ∧ (@Ne Nat C D)) → KPfMark →
      wpAny (model prog w) A (eval elt (compEnvC scope cl C env)) (LCg.CompEnd h₀ L m { s with heap := h, toks := tk } I oI C oC D (LCg.lst ys) S (fun y news' => KCfEl news (up (g b)) y news')) E' { s with heap := h, toks := tk })
    (fin : KPfDone (∀ ys, IntsAre ys (List.map up (q.map g)) → Fin ys news)) : LCg.CompRest prog w A h₀ L m env elt x scope cl s S (fun i v => vs.toArray[i]? = some v) Fin vs.toArray.size 0 [] news := by
  have bk : ∀ b : F, BitVec.ofNat 8 (up b).toNat = b := fun b => by
    unfold up
    rw [Int.toNat_natCast, BitVec.ofNat_toNat, BitVec.setWidth_eq]
  refine kcf_list (fun k => up (g (BitVec.ofNat 8 k.toNat))) hi (fun k t I oI C oC D m₂ ys h tk E' hk hC hx F N off ne mk => ?_) ?_
  · obtain ⟨b, _, rfl⟩ := List.mem_map.1 hk
    rw [bk]
    exact turn b t I oI C oC D m₂ ys h tk E' (up_nn b) (up_lt b) hC hx F N off ne mk
  · unfold KPfDone at fin ⊢
    intro ys hy
    refine fin ys ?_
    have e : List.map (fun k : Int => up (g (BitVec.ofNat 8 k.toNat))) (List.map up q) = List.map up (q.map g) := by
      rw [List.map_map, List.map_map]
      refine List.map_congr_left fun b _ => ?_
      show up (g (BitVec.ofNat 8 (up b).toNat)) = up (g b)
      rw [bk]
    rw [← e]; exact hy
end
theorem parts_len (right : List Int) (left : List Int) : (parts left right).2.2.length ≤ right.length ∧ (parts left right).1.length ≤ left.length ∧ (parts left right).2.1.length ≤ left.length := by
  have p := parted right left
  have := p.ll
  have := p.rl
  omega
end Mine
end

-- part L6
section
open PySem PySem.W PyProof.Rows PySem.Spec PySem.Calls
set_option maxRecDepth 100000
namespace Mine
theorem mul_cancel {c a b : F} (hc : c ≠ 0#8) (h : mul c a = mul c b) : a = b := by
  by_cases e : a = b
  · exact e
  · have h1 : mul c (a ^^^ b) = 0#8 := by rw [mul_xor, h, BitVec.xor_self]
    exact absurd h1 (mul_ne hc fun z => e (xzero z))
theorem exI_of_lg {b : F} (hb : b ≠ 0#8) : exI (lg b : Int) = b := by
  unfold exI
  have : ((lg b : Int) % 255).toNat = lg b % 255 := by omega
  rw [this, ex_mod, ex_lg b hb]
theorem meetF_mul {c : F} (hc : c ≠ 0#8) (x : F) : meetF c (mul c x) = x := by
  by_cases hx : x = 0#8
  · subst hx; rw [mul_zero]; exact if_pos rfl
  · have hb := mul_ne hc hx
    unfold meetF
    rw [if_neg hb]
    refine mul_cancel hc ?_
    rw [← exI_add _ hc, show (lg c : Int) + ((lg (mul c x) : Int) - (lg c : Int)) = (lg (mul c x) : Int) by omega, exI_of_lg hb]
theorem cf_map (g : F → F) (h0 : g 0#8 = 0#8) (p : List F) (j : Nat) : cf (p.map g) j = g (cf p j) := by
  unfold cf
  rw [List.getD_eq_getElem?_getD, List.getD_eq_getElem?_getD, List.getElem?_map]
  cases p[j]? with
  | none => exact h0.symm
  | some a => rfl
theorem meet_is {l : List F} {sh : List Int} (hc : cf l 0 ≠ 0#8) (h : P l = psm (cf l 0) (lins (sh.map exI) (con 1#8))) (hl : l.length = (sh.map exI).length + 1) : l.map (meetF (cf l 0)) = laid sh 1#8 := by
  refine P_inj (by rw [List.length_map, laid_length, hl, List.length_map]) ?_
  rw [P_laid]
  funext k
  have e : P (l.map (meetF (cf l 0))) k = meetF (cf l 0) (P l k) := by
    unfold P
    rw [List.length_map]
    split
    · exact cf_map (meetF (cf l 0)) (show meetF (cf l 0) 0#8 = 0#8 from if_pos rfl) _ _
    · exact (show meetF (cf l 0) 0#8 = 0#8 from if_pos rfl).symm
  rw [e, h]
  exact meetF_mul hc _
theorem up_size {vs : List Value} {q : List F} (hi : IntsAre vs (List.map up q)) (h : q.length ≤ 64) : vs.toArray.size ≤ sizeLine := by
  rw [List.size_toArray, hi.length, List.length_map, sizeLine_eq]; omega
theorem eqvAll_self (ns : List Int) : PyData.eqvAll (ns.map PyData.int) (ns.map PyData.int) = true := by
  rw [ked_eqvAll, decide_eq_true rfl]
section
variable {prog : Program} {w : World} {A : Around} {E : Value → Shared → Prop} {s : Shared} {h₀ : Heap} {L D r a1 a2 : Addr} {news : List (Addr × Obj)} {vs ws : List Value} {ns ms : List Int} {k1 k2 k3 k4 : Nat} {n n' : Int} {t t' : Tok} {Q : Value → Shared → Prop}
theorem end_eq (N : News h₀ L s.heap news) (h1 : (a1, listOf #[.ref D, .int n t] k1) ∈ news) (h2 : (a2, listOf #[.ref r, .int n' t'] k2) ∈ news) (h3 : (D, listOf vs.toArray k3) ∈ news) (h4 : (r, listOf ws.toArray k4) ∈ news) (hi : IntsAre vs ns) (hj : IntsAre ws ms) (en : n = n') (em : ns = ms) (hu : A.units + 64 < cLine) (h : Q (.bool true) s) :
    wpAny (model prog w) A (compareOp .Eq (.ref a1) (.ref a2)) Q E s := by
  subst en em
  have rd : ∀ {a d : Addr} {v : List Value} {k k' : Nat} {u : Tok}, (a, listOf #[.ref d, .int n u] k) ∈ news → (d, listOf v.toArray k') ∈ news → IntsAre v ns → ∃ as, Reads s.heap (.ref a) (.list [.list (ns.map PyData.int), .int n]) as := fun ha hd hv =>
    ⟨_, reads_list_at (N _ ha).1 rfl rfl (ReadsAll.cons (reads_newData (PySem.IsL.isList (N _ hd).1) (ke_carried hv)) (ReadsAll.cons (Reads.int _ _) ReadsAll.nil))⟩
  obtain ⟨as, ra⟩ := rd h1 h3 hi
  obtain ⟨bs, rb⟩ := rd h2 h4 hj
  have sh : SeqAt.shaped (.list [.list (ns.map PyData.int), .int n]) = true := by
    simp [SeqAt.shaped, PyData.canLay0, PyData.canLayAll0, PyData.depth, PyData.depthAll, ke_canLayAll0, ke_depthAll]
  refine eq_dataH ra rb sh sh hu ?_
  have e : PyData.eqv (.list [.list (ns.map PyData.int), .int n]) (.list [.list (ns.map PyData.int), .int n]) = true := by
    simp [PyData.eqv, PyData.eqvAll, eqvAll_self]
  rw [e]; exact h
end
section
variable {prog : Program} {w : World} {p : Program} {loose : List Str} {mean : ExcName → Option Value} {mg mb : Str → Option Value} {dp un : Nat} {gd : Option (List Code)} {cn : Str} {cs : Scope} {a : Addr} {ccd : Value} {cl : List (Str × Addr)} {outer : List Env} {A₀ : Around} {base h₀ : Heap} {L : Addr} {m : Str → Option Value} {news : List (Addr × Obj)} {s : Shared} {Q E : Value → Shared → Prop}
theorem laid_call1 {l : Addr} {vs : List Value} {ns : List Int} {k : Nat} {t2 : Tok} (hl : (l, listOf vs.toArray k) ∈ news) (hi : IntsAre vs ns) (hfit : ns.length < 64)
  (B : Below A₀ base outer h₀) (F : Fr h₀ L s.heap m) (X : (hd.heap_39 w.params).In h₀) (N : News h₀ L s.heap news) (T : Top p loose mean mg mb h₀) (hk : cs.kind = .function) (hd1 : dp + 2 < recursionLimit) (hu : un + 16 < cLine)
   (hret : ∀ r vr k h' tk', Fr h₀ L h' m → News h₀ L h' ((r, listOf (List.toArray vr) k) :: news) → (∀ p ∈ news, p.1 ≠ r) → IntsAre vr ((laid ns 1#8).map up) → Q (.ref r) {s with heap := h', toks := tk'}) : wpAny (model prog w) (ktrTop dp un gd cn cs L a ccd cl outer) (call (.ref 98) [.ref l, .int 1 t2]) Q E s :=
  laid_call (lead := 1#8) hl hi hfit B F X N T hk hd1 hu hret
end
end Mine
end

-- the law
section
open PySem PySem.W PyProof.Rows PySem.Spec PySem.Calls
set_option maxRecDepth 100000
set_option maxHeartbeats 8000000
namespace Mine
theorem fill_it7 : (fun (_ : OpenLaw) => hd.heap_39 = hd.heap_39) PySem.Challenge.rw_ae6025_01 := by k_fill; rfl
theorem draw_lo (ns : List Int) (place most : Int) (h : 0 < most) : 0 ≤ draw ns place most ∧ draw ns place most < most := ⟨Int.emod_nonneg _ (by omega), Int.emod_lt_of_pos _ h⟩
def Near (h₀ : Heap) (L : Addr) (m : Str → Option Value) (news : List (Addr × Obj)) (s : Shared) (v : Value) (s' : Shared) : Prop :=
  ∃ near t h' tk', v = .int near t ∧ 0 < near ∧ near ≤ 255 ∧ s' = { s with heap := h', toks := tk' } ∧ Fr h₀ L h' m ∧ News h₀ L h' news
theorem near_join {M : Model} {A : Around} {test body orelse : PySem.Expr} {pos : Pos} {env : Env} {h₀ : Heap} {L : Addr} {m : Str → Option Value} {news : List (Addr × Obj)} {s : Shared} {Q E : Value → Shared → Prop} (_F : Fr h₀ L s.heap m) (_N : News h₀ L s.heap news)
   (h1 : wpAny M A (isTrue test env (eval test env)) (fun c s₂ => if c then wpAny M A (eval body env) (Near h₀ L m news s) E s₂ else wpAny M A (eval orelse env) (Near h₀ L m news s) E s₂) E s)
   (h2 : ∀ near t h' tk', 0 < near → near ≤ 255 → Fr h₀ L h' m → News h₀ L h' news → Q (.int near t) { s with heap := h', toks := tk' }) : wpAny M A (eval (.IfExp test body orelse pos) env) Q E s :=
  IfExp_ (wpAny_mono h1 (fun c s₂ h => by
    cases c
    · exact wpAny_mono h (fun v s' ⟨near, t, h', tk', e1, e2, e3, e4, e5, e6⟩ => by rw [e1, e4]; exact h2 near t h' tk' e2 e3 e5 e6) fun _ _ x => x
    · exact wpAny_mono h (fun v s' ⟨near, t, h', tk', e1, e2, e3, e4, e5, e6⟩ => by rw [e1, e4]; exact h2 near t h' tk' e2 e3 e5 e6) fun _ _ x => x) fun _ _ x => x)
theorem draw_ok (ns : List Int) (c near k : Int) (h : 0 < near) (h2 : near ≤ 255) : 0 ≤ (if 0 ≤ draw ns (c + k) near ∧ draw ns (c + k) near < near then draw ns (c + k) near else k) ∧ (if 0 ≤ draw ns (c + k) near ∧ draw ns (c + k) near < near then draw ns (c + k) near else k) < 255 := by
  have := draw_lo ns (c + k) near h
  rw [if_pos this]; omega
theorem draws_ok {f g : Int → Int} {a b : Nat} (hf : ∀ k, 0 ≤ f k ∧ f k < 255) (hg : ∀ k, 0 ≤ g k ∧ g k < 255) : (List.map f (rangeKs 0 a) ++ List.map g (rangeKs 0 b)).length = a + b ∧ ∀ x ∈ List.map f (rangeKs 0 a) ++ List.map g (rangeKs 0 b), 0 ≤ x ∧ x < 255 := by
  refine ⟨by rw [List.length_append, List.length_map, List.length_map, rangeKs_length, rangeKs_length], fun x hx => ?_⟩
  rcases List.mem_append.1 hx with h | h <;> obtain ⟨k, _, rfl⟩ := List.mem_map.1 h
  · exact hf k
  · exact hg k
theorem up_of {n : Int} (h : 0 < n) (h2 : n < 256) : ∃ a : F, a ≠ 0#8 ∧ n = up a := by
  have e : n = up (BitVec.ofNat 8 n.toNat) := by
    unfold up
    rw [BitVec.toNat_ofNat, Nat.mod_eq_of_lt (by omega)]
    omega
  refine ⟨_, fun z => ?_, e⟩
  rw [z, up_zero] at e
  omega
section
variable {prog : Program} {w : World} {p : Program} {loose : List Str} {mean : ExcName → Option Value} {mg mb : Str → Option Value} {dp un : Nat} {gd : Option (List Code)} {cn : Str} {cs : Scope} {a : Addr} {ccd : Value} {cl : List (Str × Addr)} {outer : List Env} {A₀ : Around} {base h₀ : Heap} {L : Addr} {m : Str → Option Value} {news : List (Addr × Obj)} {s : Shared} {Q E : Value → Shared → Prop}
theorem draw_call2 {l : Addr} {vs : List Value} {ns : List Int} {place most : Int} {t1 t2 : Tok} (hl : base.IsList l vs.toArray) (hi : IntsAre vs ns) (hfit : ns.length < 2 ^ 62) (hp0 : 0 ≤ place) (hp1 : place < 64) (hm0 : 0 < most) (hm1 : most < 256)
  (B : Below A₀ base outer h₀) (F : Fr h₀ L s.heap m) (X : (hd.heap_39 w.params).In h₀) (N : News h₀ L s.heap news) (T : Top p loose mean mg mb h₀) (hk : cs.kind = .function) (hd1 : dp + 1 < recursionLimit) (hu : un + 8 < cLine)
   (hret : ∀ (t : Tok) h' tk', 0 ≤ draw ns place most → draw ns place most < most → Fr h₀ L h' m → News h₀ L h' news → Q (.int (draw ns place most) t) {s with heap := h', toks := tk'}) : wpAny (model prog w) (ktrTop dp un gd cn cs L a ccd cl outer) (call (.ref 91) [.ref l, .int place t1, .int most t2]) Q E s :=
  draw_call hl hi hfit hp0 hp1 hm0 hm1 B F X N T hk hd1 hu fun t h' tk' F' N' => hret t h' tk' (draw_lo ns place most hm0).1 (draw_lo ns place most hm0).2 F' N'
end
local macro_rules | `(tactic| walk_at "call ref") => `(tactic| (k_here; (with_reducible show wpAny _ _ (call (Value.ref _) _) _ _ _); refine wpAny_call ?_; k_dflt (refine' code_def ?k1 ?k2 ?k3 ?k4 ?k5 ?kA ?kF ?kK ?k6 ?k7 ?k8 ?k9 ?kB ?_ ?c2 ?c3 ?c4 ?c5; (case kA => exact rfl); (case kF => exact rfl); (case kK => first | exact rfl | assumption); (case k1 => k_asm); (case k2 => k_asm); (case k3 => k_asm); (case k4 => k_asm); (case k5 => k_asm); (case k6 => k_is); (case k7 => k_is); (case k8 => ktr_room); (case k9 => exact BindsTo.of_eq rfl); (case c5 => decide); (case kB => exact locs rfl); (case c2 => exact rfl); (case c3 => exact rfl); (case c4 => exact rfl); k_whole; intro g' L' h' FG' F' N' B' X' T'; (try dsimp only); (try k_lift B'); (try k_fold))))
local macro_rules | `(tactic| walk_at "subscriptTail") => `(tactic| (k_here; (with_reducible show wpAny _ _ (subscriptTail _ _ (Value.ref 15) (Value.int (Int.fmod _ 255) _)) _ _ _); k_dflt (refine' exp_item ?F ?X ?_; (case F => k_asm); (case X => k_asm); k_whole); intro t9))
local macro_rules | `(tactic| walk_at "subscriptTail") => `(tactic| (k_here; (with_reducible show wpAny _ _ (subscriptTail _ _ (Value.ref 16) (Value.int (up _) _)) _ _ _); k_dflt (refine' log_item ?F ?X ?b ?_; (case F => k_asm); (case X => k_asm); (case b => assumption); k_whole); intro t9))
local macro_rules | `(tactic| walk_at "getItem ref int") => `(tactic| (k_here; (with_reducible show wpAny _ _ (getItem (Value.ref _) (Value.int _ _)) _ _ _); k_dflt (refine' up_get ?k1 ?k2 ?k3 ?k4 ?k5 ?k6 ?_; (case k1 => k_asm); (case k2 => k_mem); (case k3 => with_reducible assumption); (case k4 => first | exact (rfl : (0:Int) = ((0:Nat):Int)) | exact (rfl : ((_:Nat):Int) = ((_:Nat):Int)) | exact (Int.natCast_succ _).symm); (case k5 => ksa_idx); (case k6 => ksa_idx); k_whole); intro t9))
local macro_rules | `(tactic| walk_at "subscriptTail") => `(tactic| (k_here; (with_reducible show wpAny _ _ (subscriptTail _ _ (Value.ref _) (Value.int _ _)) _ _ _); k_dflt (refine' up_sub ?k1 ?k2 ?k3 ?k4 ?k5 ?k6 ?_ ?k7; (case k1 => k_asm); (case k2 => k_mem); (case k3 => with_reducible assumption); (case k4 => first | exact (rfl : (0:Int) = ((0:Nat):Int)) | exact (rfl : ((_:Nat):Int) = ((_:Nat):Int)) | exact (Int.natCast_succ _).symm); (case k5 => ksa_idx); (case k6 => ksa_idx); (case k7 => with_unfolding_all rfl); k_whole); intro t9))
local macro_rules | `(tactic| walk_at "subscriptTail Name Constant ref int") => `(tactic| (k_here; (with_reducible show wpAny _ _ (subscriptTail _ _ (Value.ref _) (Value.int _ _)) _ _ _); k_dflt (refine' up_sub ?k1 ?k2 ?k3 ?k4 ?k5 ?k6 ?_ ?k7; (case k1 => k_asm); (case k2 => k_mem); (case k3 => with_reducible assumption); (case k4 => first | exact (rfl : (0:Int) = ((0:Nat):Int)) | exact (rfl : ((_:Nat):Int) = ((_:Nat):Int)) | exact (Int.natCast_succ _).symm); (case k5 => ksa_idx); (case k6 => ksa_idx); (case k7 => with_unfolding_all rfl); k_whole); intro t9))
local macro_rules | `(tactic| walk_at "subscriptTail Name Name ref int") => `(tactic| (k_here; (with_reducible show wpAny _ _ (subscriptTail _ _ (Value.ref _) (Value.int _ _)) _ _ _); k_dflt (refine' up_sub ?k1 ?k2 ?k3 ?k4 ?k5 ?k6 ?_ ?k7; (case k1 => k_asm); (case k2 => k_mem); (case k3 => with_reducible assumption); (case k4 => first | exact (rfl : (0:Int) = ((0:Nat):Int)) | exact (rfl : ((_:Nat):Int) = ((_:Nat):Int)) | exact (Int.natCast_succ _).symm); (case k5 => ksa_idx); (case k6 => ksa_idx); (case k7 => with_unfolding_all rfl); k_whole); intro t9))
local macro_rules | `(tactic| walk_at "subscriptTail Name BinOp ref int") => `(tactic| (k_here; (with_reducible show wpAny _ _ (subscriptTail _ _ (Value.ref _) (Value.int _ _)) _ _ _); k_dflt (refine' up_sub ?k1 ?k2 ?k3 ?k4 ?k5 ?k6 ?_ ?k7; (case k1 => k_asm); (case k2 => k_mem); (case k3 => with_reducible assumption); (case k4 => first | exact (rfl : (0:Int) = ((0:Nat):Int)) | exact (rfl : ((_:Nat):Int) = ((_:Nat):Int)) | exact (Int.natCast_succ _).symm); (case k5 => ksa_idx); (case k6 => ksa_idx); (case k7 => with_unfolding_all rfl); k_whole); intro t9))
local macro_rules | `(tactic| walk_at "setItem ref int") => `(tactic| (k_here; (with_reducible show wpAny _ _ (setItem (Value.ref _) (Value.int _ _) (Value.int (up _) _)) _ _ _); k_dflt (refine' up_set ?k1 ?k2 ?k3 ?k4 ?k5 ?k6 ?k7 ?_; (case k1 => k_asm); (case k2 => k_asm); (case k3 => k_upd); (case k4 => with_reducible assumption); (case k5 => first | exact (rfl : (0:Int) = ((0:Nat):Int)) | exact (rfl : ((_:Nat):Int) = ((_:Nat):Int)) | exact (Int.natCast_succ _).symm); (case k6 => ksa_idx); (case k7 => ksa_idx); k_whole); intro h' F' N' hi'; (try k_sweep)))
local macro_rules | `(tactic| walk_at "binaryOp BitXor int int") => `(tactic| ((with_reducible show wpAny _ _ (binaryOp _ (Value.int (up _) _) (Value.int (up _) _)) _ _ _); refine xor_up ?_))
local macro_rules | `(tactic| walk_at "inplaceOp BitXor int int") => `(tactic| ((with_reducible show wpAny _ _ (inplaceOp _ (Value.int (up _) _) (Value.int (up _) _)) _ _ _); refine ixor_up ?_))
local macro_rules | `(tactic| walk_at "call ref") => `(tactic| (k_here; (with_reducible show wpAny _ _ (call (Value.ref 30) [Value.int _ _]) _ _ _); k_dflt (refine' gexp_call ?k1 ?k2 ?k3 ?k4 ?k5 ?kK ?kd ?ku ?_; (case k1 => k_asm); (case k2 => k_asm); (case k3 => k_asm); (case k4 => k_asm); (case k5 => k_asm); (case kK => first | exact rfl | assumption); (case kd => ktr_room); (case ku => ktr_units); intro t9 h9 tk9 F9 N9; (try dsimp only); (try k_sweep); (try k_fold))))
local macro_rules | `(tactic| walk_at "call ref") => `(tactic| (k_here; (with_reducible show wpAny _ _ (call (Value.ref 23) [Value.int (up _) _]) _ _ _); k_dflt (refine' glog_call ?kb ?k1 ?k2 ?k3 ?k4 ?k5 ?kK ?kd ?ku ?_; (case kb => first | assumption | (refine up_ne ?_; assumption)); (case k1 => k_asm); (case k2 => k_asm); (case k3 => k_asm); (case k4 => k_asm); (case k5 => k_asm); (case kK => first | exact rfl | assumption); (case kd => ktr_room); (case ku => ktr_units); intro t9 h9 tk9 F9 N9; (try dsimp only); (try k_sweep); (try k_fold))))
local macro_rules | `(tactic| k_all) => `(tactic| exact Off.head (by assumption))
local macro_rules | `(tactic| k_mem) => `(tactic| ((repeat' (first | exact List.Mem.head _ | refine List.mem_cons_of_mem _ ?_ | assumption)); done))
local macro_rules | `(tactic| walk_at "exec For Name Call cons nil") => `(tactic| (k_here; k_dflt (refine' For_stop ?F ?a ?b ?_; (case F => k_asm); (case a => exact rfl); (case b => exact rfl); k_whole)))
local macro_rules | `(tactic| walk_at "exec For Name Name cons nil") => `(tactic| (k_here; k_dflt (refine' For_stop ?F ?a ?b ?_; (case F => k_asm); (case a => exact rfl); (case b => exact rfl); k_whole)))
local macro_rules | `(tactic| walk_at "exec While Compare cons nil") => `(tactic| (k_here; refine Stop.out ?_))
local macro_rules | `(tactic| walk_at "exec While BoolOp cons nil") => `(tactic| (k_here; refine Stop.out ?_))
local macro_rules | `(tactic| walk_at "call type:list") => `(tactic| (k_here; (with_reducible show wpAny _ _ (call (Value.type _) [Value.ref _]) _ _ _); k_dflt (refine' up_copy ?k1 ?k2 ?k3 ?k4 ?k5 ?_; (case k1 => k_asm); (case k2 => k_asm); (case k3 => k_mem); (case k4 => with_reducible assumption); (case k5 => assumption); k_whole); intro D' c' h' F' N' l1; (try k_sweep)))
local macro_rules | `(tactic| walk_at "call builtin:len") => `(tactic| (k_here; (with_reducible show wpAny _ _ (call (Value.builtin _) [Value.ref _]) _ _ _); k_dflt (refine' up_len ?k1 ?k2 ?k3 ?k4 ?_; (case k1 => k_asm); (case k2 => k_mem); (case k3 => with_reducible assumption); (case k4 => assumption); k_whole); intro t9 tk9))
local macro_rules | `(tactic| walk_at "truthy ref") => `(tactic| (k_here; (with_reducible show wpAny _ _ (truthy (Value.ref _)) _ _ _); k_dflt (refine' up_true ?k1 ?k2 ?k3 ?k4 ?k5 ?_; (case k1 => k_asm); (case k2 => k_mem); (case k3 => with_reducible assumption); (case k4 => assumption); (case k5 => assumption); k_whole); intro tk9; (try simp only [Bool.not_true, Bool.false_eq_true, if_false, if_true])))
local macro_rules | `(tactic| k_all) => `(tactic| exact lt_all (by assumption))
local macro_rules | `(tactic| walk_at "call builtin:iter") => `(tactic| (k_here; (with_reducible show wpAny _ _ (call (Value.builtin "iter") [Value.ref _]) _ _ _); k_dflt (refine' iter_of_list ?k1 ?k2 ?k3 ?_; (case k1 => k_asm); (case k2 => k_asm); (case k3 => k_mem); k_whole); intro i9 h9 F9 N9 l9; (try k_sweep)))
local macro_rules | `(tactic| walk_at "call ref") => `(tactic| (k_here; (with_reducible show wpAny _ _ (call (Value.ref 80) [Value.ref _, Value.int 0 _]) _ _ _); k_dflt (refine' poly_call ?kl ?ki ?kq ?kq0 ?k1 ?k2 ?k3 ?k4 ?k5 ?kK ?kd ?ku ?_; (case k1 => k_asm); (case k2 => k_asm); (case k3 => k_asm); (case k4 => k_asm); (case k5 => k_asm); (case kl => k_mem); (case ki => with_reducible assumption); (case kq => assumption); (case kq0 => assumption); (case kK => first | exact rfl | assumption); (case kd => ktr_room); (case ku => ktr_units); intro x9 dx9 r9 vr9 k9 hsh9 tk9 n9 res9 h9 tk9' F9 N9 l9 l9' l9'' i9 st9 nz9; (try dsimp only); (try k_fold))))
local macro_rules | `(tactic| walk_at "call type:zip") => `(tactic| (k_here; (with_reducible show wpAny _ _ (call (Value.type _) [Value.ref _, Value.ref _]) _ _ _); k_dflt (refine' zip_polys ?h1 ?h2 ?h3 ?h4 ?h5 ?h6 ?k1 ?k2 ?k3 ?k4 ?k5 ?kK ?kd ?ku ?_; (case k1 => k_asm); (case k2 => k_asm); (case k3 => k_asm); (case k4 => k_asm); (case k5 => k_asm); (case h1 => k_mem); (case h2 => k_mem); (case h3 => k_mem); (case h4 => k_mem); (case h5 => k_mem); (case h6 => k_mem); (case kK => first | exact rfl | assumption); (case kd => ktr_room); (case ku => ktr_units); intro z9 TI9 TO9 i91 i92 h9 tk9 D9 st9 fp9 Lf9 wr9 nw9 F9 N9; (try dsimp only); (try k_sweep))))
local macro_rules | `(tactic| walk_at "subscriptTail Name Slice ref ref") => `(tactic| (k_here; (with_reducible show wpAny _ _ (subscriptTail _ (PySem.Expr.Slice _ _ none _) (Value.ref _) (Value.ref _)) _ _ _); k_dflt (refine' sub_slice_own ?F ?N ?X ?h1 ?h2 ?hq ?hs ?hf ?hn ?_; (case F => k_asm); (case N => k_asm); (case X => k_asm); (case h1 => k_mem); (case h2 => k_mem); (case hq => k_is); (case hs => k_is); (case hf => k_is); (case hn => k_is); k_whole); intro sl9 h9 F9 N9 l9; (try k_lt l9); (try dsimp only); (try k_sweep)))
local macro_rules | `(tactic| walk_at "subscriptTail") => `(tactic| (k_here; (with_reducible show wpAny _ _ (subscriptTail _ (PySem.Expr.Name _ _) (Value.ref _) (Value.ref _)) _ _ _); k_dflt (refine' list_slice_obj ?F ?N ?h1 ?h2 ?p ?q ?m ?z ?_; (case F => k_asm); (case N => k_asm); (case h1 => k_mem); (case h2 => k_mem); (case p => kmk_part); (case q => kmk_part); (case m => first | exact kmk_from_neg (by with_reducible assumption) (by omega) | kmk_nums); (case z => assumption); k_whole); intro D9 ws9 h9 F9 N9 l9 i9; (try k_lt l9); (try dsimp only); (try k_sweep)))
local macro_rules | `(tactic| walk_at "call ref") => `(tactic| (k_here; (with_reducible show wpAny _ _ (call (Value.ref 91) [Value.ref _, Value.int _ _, Value.int _ _]) _ _ _); k_dflt (refine' draw_call2 ?kl ?ki ?kf ?kp0 ?kp1 ?km0 ?km1 ?k1 ?k2 ?k3 ?k4 ?k5 ?kK ?kd ?ku ?_; (case k1 => k_asm); (case k2 => k_asm); (case k3 => k_asm); (case k4 => k_asm); (case k5 => k_asm); (case kl => assumption); (case ki => assumption); (case kf => omega); (case kp0 => omega); (case kp1 => omega); (case km0 => omega); (case km1 => omega); (case kK => first | exact rfl | assumption); (case kd => ktr_room); (case ku => ktr_units); intro t9 h9 tk9 dl9 dh9 F9 N9; (try dsimp only); (try k_sweep); (try k_fold))))
local macro_rules | `(tactic| walk_at "call ref") => `(tactic| (k_here; (with_reducible show wpAny _ _ (call (Value.ref 98) _) _ _ _); refine Stop.out ?_))
local macro_rules | `(tactic| walk_at "call ref") => `(tactic| (k_here; (with_reducible show wpAny _ _ (call (Value.ref 98) [Value.ref _, Value.int (up _) _]) _ _ _); k_dflt (refine' laid_call ?kl ?ki ?kf ?k1 ?k2 ?k3 ?k4 ?k5 ?kK ?kd ?ku ?_; (case k1 => k_asm); (case k2 => k_asm); (case k3 => k_asm); (case k4 => k_asm); (case k5 => k_asm); (case kl => k_mem); (case ki => assumption); (case kf => omega); (case kK => first | exact rfl | assumption); (case kd => ktr_room); (case ku => ktr_units); intro r9 vr9 k9 h9 tk9 F9 N9 l9 i9; (try dsimp only); (try k_fold))))
local macro_rules | `(tactic| walk_at "eval IfExp") => `(tactic| (k_here; (with_reducible show wpAny _ _ (eval (PySem.Expr.IfExp _ (PySem.Expr.Constant _ _ _) _ _) _) _ _ _); k_dflt (refine' near_join ?F ?N ?h1 ?h2; (case F => k_asm); (case N => k_asm)); (case' h2 => intro near9 t9 h9 tk9 lo9 hi9 F9 N9; (try dsimp only); (try k_fold))))
local macro_rules | `(tactic| walk_at "call type:list") => `(tactic| (k_here; (with_reducible show wpAny _ _ (call (Value.type "list") [Value.ref _]) _ _ _); k_dflt (refine' list_poly ?h1 ?h2 ?h3 ?ki ?kq ?k1 ?k2 ?k3 ?k4 ?k5 ?kK ?kd ?ku ?_; (case k1 => k_asm); (case k2 => k_asm); (case k3 => k_asm); (case k4 => k_asm); (case k5 => k_asm); (case h1 => k_mem); (case h2 => k_mem); (case h3 => k_mem); (case ki => with_reducible assumption); (case kq => first | assumption | omega); (case kK => first | exact rfl | assumption); (case kd => ktr_room); (case ku => ktr_units); intro S9 c9 h9 tk9 F9 N9 l9; (try k_lt l9); (try dsimp only); (try k_fold))))
local macro_rules | `(tactic| walk_at "call ref") => `(tactic| (k_here; (with_reducible show wpAny _ _ (call (Value.ref 105) [Value.ref _, Value.ref _]) _ _ _); k_dflt (refine' rest_call2 ?h1 ?h2 ?i1 ?i2 ?hp ?hp0 ?hq ?hq0 ?hqz ?k1 ?k2 ?k3 ?k4 ?k5 ?kK ?kd ?ku ?_; (case k1 => k_asm); (case k2 => k_asm); (case k3 => k_asm); (case k4 => k_asm); (case k5 => k_asm); (case h1 => k_mem); (case h2 => k_mem); (case i1 => with_reducible assumption); (case i2 => with_reducible assumption); (case hp => assumption); (case hp0 => assumption); (case hq => assumption); (case hq0 => omega); (case hqz => assumption); (case kK => first | exact rfl | assumption); (case kd => ktr_room); (case ku => ktr_units); intro r9 vr9 k9 res9 h9 tk9 F9 N9 l9 i9 lf9 z9 ll9 lu9 rd9 nz9; (try dsimp only); (try k_fold))))
local macro_rules | `(tactic| walk_at "call ref") => `(tactic| (k_here; (with_reducible show wpAny _ _ (call (Value.ref 77) [Value.ref _, Value.ref _]) _ _ _); k_dflt (refine' mod_call2 ?h1 ?h2 ?h3 ?i1 ?h64 ?hp0 ?hpz ?h4 ?h5 ?h6 ?i2 ?hq ?hq0 ?hqz ?k1 ?k2 ?k3 ?k4 ?k5 ?kK ?kd ?ku ?_; (case k1 => k_asm); (case k2 => k_asm); (case k3 => k_asm); (case k4 => k_asm); (case k5 => k_asm); (case h1 => k_mem); (case h2 => k_mem); (case h3 => k_mem); (case h4 => k_mem); (case h5 => k_mem); (case h6 => k_mem); (case i1 => with_reducible assumption); (case i2 => with_reducible assumption); (case h64 => assumption); (case hp0 => assumption); (case hpz => assumption); (case hq => assumption); (case hq0 => omega); (case hqz => exact nz_of_any (by assumption)); (case kK => first | exact rfl | assumption); (case kd => ktr_room); (case ku => ktr_units); intro x9 dx9 r9 vr9 k9 hsh9 tk9 n9 res9 h9 tk9 F9 N9 or9 i9 lf9 z9 ll9 lu9 rd9 nz9; (try dsimp only [W.CmpBack]); (try k_fold))))
local macro_rules | `(tactic| walk_at "compareOp In int ref") => `(tactic| (k_here; (with_reducible show wpAny _ _ (compareOp CmpOp.In (Value.int _ _) (Value.ref _)) _ _ _); k_dflt (first
  | (refine' int_inT ?N ?m ?i ?k ?_; (case N => k_asm); (case m => k_mem); (case i => with_reducible assumption); (case k => with_reducible assumption))
  | (refine' int_inF ?N ?m ?i ?k ?_; (case N => k_asm); (case m => k_mem); (case i => with_reducible assumption); (case k => with_reducible assumption)))))
local macro_rules | `(tactic| walk_at "call builtin:list.remove") => `(tactic| (k_here; (with_reducible show wpAny _ _ (call (Value.builtin _) [Value.ref _, Value.int _ _]) _ _ _); k_dflt (refine' int_remove ?F ?N ?U ?i ?k ?z ?_; (case F => k_asm); (case N => k_asm); (case U => k_updF); (case i => with_reducible assumption); (case k => with_reducible assumption); (case z => assumption); k_whole); intro h9 q9 F9 N9 i9; (try dsimp only at N9)))
local macro_rules | `(tactic| walk_at "CompSrc") => `(tactic| (k_here; k_dflt (refine LCg.CompSrc.ledger (by rfl) (by k_asm) (by k_asm) (by k_mem) (up_size (by with_reducible assumption) (by assumption)) ?_; intro g'; refine Stop.out ?_)))
local macro_rules | `(tactic| walk_at "call ref") => `(tactic| (k_here; (with_reducible show wpAny _ _ (call (Value.ref 98) [Value.ref _, Value.int 1 _]) _ _ _); k_dflt (refine' laid_call1 ?kl ?ki ?kf ?k1 ?k2 ?k3 ?k4 ?k5 ?kK ?kd ?ku ?_; (case k1 => k_asm); (case k2 => k_asm); (case k3 => k_asm); (case k4 => k_asm); (case k5 => k_asm); (case kl => k_mem); (case ki => with_reducible assumption); (case kf => omega); (case kK => first | exact rfl | assumption); (case kd => ktr_room); (case ku => ktr_units); intro r9 vr9 k9 h9 tk9 F9 N9 l9 i9; (try dsimp only); (try k_fold))))
local macro_rules | `(tactic| walk_at "compareOp Eq ref ref") => `(tactic| (k_here; refine Stop.out ?_))
local macro_rules | `(tactic| walk_at "call builtin:isinstance") => `(tactic| (k_here; (with_reducible show wpAny _ _ (call (Value.builtin "isinstance") [Value.ref _, Value.ref 80]) _ _ _); k_dflt (refine' isi_call ?k1 ?k2 ?k3 ?k4 ?_; (case k1 => (refine' Frag.In.keeps ?kx (Fr.keep ?kf); (case kf => with_reducible assumption); (case kx => with_reducible assumption))); (case k2 => k_types); (case k3 => k_is); (case k4 => intro e; cases e); k_whole)))
local macro_rules | `(tactic| walk_at "call builtin:len") => `(tactic| (k_here; (with_reducible show wpAny _ _ (call (Value.builtin "len") [Value.ref _]) _ _ _); k_dflt (refine' poly_len ?h1 ?h2 ?h3 ?ki ?kq ?k1 ?k2 ?k3 ?k4 ?k5 ?kK ?kd ?ku ?_; (case k1 => k_asm); (case k2 => k_asm); (case k3 => k_asm); (case k4 => k_asm); (case k5 => k_asm); (case h1 => k_mem); (case h2 => k_mem); (case h3 => k_mem); (case ki => with_reducible assumption); (case kq => first | assumption | omega); (case kK => first | exact rfl | assumption); (case kd => ktr_room); (case ku => ktr_units); intro t9 h9 tk9 F9 N9; (try dsimp only); (try k_fold))))
local macro_rules | `(tactic| walk_at "compareOp NotEq ref ref") => `(tactic| (k_here; (with_reducible show wpAny _ _ (compareOp CmpOp.NotEq (Value.ref _) (Value.ref _)) _ _ _); k_dflt (refine' up_ne2 ?N ?a ?b ?i ?j ?u ?_; (case N => k_asm); (case a => k_mem); (case b => k_mem); (case i => with_reducible assumption); (case j => with_reducible assumption); (case u => ke_room))))
local macro_rules | `(tactic| walk_at "compareOp Eq ref ref") => `(tactic| (k_here; (with_reducible show wpAny _ _ (compareOp CmpOp.Eq (Value.ref _) (Value.ref _)) _ _ _); k_dflt (first
  | (refine' up_eqT (q2 := [0#8]) ?N ?a ?b ?i ?j ?u ?e ?_; (case N => k_asm); (case a => k_mem); (case b => k_mem); (case i => with_reducible assumption); (case j => exact IntsAre.cons 0 _ IntsAre.nil); (case u => ke_room); (case e => exact rfl))
  | (refine' up_eqF (q2 := [0#8]) ?N ?a ?b ?i ?j ?u ?e ?_; (case N => k_asm); (case a => k_mem); (case b => k_mem); (case i => with_reducible assumption); (case j => exact IntsAre.cons 0 _ IntsAre.nil); (case u => ke_room); (case e => assumption)))))
set_option maxHeartbeats 100000000 in
theorem law_all : PySem.Challenge.rw_ae6025_01.Holds := hd (by
  w_top off
  k_go0
  refine execs_stop ?_
  k_steps
  rotate_left
  · exact ⟨_, _, _, _, rfl, by decide, by decide, rfl, by k_asm, by k_asm⟩
  · exact ⟨_, _, _, _, rfl, by decide, by decide, rfl, by k_asm, by k_asm⟩
  refine ⟨?_⟩
  k_steps
  refine ⟨?_⟩
  rename List Int => script
  rename 0 < _ => hn0
  rename _ ≤ 255 => hn1
  rename IntsAre _ (List.map _ (rangeKs 0 _) ++ List.map _ (rangeKs 0 _)) => hR
  have hR2 := draws_ok (a := (draw script 1 3 - 0).toNat) (b := (2 + draw script 3 2 - 0).toNat) (fun k => draw_ok script 8 _ k hn0 hn1) (fun k => draw_ok script 13 _ k hn0 hn1)
  revert hR
  rename IntsAre _ (List.map _ (rangeKs 0 _) ++ List.map _ (rangeKs 0 _)) => hL1
  have hL2 := draws_ok (a := (draw script 1 3 - 0).toNat) (b := (2 + draw script 2 2 - 0).toNat) (fun k => draw_ok script 8 _ k hn0 hn1) (fun k => draw_ok script 10 _ k hn0 hn1)
  intro hR
  have hd1 := draw_lo script 1 3 (by decide)
  have hd2 := draw_lo script 2 2 (by decide)
  have hd3 := draw_lo script 3 2 (by decide)
  obtain ⟨left, hleft, lb1, lb2, lb3⟩ : ∃ left : List Int, IntsAre _ left ∧ 2 ≤ left.length ∧ left.length ≤ 5 ∧ ∀ x ∈ left, 0 ≤ x ∧ x < 255 := ⟨_, hL1, by rw [hL2.1]; omega, by rw [hL2.1]; omega, hL2.2⟩
  obtain ⟨right, hright, rb1, rb2, rb3⟩ : ∃ right : List Int, IntsAre _ right ∧ 2 ≤ right.length ∧ right.length ≤ 5 ∧ ∀ x ∈ right, 0 ≤ x ∧ x < 255 := ⟨_, hR, by rw [hR2.1]; omega, by rw [hR2.1]; omega, hR2.2⟩
  clear hR hR2 hL1 hL2
  have hb1 : 0 < 1 + draw script 4 255 ∧ 1 + draw script 4 255 < 256 := by have := draw_lo script 4 255 (by decide); omega
  have hb2 : 0 < 1 + draw script 5 255 ∧ 1 + draw script 5 255 < 256 := by have := draw_lo script 5 255 (by decide); omega
  generalize hv1 : 1 + draw script 4 255 = v1 at *
  generalize hv2 : 1 + draw script 5 255 = v2 at *
  clear hv1 hv2
  obtain ⟨la, hla, rfl⟩ := up_of hb1.1 hb1.2
  obtain ⟨ob, hob, rfl⟩ := up_of hb2.1 hb2.2
  have hl1 : (laid left la).length ≤ 64 := by rw [laid_length]; omega
  have hl2 : 0 < (laid left la).length := by rw [laid_length]; omega
  have hr1 : (laid right ob).length ≤ 64 := by rw [laid_length]; omega
  have hr2 : 0 < (laid right ob).length := by rw [laid_length]; omega
  k_steps
  refine ⟨?_⟩
  rename IsRange _ _ 0 12 _ _ _ _ => R9
  rename Fr _ _ _ _ => FF
  rename News _ _ _ _ => NN
  obtain ⟨N1, O1, ap⟩ := loop_start NN (by assumption) (by assumption) (by assumption) (by assumption) (by assumption) (by assumption) (by assumption) (by assumption) (by
    simp only [List.forall_mem_cons]
    refine ⟨?_, ?_, ?_, ?_, ?_, ?_, ?_, fun _ h => nomatch h⟩
    all_goals (simp only [Addr] at *; omega))
  have pt := parted right left
  have hst9 := law_start hla hob pt
  have hne9 := resOf_ne hla hob pt lb3 rb3
  rename Strip (laid left la) _ => stl
  rename Strip (laid right ob) _ => str
  have e1 := strip_eq stl (by rw [laid_head _ _ hla]; exact hla)
  have e2 := strip_eq str (by rw [laid_head _ _ hob]; exact hob)
  subst e1
  subst e2
  rename Below _ _ _ _ => K9
  dsimp only [PyProof.Rows.Top.heap] at K9 ⊢
  refine' iter_main (S := (parts left right).1.map exI) (c₀ := resOf la ob (parts left right).2.1 (parts left right).2.2) rfl R9 FF N1 O1 ?h0W7a ?stW7a
  case h0W7a =>
    refine ⟨fun z _ _ _ _ _ _ _ _ _ => rfl, ?_⟩
    refine' ⟨_, _, _, _, _, _, _, _, _, _, _, _, _, _, _, _, _, _, _, _, _, _, rfl, rfl, rfl, rfl, rfl, ?hcW7a, ?i1W7a, ?i2W7a, hst9, ?l1W7a, ?l2W7a, ?l3W7a⟩
    case hcW7a => first | k_asm | assumption
    case i1W7a => assumption
    case i2W7a => assumption
    case l1W7a => rw [laid_length]; omega
    case l2W7a => rw [laid_length]; omega
    case l3W7a => exact ap
  case stW7a =>
    clear ap N1 O1 FF NN R9
    w_top off
    rintro i₂ t₂ m₂ loc₂ h₂ tk₂ nw₂ hi₂ ⟨hag, x, dx, r, vr, k, n, hsh, tk, y, dy, ry, vy, ky, ny, hshy, tky, u, l, passed, tp, oc, d, ha, hb, hp, he, rfl, hoc, iu, il, hE, hul, hll, hap⟩ hsub₂ hoff₂ F₂ N₂
    have e := frm9 hag
    rw [ha, hb, hp, he] at e
    generalize m₂ (Str.ofString "_") = u1 at e
    generalize m₂ (Str.ofString "upper") = u2 at e
    generalize m₂ (Str.ofString "rest") = u3 at e
    generalize m₂ (Str.ofString "told") = u4 at e
    generalize m₂ (Str.ofString "octet") = u5 at e
    subst e
    clear hag ha hb hp he
    simp only [List.cons_append, List.nil_append] at N₂
    obtain ⟨ap1, ap2, ap3, ap4, ap5, ap6⟩ := hap
    have hoc2 := hoff₂.tail.tail.tail.tail.tail.tail
    have hl6 : l.length ≤ 64 := by omega
    have hu6 : u.length ≤ 64 := by omega
    obtain ⟨hu0, hl0, hcu, hcl⟩ := hE.heads
    refine execs_stop ?_
    k_steps
    refine ⟨?_⟩
    refine execs_stop ?_
    k_steps
    refine ⟨?_⟩
    refine execs_stop ?_
    k_steps
    refine ⟨?_⟩
    rename Fr _ _ _ _ => F3
    rename News _ _ _ _ => N3
    refine mid_join (u := u) (l := l) (x := x) (dx := dx) (r := r) F3 N3 ?wayW7b ?meetW7b
    case meetW7b =>
      w_top off
      intro s₉ j₉
      rcases j₉.cases hcl with ⟨h₉, tk₉, u6, u7, rl, vr₉, kr₉, rfl, F₉, i₉, rd₉, N₉⟩ | ⟨h₉, tk₉, u7, rl, vr₉, kr₉, res, x', dx', r', vr', k', hsh', tk', n', rfl, F₉, i₉, ll₉, z₉, lu₉, rd₉, cz₉, nz₉, ir₉, N₉, ho₉⟩
      · clear j₉ F3 N3
        have lgb := lg_lt (cf l 0)
        have lgi : (0:Int) ≤ (lg (cf l 0) : Int) ∧ (lg (cf l 0) : Int) < 255 := by omega
        k_steps
        show wpAny _ _ (execs _ _) _ _ _
        have hlast := hE.last hne9 rd₉
        w_top off
        obtain ⟨hx1, hx2, hx3, hx4, hx5⟩ := hlast
        rename Fr _ _ _ _ => F5
        rename News _ _ _ _ => N5
        rename (Obj.data _ = Data.cell (some (Value.ref _))) => dc
        have N6 := tail_news dc N5 (by k_mem) il (by k_mem) hsub₂ (fun p hp => by repeat (first | exact hp | refine List.mem_cons_of_mem _ ?_)) hleft hright (by k_mem) (by k_mem)
        clear N5 N₂ hsub₂ hoff₂ hoc2
        k_steps
        refine ⟨?_⟩
        rename Fr _ _ _ _ => F6
        rename News _ _ _ _ => N7
        refine' iter_list (loc := [_, _, _]) (PartJ left right _ _ _) rfl ?hlW7e F6 N7 ?hoW7e ⟨fun _ _ => rfl, _, _, _, _, _, _, rfl, IntsAre.nil, IntsAre.nil, hright⟩ ?stW7e ?dnW7e
        case hlW7e => k_mem
        case hoW7e =>
          refine Off.cons ?_ (Off.cons ?_ (Off.cons ?_ Off.nil))
          all_goals (repeat (first | exact List.forall_mem_nil _ | (refine List.forall_mem_cons.2 ⟨by k_ne, ?_⟩)))
        case stW7e =>
          clear N7 F6
          rintro i₃ v₃ m₃ loc₃ h₃ tk₃ nw₃ hv₃ ⟨hag₃, va, vb, vc, ka, kb, kc, rfl, j1, j2, j3⟩ hsub₃ hoff₃ F₃ N₃
          obtain ⟨x₃, t₃, hx₃, rfl, htake₃⟩ := ints_item hleft hv₃
          have e := frm1 hag₃
          generalize m₃ (Str.ofString "power") = u9 at e
          subst e
          clear hag₃
          simp only [List.cons_append, List.nil_append] at N₃
          have o2₃ := hoff₃.tail
          have o3₃ := o2₃.tail
          have pl := parts_len right (left.take i₃)
          have lt₃ : (left.take i₃).length ≤ left.length := by rw [List.length_take]; omega
          generalize hst : parts (left.take i₃) right = st at j1 j2 j3 pl
          have z1 : st.2.2.length ≤ 64 := by omega
          have z2 := j1.length
          have z3 := j2.length
          have z4 := j3.length
          have y1 : va.length ≤ 64 := by omega
          have y2 : vb.length ≤ 64 := by omega
          have y3 : vc.length ≤ 64 := by omega
          by_cases hm₃ : x₃ ∈ st.2.2
          · k_steps
            rename Fr _ _ _ _ => F8
            rename News _ _ _ _ => N8
            rw [List.push_toArray] at N8
            refine' TurnEnd.intro F8 N8 (loc' := [_, _, _]) (fun p hp => hp) (Off.cons hoff₃.head (Off.cons o2₃.head (Off.cons o3₃.head Off.nil))) ⟨?g1W7e, _, _, _, _, _, _, rfl, ?g2W7e, ?g3W7e, ?g4W7e⟩
            case g1W7e => intro z h1; simp only [h1, if_false]
            all_goals rw [htake₃, parts_snoc, hst, part1_T hm₃]
            case g2W7e => exact j1.append (IntsAre.cons _ _ IntsAre.nil)
            case g3W7e => exact j2
            case g4W7e => assumption
          · k_steps
            rename Fr _ _ _ _ => F8
            rename News _ _ _ _ => N8
            rw [List.push_toArray] at N8
            refine' TurnEnd.intro F8 N8 (loc' := [_, _, _]) (fun p hp => hp) (Off.cons hoff₃.head (Off.cons o2₃.head (Off.cons o3₃.head Off.nil))) ⟨?g1W7e, _, _, _, _, _, _, rfl, ?g2W7e, ?g3W7e, ?g4W7e⟩
            case g1W7e => intro z h1; simp only [h1, if_false]
            all_goals rw [htake₃, parts_snoc, hst, part1_F hm₃]
            case g2W7e => exact j1
            case g3W7e => exact j2.append (IntsAre.cons _ _ IntsAre.nil)
            case g4W7e => exact j3
        case dnW7e =>
          clear N7 F6
          rintro m₃ loc₃ h₃ tk₃ ⟨hag₃, va, vb, vc, ka, kb, kc, rfl, j1, j2, j3⟩ hoff₃ F₃ N₃
          have e := frm1 hag₃
          generalize m₃ (Str.ofString "power") = u9 at e
          subst e
          clear hag₃
          rw [hleft.length, List.take_length] at j1 j2 j3
          have pl := parts_len right left
          have hdue := law_due hla hob pt lb3 rb3
          generalize parts left right = st at *
          obtain ⟨sh, al, sp⟩ := st
          dsimp only at *
          simp only [List.cons_append, List.nil_append] at N₃
          have lga := lg_lt la
          have lgo := lg_lt ob
          have lgi2 : (0:Int) ≤ (lg la : Int) ∧ (lg la : Int) < 255 := by omega
          have lgi3 : (0:Int) ≤ (lg ob : Int) ∧ (lg ob : Int) < 255 := by omega
          have s1 : sp.length ≤ 5 := by omega
          have s2 : al.length ≤ 5 := by omega
          have s3 : sh.length ≤ 5 := by omega
          show wpAny _ _ (execs _ _) _ _ _
          k_steps
          refine ⟨?_⟩
          rename Fr _ _ _ _ => F6
          rename News _ _ _ _ => N7
          refine' iter_list (loc := []) (DueJ _ al sp) rfl ?hl₂W7e F6 N7 Off.nil ⟨fun _ _ _ _ => rfl, rfl, _, rfl⟩ ?st₂W7e ?dn₂W7e
          case hl₂W7e => k_mem
          case st₂W7e =>
            clear F₃ N₃
            rintro i₄ v₄ m₄ loc₄ h₄ tk₄ nw₄ hv₄ ⟨hag₄, rfl, td₄, hdu₄⟩ hsub₄ hoff₄ F₄ N₄
            obtain ⟨x₄, t₄, hx₄, rfl, htake₄⟩ := ints_item j2 hv₄
            have e := frm3 hag₄
            rw [hdu₄] at e
            generalize m₄ (Str.ofString "power") = u10 at e
            generalize m₄ (Str.ofString "more") = u11 at e
            subst e
            clear hag₄ hdu₄
            have hsp₄ : (_, listOf vc.toArray kc) ∈ nw₄ := hsub₄ _ (by k_mem)
            have hm₄ := List.mem_of_getElem? hx₄
            simp only [List.nil_append] at N₄
            clear F6 N7
            generalize hdd : dueOf _ (al.take i₄) sp = dd at F₄
            k_steps
            refine ⟨?_⟩
            rename Fr _ _ _ _ => F6
            refine' iter_list (loc := []) (DueInJ (exI x₄) dd sp) rfl hsp₄ F6 N₄ Off.nil ⟨fun _ _ _ => rfl, rfl, _, rfl⟩ ?st₃W7e ?dn₃W7e
            case st₃W7e =>
              rintro i₅ v₅ m₅ loc₅ h₅ tk₅ nw₅ hv₅ ⟨hag₅, rfl, td₅, hdu₅⟩ hsub₅ hoff₅ F₅ N₅
              obtain ⟨y₅, t₅, hy₅, rfl, htake₅⟩ := ints_item j3 hv₅
              have e := frm2 hag₅
              rw [hdu₅] at e
              generalize m₅ (Str.ofString "more") = u12 at e
              subst e
              clear hag₅ hdu₅
              have hm₅ := List.mem_of_getElem? hy₅
              have hxy := apart_xor pt lb3 rb3 hm₄ hm₅
              simp only [List.nil_append] at N₅
              clear F6 N₄
              generalize hde : dueIn _ _ (sp.take i₅) = de at F₅
              k_steps
              rename Fr _ _ _ _ => F8
              rename News _ _ _ _ => N8
              refine' TurnEnd.intro F8 N8 (loc' := []) (fun p hp => hp) Off.nil ⟨?g1W7e, rfl, _, ?g2W7e⟩
              case g1W7e => intro z z1 z2; simp only [z1, z2, if_false]
              case g2W7e => rw [htake₅, dueIn_snoc, hde]; rfl
            case dn₃W7e =>
              rintro m₅ loc₅ h₅ tk₅ ⟨hag₅, rfl, td₅, hdu₅⟩ hoff₅ F₅ N₅
              have e := frm2 hag₅
              rw [hdu₅] at e
              generalize m₅ (Str.ofString "more") = u12 at e
              subst e
              clear hag₅ hdu₅
              simp only [List.nil_append] at N₅
              rw [j3.length, List.take_length] at F₅
              show wpAny _ _ (execs _ _) _ _ _
              k_steps
              refine' TurnEnd.intro F₅ N₅ (loc' := []) (fun p hp => hp) Off.nil ⟨?g1W7e, rfl, _, ?g2W7e⟩
              case g1W7e => intro z z1 z2 z3; simp only [z1, z2, z3, if_false]
              case g2W7e => rw [htake₄, dueOf_snoc, hdd]; rfl
          case dn₂W7e =>
            rintro m₄ loc₄ h₄ tk₄ ⟨hag₄, rfl, td₄, hdu₄⟩ hoff₄ F₄ N₄
            have e := frm3 hag₄
            rw [hdu₄] at e
            generalize m₄ (Str.ofString "power") = u10 at e
            generalize m₄ (Str.ofString "more") = u11 at e
            subst e
            clear hag₄ hdu₄ F6 N7 F₃ N₃
            rw [j2.length, List.take_length] at F₄
            generalize hdd : dueOf _ al sp = dd at F₄ hdue
            simp only [List.nil_append] at N₄
            show wpAny _ _ (execs _ _) _ _ _
            w_top off
            refine execs_stop ?_
            k_steps
            refine ⟨?_⟩
            refine' kcf_up (meetF (cf l 0)) il (fun b₆ t₆ I₆ oI₆ C₆ oC₆ D₆ m₆ ys₆ h₆ tk₆ E₆ lo₆ hi₆ hC₆ hx₆ F₆ N₆ off₆ ne₆ hMark₆ => ?_) ?_
            · simp only [LCg.Off3, and_true] at off₆
              k_steps
              · exact kcf_el (meetF_n (by assumption)) rfl rfl
              · exact kcf_el (meetF_z (by assumption)) rfl rfl
            · k_steps
              refine ⟨?_⟩
              rename IntsAre _ (List.map up (List.map _ l)) => im
              rw [meet_is hx5 hx2 hx3] at im
              k_steps
              refine ⟨?_⟩
              rename News _ _ _ _ => N8
              k_dflt (refine' end_eq N8 ?h1W7f ?h2W7f ?h3W7f ?h4W7f im ?hjW7f ?enW7f ?emW7f ?uW7f ?_)
              case h1W7f => k_mem
              case h2W7f => k_mem
              case h3W7f => k_mem
              case h4W7f => k_mem
              case hjW7f => assumption
              case enW7f => exact congrArg up (hx1.trans hdue.symm)
              case emW7f => rfl
              case uW7f => ke_room
              all_goals try dsimp only
              k_steps
      · clear j₉ F3 N3
        have lgb := lg_lt (cf l 0)
        have lgi : (0:Int) ≤ (lg (cf l 0) : Int) ∧ (lg (cf l 0) : Int) < 255 := by omega
        have cz₈ := up_pos cz₉
        have r64 : res.length ≤ 64 := by omega
        k_steps
        · rename up _ = 0 => q₉
          exact absurd (up_eq_zero q₉) cz₉
        rename Fr _ _ _ _ => F4
        rename News _ _ _ _ => N4
        obtain ⟨o1, o2⟩ := next_off (ox' := instObj 80 dx') (odx' := dictOf [⟨hsh', .str (Str.ofString "num") tk', .ref r'⟩] n') (or' := listOf (List.toArray vr') k') ho₉ hoff₂ ⟨ap1, ap2, ap3, ap4, ap5, ap6⟩
        show TurnEnd _ _ _ _ _ _
        refine' TurnEnd.intro F4 N4 ?hsW7d o1 ⟨?agW7d, y, dy, ry, vy, ky, ny, hshy, tky, x', dx', r', vr', k', n', hsh', tk', l, res, _, _, _, _, ?e1W7d, ?e2W7d, ?e3W7d, ?e4W7d, ?e5W7d, ?e6W7d, il, ir₉, hE.next rd₉ ll₉ lu₉ z₉ cz₉, ?b1W7d, ?b2W7d, o2⟩
        case agW7d => intro z z0 z1 z2 z3 z4 z5 z6 z7 z8; simp only [z0, z1, z2, z3, z4, z5, z6, z7, z8, if_false]
        case e1W7d => rfl
        case e2W7d => rfl
        case e3W7d => rfl
        case e4W7d => rfl
        case e5W7d => rfl
        case e6W7d => k_asm
        case b1W7d => omega
        case b2W7d => omega
        case hsW7d =>
          intro p hp
          simp only [List.cons_append, List.nil_append] at hp
          iterate 7
            rcases List.mem_cons.1 hp with rfl | hp
            · k_mem
          repeat (first | exact hp | refine List.mem_cons_of_mem _ ?_)
    case wayW7b =>
      clear hsub₂ hoff₂ hst9 hE pt
      k_steps
      · rename Fr _ _ _ _ => F4
        rename News _ _ _ _ => N4
        rename Strip _ _ => st4
        rename (∀ p : Addr × Obj, p ∈ (_ :: _ :: _ :: _) → p.1 < _) => l4
        rename ¬ (1 < List.length _ ∧ cf _ 0 = 0#8) => nz4
        have e4 := strip_id st4 (by assumption)
        subst e4
        refine' MidJ.told F4 N4 ?aW7b ?bW7b ?cW7b ?i1W7b ?i2W7b ?q1W7b ?q2W7b ?q3W7b ?q4W7b ?q5W7b ?r1W7b ?r2W7b ?r3W7b ?r4W7b ?r5W7b ?r6W7b
        case aW7b => intro z z1 z2 z3; simp only [z1, z2, z3, if_false]
        case bW7b => rfl
        case cW7b => rfl
        case q2W7b => k_mem
        case q3W7b => k_mem
        case q4W7b => k_mem
        case q1W7b => k_mem
        case i1W7b => assumption
        case i2W7b => assumption
        case q5W7b => intro p hp; repeat (first | exact hp | refine List.mem_cons_of_mem _ ?_)
        case r1W7b => assumption
        case r2W7b => assumption
        case r3W7b => assumption
        case r4W7b => assumption
        case r5W7b => assumption
        case r6W7b => exact fresh3 (by assumption) (by assumption) (by assumption)
      · refine ⟨?_⟩
        rename Fr _ _ _ _ => F4
        rename News _ _ _ _ => N4
        rename IntsAre _ (List.map up _) => i4
        rename (_ ∨ _) => or4
        have or5 := fresh1 or4
        clear or4
        refine' iter_list (loc := []) OctJ rfl ?hlW7b F4 N4 Off.nil ⟨fun _ _ => rfl, rfl⟩ ?stW7b ?dnW7b
        case hlW7b => k_mem
        case stW7b =>
          rintro i₃ v₃ m₃ loc₃ h₃ tk₃ nw₃ hv₃ ⟨hag₃, rfl⟩ hsub₃ hoff₃ F₃ N₃
          have e := frm1 hag₃
          generalize m₃ (Str.ofString "octet") = u6 at e
          subst e
          clear hag₃ F4 N4
          obtain ⟨t₃, rfl, lo₃, up₃⟩ := ups_item2 i4 hv₃
          simp only [List.nil_append] at N₃
          k_steps
          rename Fr _ _ _ _ => F4
          rename News _ _ _ _ => N4
          exact TurnEnd.intro F4 N4 (loc' := []) (fun p hp => hp) Off.nil ⟨fun z h1 => by simp only [h1, if_false], rfl⟩
        case dnW7b =>
          rintro m₃ loc₃ h₃ tk₃ ⟨hag₃, rfl⟩ hoff₃ F₃ N₃
          have e := frm1 hag₃
          generalize m₃ (Str.ofString "octet") = u6 at e
          subst e
          clear hag₃ F4 N4
          simp only [List.nil_append] at N₃
          w_top off
          k_steps
          · exact absurd rfl (by assumption)
          · rename Fr _ _ _ _ => F4
            rename News _ _ _ _ => N4
            refine' MidJ.told F4 N4 ?aW7c ?bW7c ?cW7c ?i1W7c ?i2W7c ?q1W7c ?q2W7c ?q3W7c ?q4W7c ?q5W7c ?r1W7c ?r2W7c ?r3W7c ?r4W7c ?r5W7c or5
            case aW7c => intro z z1 z2 z3; simp only [z1, z2, z3, if_false]
            case bW7c => rfl
            case cW7c => rfl
            case q2W7c => k_mem
            case q3W7c => k_mem
            case q4W7c => k_mem
            case q1W7c => k_mem
            case i1W7c => assumption
            case i2W7c => assumption
            case q5W7c => intro p hp; repeat (first | exact hp | refine List.mem_cons_of_mem _ ?_)
            case r1W7c => assumption
            case r2W7c => assumption
            case r3W7c => assumption
            case r4W7c => assumption
            case r5W7c => assumption
      · rename Fr _ _ _ _ => F4
        rename News _ _ _ _ => N4
        exact MidJ.const F4 N4 (fun z _ _ _ => rfl) rfl (IntsAre.cons _ _ IntsAre.nil) (by omega))
end Mine
end

theorem PySem.Challenge.cw_ae6025_01_holds : PySem.Challenge.rw_ae6025_01.Holds := by
  exact Mine.law_all
