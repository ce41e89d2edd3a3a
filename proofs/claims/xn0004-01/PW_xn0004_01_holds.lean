import PyProof.Rows.All
import Wide.All
import OpenK.AllK
import Wide.FinOn
import PySem.Challenge.RW_xn0004_01

section
open PySem PySem.W PyProof.Rows
set_option Elab.async false
set_option maxRecDepth 100000
set_option maxHeartbeats 8000000
namespace Mine
open_top hd for PySem.Challenge.rw_xn0004_01
end Mine
end
section
open PySem PySem.W PyProof.Rows
set_option Elab.async false
set_option maxRecDepth 100000
set_option maxHeartbeats 400000
namespace Mine

/-- a def of the text, called from any frame, hands back `R` for some token; the heap only grows -/
def Ctr (w : World) (f : Addr) (vs : List Value) (R : Tok → Value) : Prop :=
  ∀ {mg mb : PySem.Str → Option Value} {mean : ExcName → Option Value} {dp un : Nat} {gd : Option (List Code)} {cn : PySem.Str} {cs : Scope} {a : Addr} {ccd : Value} {cl : List (PySem.Str × Addr)} {outer : List Env} {A₀ : Around} {base h₀ : Heap} {L : Addr} {m : PySem.Str → Option Value} {news : List (Addr × Obj)} {s : Shared} {Q E : Value → Shared → Prop},
    Below A₀ base outer h₀ → Fr h₀ L s.heap m → (hd.heap_39 w.params).In h₀ → News h₀ L s.heap news → Top topProg (looseW hd.view_39 [] ++ (recsOf hd.view_39).map (·.name) ++ (litsOf hd.view_39).map (·.1) ++ (clssOf hd.view_39 (looseW hd.view_39 [])).map (·.name)) mean mg mb h₀ → cs.kind = .function → dp + 8 < recursionLimit → un + 64 < cLine →
    (∀ (t : Tok) (h : Heap) (tk : Nat), Fr h₀ L h m → News h₀ L h news → Q (R t) { s with heap := h, toks := tk }) →
    wpAny (model PySem.Challenge.rw_xn0004_01.row.prog w) (ktrTop dp un gd cn cs L a ccd cl outer) (call (.ref f) vs) Q E s

theorem ctr_int {h₀ : Heap} {L : Addr} {m : PySem.Str → Option Value} {news : List (Addr × Obj)} {s : Shared} {Q : Value → Shared → Prop} {x y : Int} {t : Tok} {h : Heap} {tk : Nat}
    (hret : ∀ (t : Tok) (h : Heap) (tk : Nat), Fr h₀ L h m → News h₀ L h news → Q (.int x t) { s with heap := h, toks := tk }) (e : y = x) (F : Fr h₀ L h m) (N : News h₀ L h news) : Q (.int y t) { s with heap := h, toks := tk } := by
  subst e; exact hret _ _ _ F N

theorem and_65535 {x : Int} (hx : 0 ≤ x) : Builtin.bitAnd x 65535 = x % 65536 := by
  obtain ⟨n, rfl⟩ := Int.eq_ofNat_of_zero_le hx
  unfold Builtin.bitAnd
  simp only [decide_eq_true hx, show decide ((0 : Int) ≤ 65535) = true from rfl]
  show ((n &&& 65535 : Nat) : Int) = _
  rw [show (65535 : Nat) = 2 ^ 16 - 1 from rfl, Nat.and_two_pow_sub_one_eq_mod]
  rfl
theorem imul_spec {w : World} (x y : Int) (t u : Tok) (hx : x.natAbs < 10 ^ 9) (hy : y.natAbs < 10 ^ 9) : Ctr w 70 [.int x t, .int y u] (fun t => .int (x * y) t) := by
  unfold Ctr; (try k_fill); intros; rename_i hret; refine wpAny_call ?_; k_dflt cell_enter; k_steps
  refine ctr_int hret ?_ (by k_asm) (by k_asm)
  rfl
theorem iadd_spec {w : World} (x y : Int) (t u : Tok) : Ctr w 42 [.int x t, .int y u] (fun t => .int (x + y) t) := by
  unfold Ctr; (try k_fill); intros; rename_i hret; refine wpAny_call ?_; k_dflt cell_enter; k_steps
  refine ctr_int hret ?_ (by k_asm) (by k_asm)
  rfl
theorem isub_spec {w : World} (x y : Int) (t u : Tok) : Ctr w 84 [.int x t, .int y u] (fun t => .int (x - y) t) := by
  unfold Ctr; (try k_fill); intros; rename_i hret; refine wpAny_call ?_; k_dflt cell_enter; k_steps
  refine ctr_int hret ?_ (by k_asm) (by k_asm)
  rfl
theorem ifloordiv_spec4 {w : World} (x : Int) (t u : Tok) : Ctr w 56 [.int x t, .int 4 u] (fun t => .int (x / 4) t) := by
  unfold Ctr; (try k_fill); intros; rename_i hret; refine wpAny_call ?_; k_dflt cell_enter; k_steps
  refine ctr_int hret ?_ (by k_asm) (by k_asm)
  exact Int.fdiv_eq_ediv_of_nonneg _ (by decide)
theorem ifloordiv_spec146097 {w : World} (x : Int) (t u : Tok) : Ctr w 56 [.int x t, .int 146097 u] (fun t => .int (x / 146097) t) := by
  unfold Ctr; (try k_fill); intros; rename_i hret; refine wpAny_call ?_; k_dflt cell_enter; k_steps
  refine ctr_int hret ?_ (by k_asm) (by k_asm)
  exact Int.fdiv_eq_ediv_of_nonneg _ (by decide)
theorem ifloordiv_spec1461 {w : World} (x : Int) (t u : Tok) : Ctr w 56 [.int x t, .int 1461 u] (fun t => .int (x / 1461) t) := by
  unfold Ctr; (try k_fill); intros; rename_i hret; refine wpAny_call ?_; k_dflt cell_enter; k_steps
  refine ctr_int hret ?_ (by k_asm) (by k_asm)
  exact Int.fdiv_eq_ediv_of_nonneg _ (by decide)
theorem ifloordiv_spec2141 {w : World} (x : Int) (t u : Tok) : Ctr w 56 [.int x t, .int 2141 u] (fun t => .int (x / 2141) t) := by
  unfold Ctr; (try k_fill); intros; rename_i hret; refine wpAny_call ?_; k_dflt cell_enter; k_steps
  refine ctr_int hret ?_ (by k_asm) (by k_asm)
  exact Int.fdiv_eq_ediv_of_nonneg _ (by decide)
theorem imod_spec {w : World} (x y : Int) (t u : Tok) (hy : 0 < y) : Ctr w 63 [.int x t, .int y u] (fun t => .int (x % y) t) := by
  unfold Ctr; (try k_fill); intros; rename_i hret; refine wpAny_call ?_; k_dflt cell_enter; k_steps
  refine ctr_int hret ?_ (by k_asm) (by k_asm)
  exact Int.fmod_eq_emod_of_nonneg _ (by omega)
theorem irshift_spec {w : World} (x : Int) (t u : Tok) (hx : 0 ≤ x) : Ctr w 77 [.int x t, .int 16 u] (fun t => .int (x / 65536) t) := by
  unfold Ctr; (try k_fill); intros; rename_i hret; refine wpAny_call ?_; k_dflt cell_enter; k_steps
  refine ctr_int hret ?_ (by k_asm) (by k_asm)
  exact Int.fdiv_eq_ediv_of_nonneg _ (by decide)
theorem iand_spec {w : World} (x : Int) (t u : Tok) (hx : 0 ≤ x) : Ctr w 49 [.int x t, .int 65535 u] (fun t => .int (x % 65536) t) := by
  unfold Ctr; (try k_fill); intros; rename_i hret; refine wpAny_call ?_; k_dflt cell_enter; k_steps
  refine ctr_int hret ?_ (by k_asm) (by k_asm)
  exact and_65535 hx

/-- the def's products, as numbers -/
def thenP (d : Int) : Int := 4 * (((4 * d + 3) % 146097) / 4) + 3
def lastP (d : Int) : Int := 2141 * ((thenP d % 1461) / 4) + 197913
def yearP (d : Int) : Int := 100 * ((4 * d + 3) / 146097) + thenP d / 1461
def monthP (d : Int) : Int := lastP d / 65536
def placeP (d : Int) : Int := (lastP d % 65536) / 2141
def weekP (d : Int) : Int := (d + 2) % 7
end Mine
end
section
open PySem PySem.W PyProof.Rows
set_option Elab.async false
set_option maxRecDepth 100000
set_option maxHeartbeats 1000000
namespace Mine

abbrev tup4 (x1 x2 x3 x4 : Int) (t1 t2 t3 t4 : Tok) (c : Nat) : Obj := { cls := .type "tuple", data := .seq #[.int x1 t1, .int x2 t2, .int x3 t3, .int x4 t4] c }
def Ctr4 (w : World) (f : Addr) (vs : List Value) (x1 x2 x3 x4 : Int) : Prop :=
  ∀ {mg mb : PySem.Str → Option Value} {mean : ExcName → Option Value} {dp un : Nat} {gd : Option (List Code)} {cn : PySem.Str} {cs : Scope} {a : Addr} {ccd : Value} {cl : List (PySem.Str × Addr)} {outer : List Env} {A₀ : Around} {base h₀ : Heap} {L : Addr} {m : PySem.Str → Option Value} {news : List (Addr × Obj)} {s : Shared} {Q E : Value → Shared → Prop},
    Below A₀ base outer h₀ → Fr h₀ L s.heap m → (hd.heap_39 w.params).In h₀ → News h₀ L s.heap news → Top topProg (looseW hd.view_39 [] ++ (recsOf hd.view_39).map (·.name) ++ (litsOf hd.view_39).map (·.1) ++ (clssOf hd.view_39 (looseW hd.view_39 [])).map (·.name)) mean mg mb h₀ → cs.kind = .function → dp + 16 < recursionLimit → un + 128 < cLine →
    (∀ (D : Addr) (t1 t2 t3 t4 : Tok) (c : Nat) (h : Heap) (tk : Nat), Fr h₀ L h m → News h₀ L h ((D, tup4 x1 x2 x3 x4 t1 t2 t3 t4 c) :: news) → (∀ p ∈ news, p.1 < D) → Q (.ref D) { s with heap := h, toks := tk }) →
    wpAny (model PySem.Challenge.rw_xn0004_01.row.prog w) (ktrTop dp un gd cn cs L a ccd cl outer) (call (.ref f) vs) Q E s

local macro_rules | `(tactic| walk_at "call ref") => `(tactic| (k_here; (with_reducible show wpAny _ _ (call (Value.ref 42) [_, _]) _ _ _); k_dflt (refine iadd_spec _ _ _ _ (by k_asm) (by k_asm) (by k_asm) (by k_asm) (by k_asm) (by first | assumption | exact rfl) (by ktr_room) (by ktr_units) ?_; intro t9 h9 tk9 F9 N9; (try dsimp only))))
local macro_rules | `(tactic| walk_at "call ref") => `(tactic| (k_here; (with_reducible show wpAny _ _ (call (Value.ref 70) [_, _]) _ _ _); k_dflt (refine imul_spec _ _ _ _ (by omega) (by omega) (by k_asm) (by k_asm) (by k_asm) (by k_asm) (by k_asm) (by first | assumption | exact rfl) (by ktr_room) (by ktr_units) ?_; intro t9 h9 tk9 F9 N9; (try dsimp only))))
local macro_rules | `(tactic| walk_at "call ref") => `(tactic| (k_here; (with_reducible show wpAny _ _ (call (Value.ref 63) [_, _]) _ _ _); k_dflt (refine imod_spec _ _ _ _ (by decide) (by k_asm) (by k_asm) (by k_asm) (by k_asm) (by k_asm) (by first | assumption | exact rfl) (by ktr_room) (by ktr_units) ?_; intro t9 h9 tk9 F9 N9; (try dsimp only))))
local macro_rules | `(tactic| walk_at "call ref") => `(tactic| (k_here; (with_reducible show wpAny _ _ (call (Value.ref 77) [_, _]) _ _ _); k_dflt (refine irshift_spec _ _ _ (by omega) (by k_asm) (by k_asm) (by k_asm) (by k_asm) (by k_asm) (by first | assumption | exact rfl) (by ktr_room) (by ktr_units) ?_; intro t9 h9 tk9 F9 N9; (try dsimp only))))
local macro_rules | `(tactic| walk_at "call ref") => `(tactic| (k_here; (with_reducible show wpAny _ _ (call (Value.ref 49) [_, _]) _ _ _); k_dflt (refine iand_spec _ _ _ (by omega) (by k_asm) (by k_asm) (by k_asm) (by k_asm) (by k_asm) (by first | assumption | exact rfl) (by ktr_room) (by ktr_units) ?_; intro t9 h9 tk9 F9 N9; (try dsimp only))))
local macro_rules | `(tactic| walk_at "call ref") => `(tactic| (k_here; (with_reducible show wpAny _ _ (call (Value.ref 56) [_, _]) _ _ _); k_dflt ((first | refine ifloordiv_spec4 _ _ _ (by k_asm) (by k_asm) (by k_asm) (by k_asm) (by k_asm) (by first | assumption | exact rfl) (by ktr_room) (by ktr_units) ?_ | refine ifloordiv_spec146097 _ _ _ (by k_asm) (by k_asm) (by k_asm) (by k_asm) (by k_asm) (by first | assumption | exact rfl) (by ktr_room) (by ktr_units) ?_ | refine ifloordiv_spec1461 _ _ _ (by k_asm) (by k_asm) (by k_asm) (by k_asm) (by k_asm) (by first | assumption | exact rfl) (by ktr_room) (by ktr_units) ?_ | refine ifloordiv_spec2141 _ _ _ (by k_asm) (by k_asm) (by k_asm) (by k_asm) (by k_asm) (by first | assumption | exact rfl) (by ktr_room) (by ktr_units) ?_); intro t9 h9 tk9 F9 N9; (try dsimp only))))

theorem products_spec {w : World} (d : Int) (u : Tok) (hd0 : 0 ≤ d) (hd1 : d < 3652365) : Ctr4 w 105 [.int d u] (yearP d) (monthP d) (placeP d) (weekP d) := by
  unfold Ctr4; (try k_fill); intros; rename_i hret; refine wpAny_call ?_; k_dflt cell_enter; k_steps
  exact hret _ _ _ _ _ _ _ _ (by k_asm) (by with_unfolding_all k_asm) (by assumption)
end Mine
end
section
open PySem PySem.W PyProof.Rows
set_option Elab.async false
set_option maxRecDepth 100000
set_option maxHeartbeats 1000000
namespace Mine

abbrev tup3 (x1 x2 x3 : Int) (t1 t2 t3 : Tok) (c : Nat) : Obj := { cls := .type "tuple", data := .seq #[.int x1 t1, .int x2 t2, .int x3 t3] c }
def Ctr3 (w : World) (f : Addr) (vs : List Value) (x1 x2 x3 : Int) : Prop :=
  ∀ {mg mb : PySem.Str → Option Value} {mean : ExcName → Option Value} {dp un : Nat} {gd : Option (List Code)} {cn : PySem.Str} {cs : Scope} {a : Addr} {ccd : Value} {cl : List (PySem.Str × Addr)} {outer : List Env} {A₀ : Around} {base h₀ : Heap} {L : Addr} {m : PySem.Str → Option Value} {news : List (Addr × Obj)} {s : Shared} {Q E : Value → Shared → Prop},
    Below A₀ base outer h₀ → Fr h₀ L s.heap m → (hd.heap_39 w.params).In h₀ → News h₀ L s.heap news → Top topProg (looseW hd.view_39 [] ++ (recsOf hd.view_39).map (·.name) ++ (litsOf hd.view_39).map (·.1) ++ (clssOf hd.view_39 (looseW hd.view_39 [])).map (·.name)) mean mg mb h₀ → cs.kind = .function → dp + 8 < recursionLimit → un + 64 < cLine →
    (∀ (D : Addr) (t1 t2 t3 : Tok) (c : Nat) (h : Heap) (tk : Nat), Fr h₀ L h m → News h₀ L h ((D, tup3 x1 x2 x3 t1 t2 t3 c) :: news) → (∀ p ∈ news, p.1 < D) → Q (.ref D) { s with heap := h, toks := tk }) →
    wpAny (model PySem.Challenge.rw_xn0004_01.row.prog w) (ktrTop dp un gd cn cs L a ccd cl outer) (call (.ref f) vs) Q E s
def civY (y mo : Int) : Int := if 12 < mo then y + 1 else y
def civM (mo : Int) : Int := if 12 < mo then mo - 12 else mo
theorem civil_spec {w : World} (y mo p : Int) (t u v : Tok) : Ctr3 w 112 [.int y t, .int mo u, .int p v] (civY y mo) (civM mo) (p + 1) := by
  unfold Ctr3; (try k_fill); intros; rename_i hret; refine wpAny_call ?_; k_dflt cell_enter; k_steps
  · rename (_ < _) => hlt
    unfold civY civM at hret
    rw [if_pos hlt, if_pos hlt] at hret
    exact hret _ _ _ _ _ _ _ (by k_asm) (by k_asm) (by assumption)
  · rename (¬ _) => hlt
    unfold civY civM at hret
    rw [if_neg hlt, if_neg hlt] at hret
    exact hret _ _ _ _ _ _ _ (by k_asm) (by k_asm) (by assumption)
end Mine
end
section
open PySem PySem.W PyProof.Rows
set_option Elab.async false
set_option maxRecDepth 100000
set_option maxHeartbeats 2000000
namespace Mine
def fig2 (n : Int) : PySem.Str := ⟨#[48 + n.toNat / 10, 48 + n.toNat % 10]⟩
def fig4 (n : Int) : PySem.Str := ⟨#[48 + n.toNat / 1000, 48 + n.toNat / 100 % 10, 48 + n.toNat / 10 % 10, 48 + n.toNat % 10]⟩
def CtrS (w : World) (f : Addr) (vs : List Value) (X : PySem.Str) (n : Nat) : Prop :=
  ∀ {mg mb : PySem.Str → Option Value} {mean : ExcName → Option Value} {dp un : Nat} {gd : Option (List Code)} {cn : PySem.Str} {cs : Scope} {a : Addr} {ccd : Value} {cl : List (PySem.Str × Addr)} {outer : List Env} {A₀ : Around} {base h₀ : Heap} {L : Addr} {m : PySem.Str → Option Value} {news : List (Addr × Obj)} {s : Shared} {Q E : Value → Shared → Prop},
    Below A₀ base outer h₀ → Fr h₀ L s.heap m → (hd.heap_39 w.params).In h₀ → News h₀ L s.heap news → Top topProg (looseW hd.view_39 [] ++ (recsOf hd.view_39).map (·.name) ++ (litsOf hd.view_39).map (·.1) ++ (clssOf hd.view_39 (looseW hd.view_39 [])).map (·.name)) mean mg mb h₀ → cs.kind = .function → dp + 8 < recursionLimit → un + 64 < cLine →
    (∀ (t : Tok) (h : Heap) (tk : Nat), Fr h₀ L h m → News h₀ L h news → X.length ≤ n → Q (.str X t) { s with heap := h, toks := tk }) →
    wpAny (model PySem.Challenge.rw_xn0004_01.row.prog w) (ktrTop dp un gd cn cs L a ccd cl outer) (call (.ref f) vs) Q E s
abbrev tup7 (x1 x2 x3 x4 x5 x6 x7 : Int) (t1 t2 t3 t4 t5 t6 t7 : Tok) (c : Nat) : Obj := { cls := .type "tuple", data := .seq #[.int x1 t1, .int x2 t2, .int x3 t3, .int x4 t4, .int x5 t5, .int x6 t6, .int x7 t7] c }
/-- as Ctr, of a call that reads one made object -/
def CtrO (w : World) (f : Addr) (vs : List Value) (T : Addr) (o : Obj) (R : Tok → Value) : Prop :=
  ∀ {mg mb : PySem.Str → Option Value} {mean : ExcName → Option Value} {dp un : Nat} {gd : Option (List Code)} {cn : PySem.Str} {cs : Scope} {a : Addr} {ccd : Value} {cl : List (PySem.Str × Addr)} {outer : List Env} {A₀ : Around} {base h₀ : Heap} {L : Addr} {m : PySem.Str → Option Value} {news : List (Addr × Obj)} {s : Shared} {Q E : Value → Shared → Prop},
    Below A₀ base outer h₀ → Fr h₀ L s.heap m → (hd.heap_39 w.params).In h₀ → News h₀ L s.heap ((T, o) :: news) → Top topProg (looseW hd.view_39 [] ++ (recsOf hd.view_39).map (·.name) ++ (litsOf hd.view_39).map (·.1) ++ (clssOf hd.view_39 (looseW hd.view_39 [])).map (·.name)) mean mg mb h₀ → cs.kind = .function → dp + 16 < recursionLimit → un + 128 < cLine →
    (∀ (t : Tok) (h : Heap) (tk : Nat), Fr h₀ L h m → News h₀ L h ((T, o) :: news) → Q (R t) { s with heap := h, toks := tk }) →
    wpAny (model PySem.Challenge.rw_xn0004_01.row.prog w) (ktrTop dp un gd cn cs L a ccd cl outer) (call (.ref f) vs) Q E s
end Mine
end
section
open PySem PySem.W PyProof.Rows
set_option Elab.async false
set_option maxRecDepth 100000
set_option maxHeartbeats 400000
namespace Mine
theorem zip_at {α β γ : Type} (f : α → β → γ) (l : List α) (m : List β) (a : α) (b : β) (i : Nat) (h1 : i < l.length) (h2 : i < m.length) : (List.zipWith f l m)[i]? = some (f (l.getD i a) (m.getD i b)) := by
  rw [List.getElem?_zipWith, List.getD_eq_getElem?_getD, List.getD_eq_getElem?_getD, List.getElem?_eq_getElem h1, List.getElem?_eq_getElem h2]
  rfl
theorem of_fin {P : Int → Prop} {n : Nat} (h : ∀ i : Fin n, P (i.val : Int)) {k : Int} (h0 : 0 ≤ k) (h1 : k < n) : P k := by
  obtain ⟨m, rfl⟩ := Int.eq_ofNat_of_zero_le h0
  exact h ⟨m, Int.ofNat_lt.mp h1⟩
theorem sub1_lt {k n : Int} (h : k ≤ n) : k - 1 < n := by omega
theorem of_fin1 {P : Int → Prop} {n : Nat} (h : ∀ i : Fin n, P ((i.val : Int) + 1)) {k : Int} (h0 : 1 ≤ k) (h1 : k ≤ n) : P k := by
  have e := of_fin (P := fun k => P (k + 1)) h (Int.sub_nonneg_of_le h0) (sub1_lt h1)
  rwa [Int.sub_add_cancel] at e
theorem dig_one : ∀ n < 10, (Nat.digitChar n).toNat = 48 + n := by decide
def dl (n : Nat) : List Nat := (Nat.toDigits 10 n).map Char.toNat
theorem dl_lt {n : Nat} (h : n < 10) : dl n = [48 + n] := by
  unfold dl; rw [Nat.toDigits_of_lt_base h]; simp [dig_one n h]
theorem dl_ge {n : Nat} (h : 10 ≤ n) : dl n = dl (n / 10) ++ [48 + n % 10] := by
  unfold dl; rw [Nat.toDigits_of_base_le (by decide) h]; simp [dig_one (n % 10) (Nat.mod_lt _ (by decide))]
theorem dl2 {n : Nat} (h : 10 ≤ n) (h' : n < 100) : dl n = [48 + n / 10, 48 + n % 10] := by
  rw [dl_ge h, dl_lt (by omega)]; rfl
theorem dl3 {n : Nat} (h : 100 ≤ n) (h' : n < 1000) : dl n = [48 + n / 100, 48 + n / 10 % 10, 48 + n % 10] := by
  rw [dl_ge (by omega), dl2 (by omega) (by omega), Nat.div_div_eq_div_mul]; rfl
theorem dl4 {n : Nat} (h : 1000 ≤ n) (h' : n < 10000) : dl n = [48 + n / 1000, 48 + n / 100 % 10, 48 + n / 10 % 10, 48 + n % 10] := by
  rw [dl_ge (by omega), dl3 (by omega) (by omega), Nat.div_div_eq_div_mul, Nat.div_div_eq_div_mul]; rfl
theorem dl5 {n : Nat} (h : 10000 ≤ n) (h' : n < 100000) : dl n = [48 + n / 10000, 48 + n / 1000 % 10, 48 + n / 100 % 10, 48 + n / 10 % 10, 48 + n % 10] := by
  rw [dl_ge (by omega), dl4 (by omega) (by omega), Nat.div_div_eq_div_mul, Nat.div_div_eq_div_mul, Nat.div_div_eq_div_mul]; rfl
theorem slice1_3 (a b c : Nat) : Txt.slice ⟨#[a, b, c]⟩ (some 1) none = ⟨#[b, c]⟩ := by kernel_rfl
theorem slice1_5 (a b c d e : Nat) : Txt.slice ⟨#[a, b, c, d, e]⟩ (some 1) none = ⟨#[b, c, d, e]⟩ := by kernel_rfl
open PySem.Builtin.Str in
abbrev padF (w : Nat) : Percent := ⟨false, false, false, false, true, some w, none, 100⟩
open PySem.Builtin.Str in
def padB (w : Nat) (l : List Nat) : List Nat := match percentField (padF w) true (percentInt (padF w) false l) with
  | none => percentInt (padF w) false l
  | some l => l
theorem pad2_digits : ∀ n < 100, padB 2 (dl n) = [48 + n / 10, 48 + n % 10] := by decide +kernel
theorem pad4_1 : ∀ a < 10, padB 4 [48 + a] = [48, 48, 48, 48 + a] := by decide +kernel
theorem all10 {P : Nat → Prop} (h : ∀ a ∈ [0, 1, 2, 3, 4, 5, 6, 7, 8, 9], P a) : ∀ a < 10, P a := fun a ha => h a (show a ∈ List.range 10 from List.mem_range.mpr ha)
theorem pad4_2 {b : Nat} : ∀ a < 10, padB 4 [48 + a, b] = [48, 48, 48 + a, b] := all10 (List.forall_mem_cons.2 ⟨rfl, List.forall_mem_cons.2 ⟨rfl, List.forall_mem_cons.2 ⟨rfl, List.forall_mem_cons.2 ⟨rfl, List.forall_mem_cons.2 ⟨rfl, List.forall_mem_cons.2 ⟨rfl, List.forall_mem_cons.2 ⟨rfl, List.forall_mem_cons.2 ⟨rfl, List.forall_mem_cons.2 ⟨rfl, List.forall_mem_cons.2 ⟨rfl, fun _ h => nomatch h⟩⟩⟩⟩⟩⟩⟩⟩⟩⟩)
theorem pad4_3 {b c : Nat} : ∀ a < 10, padB 4 [48 + a, b, c] = [48, 48 + a, b, c] := all10 (List.forall_mem_cons.2 ⟨rfl, List.forall_mem_cons.2 ⟨rfl, List.forall_mem_cons.2 ⟨rfl, List.forall_mem_cons.2 ⟨rfl, List.forall_mem_cons.2 ⟨rfl, List.forall_mem_cons.2 ⟨rfl, List.forall_mem_cons.2 ⟨rfl, List.forall_mem_cons.2 ⟨rfl, List.forall_mem_cons.2 ⟨rfl, List.forall_mem_cons.2 ⟨rfl, fun _ h => nomatch h⟩⟩⟩⟩⟩⟩⟩⟩⟩⟩)
theorem pad4_4 {a b c d : Nat} : padB 4 [a, b, c, d] = [a, b, c, d] := by rfl
theorem pad4_digits {n : Nat} (h : n < 10000) : padB 4 (dl n) = [48 + n / 1000, 48 + n / 100 % 10, 48 + n / 10 % 10, 48 + n % 10] := by
  by_cases h1 : n < 10
  · rw [dl_lt h1, pad4_1 n h1, Nat.div_eq_of_lt (Nat.lt_trans h1 (by decide : 10 < 1000)), Nat.div_eq_of_lt (Nat.lt_trans h1 (by decide : 10 < 100)), Nat.div_eq_of_lt h1, Nat.mod_eq_of_lt h1]
  by_cases h2 : n < 100
  · have h3 : n / 10 < 10 := Nat.div_lt_of_lt_mul h2
    rw [dl2 (Nat.not_lt.mp h1) h2, pad4_2 _ h3, Nat.div_eq_of_lt (Nat.lt_trans h2 (by decide : 100 < 1000)), Nat.div_eq_of_lt h2, Nat.mod_eq_of_lt h3]
  by_cases h3 : n < 1000
  · have h4 : n / 100 < 10 := Nat.div_lt_of_lt_mul h3
    rw [dl3 (Nat.not_lt.mp h2) h3, pad4_3 _ h4, Nat.div_eq_of_lt h3, Nat.mod_eq_of_lt h4]
  rw [dl4 (Nat.not_lt.mp h3) h, pad4_4]
end Mine
end
section
open PySem PySem.W PyProof.Rows
set_option Elab.async false
set_option maxRecDepth 100000
set_option maxHeartbeats 9000000
namespace Mine
open PySem.Builtin PySem.Builtin.Str in
theorem pad_none {f : Percent} {w : Nat} (hf : f = padF w) {d : Int} (d0 : 0 ≤ d) {L : List Nat} (hL : padB w (dl d.toNat) = L)
   (h : percentField f true (percentInt f (decide (d < 0)) (PySem.Str.ofString (toString ((d.natAbs : Nat) : Int))).cps.toList) = none) :
   (⟨(percentInt f (decide (d < 0)) (PySem.Str.ofString (toString ((d.natAbs : Nat) : Int))).cps.toList).toArray⟩ : PySem.Str) = ⟨L.toArray⟩ := by
  subst hf
  obtain ⟨m, rfl⟩ := Int.eq_ofNat_of_zero_le d0
  have e1 : decide ((m : Int) < 0) = false := decide_eq_false (by omega)
  have e2 : (PySem.Str.ofString (toString ((((m : Int)).natAbs : Nat) : Int))).cps.toList = dl m := KIN.signs_num m
  rw [e1, e2] at h
  rw [e1, e2, ← hL]
  unfold padB
  rw [show ((m : Int)).toNat = m from rfl, h]
open PySem.Builtin PySem.Builtin.Str in
theorem pad_some {f : Percent} {w : Nat} (hf : f = padF w) {d : Int} (d0 : 0 ≤ d) {L l : List Nat} (hL : padB w (dl d.toNat) = L)
   (h : percentField f true (percentInt f (decide (d < 0)) (PySem.Str.ofString (toString ((d.natAbs : Nat) : Int))).cps.toList) = some l) :
   (⟨l.toArray⟩ : PySem.Str) = ⟨L.toArray⟩ := by
  subst hf
  obtain ⟨m, rfl⟩ := Int.eq_ofNat_of_zero_le d0
  have e1 : decide ((m : Int) < 0) = false := decide_eq_false (by omega)
  have e2 : (PySem.Str.ofString (toString ((((m : Int)).natAbs : Nat) : Int))).cps.toList = dl m := KIN.signs_num m
  rw [e1, e2] at h
  rw [← hL]
  unfold padB
  rw [show ((m : Int)).toNat = m from rfl, h]
theorem pad2_fig {d : Int} (d0 : 0 ≤ d) (d1 : d < 100) : padB 2 (dl d.toNat) = (fig2 d).cps.toList := pad2_digits _ (by omega)
theorem pad4_fig {d : Int} (d0 : 0 ≤ d) (d1 : d < 10000) : padB 4 (dl d.toNat) = (fig4 d).cps.toList := pad4_digits (by omega)
open PySem.Builtin PySem.Builtin.Str in
def TurnPost (M : Model) (A : Around) (E : Value → Shared → Prop) (l : List Nat) (f : Nat → List Value × Writer × List Nat → Sem (ForInStep (List Value × Writer × List Nat))) (Q : List Value × Writer × List Nat → Shared → Prop) (r : ForInStep (List Value × Writer × List Nat)) (s' : Shared) : Prop :=
  match r with | .done b' => Q b' s' | .yield b' => wpAny M A (forIn l b' f) Q E s'
open PySem.Builtin PySem.Builtin.Str in
theorem turn' {M : Model} {A : Around} {E : Value → Shared → Prop} {s : Shared} {l : List Nat} {x : Nat} {b : List Value × Writer × List Nat} {f : Nat → List Value × Writer × List Nat → Sem (ForInStep (List Value × Writer × List Nat))} {Q : List Value × Writer × List Nat → Shared → Prop}
    (h : wpAny M A (f x b) (TurnPost M A E l f Q) E s) : wpAny M A (forIn (x :: l) b f) Q E s := KPc.turn (wpAny_mono h (fun r s' hr => by cases r <;> exact hr) (fun _ _ e => e))
open PySem.Builtin PySem.Builtin.Str in
theorem pad_turn {M : Model} {A : Around} {E : Value → Shared → Prop} {s : Shared} {l : List Nat} {p : List Value} {r : List Nat}
  {f : Nat → List Value × Writer × List Nat → Sem (ForInStep (List Value × Writer × List Nat))} {Q : List Value × Writer × List Nat → Shared → Prop}
  {w : Writer} {T X : PySem.Str} {N : Nat} {o : Option Value} {q : Option (List Nat)} {txt : List Nat} {k : Option (List Nat) → Sem (ForInStep (List Value × Writer × List Nat))}
  (h1 : k none = pure (ForInStep.yield (p, w.add ⟨txt.toArray⟩ o, r))) (h2 : ∀ laid, k (some laid) = pure (ForInStep.yield (p, w.add ⟨laid.toArray⟩, r)))
  (g : KPc.Good w T N) (hn : q = none → (⟨txt.toArray⟩ : PySem.Str) = X) (hs : ∀ l, q = some l → (⟨l.toArray⟩ : PySem.Str) = X) (ho : o = none) (hX : X.length ≤ 4)
  (h : ∀ w', KPc.Good w' (T ++ X) (N + 4) → wpAny M A (forIn l (p, w', r) f) Q E s) :
  ∀ pf, q = pf → wpAny M A (k pf) (TurnPost M A E l f Q) E s := by
  rintro pf rfl
  cases q with
  | none => rw [h1]; exact wpAny_pure (KPc.after_add g (hn rfl) (KPc.obj_none ho) fun w' g' => h w' (KPc.good_mono g' (Nat.add_le_add_left hX _)))
  | some laid => rw [h2]; exact wpAny_pure (KPc.after_add g (hs _ rfl) (KPc.obj_none rfl) fun w' g' => h w' (KPc.good_mono g' (Nat.add_le_add_left hX _)))
theorem abs_q {M : Model} {A : Around} {E : Value → Shared → Prop} {s : Shared} {β : Type} {x : Sem β} {Q : β → Shared → Prop}
    (h : ∀ Q0 : β → Shared → Prop, (∀ b s', Q b s' → Q0 b s') → wpAny M A x Q0 E s) : wpAny M A x Q E s := h Q fun _ _ => id
open PySem.Builtin PySem.Builtin.Str in
theorem abs_f {M : Model} {A : Around} {E : Value → Shared → Prop} {s : Shared} {l : List Nat} {b : List Value × Writer × List Nat} {f : Nat → List Value × Writer × List Nat → Sem (ForInStep (List Value × Writer × List Nat))} {Q : List Value × Writer × List Nat → Shared → Prop}
    (h : ∀ g, (∀ x b, g x b = f x b) → wpAny M A (forIn l b g) Q E s) : wpAny M A (forIn l b f) Q E s := h f fun _ _ => rfl
open PySem.Builtin PySem.Builtin.Str in
theorem fmt_meets (b : Addr) (t u1 u2 u3 u4 u5 u6 u7 u8 : Tok) (S1 S2 z : PySem.Str) (d y h mi s : Int) (l1 : S1.length ≤ 100) (l2 : S2.length ≤ 100) (l3 : z.length ≤ 100)
   (y0 : 0 ≤ y) (y1 : y < 10000) (d0 : 1 ≤ d) (d1 : d ≤ 31) (h0 : 0 ≤ h) (h1 : h < 24) (mi0 : 0 ≤ mi) (mi1 : mi < 60) (s0 : 0 ≤ s) (s1 : s < 60) :
   Meets («str.__mod__» ⟨[.str ⟨#[37, 115, 44, 32, 37, 48, 50, 100, 32, 37, 115, 32, 37, 48, 52, 100, 32, 37, 48, 50, 100, 58, 37, 48, 50, 100, 58, 37, 48, 50, 100, 32, 37, 115]⟩ t, .ref b], []⟩)
     (fun _ R st => IsTup st.heap b #[.str S1 u1, .int d u2, .str S2 u3, .int y u4, .int h u5, .int mi u6, .int s u7, .str z u8] ∧ ∀ t' k, R (.ok (.ret (.str (S1 ++ PySem.Str.ofString ", " ++ fig2 d ++ PySem.Str.ofString " " ++ S2 ++ PySem.Str.ofString " " ++ fig4 y ++ PySem.Str.ofString " " ++ fig2 h ++ PySem.Str.ofString ":" ++ fig2 mi ++ PySem.Str.ofString ":" ++ fig2 s ++ PySem.Str.ofString " " ++ z) t'))) { st with toks := k }) := by
  apply KPt.meets_tup
  intro prog wl A st0 Q E kptH hret
  obtain ⟨kptO, kptG, kptC, kptN, kptD⟩ := kptH
  rw [KPt.entry_is_r]
  unfold Builtin.Str.percentFormat
  refine wpAny_bind (wpAny_isInstance (T := "tuple") ⟨kptO, kptG, kptC⟩ KPt.sub_tt ?_)
  refine wpAny_bind (KPt.asStr_ref kptG kptD ?_)
  refine wpAny_bind (KPt.fills_ref ⟨kptO, kptG, kptC⟩ ?_)
  intro _
  kpc_if
  refine wpAny_bind (wpAny_seqItems kptG kptD ?_)
  refine wpAny_bind (wpAny_pure ?_)
  refine wpAny_bind ?_
  rw [KPc.range_list]
  refine abs_f ?_
  intro g hg
  refine KPc.start ?_
  intro w0 g0
  refine abs_q ?_
  intro Q0 hQ
  have tS : ∀ (st : Shared) (x : Nat) (l : List Nat) (S : PySem.Str) (u : Tok) (vs : List Value) (w : Writer) (T : PySem.Str) (N : Nat) (r : List Nat), KPc.Good w T N → N ≤ 10000 → S.length ≤ 100 →
      (∀ w', KPc.Good w' (T ++ S) (N + 100) → wpAny (model prog wl) A (forIn l (vs, w', r) g) Q0 E st) → wpAny (model prog wl) A (forIn (x :: l) (Value.str S u :: vs, w, 37 :: 115 :: r) g) Q0 E st := by
    intro st x l S u vs w T N r hG hN hS hk
    refine KPc.turn ?_
    rw [hg]
    refine wpAny_ite (KPc.ite_no (KPc.short_good hG (by omega)) ?_)
    (repeat kpc_if)
    refine wpAny_bind ?_; refine wpAny_holding ?_; (repeat kpc_if); kpt_conv; refine wpAny_pure ?_; refine wpAny_pure ?_
    refine KPc.after_str hG hS ?_ hk
    split
    · exact KPc.obj_some rfl
    · exact KPc.obj_none rfl
  have tC : ∀ (st : Shared) (x : Nat) (l : List Nat) (vs : List Value) (w : Writer) (T : PySem.Str) (N : Nat) (r : List Nat), KPc.Good w T N → N ≤ 10000 →
      (∀ w', KPc.Good w' (T ++ PySem.Str.ofString ", ") (N + 2) → wpAny (model prog wl) A (forIn l (vs, w', 37 :: r) g) Q0 E st) → wpAny (model prog wl) A (forIn (x :: l) (vs, w, 44 :: 32 :: 37 :: r) g) Q0 E st := by
    intro st x l vs w T N r hG hN hk
    refine KPc.turn ?_
    rw [hg]
    refine wpAny_ite (KPc.ite_no (KPc.short_good hG (by omega)) ?_)
    (repeat kpc_if)
    refine wpAny_pure ?_
    exact KPc.after_add (y := PySem.Str.ofString ", ") hG (by decide +kernel) (KPc.obj_none rfl) hk
  have tB : ∀ (st : Shared) (x : Nat) (l : List Nat) (vs : List Value) (w : Writer) (T : PySem.Str) (N : Nat) (r : List Nat), KPc.Good w T N → N ≤ 10000 →
      (∀ w', KPc.Good w' (T ++ PySem.Str.ofString " ") (N + 1) → wpAny (model prog wl) A (forIn l (vs, w', 37 :: r) g) Q0 E st) → wpAny (model prog wl) A (forIn (x :: l) (vs, w, 32 :: 37 :: r) g) Q0 E st := by
    intro st x l vs w T N r hG hN hk
    refine KPc.turn ?_
    rw [hg]
    refine wpAny_ite (KPc.ite_no (KPc.short_good hG (by omega)) ?_)
    (repeat kpc_if)
    refine wpAny_pure ?_
    exact KPc.after_add (y := PySem.Str.ofString " ") hG (by decide +kernel) (KPc.obj_none rfl) hk
  have tK : ∀ (st : Shared) (x : Nat) (l : List Nat) (vs : List Value) (w : Writer) (T : PySem.Str) (N : Nat) (r : List Nat), KPc.Good w T N → N ≤ 10000 →
      (∀ w', KPc.Good w' (T ++ PySem.Str.ofString ":") (N + 1) → wpAny (model prog wl) A (forIn l (vs, w', 37 :: r) g) Q0 E st) → wpAny (model prog wl) A (forIn (x :: l) (vs, w, 58 :: 37 :: r) g) Q0 E st := by
    intro st x l vs w T N r hG hN hk
    refine KPc.turn ?_
    rw [hg]
    refine wpAny_ite (KPc.ite_no (KPc.short_good hG (by omega)) ?_)
    (repeat kpc_if)
    refine wpAny_pure ?_
    exact KPc.after_add (y := PySem.Str.ofString ":") hG (by decide +kernel) (KPc.obj_none rfl) hk
  have tD : ∀ (st : Shared) (x : Nat) (l : List Nat) (d : Int) (u : Tok) (vs : List Value) (w : Writer) (T : PySem.Str) (N : Nat) (r : List Nat), KPc.Good w T N → N ≤ 10000 → 0 ≤ d → d < 100 →
      (∀ st' : Shared, (∃ tk, st' = { st with toks := tk }) → ∀ w', KPc.Good w' (T ++ fig2 d) (N + 4) → wpAny (model prog wl) A (forIn l (vs, w', r) g) Q0 E st') → wpAny (model prog wl) A (forIn (x :: l) (Value.int d u :: vs, w, 37 :: 48 :: 50 :: 100 :: r) g) Q0 E st := by
    intro st x l d u vs w T N r hG hN d0 d1 hk
    refine turn' ?_
    rw [hg]
    refine wpAny_ite (KPc.ite_no (KPc.short_good hG (by omega)) ?_)
    (repeat kpc_if)
    refine wpAny_bind ?_; refine wpAny_holding ?_; (repeat kpc_if); kpt_conv
    refine wpAny_pure ?_
    dsimp only
    generalize hpf : percentField _ _ _ = pf
    revert pf
    refine' pad_turn (X := fig2 d) ?h1 ?h2 hG ?hn ?hs ?ho ?hX ?_
    case h1 => exact rfl
    case h2 => exact fun _ => rfl
    case hn => exact fun e => pad_none (d := d) (w := 2) rfl (by omega) (pad2_fig (by omega) (by omega)) e
    case hs => exact fun _ e => pad_some (d := d) (w := 2) rfl (by omega) (pad2_fig (by omega) (by omega)) e
    case ho => kpc_none
    case hX => exact Nat.le_of_ble_eq_true rfl
    exact hk _ ⟨_, rfl⟩
  have tY : ∀ (st : Shared) (x : Nat) (l : List Nat) (d : Int) (u : Tok) (vs : List Value) (w : Writer) (T : PySem.Str) (N : Nat) (r : List Nat), KPc.Good w T N → N ≤ 10000 → 0 ≤ d → d < 10000 →
      (∀ st' : Shared, (∃ tk, st' = { st with toks := tk }) → ∀ w', KPc.Good w' (T ++ fig4 d) (N + 4) → wpAny (model prog wl) A (forIn l (vs, w', r) g) Q0 E st') → wpAny (model prog wl) A (forIn (x :: l) (Value.int d u :: vs, w, 37 :: 48 :: 52 :: 100 :: r) g) Q0 E st := by
    intro st x l d u vs w T N r hG hN d0 d1 hk
    refine turn' ?_
    rw [hg]
    refine wpAny_ite (KPc.ite_no (KPc.short_good hG (by omega)) ?_)
    (repeat kpc_if)
    refine wpAny_bind ?_; refine wpAny_holding ?_; (repeat kpc_if); kpt_conv
    refine wpAny_pure ?_
    dsimp only
    generalize hpf : percentField _ _ _ = pf
    revert pf
    refine' pad_turn (X := fig4 d) ?h1 ?h2 hG ?hn ?hs ?ho ?hX ?_
    case h1 => exact rfl
    case h2 => exact fun _ => rfl
    case hn => exact fun e => pad_none (d := d) (w := 4) rfl (by omega) (pad4_fig (by omega) (by omega)) e
    case hs => exact fun _ e => pad_some (d := d) (w := 4) rfl (by omega) (pad4_fig (by omega) (by omega)) e
    case ho => kpc_none
    case hX => exact Nat.le_of_ble_eq_true rfl
    exact hk _ ⟨_, rfl⟩
  refine tS _ _ _ _ _ _ _ _ _ _ g0 (by omega) l1 ?_
  intro w1 g1
  rw [KPc.empty_app] at g1
  refine tC _ _ _ _ _ _ _ _ g1 (by omega) ?_
  intro w2 g2
  refine tD _ _ _ _ _ _ _ _ _ _ g2 (by omega) (by omega) (by omega) ?_
  rintro _ ⟨_, rfl⟩ w3 g3
  refine tB _ _ _ _ _ _ _ _ g3 (by omega) ?_
  intro w4 g4
  refine tS _ _ _ _ _ _ _ _ _ _ g4 (by omega) l2 ?_
  intro w5 g5
  refine tB _ _ _ _ _ _ _ _ g5 (by omega) ?_
  intro w6 g6
  refine tY _ _ _ _ _ _ _ _ _ _ g6 (by omega) (by omega) (by omega) ?_
  rintro _ ⟨_, rfl⟩ w7 g7
  refine tB _ _ _ _ _ _ _ _ g7 (by omega) ?_
  intro w8 g8
  refine tD _ _ _ _ _ _ _ _ _ _ g8 (by omega) (by omega) (by omega) ?_
  rintro _ ⟨_, rfl⟩ w9 g9
  refine tK _ _ _ _ _ _ _ _ g9 (by omega) ?_
  intro w10 g10
  refine tD _ _ _ _ _ _ _ _ _ _ g10 (by omega) (by omega) (by omega) ?_
  rintro _ ⟨_, rfl⟩ w11 g11
  refine tK _ _ _ _ _ _ _ _ g11 (by omega) ?_
  intro w12 g12
  refine tD _ _ _ _ _ _ _ _ _ _ g12 (by omega) (by omega) (by omega) ?_
  rintro _ ⟨_, rfl⟩ w13 g13
  refine tB _ _ _ _ _ _ _ _ g13 (by omega) ?_
  intro w14 g14
  refine tS _ _ _ _ _ _ _ _ _ _ g14 (by omega) l3 ?_
  intro w15 g15
  refine KPc.turn ?_
  rw [hg]
  refine wpAny_ite (KPc.ite_no (KPc.short_good g15 (by omega)) ?_)
  (repeat kpc_if)
  refine wpAny_pure ?_
  refine hQ _ _ ?_
  kpc_if
  refine KPc.finish_ok g15 (by omega) rfl ?_
  exact fun t' _ => hret t' _
end Mine
end
section
open PySem PySem.W PyProof.Rows
set_option Elab.async false
set_option maxRecDepth 100000
set_option maxHeartbeats 1000000
namespace Mine
theorem dvt (k c m : Nat) (hc : 0 < c) : (k * c + m) / c = k + m / c := by rw [Nat.add_comm, Nat.add_mul_div_right _ _ hc, Nat.add_comm]
theorem dgt (k c m : Nat) (hc : 0 < c) : (10 * k * c + m) / c % 10 = m / c % 10 := by rw [dvt _ _ _ hc, Nat.mul_add_mod]
theorem dgs2 {m : Nat} (h : m < 100) : (100 + m) / 10 % 10 = m / 10 ∧ (100 + m) % 10 = m % 10 :=
  ⟨(dgt 1 10 m (by decide)).trans (Nat.mod_eq_of_lt (Nat.div_lt_of_lt_mul h)), Nat.mul_add_mod 10 10 m⟩
theorem dgs4 {m : Nat} (h : m < 10000) : (10000 + m) / 1000 % 10 = m / 1000 ∧ (10000 + m) / 100 % 10 = m / 100 % 10 :=
  ⟨(dgt 1 1000 m (by decide)).trans (Nat.mod_eq_of_lt (Nat.div_lt_of_lt_mul h)), dgt 10 100 m (by decide)⟩
theorem dgs4' (m : Nat) : (10000 + m) / 10 % 10 = m / 10 % 10 ∧ (10000 + m) % 10 = m % 10 := ⟨dgt 100 10 m (by decide), Nat.mul_add_mod 10 1000 m⟩
theorem dg_lt {m : Nat} (h : m < 10000) : 100 ≤ 100 + m ∧ 10000 ≤ 10000 + m ∧ 10000 + m < 100000 := ⟨Nat.le_add_right _ _, Nat.le_add_right _ _, Nat.lt_trans (Nat.add_lt_add_left h 10000) (by decide)⟩
theorem fig2_eq {n : Int} (h0 : 0 ≤ n) (h1 : n < 100) : Txt.slice (PySem.Str.ofString (toString (100 + n))) (some 1) none = fig2 n := by
  obtain ⟨m, rfl⟩ := Int.eq_ofNat_of_zero_le h0
  have e : (100 + (m : Int)) = Int.ofNat (100 + m) := (Int.natCast_add 100 m).symm
  have hm : m < 100 := Int.ofNat_lt.mp h1
  rw [e, text_ofNat]
  show Txt.slice ⟨(dl (100 + m)).toArray⟩ (some 1) none = _
  rw [dl3 (Nat.le_add_right 100 m) (Nat.lt_trans (Nat.add_lt_add_left hm 100) (by decide))]
  refine (slice1_3 _ _ _).trans ?_
  rw [(dgs2 hm).1, (dgs2 hm).2]
  rfl
theorem fig4_eq {n : Int} (h0 : 0 ≤ n) (h1 : n < 10000) : Txt.slice (PySem.Str.ofString (toString (10000 + n))) (some 1) none = fig4 n := by
  obtain ⟨m, rfl⟩ := Int.eq_ofNat_of_zero_le h0
  have e : (10000 + (m : Int)) = Int.ofNat (10000 + m) := (Int.natCast_add 10000 m).symm
  have hm : m < 10000 := Int.ofNat_lt.mp h1
  rw [e, text_ofNat]
  show Txt.slice ⟨(dl (10000 + m)).toArray⟩ (some 1) none = _
  rw [dl5 (Nat.le_add_right 10000 m) (dg_lt hm).2.2]
  refine (slice1_5 _ _ _ _ _).trans ?_
  rw [(dgs4 hm).1, (dgs4 hm).2, (dgs4' m).1, (dgs4' m).2]
  rfl
theorem pow_l2' : (10 : Int) ^ Int.toNat 2 = 100 := rfl
theorem pow_l4' : (10 : Int) ^ Int.toNat 4 = 10000 := rfl
theorem log_small' {a : Int} (h : a.natAbs < 2 ^ 20) : a.natAbs.log2 < 1920 := by
  by_cases z : a.natAbs = 0
  · rw [z]; decide
  · have := (Nat.log2_lt z).mpr h; omega
local macro_rules | `(tactic| walk_at "call type:str") => `(tactic| (k_here; (with_reducible show wpAny _ _ (call (Value.type "str") [Value.int (_ ^ _ + _) _]) _ _ _); (first | rw [pow_l2'] | rw [pow_l4']); (refine P.str_of_int (log_small' (by omega)) ?_)))
theorem figures_spec2 {w : World} (n : Int) (t u : Tok) (h0 : 0 ≤ n) (h1 : n < 100) : CtrS w 119 [.int n t, .int 2 u] (fig2 n) 2 := by
  unfold CtrS; (try k_fill); intros; rename_i hret; refine wpAny_call ?_; k_dflt cell_enter; k_steps
  rw [fig2_eq h0 h1]
  exact hret _ _ _ (by k_asm) (by k_asm) (Nat.le_refl 2)
theorem figures_spec4 {w : World} (n : Int) (t u : Tok) (h0 : 0 ≤ n) (h1 : n < 10000) : CtrS w 119 [.int n t, .int 4 u] (fig4 n) 4 := by
  unfold CtrS; (try k_fill); intros; rename_i hret; refine wpAny_call ?_; k_dflt cell_enter; k_steps
  rw [fig4_eq h0 h1]
  exact hret _ _ _ (by k_asm) (by k_asm) (Nat.le_refl 4)
end Mine
end
section
open PySem PySem.W PyProof.Rows
set_option Elab.async false
set_option maxRecDepth 100000
set_option maxHeartbeats 2000000
namespace Mine
def dayN (k : Int) : PySem.Str := Txt.slice (PySem.Str.ofString "MonTueWedThuFriSatSun") (some (3 * k)) (some (3 * k + 3))
def monN (k : Int) : PySem.Str := Txt.slice (PySem.Str.ofString "JanFebMarAprMayJunJulAugSepOctNovDec") (some (3 * k - 3)) (some (3 * k))
theorem my_item {prog : Program} {w : World} {A : Around} {E : Value → Shared → Prop} {s : Shared} {value slice : PySem.Expr} {l : Addr} {vs : List Value} {k : Int} {u : Tok} {v : Value} {Q : Value → Shared → Prop}
    (hl : s.heap.IsList l vs.toArray) (h0 : 0 ≤ k) (hhi : k < 2 ^ 63) (hx : vs[k.toNat]? = some v) (h : Q v s)
    (hs : subscripted slice false (.ref l) (.int k u) = operate [.ref l, .int k u] (getItem (.ref l) (.int k u)) := by with_unfolding_all rfl) :
    wpAny (model prog w) A (subscriptTail value slice (.ref l) (.int k u)) Q E s :=
  tail_any hl.typeIs slot_list_getitem.lookup (wpAny_getItem_list hl h0 hhi (by simpa using hx) h) hs
theorem dayN_all : ∀ i : Fin 7, (dayN (i.val : Int) = [PySem.Str.ofString "Mon", PySem.Str.ofString "Tue", PySem.Str.ofString "Wed", PySem.Str.ofString "Thu", PySem.Str.ofString "Fri", PySem.Str.ofString "Sat", PySem.Str.ofString "Sun"].getD (i.val : Int).toNat default ∧ (dayN (i.val : Int)).cps.size = 3) := by decide +kernel
theorem monN_all : ∀ i : Fin 12, (monN ((i.val : Int) + 1) = [PySem.Str.ofString "Jan", PySem.Str.ofString "Feb", PySem.Str.ofString "Mar", PySem.Str.ofString "Apr", PySem.Str.ofString "May", PySem.Str.ofString "Jun", PySem.Str.ofString "Jul", PySem.Str.ofString "Aug", PySem.Str.ofString "Sep", PySem.Str.ofString "Oct", PySem.Str.ofString "Nov", PySem.Str.ofString "Dec"].getD ((i.val : Int) + 1 - 1).toNat default ∧ (monN ((i.val : Int) + 1)).cps.size = 3) := by decide +kernel
theorem day_at {k : Int} {t0 t1 t2 t3 t4 t5 t6 : Tok} (h0 : 0 ≤ k) (h1 : k < 7) : ([Value.str (PySem.Str.ofString "Mon") t0, Value.str (PySem.Str.ofString "Tue") t1, Value.str (PySem.Str.ofString "Wed") t2, Value.str (PySem.Str.ofString "Thu") t3, Value.str (PySem.Str.ofString "Fri") t4, Value.str (PySem.Str.ofString "Sat") t5, Value.str (PySem.Str.ofString "Sun") t6] : List Value)[k.toNat]? = some (.str (dayN k) ([t0, t1, t2, t3, t4, t5, t6].getD k.toNat 0)) := by
  have hk : k.toNat < 7 := (Int.toNat_lt h0).mpr h1
  rw [(of_fin (P := fun k => dayN k = [PySem.Str.ofString "Mon", PySem.Str.ofString "Tue", PySem.Str.ofString "Wed", PySem.Str.ofString "Thu", PySem.Str.ofString "Fri", PySem.Str.ofString "Sat", PySem.Str.ofString "Sun"].getD k.toNat default ∧ (dayN k).cps.size = 3) dayN_all h0 h1).1]
  exact zip_at Value.str [PySem.Str.ofString "Mon", PySem.Str.ofString "Tue", PySem.Str.ofString "Wed", PySem.Str.ofString "Thu", PySem.Str.ofString "Fri", PySem.Str.ofString "Sat", PySem.Str.ofString "Sun"] [t0, t1, t2, t3, t4, t5, t6] default 0 k.toNat hk hk
theorem mon_at {k : Int} {t0 t1 t2 t3 t4 t5 t6 t7 t8 t9 t10 t11 : Tok} (h0 : 1 ≤ k) (h1 : k ≤ 12) : ([Value.str (PySem.Str.ofString "Jan") t0, Value.str (PySem.Str.ofString "Feb") t1, Value.str (PySem.Str.ofString "Mar") t2, Value.str (PySem.Str.ofString "Apr") t3, Value.str (PySem.Str.ofString "May") t4, Value.str (PySem.Str.ofString "Jun") t5, Value.str (PySem.Str.ofString "Jul") t6, Value.str (PySem.Str.ofString "Aug") t7, Value.str (PySem.Str.ofString "Sep") t8, Value.str (PySem.Str.ofString "Oct") t9, Value.str (PySem.Str.ofString "Nov") t10, Value.str (PySem.Str.ofString "Dec") t11] : List Value)[(k - 1).toNat]? = some (.str (monN k) ([t0, t1, t2, t3, t4, t5, t6, t7, t8, t9, t10, t11].getD (k - 1).toNat 0)) := by
  have hk : (k - 1).toNat < 12 := (Int.toNat_lt (Int.sub_nonneg_of_le h0)).mpr (sub1_lt h1)
  rw [(of_fin1 (P := fun k => monN k = [PySem.Str.ofString "Jan", PySem.Str.ofString "Feb", PySem.Str.ofString "Mar", PySem.Str.ofString "Apr", PySem.Str.ofString "May", PySem.Str.ofString "Jun", PySem.Str.ofString "Jul", PySem.Str.ofString "Aug", PySem.Str.ofString "Sep", PySem.Str.ofString "Oct", PySem.Str.ofString "Nov", PySem.Str.ofString "Dec"].getD (k - 1).toNat default ∧ (monN k).cps.size = 3) monN_all h0 h1).1]
  exact zip_at Value.str [PySem.Str.ofString "Jan", PySem.Str.ofString "Feb", PySem.Str.ofString "Mar", PySem.Str.ofString "Apr", PySem.Str.ofString "May", PySem.Str.ofString "Jun", PySem.Str.ofString "Jul", PySem.Str.ofString "Aug", PySem.Str.ofString "Sep", PySem.Str.ofString "Oct", PySem.Str.ofString "Nov", PySem.Str.ofString "Dec"] [t0, t1, t2, t3, t4, t5, t6, t7, t8, t9, t10, t11] default 0 (k - 1).toNat hk hk
theorem dayN_3 {k : Int} (h0 : 0 ≤ k) (h1 : k < 7) : (dayN k).cps.size = 3 := (of_fin (P := fun k => dayN k = [PySem.Str.ofString "Mon", PySem.Str.ofString "Tue", PySem.Str.ofString "Wed", PySem.Str.ofString "Thu", PySem.Str.ofString "Fri", PySem.Str.ofString "Sat", PySem.Str.ofString "Sun"].getD k.toNat default ∧ (dayN k).cps.size = 3) dayN_all h0 h1).2
theorem monN_3 {k : Int} (h0 : 1 ≤ k) (h1 : k ≤ 12) : (monN k).cps.size = 3 := (of_fin1 (P := fun k => monN k = [PySem.Str.ofString "Jan", PySem.Str.ofString "Feb", PySem.Str.ofString "Mar", PySem.Str.ofString "Apr", PySem.Str.ofString "May", PySem.Str.ofString "Jun", PySem.Str.ofString "Jul", PySem.Str.ofString "Aug", PySem.Str.ofString "Sep", PySem.Str.ofString "Oct", PySem.Str.ofString "Nov", PySem.Str.ofString "Dec"].getD (k - 1).toNat default ∧ (monN k).cps.size = 3) monN_all h0 h1).2
local macro_rules | `(tactic| walk_at "subscriptTail") => `(tactic| (k_here; (with_reducible show wpAny _ _ (subscriptTail _ _ (Value.ref _) (Value.int _ _)) _ _ _); (with_unfolding_all refine' my_item ?k1 ?k2 ?k3 ?k4 ?_ ?k6; (case k1 => is_list); (case k2 => omega); (case k3 => omega); (case k4 => first | exact day_at (by omega) (by omega) | exact mon_at (by omega) (by omega)); (case k6 => with_unfolding_all rfl); k_whole)))

theorem dayN_len {k : Int} (h0 : 0 ≤ k) (h1 : k < 7) : (dayN k).length ≤ 100 := Nat.le_trans (Nat.le_of_eq (dayN_3 h0 h1)) (by decide)
theorem monN_len {k : Int} (h0 : 1 ≤ k) (h1 : k ≤ 12) : (monN k).length ≤ 100 := Nat.le_trans (Nat.le_of_eq (monN_3 h0 h1)) (by decide)
local macro_rules | `(tactic| walk_at "binaryOp Mod str ref") => `(tactic| (k_here; (with_reducible show wpAny _ _ (binaryOp Operator.Mod (Value.str _ _) (Value.ref _)) _ _ _); k_dflt (refine' KPt.mod_tuple ?kptN ?kptb ?kptF ?kptm ?_; (case kptN => k_asm); (case kptb => k_mem); (case kptF => kpt_eq); (case kptm => exact fmt_meets _ _ _ _ _ _ _ _ _ _ _ _ _ _ _ _ _ _ (dayN_len (by omega) (by omega)) (monN_len (by omega) (by omega)) (by omega) (by omega) (by omega) (by omega) (by omega) (by omega) (by omega) (by omega) (by omega) (by omega) (by omega))); intro _ _))
/-- the line -/
def lineS (y mo d h mi s wd : Int) (z : PySem.Str) : PySem.Str := dayN wd ++ PySem.Str.ofString ", " ++ fig2 d ++ PySem.Str.ofString " " ++ monN mo ++ PySem.Str.ofString " " ++ fig4 y ++ PySem.Str.ofString " " ++ fig2 h ++ PySem.Str.ofString ":" ++ fig2 mi ++ PySem.Str.ofString ":" ++ fig2 s ++ PySem.Str.ofString " " ++ z
theorem news_dropB {h₀ h : Heap} {L : Addr} {a : Addr × Obj} {r : List (Addr × Obj)} (N : News h₀ L h (a :: r)) : News h₀ L h r := fun p hp => N p (.tail _ hp)
theorem format_spec {w : World} (y mo d h mi s wd : Int) (t1 t2 t3 t4 t5 t6 t7 : Tok) (c : Nat) (T : Addr) (z : PySem.Str) (tz : Tok) (hz : z.length ≤ 5)
   (y0 : 0 ≤ y) (y1 : y < 10000) (mo0 : 1 ≤ mo) (mo1 : mo ≤ 12) (d0 : 1 ≤ d) (d1 : d ≤ 31) (h0 : 0 ≤ h) (h1 : h < 24) (mi0 : 0 ≤ mi) (mi1 : mi < 60) (s0 : 0 ≤ s) (s1 : s < 60) (w0 : 0 ≤ wd) (w1 : wd < 7) :
   CtrO w 21 [.ref T, .str z tz] T (tup7 y mo d h mi s wd t1 t2 t3 t4 t5 t6 t7 c) (fun t => .str (lineS y mo d h mi s wd z) t) := by
  unfold CtrO; (try k_fill); intros; rename_i hret; refine wpAny_call ?_; k_dflt cell_enter; k_steps
  exact hret _ _ _ (by k_asm) (news_dropB (news_dropB (news_dropB (by k_asm))))
end Mine
end
section
open PySem PySem.W PyProof.Rows
set_option Elab.async false
set_option maxRecDepth 100000
set_option maxHeartbeats 2000000
namespace Mine
local macro_rules | `(tactic| walk_at "call ref") => `(tactic| (k_here; (with_reducible show wpAny _ _ (call (Value.ref 119) [_, _]) _ _ _); k_dflt ((first | refine figures_spec2 _ _ _ (by omega) (by omega) (by k_asm) (by k_asm) (by k_asm) (by k_asm) (by k_asm) (by first | assumption | exact rfl) (by ktr_room) (by ktr_units) ?_ | refine figures_spec4 _ _ _ (by omega) (by omega) (by k_asm) (by k_asm) (by k_asm) (by k_asm) (by k_asm) (by first | assumption | exact rfl) (by ktr_room) (by ktr_units) ?_); intro t9 h9 tk9 F9 N9 l9; (try dsimp only))))
theorem ctr_str {h₀ : Heap} {L : Addr} {m : PySem.Str → Option Value} {news : List (Addr × Obj)} {s : Shared} {Q : Value → Shared → Prop} {x y : PySem.Str} {t : Tok} {h : Heap} {tk : Nat}
    (hret : ∀ (t : Tok) (h : Heap) (tk : Nat), Fr h₀ L h m → News h₀ L h news → Q (.str x t) { s with heap := h, toks := tk }) (e : y = x) (F : Fr h₀ L h m) (N : News h₀ L h news) : Q (.str y t) { s with heap := h, toks := tk } := by
  subst e; exact hret _ _ _ F N
theorem cat_len {x y : PySem.Str} {a b : Nat} (hx : x.length ≤ a) (hy : y.length ≤ b) : (x ++ y).length ≤ a + b := Nat.le_trans (Nat.le_of_eq (Str.length_append x y)) (Nat.add_le_add hx hy)
theorem cat_size {x y : PySem.Str} {a b : Nat} (hx : x.length ≤ a) (hy : y.length ≤ b) (h : Nat.ble (a + b) 1000 = true) : x.length + y.length ≤ sizeLine := by
  have h1 := Nat.le_of_ble_eq_true h
  have h2 := Nat.add_le_add hx hy
  rw [sizeLine_eq]; omega
theorem cat9 {prog : Program} {w : World} {A : Around} {E : Value → Shared → Prop} {s : Shared} {x y : PySem.Str} {t u : Tok} {Q : Value → Shared → Prop} {a b : Nat} (hx : x.length ≤ a) (hy : y.length ≤ b) (h1 : Nat.ble (a + b) 1000 = true)
    (h : ∀ t' k, (x ++ y).length ≤ a + b → Q (.str (x ++ y) t') { s with toks := k }) : wpAny (model prog w) A (binaryOp .Add (.str x t) (.str y u)) Q E s :=
  SBL.add (fun t' k _ => h t' k (cat_len hx hy)) (cat_size hx hy h1)
theorem icat9 {prog : Program} {w : World} {A : Around} {E : Value → Shared → Prop} {s : Shared} {x y : PySem.Str} {t u : Tok} {Q : Value → Shared → Prop} {a b : Nat} (hx : x.length ≤ a) (hy : y.length ≤ b) (h1 : Nat.ble (a + b) 1000 = true)
    (h : ∀ t' k, (x ++ y).length ≤ a + b → Q (.str (x ++ y) t') { s with toks := k }) : wpAny (model prog w) A (inplaceOp .Add (.str x t) (.str y u)) Q E s :=
  SBL.iadd (fun t' k _ => h t' k (cat_len hx hy)) (cat_size hx hy h1)
local macro_rules | `(tactic| walk_at "binaryOp Add str str") => `(tactic| (k_here; (with_reducible show wpAny _ _ (binaryOp _ (Value.str _ _) (Value.str _ _)) _ _ _); (refine' cat9 ?ca ?cb ?cc ?_; (case ca => first | with_reducible assumption | exact Txt.slice_le _ _ _ | exact Nat.le_refl _); (case cb => first | with_reducible assumption | exact Txt.slice_le _ _ _ | exact Nat.le_refl _); (case cc => with_unfolding_all exact rfl)); intro _ _ _))
local macro_rules | `(tactic| walk_at "inplaceOp Add str str") => `(tactic| (k_here; (with_reducible show wpAny _ _ (inplaceOp _ (Value.str _ _) (Value.str _ _)) _ _ _); (refine' icat9 ?ca ?cb ?cc ?_; (case ca => first | with_reducible assumption | exact Txt.slice_le _ _ _ | exact Nat.le_refl _); (case cb => first | with_reducible assumption | exact Txt.slice_le _ _ _ | exact Nat.le_refl _); (case cc => with_unfolding_all exact rfl)); intro _ _ _))
theorem plain_spec {w : World} (y mo d h mi s wd : Int) (t1 t2 t3 t4 t5 t6 t7 : Tok) (c : Nat) (T : Addr) (z : PySem.Str) (tz : Tok) (hz : z.length ≤ 5)
   (y0 : 0 ≤ y) (y1 : y < 10000) (mo0 : 1 ≤ mo) (mo1 : mo ≤ 12) (d0 : 1 ≤ d) (d1 : d ≤ 31) (h0 : 0 ≤ h) (h1 : h < 24) (mi0 : 0 ≤ mi) (mi1 : mi < 60) (s0 : 0 ≤ s) (s1 : s < 60) (w0 : 0 ≤ wd) (w1 : wd < 7) :
   CtrO w 126 [.ref T, .str z tz] T (tup7 y mo d h mi s wd t1 t2 t3 t4 t5 t6 t7 c) (fun t => .str (lineS y mo d h mi s wd z) t) := by
  unfold CtrO; (try k_fill); intros; rename_i hret; refine wpAny_call ?_; k_dflt cell_enter; k_steps
  refine ctr_str hret ?_ (by k_asm) (by k_asm)
  unfold lineS dayN monN
  simp only [Str.append_assoc]
end Mine
end
section
open PySem PySem.W PyProof.Rows
set_option Elab.async false
set_option maxRecDepth 100000
set_option maxHeartbeats 1500000
namespace Mine
def CtrB (w : World) (f : Addr) (vs : List Value) (R : Tok → Value) : Prop :=
  ∀ {mg mb : PySem.Str → Option Value} {mean : ExcName → Option Value} {dp un : Nat} {gd : Option (List Code)} {cn : PySem.Str} {cs : Scope} {a : Addr} {ccd : Value} {cl : List (PySem.Str × Addr)} {outer : List Env} {A₀ : Around} {base h₀ : Heap} {L : Addr} {m : PySem.Str → Option Value} {news : List (Addr × Obj)} {s : Shared} {Q E : Value → Shared → Prop},
    Below A₀ base outer h₀ → Fr h₀ L s.heap m → (hd.heap_39 w.params).In h₀ → News h₀ L s.heap news → Top topProg (looseW hd.view_39 [] ++ (recsOf hd.view_39).map (·.name) ++ (litsOf hd.view_39).map (·.1) ++ (clssOf hd.view_39 (looseW hd.view_39 [])).map (·.name)) mean mg mb h₀ → cs.kind = .function → dp + 16 < recursionLimit → un + 128 < cLine →
    (∀ (t : Tok) (h : Heap) (tk : Nat), Fr h₀ L h m → News h₀ L h news → Q (R t) { s with heap := h, toks := tk }) →
    wpAny (model PySem.Challenge.rw_xn0004_01.row.prog w) (ktrTop dp un gd cn cs L a ccd cl outer) (call (.ref f) vs) Q E s
def monI (x : PySem.Str) : Int := (Txt.find (PySem.Str.ofString "JanFebMarAprMayJunJulAugSepOctNovDec") (Txt.slice x (some 8) (some 11))).fdiv 3
theorem month_spec {w : World} (x : PySem.Str) (t : Tok) (hx : x.length ≤ 40) : Ctr w 133 [.str x t] (fun t => .int (monI x) t) := by
  unfold Ctr; (try k_fill); intros; rename_i hret; refine wpAny_call ?_; k_dflt cell_enter; k_steps
  exact hret _ _ _ (by k_asm) (by k_asm)
theorem strxfrm_spec {w : World} (x : PySem.Str) (t : Tok) (hx : x.length ≤ 40) : Ctr w 28 [.str x t] (fun _ => .str x t) := by
  unfold Ctr; (try k_fill); intros; rename_i hret; refine wpAny_call ?_; k_dflt cell_enter; k_steps
  exact hret 0 _ _ (by k_asm) (by k_asm)
local macro_rules | `(tactic| walk_at "call ref") => `(tactic| (k_here; (with_reducible show wpAny _ _ (call (Value.ref 119) [_, _]) _ _ _); k_dflt ((first | refine figures_spec2 _ _ _ (by omega) (by omega) (by k_asm) (by k_asm) (by k_asm) (by k_asm) (by k_asm) (by first | assumption | exact rfl) (by ktr_room) (by ktr_units) ?_ | refine figures_spec4 _ _ _ (by omega) (by omega) (by k_asm) (by k_asm) (by k_asm) (by k_asm) (by k_asm) (by first | assumption | exact rfl) (by ktr_room) (by ktr_units) ?_); intro t9 h9 tk9 F9 N9 l9; (try dsimp only))))
local macro_rules | `(tactic| walk_at "call ref") => `(tactic| (k_here; (with_reducible show wpAny _ _ (call (Value.ref 133) [_]) _ _ _); k_dflt (refine month_spec _ _ (by omega) (by k_asm) (by k_asm) (by k_asm) (by k_asm) (by k_asm) (by first | assumption | exact rfl) (by ktr_room) (by ktr_units) ?_; intro t9 h9 tk9 F9 N9; (try dsimp only))))
local macro_rules | `(tactic| walk_at "call ref") => `(tactic| (k_here; (with_reducible show wpAny _ _ (call (Value.ref 28) [_]) _ _ _); k_dflt (refine strxfrm_spec _ _ (by size_fits) (by k_asm) (by k_asm) (by k_asm) (by k_asm) (by k_asm) (by first | assumption | exact rfl) (by ktr_room) (by ktr_units) ?_; intro t9 h9 tk9 F9 N9; (try dsimp only))))
def keyT (x : PySem.Str) : PySem.Str := Txt.slice x (some 12) (some 16) ++ fig2 (monI x) ++ Txt.slice x (some 5) (some 7) ++ Txt.slice x (some 17) (some 25)
theorem key_spec {w : World} (x : PySem.Str) (t : Tok) (hx : x.length ≤ 40) (m0 : 0 ≤ monI x) (m1 : monI x < 12) : CtrB w 147 [.str x t] (fun t => .str (keyT x) t) := by
  unfold CtrB; (try k_fill); intros; rename_i hret; refine wpAny_call ?_; k_dflt cell_enter; k_steps
  all_goals exact hret _ _ _ (by k_asm) (by k_asm)
end Mine
end
section
open PySem PySem.W PyProof.Rows
set_option Elab.async false
set_option maxRecDepth 100000
set_option maxHeartbeats 1500000
namespace Mine
abbrev tup2 (x1 x2 : Int) (t1 t2 : Tok) (c : Nat) : Obj := { cls := .type "tuple", data := .seq #[.int x1 t1, .int x2 t2] c }
def Ctr2 (w : World) (f : Addr) (vs : List Value) (x1 x2 : Int) : Prop :=
  ∀ {mg mb : PySem.Str → Option Value} {mean : ExcName → Option Value} {dp un : Nat} {gd : Option (List Code)} {cn : PySem.Str} {cs : Scope} {a : Addr} {ccd : Value} {cl : List (PySem.Str × Addr)} {outer : List Env} {A₀ : Around} {base h₀ : Heap} {L : Addr} {m : PySem.Str → Option Value} {news : List (Addr × Obj)} {s : Shared} {Q E : Value → Shared → Prop},
    Below A₀ base outer h₀ → Fr h₀ L s.heap m → (hd.heap_39 w.params).In h₀ → News h₀ L s.heap news → Top topProg (looseW hd.view_39 [] ++ (recsOf hd.view_39).map (·.name) ++ (litsOf hd.view_39).map (·.1) ++ (clssOf hd.view_39 (looseW hd.view_39 [])).map (·.name)) mean mg mb h₀ → cs.kind = .function → dp + 16 < recursionLimit → un + 128 < cLine →
    (∀ (D : Addr) (t1 t2 : Tok) (c : Nat) (h : Heap) (tk : Nat), Fr h₀ L h m → News h₀ L h ((D, tup2 x1 x2 t1 t2 c) :: news) → AllLt D news → Q (.ref D) { s with heap := h, toks := tk }) →
    wpAny (model PySem.Challenge.rw_xn0004_01.row.prog w) (ktrTop dp un gd cn cs L a ccd cl outer) (call (.ref f) vs) Q E s
def aheadI (m : Int) : Int := ([306, 337, 0, 31, 61, 92, 122, 153, 184, 214, 245, 275] : List Int).getD m.toNat 0
theorem my_itemI {prog : Program} {w : World} {A : Around} {E : Value → Shared → Prop} {s : Shared} {value slice : PySem.Expr} {l : Addr} {vs : List Value} {k : Int} {u : Tok} {v : Value} {Q : Value → Shared → Prop}
    (hl : s.heap.IsList l vs.toArray) (h0 : 0 ≤ k) (hhi : k < 2 ^ 63) (hx : vs[k.toNat]? = some v) (h : Q v s)
    (hs : subscripted slice false (.ref l) (.int k u) = operate [.ref l, .int k u] (getItem (.ref l) (.int k u)) := by with_unfolding_all rfl) :
    wpAny (model prog w) A (subscriptTail value slice (.ref l) (.int k u)) Q E s :=
  tail_any hl.typeIs slot_list_getitem.lookup (wpAny_getItem_list hl h0 hhi (by simpa using hx) h) hs
theorem ahead_at {k : Int} {t0 t1 t2 t3 t4 t5 t6 t7 t8 t9 t10 t11 : Tok} (h0 : 0 ≤ k) (h1 : k < 12) : ([Value.int 306 t0, Value.int 337 t1, Value.int 0 t2, Value.int 31 t3, Value.int 61 t4, Value.int 92 t5, Value.int 122 t6, Value.int 153 t7, Value.int 184 t8, Value.int 214 t9, Value.int 245 t10, Value.int 275 t11] : List Value)[k.toNat]? = some (.int (aheadI k) ([t0, t1, t2, t3, t4, t5, t6, t7, t8, t9, t10, t11].getD k.toNat 0)) := by
  have hk : k.toNat < 12 := (Int.toNat_lt h0).mpr h1
  exact zip_at Value.int [306, 337, 0, 31, 61, 92, 122, 153, 184, 214, 245, 275] [t0, t1, t2, t3, t4, t5, t6, t7, t8, t9, t10, t11] 0 0 k.toNat hk hk
local macro_rules | `(tactic| walk_at "subscriptTail") => `(tactic| (k_here; (with_reducible show wpAny _ _ (subscriptTail _ _ (Value.ref _) (Value.int _ _)) _ _ _); (with_unfolding_all refine' my_itemI ?k1 ?k2 ?k3 ?k4 ?_ ?k6; (case k1 => is_list); (case k2 => omega); (case k3 => omega); (case k4 => exact ahead_at (by omega) (by omega)); (case k6 => with_unfolding_all rfl); k_whole)))
local macro_rules | `(tactic| walk_at "call ref") => `(tactic| (k_here; (with_reducible show wpAny _ _ (call (Value.ref 133) [_]) _ _ _); k_dflt (refine month_spec _ _ (by omega) (by k_asm) (by k_asm) (by k_asm) (by k_asm) (by k_asm) (by first | assumption | exact rfl) (by ktr_room) (by ktr_units) ?_; intro t9 h9 tk9 F9 N9; (try dsimp only))))
local macro_rules | `(tactic| walk_at "call ref") => `(tactic| (k_here; (with_reducible show wpAny _ _ (call (Value.ref 84) [_, _]) _ _ _); k_dflt (refine isub_spec _ _ _ _ (by k_asm) (by k_asm) (by k_asm) (by k_asm) (by k_asm) (by first | assumption | exact rfl) (by ktr_room) (by ktr_units) ?_; intro t9 h9 tk9 F9 N9; (try dsimp only))))
local macro_rules | `(tactic| walk_at "newList") => `(tactic| (k_here; k_dflt (refine' newList_K ?k1 ?k2 ?_ ?kz; (case k1 => k_asm); (case k2 => k_asm); (case kz => exact Nat.le_of_ble_eq_true rfl); k_whole); intro l' h' F' N' l1))
theorem news_drop2 {h₀ h : Heap} {L : Addr} {a b : Addr × Obj} {r : List (Addr × Obj)} (N : News h₀ L h (a :: b :: r)) : News h₀ L h (a :: r) := fun p hp => by
  rcases List.mem_cons.mp hp with rfl | hp
  · exact N _ (.head _)
  · exact N _ (.tail _ (.tail _ hp))
def readD (y m d : Int) : Int := 365 * (y - (if m < 2 then 1 else 0)) + (y - (if m < 2 then 1 else 0)).fdiv 4 + (y - (if m < 2 then 1 else 0)).fdiv 400 - (y - (if m < 2 then 1 else 0)).fdiv 100 + aheadI m + d - 1
def Mark (_ : Int) : Prop := True
def IfR (m : Int) (s : Shared) (v : Value) (s' : Shared) : Prop := ∃ t tk, v = .int (if m < 2 then 1 else 0) t ∧ s' = { s with toks := tk }
theorem ifexp_join {M : Model} {A : Around} {E : Value → Shared → Prop} {s : Shared} {a : Sem Value} {m : Int} {Q : Value → Shared → Prop} (_ : Mark m) (h : wpAny M A a (IfR m s) E s) (k : ∀ t tk, Q (.int (if m < 2 then 1 else 0) t) { s with toks := tk }) : wpAny M A a Q E s :=
  wpAny_mono h (fun v s' ⟨t, tk, e1, e2⟩ => by rw [e1, e2]; exact k t tk) fun _ _ e => e
theorem ifr_one {m : Int} {s : Shared} {t : Tok} (h : m < 2) (tk : Nat) : IfR m s (.int 1 t) { s with toks := tk } := ⟨t, tk, by rw [if_pos h], rfl⟩
theorem ifr_zero {m : Int} {s : Shared} {t : Tok} (h : ¬ m < 2) (tk : Nat) : IfR m s (.int 0 t) { s with toks := tk } := ⟨t, tk, by rw [if_neg h], rfl⟩
local macro_rules | `(tactic| walk_at "eval IfExp") => `(tactic| (k_here; (fail_if_success (with_reducible show wpAny _ _ _ (IfR _ _) _ _)); k_dflt (refine ifexp_join (by assumption) ?_ ?_); rotate_left; intro t9 tk9; rotate_left))
local macro_rules | `(tactic| walk_at "IfR") => `(tactic| (first | exact ifr_one (by assumption) _ | exact ifr_zero (by assumption) _))
theorem read_spec {w : World} (x : PySem.Str) (t : Tok) (hx : x.length ≤ 40) (m0 : 0 ≤ monI x) (m1 : monI x < 12) (y d h mi s : Int)
   (y0 : 0 ≤ y) (y1 : y < 10000)
   (i1 : PySem.intText? (Txt.slice x (some 12) (some 16)) = some y) (i2 : PySem.intText? (Txt.slice x (some 5) (some 7)) = some d) (i3 : PySem.intText? (Txt.slice x (some 17) (some 19)) = some h)
   (i4 : PySem.intText? (Txt.slice x (some 20) (some 22)) = some mi) (i5 : PySem.intText? (Txt.slice x (some 23) (some 25)) = some s) : Ctr2 w 140 [.str x t] (readD y (monI x) d) (3600 * h + 60 * mi + s) := by
  have mk9 : Mark (monI x) := True.intro
  unfold Ctr2; (try k_fill); intros; rename_i hret; refine wpAny_call ?_; k_dflt cell_enter; k_steps
  exact hret _ _ _ _ _ _ (by k_asm) (news_drop2 (by k_asm)) (And.right (by assumption))
end Mine
end
section
open PySem PySem.W PyProof.Rows
set_option Elab.async false
set_option maxRecDepth 100000
set_option maxHeartbeats 1000000
namespace Mine
section
variable {M : Model} {A : Around} {R : GenEnd} {Y : Protocol} {n : Nat} {s₀ : Shared} {c : Code} {fs : List PySem.Frame} {s : Shared} {env : Env}
  {K : Flow → Sem PySem.Fin} {H : Value → Sem PySem.Fin} {gd : Bool → Bool} {lv : List Value → List Value}
theorem seg_If {test : PySem.Expr} {body orelse : List Stmt} {pos : Pos}
    (h : wpAny M (A.over c fs) (isTrue test env (eval test env)) (fun b s' =>
        if b = true then Seg M A R Y n s₀ c ((execs body env).wrap K H gd lv) fs s' else Seg M A R Y n s₀ c ((execs orelse env).wrap K H gd lv) fs s')
      (fun _ _ => False) s) :
    Seg M A R Y n s₀ c ((exec (.If test body orelse pos) env).wrap K H gd lv) fs s := by
  show Seg M A R Y n s₀ c (.at pos fun _ => ((isTrue test env (eval test env) >>= fun b => if b = true then execs body env else execs orelse env)).wrap K H gd lv) fs s
  refine seg_at ?_
  rw [Sem.bind_eq_wrap', Sem.wrap_wrap]
  refine seg_wrap (wpAny_mono h (fun b s' h' => ?_) fun _ _ x => x.elim)
  cases b with
  | true => exact h'
  | false => exact h'
theorem seg_plain {st : Stmt} (h : wpAny M (A.over c fs) (exec st env) (fun f s' => Seg M A R Y n s₀ c (K f) fs s') (fun _ _ => False) s) :
    Seg M A R Y n s₀ c ((exec st env).wrap K H gd lv) fs s := seg_wrap (wpAny_mono h (fun _ _ x => x) fun _ _ x => x.elim)
theorem seg_For {target iter : PySem.Expr} {body orelse : List Stmt} {pos : Pos}
    (h : wpAny M (A.over c fs) (eval iter env) (fun x s₁ => wpAny M (A.over c fs) (pyIter x) (fun it s₂ =>
      ∀ p, Seg M A R Y n s₀ (.forLoop target it body orelse env) (M.den (.forLoop target it body orelse env))
      (.ret (fun r => ((match r with | .ok f => (.pure f : Sem Flow) | .error e => .raise e).onRaise fun (x : Value) => do
        if (← field x 1) == Value.none then unsupported "frame.own-activation:exception-without-traceback"
        setFlight x env.frame).wrap K H gd lv) none (gd false) (lv []) c p [] :: fs) s₂) (fun _ _ => False) s₁) (fun _ _ => False) s)
    (hs : ∀ x, foldedSetIterable iter env x = pure x := by intro _; rfl) :
    Seg M A R Y n s₀ c ((exec (.For target iter body orelse pos) env).wrap K H gd lv) fs s := by
  rw [exec_For]
  show Seg M A R Y n s₀ c (.at pos fun _ => (eval iter env >>= fun x => foldedSetIterable iter env x >>= fun x => standAt iter.pos >>= fun _ => holding [x] (pyIter x) >>= fun it => runOwn (.forLoop target it body orelse env) env).wrap K H gd lv) fs s
  refine seg_at ?_
  rw [Sem.bind_eq_wrap', Sem.wrap_wrap]
  refine seg_wrap (wpAny_mono h (fun x s₁ h₁ => ?_) fun _ _ x => x.elim)
  rw [hs x]
  show Seg M A R Y n s₀ c (.at iter.pos fun _ => (holding [x] (pyIter x) >>= fun it => runOwn (.forLoop target it body orelse env) env).wrap K H gd lv) fs s₁
  refine seg_at ?_
  rw [Sem.bind_eq_wrap', Sem.wrap_wrap]
  refine seg_wrap (wpAny_holding (wpAny_mono h₁ (fun it s₂ h₂ => ?_) fun _ _ x => x.elim))
  exact seg_call h₂
end
section
variable {prog : Program} {w : World} {A : Around} {R : GenEnd} {Y : Protocol} {n : Nat} {s₀ : Shared} {fs : List PySem.Frame} {s : Shared} {env : Env}
/-- one turn of a for in a generator, an item at hand -/
theorem seg_forLoop {target : PySem.Expr} {it : Value} {body orelse : List Stmt}
    (h : wpAny (model prog w) (A.over (.forLoop target it body orelse env) fs) (pyNext it) (fun r s₁ => ∃ v, r = some v ∧
        wpAny (model prog w) (A.over (.forLoop target it body orelse env) fs) (assign target env v) (fun _ s₂ =>
          Seg (model prog w) A R Y n s₀ (.forLoop target it body orelse env) ((execs body env).wrap (fun f => match f with
            | .next | .cont => .pure (.again (.forLoop target it body orelse env))
            | .brk => .pure (.done .next)
            | .ret v => .pure (.done (.ret v))) (fun e => (do noteFrame e env; theTreesLotGoes e : Sem Unit).wrap (fun _ => .raise e) .raise id id) id id) fs s₂)
          (fun _ _ => False) s₁)
      (fun _ _ => False) s) (ht : ∀ v, letOwnedTupleGo target it v = pure () := by intro _; rfl) :
    Seg (model prog w) A R Y n s₀ (.forLoop target it body orelse env) ((model prog w).den (.forLoop target it body orelse env)) fs s := by
  show Seg _ A R Y n s₀ _ ((forTurn target it body orelse env).onRaise (fun x => do noteFrame x env; theTreesLotGoes x)) fs s
  simp only [forTurn]
  rw [Sem.onRaise_eq_wrap, Sem.bind_eq_wrap', Sem.wrap_wrap]
  refine seg_wrap (m := standAt target.pos) (wpAny_standAt ?_)
  rw [Sem.bind_eq_wrap', Sem.wrap_wrap]
  refine seg_wrap (wpAny_onRaise (wpAny_mono h (fun r s₁ h₁ => ?_) fun _ _ x => x.elim))
  obtain ⟨v, rfl, h₁⟩ := h₁
  dsimp only
  rw [ht v]
  rw [Sem.bind_eq_wrap', Sem.wrap_wrap]
  refine seg_wrap (m := (pure () : Sem Unit)) (wpAny_pure ?_)
  rw [Sem.bind_eq_wrap', Sem.wrap_wrap]
  refine seg_wrap (wpAny_mono h₁ (fun _ s₂ h₂ => ?_) fun _ _ x => x.elim)
  rw [Sem.bind_eq_wrap', Sem.wrap_wrap]
  rw [Sem.wrap_congr (execs body env) _ _ (K' := fun f => match f with
            | .next | .cont => .pure (.again (.forLoop target it body orelse env))
            | .brk => .pure (.done .next)
            | .ret v => .pure (.done (.ret v))) (H' := (fun e => (do noteFrame e env; theTreesLotGoes e : Sem Unit).wrap (fun _ => .raise e) .raise id id))
        (fun f => by cases f <;> rfl)
        (fun e => by first | exact Sem.bind_eq_wrap _ _ | (show (do noteFrame e env; theTreesLotGoes e : Sem Unit).bind (fun _ => .raise e) = _; rw [Sem.bind_eq_wrap]))]
  exact h₂
end
end Mine
end
section
open PySem PySem.W PySem.Calls PyProof.Rows
set_option Elab.async false
set_option maxRecDepth 100000
set_option maxHeartbeats 1000000
namespace Mine
theorem gen_call {prog : Program} {w : World} {A : Around} {s : Shared} {h₀ : Heap} {L : Addr} {m : PySem.Str → Option Value} {K : Frag} {p : Program} {loose : List PySem.Str} {mean : ExcName → Option Value} {mg mb : PySem.Str → Option Value}
    {R : Result → Shared → Prop} {name qual : PySem.Str} {params : Arguments} {body : List Stmt} {scope : Scope} {dV kV doc pm cdv ct oc : Value} {an od : Option Addr} {osl : Array (Option Value)} {f : Addr} {args : Args} {binds : List (PySem.Str × Value)}
    (F : Fr h₀ L s.heap m) (X₀ : K.In h₀) (T : Top p loose mean mg mb h₀)
    (ho : K.lookup f = some ⟨oc, od, .func (fnOf name qual params body scope dV kV doc pm an cdv ct), osl⟩) (hcd : codeIn K cdv qual = true) (hroom : A.depth < recursionLimit)
    (hbind : BindsTo s (fnOf name qual params body scope dV kV doc pm an cdv ct) args binds) (hloc : ∀ y ∈ binds, scope.names.lookup y.1 = some .local)
    (h : ∀ (Lg a : Addr) (h₁ : Heap) (tk : Nat), Fr h₀ Lg h₁ (fun x => binds.reverse.lookup x) → h₁.IsGen a s.gens.size → (∀ b o, s.heap.get? b = some o → h₁.get? b = some o) → s.heap.objs.size ≤ Lg → Lg < a →
      R (.ok (.ret (.ref a))) { s with gens := s.gens.push (.fresh (.func body (envOf qual scope Lg f cdv))), heap := h₁, toks := tk })
    (hco : scope.isCoroutine = false := by rfl) (hgen : scope.isGenerator = true := by rfl) (hk : scope.kind = .function := by rfl)
    (hcell : ∀ x ∈ scope.names, x.2 ≠ .cell := by decide) : codeAny (model prog w) A (.call (.ref f) args) R s := by
  have X := X₀.keeps F.keep
  refine codeAny_call_generator (fd := fnOf name qual params body scope dV kV doc pm an cdv ct) (body := body) hroom (X _ _ ho) rfl hco hgen rfl (codeRec_of X hcd) ?_
  refine hbind _ _ _ _ ?_
  obtain ⟨oL, es, ep, hL, hLd⟩ := F.ns
  have hLt := Heap.lt_size hL
  refine wpAny_newFunctionEnv hcell hloc (fun h₁ hns hsb => ?_) hk
  have keep : ∀ b o, s.heap.get? b = some o → h₁.get? b = some o := fun b o e => hsb.extBut b o (Nat.ne_of_lt (Heap.lt_size e)) (Heap.get?_push_of_some _ e)
  have hsz : h₁.objs.size = s.heap.objs.size + 1 := by rw [hsb.1, Heap.size_push]
  refine ⟨(T.nolimit.keeps F.keep).keeps keep, ?_⟩
  refine h s.heap.objs.size h₁.objs.size _ _ ⟨hns.push _, fun b o e => Heap.get?_push_of_some _ (keep b o (F.keep b o e)), Nat.le_trans F.above (Nat.le_of_lt hLt)⟩ ⟨_, _, _, Heap.get?_push_size _ rfl, rfl, rfl, rfl⟩ (fun b o e => Heap.get?_push_of_some _ (keep b o e)) (Nat.le_refl _) (by rw [hsz]; exact Nat.lt_succ_self _)
end Mine
end
section
open PySem PySem.W PySem.Calls PyProof.Rows
set_option Elab.async false
set_option maxRecDepth 100000
set_option maxHeartbeats 1000000
namespace Mine
abbrev tup2g (x1 x2 : Int) (t1 t2 : Tok) (c : Nat) : Obj := { cls := .type "tuple", data := .seq #[.int x1 t1, .int x2 t2] c }
def CtrG2 (w : World) (f : Addr) (vs : List Value) (S : Addr) (oS : Obj) (x1 x2 : Int) : Prop :=
  ∀ {mg mb : PySem.Str → Option Value} {mean : ExcName → Option Value} {dp un : Nat} {gd : Option (List Code)} {cn : PySem.Str} {cs : Scope} {a : Addr} {ccd : Value} {cl : List (PySem.Str × Addr)} {outer : List Env} {A₀ : Around} {base h₀ : Heap} {L : Addr} {m : PySem.Str → Option Value} {news : List (Addr × Obj)} {s : Shared} {Q E : Value → Shared → Prop},
    Below A₀ base outer h₀ → Fr h₀ L s.heap m → (hd.heap_39 w.params).In h₀ → News h₀ L s.heap ((S, oS) :: news) → Top topProg (looseW hd.view_39 [] ++ (recsOf hd.view_39).map (·.name) ++ (litsOf hd.view_39).map (·.1) ++ (clssOf hd.view_39 (looseW hd.view_39 [])).map (·.name)) mean mg mb h₀ → cs.kind = .function → dp + 8 < recursionLimit → un + 64 < cLine →
    (∀ (D : Addr) (t1 t2 : Tok) (c : Nat) (h : Heap) (tk : Nat) (g : Array GenState), Fr h₀ L h m → News h₀ L h ((D, tup2g x1 x2 t1 t2 c) :: (S, oS) :: news) → AllLt D news → (AllBare s.gens → AllBare g) → Q (.ref D) { s with heap := h, gens := g, toks := tk }) →
    wpAny (model PySem.Challenge.rw_xn0004_01.row.prog w) (ktrTop dp un gd cn cs L a ccd cl outer) (call (.ref f) vs) Q E s
theorem fr_keep {base h h' : Heap} {L : Addr} {m : PySem.Str → Option Value} (F : Fr base L h m) (keep : ∀ b o, h.get? b = some o → h'.get? b = some o) : Fr base L h' m :=
  ⟨F.ns.at' fun o e => keep _ _ e, fun b o e => keep b o (F.keep b o e), F.above⟩
theorem news_keep {base h h' : Heap} {L : Addr} {news : List (Addr × Obj)} (N : News base L h news) (keep : ∀ b o, h.get? b = some o → h'.get? b = some o) : News base L h' news :=
  fun p hp => ⟨keep _ _ (N p hp).1, (N p hp).2⟩
end Mine
end
section
open PySem PySem.W PySem.Calls PyProof.Rows
set_option Elab.async false
set_option maxRecDepth 100000
set_option maxHeartbeats 1000000
namespace Mine
/-- what a wake numbered n (n wakes are left, this one with them) gives -/
inductive CutR (out : Nat → Option Int) : Nat → Int → Int → Int × Int → Prop
  | fin {n rest full} : out (n + 1) = none → CutR out (n + 1) rest full (full, rest)
  | stop {n rest full x} : out (n + 1) = some x → rest < x → CutR out (n + 1) rest full (full, rest)
  | more {n rest full x res} : out (n + 1) = some x → ¬ rest < x → CutR out n (rest - x) (full + 1) res → CutR out (n + 1) rest full res
structure Allow (base : Heap) (av : List Addr) (S : Addr) (oS : Obj) (own : List (Addr × Obj)) (h : Heap) : Prop where
  own : ∀ p ∈ own, h.get? p.1 = some p.2
  base : ∀ b o, base.get? b = some o → h.get? b = some o
  av : ∀ b ∈ av, ∃ o, h.get? b = some o
  src : h.get? S = some oS
structure Held (base : Heap) (av : List Addr) (s₀ s₁ : Shared) : Prop where
  gens : s₁.gens = s₀.gens
  drawn : s₁.drawn = s₀.drawn
  os : s₁.os = s₀.os
  av : ∀ b ∈ av, ∀ o, s₀.heap.get? b = some o → s₁.heap.get? b = some o
  base : ∀ b o, base.get? b = some o → s₁.heap.get? b = some o
def GY (out : Nat → Option Int) (base : Heap) (av : List Addr) (S : Addr) (oS : Obj) : Protocol := fun n s₀ v s₁ kap =>
  ∃ (x : Int) (t : Tok) (own : List (Addr × Obj)), out (n + 1) = some x ∧ v = .int x t ∧ Held base av s₀ s₁ ∧ (∀ p ∈ own, s₁.heap.get? p.1 = some p.2) ∧ (∀ p ∈ own, p.1 ∉ av ∧ base.get? p.1 = none) ∧
    (0 < n → ∀ s'' : Shared, Allow base av S oS own s''.heap → kap (.send .none) s'')
def GP (out : Nat → Option Int) (base : Heap) (av : List Addr) (n : Nat) (s₀ s₁ : Shared) : Prop := out n = none ∧ Held base av s₀ s₁
def GR (out : Nat → Option Int) (base : Heap) (av : List Addr) : GenEnd := fun n s₀ r s₁ => r = .ok (.ret .none) ∧ GP out base av n s₀ s₁
structure Ready (prog : Program) (w : World) (A : Around) (out : Nat → Option Int) (base : Heap) (av : List Addr) (S : Addr) (oS : Obj) (n : Nat) (gs : GenState) (h : Heap) : Prop where
  it : ∃ own : List (Addr × Obj), (∀ p ∈ own, h.get? p.1 = some p.2) ∧ (∀ p ∈ own, p.1 ∉ av ∧ base.get? p.1 = none) ∧ (0 < n → ∀ s'' : Shared, Allow base av S oS own s''.heap → gs.Goes (model prog w) A.in1 (GR out base av) (GY out base av S oS) n (.send .none) s'')
theorem pyNextQ {prog : Program} {w : World} {A : Around} {s : Shared} {E : Value → Shared → Prop} {a : Addr} {g n : Nat} {gs : GenState} {P : Nat → Shared → Shared → Prop} {Y : Protocol} {Q : Option Value → Shared → Prop} (hh : A.handled = none)
    (hl : s.heap.NoLimit) (hroom : A.depth < recursionLimit) (hg : s.heap.IsGen a g) (hgs : s.gens[g]? = some gs)
    (hgo : gs.Goes (model prog w) A.in1 (fun n s₀ r s₁ => r = .ok (.ret .none) ∧ P n s₀ s₁) Y (n + 1) (.send .none) (s.setGen g .running))
    (hY : ∀ v s₁ gs', gs'.bare = true → Y n (s.setGen g .running) v s₁ (fun r' s'' => gs'.Goes (model prog w) A.in1 (fun n s₀ r s₁ => r = .ok (.ret .none) ∧ P n s₀ s₁) Y n r' s'') → Q (some v) (s₁.setGen g gs'))
    (hP : ∀ s₁, P (n + 1) (s.setGen g .running) s₁ → ∀ h', (∀ b o, s₁.heap.get? b = some o → h'.get? b = some o) → Q none { s₁.setGen g .finished with heap := h' }) :
    wpAny (model prog w) A (pyNext (.ref a)) Q E s := by
  have wake : wpAny (model prog w) A.in1 (.resume g (.send .none) [] fun r => match r with
      | .yielded v => ret v
      | .returned v => do
        if v == .none then raiseNew (← newExc (.type "StopIteration") [])
        rule "generator.return-value"; throw (← newExc (.type "StopIteration") [v])
      | .raised e => Builtin.Generator.genLeft (.ref a) e
      | .running => do rule "generator.already-executing"; raiseError "ValueError" "generator already executing"
      | .justStarted => do rule "generator.send-to-fresh"; raiseError "TypeError" "can't send non-None value to a just-started generator"
      | .finished => do raiseNew (← newExc (.type "StopIteration") []))
      (fun f s' => ∃ v, f = .done (.ret v) ∧ Q (some v) s')
      (fun e s' => wpAny (model prog w) A (isInstance e (.type "StopIteration")) (fun b s'' => b = true ∧ Q none s'') E s') s := by
    refine wpAny_resumeQ hgs hgo (fun x s₁ hx => ?_) (fun v s₁ gs' hb hv => ?_)
    · obtain ⟨rfl, hp⟩ := hx
      show wpAny _ _ (newExc (.type "StopIteration") [] >>= _) _ _ _
      refine wpAny_bind ?_
      simp only [newExc, newTuple]
      refine wpAny_bind (wpAny_newObj_type ?_ (by size_fits))
      refine wpAny_bind (m := firstArgMember _ _) (wpAny_of_eq (a := Value.none) (by first | rfl | (simp only [firstArgMember]; rfl)) ?_)
      refine wpAny_newObj_type ?_ (by size_fits)
      simp only [raiseNew]
      refine wpAny_bind (wpAny_bind (wpAny_handled ?_))
      rw [show A.in1.handled = none from hh]
      refine wpAny_throw ?_
      exact wpAny_isInstance (T := "StopIteration") (b := true) ⟨_, Heap.get?_push_size _ rfl, rfl⟩ isSubtype_stop ⟨rfl, hP s₁ hp _ fun b o hb => Heap.get?_push_of_some _ (Heap.get?_push_of_some _ hb)⟩
    · exact wpAny_pure ⟨v, rfl, hY v s₁ gs' hb hv⟩
  unfold pyNext
  refine wpAny_bind (wpAny_attempt (wpAny_callSpecial?_slot (name := Str.ofString "__next__") hg.typeIs slot_gen_next
    (wpAny_call_entry slot_gen_next hg.typeIs entry_gen_next ?_ (args_gen_next _))))
  show wpAny _ _ (Builtin.Generator.genWake (.ref a) (.send .none)) _ _ s
  unfold Builtin.Generator.genWake
  refine wpAny_bind (wpAny_holding (wpAny_genNumber hg (wpAny_bind (wpAny_genState hgs ?_))))
  cases gs with
  | running => exact hgo.elim
  | finished => exact hgo.elim
  | _ =>
    refine wpAny_bind (wpAny_roomToWake hl hroom ?_)
    refine wpAny_mono wake (fun f s' hf => ?_) (fun e s' he => ?_)
    · obtain ⟨v, rfl, hq⟩ := hf
      exact ⟨v, rfl, wpAny_pure hq⟩
    · refine wpAny_bind (wpAny_mono he (fun b s'' hb => ?_) fun _ _ x => x)
      obtain ⟨rfl, hq⟩ := hb
      exact wpAny_pure hq
/-- one look at the generator -/
theorem next_gen {prog : Program} {w : World} {A : Around} {out : Nat → Option Int} {base : Heap} {av : List Addr} {S ag : Addr} {oS : Obj} {n g : Nat} {gs : GenState} {s : Shared} {E : Value → Shared → Prop} {Q : Option Value → Shared → Prop}
    (hh : A.handled = none) (hl : base.NoLimit) (hroom : A.depth < recursionLimit) (hg : s.heap.IsGen ag g) (hgs : s.gens[g]? = some gs) (R : Ready prog w A out base av S oS (n + 1) gs s.heap)
    (hb : ∀ b o, base.get? b = some o → s.heap.get? b = some o) (hav : ∀ b ∈ av, ∃ o, s.heap.get? b = some o) (hS : s.heap.get? S = some oS) (hag : ag ∈ av)
    (hY : ∀ x t h tk gs', out (n + 1) = some x → (∀ b ∈ av, ∀ o, s.heap.get? b = some o → h.get? b = some o) → (∀ b o, base.get? b = some o → h.get? b = some o) → Ready prog w A out base av S oS n gs' h → h.IsGen ag g → gs'.bare = true →
      Q (some (.int x t)) { s with heap := h, toks := tk, gens := s.gens.setIfInBounds g gs' })
    (hP : ∀ h tk, out (n + 1) = none → (∀ b ∈ av, ∀ o, s.heap.get? b = some o → h.get? b = some o) → (∀ b o, base.get? b = some o → h.get? b = some o) →
      Q none { s with heap := h, toks := tk, gens := s.gens.setIfInBounds g .finished }) :
    wpAny (model prog w) A (pyNext (.ref ag)) Q E s := by
  obtain ⟨own, ho, hna, hgo⟩ := R.it
  have isg : ∀ h : Heap, (∀ b ∈ av, ∀ o, s.heap.get? b = some o → h.get? b = some o) → h.IsGen ag g := fun h k => by
    obtain ⟨o, nm, qn, e, r⟩ := hg
    exact ⟨o, nm, qn, k _ hag _ e, r⟩
  have setset : ∀ x : GenState, (s.gens.setIfInBounds g .running).setIfInBounds g x = s.gens.setIfInBounds g x := fun x => by
    apply Array.ext'
    simp
  refine pyNextQ (n := n) (P := GP out base av) (Y := GY out base av S oS) hh (hl.keeps hb) hroom hg hgs ?_ ?_ ?_
  · exact hgo (Nat.succ_pos _) _ ⟨ho, hb, hav, hS⟩
  · intro v s₁ gs' hbare hy
    obtain ⟨x, t, own', hx, rfl, H, ho', hna', hk⟩ := hy
    have e : s₁.setGen g gs' = { s with heap := s₁.heap, toks := s₁.toks, gens := s.gens.setIfInBounds g gs' } := by
      obtain ⟨h₁, g₁, d₁, t₁, o₁⟩ := s₁
      have e1 : g₁ = s.gens.setIfInBounds g .running := H.gens
      have e2 : d₁ = s.drawn := H.drawn
      have e3 : o₁ = s.os := H.os
      subst e1; subst e2; subst e3
      unfold Shared.setGen
      simp only [setset]
    rw [e]
    exact hY x t _ _ gs' hx H.av H.base ⟨own', ho', hna', fun hn s'' hal => hk hn s'' hal⟩ (isg _ H.av) hbare
  · intro s₁ hp h' hk
    obtain ⟨hx, H⟩ := hp
    have e : { s₁.setGen g .finished with heap := h' } = { s with heap := h', toks := s₁.toks, gens := s.gens.setIfInBounds g .finished } := by
      obtain ⟨h₁, g₁, d₁, t₁, o₁⟩ := s₁
      have e1 : g₁ = s.gens.setIfInBounds g .running := H.gens
      have e2 : d₁ = s.drawn := H.drawn
      have e3 : o₁ = s.os := H.os
      subst e1; subst e2; subst e3
      unfold Shared.setGen
      simp only [setset]
    rw [e]
    exact hP _ _ hx (fun b hb o eo => hk _ _ (H.av b hb o eo)) (fun b o eo => hk _ _ (H.base b o eo))
end Mine
end
section
open PySem PySem.W PySem.Calls PyProof.Rows
set_option Elab.async false
set_option maxRecDepth 100000
set_option maxHeartbeats 1000000
namespace Mine
theorem bare_set {g : Array GenState} {i : Nat} {x : GenState} (hg : AllBare g) (hx : x.bare = true) : AllBare (g.setIfInBounds i x) := fun y hy => by
  rcases Array.mem_or_eq_of_mem_setIfInBounds hy with h | rfl
  · exact hg y h
  · exact hx
inductive CutI (prog : Program) (w : World) (A : Around) (out : Nat → Option Int) (base : Heap) (L : Addr) (nf nr : PySem.Str) (f r : Int) (S ag : Addr) (oS : Obj) (gi : Nat) (news : List (Addr × Obj)) (s0 : Shared) (n : Nat) : Shared → Prop
  | mk (rest full : Int) (t1 t2 : Tok) (m0 : PySem.Str → Option Value) (gs : GenState) (h : Heap) (tk : Nat) (g : Array GenState) (hC : CutR out n rest full (f, r))
      (F : Fr base L h (fun y => if y = nf then some (.int full t1) else if y = nr then some (.int rest t2) else m0 y)) (Nw : News base L h ((S, oS) :: news)) (hg : h.IsGen ag gi) (hgs : g[gi]? = some gs) (hB : AllBare s0.gens → AllBare g)
      (Rd : Ready prog w A out base (L :: ag :: S :: news.map (·.1)) S oS n gs h) : CutI prog w A out base L nf nr f r S ag oS gi news s0 n { s0 with heap := h, toks := tk, gens := g }
theorem cut_loop {prog : Program} {w : World} {A : Around} {env : Env} {base : Heap} {nx nf nr : PySem.Str} {px : Pos} {body : List Stmt} {R : Result → Shared → Prop} {out : Nat → Option Int} {N : Nat} {f r rest : Int} {S ag : Addr} {oS : Obj} {gi : Nat} {gs : GenState} {news : List (Addr × Obj)} {s0 : Shared} {t1 t2 : Tok} {m0 : PySem.Str → Option Value}
  (hh : A.handled = none) (hl : base.NoLimit) (hroom : A.depth < recursionLimit) (hxl : env.kindOf nx = some .local) (hp : (env.scope.kind == .class || (env.scope.kind == .module && env.locals != env.globals)) = false)
  (turn : ∀ (rest full x : Int) (t1 t2 t3 : Tok) (m0 : PySem.Str → Option Value) (s1 : Shared) (nw : List (Addr × Obj)),
    Fr base env.locals s1.heap (fun y => if y = nx then some (.int x t3) else if y = nf then some (.int full t1) else if y = nr then some (.int rest t2) else m0 y) → News base env.locals s1.heap nw →
    wpAny (model prog w) A (execs body env) (fun fl s3 => ∃ h tk, s3 = { s1 with heap := h, toks := tk } ∧ News base env.locals h nw ∧
      ((rest < x ∧ fl = .brk ∧ ∃ m0' : PySem.Str → Option Value, Fr base env.locals h (fun y => if y = nf then some (.int full t1) else if y = nr then some (.int rest t2) else m0' y)) ∨
       (¬ rest < x ∧ fl = .next ∧ ∃ (t1' t2' : Tok) (m0' : PySem.Str → Option Value), Fr base env.locals h (fun y => if y = nf then some (.int (full + 1) t1') else if y = nr then some (.int (rest - x) t2') else m0' y)))) (fun _ _ => False) s1)
  (fin : ∀ (h : Heap) (tk : Nat) (g : Array GenState) (t1 t2 : Tok) (m0 : PySem.Str → Option Value), Fr base env.locals h (fun y => if y = nf then some (.int f t1) else if y = nr then some (.int r t2) else m0 y) → News base env.locals h ((S, oS) :: news) → (AllBare s0.gens → AllBare g) → R (.ok .next) { s0 with heap := h, toks := tk, gens := g })
  (hC : CutR out N rest 0 (f, r))
  (F : Fr base env.locals s0.heap (fun y => if y = nf then some (.int 0 t1) else if y = nr then some (.int rest t2) else m0 y)) (Nw : News base env.locals s0.heap ((S, oS) :: news))
  (hag : ag ≠ env.locals ∧ base.get? ag = none) (hg : s0.heap.IsGen ag gi) (hgs : s0.gens[gi]? = some gs) (Rd : Ready prog w A out base (env.locals :: ag :: S :: news.map (·.1)) S oS N gs s0.heap) :
  codeAny (model prog w) A (.forLoop (.Name nx px) (.ref ag) body [] env) R s0 := by
  refine codeAny_forLoop (CutI prog w A out base env.locals nf nr f r S ag oS gi news s0) ?_ N (.mk rest 0 t1 t2 m0 gs s0.heap s0.toks s0.gens hC F Nw hg hgs (fun x => x) Rd)
  rintro n s' ⟨rest, full, t1, t2, m0, gs, h, tk, g, hC, F, Nw, hg, hgs, hB, Rd⟩
  have hn : ∃ k, n = k + 1 := by cases hC <;> exact ⟨_, rfl⟩
  obtain ⟨k, rfl⟩ := hn
  obtain ⟨oL, _, _, hoL, _⟩ := F.ns
  obtain ⟨oA, nm, qn, hoA, hoA'⟩ := hg
  have hS : h.get? S = some oS := (Nw _ (.head _)).1
  have hav : ∀ b ∈ env.locals :: ag :: S :: news.map (·.1), ∃ o, h.get? b = some o := by
    intro b hb
    rcases List.mem_cons.mp hb with rfl | hb
    · exact ⟨_, hoL⟩
    rcases List.mem_cons.mp hb with rfl | hb
    · exact ⟨_, hoA⟩
    rcases List.mem_cons.mp hb with rfl | hb
    · exact ⟨_, hS⟩
    obtain ⟨p, hp', rfl⟩ := List.mem_map.mp hb
    exact ⟨_, (Nw p (.tail _ hp')).1⟩
  have upF : ∀ (h' : Heap), (∀ b ∈ env.locals :: ag :: S :: news.map (·.1), ∀ o, h.get? b = some o → h'.get? b = some o) → (∀ b o, base.get? b = some o → h'.get? b = some o) →
      Fr base env.locals h' (fun y => if y = nf then some (.int full t1) else if y = nr then some (.int rest t2) else m0 y) ∧ News base env.locals h' ((S, oS) :: news) := fun h' k1 k2 =>
    ⟨⟨F.ns.at' fun o e => k1 _ (.head _) o e, k2, F.above⟩, fun p hp' => ⟨k1 _ (by
      rcases List.mem_cons.mp hp' with rfl | hp'
      · exact .tail _ (.tail _ (.head _))
      · exact .tail _ (.tail _ (.tail _ (List.mem_map_of_mem hp')))) _ (Nw p hp').1, (Nw p hp').2⟩⟩
  refine next_gen (s := { s0 with heap := h, toks := tk, gens := g }) (n := k) hh hl hroom ⟨oA, nm, qn, hoA, hoA'⟩ hgs Rd F.keep hav hS (.tail _ (.head _)) ?_ ?_
  · intro x t3 h1 tk1 gs' hx k1 k2 Rd' hg' hbare
    obtain ⟨F1, N1⟩ := upF h1 k1 k2
    obtain ⟨own, ho, hna, hgo⟩ := Rd'.it
    obtain ⟨oA1, nm1, qn1, hoA1, hoA1'⟩ := hg'
    refine wpAny_assign_Name (wpAny_storeName_local hxl F1.ns (fun h2 hn2 hs2 => ?_) hp)
    have F2 := F1.set hn2 hs2
    have N2 : News base env.locals h2 (own ++ ((ag, oA1) :: (S, oS) :: news)) := by
      intro p hp'
      have ne : p.1 ≠ env.locals ∧ base.get? p.1 = none ∧ h1.get? p.1 = some p.2 := by
        rcases List.mem_append.mp hp' with hp' | hp'
        · exact ⟨fun e => (hna p hp').1 (e ▸ .head _), (hna p hp').2, ho p hp'⟩
        · rcases List.mem_cons.mp hp' with rfl | hp'
          · exact ⟨hag.1, hag.2, hoA1⟩
          · exact ⟨(N1 p hp').2.1, (N1 p hp').2.2, (N1 p hp').1⟩
      exact ⟨(hs2.2 _ ne.1).trans ne.2.2, ne.1, ne.2.1⟩
    refine wpAny_mono (turn rest full x t1 t2 t3 m0 _ _ F2 N2) (fun fl s3 hq => ?_) fun _ _ e => e.elim
    obtain ⟨h3, tk3, rfl, N3, hq⟩ := hq
    have N3' : News base env.locals h3 ((S, oS) :: news) := fun p hp' => N3 p (List.mem_append_right _ (.tail _ hp'))
    have hB' : AllBare s0.gens → AllBare (g.setIfInBounds gi gs') := fun hb => bare_set (hB hb) hbare
    rcases hq with ⟨hlt, rfl, m0', F3⟩ | ⟨hlt, rfl, t1', t2', m0', F3⟩
    · have e : (full, rest) = (f, r) := by
        cases hC with
        | fin h => exact nomatch hx.symm.trans h
        | stop h _ => rfl
        | more h hn _ => rw [hx] at h; cases h; exact absurd hlt hn
      cases e
      exact fin _ _ _ _ _ _ F3 N3' hB'
    · have hC' : CutR out k (rest - x) (full + 1) (f, r) := by
        cases hC with
        | fin h => exact nomatch hx.symm.trans h
        | stop h hl' => rw [hx] at h; cases h; exact absurd hl' hlt
        | more h hn hc => rw [hx] at h; cases h; exact hc
      have hlt' : gi < g.size := (Array.getElem?_eq_some_iff.mp hgs).1
      refine ⟨k, Nat.lt_succ_self k, .mk (rest - x) (full + 1) t1' t2' m0' gs' h3 tk3 (g.setIfInBounds gi gs') hC' F3 N3' ⟨oA1, nm1, qn1, (N3 _ (List.mem_append_right _ (.head _))).1, hoA1'⟩ ?_ hB' ⟨own, fun p hp' => (N3 p (List.mem_append_left _ hp')).1, hna, hgo⟩⟩
      simp [hlt']
  · intro h1 tk1 hx k1 k2
    obtain ⟨F1, N1⟩ := upF h1 k1 k2
    have e : (full, rest) = (f, r) := by
      cases hC with
      | fin h => rfl
      | stop h _ => exact nomatch hx.symm.trans h
      | more h hn _ => exact nomatch hx.symm.trans h
    cases e
    exact wpAny_pure (fin _ _ _ _ _ _ F1 N1 fun hb => bare_set (hB hb) rfl)
end Mine
end
section
open PySem PySem.W PySem.Calls PyProof.Rows
set_option Elab.async false
set_option maxRecDepth 100000
set_option maxHeartbeats 1000000
namespace Mine
inductive Fits (out : Nat → Option Int) : List Int → Option Int → Nat → Prop
  | done {items last} : Fits out items last 0
  | ret {r last} : out 1 = none → Fits out (127 :: r) last 1
  | item {n x r last} : out (n + 1) = some x → x ≠ 127 → x ≠ 0 → Fits out r (some x) n → Fits out (x :: r) last (n + 1)
  | zero {n c r} : (∀ k, 1 ≤ k → k ≤ n → out k = some c) → Fits out (0 :: r) (some c) n
theorem seg_induct {M : Model} {A : Around} {R : GenEnd} {Y : Protocol} {c : Code} {fs : List PySem.Frame} {I : Nat → Shared → Shared → Prop}
    (h : ∀ n s₀ s, (∀ m s₀' s', m < n → I m s₀' s' → Seg M A R Y m s₀' c (M.den c) fs s') → I n s₀ s → Seg M A R Y n s₀ c (M.den c) fs s) (n : Nat) (s₀ s : Shared) (hI : I n s₀ s) : Seg M A R Y n s₀ c (M.den c) fs s := by
  induction n using Nat.strongRecOn generalizing s₀ s with
  | ind n ih => exact h n s₀ s (fun m s₀' s' hm hI' => ih m hm s₀' s' hI') hI
def lastV (t : Tok) : Option Int → Value
  | none => .none
  | some c => .int c t
theorem pick {h : Heap} : ∀ {av : List Addr}, (∀ b ∈ av, ∃ o, h.get? b = some o) → ∃ avo : List (Addr × Obj), avo.map (·.1) = av ∧ ∀ p ∈ avo, h.get? p.1 = some p.2
  | [], _ => ⟨[], rfl, fun _ hp => nomatch hp⟩
  | b :: r, H => by
    obtain ⟨o, ho⟩ := H b (.head _)
    obtain ⟨l, h1, h2⟩ := pick fun b' hb' => H b' (.tail _ hb')
    refine ⟨(b, o) :: l, by rw [List.map_cons, h1], fun p hp => ?_⟩
    rcases List.mem_cons.mp hp with rfl | hp
    · exact ho
    · exact h2 p hp
theorem int_at {vs : List Value} {zs : List Int} (h : IntsAre vs zs) : ∀ {i : Nat} {x : Int} {r : List Int}, zs.drop i = x :: r → ∃ t, vs[i]? = some (.int x t) := by
  induction h with
  | nil => intro i x r e; simp at e
  | cons =>
    rename_i ih
    intro i x r e
    cases i with
    | zero => cases e; exact ⟨_, rfl⟩
    | succ i => exact ih (by simpa using e)
theorem fr_same {base h h' : Heap} {L I : Addr} {m : PySem.Str → Option Value} (F : Fr base L h m) (hs : Heap.SameBut I h h') (h1 : I ≠ L) (h2 : base.get? I = none) : Fr base L h' m :=
  ⟨F.ns.at' fun o e => (hs.2 L (Ne.symm h1)).trans e, fun b o e => (hs.2 b fun q => by rw [q, h2] at e; cases e).trans (F.keep b o e), F.above⟩
theorem fr_eq {base h : Heap} {L : Addr} {m m' : PySem.Str → Option Value} (F : Fr base L h m) (e : ∀ y, m y = m' y) : Fr base L h m' := by
  rw [← funext e]; exact F
theorem fr_move {base h : Heap} {L : Addr} {nx nf nr : PySem.Str} {a b c : Option Value} {m : PySem.Str → Option Value} (h1 : nf ≠ nx) (h2 : nr ≠ nx) (F : Fr base L h (fun y => if y = nx then a else if y = nf then b else if y = nr then c else m y)) : Fr base L h (fun y => if y = nf then b else if y = nr then c else (fun z => if z = nx then a else m z) y) := by
  have e : (fun y => if y = nf then b else if y = nr then c else (fun z => if z = nx then a else m z) y) = (fun y => if y = nx then a else if y = nf then b else if y = nr then c else m y) := by
    funext y
    by_cases q : y = nx
    · subst q
      rw [if_neg (Ne.symm h1), if_neg (Ne.symm h2), if_pos rfl]
      exact if_pos rfl
    · rw [if_neg q]
      by_cases q1 : y = nf
      · rw [if_pos q1, if_pos q1]
      · rw [if_neg q1, if_neg q1]
        by_cases q2 : y = nr
        · rw [if_pos q2, if_pos q2]
        · rw [if_neg q2, if_neg q2]
          exact if_neg q
  rw [e]; exact F
theorem fr_split {base h : Heap} {L : Addr} {nf nr : PySem.Str} {a b : Option Value} {m : PySem.Str → Option Value} (F : Fr base L h (fun y => if y = nf then a else m y)) (hm : m nr = b) : Fr base L h (fun y => if y = nf then a else if y = nr then b else m y) := by
  have e : (fun y => if y = nf then a else if y = nr then b else m y) = (fun y => if y = nf then a else m y) := by
    funext y
    split
    · rfl
    · split
      · rename_i h; rw [h, hm]
      · rfl
  rw [e]; exact F
local macro_rules | `(tactic| walk_at "call ref") => `(tactic| (k_here; (with_reducible show wpAny _ _ (call (Value.ref 35) [_]) _ _ _); k_dflt (refine wpAny_call ?_; refine' gen_call ?k1 ?k2 ?k3 ?k4 ?k5 ?k6 ?k7 ?k8 ?_ ?c1 ?c2 ?c3 ?c4; (case k1 => k_asm); (case k2 => k_asm); (case k3 => k_asm); (case k4 => k_is); (case k5 => k_is); (case k6 => ktr_room); (case k7 => exact BindsTo.of_eq rfl); (case k8 => exact locs rfl); (case c1 => exact rfl); (case c2 => exact rfl); (case c3 => exact rfl); (case c4 => decide); intro Lg ag hg tkg Fg Gg Kg lg1 lg2; (have Fc := fr_keep (by k_asm) Kg); (have Nc := news_keep (by k_asm) Kg); (try dsimp only))))
local macro_rules | `(tactic| walk_at "exec For Name Call cons nil") => `(tactic| (k_here; refine wpAny_For ?_ (fun _ => rfl)))
local macro_rules | `(tactic| walk_at "pyIter ref") => `(tactic| (k_here; refine wpAny_pyIter_gen (by assumption) ?_))
inductive GenI (out : Nat → Option Int) (zs : List Int) (g2 : Heap) (Lg S : Addr) (vs : List Value) (Ig : Addr) (av : List Addr) (n : Nat) (s₀ s : Shared) : Prop
  | mk (hn : 0 < n) (i : Nat) (last : Option Int) (tl : Tok) (m0 : PySem.Str → Option Value) (oI : Obj) (avo : List (Addr × Obj)) (hF : Fits out (zs.drop i) last n)
      (F : Fr g2 Lg s.heap (fun y => if y = PySem.Str.ofString "last_interval" then some (lastV tl last) else if y = PySem.Str.ofString "grouping" then some (.ref S) else m0 y)) (N : News g2 Lg s.heap ((S, listOf vs.toArray 0) :: (Ig, oI) :: avo))
      (hc : oI.cls = .type "list_iterator") (hd : oI.data = .fields #[.ref S, .int i 0]) (h1 : avo.map (·.1) = av) (h2 : ∀ p ∈ avo, s₀.heap.get? p.1 = some p.2) (hg : s.gens = s₀.gens) (hr : s.drawn = s₀.drawn) (ho : s.os = s₀.os) : GenI out zs g2 Lg S vs Ig av n s₀ s
inductive GenJ (g2 : Heap) (Lg S : Addr) (vs : List Value) (Ig : Addr) (oI' : Obj) (av : List Addr) (c : Int) (n n' : Nat) (s₀' s' : Shared) : Prop
  | mk (h1 : 0 < n') (h2 : n' ≤ n) (tl' : Tok) (m1 : PySem.Str → Option Value) (avo' : List (Addr × Obj)) (F : Fr g2 Lg s'.heap (fun y => if y = PySem.Str.ofString "last_interval" then some (.int c tl') else m1 y))
      (N : News g2 Lg s'.heap ((S, listOf vs.toArray 0) :: (Ig, oI') :: avo')) (h3 : avo'.map (·.1) = av) (h4 : ∀ p ∈ avo', s₀'.heap.get? p.1 = some p.2) (hg : s'.gens = s₀'.gens) (hr : s'.drawn = s₀'.drawn) (ho : s'.os = s₀'.os) : GenJ g2 Lg S vs Ig oI' av c n n' s₀' s'
theorem cut_spec {w : World} (out : Nat → Option Int) (N : Nat) (rest : Int) (t : Tok) (S : Addr) (vs : List Value) (zs : List Int) (hI : IntsAre vs zs) (f r : Int) (hC : CutR out N rest 0 (f, r)) (hF : Fits out zs none N) : CtrG2 w 91 [.int rest t, .ref S] S (listOf vs.toArray 0) f r := by
  unfold CtrG2; (try k_fill)
  intro mg mb mean dp un gd cn cs a ccd cl outer A₀ base h₀ L m news s Q E hB hF0 hX hN0 hT0 hk hd hu hret
  refine wpAny_call ?_; k_dflt cell_enter; k_steps
  rename_i g2 Lc h2 FG2 B2 X2 T2 h3 F3 N3 Lg ag hg tkg Fg Gg Kg lg1 lg2 Fc Nc
  dsimp only at lg1 Kg Gg
  have below : ∀ b o, h3.get? b = some o → b < Lg := fun b o e => Nat.lt_of_lt_of_le (Heap.lt_size e) lg1
  obtain ⟨oLc, _, _, hoLc, _⟩ := F3.ns
  have bs : g2.objs.size ≤ Lg := Nat.le_trans F3.above (Nat.le_of_lt (below _ _ hoLc))
  have hagn : ag ≠ Lc ∧ g2.get? ag = none := ⟨fun e => absurd (below _ _ hoLc) (by rw [← e]; exact Nat.lt_asymm lg2), Heap.get?_none_of_le (Nat.le_trans bs (Nat.le_of_lt lg2))⟩
  have hLgn : Lg ∉ Lc :: ag :: S :: news.map (·.1) := by
    intro hm
    rcases List.mem_cons.mp hm with e | hm
    · exact absurd (below _ _ hoLc) (by rw [e]; exact Nat.lt_irrefl _)
    rcases List.mem_cons.mp hm with e | hm
    · exact absurd lg2 (by rw [e]; exact Nat.lt_irrefl _)
    rcases List.mem_cons.mp hm with e | hm
    · exact absurd (below _ _ (N3 _ (.head _)).1) (by rw [e]; exact Nat.lt_irrefl _)
    obtain ⟨p, hp, e⟩ := List.mem_map.mp hm
    exact absurd (below _ _ (N3 _ (.tail _ hp)).1) (by rw [← e]; exact Nat.lt_irrefl _)
  have havn : ∀ b ∈ Lc :: ag :: S :: news.map (·.1), g2.get? b = none := by
    intro b hm
    rcases List.mem_cons.mp hm with e | hm
    · rw [e]; exact Heap.get?_none_of_le F3.above
    rcases List.mem_cons.mp hm with e | hm
    · rw [e]; exact hagn.2
    rcases List.mem_cons.mp hm with e | hm
    · rw [e]; exact (N3 _ (.head _)).2.2
    obtain ⟨p, hp, e⟩ := List.mem_map.mp hm
    rw [← e]; exact (N3 _ (.tail _ hp)).2.2
  refine' cut_loop (nx := PySem.Str.ofString "size") (nf := PySem.Str.ofString "full") (nr := PySem.Str.ofString "rest") (N := N) (out := out) (f := f) (r := r) (rest := rest) (S := S) ?hh ?hl ?hroom ?hxl ?hp ?turn ?fin hC (fr_split Fc rfl) Nc ?hag Gg ?hgs ?Rd
  case hh => rfl
  case hl => exact T2.nolimit
  case hroom => ktr_room
  case hxl => rfl
  case hp => rfl
  case hgs => exact Array.getElem?_push_size ..
  case hag => exact hagn
  case turn =>
    intro rest full x t1 t2 t3 m0 s1 nw F1 N1
    k_steps
    · exact N1
    · exact Or.inl ⟨by assumption, rfl, _, fr_move (by decide) (by decide) F1⟩
    · k_asm
    · exact Or.inr ⟨by assumption, rfl, _, _, _, by k_asm⟩
  case fin =>
    intro h tk g t1 t2 m0 F1 N1 hb
    dsimp only
    k_steps
    exact hret _ _ _ _ _ _ _ (by k_asm) (by k_asm) (And.right (by assumption)) (fun hs => hb (AllBare.push hs rfl))
  case Rd =>
    show Ready _ _ _ _ _ (Lc :: ag :: S :: news.map (·.1)) _ _ _ _ _
    generalize hav : Lc :: ag :: S :: news.map (·.1) = av at hLgn havn ⊢
    obtain ⟨oLg, esg, epg, hLg, hLg'⟩ := id Fg.ns
    refine ⟨[(Lg, oLg)], ?_, ?_, ?_⟩
    · intro p hp; cases hp with
      | head => exact hLg
      | tail _ h => cases h
    · intro p hp; cases hp with
      | head => exact ⟨hLgn, Heap.get?_none_of_le bs⟩
      | tail _ h => cases h
    · intro hN s2 hal
      obtain ⟨avo, hav1, hav2⟩ := pick hal.av
      have F0 := (⟨Fg.ns.at' fun o e => by rw [hLg] at e; cases e; exact hal.own _ (.head _), hal.base, Fg.above⟩ : Fr _ Lg s2.heap _)
      have hSn : S ≠ Lg := fun e => hLgn (by rw [← e, ← hav]; exact .tail _ (.tail _ (.head _)))
      have N0 : News g2 Lg s2.heap ((S, listOf vs.toArray 0) :: avo) := fun p hp => by
        rcases List.mem_cons.mp hp with rfl | hp
        · exact ⟨hal.src, hSn, (N3 _ (.head _)).2.2⟩
        · have hm : p.1 ∈ av := by rw [← hav1]; exact List.mem_map_of_mem hp
          exact ⟨hav2 p hp, fun e => hLgn (e ▸ hm), havn _ hm⟩
      clear hret Fc Nc hN0 hF0 F3 N3 FG2
      refine ⟨rfl, ?_⟩
      refine seg_func ?_
      refine seg_execs_cons ?_
      refine seg_plain ?_
      k_steps
      dsimp only
      rename Heap => h4
      rename Fr _ Lg _ _ => F1
      rename News _ Lg _ _ => N1
      refine seg_execs_cons ?_
      refine seg_For ?_ (fun _ => rfl)
      refine ld F1 rfl ?_
      refine wpAny_pyIter_list ⟨_, (N1 _ (.head _)).1, rfl, 0, rfl⟩ ?_
      intro p
      dsimp only
      generalize hIg : h4.objs.size = Ig
      have hIgn : Ig ≠ Lg ∧ g2.get? Ig = none ∧ Ig ∉ av := by
        refine ⟨?_, ?_, ?_⟩
        · obtain ⟨o, _, _, ho, _⟩ := F1.ns
          exact fun e => absurd (Heap.lt_size ho) (by rw [hIg, e]; exact Nat.lt_irrefl _)
        · refine Heap.get?_none_of_le ?_
          obtain ⟨o, _, _, ho, _⟩ := F1.ns
          rw [← hIg]
          exact Nat.le_trans bs (Nat.le_of_lt (Heap.lt_size ho))
        · intro hm
          rw [← hav1] at hm
          obtain ⟨q, hq, e⟩ := List.mem_map.mp hm
          exact absurd (Heap.lt_size (N1 _ (.tail _ hq)).1) (by rw [e, hIg]; exact Nat.lt_irrefl _)
      refine seg_induct (I := GenI out zs g2 Lg S vs Ig av) ?_ N s2 _ ?_
      · intro n s₀ s IH hI'
        obtain ⟨hn, i, last, tl, m0, oI, avo, hF, F2, N2, hc, hd', ha1, ha2, hg1, hg2, hg3⟩ := hI'
        have hit : s.heap.IsListIter Ig S i := ⟨oI, (N2 _ (.tail _ (.head _))).1, hc, hd'⟩
        have hls : s.heap.IsList S vs.toArray := ⟨_, (N2 _ (.head _)).1, rfl, 0, rfl⟩
        have hSI : S ≠ Ig := fun e => hIgn.2.2 (by rw [← e, ← hav]; exact .tail _ (.tail _ (.head _)))
        have step : ∀ h', h'.IsListIter Ig S (i + 1) → Heap.SameBut Ig s.heap h' → ∃ oI', oI'.cls = .type "list_iterator" ∧ oI'.data = .fields #[.ref S, .int (i + 1 : Nat) 0] ∧ Fr g2 Lg h' (fun y => if y = PySem.Str.ofString "last_interval" then some (lastV tl last) else if y = PySem.Str.ofString "grouping" then some (.ref S) else m0 y) ∧ News g2 Lg h' ((S, listOf vs.toArray 0) :: (Ig, oI') :: avo) := by
          intro h' hit' hs'
          obtain ⟨oI', e1, e2, e3⟩ := hit'
          refine ⟨oI', e2, e3, fr_same F2 hs' hIgn.1 hIgn.2.1, fun q hq => ?_⟩
          rcases List.mem_cons.mp hq with rfl | hq
          · exact ⟨(hs'.2 _ hSI).trans (N2 _ (.head _)).1, (N2 _ (.head _)).2⟩
          rcases List.mem_cons.mp hq with rfl | hq
          · exact ⟨e1, hIgn.1, hIgn.2.1⟩
          · have hm : q.1 ∈ av := by rw [← ha1]; exact List.mem_map_of_mem hq
            exact ⟨(hs'.2 _ fun e => hIgn.2.2 (e ▸ hm)).trans (N2 _ (.tail _ (.tail _ hq))).1, (N2 _ (.tail _ (.tail _ hq))).2⟩
        have held : ∀ (h5 : Heap) (tk : Nat) (m : PySem.Str → Option Value) {l : List (Addr × Obj)}, Fr g2 Lg h5 m → News g2 Lg h5 ((S, listOf vs.toArray 0) :: l ++ avo) → Held g2 av s₀ { heap := h5, gens := s.gens, drawn := s.drawn, toks := tk, os := s.os } := fun h5 tk m l F N => by
          refine ⟨hg1, hg2, hg3, fun b hb o e => ?_, F.keep⟩
          rw [← ha1] at hb
          obtain ⟨q, hq, rfl⟩ := List.mem_map.mp hb
          have e2 := ha2 q hq
          rw [e] at e2
          cases e2
          exact (N q (List.mem_append_right _ hq)).1
        refine seg_forLoop ?_ (fun _ => rfl)
        generalize hz : zs.drop i = zi at hF
        cases hF with
        | done => exact absurd hn (Nat.lt_irrefl _)
        | ret ho =>
          obtain ⟨tx, hv⟩ := int_at hI hz
          refine wpAny_pyNext_list_item hit hls (by simpa using hv) (fun h' hit' hs' => ⟨_, rfl, ?_⟩)
          obtain ⟨oI', hc', hd'', F3, N3⟩ := step h' hit' hs'
          clear F2 N2 hit hls step
          k_steps
          dsimp only
          refine seg_execs_cons ?_
          refine seg_If ?_
          k_steps
          refine seg_execs_cons ?_
          refine seg_plain ?_
          k_steps
          dsimp only
          rename Fr _ Lg _ _ => F5
          rename News _ Lg _ _ => N5
          refine seg_leaf (.ok (.ret .none)) ?_
          exact seg_end (.ok (.ret .none)) ⟨rfl, ho, held _ _ _ (l := [_]) F5 N5⟩
        | item ho hx1 hx2 hF' =>
          rename_i k x rr
          obtain ⟨tx, hv⟩ := int_at hI hz
          refine wpAny_pyNext_list_item hit hls (by simpa using hv) (fun h' hit' hs' => ⟨_, rfl, ?_⟩)
          obtain ⟨oI', hc', hd'', F3, N3⟩ := step h' hit' hs'
          clear F2 N2 hit hls step
          k_steps
          dsimp only
          refine seg_execs_cons ?_
          refine seg_If ?_
          k_steps
          · exact absurd (by assumption) hx1
          refine seg_execs_nil ?_
          dsimp only
          refine seg_execs_cons ?_
          refine seg_If ?_
          k_steps
          · exact absurd (by assumption) hx2
          refine seg_execs_nil ?_
          dsimp only
          rename Fr _ Lg _ _ => F5
          rename News _ Lg _ _ => N5
          refine seg_execs_cons ?_
          refine seg_Expr_Yield rfl rfl rfl ?_
          refine ld F5 rfl ?_
          intro kap hkap
          obtain ⟨oL5, es5, ep5, hL5, hL5'⟩ := id F5.ns
          refine ⟨x, tx, [(Lg, oL5), (Ig, oI')], ho, rfl, held _ _ _ (l := [_]) F5 N5, ?_, ?_, fun hk0 s3 hal3 => hkap .none s3 ?_⟩
          · intro q hq
            rcases List.mem_cons.mp hq with rfl | hq
            · exact hL5
            rcases List.mem_cons.mp hq with rfl | hq
            · exact (N5 _ (.tail _ (.head _))).1
            · cases hq
          · intro q hq
            rcases List.mem_cons.mp hq with rfl | hq
            · exact ⟨hLgn, Heap.get?_none_of_le bs⟩
            rcases List.mem_cons.mp hq with rfl | hq
            · exact ⟨hIgn.2.2, hIgn.2.1⟩
            · cases hq
          obtain ⟨avo3, hb1, hb2⟩ := pick hal3.av
          have F6 := (⟨F5.ns.at' fun o e => by rw [hL5] at e; cases e; exact hal3.own _ (.head _), hal3.base, F5.above⟩ : Fr _ Lg s3.heap _)
          have N6 : News g2 Lg s3.heap ((S, listOf vs.toArray 0) :: (Ig, oI') :: avo3) := fun q hq => by
            rcases List.mem_cons.mp hq with rfl | hq
            · exact ⟨hal3.src, hSn, (N5 _ (.head _)).2.2⟩
            rcases List.mem_cons.mp hq with rfl | hq
            · exact ⟨hal3.own _ (.tail _ (.head _)), hIgn.1, hIgn.2.1⟩
            · have hm : q.1 ∈ av := by rw [← hb1]; exact List.mem_map_of_mem hq
              exact ⟨hb2 q hq, fun e => hLgn (e ▸ hm), havn _ hm⟩
          clear F5 N5 held hkap
          dsimp only
          refine seg_execs_cons ?_
          refine seg_plain ?_
          k_steps
          dsimp only
          rename Fr _ Lg _ _ => F7
          rename News _ Lg _ _ => N7
          refine seg_execs_nil ?_
          refine seg_again rfl ?_
          refine IH k _ _ (Nat.lt_succ_self k) ⟨hk0, i + 1, some x, tx, fun y => if y = PySem.Str.ofString "interval" then some (.int x tx) else if y = PySem.Str.ofString "last_interval" then some (lastV tl last) else m0 y, oI', avo3, ?_, ?_, N7, hc', hd'', hb1, hb2, rfl, rfl, rfl⟩
          · have e : zs.drop (i + 1) = rr := by rw [← List.tail_drop, hz]; rfl
            rw [e]; exact hF'
          · refine fr_eq F7 (fun y => ?_)
            by_cases q1 : y = PySem.Str.ofString "last_interval"
            · subst q1; simp [lastV]
            by_cases q2 : y = PySem.Str.ofString "grouping"
            · subst q2
              simp only [if_neg q1]
              rw [if_neg (by decide)]
              rfl
            · simp [q1, q2]
        | zero ho =>
          rename_i c rr
          obtain ⟨tx, hv⟩ := int_at hI hz
          refine wpAny_pyNext_list_item hit hls (by simpa using hv) (fun h' hit' hs' => ⟨_, rfl, ?_⟩)
          obtain ⟨oI', hc', hd'', F3, N3⟩ := step h' hit' hs'
          dsimp only [lastV] at F3
          clear F2 N2 hit hls step
          k_steps
          dsimp only
          refine seg_execs_cons ?_
          refine seg_If ?_
          k_steps
          refine seg_execs_nil ?_
          dsimp only
          refine seg_execs_cons ?_
          refine seg_If ?_
          k_steps
          refine seg_execs_cons ?_
          refine seg_If ?_
          k_steps
          refine seg_execs_nil ?_
          dsimp only
          rename Fr _ Lg _ _ => F5
          rename News _ Lg _ _ => N5
          refine seg_execs_cons ?_
          refine seg_While fun p2 => ?_
          refine seg_induct (I := GenJ g2 Lg S vs Ig oI' av c n) ?_ n s₀ _ ?_
          · clear held F5 N5 hg1 hg2 hg3 ha1 ha2 IH
            intro n' s₀' s' IH' hI3
            obtain ⟨hn', hnn, tl', m1, avo', F6, N6, hb1, hb2, hj1, hj2, hj3⟩ := hI3
            obtain ⟨k, rfl⟩ : ∃ k, n' = k + 1 := ⟨n' - 1, by omega⟩
            refine seg_whileLoop ?_
            k_steps
            refine seg_execs_cons ?_
            refine seg_Expr_Yield rfl rfl rfl ?_
            refine ld F6 rfl ?_
            intro kap hkap
            obtain ⟨oL5, es5, ep5, hL5, hL5'⟩ := id F6.ns
            refine ⟨c, tl', [(Lg, oL5), (Ig, oI')], ho _ (Nat.succ_pos k) hnn, rfl, ⟨hj1, hj2, hj3, ?_, F6.keep⟩, ?_, ?_, fun hk0 s3 hal3 => hkap .none s3 ?_⟩
            · intro b hb o e
              rw [← hb1] at hb
              obtain ⟨q, hq, rfl⟩ := List.mem_map.mp hb
              have e2 := hb2 q hq
              rw [e] at e2
              cases e2
              exact (N6 q (.tail _ (.tail _ hq))).1
            · intro q hq
              rcases List.mem_cons.mp hq with rfl | hq
              · exact hL5
              rcases List.mem_cons.mp hq with rfl | hq
              · exact (N6 _ (.tail _ (.head _))).1
              · cases hq
            · intro q hq
              rcases List.mem_cons.mp hq with rfl | hq
              · exact ⟨hLgn, Heap.get?_none_of_le bs⟩
              rcases List.mem_cons.mp hq with rfl | hq
              · exact ⟨hIgn.2.2, hIgn.2.1⟩
              · cases hq
            obtain ⟨avo3, hc1, hc2⟩ := pick hal3.av
            have F7 := (⟨F6.ns.at' fun o e => by rw [hL5] at e; cases e; exact hal3.own _ (.head _), hal3.base, F6.above⟩ : Fr _ Lg s3.heap _)
            have N7 : News g2 Lg s3.heap ((S, listOf vs.toArray 0) :: (Ig, oI') :: avo3) := fun q hq => by
              rcases List.mem_cons.mp hq with rfl | hq
              · exact ⟨hal3.src, hSn, (N6 _ (.head _)).2.2⟩
              rcases List.mem_cons.mp hq with rfl | hq
              · exact ⟨hal3.own _ (.tail _ (.head _)), hIgn.1, hIgn.2.1⟩
              · have hm : q.1 ∈ av := by rw [← hc1]; exact List.mem_map_of_mem hq
                exact ⟨hc2 q hq, fun e => hLgn (e ▸ hm), havn _ hm⟩
            dsimp only
            refine seg_execs_nil ?_
            refine seg_again rfl ?_
            exact IH' k _ _ (Nat.lt_succ_self k) ⟨hk0, by omega, tl', m1, avo3, F7, N7, hc1, hc2, rfl, rfl, rfl⟩
          · refine ⟨hn, Nat.le_refl n, tl, fun y => if y = PySem.Str.ofString "interval" then some (.int 0 tx) else if y = PySem.Str.ofString "grouping" then some (.ref S) else m0 y, avo, fr_eq F5 (fun y => ?_), N5, ha1, ha2, hg1, hg2, hg3⟩
            by_cases q1 : y = PySem.Str.ofString "last_interval"
            · subst q1
              rw [if_neg (by decide), if_pos rfl, if_pos rfl]
            · simp [q1]
      · refine ⟨hN, 0, none, 0, _, { cls := .type "list_iterator", data := .fields #[.ref S, .int 0 0] }, avo, hF, fr_split (F1.push _) rfl, fun q hq => ?_, rfl, rfl, hav1, hav2, rfl, rfl, rfl⟩
        rcases List.mem_cons.mp hq with rfl | hq
        · exact ⟨Heap.get?_push_of_some _ (N1 _ (.head _)).1, (N1 _ (.head _)).2⟩
        rcases List.mem_cons.mp hq with rfl | hq
        · exact ⟨by rw [← hIg]; exact Heap.get?_push_size _ rfl, hIgn.1, hIgn.2.1⟩
        · exact ⟨Heap.get?_push_of_some _ (N1 _ (.tail _ hq)).1, (N1 _ (.tail _ hq)).2⟩
end Mine
end
section
open PySem PySem.W PySem.Calls PyProof.Rows
set_option Elab.async false
set_option maxRecDepth 100000
set_option maxHeartbeats 1000000
namespace Mine
theorem cutR_const {c : Int} (hc : 0 < c) : ∀ (n : Nat) (rest full : Int), 0 ≤ rest → rest < n * c → CutR (fun _ => some c) n rest full (full + rest / c, rest % c)
  | 0, rest, full, h0, h1 => by simp at h1; omega
  | n + 1, rest, full, h0, h1 => by
    by_cases h : rest < c
    · have e1 : rest / c = 0 := Int.ediv_eq_zero_of_lt h0 h
      have e2 : rest % c = rest := Int.emod_eq_of_lt h0 h
      rw [e1, e2, Int.add_zero]
      exact .stop rfl h
    · have hn : rest - c < n * c := by
        have : ((n + 1 : Nat) : Int) * c = n * c + c := by rw [Int.natCast_add, Int.add_mul]; simp
        omega
      have := cutR_const hc n (rest - c) (full + 1) (by omega) hn
      have e1 : (rest - c) / c = rest / c - 1 := by
        have := Int.sub_ediv_of_dvd rest (c := c) (b := c) ⟨1, by simp⟩
        rw [this, Int.ediv_self (by omega)]
      have e2 : (rest - c) % c = rest % c := Int.sub_emod_right rest c
      rw [e1, e2] at this
      have e3 : full + 1 + (rest / c - 1) = full + rest / c := by omega
      rw [e3] at this
      exact .more rfl h this
def cutL : List Int → Int → Int → Int × Int
  | [], rest, full => (full, rest)
  | x :: xs, rest, full => if rest < x then (full, rest) else cutL xs (rest - x) (full + 1)
def outL (ws : List Int) (n : Nat) : Option Int := if n ≤ 1 then none else ws[ws.length + 1 - n]?
theorem outL_cons {ws pre suf : List Int} {x : Int} (e : ws = pre ++ x :: suf) : outL ws (suf.length + 1 + 1) = some x := by
  subst e
  unfold outL
  rw [if_neg (by omega)]
  have : (pre ++ x :: suf).length + 1 - (suf.length + 1 + 1) = pre.length := by rw [List.length_append, List.length_cons]; omega
  rw [this]
  simp
theorem cutR_list {ws : List Int} : ∀ (suf pre : List Int) (rest full : Int), ws = pre ++ suf → CutR (outL ws) (suf.length + 1) rest full (cutL suf rest full)
  | [], pre, rest, full, _ => .fin (n := 0) rfl
  | x :: suf, pre, rest, full, e => by
    unfold cutL
    split
    · rename_i h; exact .stop (outL_cons e) h
    · rename_i h
      exact .more (outL_cons e) h (cutR_list suf (pre ++ [x]) _ _ (by rw [e]; simp))
theorem fits_list {ws : List Int} : ∀ (suf pre : List Int) (last : Option Int), ws = pre ++ suf → (∀ x ∈ suf, x ≠ 127 ∧ x ≠ 0) → Fits (outL ws) (suf ++ [127]) last (suf.length + 1)
  | [], pre, last, _, _ => .ret rfl
  | x :: suf, pre, last, e, h => .item (outL_cons e) (h x (.head _)).1 (h x (.head _)).2 (fits_list suf (pre ++ [x]) _ (by rw [e]; simp) fun y hy => h y (.tail _ hy))
theorem cut_zero {w : World} (c d : Int) (hc : 127 < c) (n : Nat) (t t1 t2 : Tok) (S : Addr) (h0 : 0 ≤ d) (h1 : d < (n + 1 : Nat) * c) :
    CtrG2 w 91 [.int d t, .ref S] S (listOf [Value.int c t1, Value.int 0 t2].toArray 0) (d / c) (d % c) := by
  have h := cutR_const (c := c) (by omega) (n + 1) d 0 h0 h1
  rw [Int.zero_add] at h
  exact @cut_spec w (fun _ => some c) (n + 1) d t S _ [c, 0] (IntsAre.cons c t1 (IntsAre.cons 0 t2 IntsAre.nil)) _ _ h (.item rfl (by omega) (by omega) (.zero fun _ _ _ => rfl))
theorem cut_list {w : World} (ws : List Int) (vs : List Value) (hI : IntsAre vs (ws ++ [127])) (d : Int) (t : Tok) (S : Addr) (hw : ∀ x ∈ ws, x ≠ 127 ∧ x ≠ 0) :
    CtrG2 w 91 [.int d t, .ref S] S (listOf vs.toArray 0) (cutL ws d 0).1 (cutL ws d 0).2 :=
  @cut_spec w (outL ws) (ws.length + 1) d t S vs _ hI _ _ (cutR_list ws [] d 0 rfl) (fits_list ws [] none rfl hw)
end Mine
end
section
open PySem PySem.W PySem.Calls PyProof.Rows
set_option Elab.async false
set_option maxRecDepth 100000
set_option maxHeartbeats 2000000
namespace Mine
def CtrG4 (w : World) (f : Addr) (vs : List Value) (x1 x2 x3 x4 : Int) : Prop :=
  ∀ {mg mb : PySem.Str → Option Value} {mean : ExcName → Option Value} {dp un : Nat} {gd : Option (List Code)} {cn : PySem.Str} {cs : Scope} {a : Addr} {ccd : Value} {cl : List (PySem.Str × Addr)} {outer : List Env} {A₀ : Around} {base h₀ : Heap} {L : Addr} {m : PySem.Str → Option Value} {news : List (Addr × Obj)} {s : Shared} {Q E : Value → Shared → Prop},
    Below A₀ base outer h₀ → Fr h₀ L s.heap m → (hd.heap_39 w.params).In h₀ → News h₀ L s.heap news → Top topProg (looseW hd.view_39 [] ++ (recsOf hd.view_39).map (·.name) ++ (litsOf hd.view_39).map (·.1) ++ (clssOf hd.view_39 (looseW hd.view_39 [])).map (·.name)) mean mg mb h₀ → cs.kind = .function → dp + 16 < recursionLimit → un + 128 < cLine →
    (∀ (D : Addr) (t1 t2 t3 t4 : Tok) (c : Nat) (h : Heap) (tk : Nat) (g : Array GenState), Fr h₀ L h m → News h₀ L h ((D, tup4 x1 x2 x3 x4 t1 t2 t3 t4 c) :: news) → AllLt D news → (AllBare s.gens → AllBare g) → Q (.ref D) { s with heap := h, gens := g, toks := tk }) →
    wpAny (model PySem.Challenge.rw_xn0004_01.row.prog w) (ktrTop dp un gd cn cs L a ccd cl outer) (call (.ref f) vs) Q E s
def cHun (x : Int) : Int × Int := cutL [36524, 36524, 36524] x 0
def cOne (x : Int) : Int × Int := cutL [365, 365, 365] x 0
def cMon (x : Int) : Int × Int := cutL [31, 30, 31, 30, 31, 31, 30, 31, 30, 31, 31] x 0
theorem cut_age {w : World} (d : Int) (t t1 t2 : Tok) (S : Addr) (h0 : 0 ≤ d) (h1 : d < 3652365) : CtrG2 w 91 [.int d t, .ref S] S (listOf [Value.int 146097 t1, Value.int 0 t2].toArray 0) (d / 146097) (d % 146097) :=
  @cut_zero w 146097 d (by decide) 29 t t1 t2 S h0 (by omega)
theorem cut_four {w : World} (d : Int) (t t1 t2 : Tok) (S : Addr) (h0 : 0 ≤ d) (h1 : d < 36525) : CtrG2 w 91 [.int d t, .ref S] S (listOf [Value.int 1461 t1, Value.int 0 t2].toArray 0) (d / 1461) (d % 1461) :=
  @cut_zero w 1461 d (by decide) 29 t t1 t2 S h0 (by omega)
theorem cut_hun {w : World} (d : Int) (t t1 t2 t3 t4 : Tok) (S : Addr) : CtrG2 w 91 [.int d t, .ref S] S (listOf [Value.int 36524 t1, Value.int 36524 t2, Value.int 36524 t3, Value.int 127 t4].toArray 0) (cHun d).1 (cHun d).2 :=
  @cut_list w [36524, 36524, 36524] _ (by first | exact .cons _ _ (.cons _ _ (.cons _ _ (.cons _ _ .nil)))) d t S (by decide)
theorem cut_one {w : World} (d : Int) (t t1 t2 t3 t4 : Tok) (S : Addr) : CtrG2 w 91 [.int d t, .ref S] S (listOf [Value.int 365 t1, Value.int 365 t2, Value.int 365 t3, Value.int 127 t4].toArray 0) (cOne d).1 (cOne d).2 :=
  @cut_list w [365, 365, 365] _ (by first | exact .cons _ _ (.cons _ _ (.cons _ _ (.cons _ _ .nil)))) d t S (by decide)
theorem cut_mon {w : World} (d : Int) (t t1 t2 t3 t4 t5 t6 t7 t8 t9 t10 t11 t12 : Tok) (S : Addr) : CtrG2 w 91 [.int d t, .ref S] S (listOf [Value.int 31 t1, Value.int 30 t2, Value.int 31 t3, Value.int 30 t4, Value.int 31 t5, Value.int 31 t6, Value.int 30 t7, Value.int 31 t8, Value.int 30 t9, Value.int 31 t10, Value.int 31 t11, Value.int 127 t12].toArray 0) (cMon d).1 (cMon d).2 :=
  @cut_list w [31, 30, 31, 30, 31, 31, 30, 31, 30, 31, 31] _ (by first | exact .cons _ _ (.cons _ _ (.cons _ _ (.cons _ _ (.cons _ _ (.cons _ _ (.cons _ _ (.cons _ _ (.cons _ _ (.cons _ _ (.cons _ _ (.cons _ _ .nil)))))))))))) d t S (by decide)
theorem cHun_fst (x : Int) : (cHun x).1 = if x < 36524 then 0 else if x < 73048 then 1 else if x < 109572 then 2 else 3 := by
  unfold cHun
  simp only [cutL]
  repeat' split
  all_goals first | rfl | omega
theorem cHun_snd (x : Int) : (cHun x).2 = x - 36524 * (cHun x).1 := by
  rw [cHun_fst]; unfold cHun
  simp only [cutL]
  repeat' split
  all_goals first | rfl | (dsimp only; omega) | omega
theorem cOne_fst (x : Int) : (cOne x).1 = if x < 365 then 0 else if x < 730 then 1 else if x < 1095 then 2 else 3 := by
  unfold cOne
  simp only [cutL]
  repeat' split
  all_goals first | rfl | omega
theorem cOne_snd (x : Int) : (cOne x).2 = x - 365 * (cOne x).1 := by
  rw [cOne_fst]; unfold cOne
  simp only [cutL]
  repeat' split
  all_goals first | rfl | (dsimp only; omega) | omega
end Mine
end
section
open PySem PySem.W PySem.Calls PyProof.Rows
set_option Elab.async false
set_option maxRecDepth 100000
set_option maxHeartbeats 2000000
namespace Mine
theorem hun_lo {x : Int} (h0 : 0 ≤ x) (h1 : x < 146097) : 0 ≤ (cHun x).2 := by
  rw [cHun_snd, cHun_fst]; repeat' split
  all_goals omega
theorem hun_hi {x : Int} (h0 : 0 ≤ x) (h1 : x < 146097) : (cHun x).2 < 36525 := by
  rw [cHun_snd, cHun_fst]; repeat' split
  all_goals omega
local macro_rules | `(tactic| walk_at "call ref") => `(tactic| (k_here; (with_reducible show wpAny _ _ (call (Value.ref 91) [_, _]) _ _ _); k_dflt ((first | refine cut_age _ _ _ _ _ (by omega) (by omega) (by k_asm) (by k_asm) (by k_asm) (by k_asm) (by k_asm) (by first | assumption | exact rfl) (by ktr_room) (by ktr_units) ?_ | refine cut_hun _ _ _ _ _ _ _ (by k_asm) (by k_asm) (by k_asm) (by k_asm) (by k_asm) (by first | assumption | exact rfl) (by ktr_room) (by ktr_units) ?_ | refine cut_four _ _ _ _ _ (hun_lo (by omega) (by omega)) (hun_hi (by omega) (by omega)) (by k_asm) (by k_asm) (by k_asm) (by k_asm) (by k_asm) (by first | assumption | exact rfl) (by ktr_room) (by ktr_units) ?_ | refine cut_one _ _ _ _ _ _ _ (by k_asm) (by k_asm) (by k_asm) (by k_asm) (by k_asm) (by first | assumption | exact rfl) (by ktr_room) (by ktr_units) ?_ | refine cut_mon _ _ _ _ _ _ _ _ _ _ _ _ _ _ _ (by k_asm) (by k_asm) (by k_asm) (by k_asm) (by k_asm) (by first | assumption | exact rfl) (by ktr_room) (by ktr_units) ?_); intro D9 t91 t92 c9 h9 tk9 g9 F9 N9 l9 b9; (try dsimp only))))
theorem news_drop2' {h₀ h : Heap} {L : Addr} {a b : Addr × Obj} {r : List (Addr × Obj)} (N : News h₀ L h (a :: b :: r)) : News h₀ L h (a :: r) := fun p hp => by
  rcases List.mem_cons.mp hp with rfl | hp
  · exact N _ (.head _)
  · exact N _ (.tail _ (.tail _ hp))
theorem imp_of {p q : Prop} (h : p → q) (hp : p) : q := h hp
def gHun (d : Int) : Int := (cHun (d % 146097)).1
def gFour (d : Int) : Int := (cHun (d % 146097)).2 / 1461
def gOne (d : Int) : Int := (cOne ((cHun (d % 146097)).2 % 1461)).1
def gIn (d : Int) : Int := (cOne ((cHun (d % 146097)).2 % 1461)).2
def gMon (d : Int) : Int := (cMon (gIn d)).1
def gPlace (d : Int) : Int := (cMon (gIn d)).2
theorem groups_spec {w : World} (d : Int) (t : Tok) (h0 : 0 ≤ d) (h1 : d < 3652365) : CtrG4 w 98 [.int d t] (400 * (d / 146097) + 100 * gHun d + 4 * gFour d + gOne d) (gMon d + 3) (gPlace d) ((2 + 5 * gHun d + 5 * gFour d + gOne d + gIn d).fmod 7) := by
  unfold CtrG4; (try k_fill); intros; rename_i hret; refine wpAny_call ?_; k_dflt cell_enter; k_steps
  have hl : AllLt _ _ := (show _ ∧ _ ∧ _ ∧ _ ∧ _ ∧ _ ∧ _ ∧ _ ∧ _ ∧ _ ∧ _ from by assumption).2.2.2.2.2.2.2.2.2.2
  refine hret _ _ _ _ _ _ _ _ _ (by k_asm) (news_drop2' (news_drop2' (news_drop2' (news_drop2' (news_drop2' (news_drop2' (news_drop2' (news_drop2' (news_drop2' (news_drop2' (by with_unfolding_all k_asm))))))))))) hl (fun hs => ?_)
  iterate 5 (refine' imp_of ?k1 ?_; (case k1 => assumption))
  exact hs
end Mine
end
section
open PySem PySem.W PySem.Calls PyProof.Rows
set_option Elab.async false
set_option maxRecDepth 100000
set_option maxHeartbeats 1000000
namespace Mine
theorem news_same {base h h' : Heap} {L I : Addr} {news : List (Addr × Obj)} (N : News base L h news) (hs : Heap.SameBut I h h') (h1 : ∀ p ∈ news, p.1 ≠ I) : News base L h' news := fun p hp =>
  ⟨(hs.2 _ (h1 p hp)).trans (N p hp).1, (N p hp).2⟩
theorem fr_ext {base h h' : Heap} {L I : Addr} {m : PySem.Str → Option Value} (F : Fr base L h m) (hs : Heap.ExtBut I h h') (h1 : I ≠ L) (h2 : base.get? I = none) : Fr base L h' m :=
  ⟨F.ns.at' fun o e => hs L o (Ne.symm h1) e, fun b o e => hs b o (fun q => by rw [q, h2] at e; cases e) (F.keep b o e), F.above⟩
theorem news_ext {base h h' : Heap} {L I : Addr} {news : List (Addr × Obj)} (N : News base L h news) (hs : Heap.ExtBut I h h') (h1 : ∀ p ∈ news, p.1 ≠ I) : News base L h' news := fun p hp =>
  ⟨hs _ _ (h1 p hp) (N p hp).1, (N p hp).2⟩
theorem ints_get {vs : List Value} {ns : List Int} (h : IntsAre vs ns) : ∀ {i : Nat}, i < ns.length → ∃ x t, vs[i]? = some (.int x t) ∧ ns[i]? = some x := by
  induction h with
  | nil => intro i hi; simp at hi
  | cons =>
    rename_i ih
    intro i hi
    cases i with
    | zero => exact ⟨_, _, rfl, rfl⟩
    | succ i => exact ih (by simpa using hi)
inductive LawI (mk : Array Value → Nat → Array Value → Nat → List (Addr × Obj)) (Rel : List Int → Array Value → Array Value → Prop) (base : Heap) (L I D : Addr) (ns : List Int) (s0 : Shared) (n : Nat) : Shared → Prop
  | mk (i : Nat) (am al : Array Value) (nm nl : Nat) (m0 : PySem.Str → Option Value) (it : Obj) (h : Heap) (tk : Nat) (g : Array GenState) (hni : n + i = ns.length) (hR : Rel (ns.take i) am al) (F : Fr base L h m0) (N : News base L h ((I, it) :: mk am nm al nl))
      (hc : it.cls = .type "list_iterator") (hd : it.data = .fields #[.ref D, .int i 0]) (hb : AllBare s0.gens → AllBare g) : LawI mk Rel base L I D ns s0 n { s0 with heap := h, toks := tk, gens := g }
theorem law_loop {prog : Program} {w : World} {A : Around} {env : Env} {base : Heap} {nx : PySem.Str} {px : Pos} {body : List Stmt} {R : Result → Shared → Prop} {E : Value → Shared → Prop} {D : Addr} {vs : List Value} {ns : List Int} {s0 : Shared} {m0 : PySem.Str → Option Value}
  (mk : Array Value → Nat → Array Value → Nat → List (Addr × Obj)) (Rel : List Int → Array Value → Array Value → Prop) {am al : Array Value} {nm nl : Nat}
  (hh : A.handled = none) (hxl : env.kindOf nx = some .local) (hp : (env.scope.kind == .class || (env.scope.kind == .module && env.locals != env.globals)) = false)
  (hI : IntsAre vs ns) (hD : ∀ a b c d, (D, listOf vs.toArray 0) ∈ mk a b c d) (hadr : ∀ a b c d, (mk a b c d).map (·.1) = (mk am nm al nl).map (·.1))
  (F : Fr base env.locals s0.heap m0) (N : News base env.locals s0.heap (mk am nm al nl)) (hR : Rel [] am al)
  (turn : ∀ (x : Int) (t : Tok) (pre : List Int) (am al : Array Value) (nm nl : Nat) (m0 : PySem.Str → Option Value) (I : Addr) (it : Obj) (s1 : Shared), Rel pre am al → pre.length < ns.length → it.cls = .type "list_iterator" → (∀ p ∈ mk am nm al nl, p.1 < I) →
    Fr base env.locals s1.heap (fun y => if y = nx then some (.int x t) else m0 y) → News base env.locals s1.heap ((I, it) :: mk am nm al nl) →
    wpAny (model prog w) A (execs body env) (fun fl s3 => ∃ (h : Heap) (tk : Nat) (g : Array GenState) (m0' : PySem.Str → Option Value) (am' al' : Array Value) (nm' nl' : Nat), fl = .next ∧ s3 = { s1 with heap := h, toks := tk, gens := g } ∧ (AllBare s1.gens → AllBare g) ∧
      Fr base env.locals h m0' ∧ News base env.locals h ((I, it) :: mk am' nm' al' nl') ∧ Rel (pre ++ [x]) am' al') (fun _ _ => False) s1)
  (fin : ∀ (h : Heap) (tk : Nat) (g : Array GenState) (m0 : PySem.Str → Option Value) (am al : Array Value) (nm nl : Nat), Rel ns am al → Fr base env.locals h m0 → News base env.locals h (mk am nm al nl) → (AllBare s0.gens → AllBare g) → R (.ok .next) { s0 with heap := h, toks := tk, gens := g }) :
  wpAny (model prog w) A (pyIter (.ref D)) (fun it s₂ => codeAny (model prog w) A (.forLoop (.Name nx px) it body [] env) R s₂) E s0 := by
  have hls : ∀ {h : Heap} {a b c d}, News base env.locals h (mk a b c d) → h.IsList D vs.toArray := fun N => ⟨_, (N _ (hD _ _ _ _)).1, rfl, 0, rfl⟩
  refine wpAny_pyIter_list (hls N) ?_
  generalize hIg : s0.heap.objs.size = I
  have hIn : I ≠ env.locals ∧ base.get? I = none := by
    obtain ⟨o, _, _, ho, _⟩ := F.ns
    refine ⟨fun e => absurd (Heap.lt_size ho) (by rw [hIg, e]; exact Nat.lt_irrefl _), Heap.get?_none_of_le ?_⟩
    rw [← hIg]; exact Nat.le_trans F.above (Nat.le_of_lt (Heap.lt_size ho))
  have off : ∀ a b c d, ∀ p ∈ mk a b c d, p.1 ≠ I := by
    intro a b c d p hp e
    have hm : p.1 ∈ (mk am nm al nl).map (·.1) := by rw [← hadr a b c d]; exact List.mem_map_of_mem hp
    obtain ⟨q, hq, e2⟩ := List.mem_map.mp hm
    exact absurd (Heap.lt_size (N q hq).1) (by rw [e2, e, hIg]; exact Nat.lt_irrefl _)
  have hlen : vs.length = ns.length := hI.length
  have lts : ∀ a b c d, ∀ p ∈ mk a b c d, p.1 < I := by
    intro a b c d p hp
    have hm : p.1 ∈ (mk am nm al nl).map (·.1) := by rw [← hadr a b c d]; exact List.mem_map_of_mem hp
    obtain ⟨q, hq, e2⟩ := List.mem_map.mp hm
    rw [← e2, ← hIg]; exact Heap.lt_size (N q hq).1
  refine codeAny_forLoop (LawI mk Rel base env.locals I D ns s0) ?_ ns.length
      (.mk 0 am al nm nl m0 { cls := .type "list_iterator", data := .fields #[.ref D, .int ((0 : Nat) : Int) 0] } _ s0.toks s0.gens rfl hR (F.push _) (fun p hp => ?_) rfl rfl (fun x => x))
  rotate_left
  · rcases List.mem_cons.mp hp with rfl | hp
    · exact ⟨by rw [← hIg]; exact Heap.get?_push_size _ rfl, hIn⟩
    · exact ⟨Heap.get?_push_of_some _ (N p hp).1, (N p hp).2⟩
  rintro n s' ⟨i, am, al, nm, nl, m0, it, h, tk, g, hni, hR, F, N, hc, hd, hb⟩
  have N0 : News base env.locals h (mk am nm al nl) := fun p hp => N p (.tail _ hp)
  have hit : h.IsListIter I D i := ⟨it, (N _ (.head _)).1, hc, hd⟩
  by_cases hi : i < ns.length
  · obtain ⟨x, t, hx, hn⟩ := ints_get hI hi
    refine wpAny_pyNext_list_item hit (hls N0) (by simpa using hx) ?_
    rintro h1 ⟨it1, e1, e2, e3⟩ hs1
    have F1 := fr_same F hs1 hIn.1 hIn.2
    have N1 := news_same N0 hs1 (off _ _ _ _)
    dsimp only
    refine wpAny_assign_Name (wpAny_storeName_local hxl F1.ns (fun h2 hn2 hs2 => ?_) hp)
    have F2 := F1.set hn2 hs2
    have N2 : News base env.locals h2 ((I, it1) :: mk am nm al nl) := by
      intro p hp'
      rcases List.mem_cons.mp hp' with rfl | hp'
      · exact ⟨(hs2.2 _ hIn.1).trans e1, hIn⟩
      · exact ⟨(hs2.2 _ (N1 p hp').2.1).trans (N1 p hp').1, (N1 p hp').2⟩
    refine wpAny_mono (turn x t (ns.take i) am al nm nl m0 I it1 _ hR (by rw [List.length_take]; omega) e2 (lts _ _ _ _) F2 N2) (fun fl s3 hq => ?_) fun _ _ e => e.elim
    obtain ⟨h3, tk3, g3, m3, am3, al3, nm3, nl3, rfl, rfl, hb3, F3, N3, hR3⟩ := hq
    refine ⟨n - 1, by omega, .mk (i + 1) am3 al3 nm3 nl3 m3 it1 h3 tk3 g3 (by omega) ?_ F3 N3 e2 e3 fun q => hb3 (hb q)⟩
    rw [List.take_succ, hn]
    exact hR3
  · have hx : vs.toArray[i]? = none := by simp; omega
    refine wpAny_pyNext_list_end hh hit (hls N0) hx ?_
    intro h1 hs1
    have e : ns.take i = ns := List.take_of_length_le (by omega)
    rw [e] at hR
    exact wpAny_pure (fin _ _ _ _ _ _ _ _ hR (fr_ext F hs1 hIn.1 hIn.2) (news_ext N0 hs1 (off _ _ _ _)) hb)
def mkL (D : Addr) (vs : List Value) (Ll Lm : Addr) (x4 x5 x6 : Addr × Obj) (am : Array Value) (nm : Nat) (al : Array Value) (nl : Nat) : List (Addr × Obj) := [(D, listOf vs.toArray 0), (Ll, listOf al nl), (Lm, listOf am nm), x4, x5, x6]
theorem law_for {prog : Program} {w : World} {A : Around} {env : Env} {base : Heap} {nx : PySem.Str} {px : Pos} {body : List Stmt} {R : Result → Shared → Prop} {E : Value → Shared → Prop} {D Ll Lm : Addr} {vs : List Value} {ns : List Int} {s0 : Shared} {m0 : PySem.Str → Option Value} {x1 x2 x3 x4 x5 x6 : Addr × Obj}
  (Rel : List Int → Array Value → Array Value → Prop)
  (hh : A.handled = none) (hxl : env.kindOf nx = some .local) (hp : (env.scope.kind == .class || (env.scope.kind == .module && env.locals != env.globals)) = false)
  (hI : IntsAre vs ns)
  (F : Fr base env.locals s0.heap m0) (N : News base env.locals s0.heap [(D, listOf vs.toArray 0), x1, x2, x3, (Ll, listOf #[] 0), (Lm, listOf #[] 0), x4, x5, x6]) (hR : Rel [] #[] #[])
  (turn : ∀ (x : Int) (t : Tok) (pre : List Int) (am al : Array Value) (nm nl : Nat) (m0 : PySem.Str → Option Value) (I : Addr) (it : Obj) (s1 : Shared), Rel pre am al → pre.length < ns.length → it.cls = .type "list_iterator" → (∀ p ∈ [(D, listOf vs.toArray 0), (Ll, listOf al nl), (Lm, listOf am nm), x4, x5, x6], p.1 < I) →
    Fr base env.locals s1.heap (fun y => if y = nx then some (.int x t) else m0 y) → News base env.locals s1.heap [(I, it), (D, listOf vs.toArray 0), (Ll, listOf al nl), (Lm, listOf am nm), x4, x5, x6] →
    wpAny (model prog w) A (execs body env) (fun fl s3 => ∃ (h : Heap) (tk : Nat) (g : Array GenState) (m0' : PySem.Str → Option Value) (am' al' : Array Value) (nm' nl' : Nat), fl = .next ∧ s3 = { s1 with heap := h, toks := tk, gens := g } ∧ (AllBare s1.gens → AllBare g) ∧
      Fr base env.locals h m0' ∧ News base env.locals h [(I, it), (D, listOf vs.toArray 0), (Ll, listOf al' nl'), (Lm, listOf am' nm'), x4, x5, x6] ∧ Rel (pre ++ [x]) am' al') (fun _ _ => False) s1)
  (fin : ∀ (h : Heap) (tk : Nat) (g : Array GenState) (m0 : PySem.Str → Option Value) (am al : Array Value) (nm nl : Nat), Rel ns am al → Fr base env.locals h m0 → News base env.locals h [(Ll, listOf al nl), (Lm, listOf am nm), x4, x5, x6] → (AllBare s0.gens → AllBare g) → R (.ok .next) { s0 with heap := h, toks := tk, gens := g }) :
  wpAny (model prog w) A (pyIter (.ref D)) (fun it s₂ => codeAny (model prog w) A (.forLoop (.Name nx px) it body [] env) R s₂) E s0 := by
  refine law_loop (mkL D vs Ll Lm x4 x5 x6) Rel (am := #[]) (al := #[]) (nm := 0) (nl := 0) hh hxl hp hI (fun _ _ _ _ => .head _) (fun _ _ _ _ => rfl) F (fun p hp => ?_) hR turn (fun h tk g m0 am al nm nl hR F N hb => fin h tk g m0 am al nm nl hR F (fun p hp => N p (.tail _ hp)) hb)
  rcases List.mem_cons.mp hp with rfl | hp
  · exact N _ (.head _)
  · exact N _ (.tail _ (.tail _ (.tail _ (.tail _ hp))))
end Mine
end
section
open PySem PySem.W PySem.Calls PyProof.Rows
set_option Elab.async false
set_option maxRecDepth 100000
set_option maxHeartbeats 2000000
namespace Mine
def yC (d : Int) : Int := civY (yearP d) (monthP d)
def mC (d : Int) : Int := civM (monthP d)
theorem hun_at {r : Int} (h0 : 0 ≤ r) (h1 : r < 146097) : 0 ≤ (cHun r).1 ∧ (cHun r).1 ≤ 3 ∧ 0 ≤ (cHun r).2 ∧ (cHun r).2 < 36525 ∧ ((cHun r).1 < 3 → (cHun r).2 < 36524) ∧ r = 36524 * (cHun r).1 + (cHun r).2 := by
  have e := cHun_fst r
  have f := cHun_snd r
  generalize (cHun r).1 = a at *
  generalize (cHun r).2 = b at *
  repeat' split at e
  all_goals omega
theorem one_at {r : Int} (h0 : 0 ≤ r) (h1 : r < 1461) : 0 ≤ (cOne r).1 ∧ (cOne r).1 ≤ 3 ∧ 0 ≤ (cOne r).2 ∧ (cOne r).2 < 366 ∧ ((cOne r).1 < 3 → (cOne r).2 < 365) ∧ r = 365 * (cOne r).1 + (cOne r).2 := by
  have e := cOne_fst r
  have f := cOne_snd r
  generalize (cOne r).1 = a at *
  generalize (cOne r).2 = b at *
  repeat' split at e
  all_goals omega
theorem ar1 {d h x : Int} (g0 : 0 ≤ h) (g1 : h ≤ 3) (x0 : 0 ≤ x) (k : x < 36525) (k3 : h < 3 → x < 36524) (e : d % 146097 = 36524 * h + x) : (4 * d + 3) / 146097 = 4 * (d / 146097) + h := by omega
theorem ar2 {d h x : Int} (e : d % 146097 = 36524 * h + x) (q : (4 * d + 3) / 146097 = 4 * (d / 146097) + h) : (4 * d + 3) % 146097 = 4 * x + 3 - h := by omega
theorem ar3 {h x : Int} (g0 : 0 ≤ h) (g1 : h ≤ 3) : 4 * ((4 * x + 3 - h) / 4) + 3 = 4 * x + 3 := by omega
theorem ar4 {x f o n : Int} (e : x = 1461 * f + (365 * o + n)) (g0 : 0 ≤ o) (g1 : o ≤ 3) (n0 : 0 ≤ n) (k : n < 366) (k3 : o < 3 → n < 365) : (4 * x + 3) / 1461 = 4 * f + o := by omega
theorem ar5 {x f o n : Int} (e : x = 1461 * f + (365 * o + n)) (q : (4 * x + 3) / 1461 = 4 * f + o) : (4 * x + 3) % 1461 = 4 * n + 3 - o := by omega
theorem ar6 {o n : Int} (g0 : 0 ≤ o) (g1 : o ≤ 3) : (4 * n + 3 - o) / 4 = n := by omega
theorem ar7 (x : Int) : x = 1461 * (x / 1461) + x % 1461 := (Int.mul_ediv_add_emod x 1461).symm
theorem ar8 {d h x f o n : Int} (e : d % 146097 = 36524 * h + x) (e2 : x = 1461 * f + (365 * o + n)) : d = 146097 * (d / 146097) + 36524 * h + 1461 * f + 365 * o + n := by omega
theorem ar9 {d : Int} (h0 : 0 ≤ d) (h1 : d < 3652365) : 0 ≤ d / 146097 ∧ d / 146097 ≤ 24 := by omega
theorem ar10 {x : Int} (h0 : 0 ≤ x) (h1 : x < 36525) : 0 ≤ x / 1461 ∧ x / 1461 ≤ 24 := by omega
theorem ar11 (c a f o h : Int) (e : c = 4 * a + h) : 100 * c + (4 * f + o) = 400 * a + 100 * h + 4 * f + o := by omega
/-- the parts of a day's number -/
theorem parts {d : Int} (h0 : 0 ≤ d) (h1 : d < 3652365) : ∃ a h f o n : Int, a = d / 146097 ∧ h = gHun d ∧ f = gFour d ∧ o = gOne d ∧ n = gIn d ∧ d = 146097 * a + 36524 * h + 1461 * f + 365 * o + n ∧
    0 ≤ a ∧ a ≤ 24 ∧ 0 ≤ h ∧ h ≤ 3 ∧ 0 ≤ f ∧ f ≤ 24 ∧ 0 ≤ o ∧ o ≤ 3 ∧ 0 ≤ n ∧ n ≤ 365 ∧ (o < 3 → n < 365) ∧ 1461 * f + 365 * o + n < 36525 ∧ (h < 3 → 1461 * f + 365 * o + n < 36524) ∧
    yearP d = 400 * a + 100 * h + 4 * f + o ∧ lastP d = 2141 * n + 197913 := by
  obtain ⟨p1, p2, p3, p4, p5, p6⟩ := hun_at (r := d % 146097) (Int.emod_nonneg _ (by decide)) (Int.emod_lt_of_pos _ (by decide))
  obtain ⟨q1, q2, q3, q4, q5, q6⟩ := one_at (r := (cHun (d % 146097)).2 % 1461) (Int.emod_nonneg _ (by decide)) (Int.emod_lt_of_pos _ (by decide))
  refine ⟨_, _, _, _, _, rfl, rfl, rfl, rfl, rfl, ?_⟩
  unfold gHun gFour gOne gIn
  have e7 := ar7 (cHun (d % 146097)).2
  rw [q6] at e7
  have t2 := ar1 p1 p2 p3 p4 p5 p6
  have t1 : thenP d = 4 * (cHun (d % 146097)).2 + 3 := by unfold thenP; rw [ar2 p6 t2]; exact ar3 p1 p2
  have t3 := ar4 e7 q1 q2 q3 q4 q5
  have e7' := e7.trans (Int.add_assoc _ _ _).symm
  refine ⟨ar8 p6 e7, (ar9 h0 h1).1, (ar9 h0 h1).2, p1, p2, (ar10 p3 p4).1, (ar10 p3 p4).2, q1, q2, q3, Int.le_of_lt_add_one q4, q5, ?_, ?_, ?_, ?_⟩
  · rw [← e7']; exact p4
  · rw [← e7']; exact p5
  · unfold yearP; rw [t1, t3]; exact ar11 _ _ _ _ _ t2
  · unfold lastP; rw [t1, ar5 e7 t3, ar6 q1 q2]
theorem mon_fin : ∀ n : Fin 366, (cMon (n.val : Int)).1 + 3 = (2141 * (n.val : Int) + 197913) / 65536 ∧ (cMon (n.val : Int)).2 = ((2141 * (n.val : Int) + 197913) % 65536) / 2141 ∧
    3 ≤ (2141 * (n.val : Int) + 197913) / 65536 ∧ (2141 * (n.val : Int) + 197913) / 65536 ≤ 14 ∧ ((2141 * (n.val : Int) + 197913) % 65536) / 2141 ≤ 30 ∧
    (12 < (2141 * (n.val : Int) + 197913) / 65536 ↔ 306 ≤ (n.val : Int)) ∧
    aheadI (civM ((2141 * (n.val : Int) + 197913) / 65536) - 1) + ((2141 * (n.val : Int) + 197913) % 65536) / 2141 = (n.val : Int) := by decide +kernel
theorem mon_all {n : Int} (h0 : 0 ≤ n) (h1 : n ≤ 365) : (cMon n).1 + 3 = (2141 * n + 197913) / 65536 ∧ (cMon n).2 = ((2141 * n + 197913) % 65536) / 2141 ∧
    3 ≤ (2141 * n + 197913) / 65536 ∧ (2141 * n + 197913) / 65536 ≤ 14 ∧ ((2141 * n + 197913) % 65536) / 2141 ≤ 30 ∧
    (12 < (2141 * n + 197913) / 65536 ↔ 306 ≤ n) ∧
    aheadI (civM ((2141 * n + 197913) / 65536) - 1) + ((2141 * n + 197913) % 65536) / 2141 = n := by
  have h := mon_fin ⟨n.toNat, by omega⟩
  have e : ((n.toNat : Nat) : Int) = n := by omega
  dsimp only at h
  rw [e] at h
  exact h
theorem year_eq {d : Int} (h0 : 0 ≤ d) (h1 : d < 3652365) : 400 * (d / 146097) + 100 * gHun d + 4 * gFour d + gOne d = yearP d := by
  obtain ⟨a, h, f, o, n, ea, eh, ef, eo, en, ed, a0, a1, g0, g1, f0, f1, o0, o1, n0, n1, k1, k2, k3, ey, el⟩ := parts h0 h1
  rw [← ea, ← eh, ← ef, ← eo, ey]
theorem month_eq {d : Int} (h0 : 0 ≤ d) (h1 : d < 3652365) : gMon d + 3 = monthP d := by
  obtain ⟨a, h, f, o, n, ea, eh, ef, eo, en, ed, a0, a1, g0, g1, f0, f1, o0, o1, n0, n1, k1, k2, k3, ey, el⟩ := parts h0 h1
  unfold gMon monthP
  rw [← en, el]
  exact (mon_all n0 n1).1
theorem place_eq {d : Int} (h0 : 0 ≤ d) (h1 : d < 3652365) : gPlace d = placeP d := by
  obtain ⟨a, h, f, o, n, ea, eh, ef, eo, en, ed, a0, a1, g0, g1, f0, f1, o0, o1, n0, n1, k1, k2, k3, ey, el⟩ := parts h0 h1
  unfold gPlace placeP
  rw [← en, el]
  exact (mon_all n0 n1).2.1
theorem week_ar (a h f o n : Int) : (2 + 5 * h + 5 * f + o + n) % 7 = (146097 * a + 36524 * h + 1461 * f + 365 * o + n + 2) % 7 := by omega
theorem week_eq {d : Int} (h0 : 0 ≤ d) (h1 : d < 3652365) : (2 + 5 * gHun d + 5 * gFour d + gOne d + gIn d).fmod 7 = weekP d := by
  obtain ⟨a, h, f, o, n, ea, eh, ef, eo, en, ed, -⟩ := parts h0 h1
  unfold weekP
  rw [← eh, ← ef, ← eo, ← en, Int.fmod_eq_emod_of_nonneg _ (by decide), ed]
  exact week_ar a h f o n
theorem yr_top {a h f o n : Int} (a1 : a ≤ 24) (g1 : h ≤ 3) (f1 : f ≤ 24) (o1 : o ≤ 3) (hd : 146097 * a + 36524 * h + 1461 * f + 365 * o + n < 3652365) (hn : 306 ≤ n) : 400 * a + 100 * h + 4 * f + o < 9999 := by omega
theorem yr_bnd {a h f o : Int} (a0 : 0 ≤ a) (a1 : a ≤ 24) (g0 : 0 ≤ h) (g1 : h ≤ 3) (f0 : 0 ≤ f) (f1 : f ≤ 24) (o0 : 0 ≤ o) (o1 : o ≤ 3) : 0 ≤ 400 * a + 100 * h + 4 * f + o ∧ 400 * a + 100 * h + 4 * f + o < 10000 := by omega
theorem civ_bnd {y mo : Int} (y0 : 0 ≤ y) (y1 : y < 10000) (y2 : 12 < mo → y < 9999) (m3 : 3 ≤ mo) (m4 : mo ≤ 14) : 0 ≤ civY y mo ∧ civY y mo < 10000 ∧ 1 ≤ civM mo ∧ civM mo ≤ 12 := by
  unfold civY civM
  by_cases b : 12 < mo
  · rw [if_pos b, if_pos b]
    have := y2 b
    omega
  · rw [if_neg b, if_neg b]
    omega
theorem civ_back {y mo : Int} (m3 : 3 ≤ mo) (m4 : mo ≤ 14) : civY y mo - (if civM mo - 1 < 2 then 1 else 0) = y := by
  unfold civY civM
  by_cases b : 12 < mo
  · rw [if_pos b, if_pos b, if_pos (by omega)]; omega
  · rw [if_neg b, if_neg b, if_neg (by omega)]; omega
theorem pl_bnd (n : Int) : 0 ≤ (2141 * n + 197913) % 65536 / 2141 := by omega
theorem bnds {d : Int} (h0 : 0 ≤ d) (h1 : d < 3652365) : 0 ≤ yC d ∧ yC d < 10000 ∧ 1 ≤ mC d ∧ mC d ≤ 12 ∧ 1 ≤ placeP d + 1 ∧ placeP d + 1 ≤ 31 ∧ 0 ≤ weekP d ∧ weekP d < 7 := by
  obtain ⟨a, h, f, o, n, -, -, -, -, -, ed, a0, a1, g0, g1, f0, f1, o0, o1, n0, n1, -, -, -, ey, el⟩ := parts h0 h1
  obtain ⟨-, -, m3, m4, m5, m6, -⟩ := mon_all n0 n1
  rw [ed] at h1
  have y := yr_bnd a0 a1 g0 g1 f0 f1 o0 o1
  obtain ⟨c1, c2, c3, c4⟩ := civ_bnd y.1 y.2 (fun q => yr_top a1 g1 f1 o1 h1 (m6.mp q)) m3 m4
  unfold yC mC monthP placeP weekP
  rw [el, ey]
  exact ⟨c1, c2, c3, c4, Int.le_add_of_nonneg_left (pl_bnd n), Int.add_le_add_right m5 1, Int.emod_nonneg _ (by decide), Int.emod_lt_of_pos _ (by decide)⟩
theorem div_ar {a h f o : Int} (g0 : 0 ≤ h) (g1 : h ≤ 3) (f0 : 0 ≤ f) (f1 : f ≤ 24) (o0 : 0 ≤ o) (o1 : o ≤ 3) :
    (400 * a + 100 * h + 4 * f + o) / 4 = 100 * a + 25 * h + f ∧ (400 * a + 100 * h + 4 * f + o) / 400 = a ∧ (400 * a + 100 * h + 4 * f + o) / 100 = 4 * a + h := by omega
theorem sum_ar {a h f o n k p d : Int} (ed : d = 146097 * a + 36524 * h + 1461 * f + 365 * o + n) (m7 : k + p = n) : 365 * (400 * a + 100 * h + 4 * f + o) + (100 * a + 25 * h + f) + a - (4 * a + h) + k + (p + 1) - 1 = d := by omega
theorem read_eq {d : Int} (h0 : 0 ≤ d) (h1 : d < 3652365) : readD (yC d) (mC d - 1) (placeP d + 1) = d := by
  obtain ⟨a, h, f, o, n, -, -, -, -, -, ed, -, -, g0, g1, f0, f1, o0, o1, n0, n1, -, -, -, ey, el⟩ := parts h0 h1
  obtain ⟨-, -, m3, m4, -, -, m7⟩ := mon_all n0 n1
  obtain ⟨s1, s2, s3⟩ := div_ar (a := a) g0 g1 f0 f1 o0 o1
  unfold readD yC mC monthP placeP
  rw [el, civ_back m3 m4, ey, Int.fdiv_eq_ediv_of_nonneg _ (by decide), Int.fdiv_eq_ediv_of_nonneg _ (by decide), Int.fdiv_eq_ediv_of_nonneg _ (by decide), s1, s2, s3]
  exact sum_ar ed m7
end Mine
end
section
open PySem PySem.W PySem.Calls PyProof.Rows
set_option Elab.async false
set_option maxRecDepth 100000
set_option maxHeartbeats 2000000
namespace Mine
theorem cps3 {x : PySem.Str} (h : x.cps.size = 3) : ∃ a b c, x = ⟨#[a, b, c]⟩ := by
  rcases x with ⟨⟨l⟩⟩
  rcases l with _ | ⟨a, _ | ⟨b, _ | ⟨c, _ | ⟨d, l⟩⟩⟩⟩
  · simp at h
  · simp at h
  · simp at h
  · exact ⟨a, b, c, rfl⟩
  · simp at h
theorem monN_f : ∀ i : Fin 12, (Txt.find (PySem.Str.ofString "JanFebMarAprMayJunJulAugSepOctNovDec") (monN ((i.val : Int) + 1))).fdiv 3 = (i.val : Int) + 1 - 1 := by decide +kernel
theorem monN_find {k : Int} (h0 : 1 ≤ k) (h1 : k ≤ 12) : (Txt.find (PySem.Str.ofString "JanFebMarAprMayJunJulAugSepOctNovDec") (monN k)).fdiv 3 = k - 1 :=
  of_fin1 (P := fun k => (Txt.find (PySem.Str.ofString "JanFebMarAprMayJunJulAugSepOctNovDec") (monN k)).fdiv 3 = k - 1) monN_f h0 h1
theorem slice_at (x : PySem.Str) (i j : Nat) (h : i ≤ j) (h2 : j ≤ x.cps.toList.length) : Txt.slice x (some (i : Int)) (some (j : Int)) = ⟨((x.cps.toList.drop i).take (j - i)).toArray⟩ := by
  have e := eq_of_beq (slice_closes (x := x) (i := (i : Int)) (j := (j : Int)) ⟨by omega, by omega, by omega⟩)
  have a : ((j : Int) - (i : Int)).toNat = j - i := by omega
  have b : (i : Int).toNat = i := by omega
  rw [e, a, b]
theorem line_cps {y mo d h mi s wd : Int} {z : PySem.Str} {a b c e f g : Nat} (h1 : dayN wd = ⟨#[a, b, c]⟩) (h2 : monN mo = ⟨#[e, f, g]⟩) :
    (lineS y mo d h mi s wd z).cps.toList = [a, b, c, 44, 32, 48 + d.toNat / 10, 48 + d.toNat % 10, 32, e, f, g, 32, 48 + y.toNat / 1000, 48 + y.toNat / 100 % 10, 48 + y.toNat / 10 % 10, 48 + y.toNat % 10, 32,
      48 + h.toNat / 10, 48 + h.toNat % 10, 58, 48 + mi.toNat / 10, 48 + mi.toNat % 10, 58, 48 + s.toNat / 10, 48 + s.toNat % 10, 32] ++ z.cps.toList := by
  have c1 : PySem.Str.ofString ", " = ⟨#[44, 32]⟩ := by decide +kernel
  have c2 : PySem.Str.ofString " " = ⟨#[32]⟩ := by decide +kernel
  have c3 : PySem.Str.ofString ":" = ⟨#[58]⟩ := by decide +kernel
  unfold lineS fig2 fig4
  rw [h1, h2, c1, c2, c3]
  show (#[a, b, c] ++ #[44, 32] ++ #[48 + d.toNat / 10, 48 + d.toNat % 10] ++ #[32] ++ #[e, f, g] ++ #[32] ++ #[48 + y.toNat / 1000, 48 + y.toNat / 100 % 10, 48 + y.toNat / 10 % 10, 48 + y.toNat % 10] ++ #[32] ++ #[48 + h.toNat / 10, 48 + h.toNat % 10] ++ #[58] ++ #[48 + mi.toNat / 10, 48 + mi.toNat % 10] ++ #[58] ++ #[48 + s.toNat / 10, 48 + s.toNat % 10] ++ #[32] ++ z.cps).toList = _
  simp only [Array.toList_append, List.cons_append, List.nil_append]
section
variable {y mo d h mi s wd : Int} {z : PySem.Str} (hz : z.length ≤ 5) (y0 : 0 ≤ y) (y1 : y < 10000) (mo0 : 1 ≤ mo) (mo1 : mo ≤ 12) (d0 : 1 ≤ d) (d1 : d ≤ 31) (h0 : 0 ≤ h) (h1 : h < 24) (mi0 : 0 ≤ mi) (mi1 : mi < 60) (s0 : 0 ≤ s) (s1 : s < 60) (w0 : 0 ≤ wd) (w1 : wd < 7)
include mo0 mo1 w0 w1
theorem line_cut (i j : Nat) (hij : i ≤ j) (hj : j ≤ 26) : ∃ a b c e f g : Nat, dayN wd = ⟨#[a, b, c]⟩ ∧ monN mo = ⟨#[e, f, g]⟩ ∧ Txt.slice (lineS y mo d h mi s wd z) (some (i : Int)) (some (j : Int)) =
    ⟨((([a, b, c, 44, 32, 48 + d.toNat / 10, 48 + d.toNat % 10, 32, e, f, g, 32, 48 + y.toNat / 1000, 48 + y.toNat / 100 % 10, 48 + y.toNat / 10 % 10, 48 + y.toNat % 10, 32,
      48 + h.toNat / 10, 48 + h.toNat % 10, 58, 48 + mi.toNat / 10, 48 + mi.toNat % 10, 58, 48 + s.toNat / 10, 48 + s.toNat % 10, 32] ++ z.cps.toList).drop i).take (j - i)).toArray⟩ := by
  obtain ⟨a, b, c, e1⟩ := cps3 (dayN_3 w0 w1)
  obtain ⟨e, f, g, e2⟩ := cps3 (monN_3 mo0 mo1)
  refine ⟨a, b, c, e, f, g, e1, e2, ?_⟩
  rw [slice_at _ _ _ hij (by rw [line_cps e1 e2]; simp only [List.length_append, List.length_cons, List.length_nil]; omega), line_cps e1 e2]
include hz
theorem ql_len : (lineS y mo d h mi s wd z).length ≤ 40 := by
  obtain ⟨a, b, c, e1⟩ := cps3 (dayN_3 w0 w1)
  obtain ⟨e, f, g, e2⟩ := cps3 (monN_3 mo0 mo1)
  have hz' : z.cps.toList.length ≤ 5 := by rw [Array.length_toList]; exact hz
  have : (lineS y mo d h mi s wd z).cps.toList.length ≤ 40 := by
    rw [line_cps e1 e2]; simp only [List.length_append, List.length_cons, List.length_nil]; omega
  rw [Array.length_toList] at this
  exact this
omit hz
theorem ql_mon : monI (lineS y mo d h mi s wd z) = mo - 1 := by
  obtain ⟨a, b, c, e, f, g, e1, e2, e3⟩ := line_cut (y := y) (d := d) (h := h) (mi := mi) (s := s) (z := z) mo0 mo1 w0 w1 8 11 (by decide) (by decide)
  unfold monI
  rw [show Txt.slice (lineS y mo d h mi s wd z) (some 8) (some 11) = monN mo from e3.trans e2.symm]
  exact monN_find mo0 mo1
theorem ql_y : Txt.slice (lineS y mo d h mi s wd z) (some 12) (some 16) = fig4 y := by
  obtain ⟨a, b, c, e, f, g, e1, e2, e3⟩ := line_cut (y := y) (d := d) (h := h) (mi := mi) (s := s) (z := z) mo0 mo1 w0 w1 12 16 (by decide) (by decide)
  exact e3
theorem ql_d : Txt.slice (lineS y mo d h mi s wd z) (some 5) (some 7) = fig2 d := by
  obtain ⟨a, b, c, e, f, g, e1, e2, e3⟩ := line_cut (y := y) (d := d) (h := h) (mi := mi) (s := s) (z := z) mo0 mo1 w0 w1 5 7 (by decide) (by decide)
  exact e3
theorem ql_h : Txt.slice (lineS y mo d h mi s wd z) (some 17) (some 19) = fig2 h := by
  obtain ⟨a, b, c, e, f, g, e1, e2, e3⟩ := line_cut (y := y) (d := d) (h := h) (mi := mi) (s := s) (z := z) mo0 mo1 w0 w1 17 19 (by decide) (by decide)
  exact e3
theorem ql_mi : Txt.slice (lineS y mo d h mi s wd z) (some 20) (some 22) = fig2 mi := by
  obtain ⟨a, b, c, e, f, g, e1, e2, e3⟩ := line_cut (y := y) (d := d) (h := h) (mi := mi) (s := s) (z := z) mo0 mo1 w0 w1 20 22 (by decide) (by decide)
  exact e3
theorem ql_s : Txt.slice (lineS y mo d h mi s wd z) (some 23) (some 25) = fig2 s := by
  obtain ⟨a, b, c, e, f, g, e1, e2, e3⟩ := line_cut (y := y) (d := d) (h := h) (mi := mi) (s := s) (z := z) mo0 mo1 w0 w1 23 25 (by decide) (by decide)
  exact e3
theorem ql_t : Txt.slice (lineS y mo d h mi s wd z) (some 17) (some 25) = fig2 h ++ PySem.Str.ofString ":" ++ fig2 mi ++ PySem.Str.ofString ":" ++ fig2 s := by
  obtain ⟨a, b, c, e, f, g, e1, e2, e3⟩ := line_cut (y := y) (d := d) (h := h) (mi := mi) (s := s) (z := z) mo0 mo1 w0 w1 17 25 (by decide) (by decide)
  have c3 : PySem.Str.ofString ":" = ⟨#[58]⟩ := by decide +kernel
  rw [c3]
  refine e3.trans ?_
  show (_ : PySem.Str) = ⟨#[48 + h.toNat / 10, 48 + h.toNat % 10] ++ #[58] ++ #[48 + mi.toNat / 10, 48 + mi.toNat % 10] ++ #[58] ++ #[48 + s.toNat / 10, 48 + s.toNat % 10]⟩
  rfl
end
theorem dg_in {a : Nat} (h : a < 10) : 48 ≤ 48 + a ∧ 48 + a ≤ 57 := ⟨Nat.le_add_right _ _, Nat.add_le_add_left (Nat.le_of_lt_succ h) 48⟩
theorem dg_val (l : List Nat) (k : Nat) : (l.map (48 + ·)).foldl (fun acc c => acc * 10 + (c - 48)) k = l.foldl (fun acc c => acc * 10 + c) k := by
  rw [List.foldl_map]
  simp only [Nat.add_sub_cancel_left]
theorem val_2 (p : Nat) : (0 * 10 + p / 10) * 10 + p % 10 = p := by omega
theorem val_4 (p : Nat) : (((0 * 10 + p / 1000) * 10 + p / 100 % 10) * 10 + p / 10 % 10) * 10 + p % 10 = p := by omega
theorem m10 (p : Nat) : p % 10 < 10 := Nat.mod_lt _ (by decide)
theorem int_of {l : List Nat} {n : Int} (h0 : 0 ≤ n) (hl : l ≠ []) (hz : l.length ≤ 4300) (hd : ∀ a ∈ l, a < 10) (e : l.foldl (fun acc c => acc * 10 + c) 0 = n.toNat) : PySem.intText? ⟨(l.map (48 + ·)).toArray⟩ = some n := by
  have h1 : PySem.NumText.AllDigits (l.map (48 + ·)) := by
    intro c hc
    obtain ⟨a, ha, rfl⟩ := List.mem_map.mp hc
    exact dg_in (hd a ha)
  have h2 : (⟨(l.map (48 + ·)).toArray⟩ : PySem.Str).length ≤ 4300 := by
    show (l.map (48 + ·)).toArray.size ≤ 4300
    rw [List.size_toArray, List.length_map]; exact hz
  rw [PySem.intText_digits (x := ⟨(l.map (48 + ·)).toArray⟩) h1 (fun q => hl (List.map_eq_nil_iff.mp q)) h2]
  refine congrArg some ?_
  show ((PySem.NumText.digitsVal (l.map (48 + ·)) : Nat) : Int) = n
  unfold PySem.NumText.digitsVal
  rw [dg_val, e]
  exact Int.toNat_of_nonneg h0
theorem int_fig2 {n : Int} (h0 : 0 ≤ n) (h1 : n < 100) : PySem.intText? (fig2 n) = some n :=
  int_of (l := [n.toNat / 10, n.toNat % 10]) h0 (by simp) (by show 2 ≤ 4300; decide) (List.forall_mem_cons.2 ⟨Nat.div_lt_of_lt_mul ((Int.toNat_lt h0).mpr h1), List.forall_mem_cons.2 ⟨m10 _, fun _ h => nomatch h⟩⟩) (val_2 _)
theorem int_fig4 {n : Int} (h0 : 0 ≤ n) (h1 : n < 10000) : PySem.intText? (fig4 n) = some n :=
  int_of (l := [n.toNat / 1000, n.toNat / 100 % 10, n.toNat / 10 % 10, n.toNat % 10]) h0 (by simp) (by show 4 ≤ 4300; decide)
    (List.forall_mem_cons.2 ⟨Nat.div_lt_of_lt_mul ((Int.toNat_lt h0).mpr h1), List.forall_mem_cons.2 ⟨m10 _, List.forall_mem_cons.2 ⟨m10 _, List.forall_mem_cons.2 ⟨m10 _, fun _ h => nomatch h⟩⟩⟩⟩) (val_4 _)
end Mine
end
section
open PySem PySem.W PySem.Calls PyProof.Rows
set_option Elab.async false
set_option maxRecDepth 100000
set_option maxHeartbeats 1000000
namespace Mine
def sH (s : Int) : Int := s.fdiv 3600
def sM (s : Int) : Int := (s.fdiv 60).fmod 60
def sS (s : Int) : Int := s.fmod 60
theorem sbnds {s : Int} (h0 : 0 ≤ s) (h1 : s < 86400) : 0 ≤ sH s ∧ sH s < 24 ∧ 0 ≤ sM s ∧ sM s < 60 ∧ 0 ≤ sS s ∧ sS s < 60 ∧ 3600 * sH s + 60 * sM s + sS s = s := by
  unfold sH sM sS
  rw [Int.fdiv_eq_ediv_of_nonneg _ (by decide), Int.fdiv_eq_ediv_of_nonneg _ (by decide), Int.fmod_eq_emod_of_nonneg _ (by decide), Int.fmod_eq_emod_of_nonneg _ (by decide)]
  omega
section
variable {y mo d h mi s wd : Int} {z : PySem.Str} (hz : z.length ≤ 5) (y0 : 0 ≤ y) (y1 : y < 10000) (mo0 : 1 ≤ mo) (mo1 : mo ≤ 12) (d0 : 1 ≤ d) (d1 : d ≤ 31) (h0 : 0 ≤ h) (h1 : h < 24) (mi0 : 0 ≤ mi) (mi1 : mi < 60) (s0 : 0 ≤ s) (s1 : s < 60) (w0 : 0 ≤ wd) (w1 : wd < 7)
include hz y0 y1 mo0 mo1 d0 d1 h0 h1 mi0 mi1 s0 s1 w0 w1
theorem line_len : (lineS y mo d h mi s wd z).length ≤ 40 := ql_len hz mo0 mo1 w0 w1
theorem line_mon : monI (lineS y mo d h mi s wd z) = mo - 1 := ql_mon mo0 mo1 w0 w1
theorem line_y : Txt.slice (lineS y mo d h mi s wd z) (some 12) (some 16) = fig4 y := ql_y mo0 mo1 w0 w1
theorem line_d : Txt.slice (lineS y mo d h mi s wd z) (some 5) (some 7) = fig2 d := ql_d mo0 mo1 w0 w1
theorem line_h : Txt.slice (lineS y mo d h mi s wd z) (some 17) (some 19) = fig2 h := ql_h mo0 mo1 w0 w1
theorem line_mi : Txt.slice (lineS y mo d h mi s wd z) (some 20) (some 22) = fig2 mi := ql_mi mo0 mo1 w0 w1
theorem line_s : Txt.slice (lineS y mo d h mi s wd z) (some 23) (some 25) = fig2 s := ql_s mo0 mo1 w0 w1
theorem line_t : Txt.slice (lineS y mo d h mi s wd z) (some 17) (some 25) = fig2 h ++ PySem.Str.ofString ":" ++ fig2 mi ++ PySem.Str.ofString ":" ++ fig2 s := ql_t mo0 mo1 w0 w1
end
def lineOf (d s : Int) (z : PySem.Str) : PySem.Str := lineS (yC d) (mC d) (placeP d + 1) (sH s) (sM s) (sS s) (weekP d) z
def keyOf (d s : Int) : PySem.Str := fig4 (yC d) ++ fig2 (mC d - 1) ++ fig2 (placeP d + 1) ++ (fig2 (sH s) ++ PySem.Str.ofString ":" ++ fig2 (sM s) ++ PySem.Str.ofString ":" ++ fig2 (sS s))
theorem groups_spec' {w : World} (d : Int) (t : Tok) (h0 : 0 ≤ d) (h1 : d < 3652365) : CtrG4 w 98 [.int d t] (yearP d) (monthP d) (placeP d) (weekP d) := by
  rw [← year_eq h0 h1, ← month_eq h0 h1, ← place_eq h0 h1, ← week_eq h0 h1]
  exact @groups_spec w d t h0 h1
section
variable {w : World} (d s : Int) (z : PySem.Str) (hz : z.length ≤ 5) (h0 : 0 ≤ d) (h1 : d < 3652365) (s0 : 0 ≤ s) (s1 : s < 86400) (t1 t2 t3 t4 t5 t6 t7 : Tok) (c : Nat) (T : Addr) (tz : Tok)
include hz h0 h1 s0 s1
theorem format_spec' : CtrO w 21 [.ref T, .str z tz] T (tup7 (civY (yearP d) (monthP d)) (civM (monthP d)) (placeP d + 1) (s.fdiv 3600) ((s.fdiv 60).fmod 60) (s.fmod 60) (weekP d) t1 t2 t3 t4 t5 t6 t7 c) (fun t => .str (lineOf d s z) t) := by
  obtain ⟨b1, b2, b3, b4, b5, b6, b7, b8⟩ := bnds h0 h1
  obtain ⟨c1, c2, c3, c4, c5, c6, _⟩ := sbnds s0 s1
  exact @format_spec w _ _ _ _ _ _ _ t1 t2 t3 t4 t5 t6 t7 c T z tz hz b1 b2 b3 b4 b5 b6 c1 c2 c3 c4 c5 c6 b7 b8
theorem plain_spec' : CtrO w 126 [.ref T, .str z tz] T (tup7 (civY (yearP d) (monthP d)) (civM (monthP d)) (placeP d + 1) (s.fdiv 3600) ((s.fdiv 60).fmod 60) (s.fmod 60) (weekP d) t1 t2 t3 t4 t5 t6 t7 c) (fun t => .str (lineOf d s z) t) := by
  obtain ⟨b1, b2, b3, b4, b5, b6, b7, b8⟩ := bnds h0 h1
  obtain ⟨c1, c2, c3, c4, c5, c6, _⟩ := sbnds s0 s1
  exact @plain_spec w _ _ _ _ _ _ _ t1 t2 t3 t4 t5 t6 t7 c T z tz hz b1 b2 b3 b4 b5 b6 c1 c2 c3 c4 c5 c6 b7 b8
theorem read_spec' : Ctr2 w 140 [.str (lineOf d s z) tz] d s := by
  obtain ⟨b1, b2, b3, b4, b5, b6, b7, b8⟩ := bnds h0 h1
  obtain ⟨c1, c2, c3, c4, c5, c6, c7⟩ := sbnds s0 s1
  have em := line_mon hz b1 b2 b3 b4 b5 b6 c1 c2 c3 c4 c5 c6 b7 b8
  have hr : Ctr2 w 140 [.str (lineOf d s z) tz] (readD (yC d) (monI (lineOf d s z)) (placeP d + 1)) (3600 * sH s + 60 * sM s + sS s) := @read_spec w (lineOf d s z) tz (line_len hz b1 b2 b3 b4 b5 b6 c1 c2 c3 c4 c5 c6 b7 b8) (by show 0 ≤ monI (lineS _ _ _ _ _ _ _ _); rw [em]; omega) (by show monI (lineS _ _ _ _ _ _ _ _) < 12; rw [em]; omega)
    (yC d) (placeP d + 1) (sH s) (sM s) (sS s) b1 b2 ((congrArg _ (line_y hz b1 b2 b3 b4 b5 b6 c1 c2 c3 c4 c5 c6 b7 b8)).trans (int_fig4 b1 b2))
    ((congrArg _ (line_d hz b1 b2 b3 b4 b5 b6 c1 c2 c3 c4 c5 c6 b7 b8)).trans (int_fig2 (by omega) (by omega))) ((congrArg _ (line_h hz b1 b2 b3 b4 b5 b6 c1 c2 c3 c4 c5 c6 b7 b8)).trans (int_fig2 (by omega) (by omega)))
    ((congrArg _ (line_mi hz b1 b2 b3 b4 b5 b6 c1 c2 c3 c4 c5 c6 b7 b8)).trans (int_fig2 (by omega) (by omega))) ((congrArg _ (line_s hz b1 b2 b3 b4 b5 b6 c1 c2 c3 c4 c5 c6 b7 b8)).trans (int_fig2 (by omega) (by omega)))
  have e1 : readD (yC d) (monI (lineOf d s z)) (placeP d + 1) = d := by
    have : monI (lineOf d s z) = mC d - 1 := em
    rw [this, read_eq h0 h1]
  rw [e1, c7] at hr
  exact @hr
theorem key_spec' : CtrB w 147 [.str (lineOf d s z) tz] (fun t => .str (keyOf d s) t) := by
  obtain ⟨b1, b2, b3, b4, b5, b6, b7, b8⟩ := bnds h0 h1
  obtain ⟨c1, c2, c3, c4, c5, c6, c7⟩ := sbnds s0 s1
  have em : monI (lineOf d s z) = mC d - 1 := line_mon hz b1 b2 b3 b4 b5 b6 c1 c2 c3 c4 c5 c6 b7 b8
  have hr : CtrB w 147 [.str (lineOf d s z) tz] (fun t => .str (keyT (lineOf d s z)) t) := @key_spec w (lineOf d s z) tz (line_len hz b1 b2 b3 b4 b5 b6 c1 c2 c3 c4 c5 c6 b7 b8) (by rw [em]; omega) (by rw [em]; omega)
  have e : keyT (lineOf d s z) = keyOf d s := by
    unfold keyT keyOf
    rw [em]
    show Txt.slice (lineS _ _ _ _ _ _ _ _) _ _ ++ _ ++ Txt.slice (lineS _ _ _ _ _ _ _ _) _ _ ++ Txt.slice (lineS _ _ _ _ _ _ _ _) _ _ = _
    rw [line_y hz b1 b2 b3 b4 b5 b6 c1 c2 c3 c4 c5 c6 b7 b8, line_d hz b1 b2 b3 b4 b5 b6 c1 c2 c3 c4 c5 c6 b7 b8, line_t hz b1 b2 b3 b4 b5 b6 c1 c2 c3 c4 c5 c6 b7 b8]
  rw [e] at hr
  exact @hr
end
end Mine
end
section
open PySem PySem.W PySem.Calls PyProof.Rows
set_option Elab.async false
set_option maxRecDepth 100000
set_option maxHeartbeats 1000000
namespace Mine
def SEnd (h₀ : Heap) (L : Addr) (m : PySem.Str → Option Value) (need : List (Addr × Obj)) (k : PySem.Str) (s₁ : Shared) (v : Value) (s₂ : Shared) : Prop :=
  ∃ h' tk t', s₂ = { s₁ with heap := h', toks := tk } ∧ v = .str k t' ∧ Fr h₀ L h' m ∧ News h₀ L h' need
def SOut (kz : List PySem.Str) (vs out : List Value) : Prop :=
  ∃ ps : List (PySem.Str × Value), ps.Perm (kz.zip vs) ∧ out = ps.map Prod.snd ∧ ps.Pairwise (fun p q => ¬ q.1.cps.toList < p.1.cps.toList)
def strV (v : Value) : PySem.Str := match v with | .str x _ => x | _ => PySem.Str.ofString ""
theorem strs_map : ∀ {vs : List Value} {ks : List PySem.Str}, StrsAre vs ks → vs.map strV = ks
  | _, _, .nil => rfl
  | _, _, .cons y t h => by rw [List.map_cons, strs_map h]; rfl
theorem strs_all : ∀ {vs : List Value} {ks : List PySem.Str}, StrsAre vs ks → ∀ v ∈ vs, ∃ t, v = .str (strV v) t
  | _, _, .nil, _, h => nomatch h
  | _, _, .cons y t h, v, hv => by
    rcases List.mem_cons.mp hv with rfl | hv
    · exact ⟨t, rfl⟩
    · exact strs_all h v hv
theorem key_str {v : Value} {t : Tok} (h : v = .str (strV v) t) : PyProof.Rows.strKind.keyOf v = some (strV v).cps.toList := by
  cases v with
  | str x t => rfl
  | _ => exact absurd h (by intro q; cases q)
theorem kk_str {xs : Array Keyed} {i : Nat} (hi : i < xs.size) (h : ∃ t, xs[i].1 = .str (strV xs[i].1) t) : KK PyProof.Rows.strKind xs i = (strV xs[i].1).cps.toList := by
  unfold KK
  rw [Array.getElem?_eq_getElem hi]
  obtain ⟨t, h⟩ := h
  show (PyProof.Rows.strKind.keyOf xs[i].1).getD _ = _
  rw [key_str h]; rfl
theorem s_out {keys : Array Value} {vs : List Value} {kz : List PySem.Str} (hk : StrsAre keys.toList kz) {xs : Array Keyed} (hp : xs.Perm (keys.zip vs.toArray)) (hs : SortedToK PyProof.Rows.strKind xs xs.size) :
    SOut kz vs (xs.map (·.2)).toList := by
  have hl : xs.toList.Perm (keys.toList.zip vs) := by rw [← ksk_zip]; exact Array.perm_iff_toList_perm.mp hp
  have hm : ∀ p ∈ xs.toList, ∃ t, p.1 = .str (strV p.1) t := fun p hp' => by
    obtain ⟨a, b⟩ := p
    exact strs_all hk _ (List.of_mem_zip (hl.mem_iff.mp hp')).1
  refine ⟨xs.toList.map (fun p : Keyed => (strV p.1, p.2)), ?_, ?_, ?_⟩
  · have e2 : (keys.toList.zip vs).map (fun p : Keyed => (strV p.1, p.2)) = kz.zip vs := by
      rw [← strs_map hk, List.zip_map_left]
      exact List.map_congr_left fun ⟨x, y⟩ _ => rfl
    rw [← e2]; exact hl.map _
  · rw [Array.toList_map, List.map_map]; rfl
  · rw [List.pairwise_map, List.pairwise_iff_getElem]
    intro i j hi hj hij
    have hi' : i < xs.size := by simpa using hi
    have hj' : j < xs.size := by simpa using hj
    have q := hs i j (Nat.le_of_lt hij) hj'
    rw [kk_str hi' (hm _ (by simp)), kk_str hj' (hm _ (by simp))] at q
    have q' : decide ((strV xs[j].1).cps.toList < (strV xs[i].1).cps.toList) = false := q
    simpa using q'
section
variable {prog : Program} {w : World} {A : Around} {E : Value → Shared → Prop} {s : Shared} {h₀ : Heap} {L : Addr} {m : PySem.Str → Option Value} {news : List (Addr × Obj)} {a kS : Addr} {vs : List Value} {kz : List PySem.Str} {keys : Array Value} {e e1 : Nat} {P : PySem.Fin → Shared → Prop}
theorem s_tail {st : SortSt} (F : Fr h₀ L s.heap m) (N : News h₀ L s.heap (news ++ [(kS, seqObj "list" keys e), (a, seqObj "list" #[] e1)])) (hka : kS ≠ a) (hnk : ∀ p ∈ news, p.1 ≠ kS) (hna : ∀ p ∈ news, p.1 ≠ a)
    (hk : StrsAre keys.toList kz) (hlen : kz.length = vs.length) (h64 : vs.length < 64) (hp : (arrOf st).Perm (keys.zip vs.toArray)) (hs : SortedToK PyProof.Rows.strKind (arrOf st) (arrOf st).size) (hfl : failedOf st = none)
    (h : ∀ h' tk out c, Fr h₀ L h' m → News h₀ L h' ((a, seqObj "list" out c) :: news) → SOut kz vs out.toList → P (.done (.ret .none)) { s with heap := h', toks := tk }) :
    wpAny (model prog w) A (ksk_tail a false e1 (.ref kS) st) P E s := by
  have nk := N (kS, seqObj "list" keys e) (List.mem_append_right _ (.head _))
  have na := N (a, seqObj "list" #[] e1) (List.mem_append_right _ (.tail _ (.head _)))
  have hsz : keys.size = vs.length := by
    have h1 := StrsAre.length hk
    rw [Array.length_toList] at h1; omega
  have hsz2 : (arrOf st).size = vs.length := by rw [hp.size_eq, Array.size_zip, hsz, List.size_toArray, Nat.min_self]
  have s1 := Heap.SameBut.update s.heap kS (Obj.mapSeq fun _ => (#[] : Array Value))
  have na1 := (s1.2 a hka.symm).trans na.1
  have s2 := Heap.SameBut.update (s.heap.update kS (Obj.mapSeq fun _ => (#[] : Array Value))) a (Obj.mapSeq fun _ => (arrOf st).map (·.2))
  obtain ⟨c2, hc2⟩ : ∃ c2, ((s.heap.update kS (Obj.mapSeq fun _ => (#[] : Array Value))).update a (Obj.mapSeq fun _ => (arrOf st).map (·.2))).get? a = some (seqObj "list" ((arrOf st).map (·.2)) c2) :=
    ⟨_, get?_update_seq na1 fun _ => (arrOf st).map (·.2)⟩
  unfold ksk_tail
  dsimp only
  refine wpAny_bind (listUpdate_at nk.1 rfl ?_ (by rw [hsz, sizeLine_eq]; omega) (Nat.zero_le _))
  refine wpAny_bind (wpAny_letGo ?_)
  refine wpAny_bind (seqEpoch_at na1 rfl ?_)
  refine wpAny_bind (listUpdate_at na1 rfl ?_ (Nat.zero_le _) (by simp only [Bool.false_eq_true, if_false, Array.size_map]; rw [hsz2, sizeLine_eq]; omega))
  rw [hfl]
  simp only [bne_self_eq_false, Bool.false_eq_true, if_false]
  refine wpAny_pure (h _ _ _ c2 (ksk_fr (ksk_fr F s1 nk.2.1 nk.2.2) s2 na.2.1 na.2.2) (fun p hp => ?_) (s_out hk hp hs))
  rcases List.mem_cons.mp hp with rfl | hp
  · exact ⟨hc2, na.2⟩
  · exact ksk_news (ksk_news (fun q hq => N q (List.mem_append_left _ hq)) s1 hnk) s2 hna p hp
theorem s_end (F : Fr h₀ L s.heap m) (N : News h₀ L s.heap (news ++ [(kS, seqObj "list" keys e), (a, seqObj "list" #[] e1)])) (hka : kS ≠ a) (hnk : ∀ p ∈ news, p.1 ≠ kS) (hna : ∀ p ∈ news, p.1 ≠ a)
    (hk : StrsAre keys.toList kz) (hlen : kz.length = vs.length) (h2 : 2 ≤ vs.length) (h64 : vs.length < 64) (hkk : keyKind' keys = pure oneType')
    (h : ∀ h' tk out c, Fr h₀ L h' m → News h₀ L h' ((a, seqObj "list" out c) :: news) → SOut kz vs out.toList → P (.done (.ret .none)) { s with heap := h', toks := tk }) :
    wpAny (model prog w) A (ksk_end a false vs.toArray e1 (.ref kS) keys) P E s := by
  have hsz : keys.size = vs.length := by
    have h1 := StrsAre.length hk
    rw [Array.length_toList] at h1; omega
  have hzs : (keys.zip vs.toArray).size = vs.length := by rw [Array.size_zip, hsz, List.size_toArray, Nat.min_self]
  have hks : PyProof.Rows.KeysOf PyProof.Rows.strKind (keys.zip vs.toArray) := by
    intro p hp
    rw [ksk_zip] at hp
    obtain ⟨x, y⟩ := p
    obtain ⟨t, ht⟩ := strs_all hk _ (List.of_mem_zip hp).1
    exact ⟨_, key_str ht⟩
  unfold ksk_end
  dsimp only
  simp only [Bool.false_eq_true, if_false]
  rw [if_neg (show ¬ vs.toArray.size < 2 by rw [List.size_toArray]; omega), if_neg (show ¬ vs.toArray.size < 2 by rw [List.size_toArray]; omega), hkk]
  refine wpAny_bind (wpAny_pure ?_)
  refine wpAny_bind (wpAny_mono (wpS_sortRunsK (κ := PyProof.Rows.strKind) strKind_oneLt (a₀ := keys.zip vs.toArray) (st := SortSt.mk' oneType' (keys.zip vs.toArray) #[] 7 none)
    (Q := fun _ st' => (arrOf st').Perm (keys.zip vs.toArray) ∧ failedOf st' = none ∧ SortedToK PyProof.Rows.strKind (arrOf st') (keys.zip vs.toArray).size)
    hks ⟨Array.Perm.refl _, rfl, rfl, rfl⟩ (by rw [hzs]; omega) (by rw [hzs]; exact h64) fun st' a1 a2 a3 => ⟨a1, a2, a3⟩) ?_ fun _ _ e => e)
  rintro ⟨⟨⟩, st'⟩ s' ⟨rfl, hp, hf, hs⟩
  dsimp only
  exact s_tail F N hka hnk hna hk hlen h64 hp (by rw [hp.size_eq]; exact hs) hf h
end
end Mine
end
section
open PySem PySem.W PySem.Calls PyProof.Rows PyProof.V PySem.Spec
set_option Elab.async false
set_option maxRecDepth 100000
set_option maxHeartbeats 1000000
namespace Mine
section
variable {prog : Program} {w : World} {A : Around} {E : Value → Shared → Prop} {s : Shared} {h₀ : Heap} {L : Addr} {m : PySem.Str → Option Value} {news : List (Addr × Obj)}
theorem collect_range {r : Addr} {a b c : Int} {t u v : Tok} {n : Nat} {R : List Value → Shared → Prop} (hh : A.handled = none) (hr : IsRange s.heap r a b c t u v) (hsmall : Builtin.Range.small a b c = true)
    (hn : Builtin.Range.rangeSize a b c = n) (hlen : n ≤ 2 ^ 24)
    (h : ∀ (h' : Heap) (tk : Nat) (acc : Array Value), (∀ b o, s.heap.get? b = some o → h'.get? b = some o) → ItemsOf (fun i v => ∃ t, v = .int (a + i * c) t) acc n → R acc.toList { s with heap := h', toks := tk }) :
    wpAny (model prog w) A (collect (.ref r)) R E s := by
  unfold collect
  refine wpAny_bind (wpAny_runValue (codeAny_builtin entry_proto_collect' ?_))
  rw [Around.under_plainId PySem.F.plain_proto_collect _]
  show wpAny _ A.in1 (newList [] >>= fun l => again (.builtin "list.__iadd__" ⟨[l, .ref r], []⟩)) _ _ s
  refine wpAny_bind (wpAny_newObj_type ?_)
  refine wpAny_pure ⟨plainId_quiet PySem.F.plain_list_iadd _, codeAny_builtin entry_list_iadd' ?_⟩
  rw [Around.under_plainId PySem.F.plain_list_iadd _]
  have hS₁ : (s.heap.push { cls := .type "list", data := .seq ([] : List Value).toArray }).get? s.heap.objs.size = some { cls := .type "list", data := .seq #[] } := Heap.get?_push_size _ rfl
  show wpAny _ A.in1 (Builtin.List.listExtendWith (.ref s.heap.objs.size) (.ref r) (.ref s.heap.objs.size)) _ _ _
  have key := wpAny_extend_range (prog := prog) (w := w) (A := A) (s := { s with heap := s.heap.push { cls := .type "list", data := .seq ([] : List Value).toArray } })
    (R := fun (q : Result) (s' : Shared) => ∃ (h' : Heap) (tk : Nat) (acc' : Array Value) (c' : Nat), q = .ok (.ret (.ref s.heap.objs.size)) ∧ s' = { s with heap := h', toks := tk } ∧
      (∀ b o, s.heap.get? b = some o → h'.get? b = some o) ∧ h'.get? s.heap.objs.size = some { cls := .type "list", dict := none, data := .seq acc' c', slots := #[] } ∧ ItemsOf (fun i v => ∃ t, v = .int (a + i * c) t) acc' n)
    hh (Heap.get?_push_of_some _ hr) hsmall hn hlen s.heap.objs.size (.ref s.heap.objs.size) 0 hS₁
    (fun h' tk acc' c' hk hS' hacc => ⟨h', tk, acc', c', rfl, rfl, fun b o e => hk b o (Nat.ne_of_lt (Heap.lt_size e)) (Heap.get?_push_of_some _ e), hS', hacc⟩)
  refine wpAny_mono key (fun fin s' x => ?_) fun e s' x => ?_
  · cases fin with
    | done f =>
      obtain ⟨h', tk, acc', c', e, rfl, hk, hS', hacc⟩ := x
      cases e
      show wpAny _ A (load s.heap.objs.size >>= _) _ _ _
      refine wpAny_bind (wpAny_load hS' ?_)
      exact wpAny_pure (h h' tk acc' hk hacc)
    | again c₁ =>
      refine ⟨x.1, codeAny_mono x.2 fun q s₂ y => ?_⟩
      obtain ⟨h', tk, acc', c', rfl, rfl, hk, hS', hacc⟩ := y
      show wpAny _ A (load s.heap.objs.size >>= _) _ _ _
      refine wpAny_bind (wpAny_load hS' ?_)
      exact wpAny_pure (h h' tk acc' hk hacc)
  · obtain ⟨_, _, _, _, e', _⟩ := x
    cases e'
theorem strs_snoc {x : PySem.Str} {t : Tok} : ∀ {vs : List Value} {ks : List PySem.Str}, StrsAre vs ks → StrsAre (vs ++ [.str x t]) (ks ++ [x])
  | _, _, .nil => .cons x t .nil
  | _, _, .cons y t' h => .cons y t' (strs_snoc h)
theorem s_rest {f : Value} {a kS : Addr} {vs : List Value} {kz : List PySem.Str} {e1 : Nat} {P : PySem.Fin → Shared → Prop} (F : Fr h₀ L s.heap m) (N : News h₀ L s.heap (news ++ [(kS, seqObj "list" #[] 0), (a, seqObj "list" #[] e1)])) (hka : kS ≠ a) (hnk : ∀ p ∈ news, p.1 ≠ kS) (hna : ∀ p ∈ news, p.1 ≠ a)
    (hlen : kz.length = vs.length) (h2 : 2 ≤ vs.length) (h64 : vs.length < 64)
    (turn : ∀ (i : Nat) (v : Value) (k : PySem.Str), vs[i]? = some v → kz[i]? = some k → ∀ (h : Heap) (tk : Nat) (own : List (Addr × Obj)), Fr h₀ L h m → News h₀ L h (news ++ own) →
      wpAny (model prog w) A (call f [v]) (SEnd h₀ L m (news ++ own) k { s with heap := h, toks := tk }) (fun _ _ => False) { s with heap := h, toks := tk })
    (h : ∀ h' tk out c, Fr h₀ L h' m → News h₀ L h' ((a, seqObj "list" out c) :: news) → SOut kz vs out.toList → P (.done (.ret .none)) { s with heap := h', toks := tk }) :
    wpAny (model prog w) A (ksk_rest a f false vs.toArray e1 (.ref kS)) P E s := by
  unfold ksk_rest
  refine wpAny_bind (wpAny_rule ?_)
  first
    | rw [List.forIn_toArray]
    | (rw [← Array.forIn_toList]; simp only [List.toList_toArray])
    | rw [← Array.forIn_toList]
  refine wpAny_bind (ksk_fold (fun i s' => ∃ h' tk kA e, s' = { s with heap := h', toks := tk } ∧ Fr h₀ L h' m ∧ News h₀ L h' (news ++ [(kS, seqObj "list" kA e), (a, seqObj "list" #[] e1)]) ∧ StrsAre kA.toList (kz.take i)) vs 0 s
    ⟨s.heap, s.toks, #[], 0, rfl, F, N, by simpa using StrsAre.nil⟩ ?step ?done)
  case step =>
    rintro j x s' hx ⟨h', tk, kA, e, rfl, F', N', hk⟩
    simp only [Nat.zero_add] at hk ⊢
    have hj : j < vs.length := (List.getElem?_eq_some_iff.mp hx).1
    obtain ⟨k, hkj⟩ : ∃ k, kz[j]? = some k := ⟨_, List.getElem?_eq_getElem (by omega)⟩
    have hz : kA.size ≤ vs.length := by
      have h1 := StrsAre.length hk
      rw [Array.length_toList, List.length_take] at h1
      omega
    refine wpAny_bind (wpAny_attempt (wpAny_mono (turn j x k hx hkj h' tk _ F' N') (fun v s'' he => ?_) fun _ _ hF => hF.elim))
    obtain ⟨g, tk2, t2, rfl, rfl, F2, N2⟩ := he
    try dsimp only
    have nk := N2 (kS, seqObj "list" kA e) (List.mem_append_right _ (.head _))
    have na := N2 (a, seqObj "list" #[] e1) (List.mem_append_right _ (.tail _ (.head _)))
    have s1 := Heap.SameBut.update g kS (Obj.mapSeq (·.push (.str k t2)))
    obtain ⟨c2, hc2⟩ : ∃ c2, (g.update kS (Obj.mapSeq (·.push (.str k t2)))).get? kS = some (seqObj "list" (kA.push (.str k t2)) c2) := ⟨_, get?_update_seq nk.1 (·.push (.str k t2))⟩
    have ek : kz.take (j + 1) = kz.take j ++ [k] := by rw [List.take_add_one, hkj]; simp
    have ea : (kA.push (Value.str k t2)).toList = kA.toList ++ [Value.str k t2] := by simp
    refine wpAny_bind (listUpdate_at nk.1 rfl ?_ (by rw [sizeLine_eq]; omega) (Nat.le_trans (Nat.le_of_eq (Array.size_push ..)) (by rw [sizeLine_eq]; omega)))
    refine wpAny_pure ⟨rfl, _, _, kA.push (.str k t2), c2, rfl, ksk_fr F2 s1 nk.2.1 nk.2.2, fun p hp => ?_, by rw [ea, ek]; exact strs_snoc hk⟩
    rcases List.mem_append.mp hp with hp | hp
    · exact ksk_news (fun q hq => N2 q (List.mem_append_left _ hq)) s1 hnk p hp
    · rcases List.mem_cons.mp hp with rfl | hp
      · exact ⟨hc2, nk.2⟩
      · rw [List.mem_singleton.mp hp]
        exact ⟨(s1.2 a hka.symm).trans na.1, na.2⟩
  case done =>
    rintro s' ⟨h', tk, kA, e, rfl, F', N', hk⟩
    have hk' : StrsAre kA.toList kz := by
      have e3 : kz.take (0 + vs.length) = kz := List.take_of_length_le (by omega)
      rw [e3] at hk
      exact hk
    have nk := N' (kS, seqObj "list" kA e) (List.mem_append_right _ (.head _))
    try dsimp only
    refine wpAny_bind (listItems_at nk.1 rfl ?_)
    refine s_end F' N' hka hnk hna hk' hlen h2 h64 ?_ fun h3 tk3 out c F3 N3 k3 => h h3 tk3 out c F3 N3 k3
    have hl := StrsAre.length hk'
    obtain ⟨v₁, v₂, rest, q⟩ : ∃ v₁ v₂ rest, kA.toList = v₁ :: v₂ :: rest := by
      cases q : kA.toList with
      | nil => rw [q] at hl; simp at hl; omega
      | cons v₁ r =>
        cases r with
        | nil => rw [q] at hl; simp at hl; omega
        | cons v₂ rest => exact ⟨v₁, v₂, rest, rfl⟩
    have ek : kA = (v₁ :: v₂ :: rest).toArray := by rw [← q, Array.toArray_toList]
    rw [q] at hk'
    rw [ek]
    exact keyKind_strs hk'
theorem s_sort {f : Value} {a : Addr} {vs : List Value} {kz : List PySem.Str} {n : Nat} {P : PySem.Fin → Shared → Prop} (F : Fr h₀ L s.heap m) (N : News h₀ L s.heap news) (ho : s.heap.get? a = some (seqObj "list" vs.toArray n)) (haL : a ≠ L) (ha0 : h₀.get? a = none) (hna : ∀ p ∈ news, p.1 ≠ a)
    (hlen : kz.length = vs.length) (h2 : 2 ≤ vs.length) (h64 : vs.length < 64)
    (turn : ∀ (i : Nat) (v : Value) (k : PySem.Str), vs[i]? = some v → kz[i]? = some k → ∀ (h : Heap) (tk : Nat) (own : List (Addr × Obj)), Fr h₀ L h m → News h₀ L h (news ++ own) →
      wpAny (model prog w) A (call f [v]) (SEnd h₀ L m (news ++ own) k { s with heap := h, toks := tk }) (fun _ _ => False) { s with heap := h, toks := tk })
    (h : ∀ h' tk out c, Fr h₀ L h' m → News h₀ L h' ((a, seqObj "list" out c) :: news) → SOut kz vs out.toList → P (.done (.ret .none)) { s with heap := h', toks := tk }) :
    wpAny (model prog w) A (ksk_tree a f false) P E s := by
  have ha : a < s.heap.objs.size := Heap.lt_size ho
  have s1 := Heap.SameBut.update s.heap a (Obj.mapSeq fun _ => (#[] : Array Value))
  obtain ⟨e1, ho1⟩ : ∃ e1, (s.heap.update a (Obj.mapSeq fun _ => (#[] : Array Value))).get? a = some (seqObj "list" #[] e1) := ⟨_, get?_update_seq ho fun _ => #[]⟩
  have F1 := ksk_fr F s1 haL ha0
  have N1 := ksk_news N s1 hna
  have hkS : ((s.heap.update a (Obj.mapSeq fun _ => (#[] : Array Value))).push (seqObj "tuple" vs.toArray 0)).objs.size = s.heap.objs.size + 1 := by rw [size_push', Heap.size_update]
  have hLk : L < ((s.heap.update a (Obj.mapSeq fun _ => (#[] : Array Value))).push (seqObj "tuple" vs.toArray 0)).objs.size := (F1.push _).ns.lt
  unfold ksk_tree
  refine wpAny_bind (listItems_at ho rfl ?_)
  refine wpAny_bind (listUpdate_at ho rfl ?_ (by rw [List.size_toArray, sizeLine_eq]; omega) (Nat.zero_le _))
  refine wpAny_bind (seqEpoch_at ho1 rfl ?_)
  refine wpAny_bind (wpAny_newTuple ?_ (by show vs.length ≤ _; rw [sizeLine_eq]; omega))
  refine wpAny_bind (wpAny_newList ?_ (Nat.zero_le _))
  refine wpAny_holding ?_
  refine s_rest (s := { s with heap := ((s.heap.update a (Obj.mapSeq fun _ => (#[] : Array Value))).push (seqObj "tuple" vs.toArray 0)).push (seqObj "list" #[] 0) }) (kS := ((s.heap.update a (Obj.mapSeq fun _ => (#[] : Array Value))).push (seqObj "tuple" vs.toArray 0)).objs.size)
    ((F1.push _).push _) (fun p hp => ?_) (by rw [hkS]; exact Nat.ne_of_gt (Nat.lt_succ_of_lt ha)) (fun p hp => by rw [hkS]; exact Nat.ne_of_lt (Nat.lt_succ_of_lt (Heap.lt_size (N p hp).1))) hna hlen h2 h64 turn h
  rcases List.mem_append.mp hp with hp | hp
  · exact ⟨Heap.get?_push_of_some _ (Heap.get?_push_of_some _ (N1 p hp).1), (N1 p hp).2⟩
  · rcases List.mem_cons.mp hp with rfl | hp
    · exact ⟨Heap.get?_push_size _ rfl, Nat.ne_of_gt hLk, Heap.get?_none_of_le (Nat.le_trans F.above (Nat.le_of_lt hLk))⟩
    · rw [List.mem_singleton.mp hp]
      exact ⟨Heap.get?_push_of_some _ (Heap.get?_push_of_some _ ho1), haL, ha0⟩
/-- sorted over a list with a key that gives texts -/
theorem sorted_strs {l q : Addr} {vs : List Value} {kz : List PySem.Str} {Q : Value → Shared → Prop} (F : Fr h₀ L s.heap m) (N : News h₀ L s.heap news) (hl : s.heap.IsList l vs.toArray) (hlen : kz.length = vs.length) (h2 : 2 ≤ vs.length) (h64 : vs.length < 64)
    (turn : ∀ (i : Nat) (v : Value) (k : PySem.Str), vs[i]? = some v → kz[i]? = some k → ∀ (h : Heap) (tk : Nat) (own : List (Addr × Obj)), Fr h₀ L h m → News h₀ L h (news ++ own) →
      wpAny (model prog w) A.in1.in1 (call (.ref q) [v]) (SEnd h₀ L m (news ++ own) k { s with heap := h, toks := tk }) (fun _ _ => False) { s with heap := h, toks := tk })
    (h : ∀ D h' tk out c, Fr h₀ L h' m → News h₀ L h' ((D, seqObj "list" out c) :: news) → (∀ q ∈ news, q.1 < D) → SOut kz vs out.toList → Q (.ref D) { s with heap := h', toks := tk }) :
    wpAny (model prog w) A (call (.builtin "sorted") [.ref l] [(PySem.Str.ofString "key", .ref q)]) Q E s := by
  refine call_function_entry_kw kind_sorted plain_sorted entry_sorted (ksk_s1 _ _) ?_
  unfold Builtin.«sorted»
  refine wpAny_bind (m := checkCount "sorted" 1 1 _) (wpAny_pure ?_)
  refine wpAny_bind (collect_list hl ?_ (by rw [sizeLine_eq]; omega))
  refine wpAny_bind (wpAny_newList ?_ (by rw [sizeLine_eq]; omega))
  have hsz : ((s.heap.push (seqObj "list" #[] 0)).update s.heap.objs.size (Obj.mapSeq (· ++ vs.toArray))).objs.size = s.heap.objs.size + 1 := by
    rw [Heap.size_update, size_push']
  have hoL : (((s.heap.push (seqObj "list" #[] 0)).update s.heap.objs.size (Obj.mapSeq (· ++ vs.toArray))).push (seqObj "list" vs.toArray 0)).get? (s.heap.objs.size + 1) = some (seqObj "list" vs.toArray 0) := by
    rw [← hsz]; exact Heap.get?_push_size _ rfl
  have keep : ∀ b o, s.heap.get? b = some o → (((s.heap.push (seqObj "list" #[] 0)).update s.heap.objs.size (Obj.mapSeq (· ++ vs.toArray))).push (seqObj "list" vs.toArray 0)).get? b = some o := fun b o q => by
    have hlt : b < s.heap.objs.size := Heap.lt_size q
    rw [Heap.get?_push_ne _ _ _ (by rw [hsz]; exact Nat.ne_of_lt (Nat.lt_succ_of_lt hlt)), Heap.get?_update_ne _ _ _ _ (Nat.ne_of_lt hlt), Heap.get?_push_ne _ _ _ (Nat.ne_of_lt hlt)]
    exact q
  have hL : L < s.heap.objs.size := F.ns.lt
  show wpAny _ _ _ _ _ { s with heap := ((s.heap.push (seqObj "list" #[] 0)).update s.heap.objs.size (Obj.mapSeq (· ++ vs.toArray))).push (seqObj "list" vs.toArray 0) }
  rw [hsz]
  refine wpAny_bind (wpAny_holding (wpAny_call_entry_kw slot_list_sort ⟨_, hoL, rfl⟩ entry_list_sort ?body (ksk_l1 _ _)))
  case body =>
    show wpAny (model prog w) A.in1.in1 (Builtin.«list.sort» ⟨[.ref (s.heap.objs.size + 1)], [(PySem.Str.ofString "key", .ref q)]⟩) _ _ _
    rw [ksk_t1]
    refine s_sort (s := { s with heap := ((s.heap.push (seqObj "list" #[] 0)).update s.heap.objs.size (Obj.mapSeq (· ++ vs.toArray))).push (seqObj "list" vs.toArray 0) })
      (F.kept keep) (N.grown keep) hoL (Nat.ne_of_gt (Nat.lt_succ_of_lt hL)) (Heap.get?_none_of_le (Nat.le_trans F.above (Nat.le_succ_of_le (Nat.le_of_lt hL))))
      (fun p hp => Nat.ne_of_lt (Nat.lt_succ_of_lt (Heap.lt_size (N p hp).1))) hlen h2 h64 turn fun h' tk out c F' N' k' => ⟨_, rfl, ?_⟩
    exact wpAny_pure ⟨_, rfl, h _ h' tk out c F' N' (fun q hq => Nat.lt_succ_of_lt (Heap.lt_size (N q hq).1)) k'⟩
/-- sorted over a range with a key that gives ints -/
theorem sorted_range {r q : Addr} {a b c : Int} {t u v : Tok} {kz : List Int} {Q : Value → Shared → Prop} (hh : A.handled = none) (F : Fr h₀ L s.heap m) (N : News h₀ L s.heap news) (hr : IsRange s.heap r a b c t u v) (hsmall : Builtin.Range.small a b c = true)
    (hn : Builtin.Range.rangeSize a b c = kz.length) (h64 : kz.length < 64)
    (turn : ∀ (i : Nat) (t : Tok) (k : Int), kz[i]? = some k → ∀ (h : Heap) (tk : Nat) (own : List (Addr × Obj)), Fr h₀ L h m → News h₀ L h (news ++ own) →
      wpAny (model prog w) A.in1.in1 (call (.ref q) [.int (a + i * c) t]) (KskEnd h₀ L m (news ++ own) k { s with heap := h, toks := tk }) (fun _ _ => False) { s with heap := h, toks := tk })
    (h : ∀ D h' tk vs out cc, Fr h₀ L h' m → News h₀ L h' ((D, seqObj "list" out cc) :: news) → (∀ q ∈ news, q.1 < D) → vs.length = kz.length → (∀ (i : Nat) (v : Value), vs[i]? = some v → ∃ t : Tok, v = Value.int (a + (i : Int) * c) t) → KskOut false kz vs out.toList → Q (.ref D) { s with heap := h', toks := tk }) :
    wpAny (model prog w) A (call (.builtin "sorted") [.ref r] [(PySem.Str.ofString "key", .ref q)]) Q E s := by
  refine call_function_entry_kw kind_sorted plain_sorted entry_sorted (ksk_s1 _ _) ?_
  unfold Builtin.«sorted»
  refine wpAny_bind (m := checkCount "sorted" 1 1 _) (wpAny_pure ?_)
  refine wpAny_bind (collect_range hh hr hsmall hn (by omega) fun h1 tk1 acc hk hacc => ?_)
  have hsz1 : acc.toList.length = kz.length := by rw [Array.length_toList]; exact hacc.1
  refine wpAny_bind (wpAny_newList ?_ (by rw [sizeLine_eq]; omega))
  have F1 : Fr h₀ L h1 m := F.kept hk
  have N1 : News h₀ L h1 news := N.grown hk
  have keep : ∀ b o, h1.get? b = some o → (h1.push (seqObj "list" acc.toList.toArray 0)).get? b = some o := fun b o q => Heap.get?_push_of_some _ q
  have hoL : (h1.push (seqObj "list" acc.toList.toArray 0)).get? h1.objs.size = some (seqObj "list" acc.toList.toArray 0) := Heap.get?_push_size _ rfl
  have hL : L < h1.objs.size := F1.ns.lt
  show wpAny _ _ _ _ _ { s with heap := h1.push (seqObj "list" acc.toList.toArray 0), toks := tk1 }
  refine wpAny_bind (wpAny_holding (wpAny_call_entry_kw slot_list_sort ⟨_, hoL, rfl⟩ entry_list_sort ?body (ksk_l1 _ _)))
  case body =>
    show wpAny (model prog w) A.in1.in1 (Builtin.«list.sort» ⟨[.ref h1.objs.size], [(PySem.Str.ofString "key", .ref q)]⟩) _ _ _
    rw [ksk_t1]
    refine ksk_sort (s := { s with heap := h1.push (seqObj "list" acc.toList.toArray 0), toks := tk1 }) (kz := kz)
      (F1.kept keep) (N1.grown keep) hoL (Nat.ne_of_gt hL) (Heap.get?_none_of_le (Nat.le_trans F1.above (Nat.le_of_lt hL)))
      (fun p hp => Nat.ne_of_lt (Heap.lt_size (N1 p hp).1)) hsz1.symm (by omega) (fun i v k hv hk' h tk own F' N' => ?_) fun h' tk out c F' N' k' => ⟨_, rfl, ?_⟩
    · obtain ⟨t, rfl⟩ := hacc.2 i v (by rw [← hv, Array.getElem?_toList])
      exact turn i t k hk' h tk own F' N'
    · exact wpAny_pure ⟨_, rfl, h _ h' tk acc.toList out c F' N' (fun q hq => Heap.lt_size (N1 q hq).1) hsz1 (fun i v hv => hacc.2 i v (by rw [← hv, Array.getElem?_toList])) k'⟩
end
end Mine
end
section
open PySem PySem.W PySem.Calls PyProof.Rows
set_option Elab.async false
set_option maxRecDepth 100000
set_option maxHeartbeats 1000000
namespace Mine
theorem order_cases {m1 m2 m3 : Int} {vs : List Value} {out : Array Value} (hl : vs.length = [m1, m2, m3].length) (hi : ∀ (i : Nat) (v : Value), vs[i]? = some v → ∃ t : Tok, v = Value.int (0 + (i : Int) * 1) t) (h : KskOut false [m1, m2, m3] vs out.toList) :
    ∃ t u v : Tok, (out = List.toArray [.int 0 t, .int 1 u, .int 2 v] ∧ m1 ≤ m2 ∧ m2 ≤ m3) ∨ (out = List.toArray [.int 0 t, .int 2 u, .int 1 v] ∧ m1 ≤ m3 ∧ m3 ≤ m2) ∨ (out = List.toArray [.int 1 t, .int 0 u, .int 2 v] ∧ m2 ≤ m1 ∧ m1 ≤ m3) ∨
      (out = List.toArray [.int 1 t, .int 2 u, .int 0 v] ∧ m2 ≤ m3 ∧ m3 ≤ m1) ∨ (out = List.toArray [.int 2 t, .int 0 u, .int 1 v] ∧ m3 ≤ m1 ∧ m1 ≤ m2) ∨ (out = List.toArray [.int 2 t, .int 1 u, .int 0 v] ∧ m3 ≤ m2 ∧ m2 ≤ m1) := by
  rcases vs with _ | ⟨v1, _ | ⟨v2, _ | ⟨v3, _ | ⟨q, r⟩⟩⟩⟩
  · simp at hl
  · simp at hl
  · simp at hl
  rotate_left
  · simp at hl
  obtain ⟨t, e1⟩ := hi 0 v1 rfl
  obtain ⟨u, e2⟩ := hi 1 v2 rfl
  obtain ⟨v, e3⟩ := hi 2 v3 rfl
  have e1 : v1 = .int 0 t := e1
  have e2 : v2 = .int 1 u := e2
  have e3 : v3 = .int 2 v := e3
  subst e1 e2 e3
  obtain ⟨ps, hp, ho, hs⟩ := h
  have eo : ∀ l, out.toList = l → out = List.toArray l := fun l e => by rw [← e, Array.toArray_toList]
  simp only [List.zip_cons_cons, List.zip_nil_right] at hp
  simp only [Bool.false_eq_true, if_false] at hs ho
  have go : ∀ {k1 k2 k3 : Int} {v1 v2 v3 : Value}, ps = [(k1, v1), (k2, v2), (k3, v3)] → out = List.toArray [v1, v2, v3] ∧ k1 ≤ k2 ∧ k2 ≤ k3 := by
    intro k1 k2 k3 v1 v2 v3 e
    subst e
    rw [List.pairwise_cons, List.pairwise_cons] at hs
    exact ⟨eo _ ho, hs.1 (k2, v2) (.head _), hs.2.1 (k3, v3) (.head _)⟩
  rcases ksk_perm3 hp with e | e | e | e | e | e
  · exact ⟨_, _, _, .inl (go e)⟩
  · exact ⟨_, _, _, .inr (.inl (go e))⟩
  · exact ⟨_, _, _, .inr (.inr (.inl (go e)))⟩
  · exact ⟨_, _, _, .inr (.inr (.inr (.inl (go e))))⟩
  · exact ⟨_, _, _, .inr (.inr (.inr (.inr (.inl (go e)))))⟩
  · exact ⟨_, _, _, .inr (.inr (.inr (.inr (.inr (go e)))))⟩
end Mine
end
section
open PySem PySem.W PySem.Calls PyProof.Rows
set_option Elab.async false
set_option maxRecDepth 100000
set_option maxHeartbeats 2000000
namespace Mine
def dayI (x : Int) : Int := (x * 1000003).fmod 3652365
def secI (x : Int) : Int := (x * 50021).fmod 86400
def zonI (x : Int) : PySem.Str := if x.fmod 3 = 0 then PySem.Str.ofString "-0000" else if x.fmod 3 = 1 then PySem.Str.ofString "+0000" else PySem.Str.ofString "GMT"
def momI (x : Int) : Int := 86400 * dayI x + secI x
def linI (x : Int) : PySem.Str := lineOf (dayI x) (secI x) (zonI x)
theorem dayI_at (x : Int) : 0 ≤ dayI x ∧ dayI x < 3652365 := by
  unfold dayI
  exact ⟨Int.fmod_nonneg_of_pos _ (by decide), Int.fmod_lt_of_pos _ (by decide)⟩
theorem secI_at (x : Int) : 0 ≤ secI x ∧ secI x < 86400 := by
  unfold secI
  exact ⟨Int.fmod_nonneg_of_pos _ (by decide), Int.fmod_lt_of_pos _ (by decide)⟩
theorem mix_eq {d e s t : Int} (s0 : 0 ≤ s) (s1 : s < 86400) (t0 : 0 ≤ t) (t1 : t < 86400) (h : 86400 * d + s = 86400 * e + t) : d = e ∧ s = t := by omega
theorem mix_lt {d e s t : Int} (s0 : 0 ≤ s) (t1 : t < 86400) (h : 86400 * d + s < 86400 * e + t) : d < e ∨ (d = e ∧ s < t) := by omega
theorem zone_of (x : Int) : (x * 1000003) % 3652365 % 3 = x % 3 := by omega
theorem lin_same {a b : Int} (h : momI a = momI b) : linI a = linI b := by
  obtain ⟨hd, hs⟩ := mix_eq (secI_at a).1 (secI_at a).2 (secI_at b).1 (secI_at b).2 h
  have hz : zonI a = zonI b := by
    have e : a.fmod 3 = b.fmod 3 := by
      unfold dayI at hd
      rw [Int.fmod_eq_emod_of_nonneg _ (by decide), Int.fmod_eq_emod_of_nonneg _ (by decide)] at hd ⊢
      rw [← zone_of a, ← zone_of b, hd]
    unfold zonI
    rw [e]
  unfold linI
  rw [hd, hs, hz]
theorem lex_age {a a' r r' : Int} (h0 : 0 ≤ r) (h1 : r' < 146097) (h : 146097 * a + r < 146097 * a' + r') : a < a' ∨ (a = a' ∧ r < r') := by omega
theorem lex_hun {a a' r r' : Int} (h0 : 0 ≤ r) (g1 : a ≤ 3) (h1 : r' < 36525) (h2 : a' < 3 → r' < 36524) (h : 36524 * a + r < 36524 * a' + r') : a < a' ∨ (a = a' ∧ r < r') := by omega
theorem lex_four {a a' r r' : Int} (h0 : 0 ≤ r) (h1 : r' < 1461) (h : 1461 * a + r < 1461 * a' + r') : a < a' ∨ (a = a' ∧ r < r') := by omega
theorem lex_one {a a' r r' : Int} (h0 : 0 ≤ r) (g1 : a ≤ 3) (h1 : r' < 366) (h2 : a' < 3 → r' < 365) (h : 365 * a + r < 365 * a' + r') : a < a' ∨ (a = a' ∧ r < r') := by omega
theorem yr_age {a a' x x' : Int} (h0 : x ≤ 399) (h1 : 0 ≤ x') (h : a < a') : 400 * a + x < 400 * a' + x' := by omega
theorem yr_hun {a a' x x' : Int} (h0 : x ≤ 99) (h1 : 0 ≤ x') (h : a < a') : 100 * a + x < 100 * a' + x' := by omega
theorem yr_four {a a' x x' : Int} (h0 : x ≤ 3) (h1 : 0 ≤ x') (h : a < a') : 4 * a + x < 4 * a' + x' := by omega
theorem year_lex {a h f o n a' h' f' o' n' : Int} (g0 : 0 ≤ h) (g1 : h ≤ 3) (f0 : 0 ≤ f) (f1 : f ≤ 24) (o0 : 0 ≤ o) (o1 : o ≤ 3) (n0 : 0 ≤ n)
    (g0' : 0 ≤ h') (f0' : 0 ≤ f') (o0' : 0 ≤ o') (o1' : o' ≤ 3) (n0' : 0 ≤ n') (n1' : n' ≤ 365) (k1' : o' < 3 → n' < 365) (k2' : 1461 * f' + 365 * o' + n' < 36525) (k3' : h' < 3 → 1461 * f' + 365 * o' + n' < 36524) (b' : h' ≤ 3)
    (hl : 146097 * a + 36524 * h + 1461 * f + 365 * o + n < 146097 * a' + 36524 * h' + 1461 * f' + 365 * o' + n') :
    400 * a + 100 * h + 4 * f + o < 400 * a' + 100 * h' + 4 * f' + o' ∨ (400 * a + 100 * h + 4 * f + o = 400 * a' + 100 * h' + 4 * f' + o' ∧ n < n') := by
  have q3 : 0 ≤ 365 * o + n := by omega
  have q3' : 365 * o' + n' < 1461 := by omega
  have q2 : 0 ≤ 1461 * f + (365 * o + n) := by omega
  have q1 : 0 ≤ 36524 * h + (1461 * f + (365 * o + n)) := by omega
  have q2' : 1461 * f' + (365 * o' + n') < 36525 := by omega
  have q2'' : h' < 3 → 1461 * f' + (365 * o' + n') < 36524 := by omega
  have q1' : 36524 * h' + (1461 * f' + (365 * o' + n')) < 146097 := by omega
  have y1 : 4 * f + o ≤ 99 := by omega
  have y1' : 0 ≤ 4 * f' + o' := by omega
  have y0 : 100 * h + (4 * f + o) ≤ 399 := by omega
  have y0' : 0 ≤ 100 * h' + (4 * f' + o') := by omega
  simp only [Int.add_assoc] at hl ⊢
  rcases lex_age q1 q1' hl with c | ⟨rfl, hl1⟩
  · exact .inl (yr_age y0 y0' c)
  rcases lex_hun q2 g1 q2' q2'' hl1 with c | ⟨rfl, hl2⟩
  · exact .inl (Int.add_lt_add_left (yr_hun y1 y1' c) _)
  rcases lex_four q3 q3' hl2 with c | ⟨rfl, hl3⟩
  · exact .inl (Int.add_lt_add_left (Int.add_lt_add_left (yr_four o1 o0' c) _) _)
  rcases lex_one n0 o1 (Int.lt_add_one_of_le n1') k1' hl3 with c | ⟨rfl, hl4⟩
  · exact .inl (Int.add_lt_add_left (Int.add_lt_add_left (Int.add_lt_add_left c _) _) _)
  exact .inr ⟨rfl, hl4⟩
theorem mon_lex {n n' : Int} (h : n < n') : (2141 * n + 197913) / 65536 < (2141 * n' + 197913) / 65536 ∨ ((2141 * n + 197913) / 65536 = (2141 * n' + 197913) / 65536 ∧ (2141 * n + 197913) % 65536 / 2141 < (2141 * n' + 197913) % 65536 / 2141) := by omega
theorem civ_lex {yd ye md me pd pe : Int} (m3 : 3 ≤ md) (m3' : 3 ≤ me) (m4 : md ≤ 14) (m4' : me ≤ 14) (h : yd < ye ∨ (yd = ye ∧ (md < me ∨ (md = me ∧ pd < pe)))) :
    civY yd md < civY ye me ∨ (civY yd md = civY ye me ∧ (civM md < civM me ∨ (civM md = civM me ∧ pd < pe))) := by
  unfold civY civM
  by_cases b1 : 12 < md
  · rw [if_pos b1, if_pos b1]
    by_cases b2 : 12 < me
    · rw [if_pos b2, if_pos b2]; omega
    · rw [if_neg b2, if_neg b2]; omega
  · rw [if_neg b1, if_neg b1]
    by_cases b2 : 12 < me
    · rw [if_pos b2, if_pos b2]; omega
    · rw [if_neg b2, if_neg b2]; omega
theorem day_lex {d e : Int} (h0 : 0 ≤ d) (h1 : e < 3652365) (hde : d < e) : yC d < yC e ∨ (yC d = yC e ∧ (mC d < mC e ∨ (mC d = mC e ∧ placeP d < placeP e))) := by
  obtain ⟨a, h, f, o, n, ea, eh, ef, eo, en, ed, a0, a1, g0, g1, f0, f1, o0, o1, n0, n1, k1, k2, k3, ey, el⟩ := parts h0 (Int.lt_trans hde h1)
  obtain ⟨a', h', f', o', n', ea', eh', ef', eo', en', ed', a0', a1', g0', g1', f0', f1', o0', o1', n0', n1', k1', k2', k3', ey', el'⟩ := parts (Int.le_of_lt (Int.lt_of_le_of_lt h0 hde)) h1
  obtain ⟨_, _, m3, m4, -⟩ := mon_all n0 n1
  obtain ⟨_, _, m3', m4', -⟩ := mon_all n0' n1'
  rw [ed, ed'] at hde
  have hY := year_lex g0 g1 f0 f1 o0 o1 n0 g0' f0' o0' o1' n0' n1' k1' k2' k3' g1' hde
  rw [← ey, ← ey'] at hY
  unfold yC mC monthP placeP
  rw [el, el']
  refine civ_lex m3 m3' m4 m4' ?_
  rcases hY with c | ⟨c, c2⟩
  · exact .inl c
  · exact .inr ⟨c, mon_lex c2⟩
theorem two_lt {p q : Nat} (h : p < q) : p / 10 < q / 10 ∨ (p / 10 = q / 10 ∧ p % 10 < q % 10) := by omega
theorem four_lt {p q : Nat} (h : p < q) : p / 100 < q / 100 ∨ (p / 100 = q / 100 ∧ p % 100 < q % 100) := by omega
theorem two_list {a b c e : Nat} (h : a < c ∨ (a = c ∧ b < e)) (r r' : List Nat) : (48 + a) :: (48 + b) :: r < (48 + c) :: (48 + e) :: r' := by
  rcases h with h | ⟨rfl, h⟩
  · exact List.cons_lt_cons_iff.mpr (.inl (Nat.add_lt_add_left h _))
  · exact List.cons_lt_cons_iff.mpr (.inr ⟨rfl, List.cons_lt_cons_iff.mpr (.inl (Nat.add_lt_add_left h _))⟩)
theorem fig2_lt {n m : Int} (h0 : 0 ≤ n) (h : n < m) (r r' : List Nat) : (fig2 n).cps.toList ++ r < (fig2 m).cps.toList ++ r' :=
  two_list (two_lt (by omega)) r r'
theorem dig4 (p : Nat) : p / 1000 = p / 100 / 10 ∧ p / 10 % 10 = p % 100 / 10 ∧ p % 10 = p % 100 % 10 :=
  ⟨(Nat.div_div_eq_div_mul p 100 10).symm, (Nat.mod_mul_right_div_self p 10 10).symm, (Nat.mod_mod_of_dvd p (by decide : 10 ∣ 100)).symm⟩
theorem fig4_lt {n m : Int} (h0 : 0 ≤ n) (h : n < m) (r r' : List Nat) : (fig4 n).cps.toList ++ r < (fig4 m).cps.toList ++ r' := by
  have hn : n.toNat < m.toNat := by omega
  unfold fig4
  obtain ⟨e1, e2, e3⟩ := dig4 n.toNat
  obtain ⟨f1, f2, f3⟩ := dig4 m.toNat
  rw [e1, e2, e3, f1, f2, f3]
  rcases four_lt hn with c | ⟨c, c2⟩
  · exact two_list (two_lt c) _ _
  · rw [c]
    exact List.cons_lt_cons_iff.mpr (.inr ⟨rfl, List.cons_lt_cons_iff.mpr (.inr ⟨rfl, two_list (two_lt c2) _ _⟩)⟩)
theorem app_lt {l r r' : List Nat} (h : r < r') : l ++ r < l ++ r' := by
  induction l with
  | nil => exact h
  | cons a l ih => exact List.cons_lt_cons_iff.mpr (.inr ⟨rfl, ih⟩)
theorem key_cps (d s : Int) : (keyOf d s).cps.toList = (fig4 (yC d)).cps.toList ++ ((fig2 (mC d - 1)).cps.toList ++ ((fig2 (placeP d + 1)).cps.toList ++ ((fig2 (sH s)).cps.toList ++ ([58] ++ ((fig2 (sM s)).cps.toList ++ ([58] ++ ((fig2 (sS s)).cps.toList ++ []))))))) := by
  have c3 : PySem.Str.ofString ":" = ⟨#[58]⟩ := by decide +kernel
  unfold keyOf
  rw [c3]
  show ((fig4 (yC d)).cps ++ (fig2 (mC d - 1)).cps ++ (fig2 (placeP d + 1)).cps ++ ((fig2 (sH s)).cps ++ #[58] ++ (fig2 (sM s)).cps ++ #[58] ++ (fig2 (sS s)).cps)).toList = _
  simp only [Array.toList_append, List.append_assoc, List.append_nil]
theorem sec_lex {a b c d e f : Int} (b1 : e < 60) (c0 : 0 ≤ b) (c1 : c ≥ 0) (d1 : f < 60) (h : 3600 * a + 60 * b + c < 3600 * d + 60 * e + f) : a < d ∨ (a = d ∧ (b < e ∨ (b = e ∧ c < f))) := by omega
theorem key_lt {a b : Int} (h : momI a < momI b) : (keyOf (dayI a) (secI a)).cps.toList < (keyOf (dayI b) (secI b)).cps.toList := by
  obtain ⟨a1, a2, a3, a4, a5, a6, -, -⟩ := bnds (dayI_at a).1 (dayI_at a).2
  obtain ⟨c1, c2, c3, c4, c5, c6, c7⟩ := sbnds (secI_at a).1 (secI_at a).2
  obtain ⟨-, -, -, d4, -, d6, d7⟩ := sbnds (secI_at b).1 (secI_at b).2
  rw [key_cps, key_cps]
  rcases mix_lt (secI_at a).1 (secI_at b).2 h with hc | ⟨hc, hs⟩
  · rcases day_lex (dayI_at a).1 (dayI_at b).2 hc with hl | ⟨e1, hl | ⟨e2, hl⟩⟩
    · exact fig4_lt a1 hl _ _
    · rw [e1]; exact app_lt (fig2_lt (Int.sub_nonneg_of_le a3) (Int.sub_lt_sub_right hl 1) _ _)
    · rw [e1, e2]; exact app_lt (app_lt (fig2_lt (Int.le_trans (by decide) a5) (Int.add_lt_add_right hl 1) _ _))
  · rw [hc]
    refine app_lt (app_lt (app_lt ?_))
    rw [← c7, ← d7] at hs
    rcases sec_lex d4 c3 c5 d6 hs with hl | ⟨e1, hl | ⟨e2, hl⟩⟩
    · exact fig2_lt c1 hl _ _
    · rw [e1]; exact app_lt (app_lt (fig2_lt c3 hl _ _))
    · rw [e1, e2]; exact app_lt (app_lt (app_lt (app_lt (fig2_lt c5 hl _ _))))
theorem mom_le {a b : Int} (h : ¬ (keyOf (dayI b) (secI b)).cps.toList < (keyOf (dayI a) (secI a)).cps.toList) : momI a ≤ momI b :=
  Int.not_lt.mp fun g => h (key_lt g)
def Six (b1 b2 b3 a1 a2 a3 : Int) : Prop := (b1 = a1 ∧ b2 = a2 ∧ b3 = a3) ∨ (b1 = a1 ∧ b2 = a3 ∧ b3 = a2) ∨ (b1 = a2 ∧ b2 = a1 ∧ b3 = a3) ∨ (b1 = a2 ∧ b2 = a3 ∧ b3 = a1) ∨ (b1 = a3 ∧ b2 = a1 ∧ b3 = a2) ∨ (b1 = a3 ∧ b2 = a2 ∧ b3 = a1)
def Low (f : Int → Int) (b1 b3 a1 a2 a3 s : Int) : Prop := (f b1 ≤ f a1 ∧ f b1 ≤ f a2 ∧ f b1 ≤ f a3) ∧ (f a1 ≤ f b3 ∧ f a2 ≤ f b3 ∧ f a3 ≤ f b3) ∧ (b1 = a1 ∨ b1 = a2 ∨ b1 = a3) ∧ (b3 = a1 ∨ b3 = a2 ∨ b3 = a3) ∧ s = f a1 + f a2 + f a3
theorem sum6 (x y z : Int) : x + z + y = x + y + z ∧ y + x + z = x + y + z ∧ y + z + x = x + y + z ∧ z + x + y = x + y + z ∧ z + y + x = x + y + z := by omega
theorem six_low {b1 b2 b3 a1 a2 a3 : Int} (f : Int → Int) (h : Six b1 b2 b3 a1 a2 a3) (h1 : f b1 ≤ f b2) (h2 : f b2 ≤ f b3) : Low f b1 b3 a1 a2 a3 (f b1 + f b2 + f b3) := by
  have h3 := Int.le_trans h1 h2
  have r := fun x => Int.le_refl (f x)
  have s := sum6 (f a1) (f a2) (f a3)
  unfold Six at h
  rcases h with ⟨rfl, rfl, rfl⟩ | ⟨rfl, rfl, rfl⟩ | ⟨rfl, rfl, rfl⟩ | ⟨rfl, rfl, rfl⟩ | ⟨rfl, rfl, rfl⟩ | ⟨rfl, rfl, rfl⟩
  · exact ⟨⟨r _, h1, h3⟩, ⟨h3, h2, r _⟩, .inl rfl, .inr (.inr rfl), rfl⟩
  · exact ⟨⟨r _, h3, h1⟩, ⟨h3, r _, h2⟩, .inl rfl, .inr (.inl rfl), s.1⟩
  · exact ⟨⟨h1, r _, h3⟩, ⟨h2, h3, r _⟩, .inr (.inl rfl), .inr (.inr rfl), s.2.1⟩
  · exact ⟨⟨h3, r _, h1⟩, ⟨r _, h3, h2⟩, .inr (.inl rfl), .inl rfl, s.2.2.1⟩
  · exact ⟨⟨h1, h3, r _⟩, ⟨h2, r _, h3⟩, .inr (.inr rfl), .inr (.inl rfl), s.2.2.2.1⟩
  · exact ⟨⟨h3, h1, r _⟩, ⟨r _, h2, h3⟩, .inr (.inr rfl), .inl rfl, s.2.2.2.2⟩
theorem pick3 {P : Int → Prop} {b a1 a2 a3 : Int} (h : b = a1 ∨ b = a2 ∨ b = a3) (p : P a1 ∧ P a2 ∧ P a3) : P b := by
  rcases h with rfl | rfl | rfl
  · exact p.1
  · exact p.2.1
  · exact p.2.2
theorem low_eq {f : Int → Int} {b1 b3 c1 c3 a1 a2 a3 s t : Int} (h : Low f b1 b3 a1 a2 a3 s) (g : Low f c1 c3 a1 a2 a3 t) : f b1 = f c1 ∧ f b3 = f c3 ∧ s = t :=
  ⟨Int.le_antisymm (pick3 (P := fun c => f b1 ≤ f c) g.2.2.1 h.1) (pick3 (P := fun c => f c1 ≤ f c) h.2.2.1 g.1), Int.le_antisymm (pick3 (P := fun b => f b ≤ f c3) h.2.2.2.1 g.2.1) (pick3 (P := fun b => f b ≤ f b3) g.2.2.2.1 h.2.1), h.2.2.2.2.trans g.2.2.2.2.symm⟩
theorem mid_eq {x1 x2 x3 y1 y2 y3 : Int} (h : x1 = y1 ∧ x3 = y3 ∧ x1 + x2 + x3 = y1 + y2 + y3) : x2 = y2 := by omega
/-- the lines as the sort leaves them -/
theorem out_same {a1 a2 a3 c1 c2 c3 : Int} {u1 u2 u3 : Tok} {out : Array Value} (h : SOut [keyOf (dayI a1) (secI a1), keyOf (dayI a2) (secI a2), keyOf (dayI a3) (secI a3)] [.str (linI a1) u1, .str (linI a2) u2, .str (linI a3) u3] out.toList)
    (hc : Six c1 c2 c3 a1 a2 a3) (hA : momI c1 ≤ momI c2) (hB : momI c2 ≤ momI c3) : ∃ t1 t2 t3 : Tok, out = List.toArray [.str (linI c1) t1, .str (linI c2) t2, .str (linI c3) t3] := by
  obtain ⟨ps, hp, ho, hs⟩ := h
  have eo : ∀ l, out.toList = l → out = List.toArray l := fun l e => by rw [← e, Array.toArray_toList]
  have key : ∃ b1 b2 b3 t1 t2 t3, out = List.toArray [.str (linI b1) t1, .str (linI b2) t2, .str (linI b3) t3] ∧ momI b1 ≤ momI b2 ∧ momI b2 ≤ momI b3 ∧ Six b1 b2 b3 a1 a2 a3 := by
    simp only [List.zip_cons_cons, List.zip_nil_right] at hp
    have go : ∀ {b1 b2 b3 : Int} {t1 t2 t3 : Tok}, ps = [(keyOf (dayI b1) (secI b1), .str (linI b1) t1), (keyOf (dayI b2) (secI b2), .str (linI b2) t2), (keyOf (dayI b3) (secI b3), .str (linI b3) t3)] → Six b1 b2 b3 a1 a2 a3 →
        ∃ b1 b2 b3 t1 t2 t3, out = List.toArray [.str (linI b1) t1, .str (linI b2) t2, .str (linI b3) t3] ∧ momI b1 ≤ momI b2 ∧ momI b2 ≤ momI b3 ∧ Six b1 b2 b3 a1 a2 a3 := by
      intro b1 b2 b3 t1 t2 t3 e h6
      subst e
      rw [List.pairwise_cons, List.pairwise_cons] at hs
      have p1 : momI b1 ≤ momI b2 := mom_le (hs.1 (keyOf (dayI b2) (secI b2), .str (linI b2) t2) (.head _))
      have p2 : momI b2 ≤ momI b3 := mom_le (hs.2.1 (keyOf (dayI b3) (secI b3), .str (linI b3) t3) (.head _))
      exact ⟨b1, b2, b3, t1, t2, t3, eo _ ho, p1, p2, h6⟩
    rcases ksk_perm3 hp with e | e | e | e | e | e
    · exact go e (.inl ⟨rfl, rfl, rfl⟩)
    · exact go e (.inr (.inl ⟨rfl, rfl, rfl⟩))
    · exact go e (.inr (.inr (.inl ⟨rfl, rfl, rfl⟩)))
    · exact go e (.inr (.inr (.inr (.inl ⟨rfl, rfl, rfl⟩))))
    · exact go e (.inr (.inr (.inr (.inr (.inl ⟨rfl, rfl, rfl⟩)))))
    · exact go e (.inr (.inr (.inr (.inr (.inr ⟨rfl, rfl, rfl⟩)))))
  obtain ⟨b1, b2, b3, t1, t2, t3, e, gA, gB, hb⟩ := key
  have el := low_eq (six_low momI hb gA gB) (six_low momI hc hA hB)
  have e1 := el.1
  have e3 := el.2.1
  have e2 := mid_eq el
  rw [lin_same e1, lin_same e2, lin_same e3] at e
  exact ⟨t1, t2, t3, e⟩
theorem z0 (x y z : Value) : (0 : Int) ≤ 0 ∧ (0 : Int) < 2 ^ 63 ∧ [x, y, z][(0 : Int).toNat]? = some x := ⟨by decide, by decide, rfl⟩
theorem z1 (x y z : Value) : (0 : Int) ≤ 1 ∧ (1 : Int) < 2 ^ 63 ∧ [x, y, z][(1 : Int).toNat]? = some y := ⟨by decide, by decide, rfl⟩
theorem z2 (x y z : Value) : (0 : Int) ≤ 2 ∧ (2 : Int) < 2 ^ 63 ∧ [x, y, z][(2 : Int).toNat]? = some z := ⟨by decide, by decide, rfl⟩
/-- both lists' ends: where the order's spots lead is what the other sort left -/
theorem ends {a1 a2 a3 : Int} {u1 u2 u3 : Tok} {vs : List Value} {out out2 : Array Value} (hl : vs.length = [momI a1, momI a2, momI a3].length) (hi : ∀ (i : Nat) (v : Value), vs[i]? = some v → ∃ t : Tok, v = Value.int (0 + (i : Int) * 1) t)
    (h : KskOut false [momI a1, momI a2, momI a3] vs out.toList) (h2 : SOut [keyOf (dayI a1) (secI a1), keyOf (dayI a2) (secI a2), keyOf (dayI a3) (secI a3)] [.str (linI a1) u1, .str (linI a2) u2, .str (linI a3) u3] out2.toList) :
    ∃ (i1 i2 i3 : Int) (w1 w2 w3 v1 v2 v3 x1 x2 x3 : Tok) (T1 T2 T3 : PySem.Str), out = List.toArray [.int i1 w1, .int i2 w2, .int i3 w3] ∧ out2 = List.toArray [.str T1 x1, .str T2 x2, .str T3 x3] ∧
      (0 ≤ i1 ∧ i1 < 2 ^ 63 ∧ [Value.str (linI a1) u1, Value.str (linI a2) u2, Value.str (linI a3) u3][i1.toNat]? = some (.str T1 v1)) ∧ (0 ≤ i2 ∧ i2 < 2 ^ 63 ∧ [Value.str (linI a1) u1, Value.str (linI a2) u2, Value.str (linI a3) u3][i2.toNat]? = some (.str T2 v2)) ∧
      (0 ≤ i3 ∧ i3 < 2 ^ 63 ∧ [Value.str (linI a1) u1, Value.str (linI a2) u2, Value.str (linI a3) u3][i3.toNat]? = some (.str T3 v3)) := by
  obtain ⟨w1, w2, w3, hcs⟩ := order_cases hl hi h
  rcases hcs with ⟨hO, hA, hB⟩ | ⟨hO, hA, hB⟩ | ⟨hO, hA, hB⟩ | ⟨hO, hA, hB⟩ | ⟨hO, hA, hB⟩ | ⟨hO, hA, hB⟩
  · obtain ⟨x1, x2, x3, hX⟩ := out_same h2 (.inl ⟨rfl, rfl, rfl⟩) hA hB
    exact ⟨_, _, _, _, _, _, _, _, _, _, _, _, _, _, _, hO, hX, z0 _ _ _, z1 _ _ _, z2 _ _ _⟩
  · obtain ⟨x1, x2, x3, hX⟩ := out_same h2 (.inr (.inl ⟨rfl, rfl, rfl⟩)) hA hB
    exact ⟨_, _, _, _, _, _, _, _, _, _, _, _, _, _, _, hO, hX, z0 _ _ _, z2 _ _ _, z1 _ _ _⟩
  · obtain ⟨x1, x2, x3, hX⟩ := out_same h2 (.inr (.inr (.inl ⟨rfl, rfl, rfl⟩))) hA hB
    exact ⟨_, _, _, _, _, _, _, _, _, _, _, _, _, _, _, hO, hX, z1 _ _ _, z0 _ _ _, z2 _ _ _⟩
  · obtain ⟨x1, x2, x3, hX⟩ := out_same h2 (.inr (.inr (.inr (.inl ⟨rfl, rfl, rfl⟩)))) hA hB
    exact ⟨_, _, _, _, _, _, _, _, _, _, _, _, _, _, _, hO, hX, z1 _ _ _, z2 _ _ _, z0 _ _ _⟩
  · obtain ⟨x1, x2, x3, hX⟩ := out_same h2 (.inr (.inr (.inr (.inr (.inl ⟨rfl, rfl, rfl⟩))))) hA hB
    exact ⟨_, _, _, _, _, _, _, _, _, _, _, _, _, _, _, hO, hX, z2 _ _ _, z0 _ _ _, z1 _ _ _⟩
  · obtain ⟨x1, x2, x3, hX⟩ := out_same h2 (.inr (.inr (.inr (.inr (.inr ⟨rfl, rfl, rfl⟩))))) hA hB
    exact ⟨_, _, _, _, _, _, _, _, _, _, _, _, _, _, _, hO, hX, z2 _ _ _, z1 _ _ _, z0 _ _ _⟩
end Mine
end
section
open PySem PySem.W PySem.Calls PyProof.Rows
set_option Elab.async false
set_option maxRecDepth 100000
set_option maxHeartbeats 4000000
namespace Mine
def LawEnd (g : Heap) (os : OsState) (tabs : List (Addr × Addr)) (r : Result) (s' : Shared) : Prop :=
  r = .ok (.ret (.bool true)) ∧ (∀ b o, g.get? b = some o → s'.heap.get? b = some o) ∧ s'.os = os ∧ AllBare s'.gens ∧ GrownAll tabs s'.heap
theorem my_post {M : Model} {A : Around} {cd : Code} {s s₁ : Shared} {cw : ClaimW} {cl : PySem.Str → Option Addr} {mean : ExcName → Option Value} {args : List WData} {tabs : List (Addr × Addr)} (hT : TabsAt tabs s₁.heap) (hr : ∀ x, cw.raises args x = false)
    (hp : cw.post args (.bool true) args = true)
    (h : codeAny M A cd (LawEnd (ghostOf s₁.heap tabs) s₁.os tabs) s) : codeAny M A cd (GoodWG cw cl mean args s₁) s :=
  codeAny_mono h fun r s' ⟨hc, hk, hos, hg, hgr⟩ => by
    have keep : ∀ b o, b ∉ tabs.map (·.2) → s₁.heap.get? b = some o → s'.heap.get? b = some o := fun b o hb e => hk b o (ghost_ne e hb)
    have grown : ∀ b o, b ∈ tabs.map (·.2) → s₁.heap.get? b = some o → isCodeTable s₁.heap b ∧ o = tabObj #[] ∧ ∃ ps, s'.heap.get? b = some (tabObj ps) := fun b o hb e => by
      obtain ⟨q, hq, rfl⟩ := List.mem_map.mp hb
      have e2 := (hT q hq).2
      rw [e] at e2
      exact ⟨((hT q hq).1.tab (hT q hq).2).isCodeTable, Option.some.inj e2, hgr.get q hq⟩
    refine ⟨.inl ⟨_, _, [], hc, hr, ReadsW.bool true, hp, fun _ => ⟨List.nodup_nil, fun _ hm => (nomatch hm)⟩⟩, ⟨fun b o e => ?_, fun b o e => ?_⟩, hos, hg⟩
    · by_cases hb : b ∈ tabs.map (·.2)
      · obtain ⟨ht, rfl, ps, hP⟩ := grown b o hb e
        exact .inr (.inl ⟨ht, rfl, #[], ps, rfl, by rw [Array.empty_append]; exact hP⟩)
      · exact .inl (keep b o hb e)
    · by_cases hb : b ∈ tabs.map (·.2)
      · obtain ⟨_, _, ps, hP⟩ := grown b o hb e
        exact ⟨_, hP⟩
      · exact ⟨o, keep b o hb e⟩
theorem slice_tmp {prog : Program} {w : World} {A : Around} {E : Value → Shared → Prop} {s : Shared} {h₀ : Heap} {L l : Addr} {m : PySem.Str → Option Value} {news : List (Addr × Obj)} {value slice : PySem.Expr} {vs : List Value} {ms : List Int} {vl vu : Value} {lo hi : Option Int} {Q : Value → Shared → Prop}
    (F : Fr h₀ L s.heap m) (N : News h₀ L s.heap news) (hl : s.heap.IsList l vs.toArray) (pl : IsPart vl lo) (pu : IsPart vu hi) (hm : IntsAre (slicePick vs.toArray lo hi none).toList ms)
    (h : ∀ D ws h', Fr h₀ L h' m → News h₀ L h' ((D, listOf (List.toArray ws) 0) :: news) → (∀ p ∈ news, p.1 < D) → IntsAre ws ms → Q (.ref D) { s with heap := h' })
    (hs : subscripted slice false (.ref l) (.ref s.heap.objs.size) = operate [.ref s.heap.objs.size, .ref l] (getItem (.ref l) (.ref s.heap.objs.size))) (hz : vs.toArray.size ≤ sizeLine) :
    wpAny (model prog w) A (subscriptTail value slice (.ref l) (.ref s.heap.objs.size)) Q E { s with heap := s.heap.push { cls := .type "slice", data := .fields #[vl, vu, .none] } } := by
  refine tail_any (Heap.IsList.typeIs (s := { s with heap := s.heap.push { cls := .type "slice", data := .fields #[vl, vu, .none] } }) (hl.push _)) list_getitem_lookup
    (wpAny_getItem_list_slice (hl.push _) (Heap.IsSliceOf.new ..) pl pu .none (by simp) ?_ hz) hs
  have N1 := News.push (F.push { cls := .type "slice", data := .fields #[vl, vu, .none] }) (N.grown fun _ _ e => Heap.get?_push_of_some _ e) { cls := .type "list", data := .seq (slicePick vs.toArray lo hi none) }
  rw [Heap.size_push] at N1
  show Q (.ref (s.heap.push _).objs.size) _
  rw [Heap.size_push]
  refine h _ (slicePick vs.toArray lo hi none).toList _ ((F.push _).push _) ?_ (fun p hp => Nat.lt_succ_of_lt (Heap.lt_size (N p hp).1)) hm
  rw [Array.toArray_toList]
  exact N1
local macro_rules | `(tactic| walk_at "subscriptTail List Slice ref ref") => `(tactic| (k_here; (with_reducible show wpAny _ _ (subscriptTail _ (PySem.Expr.Slice _ _ none _) (Value.ref _) (Value.ref _)) _ _ _); k_dflt (refine' slice_tmp ?F ?N ?l ?p ?q ?m ?_ ?s ?z; (case F => k_asm); (case N => k_asm); (case l => kmk_list); (case p => kmk_part); (case q => kmk_part); (case m => exact kmk_from (.cons _ _ (.cons _ _ (.cons _ _ .nil))) (by omega)); (case s => with_unfolding_all rfl); (case z => exact Nat.le_of_ble_eq_true rfl)); intro D' ws' h' F' N' l1 hI'))
local macro_rules | `(tactic| walk_at "subscriptTail") => `(tactic| (k_here; (with_reducible show wpAny _ _ (subscriptTail _ (PySem.Expr.Slice _ _ none _) (Value.ref _) (Value.ref _)) _ _ _); k_dflt (refine' slice_tmp ?F ?N ?l ?p ?q ?m ?_ ?s ?z; (case F => k_asm); (case N => k_asm); (case l => kmk_list); (case p => kmk_part); (case q => kmk_part); (case m => exact kmk_from (.cons _ _ (.cons _ _ (.cons _ _ .nil))) (by omega)); (case s => with_unfolding_all rfl); (case z => exact Nat.le_of_ble_eq_true rfl)); intro D' ws' h' F' N' l1 hI'))
local macro_rules | `(tactic| walk_at "exec For Name BinOp cons nil") => `(tactic| (k_here; refine wpAny_For ?_ (fun _ => rfl)))
structure Stopped (P : Prop) : Prop where
  out : P
local macro_rules | `(tactic| walk_at "pyIter ref") => `(tactic| (k_here; refine Stopped.out ?_))
theorem spot_at {i : Nat} (h : i < 3) : 0 ≤ 0 + (i : Int) * 1 ∧ 0 + (i : Int) * 1 < 2 ^ 63 ∧ (0 + (i : Int) * 1).toNat = i := by omega
def RelL (pre : List Int) (am al : Array Value) : Prop := ∃ l : List (Int × Tok × Tok), l.map (·.1) = pre ∧ am = (l.map fun q => Value.int (momI q.1) q.2.1).toArray ∧ al = (l.map fun q => Value.str (linI q.1) q.2.2).toArray
theorem zone_item {prog : Program} {w : World} {A : Around} {E : Value → Shared → Prop} {s : Shared} {value slice : PySem.Expr} {T : Addr} {x : Int} {u a b c : Tok} {Q : Value → Shared → Prop}
    (ht : IsTup s.heap T #[.str (PySem.Str.ofString "-0000") a, .str (PySem.Str.ofString "+0000") b, .str (PySem.Str.ofString "GMT") c]) (h : ∀ tz, Q (.str (zonI x) tz) s)
    (hs : ∀ k, subscripted slice false (.ref T) (.int k u) = operate [.ref T, .int k u] (getItem (.ref T) (.int k u))) :
    wpAny (model prog w) A (subscriptTail value slice (.ref T) (.int (x.fmod 3) u)) Q E s := by
  have h0 : 0 ≤ x.fmod 3 := Int.fmod_nonneg_of_pos _ (by decide)
  have h1 : x.fmod 3 < 3 := Int.fmod_lt_of_pos _ (by decide)
  have : x.fmod 3 = 0 ∨ x.fmod 3 = 1 ∨ x.fmod 3 = 2 := by omega
  unfold zonI at h
  rcases this with e | e | e
  · rw [e] at h ⊢; exact item_tupleT (l := [_, _, _]) ht (by decide) (by decide) rfl rfl (h a) (hs 0)
  · rw [e] at h ⊢; exact item_tupleT (l := [_, _, _]) ht (by decide) (by decide) rfl rfl (h b) (hs 1)
  · rw [e] at h ⊢; exact item_tupleT (l := [_, _, _]) ht (by decide) (by decide) rfl rfl (h c) (hs 2)
theorem zon_len (x : Int) : (zonI x).length ≤ 5 := by
  unfold zonI
  repeat' split
  all_goals decide
local macro_rules | `(tactic| walk_at "subscriptTail") => `(tactic| (k_here; (with_reducible show wpAny _ _ (subscriptTail _ _ (Value.ref _) (Value.int (Int.fmod _ _) _)) _ _ _); k_dflt (refine' zone_item ?k1 ?_ ?k6; (case k1 => exact News.isTup (by k_asm) (by k_mem)); (case k6 => intro _; with_unfolding_all rfl)); intro tz9))
local macro_rules | `(tactic| walk_at "call ref") => `(tactic| (k_here; (with_reducible show wpAny _ _ (call (Value.ref 98) [_]) _ _ _); k_dflt (refine groups_spec' _ _ (by omega) (by omega) (by k_asm) (by k_asm) (by k_asm) (by k_asm) (by k_asm) (by first | assumption | exact rfl) (by ktr_room) (by ktr_units) ?_; intro D9 t91 t92 t93 t94 c9 h9 tk9 g9 F9 N9 l9 b9; (try dsimp only); (try simp only [AllLt, and_true] at l9))))
local macro_rules | `(tactic| walk_at "call ref") => `(tactic| (k_here; (with_reducible show wpAny _ _ (call (Value.ref 105) [_]) _ _ _); k_dflt (refine products_spec _ _ (by omega) (by omega) (by k_asm) (by k_asm) (by k_asm) (by k_asm) (by k_asm) (by first | assumption | exact rfl) (by ktr_room) (by ktr_units) ?_; intro D9 t91 t92 t93 t94 c9 h9 tk9 F9 N9 l9; (try dsimp only); (try k_lt l9))))
local macro_rules | `(tactic| walk_at "call ref") => `(tactic| (k_here; (with_reducible show wpAny _ _ (call (Value.ref 112) [_, _, _]) _ _ _); k_dflt (refine civil_spec _ _ _ _ _ _ (by k_asm) (by k_asm) (by k_asm) (by k_asm) (by k_asm) (by first | assumption | exact rfl) (by ktr_room) (by ktr_units) ?_; intro D9 t91 t92 t93 c9 h9 tk9 F9 N9 l9; (try dsimp only); (try k_lt l9))))
local macro_rules | `(tactic| walk_at "call ref") => `(tactic| (k_here; (with_reducible show wpAny _ _ (call (Value.ref 21) [_, _]) _ _ _); k_dflt (refine format_spec' (Int.fmod (_ * 1000003) 3652365) (Int.fmod (_ * 50021) 86400) _ (zon_len _) (by assumption) (by assumption) (by assumption) (by assumption) _ _ _ _ _ _ _ _ _ _ (by k_asm) (by k_asm) (by k_asm) (by k_asm) (by k_asm) (by first | assumption | exact rfl) (by ktr_room) (by ktr_units) ?_; intro t9 h9 tk9 F9 N9; (try dsimp only))))
local macro_rules | `(tactic| walk_at "call ref") => `(tactic| (k_here; (with_reducible show wpAny _ _ (call (Value.ref 126) [_, _]) _ _ _); k_dflt (refine plain_spec' (Int.fmod (_ * 1000003) 3652365) (Int.fmod (_ * 50021) 86400) _ (zon_len _) (by assumption) (by assumption) (by assumption) (by assumption) _ _ _ _ _ _ _ _ _ _ (by k_asm) (by k_asm) (by k_asm) (by k_asm) (by k_asm) (by first | assumption | exact rfl) (by ktr_room) (by ktr_units) ?_; intro t9 h9 tk9 F9 N9; (try dsimp only))))
local macro_rules | `(tactic| walk_at "call ref") => `(tactic| (k_here; (with_reducible show wpAny _ _ (call (Value.ref 140) [_]) _ _ _); k_dflt (refine read_spec' _ _ _ (zon_len _) (by assumption) (by assumption) (by assumption) (by assumption) _ (by k_asm) (by k_asm) (by k_asm) (by k_asm) (by k_asm) (by first | assumption | exact rfl) (by ktr_room) (by ktr_units) ?_; intro D9 t91 t92 c9 h9 tk9 F9 N9 l9; (try dsimp only); (try simp only [AllLt, and_true] at l9))))
theorem ite_ne_self {a : PySem.Str} {p q : Prop} {d : Decidable ((a != a) = true)} (h : q) : @ite Prop ((a != a) = true) d p q := by
  rw [if_neg (by simp)]; exact h
local macro_rules | `(tactic| walk_at "ite") => `(tactic| (refine ite_ne_self ?_))
theorem rel_size {pre : List Int} {am al : Array Value} (h : RelL pre am al) : am.size = pre.length ∧ al.size = pre.length := by
  obtain ⟨l, h1, rfl, rfl⟩ := h
  rw [← h1]; simp
theorem rel_push {pre : List Int} {am al : Array Value} (h : RelL pre am al) (x : Int) (t u : Tok) : RelL (pre ++ [x]) (am.push (.int (momI x) t)) (al.push (.str (linI x) u)) := by
  obtain ⟨l, rfl, rfl, rfl⟩ := h
  exact ⟨l ++ [(x, t, u)], by simp, by simp, by simp⟩
theorem ns_len (l : List Int) : (List.take 3 l ++ List.drop (↑l.length : Int).toNat [7, -20, 1]).length = 3 := by
  simp only [List.length_append, List.length_take, List.length_drop, List.length_cons, List.length_nil]; omega
local macro_rules | `(tactic| walk_at "call builtin:list.append") => `(tactic| (k_here; (try dsimp only [List.cons_append, List.nil_append]); (with_reducible show wpAny _ _ (call (Value.builtin _) [Value.ref _, _]) _ _ _); k_dflt (refine' append_K ?k1 ?k2 ?k3 ?_ ?z; (case k1 => k_asm); (case k2 => k_asm); (case k3 => k_upd); (case z => assumption); k_whole); intro h' F' N'))
local macro_rules | `(tactic| walk_at "Exists") => `(tactic| (refine Stopped.out ?_))
theorem news_tl {h₀ h : Heap} {L : Addr} {a : Addr × Obj} {r : List (Addr × Obj)} (N : News h₀ L h (a :: r)) : News h₀ L h r := fun p hp => N p (.tail _ hp)
local macro_rules | `(tactic| walk_at "call builtin:sorted") => `(tactic| (k_here; ksk_kw; (show wpAny _ _ (call (Value.builtin _) [Value.ref _] [(PySem.Str.ofString "key", Value.ref _)]) _ _ _); refine Stopped.out ?_))
abbrev rngObj (n : Int) (t1 t2 t3 : Tok) : Obj := { cls := .type "range", data := .fields #[.int 0 t1, .int n t2, .int 1 t3] }
theorem range_K {prog : Program} {w : World} {A : Around} {E : Value → Shared → Prop} {s : Shared} {h₀ : Heap} {L : Addr} {m : PySem.Str → Option Value} {news : List (Addr × Obj)} {n : Int} {t : Tok} {Q : Value → Shared → Prop} (F : Fr h₀ L s.heap m) (N : News h₀ L s.heap news)
    (h : ∀ D h' tk t1 t2 t3, Fr h₀ L h' m → News h₀ L h' ((D, rngObj n t1 t2 t3) :: news) → (∀ p ∈ news, p.1 < D) → Q (.ref D) { s with heap := h', toks := tk }) :
    wpAny (model prog w) A (call (.type "range") [.int n t]) Q E s :=
  call_range_1 (h _ _ _ _ _ _ (F.push _) (News.push F N _) (fun p hp => Heap.lt_size (N p hp).1))
local macro_rules | `(tactic| walk_at "call type:range") => `(tactic| (k_here; (with_reducible show wpAny _ _ (call (Value.type _) [Value.int _ _]) _ _ _); k_dflt (refine' range_K ?k1 ?k2 ?_; (case k1 => k_asm); (case k2 => k_asm)); intro D9 h9 tk9 t91 t92 t93 F9 N9 l9; (try dsimp only); (try k_lt l9)))
local macro_rules | `(tactic| walk_at "eval ListComp") => `(tactic| (refine Stopped.out ?_))
local macro_rules | `(tactic| walk_at "compareOp Eq ref ref") => `(tactic| (k_here; refine Stopped.out ?_))
local macro_rules | `(tactic| walk_at "subscriptTail Name Name ref int") => `(tactic| (k_here; (with_reducible show wpAny _ _ (subscriptTail _ _ (Value.ref _) (Value.int _ _)) _ _ _); k_dflt (refine' my_itemI ?k1 ?k2 ?k3 ?k4 ?_ ?k6; (case k1 => exact News.isList (by k_asm) (by k_mem)); (case k2 => assumption); (case k3 => assumption); (case k4 => assumption); (case k6 => with_unfolding_all rfl))))
local macro_rules | `(tactic| walk_at "CompSrc") => `(tactic| (k_here; k_dflt (refine LCg.CompSrc.ledger (by rfl) (by k_asm) (by k_asm) (by k_mem) (by exact Nat.le_of_ble_eq_true rfl) ?_; intro g'; lcg_lit)))
local macro_rules | `(tactic| walk_at "CompRest") => `(tactic| (first | (refine LCg.CompRest.succ ?_; intro v9 I9 oI9 C9 oC9 D9 m9 h9 tk9 E9 hv9 hC9 hx9 F9 N9 off9 ne9; lcg_open hv9) | refine LCg.CompRest.zero ?_))
local macro_rules | `(tactic| walk_at "CompEnd") => `(tactic| (k_here; k_dflt (refine' LCg.CompEnd.intro ?k1 ?k2 _ (fun p hp => hp) ?k3 ?k4 ?_; (case k1 => k_asm); (case k2 => k_asm); (case k3 => (with_reducible assumption)); (case k4 => exact Or.inr ⟨_, by k_mem, rfl, _, rfl⟩))))
theorem eq_strs3 {prog : Program} {w : World} {A : Around} {E : Value → Shared → Prop} {s : Shared} {a b : Addr} {x1 x2 x3 : PySem.Str} {t1 t2 t3 u1 u2 u3 : Tok} {Q : Value → Shared → Prop}
    (ha : s.heap.IsList a (List.toArray [.str x1 t1, .str x2 t2, .str x3 t3])) (hb : s.heap.IsList b (List.toArray [.str x1 u1, .str x2 u2, .str x3 u3])) (hu : A.units < cLine) (h : Q (.bool true) s) :
    wpAny (model prog w) A (compareOp .Eq (.ref a) (.ref b)) Q E s := by
  have hx : ∀ (x : PySem.Str) (t u : Tok), PySem.SeqAt.EqAt A.in1 s (.str x t) (.str x u) true := fun x t u => by
    have := (eqGives_str x x t u).at A.in1 s
    rwa [beq_self_eq_true] at this
  refine PySem.SeqAt.eq_listAt (e := fun _ => true) ha hb rfl hu (fun j h1 _ => ?_) h
  have h1 : j < 3 := h1
  have : j = 0 ∨ j = 1 ∨ j = 2 := by omega
  rcases this with rfl | rfl | rfl
  · exact hx x1 t1 u1
  · exact hx x2 t2 u2
  · exact hx x3 t3 u3
theorem law_walk : PySem.Challenge.rw_xn0004_01.Holds := hd (by
  k_fill
  intro w s₀ s₁ mg mb G Y fa o pm cd doc dV kV ho hd hcd hD hmg hg args vals as hpre hlay hrd hwl hlo
  have KX := km_in_of Y
  km_tabs Y
  have X := (Ground.X G).1
  have V := (Ground.X G).2
  refine Ground.open G ?_
  intro T B D TE TW
  try (refine guard_noD D (by decide +kernel) ?_; clear D)
  km_lay T hmg ho hd cd
  clear hmg
  wrow_args hpre hlay hrd hwl hlo
  all_goals (
    first | refine callC_kw (enter_call ?_) | refine enter_call ?_
    w_top on
    refine' my_post hT9 (fun _ => rfl) ?hp ?_
    case hp => first | rfl | wrow_post | decide
    w_call any ho hd hcd hD T F
    clear hd
    kn_ghosts F T
    k_drop
    skip)
  (all_goals try k_fold)
  k_steps
  refine ⟨?_⟩
  rename News _ _ _ _ => N1
  rename Fr _ _ _ _ => F1
  rename IntsAre _ (_ ++ _) => I1
  refine' law_for RelL ?lf1 ?lf2 ?lf3 I1 F1 N1 ?lf4 ?lf5 ?lf6
  case lf1 => rfl
  case lf2 => rfl
  case lf3 => rfl
  case lf4 => exact ⟨[], rfl, rfl, rfl⟩
  case lf5 =>
    clear N1 F1
    intro x t pre am al nm nl m0 I it s1 hR hlen hic hlt F1 N1
    k_lt hlt
    have hsa : am.size ≤ sizeLine := by rw [(rel_size hR).1]; exact Nat.le_trans (Nat.le_of_lt hlen) (by rw [ns_len]; decide)
    have hsb : al.size ≤ sizeLine := by rw [(rel_size hR).2]; exact Nat.le_trans (Nat.le_of_lt hlen) (by rw [ns_len]; decide)
    have hd0 : 0 ≤ (x * 1000003).fmod 3652365 := Int.fmod_nonneg_of_pos _ (by decide)
    have hd1 : (x * 1000003).fmod 3652365 < 3652365 := Int.fmod_lt_of_pos _ (by decide)
    have hs0 : 0 ≤ (x * 50021).fmod 86400 := Int.fmod_nonneg_of_pos _ (by decide)
    have hs1 : (x * 50021).fmod 86400 < 86400 := Int.fmod_lt_of_pos _ (by decide)
    k_steps
    refine ⟨?_⟩
    exact ⟨_, _, _, _, _, _, _, _, rfl, rfl, by assumption, by k_asm, news_tl (news_tl (news_tl (news_tl (news_tl (news_tl (news_tl (news_tl (by k_asm)))))))), rel_push hR x _ _⟩
  case lf6 =>
    clear N1 F1
    intro h tk g m0 am al nm nl hR F N hb
    obtain ⟨lq, hq, rfl, rfl⟩ := hR
    have h3 : lq.length = 3 := by rw [← List.length_map (f := fun q : Int × Tok × Tok => q.1), hq, ns_len]
    rcases lq with _ | ⟨⟨a1, t1, u1⟩, _ | ⟨⟨a2, t2, u2⟩, _ | ⟨⟨a3, t3, u3⟩, _ | ⟨q, r⟩⟩⟩⟩
    · simp at h3
    · simp at h3
    · simp at h3
    rotate_left
    · simp at h3
    simp only [List.map_cons, List.map_nil] at N
    clear hq h3
    dsimp only
    k_steps
    refine ⟨?_⟩
    refine' sorted_range (a := 0) (b := 3) (c := 1) (kz := [momI a1, momI a2, momI a3]) ?sq0 (by k_asm) (by k_asm) (by exact News.get (by k_asm) (by k_mem)) ?sq1 ?sq2 ?sq3 ?sq4 ?sq5
    case sq0 => rfl
    case sq1 => rfl
    case sq2 => rfl
    case sq3 => exact Nat.le_of_ble_eq_true rfl
    case sq4 =>
      intro i t k hk h tk own F' N'
      simp only [List.cons_append, List.nil_append] at N'
      have hi3 : i < 3 := (List.getElem?_eq_some_iff.mp hk).1
      obtain ⟨j1, j2, j3⟩ := spot_at hi3
      have e9 : [momI a1, momI a2, momI a3].getD (0 + (i : Int) * 1).toNat 0 = k := by rw [j3, List.getD_eq_getElem?_getD, hk]; rfl
      k_steps
      rw [e9]
      exact ⟨_, _, _, rfl, rfl, by k_asm, by k_asm⟩
    case sq5 =>
      intro D h' tk vs out cc F9 N9 l9 hvl hvi hout
      replace N9 : News _ _ _ ((D, W.listOf out cc) :: _) := N9
      k_lt l9
      dsimp only
      k_steps
      refine ⟨?_⟩
      refine' sorted_strs (vs := [Value.str (linI a1) u1, Value.str (linI a2) u2, Value.str (linI a3) u3]) (kz := [keyOf (dayI a1) (secI a1), keyOf (dayI a2) (secI a2), keyOf (dayI a3) (secI a3)]) (by k_asm) (by k_asm) (by exact News.isList (by k_asm) (by k_mem)) ?sr1 ?sr2 ?sr3 ?sr4 ?sr5
      case sr1 => rfl
      case sr2 => exact Nat.le_of_ble_eq_true rfl
      case sr3 => exact Nat.le_of_ble_eq_true rfl
      case sr4 =>
        intro i v k hv hk h tk own F' N'
        simp only [List.cons_append, List.nil_append] at N'
        have hc : ∃ a u, v = Value.str (lineOf (dayI a) (secI a) (zonI a)) u ∧ k = keyOf (dayI a) (secI a) := by
          rcases i with _ | _ | _ | i
          · exact ⟨a1, u1, (Option.some.inj hv).symm, (Option.some.inj hk).symm⟩
          · exact ⟨a2, u2, (Option.some.inj hv).symm, (Option.some.inj hk).symm⟩
          · exact ⟨a3, u3, (Option.some.inj hv).symm, (Option.some.inj hk).symm⟩
          · exact nomatch hv
        obtain ⟨a, u, rfl, rfl⟩ := hc
        refine key_spec' _ _ _ (zon_len _) (dayI_at _).1 (dayI_at _).2 (secI_at _).1 (secI_at _).2 _ (by k_asm) (by k_asm) (by k_asm) (by k_asm) (by k_asm) (by first | assumption | exact rfl) (by ktr_room) (by ktr_units) ?_
        intro t9 h9 tk9 F9 N9
        exact ⟨_, _, _, rfl, rfl, F9, N9⟩
      case sr5 =>
        intro D2 h2 tk2 out2 c2 F2 N2 l2 hout2
        replace N2 : News _ _ _ ((D2, W.listOf out2 c2) :: _) := N2
        k_lt l2
        dsimp only
        k_steps
        refine ⟨?_⟩
        obtain ⟨i1, i2, i3, w1, w2, w3, v1, v2, v3, x1, x2, x3, T1, T2, T3, hO, hX, ⟨p1, q1, r1⟩, ⟨p2, q2, r2⟩, ⟨p3, q3, r3⟩⟩ := ends hvl hvi hout hout2
        rw [hX, hO] at N2
        clear hvl hvi hout hout2 hO hX
        refine' LCg.ListComp_U (F₀ := F2) ?lz1 ?lz2 ?lz3 ?lz4 ?lz5 ?lz6
        case lz1 => with_unfolding_all rfl
        case lz2 => decide
        case lz3 => rfl
        case lz4 => decide
        case lz5 => rfl
        case lz6 =>
          k_steps
          refine ⟨?_⟩
          refine eq_strs3 (News.isList (by k_asm) (by k_mem)) (News.isList (by k_asm) (by k_mem)) (by ktr_units) ?_
          exact ⟨rfl, fun b o e => Fr.keep (by k_asm) _ _ e, rfl, hb (AllBare.of_eq hg), GrownAt.of (by k_asm) (by k_mem), True.intro⟩)
end Mine
end
theorem PySem.Challenge.cw_xn0004_01_holds : PySem.Challenge.rw_xn0004_01.Holds :=
  Mine.law_walk
