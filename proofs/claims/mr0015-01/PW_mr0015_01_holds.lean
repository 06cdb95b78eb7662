import PyProof.Rows.All
import Wide.All
import OpenK.AllK
import Wide.FinOn
import PySem.Challenge.RW_mr0015_01
open PySem PySem.W PyProof.Rows
set_option Elab.async false
namespace Mine
set_option maxRecDepth 100000 in
set_option maxHeartbeats 8000000 in
open_top hd for PySem.Challenge.rw_mr0015_01
end Mine
section
open PySem PySem.W PyProof.Rows PySem.Spec PySem.Calls
namespace Mine
noncomputable abbrev PG := PySem.Challenge.rw_mr0015_01.row.prog
noncomputable abbrev KF (w : World) := hd.heap_39 w.params
noncomputable abbrev LS := looseW hd.view_39 [Str.ofString "b2a_base64", Str.ofString "b64encode"]
def preF (n : Int) : Int := if (n - 3).fdiv 2 > 0 then (n - 3).fdiv 2 else 0
def postF (n : Int) : Int := if n - 3 - preF n > 0 then n - 3 - preF n else 0
def cramF (t : Str) (n : Int) : Str :=
  if n < (t.length : Int) then Txt.slice t none (some (preF n)) ++ Str.ofString "..." ++ Txt.slice t (some ((t.length : Int) - postF n)) none else t
def lcp : List Nat → List Nat → Nat
  | a :: x, b :: y => if a = b then lcp x y + 1 else 0
  | _, _ => 0
def aheadF (t u : Str) : Int := (lcp t.cps.toList u.cps.toList : Nat)
def behindF (t u : Str) : Int := (lcp t.cps.toList.reverse u.cps.toList.reverse : Nat)
theorem lcp_le : ∀ (x y : List Nat), lcp x y ≤ x.length ∧ lcp x y ≤ y.length
  | [], _ => by simp [lcp]
  | _ :: _, [] => by simp [lcp]
  | a :: x, b :: y => by
    have := lcp_le x y
    unfold lcp
    split <;> simp <;> omega
theorem lcp_more : ∀ (x y : List Nat) (i : Nat), i ≤ lcp x y → i < x.length → i < y.length → x.getD i 0 = y.getD i 0 → i < lcp x y
  | [], _, i, _, h, _, _ => by simp at h
  | _ :: _, [], i, _, _, h, _ => by simp at h
  | a :: x, b :: y, i, h1, h2, h3, h4 => by
    unfold lcp at h1 ⊢
    by_cases e : a = b
    · simp only [e, if_true] at h1 ⊢
      cases i with
      | zero => omega
      | succ i =>
        have := lcp_more x y i (by omega) (by simpa using h2) (by simpa using h3) (by simpa using h4)
        omega
    · simp only [e, if_false] at h1
      have : i = 0 := by omega
      subst this
      simp at h4
      exact absurd h4 e
theorem lcp_here : ∀ (x y : List Nat) (i : Nat), i < lcp x y → x.getD i 0 = y.getD i 0
  | [], _, i, h => by simp [lcp] at h
  | _ :: _, [], i, h => by simp [lcp] at h
  | a :: x, b :: y, i, h => by
    unfold lcp at h
    by_cases e : a = b
    · simp only [e, if_true] at h
      cases i with
      | zero => simp [e]
      | succ i => simpa using lcp_here x y i (by omega)
    · simp [e] at h
end Mine
end
section
open PySem PySem.W PyProof.Rows PySem.Spec PySem.Calls
namespace Mine
set_option maxRecDepth 100000 in
set_option maxHeartbeats 8000000 in
theorem cram_c (w : World) (mean : ExcName → Option Value) (mg mb : Str → Option Value) (news : List (Addr × Obj)) (t : Str) (t1 : Tok) (n : Int) (t2 : Tok) (ht : t.length ≤ 1000) (hn : -1000 ≤ n) (hn' : n ≤ 1000) :
    CbClaim PG w (KF w) hd.view_39 LS mean mg mb 28 news [] True [.str t t1, .int n t2] (fun k => .str (cramF t n) k) := by
  dsimp only [CbClaim, CbLists, CbRet, PG, KF, LS]
  k_fill
  intros
  rename_i hret
  w_on
  refine wpAny_call ?_
  k_dflt cell_enter
  k_steps
  all_goals (try (refine cb_retS hret ?_ (by k_asm) (by k_asm); clear hret; unfold cramF postF preF))
  · exact (if_pos (by assumption)).symm
  · exact (if_neg (by omega)).symm
end Mine
end
section
open PySem PySem.W PyProof.Rows PySem.Spec PySem.Calls
namespace Mine
theorem minlt {i : Int} {a b : Nat} (h : i < if (b : Int) < (a : Int) then (b : Int) else (a : Int)) : i < a ∧ i < b := by
  split at h <;> omega
theorem notminlt {i : Int} {a b : Nat} (h : ¬ i < if (b : Int) < (a : Int) then (b : Int) else (a : Int)) : (a : Int) ≤ i ∨ (b : Int) ≤ i := by
  split at h <;> omega
theorem item_eq {t : Str} {i : Int} (h0 : 0 ≤ i) (h1 : i < t.length) : Txt.item t i = ⟨#[t.cps.toList.getD i.toNat 0]⟩ := by
  rw [item_meets ⟨h0, h1⟩]
  congr 1
  simp [List.getD_eq_getElem?_getD, Array.getD_eq_getD_getElem?]
theorem item_beq {t u : Str} {i j : Int} (h0 : 0 ≤ i) (h1 : i < t.length) (h0' : 0 ≤ j) (h1' : j < u.length) : (Txt.item t i == Txt.item u j) = decide (t.cps.toList.getD i.toNat 0 = u.cps.toList.getD j.toNat 0) := by
  rw [item_eq h0 h1, item_eq h0' h1']
  by_cases e : t.cps.toList.getD i.toNat 0 = u.cps.toList.getD j.toNat 0
  · rw [e]; simp
  · rw [decide_eq_false e, beq_eq_false_iff_ne]
    intro q
    apply e
    have := congrArg Str.cps q
    simpa using this
theorem len_cps (t : Str) : t.cps.toList.length = t.length := by simp [Str.length]
theorem ahead_step {t u : Str} {i : Int} (h0 : 0 ≤ i) (h1 : i ≤ (lcp t.cps.toList u.cps.toList : Nat)) (h2 : i < if (u.length : Int) < (t.length : Int) then (u.length : Int) else (t.length : Int)) (h3 : (Txt.item t i == Txt.item u i) = true) :
    0 ≤ i + 1 ∧ i + 1 ≤ (lcp t.cps.toList u.cps.toList : Nat) := by
  have ⟨a, b⟩ := minlt h2
  rw [item_beq h0 a h0 b, decide_eq_true_eq] at h3
  have := lcp_more _ _ i.toNat (by omega) (by rw [len_cps]; omega) (by rw [len_cps]; omega) h3
  omega
theorem ahead_meas {t u : Str} {i : Int} (h0 : 0 ≤ i) (h2 : i < if (u.length : Int) < (t.length : Int) then (u.length : Int) else (t.length : Int)) : t.length - (i + 1).toNat < t.length - i.toNat := by
  have ⟨a, b⟩ := minlt h2
  omega
theorem ahead_stop {t u : Str} {i : Int} (h0 : 0 ≤ i) (h1 : i ≤ (lcp t.cps.toList u.cps.toList : Nat)) (h2 : i < if (u.length : Int) < (t.length : Int) then (u.length : Int) else (t.length : Int)) (h3 : (Txt.item t i == Txt.item u i) = false) : i = aheadF t u := by
  have ⟨a, b⟩ := minlt h2
  rw [item_beq h0 a h0 b, decide_eq_false_iff_not] at h3
  unfold aheadF
  by_cases h : i.toNat < lcp t.cps.toList u.cps.toList
  · exact absurd (lcp_here _ _ _ h) h3
  · omega
theorem ahead_end {t u : Str} {i : Int} (h0 : 0 ≤ i) (h1 : i ≤ (lcp t.cps.toList u.cps.toList : Nat)) (h2 : ¬ i < if (u.length : Int) < (t.length : Int) then (u.length : Int) else (t.length : Int)) : i = aheadF t u := by
  have h := notminlt h2
  have ⟨a, b⟩ := lcp_le t.cps.toList u.cps.toList
  rw [len_cps] at a b
  unfold aheadF
  omega
set_option maxRecDepth 100000 in
set_option maxHeartbeats 400000 in
theorem ahead_c (w : World) (mean : ExcName → Option Value) (mg mb : Str → Option Value) (news : List (Addr × Obj)) (t : Str) (t1 : Tok) (u : Str) (t2 : Tok) (ht : t.length ≤ 1000) (hu : u.length ≤ 1000) :
    CbClaim PG w (KF w) hd.view_39 LS mean mg mb 70 news [] True [.str t t1, .str u t2] (fun k => .int (aheadF t u) k) := by
  dsimp only [CbClaim, CbLists, CbRet, PG, KF, LS]
  k_fill
  intros
  rename_i hret
  w_on
  k_with_none
  k_with "exec While BoolOp" => k_while (fun _ size => 0 ≤ size ∧ size ≤ (lcp t.cps.toList u.cps.toList : Nat)) (fun _ size => t.length - size.toNat) "size"
  k_with "state" => exact ahead_step (by assumption) (by assumption) (by assumption) (by assumption)
  k_with "measure" => exact ahead_meas (by assumption) (by assumption)
  refine wpAny_call ?_
  k_dflt cell_enter
  k_steps
  all_goals (refine cb_retI hret ?_ (by k_asm) (by k_asm))
  · exact ahead_stop (by assumption) (by assumption) (by assumption) (by assumption)
  · exact ahead_end (by assumption) (by assumption) (by assumption)
end Mine
end
section
open PySem PySem.W PyProof.Rows PySem.Spec PySem.Calls
namespace Mine
theorem behind_beq {t u : Str} {i : Int} (h0 : 0 ≤ i) (a : i < t.length) (b : i < u.length) :
    (Txt.item t ((t.length : Int) - 1 - i) == Txt.item u ((u.length : Int) - 1 - i)) = decide (t.cps.toList.reverse.getD i.toNat 0 = u.cps.toList.reverse.getD i.toNat 0) := by
  rw [item_beq (by omega) (by omega) (by omega) (by omega), rev_getD _ _ (by rw [len_cps]; omega), rev_getD _ _ (by rw [len_cps]; omega), len_cps, len_cps]
  have e1 : ((t.length : Int) - 1 - i).toNat = t.length - 1 - i.toNat := by omega
  have e2 : ((u.length : Int) - 1 - i).toNat = u.length - 1 - i.toNat := by omega
  rw [e1, e2]
theorem behind_step {t u : Str} {i : Int} (h0 : 0 ≤ i) (h1 : i ≤ (lcp t.cps.toList.reverse u.cps.toList.reverse : Nat)) (h2 : i < if (u.length : Int) < (t.length : Int) then (u.length : Int) else (t.length : Int)) (h3 : (Txt.item t ((t.length : Int) - 1 - i) == Txt.item u ((u.length : Int) - 1 - i)) = true) :
    0 ≤ i + 1 ∧ i + 1 ≤ (lcp t.cps.toList.reverse u.cps.toList.reverse : Nat) := by
  have ⟨a, b⟩ := minlt h2
  rw [behind_beq h0 a b, decide_eq_true_eq] at h3
  have := lcp_more _ _ i.toNat (by omega) (by rw [List.length_reverse, len_cps]; omega) (by rw [List.length_reverse, len_cps]; omega) h3
  omega
theorem behind_stop {t u : Str} {i : Int} (h0 : 0 ≤ i) (h1 : i ≤ (lcp t.cps.toList.reverse u.cps.toList.reverse : Nat)) (h2 : i < if (u.length : Int) < (t.length : Int) then (u.length : Int) else (t.length : Int)) (h3 : (Txt.item t ((t.length : Int) - 1 - i) == Txt.item u ((u.length : Int) - 1 - i)) = false) : i = behindF t u := by
  have ⟨a, b⟩ := minlt h2
  rw [behind_beq h0 a b, decide_eq_false_iff_not] at h3
  unfold behindF
  by_cases h : i.toNat < lcp t.cps.toList.reverse u.cps.toList.reverse
  · exact absurd (lcp_here _ _ _ h) h3
  · omega
theorem behind_end {t u : Str} {i : Int} (h1 : i ≤ (lcp t.cps.toList.reverse u.cps.toList.reverse : Nat)) (h2 : ¬ i < if (u.length : Int) < (t.length : Int) then (u.length : Int) else (t.length : Int)) : i = behindF t u := by
  have h := notminlt h2
  have ⟨a, b⟩ := lcp_le t.cps.toList.reverse u.cps.toList.reverse
  rw [List.length_reverse, len_cps] at a b
  unfold behindF
  omega
local macro_rules | `(tactic| walk_at "ite") => `(tactic| ((with_reducible show (if (BEq.beq (Txt.item _ _) (Txt.item _ _)) = true then _ else _)); (with_reducible refine split_bool ?_ ?_) <;> intro _))
set_option maxRecDepth 100000 in
set_option maxHeartbeats 400000 in
theorem behind_c (w : World) (mean : ExcName → Option Value) (mg mb : Str → Option Value) (news : List (Addr × Obj)) (t : Str) (t1 : Tok) (u : Str) (t2 : Tok) (ht : t.length ≤ 1000) (hu : u.length ≤ 1000) :
    CbClaim PG w (KF w) hd.view_39 LS mean mg mb 77 news [] True [.str t t1, .str u t2] (fun k => .int (behindF t u) k) := by
  dsimp only [CbClaim, CbLists, CbRet, PG, KF, LS]
  k_fill
  intros
  rename_i hret
  w_on
  k_with_none
  k_with "exec While BoolOp" => k_while (fun _ size => 0 ≤ size ∧ size ≤ (lcp t.cps.toList.reverse u.cps.toList.reverse : Nat)) (fun _ size => t.length - size.toNat) "size"
  k_with "state" => exact behind_step (by assumption) (by assumption) (by assumption) (by assumption)
  k_with "measure" => exact ahead_meas (by assumption) (by assumption)
  refine wpAny_call ?_
  k_dflt cell_enter
  k_steps
  all_goals (refine cb_retI hret ?_ (by k_asm) (by k_asm))
  · exact behind_stop (by assumption) (by assumption) (by assumption) (by assumption)
  · exact behind_end (by assumption) (by assumption)
end Mine
end
section
open PySem PySem.W PyProof.Rows PySem.Spec PySem.Calls
namespace Mine
abbrev Cl (r : Nat) (w : World) (mean : ExcName → Option Value) (mg mb : Str → Option Value) (f : Addr) (news : List (Addr × Obj)) (vs : List Value) (kw : List (Str × Value)) (R : Tok → Value) : Prop :=
  ∀ (dp un : Nat) (gd : Option (List Code)) (cn : Str) (cs : Scope) (a : Addr) (ccd : Value) (cl : List (Str × Addr)) (outer : List Env) (A₀ : Around) (base h₀ : Heap) (L : Addr) (m : Str → Option Value) (s : Shared) (Q E : Value → Shared → Prop),
    Below A₀ base outer h₀ → Fr h₀ L s.heap m → (KF w).In h₀ → News h₀ L s.heap news → Top hd.view_39 LS mean mg mb h₀ → cs.kind = .function →
    dp + r < recursionLimit → un + 20 * r < cLine → CbRet h₀ L m news s Q R →
      wpAny (model PG w) (ktrTop dp un gd cn cs L a ccd cl outer) (call (.ref f) vs kw) Q E s
section
variable {h₀ h' : Heap} {L : Addr} {m : Str → Option Value} {news : List (Addr × Obj)} {s : Shared} {Q : Value → Shared → Prop} {t : Tok} {tk' : Nat}
theorem ret_bytes {x y : Array UInt8} (hret : CbRet h₀ L m news s Q (fun t => .bytes x t)) (e : y = x) (F : Fr h₀ L h' m) (N : News h₀ L h' news) : Q (.bytes y t) { s with heap := h', toks := tk' } := by
  subst e
  exact hret t h' tk' F N
theorem ret_val {v : Value} (hret : CbRet h₀ L m news s Q (fun _ => v)) (F : Fr h₀ L h' m) (N : News h₀ L h' news) : Q v { s with heap := h', toks := tk' } := hret 0 h' tk' F N
end
end Mine
namespace Mine
theorem cl_use {r : Nat} {w : World} {mean : ExcName → Option Value} {mg mb : Str → Option Value} {f : Addr} {news : List (Addr × Obj)} {vs : List Value} {kw : List (Str × Value)} {R : Tok → Value} (C : Cl r w mean mg mb f news vs kw R)
    {dp un : Nat} {gd : Option (List Code)} {cn : Str} {cs : Scope} {a : Addr} {ccd : Value} {cl : List (Str × Addr)} {outer : List Env} {A₀ : Around} {base h₀ : Heap} {L : Addr} {m : Str → Option Value} {s : Shared} {Q E : Value → Shared → Prop}
    (B : Below A₀ base outer h₀) (F : Fr h₀ L s.heap m) (X : (KF w).In h₀) (N : News h₀ L s.heap news) (T : Top hd.view_39 LS mean mg mb h₀) (hk : cs.kind = .function)
    (hd : dp + r < recursionLimit) (hu : un + 20 * r < cLine) (ret : CbRet h₀ L m news s Q R) :
    wpAny (model PG w) (ktrTop dp un gd cn cs L a ccd cl outer) (call (.ref f) vs kw) Q E s := C _ _ _ _ _ _ _ _ _ _ _ _ _ _ _ _ _ B F X N T hk hd hu ret
def B64L : List Int := [65, 66, 67, 68, 69, 70, 71, 72, 73, 74, 75, 76, 77, 78, 79, 80, 81, 82, 83, 84, 85, 86, 87, 88, 89, 90, 97, 98, 99, 100, 101, 102, 103, 104, 105, 106, 107, 108, 109, 110, 111, 112, 113, 114, 115, 116, 117, 118, 119, 120, 121, 122, 48, 49, 50, 51, 52, 53, 54, 55, 56, 57, 43, 47]
def A64 (i : Int) : Int := B64L.getD i.toNat 0
def stepB : Int × Int × List Int → Int → Int × Int × List Int
  | (lc, lb, out), n =>
    if lb = 4 then ((lc * 256 + n) % 65536, 0, out ++ [A64 ((lc * 256 + n) % 65536 / 64 % 64), A64 ((lc * 256 + n) % 65536 % 64)])
    else if lb = 2 then ((lc * 256 + n) % 65536, 4, out ++ [A64 ((lc * 256 + n) % 65536 / 16 % 64)])
    else ((lc * 256 + n) % 65536, 2, out ++ [A64 ((lc * 256 + n) % 65536 / 4 % 64)])
end Mine
namespace Mine
structure InvB (pre : List Int) (lc lb : Int) (out : List Int) : Prop where
  run : (lc, lb, out) = pre.foldl stepB (0, 0, [])
  lc0 : 0 ≤ lc
  lc1 : lc < 65536
  lbs : lb = 0 ∨ lb = 2 ∨ lb = 4
  len : out.length ≤ 2 * pre.length
  rng : ∀ x ∈ out, 0 ≤ x ∧ x < 256
theorem invB_nil : InvB [] 0 0 [] := ⟨rfl, by decide, by decide, .inl rfl, by decide, fun _ h => nomatch h⟩
end Mine
end
section
open PySem PySem.W PyProof.Rows PySem.Spec PySem.Calls
namespace Mine
local macro_rules | `(tactic| walk_at "call type:type") => `(tactic| ((with_reducible show wpAny _ _ (call (Value.type "type") [Value.bytes _ _]) _ _ _); refine call_type_of (Tx := "bytes") rfl (by decide +kernel) ?_))
set_option maxRecDepth 100000 in
set_option maxHeartbeats 400000 in
theorem buffer_c (w : World) (mean : ExcName → Option Value) (mg mb : Str → Option Value) (news : List (Addr × Obj)) (b : Array UInt8) (t1 : Tok) :
    Cl 1 w mean mg mb 35 news [.bytes b t1] [] (fun _ => .bytes b t1) := by
  dsimp only [Cl, CbRet, PG, KF, LS]
  k_fill
  intros
  rename_i hret
  w_on
  k_with_none
  refine wpAny_call ?_
  k_dflt cell_enter
  k_steps
  exact ret_val hret (by k_asm) (by k_asm)
set_option maxRecDepth 100000 in
set_option maxHeartbeats 400000 in
theorem truth_c (w : World) (mean : ExcName → Option Value) (mg mb : Str → Option Value) (news : List (Addr × Obj)) :
    Cl 1 w mean mg mb 42 news [.bool false] [] (fun _ => .bool false) := by
  dsimp only [Cl, CbRet, PG, KF, LS]
  k_fill
  intros
  rename_i hret
  w_on
  k_with_none
  refine wpAny_call ?_
  k_dflt cell_enter
  k_steps
  exact ret_val hret (by k_asm) (by k_asm)
end Mine
end
section
open PySem PySem.W PyProof.Rows PySem.Spec PySem.Calls
namespace Mine
theorem ix6 (x : Int) : 0 ≤ Builtin.bitAnd x 63 ∧ Builtin.bitAnd x 63 < 64 := by rw [bitAnd_m6]; omega
theorem ix2 (x : Int) : 0 ≤ Builtin.bitAnd x 3 * 2 ^ Int.toNat 4 ∧ Builtin.bitAnd x 3 * 2 ^ Int.toNat 4 < 64 := by
  rw [bitAnd_m2, show (2 : Int) ^ Int.toNat 4 = 16 from rfl]; omega
theorem ix4 (x : Int) : 0 ≤ Builtin.bitAnd x 15 * 2 ^ Int.toNat 2 ∧ Builtin.bitAnd x 15 * 2 ^ Int.toNat 2 < 64 := by
  rw [bitAnd_m4, show (2 : Int) ^ Int.toNat 2 = 4 from rfl]; omega
theorem b64_len : B64L.length = 64 := by decide
theorem item64 {prog : Program} {w : World} {A : Around} {E : Value → Shared → Prop} {s : Shared} {value slice : PySem.Expr} {b : Array UInt8} {t : Tok} {i : Int} {ui : Tok} {Q : Value → Shared → Prop} (hk : KBw.bInts b = B64L) (h0 : 0 ≤ i) (h1 : i < 64)
    (h : ∀ t' k, 0 ≤ A64 i → A64 i < 256 → Q (.int (A64 i) t') { s with toks := k })
    (hs : subscripted slice false (.bytes b t) (.int i ui) = operate [.bytes b t, .int i ui] (getItem (.bytes b t) (.int i ui)) := by with_unfolding_all rfl)
    (ht : ∀ r, letTemporaryGo value (.bytes b t) r = pure () := by intro _; with_unfolding_all rfl) : wpAny (model prog w) A (subscriptTail value slice (.bytes b t) (.int i ui)) Q E s :=
  KBw.item_K hk (by rw [b64_len]; decide) h0 (by rw [b64_len]; omega) h hs ht
theorem bitOr_nn {a b : Int} (ha : 0 ≤ a) (hb : 0 ≤ b) : Builtin.bitOr a b = ((a.toNat ||| b.toNat : Nat) : Int) := by
  have h1 : ¬ (0 : Int) ≤ Builtin.bitNot a := by unfold Builtin.bitNot; omega
  have h2 : ¬ (0 : Int) ≤ Builtin.bitNot b := by unfold Builtin.bitNot; omega
  have e1 : Builtin.bitNot (Builtin.bitNot a) = a := by unfold Builtin.bitNot; omega
  have e2 : Builtin.bitNot (Builtin.bitNot b) = b := by unfold Builtin.bitNot; omega
  unfold Builtin.bitOr Builtin.bitAnd
  rw [decide_eq_false h1, decide_eq_false h2]
  show Builtin.bitNot (Builtin.bitNot _) = _
  rw [e1, e2]
  unfold Builtin.bitNot
  omega
theorem lcNew {lc n : Int} (h0 : 0 ≤ lc) (hn0 : 0 ≤ n) (hn1 : n < 256) : Builtin.bitAnd (Builtin.bitOr (lc * 2 ^ Int.toNat 8) n) 65535 = (lc * 256 + n) % 65536 := by
  rw [bitAnd_m16, show (2 : Int) ^ Int.toNat 8 = 256 from rfl, bitOr_nn (by omega) hn0]
  have e : (lc * 256).toNat = lc.toNat <<< 8 := by
    rw [Nat.shiftLeft_eq]
    omega
  rw [e, ← Nat.shiftLeft_add_eq_or_of_lt (by omega : n.toNat < 2 ^ 8), Nat.shiftLeft_eq]
  congr 1
  omega
theorem A64_in (i : Int) : 0 ≤ A64 i ∧ A64 i < 256 := KBw.getD_in (ks := B64L) (j := i.toNat) (by decide)
theorem stepB_snoc {pre : List Int} {lc lb n : Int} {xs : List Int} (h : InvB pre lc lb xs) : (pre ++ [n]).foldl stepB (0, 0, []) = stepB (lc, lb, xs) n := by
  rw [List.foldl_append, ← h.run]; rfl
theorem invB_step {pre : List Int} {lc lb n lc' lb' : Int} {xs ys : List Int} (h : InvB pre lc lb xs) (e : stepB (lc, lb, xs) n = (lc', lb', xs ++ ys)) (h0 : 0 ≤ lc') (h1 : lc' < 65536) (hl : lb' = 0 ∨ lb' = 2 ∨ lb' = 4) (hy : ys.length ≤ 2) (hr : ∀ x ∈ ys, 0 ≤ x ∧ x < 256) :
    InvB (pre ++ [n]) lc' lb' (xs ++ ys) where
  run := by rw [stepB_snoc h, e]
  lc0 := h0
  lc1 := h1
  lbs := hl
  len := by have := h.len; simp only [List.length_append, List.length_cons, List.length_nil]; omega
  rng := fun x hx => (List.mem_append.mp hx).elim (h.rng x) (hr x)
theorem invB_0 {pre : List Int} {lc n : Int} {xs : List Int} (h : InvB pre lc 0 xs) (hn0 : 0 ≤ n) (hn1 : n < 256) :
    InvB (pre ++ [n]) (Builtin.bitAnd (Builtin.bitOr (lc * 2 ^ Int.toNat 8) n) 65535) (0 + 8 - 6) (xs ++ [A64 (Builtin.bitAnd ((Builtin.bitAnd (Builtin.bitOr (lc * 2 ^ Int.toNat 8) n) 65535).fdiv (2 ^ (0 + 8 - 6 : Int).toNat)) 63)]) := by
  have h0 := h.lc0
  rw [lcNew h0 hn0 hn1]
  refine invB_step h ?_ (by omega) (by omega) (by omega) (by simp) (fun x hx => by rw [List.mem_singleton.mp hx]; exact A64_in _)
  rw [bitAnd_m6, show (2 : Int) ^ (0 + 8 - 6 : Int).toNat = 4 from rfl, Int.fdiv_eq_ediv_of_nonneg _ (by decide)]
  rfl
theorem invB_2 {pre : List Int} {lc n : Int} {xs : List Int} (h : InvB pre lc 2 xs) (hn0 : 0 ≤ n) (hn1 : n < 256) :
    InvB (pre ++ [n]) (Builtin.bitAnd (Builtin.bitOr (lc * 2 ^ Int.toNat 8) n) 65535) (2 + 8 - 6) (xs ++ [A64 (Builtin.bitAnd ((Builtin.bitAnd (Builtin.bitOr (lc * 2 ^ Int.toNat 8) n) 65535).fdiv (2 ^ (2 + 8 - 6 : Int).toNat)) 63)]) := by
  have h0 := h.lc0
  rw [lcNew h0 hn0 hn1]
  refine invB_step h ?_ (by omega) (by omega) (by omega) (by simp) (fun x hx => by rw [List.mem_singleton.mp hx]; exact A64_in _)
  rw [bitAnd_m6, show (2 : Int) ^ (2 + 8 - 6 : Int).toNat = 16 from rfl, Int.fdiv_eq_ediv_of_nonneg _ (by decide)]
  rfl
theorem invB_4 {pre : List Int} {lc n : Int} {xs : List Int} (h : InvB pre lc 4 xs) (hn0 : 0 ≤ n) (hn1 : n < 256) :
    InvB (pre ++ [n]) (Builtin.bitAnd (Builtin.bitOr (lc * 2 ^ Int.toNat 8) n) 65535) (4 + 8 - 6 - 6) (xs ++ [A64 (Builtin.bitAnd ((Builtin.bitAnd (Builtin.bitOr (lc * 2 ^ Int.toNat 8) n) 65535).fdiv (2 ^ (4 + 8 - 6 : Int).toNat)) 63)] ++ [A64 (Builtin.bitAnd ((Builtin.bitAnd (Builtin.bitOr (lc * 2 ^ Int.toNat 8) n) 65535).fdiv (2 ^ (4 + 8 - 6 - 6 : Int).toNat)) 63)]) := by
  have h0 := h.lc0
  rw [lcNew h0 hn0 hn1, List.append_assoc]
  refine invB_step h ?_ (by omega) (by omega) (by omega) (by simp) (fun x hx => by
    rcases List.mem_cons.mp hx with q | q
    · rw [q]; exact A64_in _
    · rw [List.mem_singleton.mp q]; exact A64_in _)
  rw [bitAnd_m6, bitAnd_m6, show (2 : Int) ^ (4 + 8 - 6 : Int).toNat = 64 from rfl, show (2 : Int) ^ (4 + 8 - 6 - 6 : Int).toNat = 1 from rfl, Int.fdiv_eq_ediv_of_nonneg _ (by decide), Int.fdiv_eq_ediv_of_nonneg _ (by decide), Int.ediv_one]
  rfl
theorem intsAre_snoc {vs : List Value} {ns : List Int} (h : IntsAre vs ns) (n : Int) (t : Tok) : IntsAre (vs ++ [.int n t]) (ns ++ [n]) := by
  induction h with
  | nil => exact .cons _ _ .nil
  | cons m u _ ih => exact .cons m u ih
theorem endB {h₀ h' : Heap} {L l : Addr} {m₀ m' : Str → Option Value} {own news rest : List (Addr × Obj)} {adr : List Addr} {s₁ : Shared} {tk ep' : Nat} {vs' : List Value} {lc' lb' : Int} {t1 t2 : Tok} {xs' pre : List Int}
    (F : Fr h₀ L h' m') (N : News h₀ L h' ((l, W.listOf (List.toArray vs') ep') :: rest)) (hA : ∀ p ∈ news, p ∈ rest) (hB : ∀ p ∈ own, p ∈ rest) (hf : IntsAre vs' xs')
    (hk1 : m' (Str.ofString "leftchar") = some (.int lc' t1)) (hk2 : m' (Str.ofString "leftbits") = some (.int lb' t2)) (hr : ∀ z, z ≠ Str.ofString "b" → z ≠ Str.ofString "leftchar" → z ≠ Str.ofString "leftbits" → m' z = m₀ z) (hp : InvB pre lc' lb' xs') (ha : l :: news.map (·.1) = adr) :
    InvEndN h₀ L (KstS (σ := Int × Tok × Int × Tok × List Value × List Int × Nat) (fun c => (l, W.listOf c.2.2.2.2.1.toArray c.2.2.2.2.2.2) :: news) (fun c => [(Str.ofString "leftchar", Value.int c.1 c.2.1), (Str.ofString "leftbits", Value.int c.2.2.1 c.2.2.2.1)]) (fun c => IntsAre c.2.2.2.2.1 c.2.2.2.2.2.1) (Str.ofString "b") [] m₀ (fun pre c => InvB pre c.1 c.2.2.1 c.2.2.2.2.2.1) pre) own adr s₁ { s₁ with heap := h', toks := tk } :=
  kst_end (lc', t1, lb', t2, vs', xs', ep') F N (List.forall_mem_cons.mpr ⟨List.mem_cons_self, fun p hp => List.mem_cons_of_mem _ (hA p hp)⟩) (fun p hp => List.mem_cons_of_mem _ (hB p hp)) ha hf
    (List.forall_mem_cons.mpr ⟨hk1, List.forall_mem_cons.mpr ⟨hk2, List.forall_mem_nil _⟩⟩) (fun z h1 h2 _ => hr z h1 (h2 _ (.head _)) (h2 _ (.tail _ (.head _)))) hp
def finB : Int × Int × List Int → List Int
  | (lc, lb, out) => if lb = 2 then out ++ [A64 (lc % 4 * 16)] ++ [61] ++ [61] else if lb = 4 then out ++ [A64 (lc % 16 * 4)] ++ [61] else out
def b64L (ns : List Int) : List Int := finB (ns.foldl stepB (0, 0, []))
theorem fin_0 {ns : List Int} {lc : Int} {xs : List Int} (h : InvB ns lc 0 xs) : xs = b64L ns := by
  unfold b64L; rw [← h.run]; rfl
theorem fin_2 {ns : List Int} {lc : Int} {xs : List Int} (h : InvB ns lc 2 xs) : xs ++ [A64 (Builtin.bitAnd lc 3 * 2 ^ Int.toNat 4)] ++ [61] ++ [61] = b64L ns := by
  unfold b64L; rw [← h.run, bitAnd_m2]; rfl
theorem fin_4 {ns : List Int} {lc : Int} {xs : List Int} (h : InvB ns lc 4 xs) : xs ++ [A64 (Builtin.bitAnd lc 15 * 2 ^ Int.toNat 2)] ++ [61] = b64L ns := by
  unfold b64L; rw [← h.run, bitAnd_m4]; rfl
theorem rng_snoc {xs : List Int} {x : Int} (h : ∀ x ∈ xs, 0 ≤ x ∧ x < 256) (hx : 0 ≤ x ∧ x < 256) : ∀ y ∈ xs ++ [x], 0 ≤ y ∧ y < 256 :=
  fun y hy => (List.mem_append.mp hy).elim (h y) fun q => by rw [List.mem_singleton.mp q]; exact hx
end Mine
end
section
open PySem PySem.W PyProof.Rows PySem.Spec PySem.Calls
namespace Mine
local macro_rules | `(tactic| walk_at "call ref") => `(tactic| ((with_reducible show wpAny _ _ (call (Value.ref 35) _ _) _ _ _); k_dflt (refine' cl_use (buffer_c _ _ _ _ _ _ _) ?k1 ?k2 ?k3 ?k4 ?k5 ?kK ?kd ?ku ?_; (case k1 => k_asm); (case k2 => k_asm); (case k3 => k_asm); (case k4 => k_asm); (case k5 => k_asm); (case kK => exact rfl); (case kd => ktr_room); (case ku => ktr_units)); intro t9 h9 tk9 F9 N9; (try dsimp only); (try k_fold)))
local macro_rules | `(tactic| walk_at "call ref") => `(tactic| ((with_reducible show wpAny _ _ (call (Value.ref 42) _ _) _ _ _); k_dflt (refine' cl_use (truth_c _ _ _ _ _) ?k1 ?k2 ?k3 ?k4 ?k5 ?kK ?kd ?ku ?_; (case k1 => k_asm); (case k2 => k_asm); (case k3 => k_asm); (case k4 => k_asm); (case k5 => k_asm); (case kK => exact rfl); (case kd => ktr_room); (case ku => ktr_units)); intro t9 h9 tk9 F9 N9; (try dsimp only); (try k_fold)))
local macro_rules | `(tactic| walk_at "pyIter bytes") => `(tactic| k_state (fun pre lc lb out => InvB pre lc lb out) "leftchar" "leftbits" "out")
local macro_rules | `(tactic| walk_at "subscriptTail") => `(tactic| ((with_reducible show wpAny _ _ (subscriptTail _ _ (Value.bytes _ _) (Value.int _ _)) _ _ _); refine item64 (by rfl) (by first | exact (ix6 _).1 | exact (ix2 _).1 | exact (ix4 _).1) (by first | exact (ix6 _).2 | exact (ix2 _).2 | exact (ix4 _).2) ?_; intro _ _ _ _))
local macro_rules | `(tactic| walk_at "call builtin:list.append") => `(tactic| ((show wpAny _ _ (call (Value.builtin _) [Value.ref _, _]) _ _ _); k_dflt (refine' append_K ?k1 ?k2 (Upd.head ?k3) ?_ ?z; (case k1 => k_asm); (case k2 => k_asm); (case k3 => assumption); (case z => (simp only [List.size_toArray, List.size_toArray, Array.size_push]; rw [sizeLine_eq]; omega))); intro h' F' N'; (try k_sweep)))
local macro_rules | `(tactic| walk_at "binaryOp LShift int int") => `(tactic| ((with_reducible show wpAny _ _ (binaryOp Operator.LShift (Value.int (Builtin.bitAnd _ _) _) _) _ _ _); refine lshift_int_small (by decide) (by decide) (by first | (rw [bitAnd_m2]; omega) | (rw [bitAnd_m4]; omega)) ?_))
set_option maxRecDepth 100000 in
set_option maxHeartbeats 400000 in
theorem b2a_c (w : World) (mean : ExcName → Option Value) (mg mb : Str → Option Value) (news : List (Addr × Obj)) (b : Array UInt8) (ns : List Int) (t1 : Tok) (hb : KBw.bInts b = ns) (hz : ns.length ≤ 1000) :
    Cl 3 w mean mg mb 50 news [.bytes b t1] [(Str.ofString "newline", .bool false)] (fun k => .bytes (byteArr (b64L ns)) k) := by
  dsimp only [Cl, CbRet, PG, KF, LS]
  k_fill
  intros
  rename_i hret
  w_on
  k_with_none
  k_with "pyIter bytes" => fail "no"
  k_with "state" => exact invB_nil
  refine wpAny_call ?_
  k_dflt (refine' code_def ?k1 ?k2 ?k3 ?k4 ?k5 ?kA ?kF ?kK ?k6 ?k7 ?k8 ?k9 ?kB ?_ ?c2 ?c3 ?c4 ?c5; (case kA => exact rfl); (case kF => exact rfl); (case kK => assumption); (case k1 => k_asm); (case k2 => k_asm); (case k3 => k_asm); (case k4 => k_asm); (case k5 => k_asm); (case k6 => k_is); (case k7 => k_is); (case k8 => ktr_room); (case k9 => first | exact BindsTo.of_eq rfl | exact binds_K (by k_in) rfl (by k_is) rfl rfl rfl); (case c5 => decide); (case kB => exact locs rfl); (case c2 => exact rfl); (case c3 => exact rfl); (case c4 => exact rfl); k_whole; intro g' L' h' FG' F' N' B' X' T'; (try dsimp only); (try k_lift B'); (try k_fold))
  iterate 44 (all_goals (try (first | (k_unfold; (try dsimp only)) | (k_end; wrow_close) | walk1 | (dsimp only; walk1) | (leave1; walk_say "STEP leave1"; try dsimp only))))
  rename Fr _ _ _ _ => lF'
  rename News _ _ _ _ => lN'
  rename (∀ p ∈ news, p.1 < _) => l1
  refine' KStb.kst_bytes (σ := Int × Tok × Int × Tok × List Value × List Int × Nat) (fun c => (_, W.listOf c.2.2.2.2.1.toArray c.2.2.2.2.2.2) :: news) (fun c => [(Str.ofString "leftchar", Value.int c.1 c.2.1), (Str.ofString "leftbits", Value.int c.2.2.1 c.2.2.2.1)]) (fun c => IntsAre c.2.2.2.2.1 c.2.2.2.2.2.1) [] (fun pre c => InvB pre c.1 c.2.2.1 c.2.2.2.2.2.1) (0, _, 0, _, [], [], 0) hb rfl rfl lF' ?kn ?kf ?kk ?kp ?_ ?_
  case kn => exact lN'
  case kf => exact IntsAre.nil
  case kk => kst_all
  case kp => exact invB_nil
  all_goals clear lF' lN'
  · rintro ⟨lc, tlc, lb, tlb, vs, xs, ep⟩ pre post n t u h tk own hEq hlt hn0 hn1 hoff hints hinv F1 N1
    dsimp only [kstB] at F1 N1 hints hinv
    simp only [List.cons_append] at N1
    have hrest : ∀ p ∈ news ++ own, p.1 ≠ _ := fun p hp => (List.mem_append.mp hp).elim (fun q => Nat.ne_of_lt (l1 p q)) (fun q => hoff p q _ (.head _))
    have hinA : ∀ p ∈ news, p ∈ news ++ own := fun p hp => List.mem_append_left _ hp
    have hinB : ∀ p ∈ own, p ∈ news ++ own := fun p hp => List.mem_append_right _ hp
    revert N1 hrest hinA hinB
    generalize news ++ own = rest
    intro N1 hrest hinA hinB
    have hln := IntsAre.length hints
    have hlen := hinv.len
    have hlc0 := hinv.lc0
    have hlc1 := hinv.lc1
    rcases hinv.lbs with e | e | e
    · subst e
      (try dsimp only)
      (try k_fold)
      k_steps
      all_goals (simp only [List.push_toArray] at *)
      rename News _ _ _ _ => nE
      refine endB (by assumption) nE hinA hinB (intsAre_snoc hints _ _) rfl rfl ?_ (invB_0 hinv hn0 hn1) rfl
      intro z h1 h2 h3
      simp [h1, h2, h3]
    · subst e
      (try dsimp only)
      (try k_fold)
      k_steps
      all_goals (simp only [List.push_toArray] at *)
      rename News _ _ _ _ => nE
      refine endB (by assumption) nE hinA hinB (intsAre_snoc hints _ _) rfl rfl ?_ (invB_2 hinv hn0 hn1) rfl
      intro z h1 h2 h3
      simp [h1, h2, h3]
    · subst e
      (try dsimp only)
      (try k_fold)
      k_steps
      all_goals (simp only [List.push_toArray] at *)
      rename News _ _ _ _ => nE
      refine endB (by assumption) nE hinA hinB (intsAre_snoc (intsAre_snoc hints _ _) _ _) rfl rfl ?_ (invB_4 hinv hn0 hn1) rfl
      intro z h1 h2 h3
      simp [h1, h2, h3]
  · rintro ⟨lc, tlc, lb, tlb, vs, xs, ep⟩ u h tk hlen9 hints hinv F1 N1
    dsimp only [kstB] at F1 N1 hints hinv
    have hln := IntsAre.length hints
    have hlen := hinv.len
    have hlc0 := hinv.lc0
    have hlc1 := hinv.lc1
    have hrest : ∀ p ∈ news, p.1 ≠ _ := fun p hp => Nat.ne_of_lt (l1 p hp)
    (try dsimp only)
    rcases hinv.lbs with e | e | e
    all_goals subst e
    all_goals (try k_fold)
    · k_steps
      rename News _ _ _ _ => nE
      refine KBa.make_K (by assumption) nE rfl (News.isList nE (.head _)) hints hinv.rng (by omega) ?_
      intro _ _ _ F' N' _
      clear nE
      k_steps
      refine ret_bytes hret (congrArg byteArr (fin_0 hinv)) (by k_asm) ?_
      rename News _ _ _ _ => nE
      exact fun p hp => nE p (by simp [hp])
    · k_steps
      rename News _ _ _ _ => nE
      simp only [List.push_toArray] at nE
      refine KBa.make_K (by assumption) nE rfl (News.isList nE (.head _)) (intsAre_snoc (intsAre_snoc (intsAre_snoc hints _ _) _ _) _ _) (rng_snoc (rng_snoc (rng_snoc hinv.rng (A64_in _)) (by decide)) (by decide)) (by simp only [List.length_append, List.length_cons, List.length_nil]; omega) ?_
      intro _ _ _ F' N' _
      clear nE
      k_steps
      refine ret_bytes hret (congrArg byteArr (fin_2 hinv)) (by k_asm) ?_
      rename News _ _ _ _ => nE
      exact fun p hp => nE p (by simp [hp])
    · k_steps
      rename News _ _ _ _ => nE
      simp only [List.push_toArray] at nE
      refine KBa.make_K (by assumption) nE rfl (News.isList nE (.head _)) (intsAre_snoc (intsAre_snoc hints _ _) _ _) (rng_snoc (rng_snoc hinv.rng (A64_in _)) (by decide)) (by simp only [List.length_append, List.length_cons, List.length_nil]; omega) ?_
      intro _ _ _ F' N' _
      clear nE
      k_steps
      refine ret_bytes hret (congrArg byteArr (fin_4 hinv)) (by k_asm) ?_
      rename News _ _ _ _ => nE
      exact fun p hp => nE p (by simp [hp])
end Mine
end
section
open PySem PySem.W PyProof.Rows PySem.Spec PySem.Calls
namespace Mine
local macro_rules | `(tactic| walk_at "call ref") => `(tactic| ((with_reducible show wpAny _ _ (call (Value.ref 50) _ _) _ _ _); k_dflt (refine' cl_use (b2a_c _ _ _ _ _ _ _ _ ?hb ?hz) ?k1 ?k2 ?k3 ?k4 ?k5 ?kK ?kd ?ku ?_; (case hb => assumption); (case hz => assumption); (case k1 => k_asm); (case k2 => k_asm); (case k3 => k_asm); (case k4 => k_asm); (case k5 => k_asm); (case kK => exact rfl); (case kd => ktr_room); (case ku => ktr_units)); intro t9 h9 tk9 F9 N9; (try dsimp only); (try k_fold)))
set_option maxRecDepth 100000 in
set_option maxHeartbeats 400000 in
theorem b64_c (w : World) (mean : ExcName → Option Value) (mg mb : Str → Option Value) (news : List (Addr × Obj)) (b : Array UInt8) (ns : List Int) (t1 : Tok) (hb : KBw.bInts b = ns) (hz : ns.length ≤ 1000) :
    Cl 5 w mean mg mb 58 news [.bytes b t1] [] (fun k => .bytes (byteArr (b64L ns)) k) := by
  dsimp only [Cl, CbRet, PG, KF, LS]
  k_fill
  intros
  rename_i hret
  w_on
  k_with_none
  refine wpAny_call ?_
  k_dflt (refine' code_def ?k1 ?k2 ?k3 ?k4 ?k5 ?kA ?kF ?kK ?k6 ?k7 ?k8 ?k9 ?kB ?_ ?c2 ?c3 ?c4 ?c5; (case kA => exact rfl); (case kF => exact rfl); (case kK => assumption); (case k1 => k_asm); (case k2 => k_asm); (case k3 => k_asm); (case k4 => k_asm); (case k5 => k_asm); (case k6 => k_is); (case k7 => k_is); (case k8 => ktr_room); (case k9 => first | exact BindsTo.of_eq rfl | exact binds_K (by k_in) rfl (by k_is) rfl rfl rfl); (case c5 => decide); (case kB => exact locs rfl); (case c2 => exact rfl); (case c3 => exact rfl); (case c4 => exact rfl); k_whole; intro g' L' h' FG' F' N' B' X' T'; (try dsimp only); (try k_lift B'); (try k_fold))
  k_steps
  exact ret_bytes hret rfl (by k_asm) (by k_asm)
end Mine
end
section
open PySem PySem.W PyProof.Rows PySem.Spec PySem.Calls
namespace Mine
def SgJ (stored : List Str) (m₀ : Str → Option Value) (x : Str) (S : Str) (m : Str → Option Value) : Prop :=
  (∃ t, m (Str.ofString "signs") = some (.str S t)) ∧ ∀ z, z ≠ x → z ≠ Str.ofString "signs" → stored.contains z = false → m z = m₀ z
theorem SgJ.form {stored : List Str} {m₀ : Str → Option Value} {x S : Str} {m : Str → Option Value} (h : SgJ stored m₀ x S m) :
    ∃ t, ∀ (v : Option Value), (fun y => if y = x then v else m y) = (fun y => if y = x then v else if y = Str.ofString "signs" then some (.str S t) else if stored.contains y then m y else m₀ y) := by
  obtain ⟨⟨t, ht⟩, h2⟩ := h
  refine ⟨t, fun v => ?_⟩
  funext y
  by_cases hx : y = x
  · simp [hx]
  · by_cases hs : y = Str.ofString "signs"
    · simp only [hs, if_true, ht]
    · cases hc : stored.contains y with
      | true => simp only [hx, hs, if_false, if_true]
      | false => simp only [hx, hs, if_false, Bool.false_eq_true, h2 y hx hs hc]
section
variable {prog : Program} {w : World} {A : Around} {E : Value → Shared → Prop} {s : Shared} {env : Env} {h₀ : Heap} {x : Str} {body : List Stmt} {Q : Flow → Shared → Prop}
theorem UnrPost_mono {L I : Addr} {s₁ : Shared} {it : Obj} {r r' : (Str → Option Value) → List (Addr × Obj) → Prop} {f : Flow} {s₂ : Shared} (h : UnrPost h₀ L s₁ I it r Q f s₂) (hr : ∀ m nx, r m nx → r' m nx) : UnrPost h₀ L s₁ I it r' Q f s₂ := by
  have up : UnrEnd h₀ L s₁ I it r s₂ → UnrEnd h₀ L s₁ I it r' s₂ := fun ⟨h', tk, m', n', e, F, N, o, q⟩ => ⟨h', tk, m', n', e, F, N, o, hr _ _ q⟩
  cases f with
  | ret v => exact h
  | brk => exact h
  | next => exact up h
  | cont => exact up h
theorem krs_all {I : Addr} {a c : Int} {n : Nat} {news : List (Addr × Obj)} (stored : List Str) (m₀ : Str → Option Value) (sF : Nat → Str)
    (turn : ∀ i t ts (u : Str → Option Value) h tk, i < n →
      Fr h₀ env.locals h (fun y => if y = x then some (.int (a + (i : Int) * c) t) else if y = Str.ofString "signs" then some (.str (sF i) ts) else if stored.contains y then u y else m₀ y) →
      News h₀ env.locals h ((I, krsIt (a + ((i + 1 : Nat) : Int) * c) ((n : Int) - ((i + 1 : Nat) : Int)) c) :: news) →
      wpAny (model prog w) A (execs body env) (UnrPost h₀ env.locals { s with heap := h, toks := tk } I (krsIt (a + ((i + 1 : Nat) : Int) * c) ((n : Int) - ((i + 1 : Nat) : Int)) c) (fun m' nx => nx = news ∧ SgJ stored m₀ x (sF (i + 1)) m') Q) E { s with heap := h, toks := tk })
    (done : ∀ ts (v : Option Value) (u : Str → Option Value) h tk, Fr h₀ env.locals h (fun y => if y = x then v else if y = Str.ofString "signs" then some (.str (sF n) ts) else if stored.contains y then u y else m₀ y) → News h₀ env.locals h news → Q .next { s with heap := h, toks := tk }) :
    ∀ k i m, i + k = n → SgJ stored m₀ x (sF i) m → KrsRest prog w A E h₀ env x body Q s I a c n k i m news := by
  intro k
  induction k with
  | zero =>
    intro i m e hJ
    obtain ⟨ts, hf⟩ := hJ.form
    have e' : i = n := by omega
    subst e'
    refine KrsRest.zero fun h tk F N => done ts (m x) m h tk ?_ N
    rw [← hf (m x)]
    have em : (fun y => if y = x then m x else m y) = m := by
      funext y
      by_cases q : y = x
      · rw [if_pos q, q]
      · rw [if_neg q]
    rw [em]
    exact F
  | succ k ih =>
    intro i m e hJ
    obtain ⟨ts, hf⟩ := hJ.form
    refine KrsRest.succ rfl fun t h tk F N => ?_
    rw [hf] at F
    refine wpAny_mono (turn i t ts m h tk (by omega) F N) (fun f s₂ p => ?_) fun _ _ x => x
    refine UnrPost_mono p ?_
    rintro m' nx ⟨rfl, hJ'⟩
    exact ih (i + 1) m' (by omega) hJ'
end
end Mine
end
section
open PySem PySem.W PyProof.Rows PySem.Spec PySem.Calls
namespace Mine
def C64 (i : Int) : Nat := (A64 i).toNat
def encL : List Int → List Nat
  | a :: b :: c :: r => [C64 (a / 4), C64 (a % 4 * 16 + b / 16), C64 (b % 16 * 4 + c / 64), C64 (c % 64)] ++ encL r
  | [a, b] => [C64 (a / 4), C64 (a % 4 * 16 + b / 16), C64 (b % 16 * 4), 61]
  | [a] => [C64 (a / 4), C64 (a % 4 * 16), 61, 61]
  | [] => []
def signsF (ns : List Int) : Str := ⟨(encL ns).toArray⟩
theorem encL_app : ∀ (x y : List Int), x.length % 3 = 0 → encL (x ++ y) = encL x ++ encL y
  | [], y, _ => rfl
  | [_], _, h => by simp at h
  | [_, _], _, h => by simp at h
  | a :: b :: c :: r, y, h => by
    have := encL_app r y (by simp only [List.length_cons] at h; omega)
    simp only [List.cons_append, encL, this, List.append_assoc, List.nil_append]
theorem encL_len : ∀ x : List Int, (encL x).length ≤ 4 * x.length
  | [] => by simp [encL]
  | [_] => by simp [encL]
  | [_, _] => by simp [encL]
  | a :: b :: c :: r => by
    have := encL_len r
    simp only [encL, List.length_append, List.length_cons, List.length_nil]; omega
theorem signsF_len (ns : List Int) : (signsF ns).length ≤ 4 * ns.length := by
  have := encL_len ns
  simpa [signsF, Str.length] using this
theorem str_app_lists (x y : List Nat) : (⟨x.toArray⟩ : Str) ++ ⟨y.toArray⟩ = ⟨(x ++ y).toArray⟩ := by
  apply congrArg Str.mk
  show x.toArray ++ y.toArray = _
  simp
theorem alpha_A64 {i : Int} (h : 0 ≤ i ∧ i < 64) : Txt.item (Str.ofString "ABCDEFGHIJKLMNOPQRSTUVWXYZabcdefghijklmnopqrstuvwxyz0123456789+/") i = ⟨[C64 i].toArray⟩ := by
  have hl : (Str.ofString "ABCDEFGHIJKLMNOPQRSTUVWXYZabcdefghijklmnopqrstuvwxyz0123456789+/").length = 64 := by decide +kernel
  rw [item_eq h.1 (by rw [hl]; exact h.2)]
  have key : ∀ k, k < 64 → (Str.ofString "ABCDEFGHIJKLMNOPQRSTUVWXYZabcdefghijklmnopqrstuvwxyz0123456789+/").cps.toList.getD k 0 = (B64L.getD k 0).toNat := by decide +kernel
  rw [key _ (by omega)]
  rfl
theorem glue_fold : ∀ (l : List Nat) (acc : Array Nat), (l.map fun c => (⟨[c].toArray⟩ : Str)).foldl (fun acc p => acc ++ (Str.ofString "").cps ++ p.cps) acc = acc ++ l.toArray
  | [], acc => by simp
  | c :: r, acc => by
    have e : (Str.ofString "").cps = #[] := by decide
    rw [List.map_cons, List.foldl_cons, glue_fold r, e]
    simp
theorem join_singles (l : List Nat) : Txt.join (Str.ofString "") (l.map fun c => (⟨[c].toArray⟩ : Str)) = ⟨l.toArray⟩ := by
  apply congrArg Str.mk
  cases l with
  | nil => rfl
  | cons c r =>
    simp only [List.map_cons, List.drop_succ_cons, List.drop_zero, List.headD_cons]
    rw [glue_fold r]
    simp
theorem join_alpha {l : List Int} (h : ∀ k ∈ l, 0 ≤ k ∧ k < 64) : Txt.join (Str.ofString "") (l.map (Txt.item (Str.ofString "ABCDEFGHIJKLMNOPQRSTUVWXYZabcdefghijklmnopqrstuvwxyz0123456789+/"))) = ⟨(l.map C64).toArray⟩ := by
  rw [← join_singles, List.map_map]
  congr 1
  exact List.map_congr_left fun k hk => alpha_A64 (h k hk)
theorem eqs1 : Txt.slice (Str.ofString "===") (some 1) none = ⟨[61, 61].toArray⟩ := by decide +kernel
theorem eqs2 : Txt.slice (Str.ofString "===") (some 2) none = ⟨[61].toArray⟩ := by decide +kernel
theorem eqs3 : Txt.slice (Str.ofString "===") (some 3) none = ⟨[].toArray⟩ := by decide +kernel
theorem take_next {ns xs : List Int} {i : Nat} (e : ns.drop (3 * i) = xs) : ns.take (3 * (i + 1)) = ns.take (3 * i) ++ xs.take 3 := by
  rw [← e, show 3 * (i + 1) = 3 * i + 3 by omega, List.take_add]
theorem take_len3 {ns xs : List Int} {i : Nat} (e : ns.drop (3 * i) = xs) (hx : xs ≠ []) : (ns.take (3 * i)).length % 3 = 0 := by
  have h : 3 * i < ns.length := by
    apply Nat.lt_of_not_le
    intro h
    rw [List.drop_of_length_le h] at e
    exact hx e.symm
  rw [List.length_take, Nat.min_eq_left (Nat.le_of_lt h)]
  omega
theorem fd {a k : Int} (h : 0 ≤ k) : a.fdiv k = a / k := Int.fdiv_eq_ediv_of_nonneg _ h
theorem fm {a k : Int} (h : 0 ≤ k) : a.fmod k = a % k := Int.fmod_eq_emod_of_nonneg _ h
theorem sign_step1 {ns : List Int} {i : Nat} {a : Int} (e : ns.drop (3 * i) = [a]) (h : ∀ k ∈ [a.fdiv 4, a.fmod 4 * 16 + Int.fdiv 0 16], 0 ≤ k ∧ k < 64) :
    signsF (List.take (3 * i) ns) ++ Txt.join (Str.ofString "") (List.map (Txt.item (Str.ofString "ABCDEFGHIJKLMNOPQRSTUVWXYZabcdefghijklmnopqrstuvwxyz0123456789+/")) [a.fdiv 4, a.fmod 4 * 16 + Int.fdiv 0 16]) ++ Txt.slice (Str.ofString "===") (some 1) none = signsF (List.take (3 * (i + 1)) ns) := by
  rw [join_alpha h, eqs1, take_next e]
  unfold signsF
  rw [encL_app _ _ (take_len3 e (by simp)), str_app_lists, str_app_lists, List.append_assoc, fd (by decide), fm (by decide), fd (by decide)]
  simp [encL]
theorem sign_step2 {ns : List Int} {i : Nat} {a b : Int} (e : ns.drop (3 * i) = [a, b]) (h : ∀ k ∈ [a.fdiv 4, a.fmod 4 * 16 + b.fdiv 16, b.fmod 16 * 4 + Int.fdiv 0 64], 0 ≤ k ∧ k < 64) :
    signsF (List.take (3 * i) ns) ++ Txt.join (Str.ofString "") (List.map (Txt.item (Str.ofString "ABCDEFGHIJKLMNOPQRSTUVWXYZabcdefghijklmnopqrstuvwxyz0123456789+/")) [a.fdiv 4, a.fmod 4 * 16 + b.fdiv 16, b.fmod 16 * 4 + Int.fdiv 0 64]) ++ Txt.slice (Str.ofString "===") (some 2) none = signsF (List.take (3 * (i + 1)) ns) := by
  rw [join_alpha h, eqs2, take_next e]
  unfold signsF
  rw [encL_app _ _ (take_len3 e (by simp)), str_app_lists, str_app_lists, List.append_assoc, fd (by decide), fm (by decide), fd (by decide), fm (by decide), fd (by decide)]
  simp [encL]
theorem sign_step3 {ns r : List Int} {i : Nat} {a b c : Int} (e : ns.drop (3 * i) = a :: b :: c :: r) (h : ∀ k ∈ [a.fdiv 4, a.fmod 4 * 16 + b.fdiv 16, b.fmod 16 * 4 + c.fdiv 64, c.fmod 64], 0 ≤ k ∧ k < 64) :
    signsF (List.take (3 * i) ns) ++ Txt.join (Str.ofString "") (List.map (Txt.item (Str.ofString "ABCDEFGHIJKLMNOPQRSTUVWXYZabcdefghijklmnopqrstuvwxyz0123456789+/")) [a.fdiv 4, a.fmod 4 * 16 + b.fdiv 16, b.fmod 16 * 4 + c.fdiv 64, c.fmod 64]) ++ Txt.slice (Str.ofString "===") (some 3) none = signsF (List.take (3 * (i + 1)) ns) := by
  rw [join_alpha h, eqs3, take_next e]
  unfold signsF
  rw [encL_app _ _ (take_len3 e (by simp)), str_app_lists, str_app_lists, List.append_assoc, fd (by decide), fm (by decide), fd (by decide), fm (by decide), fd (by decide), fm (by decide)]
  simp [encL]
theorem four2 {a : Int} (ha : 0 ≤ a ∧ a < 256) : ∀ k ∈ [a.fdiv 4, a.fmod 4 * 16 + Int.fdiv 0 16], 0 ≤ k ∧ k < 64 := by
  rw [fd (by decide), fm (by decide), fd (by decide)]
  simp only [List.forall_mem_cons, List.not_mem_nil, false_implies, implies_true, and_true]
  omega
theorem four3 {a b : Int} (ha : 0 ≤ a ∧ a < 256) (hb : 0 ≤ b ∧ b < 256) : ∀ k ∈ [a.fdiv 4, a.fmod 4 * 16 + b.fdiv 16, b.fmod 16 * 4 + Int.fdiv 0 64], 0 ≤ k ∧ k < 64 := by
  rw [fd (by decide), fm (by decide), fd (by decide), fm (by decide), fd (by decide)]
  simp only [List.forall_mem_cons, List.not_mem_nil, false_implies, implies_true, and_true]
  omega
theorem four4 {a b c : Int} (ha : 0 ≤ a ∧ a < 256) (hb : 0 ≤ b ∧ b < 256) (hc : 0 ≤ c ∧ c < 256) : ∀ k ∈ [a.fdiv 4, a.fmod 4 * 16 + b.fdiv 16, b.fmod 16 * 4 + c.fdiv 64, c.fmod 64], 0 ≤ k ∧ k < 64 := by
  rw [fd (by decide), fm (by decide), fd (by decide), fm (by decide), fd (by decide), fm (by decide)]
  simp only [List.forall_mem_cons, List.not_mem_nil, false_implies, implies_true, and_true]
  omega
end Mine
end
section
open PySem PySem.W PyProof.Rows PySem.Spec PySem.Calls
namespace Mine
theorem size3 (k : Nat) : Builtin.Range.rangeSize 0 (k : Int) 3 = (((k + 2) / 3 : Nat) : Int) := by
  rw [rangeSize_pos (by decide) (by omega)]
  omega
theorem small3 {k : Nat} (h : k ≤ 1000) : Builtin.Range.small 0 (k : Int) 3 = true := by
  unfold Builtin.Range.small
  rw [size3]
  unfold Builtin.Range.rangeFitsLong
  simp
  omega
theorem part_eq (ns : List Int) (i : Nat) : List.take (min (0 + (i : Int) * 3 + 3).toNat ns.length - (0 + (i : Int) * 3).toNat) (List.drop (0 + (i : Int) * 3).toNat ns) = (ns.drop (3 * i)).take 3 := by
  have e1 : (0 + (i : Int) * 3).toNat = 3 * i := by omega
  have e2 : (0 + (i : Int) * 3 + 3).toNat = 3 * i + 3 := by omega
  rw [e1, e2]
  by_cases h : 3 * i + 3 ≤ ns.length
  · rw [Nat.min_eq_left h]; congr 1; omega
  · rw [Nat.min_eq_right (by omega), List.take_of_length_le (by rw [List.length_drop]; omega), List.take_of_length_le (by rw [List.length_drop]; omega)]
theorem part_cases {ns : List Int} {i : Nat} (h : i < (ns.length + 2) / 3) :
    (∃ a, ns.drop (3 * i) = [a]) ∨ (∃ a b, ns.drop (3 * i) = [a, b]) ∨ ∃ a b c r, ns.drop (3 * i) = a :: b :: c :: r := by
  have hl : (ns.drop (3 * i)).length ≠ 0 := by rw [List.length_drop]; omega
  match hd : ns.drop (3 * i), hl with
  | [], hl => exact absurd rfl hl
  | [a], _ => exact .inl ⟨a, rfl⟩
  | [a, b], _ => exact .inr (.inl ⟨a, b, rfl⟩)
  | a :: b :: c :: r, _ => exact .inr (.inr ⟨a, b, c, r, rfl⟩)
theorem rng_drop {ns xs : List Int} {k : Nat} (hr : ∀ n ∈ ns, 0 ≤ n ∧ n < 256) (e : ns.drop k = xs) : ∀ n ∈ xs, 0 ≤ n ∧ n < 256 := fun n hn => hr n (List.mem_of_mem_drop (by rw [e]; exact hn))
theorem item_len1 {i : Int} (h : 0 ≤ i ∧ i < 64) : (Txt.item (Str.ofString "ABCDEFGHIJKLMNOPQRSTUVWXYZabcdefghijklmnopqrstuvwxyz0123456789+/") i).length = 1 := by
  rw [item_eq h.1 (by have : (Str.ofString "ABCDEFGHIJKLMNOPQRSTUVWXYZabcdefghijklmnopqrstuvwxyz0123456789+/").length = 64 := by decide +kernel
                      rw [this]; exact h.2)]
  rfl
theorem alpha_item {prog : Program} {w : World} {A : Around} {E : Value → Shared → Prop} {s : Shared} {value slice : PySem.Expr} {t u : Tok} {i : Int} {Q : Value → Shared → Prop} (h : 0 ≤ i ∧ i < 64)
    (hq : Q (.str (Txt.item (Str.ofString "ABCDEFGHIJKLMNOPQRSTUVWXYZabcdefghijklmnopqrstuvwxyz0123456789+/") i) s.toks) { s with toks := s.toks + 1 })
    (hs : subscripted slice false (.str (Str.ofString "ABCDEFGHIJKLMNOPQRSTUVWXYZabcdefghijklmnopqrstuvwxyz0123456789+/") t) (.int i u) = operate [.str (Str.ofString "ABCDEFGHIJKLMNOPQRSTUVWXYZabcdefghijklmnopqrstuvwxyz0123456789+/") t, .int i u] (getItem (.str (Str.ofString "ABCDEFGHIJKLMNOPQRSTUVWXYZabcdefghijklmnopqrstuvwxyz0123456789+/") t) (.int i u)) := by with_unfolding_all rfl)
    (ht : ∀ r, letTemporaryGo value (.str (Str.ofString "ABCDEFGHIJKLMNOPQRSTUVWXYZabcdefghijklmnopqrstuvwxyz0123456789+/") t) r = pure () := by intro _; with_unfolding_all rfl) :
    wpAny (model prog w) A (subscriptTail value slice (.str (Str.ofString "ABCDEFGHIJKLMNOPQRSTUVWXYZabcdefghijklmnopqrstuvwxyz0123456789+/") t) (.int i u)) Q E s :=
  KXi.item (n := 64) (by decide +kernel) (by omega) (by omega) (by decide) (fun _ => hq) hs ht
local macro_rules | `(tactic| walk_at "eval ListComp") => `(tactic| (k_dflt (refine LCg.ListComp_U (F₀ := by k_asm) (by with_unfolding_all rfl) (by decide) (by rfl) (by decide) (by rfl) ?_)))
local macro_rules | `(tactic| walk_at "CompSrc") => `(tactic| (k_dflt ((refine LCg.CompSrc.ledger (by rfl) (by k_asm) (by k_asm) (by k_mem) (by exact Nat.le_of_ble_eq_true rfl) ?_); intro g'; ((refine kct_list (Txt.item (Str.ofString "ABCDEFGHIJKLMNOPQRSTUVWXYZabcdefghijklmnopqrstuvwxyz0123456789+/")) (.cons _ _ (.cons _ _ .nil)) ?_ ?_) <;> (first | (intro k' t' I' oI' C' oC' D' m' ys' h' tk' E' hk' hC' hx' F' N' off' ne' hMark'; (have hb' := (by assumption : ∀ k ∈ _, (0 : Int) ≤ k ∧ k < 64) _ hk')) | (unfold KPfDone; intro ys' hys' hyl'; unfold LCg.FinE; intro D' h' tk' F' N' o1'))))))
local macro_rules | `(tactic| walk_at "CompSrc") => `(tactic| (k_dflt ((refine LCg.CompSrc.ledger (by rfl) (by k_asm) (by k_asm) (by k_mem) (by exact Nat.le_of_ble_eq_true rfl) ?_); intro g'; ((refine kct_list (Txt.item (Str.ofString "ABCDEFGHIJKLMNOPQRSTUVWXYZabcdefghijklmnopqrstuvwxyz0123456789+/")) (.cons _ _ (.cons _ _ (.cons _ _ .nil))) ?_ ?_) <;> (first | (intro k' t' I' oI' C' oC' D' m' ys' h' tk' E' hk' hC' hx' F' N' off' ne' hMark'; (have hb' := (by assumption : ∀ k ∈ _, (0 : Int) ≤ k ∧ k < 64) _ hk')) | (unfold KPfDone; intro ys' hys' hyl'; unfold LCg.FinE; intro D' h' tk' F' N' o1'))))))
local macro_rules | `(tactic| walk_at "CompSrc") => `(tactic| (k_dflt ((refine LCg.CompSrc.ledger (by rfl) (by k_asm) (by k_asm) (by k_mem) (by exact Nat.le_of_ble_eq_true rfl) ?_); intro g'; ((refine kct_list (Txt.item (Str.ofString "ABCDEFGHIJKLMNOPQRSTUVWXYZabcdefghijklmnopqrstuvwxyz0123456789+/")) (.cons _ _ (.cons _ _ (.cons _ _ (.cons _ _ .nil)))) ?_ ?_) <;> (first | (intro k' t' I' oI' C' oC' D' m' ys' h' tk' E' hk' hC' hx' F' N' off' ne' hMark'; (have hb' := (by assumption : ∀ k ∈ _, (0 : Int) ≤ k ∧ k < 64) _ hk')) | (unfold KPfDone; intro ys' hys' hyl'; unfold LCg.FinE; intro D' h' tk' F' N' o1'))))))
local macro_rules | `(tactic| walk_at "CompEnd") => `(tactic| (k_dflt (refine LCg.CompEnd.intro (by assumption) (by assumption) _ (fun _ hp => hp) (by assumption) (by exact .inr ⟨_, by k_mem, rfl, _, rfl⟩) ⟨rfl, _, rfl⟩)))
theorem add_strG {prog : Program} {w : World} {A : Around} {E : Value → Shared → Prop} {s : Shared} {x y : Str} {t u : Tok} {Q : Value → Shared → Prop} (h : ∀ X t' tk, X = x ++ y → X.length = x.length + y.length → Q (.str X t') { s with toks := tk }) (hsz : x.length + y.length ≤ 100000) :
    wpAny (model prog w) A (binaryOp .Add (.str x t) (.str y u)) Q E s := PyProof.Rows.add_str (fun t' tk => h _ t' tk rfl (Str.length_append x y)) (by rw [sizeLine_eq]; omega)
theorem eql1 : (Txt.slice (Str.ofString "===") (some 1) none).length = 2 := by decide +kernel
theorem eql2 : (Txt.slice (Str.ofString "===") (some 2) none).length = 1 := by decide +kernel
theorem eql3 : (Txt.slice (Str.ofString "===") (some 3) none).length = 0 := by decide +kernel
theorem join_G {prog : Program} {w : World} {A : Around} {E : Value → Shared → Prop} {s : Shared} {D : Addr} {ys : List Value} {l : List Int} {t : Tok} {Q : Value → Shared → Prop} (hl : s.heap.IsList D ys.toArray) (hc : CarriedAll ys (l.map fun a => PyData.str (Txt.item (Str.ofString "ABCDEFGHIJKLMNOPQRSTUVWXYZabcdefghijklmnopqrstuvwxyz0123456789+/") a))) (h1 : ∀ k ∈ l, (0 : Int) ≤ k ∧ k < 64) (hn : l.length ≤ 4)
    (h : ∀ J t' k, J = Txt.join (Str.ofString "") (l.map (Txt.item (Str.ofString "ABCDEFGHIJKLMNOPQRSTUVWXYZabcdefghijklmnopqrstuvwxyz0123456789+/"))) → J.length ≤ 4 → Q (.str J t') { s with toks := k }) :
    wpAny (model prog w) A (call (.builtin "str.join") [.str (Str.ofString "") t, .ref D]) Q E s :=
  KT.join_1 hl hc (fun a ha => item_len1 (h1 a ha)) (by omega) fun t' k e => h _ t' k rfl (by rw [e]; exact hn)
local macro_rules | `(tactic| walk_at "call builtin:str.join") => `(tactic| ((show wpAny _ _ (call (Value.builtin "str.join") [Value.str _ _, Value.ref _]) _ _ _); (with_reducible rename CarriedAll _ (List.map _ _) => ktC); k_dflt (refine join_G (News.isList (by k_asm) (by k_mem)) ktC (by assumption) (by simp) ?_); intro _ _ _ _ _))
theorem add1 {prog : Program} {w : World} {A : Around} {E : Value → Shared → Prop} {s : Shared} {x y : Str} {t u : Tok} {Q : Value → Shared → Prop} (hx : x.length ≤ 4000) (hy : y.length ≤ 4) (h : ∀ X t' tk, X = x ++ y → X.length ≤ 5000 → Q (.str X t') { s with toks := tk }) :
    wpAny (model prog w) A (binaryOp .Add (.str x t) (.str y u)) Q E s := add_strG (fun X t' tk e l => h X t' tk e (by omega)) (by omega)
theorem add2 {prog : Program} {w : World} {A : Around} {E : Value → Shared → Prop} {s : Shared} {x y : Str} {t u : Tok} {Q : Value → Shared → Prop} (hx : x.length ≤ 5000) (hy : y.length ≤ 3) (h : ∀ X t' tk, X = x ++ y → Q (.str X t') { s with toks := tk }) :
    wpAny (model prog w) A (binaryOp .Add (.str x t) (.str y u)) Q E s := add_strG (fun X t' tk e _ => h X t' tk e) (by omega)
theorem eqe1 : (Txt.slice (Str.ofString "===") (some 1) none).length ≤ 3 := by rw [eql1]; decide
theorem eqe2 : (Txt.slice (Str.ofString "===") (some 2) none).length ≤ 3 := by rw [eql2]; decide
theorem eqe3 : (Txt.slice (Str.ofString "===") (some 3) none).length ≤ 3 := by rw [eql3]; decide
local macro_rules | `(tactic| walk_at "binaryOp Add str str") => `(tactic| (k_dflt (refine add1 (by assumption) (by assumption) ?_); intro _ _ _ _ _))
local macro_rules | `(tactic| walk_at "binaryOp Add str str") => `(tactic| (k_dflt (refine add2 (by assumption) (by first | exact eqe1 | exact eqe2 | exact eqe3) ?_); intro _ _ _ _))
theorem endS {h₀ h' : Heap} {L I : Addr} {it : Obj} {m₀ m' : Str → Option Value} {all nw : List (Addr × Obj)} {s₁ : Shared} {tk : Nat} {stored : List Str} {x X S : Str} {t : Tok}
    (F : Fr h₀ L h' m') (N : News h₀ L h' all) (hI : (I, it) ∈ all) (hsub : ∀ p ∈ nw, p ∈ all) (off : ∀ p ∈ nw, p.1 < I) (hs : m' (Str.ofString "signs") = some (.str X t)) (hX : X = S)
    (hr : ∀ z, z ≠ x → z ≠ Str.ofString "signs" → stored.contains z = false → m' z = m₀ z) :
    UnrEnd h₀ L s₁ I it (fun m' nx => nx = nw ∧ SgJ stored m₀ x S m') { s₁ with heap := h', toks := tk } :=
  UnrEnd.intro F N nw (List.forall_mem_cons.mpr ⟨hI, hsub⟩) (fun p hp => Nat.ne_of_lt (off p hp)) ⟨rfl, ⟨t, by rw [hs, hX]⟩, hr⟩
local macro_rules | `(tactic| walk_at "UnrEnd") => `(tactic| (k_dflt ((refine' endS ?uF ?uN ?uI ?uS ?uO ?uV ?uX ?uR); (case uF => assumption); (case uN => assumption); (case uI => k_mem); (case uO => assumption); (case uS => (intro p hp; repeat (first | exact hp | refine List.Mem.tail _ ?_))); (case uV => with_unfolding_all rfl); (case uX => (subst_vars; with_reducible assumption)); (case uR => (intro z h1 h2 h3; (simp only [List.contains_cons, List.contains_nil, Bool.or_false, Bool.or_eq_false_iff, beq_eq_false_iff_ne, ne_eq] at h3); (simp [h1, h2, h3]))))))
local macro_rules | `(tactic| walk_at "subscriptTail Name Name str int") => `(tactic| ((with_reducible show wpAny _ _ (subscriptTail _ _ (Value.str (Str.ofString "ABCDEFGHIJKLMNOPQRSTUVWXYZabcdefghijklmnopqrstuvwxyz0123456789+/") _) (Value.int _ _)) _ _ _); k_dflt (refine alpha_item (by assumption) ?_)))
local macro_rules | `(tactic| k_all) => `(tactic| assumption)
set_option maxRecDepth 100000 in
set_option maxHeartbeats 4000000 in
theorem signs_c (w : World) (mean : ExcName → Option Value) (mg mb : Str → Option Value) (news : List (Addr × Obj)) (l : Addr) (vs : List Value) (ep : Nat) (ns : List Int) (hi : IntsAre vs ns) (hr : ∀ n ∈ ns, 0 ≤ n ∧ n < 256) (hz : ns.length ≤ 1000) :
    Cl 3 w mean mg mb 63 ((l, W.listOf vs.toArray ep) :: news) [.ref l] [] (fun k => .str (signsF ns) k) := by
  dsimp only [Cl, CbRet, PG, KF, LS]
  k_fill
  intros
  rename_i hret
  w_on
  k_with_none
  refine wpAny_call ?_
  k_dflt (refine' code_defC ?k1 ?k2 ?k3 ?k4 ?k5 ?kA ?kF ?kK ?k6 ?k7 ?k8 ?k9 ?kB ?kD ?_ ?c2 ?c3 ?c4; (case kA => exact rfl); (case kF => exact rfl); (case kK => assumption); (case k1 => k_asm); (case k2 => k_asm); (case k3 => k_asm); (case k4 => k_asm); (case k5 => k_asm); (case k6 => k_is); (case k7 => k_is); (case k8 => ktr_room); (case k9 => first | exact BindsTo.of_eq rfl | exact binds_K (by k_in) rfl (by k_is) rfl rfl rfl); (case kB => exact rfl); (case kD => decide +kernel); (case c2 => exact rfl); (case c3 => exact rfl); (case c4 => exact rfl); k_whole; intro g' L' h' tk' cells' FG' F' N' Y' B' X' T' l1; k_cells Y'; (try simp only [List.cons_append, List.nil_append] at N'); (try dsimp only); (try k_lift B'); (try k_fold))
  have hln := IntsAre.length hi
  have l2 : ∀ p ∈ (l, W.listOf vs.toArray ep) :: news, p.1 ≠ L' + 1 := fun p hp => Nat.ne_of_lt (Nat.lt_succ_of_lt (l1 p hp))
  k_steps
  rename Fr _ _ _ _ => lF'
  rename News _ _ _ _ => lN'
  rename IsRange _ _ _ _ _ _ _ _ => rgX
  refine krs_iter (n := (ns.length + 2) / 3) rfl rgX (small3 (by omega)) (size3 _) lF' lN' ?_
  clear lF' lN' rgX
  intro I lI
  refine krs_all [Str.ofString "part", Str.ofString "high", Str.ofString "middle", Str.ofString "low", Str.ofString "four"] _ (fun i => signsF (ns.take (3 * i))) ?_ ?_ _ _ _ (by omega) ⟨⟨_, rfl⟩, fun _ _ _ _ => rfl⟩
  · intro i t ts u h tk hin F1 N1
    (try dsimp only)
    (try k_fold)
    iterate 14 (first | (k_unfold; (try dsimp only)) | (k_end; wrow_close) | walk1 | (dsimp only; walk1) | (leave1; walk_say "STEP leave1"; try dsimp only))
    rename IntsAre _ (List.take _ _) => hI9
    rename List.length (List.take _ _) = _ => hC9
    rename List.length (List.take _ _) ≤ _ => hD9
    rw [part_eq] at hI9
    clear hC9 hD9
    have hs1 : (signsF (List.take (3 * i) ns)).length ≤ 4000 := Nat.le_trans (signsF_len _) (by rw [List.length_take]; omega)
    rcases part_cases hin with ⟨a, e⟩ | ⟨a, b, e⟩ | ⟨a, b, c, r, e⟩
    · have hrr := rng_drop hr e
      rw [e] at hI9
      have ha := hrr a (by simp)
      cases hI9 with | cons _ ta hI9 => cases hI9 with | nil =>
      have hfour := four2 ha
      have hstep := sign_step1 e hfour
      k_steps
    · have hrr := rng_drop hr e
      rw [e] at hI9
      have ha := hrr a (by simp)
      have hb := hrr b (by simp)
      cases hI9 with | cons _ ta hI9 => cases hI9 with | cons _ tb hI9 => cases hI9 with | nil =>
      have hfour := four3 ha hb
      have hstep := sign_step2 e hfour
      k_steps
    · have hrr := rng_drop hr e
      rw [e] at hI9
      have ha := hrr a (by simp)
      have hb := hrr b (by simp)
      have hc := hrr c (by simp)
      cases hI9 with | cons _ ta hI9 => cases hI9 with | cons _ tb hI9 => cases hI9 with | cons _ tc hI9 => cases hI9 with | nil =>
      have hfour := four4 ha hb hc
      have hstep := sign_step3 e hfour
      k_steps
  · intro ts v u h tk F1 N1
    (try dsimp only)
    (try k_fold)
    k_steps
    rename News _ _ _ _ => nE
    refine cb_retS hret (congrArg signsF (List.take_of_length_le (by omega))) (by k_asm) (fun p hp => nE p (List.mem_cons_of_mem _ hp))
end Mine
end
section
open PySem PySem.W PyProof.Rows PySem.Spec PySem.Calls PyProof.Rows.LCg
namespace Mine
section
variable {prog : Program} {w : World} {A : Around} {E : Value → Shared → Prop} {s : Shared} {h₀ : Heap} {L : Addr} {m : Str → Option Value} {env : Env}
/-- a list comprehension over bytes -/
def SrcB (prog : Program) (w : World) (A : Around) (h₀ : Heap) (L : Addr) (m : Str → Option Value) (env : Env) (elt : Expr) (x : Str) (scope : Scope) (cl : List (Str × Addr)) (Fin : Shared → List Value → List (Addr × Obj) → Prop) (xv : Value) (s₁ : Shared) : Prop :=
  ∃ b tb news, xv = .bytes b tb ∧ A.handled = none ∧ Fr h₀ L s₁.heap m ∧ News h₀ L s₁.heap news ∧ b.size ≤ sizeLine ∧
    ∀ s₂ : Shared, (∃ h, s₂ = { s₁ with heap := h }) → CompRest prog w A h₀ L m env elt x scope cl s₂ (fun _ => True) (fun i v => ∃ c u, b[i]? = some c ∧ v = .int (c.toNat : Int) u) (Fin s₂) b.size 0 [] news
theorem ListComp_B {elt iter : Expr} {x : Str} {px : Pos} {scope : Scope} {cl : List (Str × Addr)} {pos : Pos} {Q : Value → Shared → Prop} (_F₀ : Fr h₀ L s.heap m)
    (hclos : closureFor scope env = pure cl) (hcell : ∀ y ∈ scope.names, y.2 ≠ .cell) (hkind : scope.kind = .function)
    (hnames : ∀ y ∈ scope.names, y.2 = .local → scope.names.lookup y.1 = some .local) (hx : scope.names.lookup x = some .local)
    (h : wpAny (model prog w) A (eval iter env) (SrcB prog w A h₀ L m env elt x scope cl (fun s₂ => FinE h₀ L m s₂ Q)) E s)
    (hs : ∀ x, foldedSetIterable iter env x = pure x := by intro _; rfl) :
    wpAny (model prog w) A (eval (.ListComp elt [⟨.Name x px, iter, [], 0⟩] scope pos) env) Q E s := by
  rw [eval_ListComp]
  refine wpAny_comprehension_free (use := none) rfl hs hclos hkind hnames (wpAny_mono h (fun xv s₁ h₁ => ?_) fun _ _ e => e)
  obtain ⟨b, tb, news, rfl, hh, F, N, hsz, R⟩ := h₁
  refine KBw.pyIter_bytes ?_
  refine block_U (KBw.walks hh _ b tb) hsz (fun i h st => by obtain ⟨o, e, _⟩ := st; exact ⟨o, e⟩)
    (fun i h h' o nw st e e' _ _ _ => by obtain ⟨o', q, r⟩ := st; rw [e] at q; cases q; exact ⟨o, e', r⟩) hcell hkind hx ⟨_, Heap.get?_push_size _ rfl, rfl, rfl⟩ (fun c hc => ?_)
    (F.keeps fun _ _ e => Heap.get?_push_of_some _ e) (N.grown fun _ _ e => Heap.get?_push_of_some _ e) (Nat.ne_of_lt F.ns.lt) (next_is_new F) (fun p hp => Nat.ne_of_lt (Heap.lt_size (N p hp).1)) trivial (R _ ⟨_, rfl⟩) ?_
  · rw [List.mem_singleton.mp hc]
    show s₁.heap.objs.size < (s₁.heap.push _).objs.size
    rw [Heap.size_push]; exact Nat.lt_succ_self _
  · intro D C h tk m' ys news' F' N' o1 hn hC₀ hD₀ hCL hDL hCD offC fin
    refine ⟨m', hn, fun h'' hs'' => fin D h'' tk (F'.change hs'' hCL hC₀) (fun p hp => ?_) o1⟩
    refine ⟨hs''.extBut _ _ ?_ (N' p hp).1, (N' p hp).2⟩
    rcases List.mem_cons.mp hp with rfl | hp
    · exact Ne.symm hCD
    · exact offC p hp
/-- every turn hands on a value by its number, and keeps the ledger -/
theorem comp_each {elt : Expr} {x : Str} {scope : Scope} {cl : List (Str × Addr)} {S : List (Addr × Obj) → Prop} {P : Nat → Value → Prop} {Fin : List Value → List (Addr × Obj) → Prop} {news : List (Addr × Obj)} {n : Nat} (R : Nat → Value → Prop)
    (turn : ∀ i v I oI C oC D m₂ ys h tk (E' : Value → Shared → Prop), i < n → P i v → NsObj oC m₂ → m₂ x = some v → Fr h₀ L h m → News h₀ L h ((I, oI) :: (C, oC) :: (D, lst ys) :: news) → Off3 I C D news → ((@Ne Nat I C) ∧ (@Ne Nat I D) ∧ (@Ne Nat C D)) →
      wpAny (model prog w) A (eval elt (compEnvC scope cl C env)) (CompEnd h₀ L m { s with heap := h, toks := tk } I oI C oC D (lst ys) S (fun y news' => news' = news ∧ R i y)) E' { s with heap := h, toks := tk })
    (fin : ∀ ys, ys.length = n → (∀ i y, ys[i]? = some y → R i y) → Fin ys news) : CompRest prog w A h₀ L m env elt x scope cl s S P Fin n 0 [] news := by
  have key : ∀ (j i : Nat) (ys : List Value), i + j = n → ys.length = i → (∀ k y, ys[k]? = some y → R k y) → CompRest prog w A h₀ L m env elt x scope cl s S P Fin j i ys news := by
    intro j
    induction j with
    | zero => intro i ys hi hl hy; exact CompRest.zero (fin ys (by omega) hy)
    | succ j ih =>
      intro i ys hi hl hy
      refine CompRest.succ ?_
      intro v I oI C oC D m₂ h tk E' hv hC hx F N off ne
      refine wpAny_mono (turn i v I oI C oC D m₂ ys h tk E' (by omega) hv hC hx F N off ne) (fun y s₂ hq => ?_) fun _ _ e => e
      obtain ⟨h', tk', nw, e, F', N', off', hS, hn, hR⟩ := hq
      rw [hn] at N' off' hS
      refine ⟨h', tk', news, e, F', N', off', hS, ih (i + 1) _ (by omega) (by rw [List.length_append, hl]; rfl) ?_⟩
      intro k z hz
      by_cases hk : k < ys.length
      · rw [List.getElem?_append_left hk] at hz; exact hy k z hz
      · have hk2 : k = ys.length := by
          have := (List.getElem?_eq_some_iff.mp hz).1
          rw [List.length_append, List.length_singleton] at this
          omega
        subst hk2
        rw [List.getElem?_append_right (Nat.le_refl _), Nat.sub_self] at hz
        simp only [List.getElem?_cons_zero, Option.some.injEq] at hz
        rw [← hz, hl]; exact hR
  exact key n 0 [] (by omega) rfl (fun k y h => by simp at h)
theorem off1_ne {D : Addr} {l : List (Addr × Obj)} (x : Off1 D l) : ∀ p ∈ l, p.1 ≠ D := by
  induction l with
  | nil => exact fun _ h => nomatch h
  | cons q r ih => exact List.forall_mem_cons.mpr ⟨x.1, ih x.2⟩
theorem comp_end {I C D : Addr} {s₁ : Shared} {oI oC oD : Obj} {S : List (Addr × Obj) → Prop} {R : Value → Prop} {y : Value} {h' : Heap} {tk : Nat} {news all : List (Addr × Obj)}
    (F : Fr h₀ L h' m) (N : News h₀ L h' all) (sub : ∀ p ∈ (I, oI) :: (C, oC) :: (D, oD) :: news, p ∈ all) (off : Off3 I C D news) (hS : S news) (r : R y) :
    CompEnd h₀ L m s₁ I oI C oC D oD S (fun y news' => news' = news ∧ R y) y { s₁ with heap := h', toks := tk } := CompEnd.intro F N news sub off hS ⟨rfl, r⟩
end
end Mine
end
section
open PySem PySem.W PyProof.Rows PySem.Spec PySem.Calls PyProof.Rows.LCg
namespace Mine
noncomputable def lawStmt : Stmt := (PySem.Challenge.rw_mr0015_01.row.prog.main.body.getLast?).getD (.Pass ⟨0, 0, 0, 0⟩)
noncomputable def lawBody : List Stmt := match lawStmt with | .FunctionDef _ _ body _ _ _ _ _ _ _ => body | _ => []
noncomputable def lawScope : Scope := match lawStmt with | .FunctionDef _ _ _ _ _ _ sc _ _ _ => sc | _ => default
end Mine
end
section
open PySem PySem.W PyProof.Rows PySem.Spec PySem.Calls
namespace Mine
theorem C64_cast (i : Int) : ((C64 i : Nat) : Int) = A64 i := by
  have := (A64_in i).1
  unfold C64
  omega
theorem s0 {lc : Int} {out : List Int} {a : Int} (ha : 0 ≤ a ∧ a < 256) : stepB (lc, 0, out) a = ((lc * 256 + a) % 65536, 2, out ++ [A64 (a / 4)]) := by
  have e : (lc * 256 + a) % 65536 / 4 % 64 = a / 4 := by omega
  unfold stepB
  simp only [show ((0 : Int) = 4) = False from by simp, show ((0 : Int) = 2) = False from by simp, if_false, e]
theorem s2 {lc : Int} {out : List Int} {a b : Int} (ha : 0 ≤ a ∧ a < 256) (hl : lc % 256 = a) (hb : 0 ≤ b ∧ b < 256) : stepB (lc, 2, out) b = ((lc * 256 + b) % 65536, 4, out ++ [A64 (a % 4 * 16 + b / 16)]) := by
  have e : (lc * 256 + b) % 65536 / 16 % 64 = a % 4 * 16 + b / 16 := by omega
  unfold stepB
  simp only [show ((2 : Int) = 4) = False from by simp, if_false, if_true, e]
theorem s4 {lc : Int} {out : List Int} {b c : Int} (hb : 0 ≤ b ∧ b < 256) (hl : lc % 256 = b) (hc : 0 ≤ c ∧ c < 256) : stepB (lc, 4, out) c = ((lc * 256 + c) % 65536, 0, out ++ [A64 (b % 16 * 4 + c / 64), A64 (c % 64)]) := by
  have e1 : (lc * 256 + c) % 65536 / 64 % 64 = b % 16 * 4 + c / 64 := by omega
  have e2 : (lc * 256 + c) % 65536 % 64 = c % 64 := by omega
  unfold stepB
  simp only [if_true, e1, e2]
theorem low8 {lc a : Int} (ha : 0 ≤ a ∧ a < 256) : (lc * 256 + a) % 65536 % 256 = a := by omega
theorem b64_run : ∀ (ns : List Int) (lc : Int) (out : List Int), (∀ n ∈ ns, 0 ≤ n ∧ n < 256) → finB (ns.foldl stepB (lc, 0, out)) = out ++ (encL ns).map (fun c : Nat => (c : Int))
  | [], lc, out, _ => by simp [finB, encL]
  | [a], lc, out, h => by
    have ha := h a (by simp)
    rw [List.foldl_cons, s0 ha, List.foldl_nil]
    have e : (lc * 256 + a) % 65536 % 4 = a % 4 := by omega
    simp [finB, encL, C64_cast, e]
  | [a, b], lc, out, h => by
    have ha := h a (by simp)
    have hb := h b (by simp)
    rw [List.foldl_cons, s0 ha, List.foldl_cons, s2 ha (low8 ha) hb, List.foldl_nil]
    have e : (((lc * 256 + a) % 65536) * 256 + b) % 65536 % 16 = b % 16 := by omega
    simp [finB, encL, C64_cast, e]
  | a :: b :: c :: r, lc, out, h => by
    have ha := h a (by simp)
    have hb := h b (by simp)
    have hc := h c (by simp)
    rw [List.foldl_cons, s0 ha, List.foldl_cons, s2 ha (low8 ha) hb, List.foldl_cons, s4 hb (low8 hb) hc, b64_run r _ _ (fun n hn => h n (by simp [hn]))]
    simp [encL, C64_cast]
theorem b64L_eq {ns : List Int} (h : ∀ n ∈ ns, 0 ≤ n ∧ n < 256) : b64L ns = (encL ns).map (fun c : Nat => (c : Int)) := by
  unfold b64L
  rw [b64_run ns 0 [] h, List.nil_append]
theorem C64_lt (i : Int) : C64 i < 256 := by
  have := A64_in i
  unfold C64
  omega
theorem encL_lt : ∀ (ns : List Int), ∀ c ∈ encL ns, c < 256
  | [], c, h => by simp [encL] at h
  | [a], c, h => by
    simp only [encL, List.mem_cons, List.not_mem_nil, or_false] at h
    rcases h with rfl | rfl | rfl | rfl <;> first | exact C64_lt _ | decide
  | [a, b], c, h => by
    simp only [encL, List.mem_cons, List.not_mem_nil, or_false] at h
    rcases h with rfl | rfl | rfl | rfl <;> first | exact C64_lt _ | decide
  | a :: b :: d :: r, c, h => by
    simp only [encL, List.cons_append, List.nil_append, List.mem_cons] at h
    rcases h with rfl | rfl | rfl | rfl | h
    · exact C64_lt _
    · exact C64_lt _
    · exact C64_lt _
    · exact C64_lt _
    · exact encL_lt r c h
theorem b64_at {ns : List Int} (h : ∀ n ∈ ns, 0 ≤ n ∧ n < 256) {i : Nat} {c : UInt8} (e : (byteArr (b64L ns))[i]? = some c) : (encL ns)[i]? = some c.toNat := by
  rw [b64L_eq h] at e
  unfold byteArr at e
  simp only [List.getElem?_toArray, List.map_map, List.getElem?_map, Option.map_eq_some_iff, Function.comp] at e
  obtain ⟨k, hk, rfl⟩ := e
  rw [hk]
  have := encL_lt ns k (List.mem_of_getElem? hk)
  simp only [Int.toNat_natCast, Option.some.injEq]
  simp [Nat.toUInt8, UInt8.toNat_ofNat']
  omega
theorem b64_size {ns : List Int} (h : ∀ n ∈ ns, 0 ≤ n ∧ n < 256) : (byteArr (b64L ns)).size = (encL ns).length := by
  rw [byteArr_size, b64L_eq h, List.length_map]
theorem strs_of {g : Nat → Str} : ∀ (l : List Nat) (ys : List Value), ys.length = l.length → (∀ (i : Nat) (y : Value), ys[i]? = some y → ∃ (c : Nat) (t : Tok), l[i]? = some c ∧ y = Value.str (g c) t) → StrsAre ys (l.map g)
  | [], [], _, _ => .nil
  | [], _ :: _, h, _ => by simp at h
  | _ :: _, [], h, _ => by simp at h
  | c :: l, y :: ys, h, hy => by
    obtain ⟨d, t, e1, e2⟩ := hy 0 y rfl
    simp only [List.getElem?_cons_zero, Option.some.injEq] at e1
    subst e1
    rw [e2]
    exact .cons _ _ (strs_of l ys (by simpa using h) fun i z hz => by simpa using hy (i + 1) z (by simpa using hz))
end Mine
end
section
open PySem PySem.W PyProof.Rows PySem.Spec PySem.Calls PyProof.V
namespace Mine
theorem canLay_bools : ∀ ss : List Bool, PyData.canLayAll0 (ss.map PyData.bool) = true
  | [] => rfl
  | _ :: r => by simp [PyData.canLayAll0, PyData.canLay0, canLay_bools r]
theorem depth_bools : ∀ ss : List Bool, PyData.depthAll (ss.map PyData.bool) = 0
  | [] => rfl
  | _ :: r => by simp [PyData.depthAll, PyData.depth, depth_bools r]
theorem shaped_bools (ss : List Bool) : SeqAt.shaped (.list (ss.map PyData.bool)) = true := by
  simp [SeqAt.shaped, PyData.canLay0, PyData.depth, canLay_bools, depth_bools]
theorem sameAll_bools : ∀ ss rs : List Bool, PySem.Spec.sameAll (ss.map PyData.bool) (rs.map PyData.bool) = decide (ss = rs)
  | [], [] => by simp [PySem.Spec.sameAll]
  | [], _ :: _ => by simp [PySem.Spec.sameAll]
  | _ :: _, [] => by simp [PySem.Spec.sameAll]
  | a :: r, b :: t => by
    simp only [List.map_cons, PySem.Spec.sameAll, PySem.Spec.same, sameAll_bools r t]
    by_cases h : a = b <;> by_cases h' : r = t <;> simp [h, h']
theorem same_bools (ss rs : List Bool) : PySem.Spec.same (.list (ss.map PyData.bool)) (.list (rs.map PyData.bool)) = decide (ss = rs) := by
  simp only [PySem.Spec.same]; exact sameAll_bools ss rs
section
variable {prog : Program} {w : World} {A : Around} {E : Value → Shared → Prop} {s : Shared} {a b : Addr} {xs ys : List Value} {Q : Value → Shared → Prop}
theorem ne_bools {ss rs : List Bool} (ha : s.heap.IsList a xs.toArray) (hb : s.heap.IsList b ys.toArray) (hi : CarriedAll xs (ss.map PyData.bool)) (hj : CarriedAll ys (rs.map PyData.bool)) (hu : A.units + 64 < cLine) (h : Q (.bool (!decide (ss = rs))) s) :
    wpAny (model prog w) A (compareOp .NotEq (.ref a) (.ref b)) Q E s :=
  ne_dataH_same (reads_newData ha hi) (reads_newData hb hj) (shaped_bools _) (shaped_bools _) hu (SeqAt.noMix_of_shape (.list .bool) rfl _ _ (list_map_has fun _ => rfl) (list_map_has fun _ => rfl)) (by rw [same_bools]; exact h)
end
/-- values told by their number are a list of texts (bools) -/
theorem dat_strs {f : Nat → Str} : ∀ (n k : Nat) (ys : List Value), ys.length = n → (∀ i y, ys[i]? = some y → ∃ t, y = Value.str (f (k + i)) t) → DatAll [] ys ((List.range' k n).map fun i => Dat.str (f i))
  | 0, _, [], _, _ => .nil
  | 0, _, _ :: _, h, _ => by simp at h
  | n + 1, _, [], h, _ => by simp at h
  | n + 1, k, y :: ys, h, hy => by
    obtain ⟨t, e⟩ := hy 0 y rfl
    rw [e, List.range'_succ]
    exact .cons (.str _ t) (dat_strs n (k + 1) ys (by simpa using h) fun i z hz => by
      obtain ⟨t', e'⟩ := hy (i + 1) z (by simpa using hz)
      exact ⟨t', by rw [e', show k + (i + 1) = k + 1 + i by omega]⟩)
theorem carried_bools {f : Nat → Bool} : ∀ (n k : Nat) (ys : List Value), ys.length = n → (∀ i y, ys[i]? = some y → y = Value.bool (f (k + i))) → CarriedAll ys (((List.range' k n).map f).map PyData.bool)
  | 0, _, [], _, _ => .nil
  | 0, _, _ :: _, h, _ => by simp at h
  | n + 1, _, [], h, _ => by simp at h
  | n + 1, k, y :: ys, h, hy => by
    have e := hy 0 y rfl
    rw [e, List.range'_succ]
    exact .cons (.bool _) (carried_bools n (k + 1) ys (by simpa using h) fun i z hz => by
      have e' := hy (i + 1) z (by simpa using hz)
      rw [e', show k + (i + 1) = k + 1 + i by omega])
theorem cl_use_head {r : Nat} {w : World} {mean : ExcName → Option Value} {mg mb : Str → Option Value} {f : Addr} {news : List (Addr × Obj)} {p : Addr × Obj} {vs : List Value} {kw : List (Str × Value)} {R : Tok → Value} (C : Cl r w mean mg mb f (p :: news) vs kw R) (hm : p ∈ news)
    {dp un : Nat} {gd : Option (List Code)} {cn : Str} {cs : Scope} {a : Addr} {ccd : Value} {cl : List (Str × Addr)} {outer : List Env} {A₀ : Around} {base h₀ : Heap} {L : Addr} {m : Str → Option Value} {s : Shared} {Q E : Value → Shared → Prop}
    (B : Below A₀ base outer h₀) (F : Fr h₀ L s.heap m) (X : (KF w).In h₀) (N : News h₀ L s.heap news) (T : Top hd.view_39 LS mean mg mb h₀) (hk : cs.kind = .function)
    (hd : dp + r < recursionLimit) (hu : un + 20 * r < cLine) (ret : CbRet h₀ L m news s Q R) :
    wpAny (model PG w) (ktrTop dp un gd cn cs L a ccd cl outer) (call (.ref f) vs kw) Q E s :=
  cl_use C B F X (List.forall_mem_cons.mpr ⟨N p hm, N⟩) T hk hd hu fun t h' tk' F' N' => ret t h' tk' F' fun q hq => N' q (List.mem_cons_of_mem _ hq)
end Mine
end
section
open PySem PySem.W PyProof.Rows PySem.Spec PySem.Calls PyProof.Rows.LCg
namespace Mine
/-- the row that stands at a value -/
def RowAt (news : List (Addr × Obj)) (v : Value) (ns : List Int) : Prop :=
  ∃ l vs ep, v = .ref l ∧ (l, W.listOf (List.toArray vs) ep) ∈ news ∧ IntsAre vs ns ∧ (∀ n ∈ ns, 0 ≤ n ∧ n < 256) ∧ ns.length ≤ 20
local macro_rules | `(tactic| walk_at "call type:bytes") => `(tactic| (k_dflt (refine KBa.make_K (by k_asm) (by k_asm) (by rfl) (News.isList (by k_asm) (by k_mem)) (by assumption) (by assumption) (by omega) ?_); intro _ _ _ F' N' kbaIn))
local macro_rules | `(tactic| walk_at "call ref") => `(tactic| ((with_reducible show wpAny _ _ (call (Value.ref 58) _ _) _ _ _); k_dflt (refine' cl_use (b64_c _ _ _ _ _ _ _ _ ?hb ?hz) ?k1 ?k2 ?k3 ?k4 ?k5 ?kK ?kd ?ku ?_; (case hb => exact KBa.ints_make (by assumption)); (case hz => omega); (case k1 => k_asm); (case k2 => k_asm); (case k3 => k_asm); (case k4 => k_asm); (case k5 => k_asm); (case kK => exact rfl); (case kd => ktr_room); (case ku => ktr_units)); intro t9 h9 tk9 F9 N9; (try dsimp only); (try k_fold)))
local macro_rules | `(tactic| walk_at "eval ListComp") => `(tactic| (k_dflt (refine LCg.ListComp_U (F₀ := by k_asm) (by with_unfolding_all rfl) (by decide) (by rfl) (by decide) (by rfl) ?_)))
local macro_rules | `(tactic| walk_at "eval ListComp") => `(tactic| ((with_reducible show wpAny _ _ (eval (Expr.ListComp (Expr.Call (Expr.Name (PySem.Str.ofString "chr") _) _ _ _) _ _ _) _) _ _ _); k_dflt (refine ListComp_B (by k_asm) (by with_unfolding_all rfl) (by decide) (by rfl) (by decide) (by rfl) ?_)))
theorem signs_ok (rowL : Nat → List Int) (k n : Nat) : ∀ d ∈ (List.range' k n).map (fun i => Dat.str (signsF (rowL i))), kqdOk 8 d = true := by
  intro d hd
  obtain ⟨i, _, rfl⟩ := List.mem_map.mp hd
  simp only [kqdOk]
  unfold PyData.strOk signsF
  simp only [List.all_toArray, List.all_eq_true, decide_eq_true_eq]
  exact fun c hc => Nat.lt_trans (encL_lt _ c hc) (by decide)
set_option maxRecDepth 100000 in
set_option maxHeartbeats 4000000 in
theorem stageA (w : World) (mean : ExcName → Option Value) (mg mb : Str → Option Value) (dp un : Nat) (gd : Option (List Code)) (fa : Addr) (ccd : Value) (outer : List Env) (A₀ : Around) (base h₀ : Heap) (L R : Addr) (m : Str → Option Value) (s : Shared) (Q : Flow → Shared → Prop) (E : Value → Shared → Prop)
    (rs : List Value) (news : List (Addr × Obj)) (rowL : Nat → List Int)
    (B : Below A₀ base outer h₀) (F : Fr h₀ L s.heap (fun y => if y = Str.ofString "rows" then some (.ref R) else m y)) (X : (hd.heap_39 w.params).In h₀) (T : Top hd.view_39 (looseW hd.view_39 [Str.ofString "b2a_base64", Str.ofString "b64encode"]) mean mg mb h₀)
    (N : News h₀ L s.heap ((R, W.listOf rs.toArray 0) :: news)) (hdp : dp + 20 < recursionLimit) (hun : un + 400 < cLine) (hlen : rs.length = 6)
    (hrows : ∀ i v, rs[i]? = some v → RowAt news v (rowL i))
    (hB : ∀ (D : Addr) (ys : List Value) (m' : Str → Option Value) (h : Heap) (tk : Nat), Fr h₀ L h (fun z => if z = Str.ofString "texts" then some (.ref D) else m' z) → News h₀ L h ((D, LCg.lst ys) :: (R, W.listOf rs.toArray 0) :: news) → (∀ p ∈ (R, W.listOf rs.toArray 0) :: news, p.1 ≠ D) → ys.length = 6 → (∀ (i : Nat) (y : Value), ys[i]? = some y → ∃ t, y = .str (signsF (rowL i)) t) →
      wpAny (model PySem.Challenge.rw_mr0015_01.row.prog w) (ktrTop dp un gd (Str.ofString "law") lawScope L fa ccd (cellsFrom (L + 1) lawScope.names []) outer) (execs (lawBody.drop 6) (envOfC (Str.ofString "law") lawScope L fa ccd)) Q E { s with heap := h, toks := tk }) :
    wpAny (model PySem.Challenge.rw_mr0015_01.row.prog w) (ktrTop dp un gd (Str.ofString "law") lawScope L fa ccd (cellsFrom (L + 1) lawScope.names []) outer) (execs (lawBody.drop 4) (envOfC (Str.ofString "law") lawScope L fa ccd)) Q E s := by
  revert X
  k_fill
  intro X
  w_on
  k_with_none
  conv => arg 3; arg 1; whnf
  repeat' ((fail_if_success (with_reducible show wpAny _ _ (exec (Stmt.Assign [Expr.Name (PySem.Str.ofString "texts") _] _ _) _) _ _ _)); (first | (k_unfold; (try dsimp only)) | (k_end; wrow_close) | walk1 | (dsimp only; walk1) | (leave1; walk_say "STEP leave1"; try dsimp only)))
  k_dflt (refine LCg.Assign_ListComp_U (F₀ := F) (by rfl) (by with_unfolding_all rfl) (by with_unfolding_all rfl) (by decide) (by rfl) (by decide) (by rfl) (by rfl) (by rfl) ?_)
  (first | (k_unfold; (try dsimp only)) | (k_end; wrow_close) | walk1 | (dsimp only; walk1) | (leave1; walk_say "STEP leave1"; try dsimp only))
  refine LCg.CompSrc.ledger (by rfl) F N (.head _) (by rw [List.size_toArray, hlen]; decide) ?_
  intro g'
  refine comp_each (fun i y => ∃ t, y = .str (signsF (rowL i)) t) ?_ ?_
  · intro i v I oI C oC D m₂ ys h tk E' hi hv hC hx F1 N1 off ne
    have hv' : rs[i]? = some v := by simpa using hv
    obtain ⟨l, vs, ep, rfl, hm, hints, hrng, hsz⟩ := hrows i v hv'
    (try k_fold)
    k_steps
    refine KBa.make_K F1 N1 (by rfl) (News.isList N1 (.tail _ (.tail _ (.tail _ (.tail _ hm))))) hints hrng (by omega) ?_
    intro _ _ _ F' N' kbaIn
    clear F1 N1
    k_steps
    rename Fr _ _ _ _ => F2
    rename News _ _ _ _ => N2
    refine ⟨_, _, _, rfl, by rfl, F2, N2, (by rw [b64_size hrng]; exact Nat.le_trans (encL_len _) (by rw [sizeLine_eq]; omega)), ?_⟩
    rintro _ ⟨g2, rfl⟩
    refine comp_each (fun j y => ∃ c t, (encL (rowL i))[j]? = some c ∧ y = .str ⟨#[c]⟩ t) ?_ ?_
    · intro j v I2 oI2 C2 oC2 D2 m3 ys2 h2 tk2 E2 hj hv2 hC2 hx2 F3 N3 off3 ne3
      obtain ⟨c, u, hc, rfl⟩ := hv2
      have hcode := b64_at hrng hc
      have hc8 : (c.toNat : Int) < 256 := by have := c.toNat_lt; omega
      have hc0 : (0 : Int) ≤ (c.toNat : Int) := by omega
      clear F2 N2
      (try k_fold)
      k_steps
      exact comp_end F3 N3 (fun _ hp => hp) off3 trivial ⟨c.toNat, _, hcode, rfl⟩
    · intro ys2 hl2 hR2
      unfold LCg.FinE
      intro D2 h2 tk2 F3 N3 o3
      clear F2 N2
      (try dsimp only)
      k_steps
      have hy := strs_of (g := fun c => (⟨[c].toArray⟩ : Str)) (encL (rowL i)) ys2 (by rw [hl2, b64_size hrng]) hR2
      have hc := hy.carried
      rw [List.map_map] at hc
      refine KT.join_1 (g := fun c => (⟨[c].toArray⟩ : Str)) (l := encL (rowL i)) (News.isList N3 (.head _)) hc (fun _ _ => rfl) (Nat.le_trans (encL_len _) (by omega)) ?_
      intro t' k e
      rw [join_singles]
      k_steps
      exact comp_end F3 N3 (fun p hp => .tail _ hp) off (.inr ⟨_, .head _, rfl, _, rfl⟩) ⟨t', rfl⟩
  · intro ys hl hR
    unfold LCg.FinA
    intro D h tk F1 N1 o1
    (try dsimp only)
    repeat' ((fail_if_success (with_reducible show LCg.CompSrc _ _ _ _ _ _ _ _ _ _ _ _ _ _)); (first | (k_unfold; (try dsimp only)) | (k_end; wrow_close) | walk1 | (dsimp only; walk1) | (leave1; walk_say "STEP leave1"; try dsimp only)))
    refine LCg.CompSrc.ledger (by rfl) F1 N1 (.tail _ (.head _)) (by rw [List.size_toArray, hlen]; decide) ?_
    intro g2
    refine comp_each (fun i y => ∃ t, y = .str (signsF (rowL i)) t) ?_ ?_
    · intro i v I oI C oC D' m₂ ys' h' tk' E' hi hv hC hx F2 N2 off ne
      have hv' : rs[i]? = some v := by simpa using hv
      obtain ⟨l, vs, ep, rfl, hm, hints, hrng, hsz⟩ := hrows i v hv'
      clear F1 N1
      (try k_fold)
      k_steps
      refine cl_use_head (signs_c _ _ _ _ _ l vs ep (rowL i) hints hrng (by omega)) (.tail _ (.tail _ (.tail _ (.tail _ (.tail _ hm))))) B F2 X N2 T rfl (by omega) (by omega) ?_
      intro t9 h9 tk9 F9 N9
      k_steps
      exact comp_end F9 N9 (fun _ hp => hp) off (.inr ⟨_, .tail _ (.head _), rfl, _, rfl⟩) ⟨t9, rfl⟩
    · intro ys' hl' hR'
      unfold LCg.FinE
      intro D' h' tk' F2 N2 o2
      clear F1 N1
      (try dsimp only)
      have hc1 := dat_strs (f := fun i => signsF (rowL i)) _ 0 ys hl (fun i y h => by simpa using hR i y h)
      have hc2 := dat_strs (f := fun i => signsF (rowL i)) _ 0 ys' hl' (fun i y h => by simpa using hR' i y h)
      refine kqd_ne N2 (.tail _ (.head _)) rfl rfl hc1 (fun _ h => nomatch h) (.head _) rfl rfl hc2 (fun _ h => nomatch h) (signs_ok _ _ _) (signs_ok _ _ _) (by show un + 64 < cLine; omega) ?_
      classical rw [decide_eq_true rfl, Bool.not_true]
      refine wpAny_truthy_bool ?_
      rw [if_neg (by decide)]
      refine wpAny_execs_nil ?_
      exact hB D ys _ h' tk' F2 (fun p hp => N2 p (List.mem_cons_of_mem _ hp)) (off1_ne o1) (by rw [hl, List.size_toArray, hlen]) hR
end Mine
end
section
open PySem PySem.W PyProof.Rows PySem.Spec PySem.Calls PyProof.Rows.LCg
namespace Mine
section
variable {prog : Program} {w : World} {A : Around} {E : Value → Shared → Prop} {Q : Flow → Shared → Prop} {s : Shared} {env : Env} {h₀ : Heap} {L : Addr}
/-- what a turn of the loop leaves behind -/
def ForEnd (h₀ : Heap) (L : Addr) (s : Shared) (I : Addr) (it : Obj) (J : List (Addr × Obj) → (Str → Option Value) → Prop) (Q : Flow → Shared → Prop) (f : Flow) (s₃ : Shared) : Prop :=
  match f with
  | .next | .cont => ∃ h' tk' m' nx, s₃ = { s with heap := h', toks := tk' } ∧ Fr h₀ L h' m' ∧ News h₀ L h' ((I, it) :: nx) ∧ (∀ p ∈ nx, p.1 ≠ I) ∧ J nx m'
  | .brk => Q .next s₃
  | .ret v => Q (.ret v) s₃
theorem for_any {r : Addr} {b₀ : Int} {t₀ u₀ v₀ : Tok} {n : Nat} {target : Expr} {body : List Stmt} {m₀ : Str → Option Value} {news : List (Addr × Obj)} (J : List (Addr × Obj) → (Str → Option Value) → Prop)
    (hh : A.handled = none) (hr : IsRange s.heap r 0 b₀ 1 t₀ u₀ v₀) (hsmall : Builtin.Range.small 0 b₀ 1 = true) (hn : Builtin.Range.rangeSize 0 b₀ 1 = (n : Int)) (F : Fr h₀ L s.heap m₀) (N : News h₀ L s.heap news) (hJ : J news m₀)
    (turn : ∀ (i : Nat) (t : Tok) (I : Addr) (it : Obj) (m' : Str → Option Value) (nx : List (Addr × Obj)) (h : Heap) (tk : Nat) (E' : Value → Shared → Prop), i < n → J nx m' → (∀ p ∈ nx, p.1 ≠ I) → Fr h₀ L h m' → News h₀ L h ((I, it) :: nx) →
      wpAny (model prog w) A (assign target env (.int (i : Int) t)) (fun _ s₂ => wpAny (model prog w) A (execs body env) (ForEnd h₀ L s I it J Q) E' s₂) E' { s with heap := h, toks := tk })
    (done : ∀ m' nx h tk, J nx m' → Fr h₀ L h m' → News h₀ L h nx → Q .next { s with heap := h, toks := tk })
    (ht : ∀ it v, letOwnedTupleGo target it v = pure () := by intro _ _; rfl) :
    wpAny (model prog w) A (pyIter (.ref r)) (fun it s₂ => codeAny (model prog w) A (.forLoop target it body [] env) (fun r s' => match r with | .ok f => Q f s' | .error e => cameBackBy (model prog w) A env E e s') s₂) E s := by
  refine wpAny_pyIter_range hr hsmall ?_
  have W := range_walks (prog := prog) (w := w) (A := A) (I := s.heap.objs.size) hh 0 n
  have hIL : L ≠ s.heap.objs.size := Nat.ne_of_lt F.ns.lt
  have hI₀ : h₀.get? s.heap.objs.size = none := next_is_new F
  refine codeAny_forLoop (fun k s' => ∃ i h tk m' nx, s' = { s with heap := h, toks := tk } ∧ i ≤ n ∧ k = n - i ∧ IsRangeIter h s.heap.objs.size (0 + (i : Nat) * 1) ((n : Int) - (i : Nat)) 1 ∧ Fr h₀ L h m' ∧ News h₀ L h nx ∧ (∀ p ∈ nx, p.1 ≠ s.heap.objs.size) ∧ J nx m') ?_ n
    ⟨0, _, s.toks, m₀, news, rfl, Nat.zero_le _, rfl, (by show IsRangeIter _ _ _ _ _; rw [hn]; simpa using Heap.get?_push_size _ rfl), F.push _, (fun p hp => ⟨Heap.get?_push_of_some _ (N p hp).1, (N p hp).2⟩), (fun p hp => Nat.ne_of_lt (Heap.lt_size (N p hp).1)), hJ⟩ (ht _)
  rintro k s' ⟨i, h, tk, m', nx, rfl, hi, rfl, st, F', N', off, hJ'⟩
  by_cases hlt : i < n
  · refine W.item i _ _ _ hlt st fun v h₂ tk₂ hP st₂ hk => ?_
    obtain ⟨t, rfl⟩ := hP
    have e0 : (0 : Int) + (i : Int) = (i : Int) := by omega
    rw [e0]
    have F₂ : Fr h₀ L h₂ m' := fr_but F' hk hIL hI₀
    have N₂ : News h₀ L h₂ ((s.heap.objs.size, _) :: nx) := List.forall_mem_cons.mpr ⟨⟨st₂, Ne.symm hIL, hI₀⟩, news_but N' hk off⟩
    refine wpAny_mono (turn i t _ _ m' nx h₂ tk₂ _ hlt hJ' off F₂ N₂) (fun _ s₂ h₃ => ?_) fun _ _ x => x
    refine wpAny_mono h₃ (fun f s₃ q => ?_) fun _ _ x => x
    cases f with
    | next =>
      obtain ⟨h', tk', m'', nx', rfl, F₃, N₃, off', hJ₃⟩ := q
      exact ⟨n - (i + 1), by omega, i + 1, h', tk', m'', nx', rfl, hlt, rfl, (N₃ _ (.head _)).1, F₃, fun p hp => N₃ p (.tail _ hp), off', hJ₃⟩
    | cont =>
      obtain ⟨h', tk', m'', nx', rfl, F₃, N₃, off', hJ₃⟩ := q
      exact ⟨n - (i + 1), by omega, i + 1, h', tk', m'', nx', rfl, hlt, rfl, (N₃ _ (.head _)).1, F₃, fun p hp => N₃ p (.tail _ hp), off', hJ₃⟩
    | brk => exact q
    | ret v => exact q
  · obtain rfl : i = n := by omega
    refine W.done _ _ _ st fun h₂ tk₂ hk => ?_
    refine wpAny_execs_nil ?_
    exact done m' nx h₂ tk₂ hJ' (fr_but F' hk hIL hI₀) (news_but N' hk off)
end
end Mine
end
section
open PySem PySem.W PyProof.Rows PySem.Spec PySem.Calls PyProof.Rows.LCg
namespace Mine
def Off4 (I C K D : Addr) (l : List (Addr × Obj)) : Prop := ∀ p ∈ l, p.1 ≠ I ∧ p.1 ≠ C ∧ p.1 ≠ K ∧ p.1 ≠ D
abbrev cellO : Obj := { cls := .type "cell", data := .cell none }
section
variable {prog : Program} {w : World} {A : Around} {E : Value → Shared → Prop} {s : Shared} {h₀ : Heap} {L : Addr} {m : Str → Option Value} {env : Env}
theorem newEnv_cell {scope : Scope} {cl : List (Str × Addr)} {x : Str} {Q : Env → Shared → Prop} (hcf : ∀ n, cellsFrom n scope.names cl = (x, n) :: cl) (hpc : ∀ h, pushCells h scope.names = h.push cellO)
    (hQ : Q { scope, locals := s.heap.objs.size, globals := env.globals, cells := (x, s.heap.objs.size + 1) :: cl, qual := env.qual, func := none, code := env.code, frame := env.frame, builtins := env.builtins }
      { s with heap := (s.heap.push { cls := .type "dict", data := .dict #[] }).push cellO }) :
    wpAny (model prog w) A (newFunctionEnv scope env.globals cl [] env.qual none .none (some env)) Q E s := by
  simp only [newFunctionEnv, Option.isSome_some, if_true]
  refine wpAny_bind (wpAny_alloc ?_)
  refine wpAny_bind (wpAny_layCells _ (fun name kind cells => by cases hkc : kind == NameKind.cell <;> simp [hkc]) _ _ _ _ ?_)
  rw [hcf, hpc]
  rw [show ({ s with heap := s.heap.push { cls := .type "dict", data := .dict #[] } } : Shared).heap.objs.size = s.heap.objs.size + 1 from Heap.size_push ..]
  refine wpAny_bind ?_
  rw [List.forIn_nil]
  exact wpAny_pure (wpAny_pure hQ)
theorem ListComp_C {elt iter : Expr} {x : Str} {px : Pos} {scope : Scope} {cl : List (Str × Addr)} {pos : Pos} {Q : Value → Shared → Prop} {its : Array Value} {ax : Addr} {k : Nat} (G : Nat → List Value → List (Addr × Obj) → Prop)
    (hh : A.handled = none) (hclos : closureFor scope env = pure cl) (hcf : ∀ n, cellsFrom n scope.names cl = (x, n) :: cl) (hpc : ∀ h, pushCells h scope.names = h.push cellO) (hkind : scope.kind = .function)
    (hnames : ∀ y ∈ scope.names, y.2 = .local → scope.names.lookup y.1 = some .local) (hx : ∀ K C, (compEnvC scope ((x, K) :: cl) C env).kindOf x = some .cell) (hsz : its.size ≤ sizeLine)
    (hsrc : ∀ i ys nx, G i ys nx → (ax, ({ cls := .type "list", data := .seq its k } : Obj)) ∈ nx)
    (turn : ∀ i v I oI C oC K oK D ys nx h tk (E' : Value → Shared → Prop), its[i]? = some v → G i ys nx → ys.length = i → oK.data = .cell (some v) → Fr h₀ L h m → News h₀ L h ((I, oI) :: (C, oC) :: (K, oK) :: (D, lst ys) :: nx) → Off4 I C K D nx →
      wpAny (model prog w) A (eval elt (compEnvC scope ((x, K) :: cl) C env)) (fun y s₃ => ∃ h' tk' nx', s₃ = { s with heap := h', toks := tk' } ∧ Fr h₀ L h' m ∧ News h₀ L h' ((I, oI) :: (C, oC) :: (K, oK) :: (D, lst ys) :: nx') ∧ Off4 I C K D nx' ∧ G (i + 1) (ys ++ [y]) nx') E' { s with heap := h, toks := tk })
    (fin : ∀ D ys nx h tk, G its.size ys nx → ys.length = its.size → Fr h₀ L h m → News h₀ L h ((D, lst ys) :: nx) → (∀ p ∈ nx, p.1 ≠ D) → Q (.ref D) { s with heap := h, toks := tk })
    (h : wpAny (model prog w) A (eval iter env) (fun xv s₁ => xv = .ref ax ∧ (∃ h tk, s₁ = { s with heap := h, toks := tk }) ∧ ∃ nx, G 0 [] nx ∧ Fr h₀ L s₁.heap m ∧ News h₀ L s₁.heap nx) E s)
    (hs : ∀ x, foldedSetIterable iter env x = pure x := by intro _; rfl) :
    wpAny (model prog w) A (eval (.ListComp elt [⟨.Name x px, iter, [], 0⟩] scope pos) env) Q E s := by
  rw [eval_ListComp]
  refine wpAny_comprehension_free (use := none) rfl hs hclos hkind hnames (wpAny_mono h (fun xv s₁ h₁ => ?_) fun _ _ e => e)
  obtain ⟨rfl, ⟨ha, tka, rfl⟩, nx₀, hG, F, N⟩ := h₁
  replace F : Fr h₀ L ha m := F
  replace N : News h₀ L ha nx₀ := N
  have hl : ha.IsList ax its := ⟨_, (N _ (hsrc 0 [] nx₀ hG)).1, rfl, _, rfl⟩
  have hlt : ax < ha.objs.size := by obtain ⟨_, e, _⟩ := hl; exact Heap.lt_size e
  refine wpAny_pyIter_list hl ?_
  refine wpAny_newObj_type ?_
  refine newEnv_cell hcf hpc ?_
  dsimp only
  generalize hH1 : ha.push { cls := .type "list_iterator", data := .fields #[.ref ax, .int 0 0] } = H1
  have hI1 : H1.objs.size = ha.objs.size + 1 := by rw [← hH1, Heap.size_push]
  generalize hH2 : H1.push { cls := .type "list", dict := none, data := .seq ([] : List Value).toArray } = H2
  have hI2 : H2.objs.size = ha.objs.size + 2 := by rw [← hH2, Heap.size_push, hI1]
  generalize hH3 : H2.push { cls := .type "dict", data := .dict #[] } = H3
  have hI3 : H3.objs.size = ha.objs.size + 3 := by rw [← hH3, Heap.size_push, hI2]
  have old : ∀ b o, ha.get? b = some o → (H3.push cellO).get? b = some o := fun b o e =>
    Heap.get?_push_of_some _ (hH3 ▸ Heap.get?_push_of_some _ (hH2 ▸ Heap.get?_push_of_some _ (hH1 ▸ Heap.get?_push_of_some _ e)))
  have gI : (H3.push cellO).get? ha.objs.size = some { cls := .type "list_iterator", data := .fields #[.ref ax, .int 0 0] } :=
    Heap.get?_push_of_some _ (hH3 ▸ Heap.get?_push_of_some _ (hH2 ▸ Heap.get?_push_of_some _ (hH1 ▸ Heap.get?_push_size _ rfl)))
  have gD : (H3.push cellO).get? H1.objs.size = some (lst []) := Heap.get?_push_of_some _ (hH3 ▸ Heap.get?_push_of_some _ (hH2 ▸ Heap.get?_push_size _ rfl))
  have gC : (H3.push cellO).Ns H2.objs.size (fun _ => none) := (hH3 ▸ Heap.Ns.new H2 (.type "dict")).keeps fun b o e => Heap.get?_push_of_some _ e
  have gK : (H3.push cellO).get? (H2.objs.size + 1) = some cellO := by
    have e : H2.objs.size + 1 = H3.objs.size := by omega
    rw [e]; exact Heap.get?_push_size _ rfl
  have fresh : ∀ a, ha.objs.size ≤ a → h₀.get? a = none := fun a hle => by
    cases e : h₀.get? a with
    | none => rfl
    | some o => exact absurd (Heap.lt_size (F.keep a o e)) (Nat.not_lt.mpr hle)
  have hLlt : @LT.lt Nat _ L ha.objs.size := F.ns.lt
  have W := Walks.list (prog := prog) (w := w) hh ha.objs.size ax (Nat.ne_of_lt hlt) its
  have hks : (compEnvC scope ((x, H2.objs.size + 1) :: cl) H2.objs.size env).scope.kind = .function := by simp [compEnvC, relabel, hkind]
  have loop : codeAny (model prog w) A (.compLoop (.ListComp elt [⟨.Name x px, iter, [], 0⟩] scope pos) 0 (.ref ha.objs.size) (.ref H1.objs.size) (compEnvC scope ((x, H2.objs.size + 1) :: cl) H2.objs.size env))
      (compPost (model prog w) A E none Q (.ref H1.objs.size) H2.objs.size) { s with heap := H3.push cellO, toks := tka } := by
    refine codeAny_compLoop_tests
      (fun kk s' => ∃ h' tk i ys nx mC vK, s' = { s with heap := h', toks := tk } ∧ i ≤ its.size ∧ kk = its.size - i ∧ ys.length = i ∧ h'.IsListIter ha.objs.size ax i ∧ Fr h₀ L h' m ∧ h'.Ns H2.objs.size mC ∧ h'.IsCell (H2.objs.size + 1) vK ∧
        News h₀ L h' ((H1.objs.size, lst ys) :: nx) ∧ Off4 ha.objs.size H2.objs.size (H2.objs.size + 1) H1.objs.size nx ∧ G i ys nx) ?_ its.size
      ⟨_, _, 0, [], nx₀, _, none, rfl, Nat.zero_le _, rfl, rfl, ⟨_, gI, rfl, rfl⟩, F.keeps old, gC, ⟨_, gK, rfl⟩, ?_, ?_, hG⟩
    · rintro kk s' ⟨h', tk, i, ys, nx, mC, vK, rfl, hi, rfl, hyl, stI, F', hnC, hcK, N', off, hG'⟩
      have hl' : h'.IsList ax its := ⟨_, (N' _ (List.mem_cons_of_mem _ (hsrc i ys nx hG'))).1, rfl, _, rfl⟩
      by_cases hlt' : i < its.size
      · refine W.item i _ _ _ hlt' ⟨stI, hl'⟩ fun v h₂ tk₂ hPv st₂ hk₂ => ?_
        have hC2 : h₂.Ns H2.objs.size mC := hnC.at' fun o e => hk₂ _ o (by simp only [List.mem_singleton]; exact neN (by omega)) e
        have hK2 : h₂.IsCell (H2.objs.size + 1) vK := by obtain ⟨o, e, d⟩ := hcK; exact ⟨o, hk₂ _ o (by simp only [List.mem_singleton]; exact neN (by omega)) e, d⟩
        refine wpAny_assign_Name (wpAny_storeName_cell hks (hx _ _) (by simp [compEnvC]) hK2 fun h₃ hK3 hs3 => ?_)
        refine wpAny_tests_nil ?_
        simp only [if_true]
        obtain ⟨oI, eI, rI⟩ := st₂.1
        obtain ⟨oK, eK, dK⟩ := hK3
        obtain ⟨oC, eC, hoC⟩ := ns_obj (hC2.sameBut hs3 (neN (by omega)))
        have F₂ : Fr h₀ L h₂ m := fr_but F' hk₂ (neN (by omega)) (fresh _ (Nat.le_refl _))
        have F₃ : Fr h₀ L h₃ m := F₂.change hs3 (neN (by omega)) (fresh _ (by omega))
        have N₂ : News h₀ L h₂ ((H1.objs.size, lst ys) :: nx) := news_but N' hk₂ fun p hp => by
          rcases List.mem_cons.mp hp with rfl | hp
          · show H1.objs.size ≠ _; exact neN (by omega)
          · exact (off p hp).1
        have N₃ : News h₀ L h₃ ((ha.objs.size, oI) :: (H2.objs.size, oC) :: (H2.objs.size + 1, oK) :: (H1.objs.size, lst ys) :: nx) := fun p hp => by
          rcases List.mem_cons.mp hp with rfl | hp
          · exact ⟨hs3.extBut _ _ (by show ha.objs.size ≠ _; exact neN (by omega)) eI, by show ha.objs.size ≠ L; exact neN (by omega), fresh _ (Nat.le_refl _)⟩
          · rcases List.mem_cons.mp hp with rfl | hp
            · exact ⟨eC, by show H2.objs.size ≠ L; exact neN (by omega), fresh _ (by show ha.objs.size ≤ H2.objs.size; omega)⟩
            · rcases List.mem_cons.mp hp with rfl | hp
              · exact ⟨eK, by show H2.objs.size + 1 ≠ L; exact neN (by omega), fresh _ (by show ha.objs.size ≤ H2.objs.size + 1; omega)⟩
              · refine ⟨hs3.extBut _ _ ?_ (N₂ p hp).1, (N₂ p hp).2⟩
                rcases List.mem_cons.mp hp with rfl | hp
                · show H1.objs.size ≠ _; exact neN (by omega)
                · exact (off p hp).2.2.1
        refine wpAny_mono (turn i v _ oI _ oC _ oK _ ys nx h₃ _ _ hPv hG' hyl dK F₃ N₃ off) (fun y s₄ h₄ => ?_) fun _ _ e => e
        obtain ⟨h₄, tk₄, nx', rfl, F₄, N₄, off₄, hG₄⟩ := h₄
        have zI := (N₄ (ha.objs.size, oI) List.mem_cons_self).1
        have zC := (N₄ (H2.objs.size, oC) (List.mem_cons_of_mem _ List.mem_cons_self)).1
        have zK := (N₄ (H2.objs.size + 1, oK) (List.mem_cons_of_mem _ (List.mem_cons_of_mem _ List.mem_cons_self))).1
        have zD := (N₄ (H1.objs.size, lst ys) (List.mem_cons_of_mem _ (List.mem_cons_of_mem _ (List.mem_cons_of_mem _ List.mem_cons_self)))).1
        have N₄' : News h₀ L h₄ nx' := fun p hp => N₄ p (List.mem_cons_of_mem _ (List.mem_cons_of_mem _ (List.mem_cons_of_mem _ (List.mem_cons_of_mem _ hp))))
        refine append_at (hsz := by show ys.toArray.size ≤ sizeLine; rw [List.size_toArray, hyl]; exact Nat.le_trans hi hsz) zD fun h₅ hs₅ hD₅ => ?_
        refine ⟨its.size - (i + 1), by omega, h₅, tk₄, i + 1, ys ++ [y], nx', _, _, rfl, hlt', rfl, by rw [List.length_append, List.length_singleton, hyl], ⟨oI, hs₅.extBut _ _ (by show ha.objs.size ≠ _; exact neN (by omega)) zI, rI⟩, F₄.change hs₅ (neN (by omega)) (fresh _ (by omega)),
          (hoC.ns zC).sameBut hs₅ (neN (by omega)), ⟨oK, hs₅.extBut _ _ (by show H2.objs.size + 1 ≠ _; exact neN (by omega)) zK, dK⟩, fun p hp => ?_, off₄, hG₄⟩
        rcases List.mem_cons.mp hp with rfl | hp
        · exact ⟨hD₅.trans (congrArg some (lst_snoc ys y)), by show H1.objs.size ≠ L; exact neN (by omega), fresh _ (by show ha.objs.size ≤ H1.objs.size; omega)⟩
        · exact ⟨hs₅.extBut _ _ (off₄ p hp).2.2.2 (N₄' p hp).1, (N₄' p hp).2⟩
      · obtain rfl : i = its.size := by omega
        refine W.done _ _ _ ⟨stI, hl'⟩ fun h₂ tk₂ hk₂ => ?_
        have hC2 : h₂.Ns H2.objs.size mC := hnC.at' fun o e => hk₂ _ o (by simp only [List.mem_singleton]; exact neN (by omega)) e
        refine ⟨mC, hC2, fun h'' hs'' => fin _ ys nx h'' _ hG' hyl ((fr_but F' hk₂ (neN (by omega)) (fresh _ (Nat.le_refl _))).change hs'' (neN (by omega)) (fresh _ (by omega))) (fun p hp => ?_) fun p hp => (off p hp).2.2.2⟩
        have N₂ : News h₀ L h₂ ((H1.objs.size, lst ys) :: nx) := news_but N' hk₂ fun p hp => by
          rcases List.mem_cons.mp hp with rfl | hp
          · show H1.objs.size ≠ _; exact neN (by omega)
          · exact (off p hp).1
        refine ⟨hs''.extBut _ _ ?_ (N₂ p hp).1, (N₂ p hp).2⟩
        rcases List.mem_cons.mp hp with rfl | hp
        · show H1.objs.size ≠ _; exact neN (by omega)
        · exact (off p hp).2.1
    · intro p hp
      rcases List.mem_cons.mp hp with rfl | hp
      · exact ⟨gD, by show H1.objs.size ≠ L; exact neN (by omega), fresh _ (by show ha.objs.size ≤ H1.objs.size; omega)⟩
      · exact ⟨old _ _ (N p hp).1, (N p hp).2⟩
    · intro p hp
      have hp9 : @LT.lt Nat _ p.1 ha.objs.size := Heap.lt_size (N p hp).1
      exact ⟨neN (by omega), neN (by omega), neN (by omega), neN (by omega)⟩
  exact codeAny_compStart_list loop (W.self 0 _ _ _ ⟨⟨_, gI, rfl, rfl⟩, ⟨_, old _ _ (N _ (hsrc 0 [] nx₀ hG)).1, rfl, _, rfl⟩⟩ loop)
end
end Mine
end
section
open PySem PySem.W PyProof.Rows PySem.Spec PySem.Calls PyProof.Rows.LCg
namespace Mine
theorem cb_use {w : World} {mean : ExcName → Option Value} {mg mb : Str → Option Value} {f : Addr} {news : List (Addr × Obj)} {vs : List Value} {R : Tok → Value} (C : CbClaim PG w (KF w) hd.view_39 LS mean mg mb f news [] True vs R)
    {dp un : Nat} {gd : Option (List Code)} {cn : Str} {cs : Scope} {a : Addr} {ccd : Value} {cl : List (Str × Addr)} {outer : List Env} {A₀ : Around} {base h₀ : Heap} {L : Addr} {m : Str → Option Value} {s : Shared} {Q E : Value → Shared → Prop}
    (B : Below A₀ base outer h₀) (F : Fr h₀ L s.heap m) (X : (KF w).In h₀) (N : News h₀ L s.heap news) (T : Top hd.view_39 LS mean mg mb h₀) (hk : cs.kind = .function)
    (hd : dp + 1 < recursionLimit) (hu : un + 8 < cLine) (ret : CbRet h₀ L m news s Q R) :
    wpAny (model PG w) (ktrTop dp un gd cn cs L a ccd cl outer) (call (.ref f) vs) Q E s := C _ _ _ _ _ _ _ _ _ _ _ _ _ _ _ _ _ B F X N T hk trivial hd hu ret
/-- one row of the crammed table -/
def CramRow (ks : List Int) (T : Str) (o : Obj) : Prop := ∃ zs, o = lst zs ∧ CarriedAll zs (ks.map fun k => PyData.str (cramF T k))
def CramG (ks : List Int) (Tf : Nat → Str) (base : List (Addr × Obj)) (i : Nat) (ys : List Value) (nx : List (Addr × Obj)) : Prop :=
  ∃ es : List (Addr × Obj), nx = es ++ base ∧ ys = es.reverse.map (fun p => Value.ref p.1) ∧ es.length = i ∧ (∀ j p, es.reverse[j]? = some p → CramRow ks (Tf j) p.2) ∧ ∀ p ∈ es, ∀ q ∈ base, q.1 ≠ p.1
theorem with_ledger {P : Prop} {h₀ h : Heap} {L : Addr} {news : List (Addr × Obj)} (N : News h₀ L h news) (k : ∀ bs, bs = news → News h₀ L h bs → P) : P := k _ rfl N
theorem text_at {T0 T1 T2 T3 T4 T5 : Str} {t0 t1 t2 t3 t4 t5 : Tok} {v : Value} : ∀ {i : Nat}, #[Value.str T0 t0, .str T1 t1, .str T2 t2, .str T3 t3, .str T4 t4, .str T5 t5][i]? = some v → ∃ T t, v = .str T t ∧ T = [T0, T1, T2, T3, T4, T5].getD i T0 ∧ T ∈ [T0, T1, T2, T3, T4, T5]
  | 0, h => ⟨T0, t0, by simpa using h.symm, rfl, by simp⟩
  | 1, h => ⟨T1, t1, by simpa using h.symm, rfl, by simp⟩
  | 2, h => ⟨T2, t2, by simpa using h.symm, rfl, by simp⟩
  | 3, h => ⟨T3, t3, by simpa using h.symm, rfl, by simp⟩
  | 4, h => ⟨T4, t4, by simpa using h.symm, rfl, by simp⟩
  | 5, h => ⟨T5, t5, by simpa using h.symm, rfl, by simp⟩
  | i + 6, h => by simp at h
theorem CramG.start {ks : List Int} {Tf : Nat → Str} {base : List (Addr × Obj)} : CramG ks Tf base 0 [] base := ⟨[], rfl, rfl, rfl, fun _ _ h => by simp at h, fun _ h => nomatch h⟩
theorem CramG.more {ks : List Int} {Tf : Nat → Str} {base nx : List (Addr × Obj)} {i : Nat} {ys zs : List Value} {D : Addr} (h : CramG ks Tf base i ys nx) (hz : CarriedAll zs (ks.map fun k => PyData.str (cramF (Tf i) k))) (off : ∀ q ∈ base, q.1 ≠ D) :
    CramG ks Tf base (i + 1) (ys ++ [.ref D]) ((D, lst zs) :: nx) := by
  obtain ⟨es, rfl, rfl, rfl, h4, h5⟩ := h
  refine ⟨(D, lst zs) :: es, rfl, by simp, rfl, ?_, ?_⟩
  · intro j p hp
    rw [List.reverse_cons] at hp
    by_cases hj : j < es.reverse.length
    · rw [List.getElem?_append_left hj] at hp
      exact h4 j p hp
    · have hlt := (List.getElem?_eq_some_iff.mp hp).1
      rw [List.length_append, List.length_singleton] at hlt
      have e : j = es.reverse.length := by omega
      subst e
      rw [List.getElem?_append_right (Nat.le_refl _), Nat.sub_self] at hp
      simp only [List.getElem?_cons_zero, Option.some.injEq] at hp
      subst hp
      rw [List.length_reverse]
      exact ⟨zs, rfl, hz⟩
  · exact List.forall_mem_cons.mpr ⟨off, h5⟩
theorem CramG.sub {ks : List Int} {Tf : Nat → Str} {base nx : List (Addr × Obj)} {i : Nat} {ys : List Value} (h : CramG ks Tf base i ys nx) : ∀ p ∈ base, p ∈ nx := by
  obtain ⟨es, rfl, _⟩ := h
  exact fun p hp => List.mem_append_right _ hp
set_option maxRecDepth 100000 in
set_option maxHeartbeats 4000000 in
theorem stageB (w : World) (mean : ExcName → Option Value) (mg mb : Str → Option Value) (dp un : Nat) (gd : Option (List Code)) (fa : Addr) (ccd : Value) (outer : List Env) (A₀ : Around) (base h₀ : Heap) (L D : Addr) (m : Str → Option Value) (s : Shared) (Q : Flow → Shared → Prop) (E : Value → Shared → Prop)
    (T0 T1 T2 T3 T4 T5 : Str) (t0 t1 t2 t3 t4 t5 : Tok) (c1 c2 c3 c4 c5 : Obj) (v1 v2 : Option Value)
    (B : Below A₀ base outer h₀) (F : Fr h₀ L s.heap (fun y => if y = Str.ofString "texts" then some (.ref D) else m y)) (X : (hd.heap_39 w.params).In h₀) (T : Top hd.view_39 (looseW hd.view_39 [Str.ofString "b2a_base64", Str.ofString "b64encode"]) mean mg mb h₀)
    (N : News h₀ L s.heap [(D, W.listOf #[.str T0 t0, .str T1 t1, .str T2 t2, .str T3 t3, .str T4 t4, .str T5 t5] 6), (L + 1 + 1 + 1 + 1 + 1, c5), (L + 1 + 1 + 1 + 1, c4), (L + 1 + 1 + 1, c3), (L + 1 + 1, c2), (L + 1, c1)]) (hdp : dp + 20 < recursionLimit) (hun : un + 400 < cLine)
    (d1 : c1.data = .cell v1) (d2 : c2.data = .cell v2) (hD1 : @Ne Nat D (L + 1)) (hD2 : @Ne Nat D (L + 1 + 1)) (hD3 : @Ne Nat D (L + 1 + 1 + 1)) (hD4 : @Ne Nat D (L + 1 + 1 + 1 + 1)) (hD5 : @Ne Nat D (L + 1 + 1 + 1 + 1 + 1)) (hlen : ∀ T ∈ [T0, T1, T2, T3, T4, T5], T.length ≤ 100)
    (hC : ∀ (h : Heap) (tk : Nat) (W Cr : Addr) (ws cr : List Value) (cw : Nat) (o1 o2 : Obj) (Fx : List (Addr × Obj)), Fr h₀ L h (fun y => if y = Str.ofString "texts" then some (.ref D) else m y) → News h₀ L h ((L + 1 + 1 + 1 + 1 + 1, c5) :: (L + 1 + 1 + 1 + 1, c4) :: (L + 1 + 1 + 1, c3) :: Fx) →
      (∀ p ∈ Fx, @Ne Nat p.1 (L + 1 + 1 + 1 + 1 + 1) ∧ @Ne Nat p.1 (L + 1 + 1 + 1 + 1) ∧ @Ne Nat p.1 (L + 1 + 1 + 1)) → (W, PySem.W.listOf ws.toArray cw) ∈ Fx → IntsAre ws (rangeKs (-1) ((T0.length : Int) + 2 - -1).toNat) → (Cr, lst cr) ∈ Fx → cr.length = 6 →
      (∀ (j : Nat) (v : Value), cr[j]? = some v → ∃ a o, v = .ref a ∧ (a, o) ∈ Fx ∧ CramRow (rangeKs (-1) ((T0.length : Int) + 2 - -1).toNat) ([T0, T1, T2, T3, T4, T5].getD j T0) o) →
      (D, PySem.W.listOf #[.str T0 t0, .str T1 t1, .str T2 t2, .str T3 t3, .str T4 t4, .str T5 t5] 6) ∈ Fx → (L + 1, o1) ∈ Fx → o1.data = .cell (some (.ref W)) → (L + 1 + 1, o2) ∈ Fx → o2.data = .cell (some (.ref Cr)) →
      wpAny (model PySem.Challenge.rw_mr0015_01.row.prog w) (ktrTop dp un gd (Str.ofString "law") lawScope L fa ccd (cellsFrom (L + 1) lawScope.names []) outer) (execs (lawBody.drop 8) (envOfC (Str.ofString "law") lawScope L fa ccd)) Q E { s with heap := h, toks := tk }) :
    wpAny (model PySem.Challenge.rw_mr0015_01.row.prog w) (ktrTop dp un gd (Str.ofString "law") lawScope L fa ccd (cellsFrom (L + 1) lawScope.names []) outer) (execs (lawBody.drop 6) (envOfC (Str.ofString "law") lawScope L fa ccd)) Q E s := by
  revert X
  k_fill
  intro X
  w_on
  k_with_none
  have hl0 : T0.length ≤ 100 := hlen T0 (by simp)
  conv => arg 3; arg 1; whnf
  repeat' ((fail_if_success (with_reducible show wpAny _ _ (exec (Stmt.Assign [Expr.Name (PySem.Str.ofString "crammed") _] _ _) _) _ _ _)); (first | (k_unfold; (try dsimp only)) | (k_end; wrow_close) | walk1 | (dsimp only; walk1) | (leave1; walk_say "STEP leave1"; try dsimp only)))
  rename IntsAre _ _ => hW
  rename Fr _ _ _ _ => F2
  rename News _ _ _ _ => N2
  rename (Obj.data _ = Data.cell (some (Value.ref _))) => dW
  rename_i Wd wsv wc hh1 tkk1 lW hh2 o1v
  k_dflt (refine wpAny_Assign_Name ?_)
  refine with_ledger N2 fun bs hbs N3 => ?_
  refine ListComp_C (h₀ := h₀) (L := L) (m := fun y => if y = Str.ofString "texts" then some (.ref D) else m y) (its := #[.str T0 t0, .str T1 t1, .str T2 t2, .str T3 t3, .str T4 t4, .str T5 t5]) (ax := D) (k := 6) (CramG (rangeKs (-1) ((T0.length : Int) + 2 - -1).toNat) (fun i => [T0, T1, T2, T3, T4, T5].getD i T0) bs) (by rfl) (by with_unfolding_all rfl) (fun _ => by with_unfolding_all rfl) (fun _ => by with_unfolding_all rfl) (by rfl) (by decide) (fun _ _ => by with_unfolding_all rfl) (by show 6 ≤ sizeLine; decide) (fun i ys nx hG => hG.sub _ (by rw [hbs]; exact .tail _ (.head _))) ?turn ?fin ?src
  case src => ((first | (k_unfold; (try dsimp only)) | (k_end; wrow_close) | walk1 | (dsimp only; walk1) | (leave1; walk_say "STEP leave1"; try dsimp only)); exact ⟨rfl, ⟨_, _, rfl⟩, _, CramG.start, F2, N3⟩)
  case turn =>
    intro i v I oI C oC K oK D1 ys nx h tk E' hv hG hyl dK F4 N4 off
    obtain ⟨U, t, rfl, hUi, hUm⟩ := text_at hv
    have hU := hlen U hUm
    have hmW := hG.sub _ (by rw [hbs]; exact .tail _ (.tail _ (.tail _ (.tail _ (.tail _ (.tail _ (.head _)))))))
    have hmD := hG.sub _ (by rw [hbs]; exact .head _)
    clear F2 N2 N3
    k_dflt (refine LCg.ListComp_U (F₀ := F4) (by with_unfolding_all rfl) (by decide) (by rfl) (by decide) (by rfl) ?_)
    refine kcf_cell N4 (by rfl) (.tail _ (.tail _ (.tail _ (.tail _ hmW)))) dW ?_
    refine LCg.CompSrc.ledger (by rfl) F4 N4 (.tail _ (.tail _ (.tail _ (.tail _ hmD)))) (by rw [List.size_toArray, hW.length, rangeKs_length, sizeLine_eq]; omega) ?_
    intro g2
    refine kct_list (cramF U) hW ?_ ?_
    · intro k t' I2 oI2 C2 oC2 D2 m2 ys2 h2 tk2 E2 hk hC2 hx2 F5 N5 off2 ne2 mark
      have hkk := mem_rangeKs hk
      clear F4 N4
      (try k_fold)
      k_steps
      refine cb_use (cram_c _ _ _ _ _ U t k t' (by omega) (by omega) (by omega)) B F5 X N5 T rfl (by omega) (by omega) ?_
      intro t9 h9 tk9 F9 N9
      k_steps
      exact LCg.CompEnd.intro F9 N9 _ (fun _ hp => hp) off2 (.inr ⟨_, .tail _ (.tail _ (.tail _ (.tail _ hmD))), rfl, _, rfl⟩) ⟨rfl, _, rfl⟩
    · unfold KPfDone
      intro zs hz hzl
      unfold LCg.FinE
      intro D3 h3 tk3 F6 N6 o6
      have o7 := off1_ne o6
      rw [hUi] at hz
      refine ⟨h3, tk3, (D3, lst zs) :: nx, rfl, F6, ?_, ?_, hG.more hz fun q hq => o7 q (.tail _ (.tail _ (.tail _ (.tail _ (hG.sub q hq)))))⟩
      · intro p hp
        refine N6 p ?_
        simp only [List.mem_cons] at hp ⊢
        rcases hp with h | h | h | h | h | h
        · exact .inr (.inl h)
        · exact .inr (.inr (.inl h))
        · exact .inr (.inr (.inr (.inl h)))
        · exact .inr (.inr (.inr (.inr (.inl h))))
        · exact .inl h
        · exact .inr (.inr (.inr (.inr (.inr h))))
      · exact List.forall_mem_cons.mpr ⟨⟨Ne.symm (o7 _ (.head _)), Ne.symm (o7 _ (.tail _ (.head _))), Ne.symm (o7 _ (.tail _ (.tail _ (.head _)))), Ne.symm (o7 _ (.tail _ (.tail _ (.tail _ (.head _)))))⟩, off⟩
  case fin =>
    intro Cr cr nx h tk hG hcl F4 N4 off
    obtain ⟨es, rfl, hcr, hel, hrow, hes⟩ := hG
    subst hbs
    have mem2 : ∀ p ∈ es, @Ne Nat p.1 (L + 1 + 1 + 1 + 1 + 1) ∧ @Ne Nat p.1 (L + 1 + 1 + 1 + 1) ∧ @Ne Nat p.1 (L + 1 + 1 + 1) ∧ @Ne Nat p.1 (L + 1 + 1) ∧ @Ne Nat p.1 (L + 1) := fun p hp =>
      ⟨Ne.symm (hes p hp _ (.tail _ (.tail _ (.head _)))), Ne.symm (hes p hp _ (.tail _ (.tail _ (.tail _ (.head _))))), Ne.symm (hes p hp _ (.tail _ (.tail _ (.tail _ (.tail _ (.head _)))))), Ne.symm (hes p hp _ (.tail _ (.tail _ (.tail _ (.tail _ (.tail _ (.head _))))))), Ne.symm (hes p hp _ (.tail _ (.tail _ (.tail _ (.tail _ (.tail _ (.tail _ (.head _)))))))) ⟩
    have z := N4 (L + 1 + 1, c2) (.tail _ (List.mem_append_right _ (.tail _ (.tail _ (.tail _ (.tail _ (.tail _ (.head _))))))))
    refine wpAny_storeName_cell (c := L + 1 + 1) (v₀ := v2) (by rfl) (by rfl) (by rfl) ⟨c2, z.1, d2⟩ fun h' hcell hsb => ?_
    obtain ⟨o2, e2, d2'⟩ := hcell
    have keep : ∀ p, p ∈ (Cr, lst cr) :: (es ++ _) → p.1 ≠ L + 1 + 1 → h'.get? p.1 = some p.2 ∧ p.1 ≠ L ∧ h₀.get? p.1 = none := fun p hp hne => ⟨hsb.extBut _ _ hne (N4 p hp).1, (N4 p hp).2⟩
    have oW := off _ (List.mem_append_right _ (.tail _ (.tail _ (.head _))))
    have oE := off _ (List.mem_append_right _ (.tail _ (.tail _ (.tail _ (.head _)))))
    have oL := off _ (List.mem_append_right _ (.tail _ (.tail _ (.tail _ (.tail _ (.head _))))))
    have oC := off _ (List.mem_append_right _ (.tail _ (.tail _ (.tail _ (.tail _ (.tail _ (.head _)))))))
    replace oW : @Ne Nat (L + 1 + 1 + 1 + 1 + 1) Cr := oW
    replace oE : @Ne Nat (L + 1 + 1 + 1 + 1) Cr := oE
    replace oL : @Ne Nat (L + 1 + 1 + 1) Cr := oL
    replace oC : @Ne Nat (L + 1 + 1) Cr := oC
    have lW' : @LT.lt Nat _ (L + 1 + 1 + 1 + 1 + 1) Wd := lW.2.1
    refine hC h' tk Wd Cr wsv cr wc o1v o2 ((Cr, lst cr) :: (Wd, PySem.W.listOf wsv.toArray wc) :: (D, _) :: (L + 1 + 1, o2) :: (L + 1, o1v) :: es) (F4.change hsb z.2.1 z.2.2) ?_ ?_ (.tail _ (.head _)) hW (.head _) (by rw [hcl]; rfl) ?_ (.tail _ (.tail _ (.head _))) (.tail _ (.tail _ (.tail _ (.tail _ (.head _))))) dW (.tail _ (.tail _ (.tail _ (.head _)))) d2'
    · intro p hp
      rcases List.mem_cons.mp hp with rfl | hp
      · exact keep _ (.tail _ (List.mem_append_right _ (.tail _ (.tail _ (.head _))))) (by dsimp only; exact neN (by omega))
      rcases List.mem_cons.mp hp with rfl | hp
      · exact keep _ (.tail _ (List.mem_append_right _ (.tail _ (.tail _ (.tail _ (.head _)))))) (by dsimp only; exact neN (by omega))
      rcases List.mem_cons.mp hp with rfl | hp
      · exact keep _ (.tail _ (List.mem_append_right _ (.tail _ (.tail _ (.tail _ (.tail _ (.head _))))))) (by dsimp only; exact neN (by omega))
      rcases List.mem_cons.mp hp with rfl | hp
      · exact keep _ (.head _) (Ne.symm oC)
      rcases List.mem_cons.mp hp with rfl | hp
      · exact keep _ (.tail _ (List.mem_append_right _ (.head _))) (neN (by show Wd ≠ _; exact neN (by omega)))
      rcases List.mem_cons.mp hp with rfl | hp
      · exact keep _ (.tail _ (List.mem_append_right _ (.tail _ (.head _)))) hD2
      rcases List.mem_cons.mp hp with rfl | hp
      · exact ⟨e2, z.2⟩
      rcases List.mem_cons.mp hp with rfl | hp
      · exact keep _ (.tail _ (List.mem_append_right _ (.tail _ (.tail _ (.tail _ (.tail _ (.tail _ (.tail _ (.head _))))))))) (by dsimp only; exact neN (by omega))
      · exact keep p (.tail _ (List.mem_append_left _ hp)) (mem2 p hp).2.2.2.1
    · intro p hp
      rcases List.mem_cons.mp hp with rfl | hp
      · exact ⟨Ne.symm oW, Ne.symm oE, Ne.symm oL⟩
      rcases List.mem_cons.mp hp with rfl | hp
      · exact ⟨neN (by show Wd ≠ _; exact neN (by omega)), neN (by show Wd ≠ _; exact neN (by omega)), neN (by show Wd ≠ _; exact neN (by omega))⟩
      rcases List.mem_cons.mp hp with rfl | hp
      · exact ⟨hD5, hD4, hD3⟩
      rcases List.mem_cons.mp hp with rfl | hp
      · exact ⟨(by dsimp only; exact neN (by omega)), (by dsimp only; exact neN (by omega)), (by dsimp only; exact neN (by omega))⟩
      rcases List.mem_cons.mp hp with rfl | hp
      · exact ⟨(by dsimp only; exact neN (by omega)), (by dsimp only; exact neN (by omega)), (by dsimp only; exact neN (by omega))⟩
      · exact ⟨(mem2 p hp).1, (mem2 p hp).2.1, (mem2 p hp).2.2.1⟩
    · intro j v hv
      rw [hcr, List.getElem?_map] at hv
      obtain ⟨p, hp, rfl⟩ := Option.map_eq_some_iff.mp hv
      exact ⟨p.1, p.2, rfl, .tail _ (.tail _ (.tail _ (.tail _ (.tail _ (List.mem_reverse.mp (List.mem_of_getElem? hp)))))), hrow j p hp⟩
end Mine
end
section
open PySem PySem.W PyProof.Rows PySem.Spec PySem.Calls
namespace Mine
section
variable {prog : Program} {w : World} {A : Around} {E : Value → Shared → Prop} {s : Shared}
abbrev vals (l : List (Int × Tok)) : List Value := l.map fun y => .int y.1 y.2
theorem args_many (a b : Value) (r : List Value) : argsOk "min" ⟨a :: b :: r, []⟩ := by unfold argsOk; kernel_rfl
/-- the least of a list, by the walk's own search -/
theorem least_of {l : List (Int × Tok)} {v : Value} (hv : (intItems l.toArray)[argBest (fun i j => decide (numAt l.toArray i < numAt l.toArray j)) (l.length - 1)]? = some v) :
    ∃ z u, v = .int z u ∧ (z, u) ∈ l ∧ ∀ y ∈ l, z ≤ y.1 := by
  have hb := argBest_lt (numAt l.toArray) (l.length - 1)
  revert hv hb
  generalize argBest (fun i j => decide (numAt l.toArray i < numAt l.toArray j)) (l.length - 1) = k
  intro hv hb
  simp only [intItems, List.map_toArray, List.getElem?_toArray, List.getElem?_map, Option.map_eq_some_iff] at hv
  obtain ⟨⟨z, u⟩, hk, rfl⟩ := hv
  refine ⟨z, u, rfl, List.mem_of_getElem? hk, fun y hy => ?_⟩
  obtain ⟨j, hj⟩ := List.getElem?_of_mem hy
  have hlt := (List.getElem?_eq_some_iff.mp hj).1
  have := hb.2 j (by omega)
  simpa [numAt, hk, hj] using this
/-- min of two ints or more -/
theorem min_many {p q : Int × Tok} {r : List (Int × Tok)} {Q : Value → Shared → Prop} (hh : A.handled = none) (hfit : (p :: q :: r).length ≤ sizeLine)
    (h : ∀ h' tk z u, (∀ d o, s.heap.get? d = some o → h'.get? d = some o) → (z, u) ∈ p :: q :: r → (∀ y ∈ p :: q :: r, z ≤ y.1) → Q (.int z u) { s with heap := h', toks := tk }) :
    wpAny (model prog w) A (call (.builtin "min") (vals (p :: q :: r))) Q E s := by
  generalize hH1 : s.heap.push { cls := .type "tuple", data := .seq (vals (p :: q :: r)).toArray } = H1
  generalize hH2 : H1.push { cls := .type "tuple_iterator", data := .fields #[.ref s.heap.objs.size, .int 0 0] } = H2
  have n1 : H1.objs.size = s.heap.objs.size + 1 := by rw [← hH1, Heap.size_push]
  have n2 : H2.objs.size = s.heap.objs.size + 2 := by rw [← hH2, Heap.size_push, n1]
  have g1 : H1.IsTuple s.heap.objs.size (intItems (p :: q :: r).toArray) := ⟨_, hH1 ▸ Heap.get?_push_size _ rfl, rfl, 0, by simp [intItems]⟩
  have gI : H2.IsTupleIter H1.objs.size s.heap.objs.size 0 := ⟨_, hH2 ▸ Heap.get?_push_size _ rfl, rfl, rfl⟩
  have g2 : H2.IsTuple s.heap.objs.size (intItems (p :: q :: r).toArray) := hH2 ▸ g1.push _
  have W := Walks.tuple (prog := prog) (w := w) (A := A.in1) hh H1.objs.size s.heap.objs.size (by rw [n1]; exact Nat.ne_of_lt (Nat.lt_succ_self _)) (intItems (p :: q :: r).toArray)
  have hsz : (intItems (p :: q :: r).toArray).size = (p :: q :: r).length := by simp [intItems]
  refine call_function_tree F.kind_min F.plain_min F.entry_min (args_many _ _ _) ?_
  refine wpAny_bind (wpAny_of_eq (a := [none, none]) rfl ?_)
  refine wpAny_bind (wpAny_newObj_type (hd := by simpa [sizeOk] using hfit) ?_)
  show wpAny _ _ _ _ _ { s with heap := s.heap.push { cls := .type "tuple", data := .seq (vals (p :: q :: r)).toArray } }
  rw [hH1]
  refine wpAny_bind (wpAny_pyIter_tuple g1 ?_)
  dsimp only
  rw [hH2]
  refine wpAny_bind (wpAny_newObj_type ?_)
  refine wpAny_pure ⟨plainId_quiet F.plain_min_loop _, codeAny_min_loop_first W _ (CmpOf.ints_lt (numAt (p :: q :: r).toArray) fun _ _ => intItems_at) H2.objs.size ?_ ?_ ⟨gI.at fun _ e => Heap.get?_push_of_some _ e, g2.push _⟩ (Heap.get?_push_size _ rfl) ?_⟩
  · rw [n2]; simp only [List.mem_cons, List.not_mem_nil, or_false, n1]; intro e; rcases e with e | e <;> exact absurd e (Nat.ne_of_gt (by omega))
  · rw [hsz]; exact Nat.succ_pos _
  · intro v h' tk hP hk
    rw [hsz] at hP
    obtain ⟨z, u, rfl, hm, hle⟩ := least_of hP
    refine h h' tk z u (fun d o e => ?_) hm hle
    have hd : @LT.lt Nat _ d s.heap.objs.size := Heap.lt_size e
    refine hk d o ?_ ?_ (Heap.get?_push_of_some _ (hH2 ▸ Heap.get?_push_of_some _ (hH1 ▸ Heap.get?_push_of_some _ e)))
    · rw [List.mem_singleton, n1]; exact Nat.ne_of_lt (Nat.lt_succ_of_lt hd)
    · rw [n2]; exact Nat.ne_of_lt (by omega)
def IsMin4 (v a b c d : Int) : Prop := v ≤ a ∧ v ≤ b ∧ v ≤ c ∧ v ≤ d ∧ (v = a ∨ v = b ∨ v = c ∨ v = d)
theorem min_four_N {h₀ : Heap} {L : Addr} {m : Str → Option Value} {news : List (Addr × Obj)} {a b c d : Int} {t u x y : Tok} {Q : Value → Shared → Prop} (hh : A.handled = none) (F : Fr h₀ L s.heap m) (N : News h₀ L s.heap news)
    (h : ∀ h' tk v t', Fr h₀ L h' m → News h₀ L h' news → IsMin4 v a b c d → Q (.int v t') { s with heap := h', toks := tk }) :
    wpAny (model prog w) A (call (.builtin "min") [.int a t, .int b u, .int c x, .int d y]) Q E s := by
  refine min_many (p := (a, t)) (q := (b, u)) (r := [(c, x), (d, y)]) hh (by rw [sizeLine_eq]; show 4 ≤ 16777216; decide) fun h' tk z v hk hm hle => h h' tk z v (F.grownK hk) (N.grown hk) ?_
  simp only [List.forall_mem_cons] at hle
  simp only [List.mem_cons, Prod.mk.injEq, List.not_mem_nil, or_false] at hm
  exact ⟨hle.1, hle.2.1, hle.2.2.1, hle.2.2.2.1, by omega⟩
end
end Mine
end
section
open PySem PySem.W PyProof.Rows PySem.Spec PySem.Calls PyProof.Rows.LCg
namespace Mine
theorem my_itemN {prog : Program} {w : World} {A : Around} {E : Value → Shared → Prop} {s : Shared} {h₀ : Heap} {L : Addr} {all Fx : List (Addr × Obj)} {value slice : PySem.Expr} {l : Addr} {vs : List Value} {c : Nat} {k : Int} {u : Tok} {v : Value} {Q : Value → Shared → Prop}
    (N : News h₀ L s.heap all) (hm : (l, PySem.W.listOf (List.toArray vs) c) ∈ Fx) (sub : ∀ p ∈ Fx, p ∈ all) (h0 : 0 ≤ k) (hhi : k < 9223372036854775808) (hx : vs[k.toNat]? = some v) (h : Q v s)
    (hs : subscripted slice false (.ref l) (.int k u) = operate [.ref l, .int k u] (getItem (.ref l) (.int k u)) := by with_unfolding_all rfl) :
    wpAny (model prog w) A (subscriptTail value slice (.ref l) (.int k u)) Q E s :=
  item_litK (News.isList N (sub _ hm)) h0 (by omega) hx h hs
theorem carried_at {f : Int → Str} : ∀ {zs : List Value} {ks : List Int} {k : Nat}, CarriedAll zs (ks.map fun k => PyData.str (f k)) → k < ks.length → ∃ t, zs[k]? = some (.str (f (ks.getD k 0)) t)
  | _, [], _, _, h => by simp at h
  | _, _ :: _, 0, .cons (.str _ t) _, _ => ⟨t, rfl⟩
  | _, _ :: ks, k + 1, .cons _ r, h => by
    obtain ⟨t, e⟩ := carried_at (ks := ks) (k := k) r (by simpa using h)
    exact ⟨t, by simpa using e⟩
local macro_rules | `(tactic| k_all) => `(tactic| assumption)
local macro_rules | `(tactic| k_mem) => `(tactic| assumption)
local macro_rules | `(tactic| walk_at "subscriptTail Name Name ref int") => `(tactic| (k_dflt (refine my_itemN (by k_asm) (by assumption) (by (intro p hp; repeat (first | exact hp | refine List.Mem.tail _ ?_))) (by omega) (by omega) (by assumption) ?_)))
local macro_rules | `(tactic| walk_at "call builtin:len") => `(tactic| ((with_reducible show wpAny _ _ (call (Value.builtin "len") [Value.ref _]) _ _ _); k_dflt (refine kst_len (by k_asm) (by k_mem) (IntsAre.length (by assumption)) (by omega) ?_)))
local macro_rules | `(tactic| walk_at "call builtin:min") => `(tactic| ((with_reducible show wpAny _ _ (call (Value.builtin "min") [Value.int _ _, Value.int _ _, Value.int _ _, Value.int _ _]) _ _ _); k_dflt (refine min_four_N (by rfl) (by k_asm) (by k_asm) ?_); intro _ _ _ _ F' N' hMin; (try k_sweep)))
local macro_rules | `(tactic| walk_at "call ref") => `(tactic| ((with_reducible show wpAny _ _ (call (Value.ref 70) _ _) _ _ _); k_dflt (refine cb_use (ahead_c _ _ _ _ _ _ _ _ _ (by assumption) (by assumption)) (by k_asm) (by k_asm) (by k_asm) (by k_asm) (by k_asm) (by rfl) (by omega) (by omega) ?_); intro t9 h9 tk9 F9 N9; (try dsimp only)))
local macro_rules | `(tactic| walk_at "call ref") => `(tactic| ((with_reducible show wpAny _ _ (call (Value.ref 77) _ _) _ _ _); k_dflt (refine cb_use (behind_c _ _ _ _ _ _ _ _ _ (by assumption) (by assumption)) (by k_asm) (by k_asm) (by k_asm) (by k_asm) (by k_asm) (by rfl) (by omega) (by omega) ?_); intro t9 h9 tk9 F9 N9; (try dsimp only)))
set_option maxRecDepth 100000 in
set_option maxHeartbeats 4000000 in
theorem stageC (w : World) (mean : ExcName → Option Value) (mg mb : Str → Option Value) (dp un : Nat) (gd : Option (List Code)) (fa : Addr) (ccd : Value) (outer : List Env) (A₀ : Around) (base h₀ : Heap) (L D W Cr : Addr) (m : Str → Option Value) (s : Shared) (Q : Flow → Shared → Prop) (E : Value → Shared → Prop)
    (Tf : Nat → Str) (ts ws cr : List Value) (c3 c4 c5 o1 o2 : Obj) (v3 v4 v5 : Option Value) (ct cw : Nat) (ks : List Int) (Fx : List (Addr × Obj))
    (B : Below A₀ base outer h₀) (F : Fr h₀ L s.heap (fun y => if y = Str.ofString "texts" then some (.ref D) else m y)) (X : (hd.heap_39 w.params).In h₀) (T : Top hd.view_39 (looseW hd.view_39 [Str.ofString "b2a_base64", Str.ofString "b64encode"]) mean mg mb h₀)
    (N : News h₀ L s.heap ((L + 1 + 1 + 1 + 1 + 1, c5) :: (L + 1 + 1 + 1 + 1, c4) :: (L + 1 + 1 + 1, c3) :: Fx)) (hdp : dp + 20 < recursionLimit) (hun : un + 400 < cLine)
    (d3 : c3.data = .cell v3) (d4 : c4.data = .cell v4) (d5 : c5.data = .cell v5)
    (hF5 : ∀ p ∈ Fx, @Ne Nat p.1 (L + 1 + 1 + 1 + 1 + 1)) (hF4 : ∀ p ∈ Fx, @Ne Nat p.1 (L + 1 + 1 + 1 + 1)) (hF3 : ∀ p ∈ Fx, @Ne Nat p.1 (L + 1 + 1 + 1))
    (mW : (W, PySem.W.listOf ws.toArray cw) ∈ Fx) (hW : IntsAre ws ks) (mC : (Cr, lst cr) ∈ Fx) (hcr : ∀ (j : Nat), j < 6 → ∃ a o, cr[j]? = some (.ref a) ∧ (a, o) ∈ Fx ∧ CramRow ks (Tf j) o)
    (mD : (D, PySem.W.listOf ts.toArray ct) ∈ Fx) (hts : ∀ (j : Nat), j < 6 → ∃ t, ts[j]? = some (.str (Tf j) t)) (hTl : ∀ j, j < 6 → (Tf j).length ≤ 100) (m1 : (L + 1, o1) ∈ Fx) (d1 : o1.data = .cell (some (.ref W))) (m2 : (L + 1 + 1, o2) ∈ Fx) (d2 : o2.data = .cell (some (.ref Cr)))
    (hplain : ∀ j i : Nat, j < i → i < 6 → ∀ v, IsMin4 v (2 * aheadF (Tf j) (Tf i) + 5) (2 * behindF (Tf j) (Tf i) + 4) ((Tf j).length : Int) ((Tf i).length : Int) → ∀ k ∈ ks, (cramF (Tf j) k == cramF (Tf i) k) = decide (k < v))
    (hks : ks.length ≤ 1000) (hQ : ∀ h tk m', Fr h₀ L h m' → Q (.ret (.bool true)) { s with heap := h, toks := tk }) :
    wpAny (model PySem.Challenge.rw_mr0015_01.row.prog w) (ktrTop dp un gd (Str.ofString "law") lawScope L fa ccd (cellsFrom (L + 1) lawScope.names []) outer) (execs (lawBody.drop 8) (envOfC (Str.ofString "law") lawScope L fa ccd)) Q E s := by
  revert X
  k_fill
  intro X
  w_on
  k_with_none
  conv => arg 3; arg 1; whnf
  refine wpAny_execs_cons ?_
  refine wpAny_For ?_
  repeat' ((fail_if_success (with_reducible show wpAny _ _ (pyIter _) _ _ _)); (first | (k_unfold; (try dsimp only)) | (k_end; wrow_close) | walk1 | (dsimp only; walk1) | (leave1; walk_say "STEP leave1"; try dsimp only)))
  rename Fr _ _ _ _ => F2
  rename News _ _ _ _ => N2
  rename IsRange _ _ _ _ _ _ _ _ => rg
  refine for_any (n := 6) (fun nx m' => ∃ c3 c4 c5 v3 v4 v5 m'', nx = (L + 1 + 1 + 1 + 1 + 1, c5) :: (L + 1 + 1 + 1 + 1, c4) :: (L + 1 + 1 + 1, c3) :: Fx ∧ m' = (fun y => if y = Str.ofString "texts" then some (.ref D) else m'' y) ∧ c3.data = .cell v3 ∧ c4.data = .cell v4 ∧ c5.data = .cell v5) (by rfl) rg (by decide) (by decide) F2 N2 ⟨c3, c4, c5, v3, v4, v5, m, rfl, rfl, d3, d4, d5⟩ ?_ ?_
  · rintro i t I it m' nx h tk E' hi ⟨c3', c4', c5', v3', v4', v5', m'', rfl, rfl, d3', d4', d5'⟩ off F3 N3
    clear F2 N2 rg
    have n5 : @Ne Nat (L + 1 + 1 + 1 + 1 + 1) I := off _ (.head _)
    have n4 : @Ne Nat (L + 1 + 1 + 1 + 1) I := off _ (.tail _ (.head _))
    have n3 : @Ne Nat (L + 1 + 1 + 1) I := off _ (.tail _ (.tail _ (.head _)))
    have nF : ∀ p ∈ Fx, @Ne Nat p.1 I := fun p hp => off p (.tail _ (.tail _ (.tail _ hp)))
    (first | (k_unfold; (try dsimp only)) | (k_end; wrow_close) | walk1 | (dsimp only; walk1) | (leave1; walk_say "STEP leave1"; try dsimp only))
    (first | (k_unfold; (try dsimp only)) | (k_end; wrow_close) | walk1 | (dsimp only; walk1) | (leave1; walk_say "STEP leave1"; try dsimp only))
    rename Obj.data _ = Data.cell (some (Value.int _ _)) => dL
    rename Fr _ _ _ _ => Fz
    rename News _ _ _ _ => Nz
    rename_i h4 o3
    refine wpAny_execs_cons ?_
    refine wpAny_For ?_
    repeat' ((fail_if_success (with_reducible show wpAny _ _ (pyIter _) _ _ _)); (first | (k_unfold; (try dsimp only)) | (k_end; wrow_close) | walk1 | (dsimp only; walk1) | (leave1; walk_say "STEP leave1"; try dsimp only)))
    rename Fr _ _ _ _ => F4
    rename News _ _ _ _ => N4
    rename IsRange _ _ _ _ _ _ _ _ => rg
    refine for_any (n := i) (fun nx m' => ∃ c4 c5 v4 v5 m'', nx = (I, it) :: (L + 1 + 1 + 1 + 1 + 1, c5) :: (L + 1 + 1 + 1 + 1, c4) :: (L + 1 + 1 + 1, o3) :: Fx ∧ m' = (fun y => if y = Str.ofString "texts" then some (.ref D) else m'' y) ∧ c4.data = .cell v4 ∧ c5.data = .cell v5) (by rfl) rg (small_one (by omega) (by omega) (by omega) (by omega)) (by rw [rangeSize_nat]; omega) F4 N4 ⟨c4', c5', v4', v5', m'', rfl, rfl, d4', d5'⟩ ?_ ?_
    · rintro j t2 I2 it2 m2 nx2 h5 tk5 E5 hj ⟨c4a, c5a, v4a, v5a, m3, rfl, rfl, d4a, d5a⟩ off2 F5 N5
      clear F4 N4 rg
      have nI : @Ne Nat I I2 := off2 _ (.head _)
      have p5 : @Ne Nat (L + 1 + 1 + 1 + 1 + 1) I2 := off2 _ (.tail _ (.head _))
      have p4 : @Ne Nat (L + 1 + 1 + 1 + 1) I2 := off2 _ (.tail _ (.tail _ (.head _)))
      have p3 : @Ne Nat (L + 1 + 1 + 1) I2 := off2 _ (.tail _ (.tail _ (.tail _ (.head _))))
      have pF : ∀ p ∈ Fx, @Ne Nat p.1 I2 := fun p hp => off2 p (.tail _ (.tail _ (.tail _ (.tail _ hp))))
      (first | (k_unfold; (try dsimp only)) | (k_end; wrow_close) | walk1 | (dsimp only; walk1) | (leave1; walk_say "STEP leave1"; try dsimp only))
      (first | (k_unfold; (try dsimp only)) | (k_end; wrow_close) | walk1 | (dsimp only; walk1) | (leave1; walk_say "STEP leave1"; try dsimp only))
      rename Obj.data _ = Data.cell (some (Value.int (j : Int) _)) => dE
      have hje : (((j : Nat) : Int)).toNat = j := by omega
      have hie : (((i : Nat) : Int)).toNat = i := by omega
      obtain ⟨te, hte⟩ := hts j (by omega)
      obtain ⟨tl, htl⟩ := hts i hi
      have hte' : ts[(((j : Nat) : Int)).toNat]? = some (.str (Tf j) te) := by rw [hje]; exact hte
      have htl' : ts[(((i : Nat) : Int)).toNat]? = some (.str (Tf i) tl) := by rw [hie]; exact htl
      have hlj := hTl j (by omega)
      have hli := hTl i hi
      have hlj' : (Tf j).length ≤ 1000 := by omega
      have hli' : (Tf i).length ≤ 1000 := by omega
      repeat' ((fail_if_success (with_reducible show wpAny _ _ (exec (Stmt.Assign [Expr.Name (PySem.Str.ofString "alike") _] _ _) _) _ _ _)); (first | (k_unfold; (try dsimp only)) | (k_end; wrow_close) | walk1 | (dsimp only; walk1) | (leave1; walk_say "STEP leave1"; try dsimp only)))
      rename IsMin4 _ _ _ _ _ => hMin
      rename Fr _ _ _ _ => F6
      rename News _ _ _ _ => N6
      k_dflt (refine LCg.Assign_ListComp_U (F₀ := F6) (by rfl) (by with_unfolding_all rfl) (by with_unfolding_all rfl) (by decide) (by rfl) (by decide) (by rfl) (by rfl) (by rfl) ?_)
      repeat' ((fail_if_success (with_reducible show LCg.CompSrc _ _ _ _ _ _ _ _ _ _ _ _ _ _)); (first | (k_unfold; (try dsimp only)) | (k_end; wrow_close) | walk1 | (dsimp only; walk1) | (leave1; walk_say "STEP leave1"; try dsimp only)))
      rename IsRange _ _ _ _ _ _ _ _ => rg2
      rename Fr _ _ _ _ => F7
      rename News _ _ _ _ => N7
      obtain ⟨aj, oj, hcj, mj, zj, rfl, hzj⟩ := hcr j (by omega)
      obtain ⟨ai, oi, hci, mi, zi, rfl, hzi⟩ := hcr i hi
      refine LCg.CompSrc.range (n := ks.length) (by rfl) F7 N7 rg2 (small_one (by omega) (by omega) (by omega) (by omega)) (by rw [rangeSize_nat]; omega) (by rw [sizeLine_eq]; omega) ?_
      intro g8
      refine comp_each (fun k y => y = .bool (cramF (Tf j) (ks.getD k 0) == cramF (Tf i) (ks.getD k 0))) ?_ ?_
      · intro k v Ik oI C oC Dk m₂ ys h8 tk8 E8 hk hv hC hx F8 N8 offk nek
        obtain ⟨tv, rfl⟩ := hv
        clear F7 N7 rg2
        obtain ⟨tzj, ezj⟩ := carried_at hzj hk
        obtain ⟨tzi, ezi⟩ := carried_at hzi hk
        have ezj' : zj[(0 + (k : Int)).toNat]? = some (.str (cramF (Tf j) (ks.getD k 0)) tzj) := by rw [show (0 + (k : Int)).toNat = k by omega]; exact ezj
        have ezi' : zi[(0 + (k : Int)).toNat]? = some (.str (cramF (Tf i) (ks.getD k 0)) tzi) := by rw [show (0 + (k : Int)).toNat = k by omega]; exact ezi
        (try k_fold)
        k_steps
        exact comp_end F8 N8 (fun _ hp => hp) offk trivial rfl
      · intro ya hla hRa
        unfold LCg.FinA
        intro Da h8 tk8 F8 N8 o8
        clear F7 N7 rg2
        (try dsimp only)
        have oa := off1_ne o8
        rename IntsAre ws ks => hW2
        refine wpAny_execs_cons ?_
        refine wpAny_If ?_
        repeat' ((fail_if_success (with_reducible show wpAny _ _ (eval (Expr.ListComp _ _ _ _) _) _ _ _)); (first | (k_unfold; (try dsimp only)) | (k_end; wrow_close) | walk1 | (dsimp only; walk1) | (leave1; walk_say "STEP leave1"; try dsimp only)))
        k_dflt (refine LCg.ListComp_U (F₀ := F8) (by with_unfolding_all rfl) (by decide) (by rfl) (by decide) (by rfl) ?_)
        repeat' ((fail_if_success (with_reducible show LCg.CompSrc _ _ _ _ _ _ _ _ _ _ _ _ _ _)); (first | (k_unfold; (try dsimp only)) | (k_end; wrow_close) | walk1 | (dsimp only; walk1) | (leave1; walk_say "STEP leave1"; try dsimp only)))
        rename IntsAre ws ks => hW2
        refine LCg.CompSrc.ledger (by rfl) F8 N8 (.tail _ (.tail _ (.tail _ (.tail _ (.tail _ (.tail _ mW)))))) (by rw [List.size_toArray, hW2.length, sizeLine_eq]; omega) ?_
        intro g9
        rw [List.size_toArray, hW2.length]
        refine comp_each (fun k y => y = .bool (cramF (Tf j) (ks.getD k 0) == cramF (Tf i) (ks.getD k 0))) ?_ ?_
        · intro k v Ik oI C oC Dk m₂ ys h9 tk9 E9 hk hv hC hx F9 N9 offk nek
          obtain ⟨n, tn, rfl, hn⟩ := hW2.at k v (by simpa using hv)
          have hgk : ks.getD k 0 = n := by rw [List.getD_eq_getElem?_getD, hn]; rfl
          have hmem : n ∈ ks := List.mem_of_getElem? hn
          have hpl := hplain j i hj hi _ hMin n hmem
          clear F8 N8
          (try k_fold)
          k_steps
          rw [hgk, hpl]
          exact comp_end F9 N9 (fun _ hp => hp) offk (.inr ⟨_, (.tail _ (.tail _ (.tail _ (.tail _ (.tail _ (.tail _ mW)))))), rfl, _, rfl⟩) rfl
        · intro yb hlb hRb
          unfold LCg.FinE
          intro Db h9 tk9 F9 N9 o9
          refine ne_bools (News.isList N9 (.tail _ (.head _))) (News.isList N9 (.head _)) (carried_bools (f := fun k => cramF (Tf j) (ks.getD k 0) == cramF (Tf i) (ks.getD k 0)) ks.length 0 ya hla (by simpa using hRa)) (carried_bools (f := fun k => cramF (Tf j) (ks.getD k 0) == cramF (Tf i) (ks.getD k 0)) ks.length 0 yb hlb (by simpa using hRb)) (by show un + 64 < cLine; omega) ?_
          rw [decide_eq_true rfl]
          clear F8 N8
          k_steps
          refine ⟨_, _, _, _, rfl, F9, fun p hp => N9 p (.tail _ (.tail _ hp)), List.forall_mem_cons.mpr ⟨nI, List.forall_mem_cons.mpr ⟨p5, List.forall_mem_cons.mpr ⟨p4, List.forall_mem_cons.mpr ⟨p3, pF⟩⟩⟩⟩, _, _, _, _, (fun y => if y = Str.ofString "alike" then some (.ref Da) else if y = Str.ofString "right" then some (.str (Tf i) tl) else if y = Str.ofString "left" then some (.str (Tf j) te) else m3 y), rfl, ?_, dE, by assumption⟩
          funext y
          by_cases hy : y = Str.ofString "texts"
          · subst hy; rfl
          · simp only [if_neg hy]
    · rintro m2 nx2 h5 tk5 ⟨c4a, c5a, v4a, v5a, m3, rfl, rfl, d4a, d5a⟩ F5 N5
      refine wpAny_execs_nil ?_
      exact ⟨h5, tk5, _, _, rfl, F5, N5, List.forall_mem_cons.mpr ⟨n5, List.forall_mem_cons.mpr ⟨n4, List.forall_mem_cons.mpr ⟨n3, nF⟩⟩⟩, o3, c4a, c5a, _, _, _, m3, rfl, rfl, dL, d4a, d5a⟩
  · rintro m' nx h tk ⟨c3', c4', c5', v3', v4', v5', m'', rfl, rfl, d3', d4', d5'⟩ F3 N3
    (try dsimp only)
    clear F2 N2 rg
    k_steps
    exact hQ _ _ _ F3
end Mine
end
section
open PySem PySem.W PyProof.Rows PySem.Spec PySem.Calls
namespace Mine
def crL (x : List Nat) (n : Int) : List Nat := if n < (x.length : Int) then x.take (preF n).toNat ++ [46, 46, 46] ++ x.drop (x.length - (postF n).toNat) else x
theorem pre_ok (n : Int) (l : Nat) (h : n < (l : Int)) : 0 ≤ preF n ∧ (preF n).toNat ≤ l ∧ 0 ≤ postF n ∧ (postF n).toNat ≤ l := by
  have e : (n - 3).fdiv 2 = (n - 3) / 2 := Int.fdiv_eq_ediv_of_nonneg _ (by omega)
  have p0 : 0 ≤ preF n := by unfold preF; split <;> omega
  have p1 : (preF n).toNat ≤ l := by unfold preF; split <;> omega
  refine ⟨p0, p1, ?_, ?_⟩
  · unfold postF; split <;> omega
  · unfold postF; split <;> omega
theorem pre_le (n : Int) (a : Nat) : (preF n).toNat ≤ a ↔ n < 2 * (a : Int) + 5 := by
  have e : (n - 3).fdiv 2 = (n - 3) / 2 := Int.fdiv_eq_ediv_of_nonneg _ (by omega)
  unfold preF
  rw [e]
  split <;> omega
theorem post_le (n : Int) (a : Nat) : (postF n).toNat ≤ a ↔ n < 2 * (a : Int) + 4 := by
  have e : (n - 3).fdiv 2 = (n - 3) / 2 := Int.fdiv_eq_ediv_of_nonneg _ (by omega)
  unfold postF preF
  rw [e]
  split <;> split <;> omega
theorem take_lcp : ∀ (x y : List Nat) (k : Nat), k ≤ x.length → k ≤ y.length → (x.take k = y.take k ↔ k ≤ lcp x y)
  | _, _, 0, _, _ => by simp
  | [], _, k + 1, h, _ => by simp at h
  | _ :: _, [], k + 1, _, h => by simp at h
  | a :: x, b :: y, k + 1, h1, h2 => by
    have ih := take_lcp x y k (by simpa using h1) (by simpa using h2)
    simp only [List.take_succ_cons, List.cons.injEq, lcp]
    split
    · rename_i e; simp only [e, true_and, ih]; omega
    · rename_i e; simp [e]
theorem drop_lcp (x y : List Nat) (k : Nat) (h1 : k ≤ x.length) (h2 : k ≤ y.length) : (x.drop (x.length - k) = y.drop (y.length - k) ↔ k ≤ lcp x.reverse y.reverse) := by
  rw [← take_lcp x.reverse y.reverse k (by simpa using h1) (by simpa using h2), List.take_reverse, List.take_reverse, List.reverse_inj]
theorem crL_alike {x y : List Nat} (hne : x ≠ y) (dx : 46 ∉ x) (dy : 46 ∉ y) (n v : Int) (hv : IsMin4 v (2 * (lcp x y : Nat) + 5) (2 * (lcp x.reverse y.reverse : Nat) + 4) (x.length : Int) (y.length : Int)) :
    crL x n = crL y n ↔ n < v := by
  obtain ⟨v1, v2, v3, v4, v5⟩ := hv
  have hnv : n < v ↔ (n < 2 * ((lcp x y : Nat) : Int) + 5 ∧ n < 2 * ((lcp x.reverse y.reverse : Nat) : Int) + 4 ∧ n < (x.length : Int) ∧ n < (y.length : Int)) := by
    constructor
    · intro h; exact ⟨by omega, by omega, by omega, by omega⟩
    · rintro ⟨h1, h2, h3, h4⟩; rcases v5 with h | h | h | h <;> omega
  rw [hnv]
  unfold crL
  by_cases h1 : n < (x.length : Int) <;> by_cases h2 : n < (y.length : Int)
  · rw [if_pos h1, if_pos h2]
    have p := pre_ok n _ h1
    have q := pre_ok n _ h2
    have key : (x.take (preF n).toNat ++ [46, 46, 46] ++ x.drop (x.length - (postF n).toNat) = y.take (preF n).toNat ++ [46, 46, 46] ++ y.drop (y.length - (postF n).toNat)) ↔ (x.take (preF n).toNat = y.take (preF n).toNat ∧ x.drop (x.length - (postF n).toNat) = y.drop (y.length - (postF n).toNat)) := by
      constructor
      · intro e
        have z := List.append_inj e (by rw [List.length_append, List.length_append, List.length_take, List.length_take, Nat.min_eq_left p.2.1, Nat.min_eq_left q.2.1])
        exact ⟨List.append_cancel_right z.1, z.2⟩
      · rintro ⟨a, b⟩; rw [a, b]
    rw [key, take_lcp x y _ p.2.1 q.2.1, drop_lcp x y _ p.2.2.2 q.2.2.2, pre_le, post_le]
    simp [h1, h2]
  · rw [if_pos h1, if_neg h2]
    constructor
    · intro e; exact absurd (by rw [← e]; simp) dy
    · intro h; exact absurd h.2.2.2 h2
  · rw [if_neg h1, if_pos h2]
    constructor
    · intro e; exact absurd (by rw [e]; simp) dx
    · intro h; exact absurd h.2.2.1 h1
  · rw [if_neg h1, if_neg h2]
    constructor
    · intro e; exact absurd e hne
    · intro h; exact absurd h.2.2.2 h2
end Mine
end
section
open PySem PySem.W PyProof.Rows PySem.Spec PySem.Calls
namespace Mine
theorem dots : Str.ofString "..." = ⟨[46, 46, 46].toArray⟩ := by decide +kernel
theorem cramF_list (x : List Nat) (n : Int) : cramF ⟨x.toArray⟩ n = ⟨(crL x n).toArray⟩ := by
  unfold cramF crL
  have hl : (⟨x.toArray⟩ : Str).length = x.length := by simp [Str.length]
  rw [hl]
  by_cases h : n < (x.length : Int)
  · rw [if_pos h, if_pos h]
    have p := pre_ok n _ h
    have a := beq_iff_eq.mp (slice_closes_to (x := ⟨x.toArray⟩) (j := preF n) (by dsimp only; exact ⟨p.1, by omega⟩))
    have b := beq_iff_eq.mp (slice_closes_from (x := ⟨x.toArray⟩) (i := (x.length : Int) - postF n) (by dsimp only; exact ⟨by omega, by omega⟩))
    rw [a, b, dots, str_app_lists, str_app_lists]
    congr 3
    · simp
    · skip
      rw [List.take_of_length_le (by simp; omega)]
      congr 1
      omega
  · rw [if_neg h, if_neg h]
def Dotless (x : List Nat) : Prop := 46 ∉ x
theorem C64_ne (i : Int) : C64 i ≠ 46 := by
  have h : ∀ k, k < 64 → (B64L.getD k 0).toNat ≠ 46 := by decide +kernel
  unfold C64 A64
  by_cases hk : i.toNat < 64
  · exact h _ hk
  · have hl : B64L.length = 64 := by decide +kernel
    rw [List.getD_eq_getElem?_getD, List.getElem?_eq_none (by omega)]
    decide
theorem encL_dotless : ∀ x : List Int, 46 ∉ encL x
  | [] => by simp [encL]
  | [a] => by simp [encL, Ne.symm (C64_ne _)]
  | [a, b] => by simp [encL, Ne.symm (C64_ne _)]
  | a :: b :: c :: r => by
    have := encL_dotless r
    simp [encL, Ne.symm (C64_ne _), this]
theorem C64_eq (i : Int) : C64 i ≠ 61 := by
  have h : ∀ k, k < 64 → (B64L.getD k 0).toNat ≠ 61 := by decide +kernel
  unfold C64 A64
  by_cases hk : i.toNat < 64
  · exact h _ hk
  · have hl : B64L.length = 64 := by decide +kernel
    rw [List.getD_eq_getElem?_getD, List.getElem?_eq_none (by omega)]
    decide
theorem C64_inj {i j : Int} (hi : 0 ≤ i ∧ i < 64) (hj : 0 ≤ j ∧ j < 64) (h : C64 i = C64 j) : i = j := by
  have key : ∀ k, k < 64 → ∀ l, l < 64 → (B64L.getD k 0).toNat = (B64L.getD l 0).toNat → k = l := by decide +kernel
  have := key i.toNat (by omega) j.toNat (by omega) h
  omega
theorem encL_inj : ∀ {x y : List Int}, KBa.In x → KBa.In y → encL x = encL y → x = y
  | [], [], _, _, _ => rfl
  | [], [_], _, _, h => by simp [encL] at h
  | [], [_, _], _, _, h => by simp [encL] at h
  | [], _ :: _ :: _ :: _, _, _, h => by simp [encL] at h
  | [_], [], _, _, h => by simp [encL] at h
  | [_, _], [], _, _, h => by simp [encL] at h
  | _ :: _ :: _ :: _, [], _, _, h => by simp [encL] at h
  | [a], [a'], hx, hy, h => by
    have h1 := hx a (by simp); have h2 := hy a' (by simp)
    simp only [encL, List.cons.injEq, and_true] at h
    have e1 := C64_inj (by omega) (by omega) h.1
    have e2 := C64_inj (by omega) (by omega) h.2
    have : a = a' := by omega
    rw [this]
  | [_], [_, _], _, _, h => by
    simp only [encL, List.cons.injEq, and_true] at h
    exact absurd h.2.2.symm (C64_eq _)
  | [_, _], [_], _, _, h => by
    simp only [encL, List.cons.injEq, and_true] at h
    exact absurd h.2.2 (C64_eq _)
  | [_], _ :: _ :: _ :: _, _, _, h => by
    simp only [encL, List.cons_append, List.nil_append, List.cons.injEq] at h
    exact absurd h.2.2.1.symm (C64_eq _)
  | _ :: _ :: _ :: _, [_], _, _, h => by
    simp only [encL, List.cons_append, List.nil_append, List.cons.injEq] at h
    exact absurd h.2.2.1 (C64_eq _)
  | [_, _], _ :: _ :: _ :: _, _, _, h => by
    simp only [encL, List.cons_append, List.nil_append, List.cons.injEq] at h
    exact absurd h.2.2.2.1.symm (C64_eq _)
  | _ :: _ :: _ :: _, [_, _], _, _, h => by
    simp only [encL, List.cons_append, List.nil_append, List.cons.injEq] at h
    exact absurd h.2.2.2.1 (C64_eq _)
  | [a, b], [a', b'], hx, hy, h => by
    have h1 := hx a (by simp); have h2 := hy a' (by simp)
    have h3 := hx b (by simp); have h4 := hy b' (by simp)
    simp only [encL, List.cons.injEq, and_true] at h
    have e1 := C64_inj (by omega) (by omega) h.1
    have e2 := C64_inj (by omega) (by omega) h.2.1
    have e3 := C64_inj (by omega) (by omega) h.2.2
    have : a = a' := by omega
    have : b = b' := by omega
    simp [*]
  | a :: b :: c :: r, a' :: b' :: c' :: r', hx, hy, h => by
    have h1 := hx a (by simp); have h2 := hy a' (by simp)
    have h3 := hx b (by simp); have h4 := hy b' (by simp)
    have h5 := hx c (by simp); have h6 := hy c' (by simp)
    simp only [encL, List.cons_append, List.nil_append, List.cons.injEq] at h
    have e1 := C64_inj (by omega) (by omega) h.1
    have e2 := C64_inj (by omega) (by omega) h.2.1
    have e3 := C64_inj (by omega) (by omega) h.2.2.1
    have e4 := C64_inj (by omega) (by omega) h.2.2.2.1
    have q1 : a = a' := by omega
    have q2 : b = b' := by omega
    have q3 : c = c' := by omega
    have q4 := encL_inj (x := r) (y := r') (fun n hn => hx n (by simp [hn])) (fun n hn => hy n (by simp [hn])) h.2.2.2.2
    rw [q1, q2, q3, q4]
theorem plain_signs {x y : List Int} (hx : KBa.In x) (hy : KBa.In y) (hne : x ≠ y) (v : Int) (hv : IsMin4 v (2 * aheadF (signsF x) (signsF y) + 5) (2 * behindF (signsF x) (signsF y) + 4) ((signsF x).length : Int) ((signsF y).length : Int)) (n : Int) :
    (cramF (signsF x) n == cramF (signsF y) n) = decide (n < v) := by
  have k := crL_alike (x := encL x) (y := encL y) (fun e => hne (encL_inj hx hy e)) (encL_dotless x) (encL_dotless y) n v (by simpa [aheadF, behindF, signsF, Str.length] using hv)
  unfold signsF
  rw [cramF_list, cramF_list]
  by_cases h : n < v
  · rw [k.mpr h]; simp [h]
  · have : crL (encL x) n ≠ crL (encL y) n := fun e => h (k.mp e)
    simp [h, this]
end Mine
end
section
open PySem PySem.W PyProof.Rows PySem.Spec PySem.Calls PyProof.Rows.LCg
namespace Mine
theorem six {rowL : Nat → List Int} {ys : List Value} (h : ys.length = 6) (hy : ∀ (i : Nat) (y : Value), ys[i]? = some y → ∃ t, y = .str (signsF (rowL i)) t) :
    ∃ t0 t1 t2 t3 t4 t5, ys = [.str (signsF (rowL 0)) t0, .str (signsF (rowL 1)) t1, .str (signsF (rowL 2)) t2, .str (signsF (rowL 3)) t3, .str (signsF (rowL 4)) t4, .str (signsF (rowL 5)) t5] := by
  match ys, h with
  | [a, b, c, d, e, f], _ =>
    obtain ⟨t0, rfl⟩ := hy 0 a rfl
    obtain ⟨t1, rfl⟩ := hy 1 b rfl
    obtain ⟨t2, rfl⟩ := hy 2 c rfl
    obtain ⟨t3, rfl⟩ := hy 3 d rfl
    obtain ⟨t4, rfl⟩ := hy 4 e rfl
    obtain ⟨t5, rfl⟩ := hy 5 f rfl
    exact ⟨t0, t1, t2, t3, t4, t5, rfl⟩
theorem getD_six (f : Nat → Str) : ∀ j, j < 6 → [f 0, f 1, f 2, f 3, f 4, f 5].getD j (f 0) = f j
  | 0, _ => rfl
  | 1, _ => rfl
  | 2, _ => rfl
  | 3, _ => rfl
  | 4, _ => rfl
  | 5, _ => rfl
  | _ + 6, h => by omega
theorem stageAll (w : World) (mean : ExcName → Option Value) (mg mb : Str → Option Value) (dp un : Nat) (gd : Option (List Code)) (fa : Addr) (ccd : Value) (outer : List Env) (A₀ : Around) (base h₀ : Heap) (L R : Addr) (m : Str → Option Value) (s : Shared) (Q : Flow → Shared → Prop) (E : Value → Shared → Prop)
    (rs : List Value) (news : List (Addr × Obj)) (rowL : Nat → List Int) (c1 c2 c3 c4 c5 : Obj) (v1 v2 v3 v4 v5 : Option Value)
    (B : Below A₀ base outer h₀) (F : Fr h₀ L s.heap (fun y => if y = Str.ofString "rows" then some (.ref R) else m y)) (X : (hd.heap_39 w.params).In h₀) (T : Top hd.view_39 (looseW hd.view_39 [Str.ofString "b2a_base64", Str.ofString "b64encode"]) mean mg mb h₀)
    (N : News h₀ L s.heap ((R, W.listOf rs.toArray 0) :: news)) (hdp : dp + 20 < recursionLimit) (hun : un + 400 < cLine) (hlen : rs.length = 6)
    (hrows : ∀ i v, rs[i]? = some v → RowAt news v (rowL i))
    (n1 : (L + 1, c1) ∈ news) (n2 : (L + 1 + 1, c2) ∈ news) (n3 : (L + 1 + 1 + 1, c3) ∈ news) (n4 : (L + 1 + 1 + 1 + 1, c4) ∈ news) (n5 : (L + 1 + 1 + 1 + 1 + 1, c5) ∈ news)
    (d1 : c1.data = .cell v1) (d2 : c2.data = .cell v2) (d3 : c3.data = .cell v3) (d4 : c4.data = .cell v4) (d5 : c5.data = .cell v5)
    (hoct : ∀ i, i < 6 → KBa.In (rowL i)) (hl20 : ∀ i, i < 6 → (rowL i).length ≤ 20) (hdist : ∀ j i, j < i → i < 6 → rowL j ≠ rowL i)
    (hQ : ∀ h tk m', Fr h₀ L h m' → Q (.ret (.bool true)) { s with heap := h, toks := tk }) :
    wpAny (model PySem.Challenge.rw_mr0015_01.row.prog w) (ktrTop dp un gd (Str.ofString "law") lawScope L fa ccd (cellsFrom (L + 1) lawScope.names []) outer) (execs (lawBody.drop 4) (envOfC (Str.ofString "law") lawScope L fa ccd)) Q E s := by
  refine stageA w mean mg mb dp un gd fa ccd outer A₀ base h₀ L R m s Q E rs news rowL B F X T N hdp hun hlen hrows ?_
  intro D ys m' h tk F1 N1 off hyl hys
  obtain ⟨t0, t1, t2, t3, t4, t5, rfl⟩ := six hyl hys
  have hTl : ∀ j, j < 6 → (signsF (rowL j)).length ≤ 100 := fun j hj => Nat.le_trans (signsF_len _) (by have := hl20 j hj; omega)
  have N2 : News h₀ L h [(D, PySem.W.listOf #[.str (signsF (rowL 0)) t0, .str (signsF (rowL 1)) t1, .str (signsF (rowL 2)) t2, .str (signsF (rowL 3)) t3, .str (signsF (rowL 4)) t4, .str (signsF (rowL 5)) t5] 6), (L + 1 + 1 + 1 + 1 + 1, c5), (L + 1 + 1 + 1 + 1, c4), (L + 1 + 1 + 1, c3), (L + 1 + 1, c2), (L + 1, c1)] := by
    intro p hp
    refine N1 p ?_
    rcases List.mem_cons.mp hp with rfl | hp
    · exact .head _
    refine .tail _ (.tail _ ?_)
    rcases List.mem_cons.mp hp with rfl | hp
    · exact n5
    rcases List.mem_cons.mp hp with rfl | hp
    · exact n4
    rcases List.mem_cons.mp hp with rfl | hp
    · exact n3
    rcases List.mem_cons.mp hp with rfl | hp
    · exact n2
    rcases List.mem_cons.mp hp with rfl | hp
    · exact n1
    · exact nomatch hp
  refine stageB w mean mg mb dp un gd fa ccd outer A₀ base h₀ L D m' _ Q E (signsF (rowL 0)) (signsF (rowL 1)) (signsF (rowL 2)) (signsF (rowL 3)) (signsF (rowL 4)) (signsF (rowL 5)) t0 t1 t2 t3 t4 t5 c1 c2 c3 c4 c5 v1 v2 B F1 X T N2 hdp hun d1 d2 (Ne.symm (off _ (.tail _ n1))) (Ne.symm (off _ (.tail _ n2))) (Ne.symm (off _ (.tail _ n3))) (Ne.symm (off _ (.tail _ n4))) (Ne.symm (off _ (.tail _ n5))) ?_ ?_
  · intro U hU
    simp only [List.mem_cons, List.not_mem_nil, or_false] at hU
    rcases hU with rfl | rfl | rfl | rfl | rfl | rfl
    · exact hTl 0 (by omega)
    · exact hTl 1 (by omega)
    · exact hTl 2 (by omega)
    · exact hTl 3 (by omega)
    · exact hTl 4 (by omega)
    · exact hTl 5 (by omega)
  intro h2 tk2 Wd Cr ws cr cw o1 o2 Fx F3 N3 hFx mW hW mC hcl hcr mD m1 d1' m2 d2'
  refine stageC w mean mg mb dp un gd fa ccd outer A₀ base h₀ L D Wd Cr m' _ Q E (fun j => signsF (rowL j)) [.str (signsF (rowL 0)) t0, .str (signsF (rowL 1)) t1, .str (signsF (rowL 2)) t2, .str (signsF (rowL 3)) t3, .str (signsF (rowL 4)) t4, .str (signsF (rowL 5)) t5] ws cr c3 c4 c5 o1 o2 v3 v4 v5 6 cw _ Fx B F3 X T N3 hdp hun d3 d4 d5 (fun p hp => (hFx p hp).1) (fun p hp => (hFx p hp).2.1) (fun p hp => (hFx p hp).2.2) mW hW mC ?_ mD ?_ hTl m1 d1' m2 d2' ?_ ?_ ?_
  · intro j hj
    obtain ⟨a, o, e, ma, hc⟩ := hcr j (cr[j]'(by omega)) (List.getElem?_eq_getElem (by omega))
    refine ⟨a, o, ?_, ma, ?_⟩
    · rw [List.getElem?_eq_getElem (by omega), e]
    · rw [getD_six (fun j => signsF (rowL j)) j hj] at hc; exact hc
  · intro j hj
    match j, hj with
    | 0, _ => exact ⟨_, rfl⟩
    | 1, _ => exact ⟨_, rfl⟩
    | 2, _ => exact ⟨_, rfl⟩
    | 3, _ => exact ⟨_, rfl⟩
    | 4, _ => exact ⟨_, rfl⟩
    | 5, _ => exact ⟨_, rfl⟩
  · intro j i hj hi v hv k _
    exact plain_signs (hoct j (by omega)) (hoct i hi) (hdist j i hj hi) v hv k
  · rw [rangeKs_length]
    have := hTl 0 (by omega)
    omega
  · intro h3 tk3 m3 F4
    exact hQ h3 tk3 m3 F4
end Mine
end
section
open PySem PySem.W PyProof.Rows PySem.Spec PySem.Calls PyProof.Rows.LCg
namespace Mine
def numsF (ss : List Int) : List Int := List.take 3 ss ++ [154, 2721, 18, 194] ++ List.take (min 6 ss.length - 3) (List.drop 3 ss)
def firstF (k' : Int) : Int := (k'.fdiv 2).fmod 256
def secondF (k' : Int) : Int := if k'.fmod 2 = 1 then (k'.fdiv 512).fmod 256 else (k'.fdiv 2).fmod 256
def rowF (ss : List Int) : Nat → List Int
  | 0 => (numsF ss).map firstF
  | 1 => (numsF ss).map secondF
  | 2 => List.take (((numsF ss).map secondF).length - 1) ((numsF ss).map secondF)
  | 3 => List.take (((numsF ss).map firstF).length - 2) ((numsF ss).map firstF)
  | 4 => List.drop 3 ((numsF ss).map secondF)
  | _ => []
theorem nums_len (ss : List Int) : 4 ≤ (numsF ss).length ∧ (numsF ss).length ≤ 10 := by
  unfold numsF
  simp only [List.length_append, List.length_take, List.length_drop, List.length_cons, List.length_nil]
  omega
theorem fmod_oct (a : Int) : 0 ≤ a.fmod 256 ∧ a.fmod 256 < 256 := by
  rw [Int.fmod_eq_emod_of_nonneg _ (by decide)]
  omega
theorem oct_first (l : List Int) : KBa.In (l.map firstF) := by
  intro n hn
  obtain ⟨k, _, rfl⟩ := List.mem_map.mp hn
  exact fmod_oct _
theorem oct_second (l : List Int) : KBa.In (l.map secondF) := by
  intro n hn
  obtain ⟨k, _, rfl⟩ := List.mem_map.mp hn
  unfold secondF
  split <;> exact fmod_oct _
theorem row_oct (ss : List Int) : ∀ i, i < 6 → KBa.In (rowF ss i)
  | 0, _ => oct_first _
  | 1, _ => oct_second _
  | 2, _ => fun n hn => oct_second (numsF ss) n (List.mem_of_mem_take hn)
  | 3, _ => fun n hn => oct_first (numsF ss) n (List.mem_of_mem_take hn)
  | 4, _ => fun n hn => oct_second (numsF ss) n (List.mem_of_mem_drop hn)
  | 5, _ => fun _ hn => nomatch hn
  | _ + 6, h => by omega
def lenF (n : Nat) : Nat → Nat
  | 0 => n
  | 1 => n
  | 2 => n - 1
  | 3 => n - 2
  | 4 => n - 3
  | _ => 0
theorem row_len (ss : List Int) : ∀ i, i < 6 → (rowF ss i).length = lenF (numsF ss).length i
  | 0, _ => by simp [rowF, lenF]
  | 1, _ => by simp [rowF, lenF]
  | 2, _ => by simp [rowF, lenF]
  | 3, _ => by simp [rowF, lenF]
  | 4, _ => by simp [rowF, lenF]
  | 5, _ => by simp [rowF, lenF]
  | _ + 6, h => by omega
theorem lenF_le (n : Nat) : ∀ i, lenF n i ≤ n
  | 0 => Nat.le_refl _
  | 1 => Nat.le_refl _
  | 2 => Nat.sub_le _ _
  | 3 => Nat.sub_le _ _
  | 4 => Nat.sub_le _ _
  | _ + 5 => Nat.zero_le _
theorem row_short (ss : List Int) (i : Nat) (h : i < 6) : (rowF ss i).length ≤ 20 := by
  rw [row_len ss i h]
  have := lenF_le (numsF ss).length i
  have := (nums_len ss).2
  omega
theorem lenF_lt (n : Nat) (hn : 4 ≤ n) : ∀ j i, j < i → i < 6 → i ≠ 1 → lenF n i < lenF n j := by
  intro j i hj hi h1
  match i, j, hj, hi, h1 with
  | 2, 0, _, _, _ => simp only [lenF]; omega
  | 2, 1, _, _, _ => simp only [lenF]; omega
  | 3, 0, _, _, _ => simp only [lenF]; omega
  | 3, 1, _, _, _ => simp only [lenF]; omega
  | 3, 2, _, _, _ => simp only [lenF]; omega
  | 4, 0, _, _, _ => simp only [lenF]; omega
  | 4, 1, _, _, _ => simp only [lenF]; omega
  | 4, 2, _, _, _ => simp only [lenF]; omega
  | 4, 3, _, _, _ => simp only [lenF]; omega
  | 5, 0, _, _, _ => simp only [lenF]; omega
  | 5, 1, _, _, _ => simp only [lenF]; omega
  | 5, 2, _, _, _ => simp only [lenF]; omega
  | 5, 3, _, _, _ => simp only [lenF]; omega
  | 5, 4, _, _, _ => simp only [lenF]; omega
theorem row_ne (ss : List Int) (j i : Nat) (hj : j < i) (hi : i < 6) : rowF ss j ≠ rowF ss i := by
  intro e
  by_cases h1 : i = 1
  · subst h1
    have h0 : j = 0 := by omega
    subst h0
    have hm : (2721 : Int) ∈ numsF ss := by unfold numsF; simp
    have h2 : firstF 2721 = secondF 2721 := List.map_inj_left.mp (show List.map firstF (numsF ss) = List.map secondF (numsF ss) from e) _ hm
    exact absurd h2 (by decide)
  · have := congrArg List.length e
    rw [row_len ss j (by omega), row_len ss i hi] at this
    have := lenF_lt (numsF ss).length (nums_len ss).1 j i hj hi h1
    omega
set_option maxRecDepth 100000 in
set_option maxHeartbeats 4000000 in
theorem stageMain (w : World) (mean : ExcName → Option Value) (mg mb : Str → Option Value) (dp un : Nat) (gd : Option (List Code)) (fa : Addr) (ccd : Value) (outer : List Env) (A₀ : Around) (base h₀ : Heap) (L R : Addr) (m : Str → Option Value) (s : Shared) (Q : Flow → Shared → Prop) (E : Value → Shared → Prop)
    (ss : List Int) (a0 a1 a2 a3 a4 a5 : Addr) (w0 w1 w2 w3 w4 : List Value) (x1 x2 x3 x4 x5 : Addr × Obj) (c1 c2 c3 c4 c5 : Obj) (v1 v2 v3 v4 v5 : Option Value)
    (i0 : IntsAre w0 (rowF ss 0)) (i1 : IntsAre w1 (rowF ss 1)) (i2 : IntsAre w2 (rowF ss 2)) (i3 : IntsAre w3 (rowF ss 3)) (i4 : IntsAre w4 (rowF ss 4))
    (B : Below A₀ base outer h₀) (F : Fr h₀ L s.heap (fun y => if y = Str.ofString "rows" then some (.ref R) else m y)) (X : (hd.heap_39 w.params).In h₀) (T : Top hd.view_39 (looseW hd.view_39 [Str.ofString "b2a_base64", Str.ofString "b64encode"]) mean mg mb h₀)
    (N : News h₀ L s.heap [(R, W.listOf #[.ref a0, .ref a1, .ref a2, .ref a3, .ref a4, .ref a5] 0), (a5, W.listOf #[] 0), (a4, W.listOf w4.toArray 0), (a3, W.listOf w3.toArray 0), (a2, W.listOf w2.toArray 0), (a1, LCg.lst w1), (a0, LCg.lst w0), x1, x2, x3, x4, x5, (L + 1 + 1 + 1 + 1 + 1, c5), (L + 1 + 1 + 1 + 1, c4), (L + 1 + 1 + 1, c3), (L + 1 + 1, c2), (L + 1, c1)])
    (d5 : c5.data = .cell v5) (d4 : c4.data = .cell v4) (d3 : c3.data = .cell v3) (d2 : c2.data = .cell v2) (d1 : c1.data = .cell v1)
    (hdp : dp + 20 < recursionLimit) (hun : un + 400 < cLine)
    (hQ : ∀ h tk m', Fr h₀ L h m' → Q (.ret (.bool true)) { s with heap := h, toks := tk }) :
    wpAny (model PySem.Challenge.rw_mr0015_01.row.prog w) (ktrTop dp un gd (Str.ofString "law") lawScope L fa ccd (cellsFrom (L + 1) lawScope.names []) outer) (execs (lawBody.drop 4) (envOfC (Str.ofString "law") lawScope L fa ccd)) Q E s := by
  refine stageAll w mean mg mb dp un gd fa ccd outer A₀ base h₀ L R m s Q E [.ref a0, .ref a1, .ref a2, .ref a3, .ref a4, .ref a5] _ (rowF ss) c1 c2 c3 c4 c5 v1 v2 v3 v4 v5 B F X T N hdp hun rfl ?_ (by simp) (by simp) (by simp) (by simp) (by simp) d1 d2 d3 d4 d5 (row_oct ss) (row_short ss) (row_ne ss) hQ
  intro i v hv
  match i, hv with
  | 0, hv => cases hv; exact ⟨a0, w0, _, rfl, by simp only [List.mem_cons]; exact .inr (.inr (.inr (.inr (.inr (.inl rfl))))), i0, row_oct ss 0 (by omega), row_short ss 0 (by omega)⟩
  | 1, hv => cases hv; exact ⟨a1, w1, _, rfl, by simp only [List.mem_cons]; exact .inr (.inr (.inr (.inr (.inl rfl)))), i1, row_oct ss 1 (by omega), row_short ss 1 (by omega)⟩
  | 2, hv => cases hv; exact ⟨a2, w2, _, rfl, by simp only [List.mem_cons]; exact .inr (.inr (.inr (.inl rfl))), i2, row_oct ss 2 (by omega), row_short ss 2 (by omega)⟩
  | 3, hv => cases hv; exact ⟨a3, w3, _, rfl, by simp only [List.mem_cons]; exact .inr (.inr (.inl rfl)), i3, row_oct ss 3 (by omega), row_short ss 3 (by omega)⟩
  | 4, hv => cases hv; exact ⟨a4, w4, _, rfl, by simp only [List.mem_cons]; exact .inr (.inl rfl), i4, row_oct ss 4 (by omega), row_short ss 4 (by omega)⟩
  | 5, hv => cases hv; exact ⟨a5, [], _, rfl, by simp only [List.mem_cons]; exact .inl rfl, .nil, row_oct ss 5 (by omega), row_short ss 5 (by omega)⟩
  | _ + 6, hv => exact nomatch hv
end Mine
end
section
open PySem PySem.W PyProof.Rows PySem.Spec PySem.Calls
set_option maxRecDepth 100000 in
set_option maxHeartbeats 8000000 in
theorem PySem.Challenge.cw_mr0015_01_holds : PySem.Challenge.rw_mr0015_01.Holds := by
  refine Mine.hd ?_
  k_go0
  (all_goals try k_fold)
  repeat' ((fail_if_success (with_reducible show wpAny _ _ (execs (Stmt.Assign [Expr.Name (PySem.Str.ofString "texts") _] _ _ :: _) _) _ _ _)); (first | (k_unfold; (try dsimp only)) | (k_end; wrow_close) | walk1 | (dsimp only; walk1) | (leave1; walk_say "STEP leave1"; try dsimp only)))
  rename Fr _ _ _ _ => F1
  rename News _ _ _ _ => N1
  rename Below _ _ _ _ => B1
  rename Frag.In _ _ => X1
  rename Top _ _ _ _ _ _ => T1
  refine Mine.stageMain _ _ _ _ _ _ _ _ _ _ _ _ _ _ _ _ _ _ _ ?ss _ _ _ _ _ _ _ _ _ _ _ _ _ _ _ _ _ _ _ _ _ ?v1 ?v2 ?v3 ?v4 ?v5 ?i0 ?i1 ?i2 ?i3 ?i4 B1 F1 X1 T1 N1 ?d5 ?d4 ?d3 ?d2 ?d1 ?hdp ?hun ?hQ
  case i0 => assumption
  case i1 => assumption
  case i2 => assumption
  case i3 => assumption
  case i4 => assumption
  case d5 => assumption
  case d4 => assumption
  case d3 => assumption
  case d2 => assumption
  case d1 => assumption
  case hdp => ktr_room
  case hun => ktr_units
  intro h9 tk9 m9 F9
  clear F1 N1
  k_end
  wrow_close
end
