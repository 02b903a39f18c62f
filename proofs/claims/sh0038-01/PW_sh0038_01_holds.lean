import PyProof.Rows.All
import Wide.All
import OpenK.AllK
import Wide.FinOn
import KE.IntBitsLaws
import KE.KRevIter
import Lean
import PySem.Challenge.RW_sh0038_01
set_option Elab.async false
set_option compiler.extract_closed false
set_option linter.all false
section
open PySem PySem.W PyProof.Rows
set_option maxRecDepth 100000
set_option maxHeartbeats 8000000
namespace Mine
open_top hd for PySem.Challenge.rw_sh0038_01

end Mine
end
section
open PySem PySem.W PyProof.Rows
namespace Mine
theorem cj1 {q r : Prop} (h : q ∧ r) : q := h.1
theorem cj2 {a q r : Prop} (h : a ∧ q ∧ r) : q := h.2.1
theorem cj3 {a b q r : Prop} (h : a ∧ b ∧ q ∧ r) : q := h.2.2.1
theorem cj4 {a b c q r : Prop} (h : a ∧ b ∧ c ∧ q ∧ r) : q := h.2.2.2.1
theorem cj5 {a b c d q r : Prop} (h : a ∧ b ∧ c ∧ d ∧ q ∧ r) : q := h.2.2.2.2.1
theorem cj6 {a b c d e q r : Prop} (h : a ∧ b ∧ c ∧ d ∧ e ∧ q ∧ r) : q := h.2.2.2.2.2.1
theorem cj7 {a b c d e f q r : Prop} (h : a ∧ b ∧ c ∧ d ∧ e ∧ f ∧ q ∧ r) : q := h.2.2.2.2.2.2.1
theorem cj8 {a b c d e f g q r : Prop} (h : a ∧ b ∧ c ∧ d ∧ e ∧ f ∧ g ∧ q ∧ r) : q := h.2.2.2.2.2.2.2.1
theorem cj9 {a b c d e f g i q r : Prop} (h : a ∧ b ∧ c ∧ d ∧ e ∧ f ∧ g ∧ i ∧ q ∧ r) : q := h.2.2.2.2.2.2.2.2.1
theorem cj10 {a b c d e f g i j q r : Prop} (h : a ∧ b ∧ c ∧ d ∧ e ∧ f ∧ g ∧ i ∧ j ∧ q ∧ r) : q := h.2.2.2.2.2.2.2.2.2.1
theorem cj11 {a b c d e f g i j k q r : Prop} (h : a ∧ b ∧ c ∧ d ∧ e ∧ f ∧ g ∧ i ∧ j ∧ k ∧ q ∧ r) : q := h.2.2.2.2.2.2.2.2.2.2.1
theorem om_ne {s k l : Nat} (h : Nat.beq k l = false) : s + k ≠ s + l := fun e => Nat.ne_of_beq_eq_false h (Nat.add_left_cancel e)
theorem om_lim0 {a k r : Nat} (h : a + k < r) : a < r := Nat.lt_of_le_of_lt (Nat.le_add_right _ _) h
theorem om_lim1 {a k l r : Nat} (h : a + k < r) (e : Nat.ble l k = true) : a + l < r := Nat.lt_of_le_of_lt (Nat.add_le_add_left (Nat.le_of_ble_eq_true e) _) h
theorem om_lim2 {a k j l r : Nat} (h : a + k < r) (e : Nat.ble (j + l) k = true) : a + j + l < r := by rw [Nat.add_assoc]; exact om_lim1 h e
theorem om_lecap {a k l : Nat} (h : a ≤ k) (e : Nat.ble k l = true) : a ≤ l := Nat.le_trans h (Nat.le_of_ble_eq_true e)
theorem om_up {a b k : Nat} (h : a < b) : a < b + k := Nat.lt_of_lt_of_le h (Nat.le_add_right _ _)
theorem om_int0 {n : Nat} : (0 : Int) ≤ (n : Int) := Int.natCast_nonneg n
theorem om_le1 {a b : Nat} (h : a + 1 ≤ b + 1) : a ≤ b := Nat.le_of_succ_le_succ h
end Mine
namespace Mine
end Mine
namespace Mine
theorem cl6 {a b c d e q : Prop} (h : a ∧ b ∧ c ∧ d ∧ e ∧ q) : q := h.2.2.2.2.2
theorem om_s2 {s : Nat} : s < s + 1 + 1 := Nat.lt_succ_of_lt (Nat.lt_succ_self s)
theorem om_s3 {s : Nat} : s < s + 1 + 1 + 1 := Nat.lt_succ_of_lt om_s2
theorem om_u2 {a s : Nat} (h : a < s) : a < s + 1 + 1 := Nat.lt_succ_of_lt (Nat.lt_succ_of_lt h)
theorem om_u3 {a s : Nat} (h : a < s) : a < s + 1 + 1 + 1 := Nat.lt_succ_of_lt (om_u2 h)
theorem om_d1 {a s : Nat} (h : s + 1 < a) : s < a := Nat.lt_of_succ_lt h
theorem om_ne0 {s k : Nat} (h : Nat.beq k 0 = false) : s + k ≠ s := fun e => Nat.ne_of_beq_eq_false h (Nat.add_left_cancel (e.trans (Nat.add_zero s).symm))
theorem om_lim4 {a b r : Nat} (h : a + (b + 1) < r) : a + 1 + b < r := by rw [Nat.add_right_comm]; exact h
theorem om_lim5 {a b r : Nat} (h : a + 10 * (b + 1) < r) : a + 3 + 10 * b < r := by omega
theorem om_cap {a k l : Nat} (h : a < k) (e : Nat.ble k l = true) : a ≤ l := Nat.le_of_lt (Nat.lt_of_lt_of_le h (Nat.le_of_ble_eq_true e))
theorem om_cap2 {a j k l : Nat} (h : a < k) (e : Nat.ble (j + k) l = true) : j + a ≤ l := Nat.le_trans (Nat.add_le_add_left (Nat.le_of_lt h) _) (Nat.le_of_ble_eq_true e)
theorem om_turn {n i : Nat} (h : i < n) : n - (i + 1) < n - i := by omega
theorem om_turn1 {n i : Nat} (h : i < n) : n + 1 - (i + 1) < n + 1 - i := by omega
theorem om_i2 {a b : Nat} (h : a = b) : (a : Int) ≤ (b : Int) := Int.ofNat_le.mpr (Nat.le_of_eq h)
theorem eps_ex {α : Type} (i : Nonempty α) (P : α → Prop) : Nonempty {t : α // P t → ∀ t, P t} := (Classical.em (∀ t, P t)).elim (fun h => i.elim fun t => ⟨⟨t, fun _ => h⟩⟩) fun h => (Classical.not_forall.mp h).elim fun t ht => ⟨⟨t, fun k => absurd k ht⟩⟩
end Mine
end
set_option hygiene false in
local macro_rules | `(tactic| walk_at "MY cj") => `(tactic| first | assumption | exact Mine.cj1 (by assumption) | exact Mine.cj2 (by assumption) | exact Mine.cj3 (by assumption) | exact Mine.cj4 (by assumption) | exact Mine.cj5 (by assumption) | exact Mine.cj6 (by assumption) | exact Mine.cl6 (by assumption) | exact Mine.cj7 (by assumption) | exact Mine.cj8 (by assumption) | exact Mine.cj9 (by assumption) | exact Mine.cj10 (by assumption) | exact Mine.cj11 (by assumption) | fail)
set_option hygiene false in
local macro_rules | `(tactic| walk_at "MY tr") => `(tactic| first | walk_at "MY cj" | (refine Nat.lt_trans (by assumption) ?_; walk_at "MY tr") | fail)
set_option hygiene false in
local macro_rules | `(tactic| walk_at "MY rt") => `(tactic| first | assumption | (refine Nat.lt_trans ?_ (by assumption); walk_at "MY rt") | fail)
set_option hygiene false in
local macro_rules | `(tactic| walk_at "MY up") => `(tactic| first | exact Nat.lt_add_one _ | exact Mine.om_s2 | exact Mine.om_s3 | exact Mine.om_u3 (by assumption) | exact Mine.om_u2 (by assumption) | exact Mine.om_up (by assumption) | walk_at "MY cj" | (refine Mine.om_u3 ?_; walk_at "MY cj") | (refine Mine.om_u2 ?_; walk_at "MY cj") | (refine Mine.om_up ?_; walk_at "MY cj") | (refine Mine.om_d1 ?_; walk_at "MY cj") | fail)
set_option hygiene false in
local macro_rules | `(tactic| walk_at "MY nq") => `(tactic| first | exact Mine.om_ne rfl | exact Mine.om_ne0 rfl | exact Ne.symm (Mine.om_ne0 rfl) | exact Ne.symm (by assumption) | exact Nat.ne_of_lt (by assumption) | exact Nat.ne_of_gt (by assumption) | (refine Nat.ne_of_lt ?_; walk_at "MY up") | (refine Nat.ne_of_gt ?_; walk_at "MY up") | (refine Nat.ne_of_lt ?_; walk_at "MY tr") | (refine Nat.ne_of_gt ?_; walk_at "MY tr") | (refine Nat.ne_of_lt ?_; walk_at "MY rt") | (refine Nat.ne_of_gt ?_; walk_at "MY rt") | fail)
set_option hygiene false in
local macro_rules | `(tactic| walk_at "MY ls") => `(tactic| first | exact Mine.om_lim0 (by assumption) | exact Mine.om_lim1 (by assumption) rfl | exact Mine.om_lim2 (by assumption) rfl | exact Mine.om_lim4 (by assumption) | exact Mine.om_lim5 (by assumption) | exact Mine.om_turn (by assumption) | exact Mine.om_turn1 (by assumption) | walk_at "MY up" | walk_at "MY tr" | walk_at "MY rt" | fail)
set_option hygiene false in
local macro_rules | `(tactic| walk_at "MY le") => `(tactic| first | exact Nat.zero_le _ | exact Nat.le_refl _ | exact Nat.le_add_right _ _ | exact Int.le_refl _ | exact Mine.om_int0 | exact Nat.le_of_lt Mine.om_s2 | exact Nat.le_of_lt Mine.om_s3 | exact Nat.le_of_lt (by assumption) | exact Mine.om_le1 (by assumption) | exact Nat.succ_le_of_lt (by assumption) | exact Nat.le_of_succ_le (by assumption) | exact Mine.om_lecap (by assumption) rfl | exact Mine.om_cap (by assumption) rfl | exact Mine.om_cap2 (by assumption) rfl | exact Mine.om_i2 (by assumption) | (refine Nat.le_of_lt ?_; walk_at "MY up") | fail)
set_option hygiene false in
local macro_rules | `(tactic| walk_at "MY om") => `(tactic| with_reducible first | assumption | (refine PySem.W.neN ?_; walk_at "MY nq") | (refine PySem.W.ltN ?_; walk_at "MY ls") | (show (_ ≤ _); walk_at "MY le") | fail)
set_option hygiene false in
local macro_rules | `(tactic| omega) => `(tactic| lia)
section
open PySem PySem.W PyProof.Rows
set_option maxRecDepth 100000
set_option maxHeartbeats 4000000
namespace Mine
open Builtin Builtin.Str Builtin.Int

noncomputable def find4 (x y : Str) (i j : Int) : Int := match occurrences x y (fromIndex x.length i) (min (fromIndex x.length j) x.length) 1 with | k :: _ => (k : Int) | [] => -1
noncomputable def rfind4 (x y : Str) (i j : Int) : Int := match lastOccurrence x y (fromIndex x.length i) (min (fromIndex x.length j) x.length) with | some k => (k : Int) | none => -1
theorem gives_find4 (x y : Str) (i j : Int) (t u v v2 : Tok) : Gives («str.find» ⟨[.str x t, .str y u, .int i v, .int j v2], []⟩) (.int (find4 x y i j)) := by
  show Gives (match occurrences x y (fromIndex x.length i) (min (fromIndex x.length j) x.length) 1 with | k :: _ => retInt k | [] => (do rule "str.find.not-found"; retInt (-1))) _
  unfold find4
  cases occurrences x y (fromIndex x.length i) (min (fromIndex x.length j) x.length) 1 with
  | nil => exact .rule (.of_eq rfl)
  | cons k _ => exact .of_eq rfl
theorem gives_rfind4 (x y : Str) (i j : Int) (t u v v2 : Tok) : Gives («str.rfind» ⟨[.str x t, .str y u, .int i v, .int j v2], []⟩) (.int (rfind4 x y i j)) := by
  show Gives (match lastOccurrence x y (fromIndex x.length i) (min (fromIndex x.length j) x.length) with | some k => retInt k | none => (do rule "str.rfind.not-found"; retInt (-1))) _
  unfold rfind4
  cases lastOccurrence x y (fromIndex x.length i) (min (fromIndex x.length j) x.length) with
  | none => exact .rule (.of_eq rfl)
  | some k => exact .of_eq rfl
theorem args_find4 (a b c d : Value) : argsOk "str.find" ⟨[a, b, c, d], []⟩ := by unfold argsOk; kernel_rfl
theorem args_rfind4 (a b c d : Value) : argsOk "str.rfind" ⟨[a, b, c, d], []⟩ := by unfold argsOk; kernel_rfl
section
variable {prog : Program} {w : World} {A : Around} {E : Value → Shared → Prop} {s : Shared} {x y : Str} {t u v v2 : Tok} {i j : Int} {Q : Value → Shared → Prop}
theorem call_find4 (h : Q (.int (find4 x y i j) s.toks) { s with toks := s.toks + 1 }) : wpAny (model prog w) A (call (.builtin "str.find") [.str x t, .str y u, .int i v, .int j v2]) Q E s :=
  call_gives F.slot_str_find (typeIs_str _ _ _) F.entry_str_find (args_find4 _ _ _ _) (gives_find4 x y i j t u v v2) h
theorem call_rfind4 (h : Q (.int (rfind4 x y i j) s.toks) { s with toks := s.toks + 1 }) : wpAny (model prog w) A (call (.builtin "str.rfind") [.str x t, .str y u, .int i v, .int j v2]) Q E s :=
  call_gives F.slot_str_rfind (typeIs_str _ _ _) F.entry_str_rfind (args_rfind4 _ _ _ _) (gives_rfind4 x y i j t u v v2) h
end
end Mine
end
section
open PySem PySem.W PyProof.Rows
set_option maxRecDepth 100000
namespace Mine
noncomputable abbrev prg : Program := PySem.Challenge.rw_sh0038_01.row.prog
/- what a call of a plain def needs of its surroundings, and hands back -/
noncomputable def Pure (prog : Program) (w : World) (K : Frag) (p : Program) (loose : List Str) (mean : ExcName → Option Value) (mg mb : Str → Option Value) (f : Addr) (args : List Value) (d u : Nat) (R : Value → Prop) : Prop :=
  ∀ (dp un : Nat) (gd : Option (List Code)) (cn : Str) (cs : Scope) (a : Addr) (ccd : Value) (cl : List (Str × Addr)) (outer : List Env) (A₀ : Around) (base h₀ : Heap) (L : Addr) (m : Str → Option Value) (news : List (Addr × Obj)) (s : Shared)
    (Q E : Value → Shared → Prop),
    Below A₀ base outer h₀ → Fr h₀ L s.heap m → K.In h₀ → News h₀ L s.heap news → Top p loose mean mg mb h₀ → cs.kind = .function → dp + d < recursionLimit → un + u < cLine →
    (∀ r h' tk', Fr h₀ L h' m → News h₀ L h' news → R r → Q r { s with heap := h', toks := tk' }) →
    wpAny (model prog w) (ktrTop dp un gd cn cs L a ccd cl outer) (call (.ref f) args) Q E s
/- a call that makes objects: tl are those that the caller keeps -/
noncomputable def Makes (prog : Program) (w : World) (K : Frag) (p : Program) (loose : List Str) (mean : ExcName → Option Value) (mg mb : Str → Option Value) (f : Addr) (args : List Value) (d u : Nat) (Out : Value → List (Addr × Obj) → Prop) : Prop :=
  ∀ (dp un : Nat) (gd : Option (List Code)) (cn : Str) (cs : Scope) (a : Addr) (ccd : Value) (cl : List (Str × Addr)) (outer : List Env) (A₀ : Around) (base h₀ : Heap) (L : Addr) (m : Str → Option Value) (news : List (Addr × Obj)) (s : Shared)
    (Q E : Value → Shared → Prop),
    Below A₀ base outer h₀ → Fr h₀ L s.heap m → K.In h₀ → News h₀ L s.heap news → Top p loose mean mg mb h₀ → cs.kind = .function → dp + d < recursionLimit → un + u < cLine →
    (∀ r tl h' tk', Fr h₀ L h' m → News h₀ L h' (tl ++ news) → (∀ p ∈ tl, ∀ q ∈ news, q.1 < p.1) → Out r tl → Q r { s with heap := h', toks := tk' }) →
    wpAny (model prog w) (ktrTop dp un gd cn cs L a ccd cl outer) (call (.ref f) args) Q E s
theorem makes_use {prog : Program} {w : World} {K : Frag} {p : Program} {loose : List Str} {mean : ExcName → Option Value} {mg mb : Str → Option Value} {f : Addr} {args : List Value} {d u : Nat} {Out : Value → List (Addr × Obj) → Prop}
    {dp un : Nat} {gd : Option (List Code)} {cn : Str} {cs : Scope} {a : Addr} {ccd : Value} {cl : List (Str × Addr)} {outer : List Env} {A₀ : Around} {base h₀ : Heap} {L : Addr} {m : Str → Option Value} {news : List (Addr × Obj)} {s : Shared} {Q E : Value → Shared → Prop}
    (C : Makes prog w K p loose mean mg mb f args d u Out) (B : Below A₀ base outer h₀) (F : Fr h₀ L s.heap m) (X : K.In h₀) (N : News h₀ L s.heap news) (T : Top p loose mean mg mb h₀) (hk : cs.kind = .function) (hd : dp + d < recursionLimit) (hu : un + u < cLine)
    (h : ∀ r tl h' tk', Fr h₀ L h' m → News h₀ L h' (tl ++ news) → (∀ p ∈ tl, ∀ q ∈ news, q.1 < p.1) → Out r tl → Q r { s with heap := h', toks := tk' }) :
    wpAny (model prog w) (ktrTop dp un gd cn cs L a ccd cl outer) (call (.ref f) args) Q E s := C dp un gd cn cs a ccd cl outer A₀ base h₀ L m news s Q E B F X N T hk hd hu h
theorem pure_use {prog : Program} {w : World} {K : Frag} {p : Program} {loose : List Str} {mean : ExcName → Option Value} {mg mb : Str → Option Value} {f : Addr} {args : List Value} {d u : Nat} {R : Value → Prop}
    {dp un : Nat} {gd : Option (List Code)} {cn : Str} {cs : Scope} {a : Addr} {ccd : Value} {cl : List (Str × Addr)} {outer : List Env} {A₀ : Around} {base h₀ : Heap} {L : Addr} {m : Str → Option Value} {news : List (Addr × Obj)} {s : Shared} {Q E : Value → Shared → Prop}
    (C : Pure prog w K p loose mean mg mb f args d u R) (B : Below A₀ base outer h₀) (F : Fr h₀ L s.heap m) (X : K.In h₀) (N : News h₀ L s.heap news) (T : Top p loose mean mg mb h₀) (hk : cs.kind = .function) (hd : dp + d < recursionLimit) (hu : un + u < cLine)
    (h : ∀ r h' tk', Fr h₀ L h' m → News h₀ L h' news → R r → Q r { s with heap := h', toks := tk' }) :
    wpAny (model prog w) (ktrTop dp un gd cn cs L a ccd cl outer) (call (.ref f) args) Q E s := C dp un gd cn cs a ccd cl outer A₀ base h₀ L m news s Q E B F X N T hk hd hu h
noncomputable abbrev tupOf (its : List Value) : Obj := { cls := .type "tuple", data := .seq its.toArray }
theorem news_sub {h₀ h : Heap} {L : Addr} {a b : List (Addr × Obj)} (N : News h₀ L h a) (hs : ∀ p ∈ b, p ∈ a) : News h₀ L h b := fun p hp => N p (hs p hp)
theorem news_cons {h₀ h : Heap} {L : Addr} {a b : List (Addr × Obj)} {x : Addr × Obj} (N : News h₀ L h a) (hm : x ∈ a) (M : News h₀ L h b) : News h₀ L h (x :: b) := fun p hp => by
  rcases List.mem_cons.mp hp with rfl | hp
  · exact N _ hm
  · exact M p hp
theorem sub_refl (l : List (Addr × Obj)) : ∀ p ∈ l, p ∈ l := fun _ h => h
theorem sub_tail {x : Addr × Obj} {l l' : List (Addr × Obj)} (h : ∀ p ∈ l, p ∈ l') : ∀ p ∈ l, p ∈ x :: l' := fun p hp => .tail _ (h p hp)
theorem sub_cons {x : Addr × Obj} {l l' : List (Addr × Obj)} (h : ∀ p ∈ l, p ∈ l') : ∀ p ∈ x :: l, p ∈ x :: l' := fun p hp => by
  rcases List.mem_cons.mp hp with rfl | hp
  · exact .head _
  · exact .tail _ (h p hp)
theorem above_one {D : Addr} {o : Obj} {news : List (Addr × Obj)} (h : ∀ q ∈ news, q.1 < D) : ∀ p ∈ [(D, o)], ∀ q ∈ news, q.1 < p.1 := fun p hp q hq => by
  rw [List.mem_singleton.mp hp]; exact h q hq
theorem lt_of_news {h₀ h : Heap} {L : Addr} {news : List (Addr × Obj)} (N : News h₀ L h news) : ∀ q ∈ news, q.1 < h.objs.size := fun q hq => Heap.lt_size (N q hq).1
theorem allne {news : List (Addr × Obj)} {b a : Addr} (h : ∀ p ∈ news, p.1 < b) (hb : @LE.le Nat _ b a) : ∀ p ∈ news, p.1 ≠ a := fun p hp e => absurd (h p hp) (by rw [e]; exact Nat.not_lt.mpr hb)
theorem allne1 {x : Addr × Obj} {news : List (Addr × Obj)} {b a : Addr} (h : ∀ p ∈ x :: news, p.1 < b) (hb : @LE.le Nat _ b a) : ∀ p ∈ news, p.1 ≠ a := allne (fun p hp => h p (.tail _ hp)) hb
theorem allne2 {x y : Addr × Obj} {news : List (Addr × Obj)} {b a : Addr} (h : ∀ p ∈ x :: y :: news, p.1 < b) (hb : @LE.le Nat _ b a) : ∀ p ∈ news, p.1 ≠ a := allne1 (fun p hp => h p (.tail _ hp)) hb
theorem all_trans {news : List (Addr × Obj)} {b a : Addr} (h : ∀ p ∈ news, p.1 < b) (hb : @LE.le Nat _ b a) : ∀ p ∈ news, @LT.lt Nat _ p.1 a := fun p hp => Nat.lt_of_lt_of_le (h p hp) hb
theorem all_trans1 {x : Addr × Obj} {news : List (Addr × Obj)} {b a : Addr} (h : ∀ p ∈ x :: news, p.1 < b) (hb : @LE.le Nat _ b a) : ∀ p ∈ news, @LT.lt Nat _ p.1 a := all_trans (fun p hp => h p (.tail _ hp)) hb
theorem str_is {x y : Str} {t : Tok} (e : x = y) : ∃ t', Value.str x t = Value.str y t' := ⟨t, by rw [e]⟩
theorem bool_is {x y : Bool} (e : x = y) : Value.bool x = Value.bool y := by rw [e]
end Mine
end
section
open PySem PySem.W PyProof.Rows
set_option maxRecDepth 100000
namespace Mine
open PySem.Spec PySem.Calls
section
variable {prog : Program} {w : World} {A : Around} {E : Value → Shared → Prop} {s : Shared} {env : Env} {h₀ : Heap} {x : Str} {body : List Stmt} {Q : Flow → Shared → Prop}
inductive TurnE (h₀ : Heap) (L : Addr) (it : Addr × Obj) (J : (Str → Option Value) → List (Addr × Obj) → Prop) (s₁ s₂ : Shared) : Prop
  | mk (h' : Heap) (tk : Nat) (m' : Str → Option Value) (nw' : List (Addr × Obj)) (q0 : s₂ = { s₁ with heap := h', toks := tk }) (q1 : Fr h₀ L h' m') (q2 : News h₀ L h' (it :: nw')) (q3 : J m' nw')
theorem TurnE.intro {h₀ : Heap} {L : Addr} {it : Addr × Obj} {J : (Str → Option Value) → List (Addr × Obj) → Prop} {s₁ : Shared} {h' : Heap} {tk : Nat} {m' : Str → Option Value} {all nw' : List (Addr × Obj)}
    (F : Fr h₀ L h' m') (N : News h₀ L h' all) (sub : ∀ p ∈ it :: nw', p ∈ all) (hj : J m' nw') : TurnE h₀ L it J s₁ { s₁ with heap := h', toks := tk } := ⟨h', tk, m', nw', rfl, F, news_sub N sub, hj⟩
/- what a turn's end owes -/
noncomputable def TurnX (h₀ : Heap) (L : Addr) (it : Addr × Obj) (J : (Str → Option Value) → List (Addr × Obj) → Prop) (s₁ : Shared) (Q : Flow → Shared → Prop) (f : Flow) (s₂ : Shared) : Prop :=
  match f with
  | .ret v => Q (.ret v) s₂
  | .brk => Q .next s₂
  | _ => TurnE h₀ L it J s₁ s₂
theorem for_walks {I : Addr} {fp wr : List Addr} {n : Nat} {P : Nat → Value → Prop} {St : Nat → Heap → Prop} {m₀ : Str → Option Value} {news : List (Addr × Obj)}
    (J : Nat → (Str → Option Value) → List (Addr × Obj) → Prop) (W : Walks prog w A I fp wr n P St) (hwrI : wr = [I]) (hIfp : I ∈ fp) (hLf : env.locals ∉ fp) (hI : h₀.get? I = none) (hlt : ∀ p ∈ news, p.1 < I)
    (hfp : ∀ b ∈ fp, b ≠ I → h₀.get? b = none → ∃ o, ∀ i m nw, J i m nw → (b, o) ∈ nw)
    (hit : ∀ i h, St i h → ∃ o, h.get? I = some o)
    (hst : St 0 s.heap) (F : Fr h₀ env.locals s.heap m₀) (N : News h₀ env.locals s.heap news)
    (hadr : ∀ i m nw, J i m nw → nw.map (·.1) = news.map (·.1)) (hj : J 0 m₀ news)
    (turn : ∀ i v m₁ nw ito h tk, i < n → P i v → J i m₁ nw → (∀ p ∈ nw, p.1 < I) → Fr h₀ env.locals h (fun y => if y = x then some v else m₁ y) → News h₀ env.locals h ((I, ito) :: nw) →
      wpAny (model prog w) A (execs body env) (TurnX h₀ env.locals (I, ito) (J (i + 1)) { s with heap := h, toks := tk } Q) E { s with heap := h, toks := tk })
    (done : ∀ m₁ nw h tk, J n m₁ nw → Fr h₀ env.locals h m₁ → News h₀ env.locals h nw → Q .next { s with heap := h, toks := tk }) :
    LoopAtV prog w A h₀ env x body Q E (.ref I) s := by
  have low : ∀ {nw : List (Addr × Obj)}, nw.map (·.1) = news.map (·.1) → ∀ p ∈ nw, p.1 < I := by
    intro nw e p hp
    have h1 : p.1 ∈ nw.map (·.1) := List.mem_map.mpr ⟨p, hp, rfl⟩
    rw [e] at h1
    obtain ⟨q, hq1, hq2⟩ := List.mem_map.mp h1
    rw [← hq2]; exact hlt q hq1
  have offI : ∀ {nw : List (Addr × Obj)}, nw.map (·.1) = news.map (·.1) → ∀ p ∈ nw, p.1 ∉ wr := by
    intro nw e p hp h
    rw [hwrI] at h
    exact absurd (low e p hp) (by rw [List.mem_singleton.mp h]; exact Nat.lt_irrefl _)
  refine ⟨I, fp, wr, n, P, St, m₀, news, J, rfl, W, hLf, ?_, offI rfl, hst, F, N, hj, ?_, ?_⟩
  · intro b hb
    rw [hwrI] at hb
    rw [List.mem_singleton.mp hb]; exact hI
  · rintro i v m₁ news₁ s₁ own ⟨hh', tk', rfl⟩ hin hP hJ hoff hown hget hall hst' F₁ N₁
    obtain ⟨ito, hito⟩ := hit _ _ hst'
    have hI' : (I, ito) ∈ own := hall I hIfp hI _ hito
    have N₂ : News h₀ env.locals hh' ((I, ito) :: news₁) := fun p hp => by
      rcases List.mem_cons.mp hp with rfl | hp
      · exact N₁ _ (List.mem_append_left _ hI')
      · exact N₁ _ (List.mem_append_right _ hp)
    refine wpAny_mono (turn i v m₁ news₁ ito hh' tk' hin hP hJ (low (hadr _ _ _ hJ)) F₁ N₂) (fun f s₂ p => ?_) fun _ _ e => e
    have fin : TurnE h₀ env.locals (I, ito) (J (i + 1)) { s with heap := hh', toks := tk' } s₂ → LoopStepU h₀ env.locals wr own (J (i + 1)) { s with heap := hh', toks := tk' } .next s₂ := by
      rintro ⟨h', tk, m', nw', e, F', N', hm⟩
      refine ⟨rfl, h', tk, m', nw', e, F', fun p hp => ?_, offI (hadr _ _ _ hm), hm⟩
      rcases List.mem_append.mp hp with hp | hp
      · have g1 : hh'.get? p.1 = some p.2 := hget p hp
        by_cases hpI : p.1 = I
        · have g2 : hh'.get? I = some ito := (N₂ _ (List.mem_cons_self ..)).1
          have : p = (I, ito) := by
            rw [hpI, g2] at g1
            exact Prod.ext hpI (Option.some.inj g1).symm
          rw [this]; exact N' _ (List.mem_cons_self ..)
        · have hn : h₀.get? p.1 = none := (N₁ p (List.mem_append_left _ hp)).2.2
          obtain ⟨o, ho⟩ := hfp p.1 (hown p hp) hpI hn
          have q1 := N₁ _ (List.mem_append_right own (ho _ _ _ hJ))
          have : p = (p.1, o) := Prod.ext rfl (Option.some.inj (g1.symm.trans q1.1))
          rw [this]; exact N' _ (List.mem_cons_of_mem _ (ho _ _ _ hm))
      · exact N' _ (List.mem_cons_of_mem _ hp)
    cases f with
    | ret v => exact .ret p
    | brk => exact .brk p
    | next => exact .next (fin p)
    | cont => exact .cont (fin p)
  · intro h' tk m' news' F' N' _ hJ
    exact done m' news' h' tk hJ F' N'

theorem listIter_obj {h : Heap} {I ax : Addr} {i : Nat} (e : h.IsListIter I ax i) : ∃ o, h.get? I = some o := by
  obtain ⟨o, ho, _⟩ := e
  exact ⟨o, ho⟩

/- a loop's rule: n turns, the items under P, what the ledger must keep -/
noncomputable def LoopBy (prog : Program) (w : World) (A : Around) (E : Value → Shared → Prop) (s : Shared) (env : Env) (h₀ : Heap) (x : Str) (body : List Stmt) (Q : Flow → Shared → Prop) (n : Nat) (P : Nat → Value → Prop) (Keep : List (Addr × Obj) → Prop) (m₀ : Str → Option Value) (news : List (Addr × Obj)) (goal : Prop) : Prop :=
  ∀ J : Nat → (Str → Option Value) → List (Addr × Obj) → Prop, (∀ i m nw, J i m nw → Keep nw) → (∀ i m nw, J i m nw → nw.map (·.1) = news.map (·.1)) → J 0 m₀ news →
    (∀ i v m₁ nw I ito h tk, i < n → P i v → J i m₁ nw → (∀ p ∈ nw, p.1 < I) → Fr h₀ env.locals h (fun y => if y = x then some v else m₁ y) → News h₀ env.locals h ((I, ito) :: nw) →
      wpAny (model prog w) A (execs body env) (TurnX h₀ env.locals (I, ito) (J (i + 1)) { s with heap := h, toks := tk } Q) E { s with heap := h, toks := tk }) →
    (∀ m₁ nw h tk, J n m₁ nw → Fr h₀ env.locals h m₁ → News h₀ env.locals h nw → Q .next { s with heap := h, toks := tk }) → goal

theorem by_list {l : Addr} {items : Array Value} {k : Nat} {m₀ : Str → Option Value} {news : List (Addr × Obj)} (hh : A.handled = none) (F : Fr h₀ env.locals s.heap m₀) (N : News h₀ env.locals s.heap news) (hm : (l, listOf items k) ∈ news) :
    LoopBy prog w A E s env h₀ x body Q items.size (fun i v => items[i]? = some v) (fun nw => (l, listOf items k) ∈ nw) m₀ news (wpAny (model prog w) A (pyIter (.ref l)) (fun it s₂ => LoopAtV prog w A h₀ env x body Q E it s₂) E s) := by
  intro J hl hadr hj turn done
  have hls : s.heap.IsList l items := ⟨_, (N _ hm).1, rfl, ⟨_, rfl⟩⟩
  have hlt : l < s.heap.objs.size := Heap.lt_size (N _ hm).1
  have hne : l ≠ s.heap.objs.size := Nat.ne_of_lt hlt
  refine wpAny_pyIter_list hls ?_
  have W := Walks.list (prog := prog) (w := w) hh s.heap.objs.size l hne items
  refine for_walks J W rfl (by simp) ?_ ?_ (fun p hp => Heap.lt_size (N p hp).1) ?_ (fun i h e => listIter_obj e.1)
    ⟨⟨_, Heap.get?_push_size _ rfl, rfl, rfl⟩, hls.at fun o e => Heap.get?_push_of_some _ e⟩ (F.push _) (fun p hp => ⟨Heap.get?_push_of_some _ (N p hp).1, (N p hp).2⟩) hadr hj ?_ ?_
  · intro hmem
    rcases List.mem_cons.mp hmem with e | e
    · exact absurd F.ns.lt (e ▸ Nat.lt_irrefl _)
    · exact absurd (List.mem_singleton.mp e).symm (N _ hm).2.1
  · exact next_is_new F
  · intro b hb hbI _
    rcases List.mem_cons.mp hb with e | e
    · exact absurd e hbI
    · exact ⟨_, fun i m nw hJ => (List.mem_singleton.mp e) ▸ hl i m nw hJ⟩
  · intro i v m₁ nw ito h tk hin hP hJ hlow F₁ N₁
    exact turn i v m₁ nw _ ito h tk hin hP hJ hlow F₁ N₁
  · intro m₁ nw h tk hJ F₁ N₁
    exact done m₁ nw h tk hJ F₁ N₁

theorem by_rev {l I : Addr} {items : Array Value} {k : Nat} {m₀ : Str → Option Value} {news : List (Addr × Obj)} (hh : A.handled = none) (F : Fr h₀ env.locals s.heap m₀) (N : News h₀ env.locals s.heap ((I, revObj l ((items.size : Int) - 1)) :: news)) (hlt : ∀ p ∈ news, p.1 < I) (hm : (l, listOf items k) ∈ news) :
    LoopBy prog w A E s env h₀ x body Q items.size (fun i v => items[items.size - 1 - i]? = some v) (fun nw => (l, listOf items k) ∈ nw) m₀ news (wpAny (model prog w) A (pyIter (.ref I)) (fun it s₂ => LoopAtV prog w A h₀ env x body Q E it s₂) E s) := by
  intro J hl hadr hj turn done
  have hm' : (l, listOf items k) ∈ (I, revObj l ((items.size : Int) - 1)) :: news := .tail _ hm
  have hls : s.heap.IsList l items := ⟨_, (N _ hm').1, rfl, ⟨_, rfl⟩⟩
  have hne : l ≠ I := Nat.ne_of_lt (hlt _ hm)
  have hI := N _ (List.mem_cons_self ..)
  have hit : s.heap.IsRevIter I l ((items.size : Int) - 1) := ⟨_, hI.1, rfl, rfl⟩
  refine wpAny_pyIter_revIter hit ?_
  have W := Walks.listRev (prog := prog) (w := w) hh I l hne items
  have N' : News h₀ env.locals s.heap news := fun p hp => N p (.tail _ hp)
  refine for_walks J W rfl (by simp) ?_ hI.2.2 hlt ?_ (fun i h e => by obtain ⟨_, ⟨o, ho, _⟩, _⟩ := e; exact ⟨o, ho⟩)
    ⟨Nat.zero_le _, by simpa using hit, hls⟩ F N' hadr hj ?_ ?_
  · intro hmem
    rcases List.mem_cons.mp hmem with e | e
    · exact absurd e.symm hI.2.1
    · exact absurd (List.mem_singleton.mp e).symm (N _ hm').2.1
  · intro b hb hbI _
    rcases List.mem_cons.mp hb with e | e
    · exact absurd e hbI
    · exact ⟨_, fun i m nw hJ => (List.mem_singleton.mp e) ▸ hl i m nw hJ⟩
  · intro i v m₁ nw ito h tk hin hP hJ hlow F₁ N₁
    exact turn i v m₁ nw _ ito h tk hin hP hJ hlow F₁ N₁
  · intro m₁ nw h tk hJ F₁ N₁
    exact done m₁ nw h tk hJ F₁ N₁

theorem by_str {y : Str} {t : Tok} {m₀ : Str → Option Value} {news : List (Addr × Obj)} (hh : A.handled = none) (F : Fr h₀ env.locals s.heap m₀) (N : News h₀ env.locals s.heap news) :
    LoopBy prog w A E s env h₀ x body Q y.cps.size (SignAt y) (fun _ => True) m₀ news (wpAny (model prog w) A (pyIter (.str y t)) (fun it s₂ => LoopAtV prog w A h₀ env x body Q E it s₂) E s) := by
  intro J _ hadr hj turn done
  have hL : env.locals ∉ [s.heap.objs.size] := fun hmem => absurd F.ns.lt ((List.mem_singleton.mp hmem) ▸ Nat.lt_irrefl _)
  have fin : ∀ (o : Obj) (St : Nat → Heap → Prop), Walks prog w A s.heap.objs.size [s.heap.objs.size] [s.heap.objs.size] y.cps.size (SignAt y) St → St 0 (s.heap.push o) → (∀ i h, St i h → ∃ o, h.get? s.heap.objs.size = some o) →
      LoopAtV prog w A h₀ env x body Q E (.ref s.heap.objs.size) { s with heap := s.heap.push o } := fun o St W hst hit =>
    for_walks J W rfl (by simp) hL (next_is_new F) (fun p hp => Heap.lt_size (N p hp).1) (fun b hb hbI _ => absurd (List.mem_singleton.mp hb) hbI) hit hst (F.push _) (fun p hp => ⟨Heap.get?_push_of_some _ (N p hp).1, (N p hp).2⟩) hadr hj
      (fun i v m₁ nw ito h tk hin hP hJ hlow F₁ N₁ => turn i v m₁ nw _ ito h tk hin hP hJ hlow F₁ N₁) (fun m₁ nw h tk hJ F₁ N₁ => done m₁ nw h tk hJ F₁ N₁)
  cases ha : y.cps.all (· < 128)
  · exact wpAny_pyIter_wide ha (fin _ _ (Walks.strWide hh _ y t) ⟨_, Heap.get?_push_size _ rfl, rfl, rfl⟩ fun i h e => by obtain ⟨o, ho, _⟩ := e; exact ⟨o, ho⟩)
  · exact wpAny_pyIter_ascii ha (fin _ _ (Walks.strAscii hh _ y t) ⟨_, Heap.get?_push_size _ rfl, rfl, rfl⟩ fun i h e => by obtain ⟨o, ho, _⟩ := e; exact ⟨o, ho⟩)

variable {n : Nat} {P : Nat → Value → Prop} {Keep : List (Addr × Obj) → Prop} {goal : Prop} {m₀ : Str → Option Value} {news : List (Addr × Obj)}

theorem map_named0 {x : Str} {m₁ m₀ : Str → Option Value} {v : Option Value} (h : ∀ z, z ≠ x → m₁ z = m₀ z) :
    (fun z => if z = x then v else m₁ z) = fun z => if z = x then v else m₀ z := by
  funext z
  by_cases h0 : z = x
  · simp only [if_pos h0]
  simp only [if_neg h0]
  simp only [h z h0]
/- 0 names of the frame that the body stores, and the ledger, under R -/
theorem loop_led0 (H : LoopBy prog w A E s env h₀ x body Q n P Keep m₀ news goal) (R : Nat → List (Addr × Obj) → Prop)
    (hl : ∀ i nw, R i nw → Keep nw) (hadr : ∀ i nw, R i nw → nw.map (·.1) = news.map (·.1)) (hj : R 0 news)
    (turn : ∀ i v nw I ito h tk, i < n → P i v → R i nw → (∀ p ∈ nw, p.1 < I) → Fr h₀ env.locals h (fun z => if z = x then some v else m₀ z) → News h₀ env.locals h ((I, ito) :: nw) →
      wpAny (model prog w) A (execs body env) (TurnX h₀ env.locals (I, ito) (fun m nw => R (i + 1) nw ∧ ∀ z, z ≠ x → m z = m₀ z) { s with heap := h, toks := tk } Q) E { s with heap := h, toks := tk })
    (done : ∀ u nw h tk, R n nw → Fr h₀ env.locals h (fun z => if z = x then u else m₀ z) → News h₀ env.locals h nw → Q .next { s with heap := h, toks := tk }) : goal := by
  refine H (fun i m nw => R i nw ∧ ∀ z, z ≠ x → m z = m₀ z) (fun i m nw h => hl _ _ h.1) (fun i m nw h => hadr _ _ h.1) ⟨hj, fun _ _ => rfl⟩ ?_ ?_
  · rintro i v m₁ nw I ito h tk hin hv ⟨hR, hm⟩ hlow F₁ N₁
    rw [map_named0 hm] at F₁
    exact turn i v nw I ito h tk hin hv hR hlow F₁ N₁
  · rintro m₁ nw h tk ⟨hR, hm⟩ F₁ N₁
    refine done (m₁ x) nw h tk hR ?_ N₁
    rw [← map_named0 hm]
    have e : (fun z => if z = x then m₁ x else m₁ z) = m₁ := by
      funext z
      by_cases q : z = x
      · simp only [q, if_true]
      · simp only [q, if_false]
    rw [e]; exact F₁
theorem map_named1 {x y1 : Str} {m₁ m₀ : Str → Option Value} {v : Option Value} (h : ∀ z, z ≠ x → z ≠ y1 → m₁ z = m₀ z) :
    (fun z => if z = x then v else m₁ z) = fun z => if z = x then v else if z = y1 then m₁ y1 else m₀ z := by
  funext z
  by_cases h0 : z = x
  · simp only [if_pos h0]
  simp only [if_neg h0]
  by_cases h1 : z = y1
  · subst h1; simp only [if_true]
  simp only [if_neg h1, h z h0 h1]
/- 1 names of the frame that the body stores, and the ledger, under R -/
theorem loop_led1 {y1 : Str} (H : LoopBy prog w A E s env h₀ x body Q n P Keep m₀ news goal) (R : Nat → Option Value → List (Addr × Obj) → Prop)
    (hl : ∀ i a1 nw, R i a1 nw → Keep nw) (hadr : ∀ i a1 nw, R i a1 nw → nw.map (·.1) = news.map (·.1)) (hj : R 0 (m₀ y1) news)
    (turn : ∀ i v a1 nw I ito h tk, i < n → P i v → R i a1 nw → (∀ p ∈ nw, p.1 < I) → Fr h₀ env.locals h (fun z => if z = x then some v else if z = y1 then a1 else m₀ z) → News h₀ env.locals h ((I, ito) :: nw) →
      wpAny (model prog w) A (execs body env) (TurnX h₀ env.locals (I, ito) (fun m nw => R (i + 1) (m y1) nw ∧ ∀ z, z ≠ x → z ≠ y1 → m z = m₀ z) { s with heap := h, toks := tk } Q) E { s with heap := h, toks := tk })
    (done : ∀ u a1 nw h tk, R n a1 nw → Fr h₀ env.locals h (fun z => if z = x then u else if z = y1 then a1 else m₀ z) → News h₀ env.locals h nw → Q .next { s with heap := h, toks := tk }) : goal := by
  refine H (fun i m nw => R i (m y1) nw ∧ ∀ z, z ≠ x → z ≠ y1 → m z = m₀ z) (fun i m nw h => hl _ _ _ h.1) (fun i m nw h => hadr _ _ _ h.1) ⟨hj, fun _ _ _ => rfl⟩ ?_ ?_
  · rintro i v m₁ nw I ito h tk hin hv ⟨hR, hm⟩ hlow F₁ N₁
    rw [map_named1 hm] at F₁
    exact turn i v _ nw I ito h tk hin hv hR hlow F₁ N₁
  · rintro m₁ nw h tk ⟨hR, hm⟩ F₁ N₁
    refine done (m₁ x) _ nw h tk hR ?_ N₁
    rw [← map_named1 hm]
    have e : (fun z => if z = x then m₁ x else m₁ z) = m₁ := by
      funext z
      by_cases q : z = x
      · simp only [q, if_true]
      · simp only [q, if_false]
    rw [e]; exact F₁
/- the same where the ledger stays -/
theorem loop_fix1 {y1 : Str} (H : LoopBy prog w A E s env h₀ x body Q n P Keep m₀ news goal) (R : Nat → Option Value → Prop)
    (hl : Keep news) (hj : R 0 (m₀ y1))
    (turn : ∀ i v a1 I ito h tk, i < n → P i v → R i a1 → (∀ p ∈ news, p.1 < I) → Fr h₀ env.locals h (fun z => if z = x then some v else if z = y1 then a1 else m₀ z) → News h₀ env.locals h ((I, ito) :: news) →
      wpAny (model prog w) A (execs body env) (TurnX h₀ env.locals (I, ito) (fun m nw => nw = news ∧ R (i + 1) (m y1) ∧ ∀ z, z ≠ x → z ≠ y1 → m z = m₀ z) { s with heap := h, toks := tk } Q) E { s with heap := h, toks := tk })
    (done : ∀ u a1 h tk, R n a1 → Fr h₀ env.locals h (fun z => if z = x then u else if z = y1 then a1 else m₀ z) → News h₀ env.locals h news → Q .next { s with heap := h, toks := tk }) : goal := by
  refine loop_led1 H (fun i a1 nw => nw = news ∧ R i a1) (fun i _ nw h => h.1 ▸ hl) (fun i _ nw h => h.1 ▸ rfl) ⟨rfl, hj⟩ ?_ ?_
  · rintro i v a1 nw I ito h tk hin hv ⟨rfl, hR⟩ hlow F₁ N₁
    refine wpAny_mono (turn i v _ I ito h tk hin hv hR hlow F₁ N₁) (fun f s₂ p => ?_) fun _ _ e => e
    have fin : TurnE h₀ env.locals (I, ito) (fun m nw' => nw' = nw ∧ R (i + 1) (m y1) ∧ ∀ z, z ≠ x → z ≠ y1 → m z = m₀ z) { s with heap := h, toks := tk } s₂ → TurnE h₀ env.locals (I, ito) (fun m nw' => (nw' = nw ∧ R (i + 1) (m y1)) ∧ ∀ z, z ≠ x → z ≠ y1 → m z = m₀ z) { s with heap := h, toks := tk } s₂ := by
      rintro ⟨h', tk', m', nw', e, F', N', e2, r, q⟩
      exact ⟨h', tk', m', nw', e, F', N', ⟨e2, r⟩, q⟩
    cases f with
    | ret v => exact p
    | brk => exact p
    | next => exact fin p
    | cont => exact fin p
  · rintro u a1 nw h tk ⟨rfl, hR⟩ F₁ N₁
    exact done u _ h tk hR F₁ N₁
theorem map_named2 {x y1 y2 : Str} {m₁ m₀ : Str → Option Value} {v : Option Value} (h : ∀ z, z ≠ x → z ≠ y1 → z ≠ y2 → m₁ z = m₀ z) :
    (fun z => if z = x then v else m₁ z) = fun z => if z = x then v else if z = y1 then m₁ y1 else if z = y2 then m₁ y2 else m₀ z := by
  funext z
  by_cases h0 : z = x
  · simp only [if_pos h0]
  simp only [if_neg h0]
  by_cases h1 : z = y1
  · subst h1; simp only [if_true]
  by_cases h2 : z = y2
  · subst h2; simp only [if_true, if_neg h1]
  simp only [if_neg h1, if_neg h2, h z h0 h1 h2]
/- 2 names of the frame that the body stores, and the ledger, under R -/
theorem loop_led2 {y1 y2 : Str} (H : LoopBy prog w A E s env h₀ x body Q n P Keep m₀ news goal) (R : Nat → Option Value → Option Value → List (Addr × Obj) → Prop)
    (hl : ∀ i a1 a2 nw, R i a1 a2 nw → Keep nw) (hadr : ∀ i a1 a2 nw, R i a1 a2 nw → nw.map (·.1) = news.map (·.1)) (hj : R 0 (m₀ y1) (m₀ y2) news)
    (turn : ∀ i v a1 a2 nw I ito h tk, i < n → P i v → R i a1 a2 nw → (∀ p ∈ nw, p.1 < I) → Fr h₀ env.locals h (fun z => if z = x then some v else if z = y1 then a1 else if z = y2 then a2 else m₀ z) → News h₀ env.locals h ((I, ito) :: nw) →
      wpAny (model prog w) A (execs body env) (TurnX h₀ env.locals (I, ito) (fun m nw => R (i + 1) (m y1) (m y2) nw ∧ ∀ z, z ≠ x → z ≠ y1 → z ≠ y2 → m z = m₀ z) { s with heap := h, toks := tk } Q) E { s with heap := h, toks := tk })
    (done : ∀ u a1 a2 nw h tk, R n a1 a2 nw → Fr h₀ env.locals h (fun z => if z = x then u else if z = y1 then a1 else if z = y2 then a2 else m₀ z) → News h₀ env.locals h nw → Q .next { s with heap := h, toks := tk }) : goal := by
  refine H (fun i m nw => R i (m y1) (m y2) nw ∧ ∀ z, z ≠ x → z ≠ y1 → z ≠ y2 → m z = m₀ z) (fun i m nw h => hl _ _ _ _ h.1) (fun i m nw h => hadr _ _ _ _ h.1) ⟨hj, fun _ _ _ _ => rfl⟩ ?_ ?_
  · rintro i v m₁ nw I ito h tk hin hv ⟨hR, hm⟩ hlow F₁ N₁
    rw [map_named2 hm] at F₁
    exact turn i v _ _ nw I ito h tk hin hv hR hlow F₁ N₁
  · rintro m₁ nw h tk ⟨hR, hm⟩ F₁ N₁
    refine done (m₁ x) _ _ nw h tk hR ?_ N₁
    rw [← map_named2 hm]
    have e : (fun z => if z = x then m₁ x else m₁ z) = m₁ := by
      funext z
      by_cases q : z = x
      · simp only [q, if_true]
      · simp only [q, if_false]
    rw [e]; exact F₁
/- the same where one object of the ledger turns -/
theorem loop_acc2 {y1 y2 : Str} {d : Addr} {od : Obj} {g : Obj → List (Addr × Obj)} (H : LoopBy prog w A E s env h₀ x body Q n P Keep m₀ news goal) (_hmq : (d, od) ∈ news) (U : UpdF d od news g) (R : Nat → Option Value → Option Value → Obj → Prop)
    (hl : ∀ o, Keep (g o)) (hj : R 0 (m₀ y1) (m₀ y2) od)
    (turn : ∀ i v a1 a2 o I ito h tk, i < n → P i v → R i a1 a2 o → (∀ p ∈ g o, p.1 < I) → Fr h₀ env.locals h (fun z => if z = x then some v else if z = y1 then a1 else if z = y2 then a2 else m₀ z) → News h₀ env.locals h ((I, ito) :: g o) →
      wpAny (model prog w) A (execs body env) (TurnX h₀ env.locals (I, ito) (fun m nw => ∃ o', nw = g o' ∧ R (i + 1) (m y1) (m y2) o' ∧ ∀ z, z ≠ x → z ≠ y1 → z ≠ y2 → m z = m₀ z) { s with heap := h, toks := tk } Q) E { s with heap := h, toks := tk })
    (done : ∀ u a1 a2 o h tk, R n a1 a2 o → Fr h₀ env.locals h (fun z => if z = x then u else if z = y1 then a1 else if z = y2 then a2 else m₀ z) → News h₀ env.locals h (g o) → Q .next { s with heap := h, toks := tk }) : goal := by
  have e : news = g od := by
    obtain ⟨pre, post, e1, e2, _, _⟩ := U.split
    rw [e1, e2]
  have ea : ∀ o, (g o).map (·.1) = news.map (·.1) := by
    intro o
    obtain ⟨pre, post, e1, e2, _, _⟩ := U.split
    rw [e1, e2]; simp
  refine loop_led2 H (fun i a1 a2 nw => ∃ o, nw = g o ∧ R i a1 a2 o) (fun i _ _ nw h => by obtain ⟨o, rfl, _⟩ := h; exact hl o) (fun i _ _ nw h => by obtain ⟨o, rfl, _⟩ := h; exact ea o) ⟨od, e, hj⟩ ?_ ?_
  · rintro i v a1 a2 nw I ito h tk hin hv ⟨o, rfl, hR⟩ hlow F₁ N₁
    refine wpAny_mono (turn i v _ _ o I ito h tk hin hv hR hlow F₁ N₁) (fun f s₂ p => ?_) fun _ _ e => e
    have fin : TurnE h₀ env.locals (I, ito) (fun m nw => ∃ o', nw = g o' ∧ R (i + 1) (m y1) (m y2) o' ∧ ∀ z, z ≠ x → z ≠ y1 → z ≠ y2 → m z = m₀ z) { s with heap := h, toks := tk } s₂ → TurnE h₀ env.locals (I, ito) (fun m nw' => (∃ o, nw' = g o ∧ R (i + 1) (m y1) (m y2) o) ∧ ∀ z, z ≠ x → z ≠ y1 → z ≠ y2 → m z = m₀ z) { s with heap := h, toks := tk } s₂ := by
      rintro ⟨h', tk', m', nw', e, F', N', o', e2, r, q⟩
      exact ⟨h', tk', m', nw', e, F', N', ⟨o', e2, r⟩, q⟩
    cases f with
    | ret v => exact p
    | brk => exact p
    | next => exact fin p
    | cont => exact fin p
  · rintro u a1 a2 nw h tk ⟨o, rfl, hR⟩ F₁ N₁
    exact done u _ _ o h tk hR F₁ N₁

end
end Mine
end
section
open PySem PySem.W PyProof.Rows
set_option maxRecDepth 100000
namespace Mine
theorem fdiv_pow (a : Int) (k : Nat) : a.fdiv (2 ^ k) = a / 2 ^ k := by
  have : (0 : Int) ≤ 2 ^ k := by exact_mod_cast Nat.zero_le (2 ^ k)
  exact Int.fdiv_eq_ediv_of_nonneg _ this
theorem pow_pos' (k : Nat) : (0 : Int) < 2 ^ k := by exact_mod_cast Nat.two_pow_pos k
theorem fdiv_pow_range {x : Int} (k : Nat) (h : 0 ≤ x) : 0 ≤ x.fdiv (2 ^ k) ∧ x.fdiv (2 ^ k) ≤ x := by
  rw [fdiv_pow]
  refine ⟨Int.ediv_nonneg h (Int.le_of_lt (pow_pos' k)), ?_⟩
  have h1 : (1 : Int) ≤ 2 ^ k := pow_pos' k
  exact Int.ediv_le_self _ h
theorem and_low (a k : Nat) : a &&& (a / 2 ^ k * 2 ^ k) = a / 2 ^ k * 2 ^ k := by
  apply Nat.eq_of_testBit_eq
  intro i
  rw [Nat.testBit_and, Nat.mul_comm, Nat.testBit_two_pow_mul]
  by_cases h : k ≤ i
  · simp only [h, decide_true, Bool.true_and]
    rw [Nat.testBit_div_two_pow]
    have : k + (i - k) = i := by omega
    rw [show i - k + k = i by omega]; simp
  · simp [h]
theorem bitAnd_nat (a b : Nat) : Builtin.bitAnd (a : Int) (b : Int) = ((a &&& b : Nat) : Int) := by
  unfold Builtin.bitAnd
  simp
theorem bitXor_high {x : Int} (k : Nat) (h : 0 ≤ x) : Builtin.bitXor x (x.fdiv (2 ^ k) * 2 ^ k) = x % 2 ^ k := by
  obtain ⟨a, rfl⟩ := Int.eq_ofNat_of_zero_le h
  rw [bitXor_and, fdiv_pow]
  have e : ((a : Int) / 2 ^ k * 2 ^ k) = ((a / 2 ^ k * 2 ^ k : Nat) : Int) := by push_cast; rfl
  rw [e, bitAnd_nat, and_low]
  have d := Nat.div_add_mod a (2 ^ k)
  have e2 : ((a : Int) % 2 ^ k) = ((a % 2 ^ k : Nat) : Int) := by push_cast; rfl
  rw [e2]
  rw [Nat.mul_comm] at d
  omega
theorem mid_b {lo hi : Int} (h1 : lo < hi) (hne : ¬ lo + 1 = hi) : lo < (lo + hi).fdiv (2 ^ (1 : Int).toNat) ∧ (lo + hi).fdiv (2 ^ (1 : Int).toNat) < hi := by
  have e : (2 : Int) ^ (1 : Int).toNat = 2 := by decide
  rw [e, Int.fdiv_eq_ediv_of_nonneg _ (by decide)]
  omega
section
variable {lo hi M : Int} {d n : Nat}
theorem mid_hi (h : hi - lo ≤ ((d + 1 : Nat) : Int)) (m : lo < M ∧ M < hi) : hi - M ≤ d := by omega
theorem mid_lo (h : hi - lo ≤ ((d + 1 : Nat) : Int)) (m : lo < M ∧ M < hi) : M - lo ≤ d := by omega
theorem mid_len (m : lo < M ∧ M < hi) (h : hi ≤ (n : Int)) : M ≤ (n : Int) := Int.le_trans (Int.le_of_lt m.2) h
theorem mid_nn (h : 0 ≤ lo) (m : lo < M ∧ M < hi) : 0 ≤ M := Int.le_trans h (Int.le_of_lt m.1)
theorem mid_60 (h0 : 0 ≤ lo) (h2 : hi ≤ (n : Int)) (h3 : n ≤ 60) : hi - lo ≤ 60 := by omega
end
end Mine
end
section
set_option hygiene false in
local macro_rules | `(tactic| omega) => `(tactic| walk_at "MY om")
section
namespace Mine
/- sums over a list -/
noncomputable def sm (f : Nat → Int) (l : List Nat) : Int := (l.map f).sum
theorem sm_nil (f : Nat → Int) : sm f [] = 0 := rfl
theorem sm_cons (f : Nat → Int) (a : Nat) (l : List Nat) : sm f (a :: l) = f a + sm f l := by
  unfold sm; rw [List.map_cons, List.sum_cons]
theorem sm_congr {f g : Nat → Int} : ∀ {l : List Nat}, (∀ a ∈ l, f a = g a) → sm f l = sm g l
  | [], _ => rfl
  | a :: l, h => by
    rw [sm_cons, sm_cons, h a (.head _), sm_congr fun b hb => h b (.tail _ hb)]
theorem sm_add (f g : Nat → Int) : ∀ l : List Nat, sm (fun a => f a + g a) l = sm f l + sm g l
  | [] => rfl
  | a :: l => by rw [sm_cons, sm_cons, sm_cons, sm_add f g l]; omega
theorem sm_mul (k : Int) (f : Nat → Int) : ∀ l : List Nat, sm (fun a => k * f a) l = k * sm f l
  | [] => by rw [sm_nil, sm_nil, Int.mul_zero]
  | a :: l => by rw [sm_cons, sm_cons, sm_mul k f l, Int.mul_add]
theorem sm_zero : ∀ l : List Nat, sm (fun _ => 0) l = 0
  | [] => rfl
  | a :: l => by rw [sm_cons, sm_zero l]; rfl
theorem sm_perm {f : Nat → Int} {l l' : List Nat} (h : l.Perm l') : sm f l = sm f l' := by
  induction h with
  | nil => rfl
  | cons a _ ih => rw [sm_cons, sm_cons, ih]
  | swap a b l => rw [sm_cons, sm_cons, sm_cons, sm_cons]; omega
  | trans _ _ h1 h2 => rw [h1, h2]
theorem sm_swap (f : Nat → Nat → Int) (l' : List Nat) : ∀ l : List Nat, sm (fun a => sm (fun b => f a b) l') l = sm (fun b => sm (fun a => f a b) l) l'
  | [] => by rw [sm_nil]; exact (sm_zero l').symm
  | a :: l => by
    rw [sm_cons, sm_swap f l' l, ← sm_add]
    exact sm_congr fun b _ => (sm_cons (fun a => f a b) a l).symm
/- a list without a place -/
noncomputable def del (q : Nat) (S : List Nat) : List Nat := S.filter fun r => r != q
theorem del_comm (q r : Nat) (S : List Nat) : del q (del r S) = del r (del q S) := by
  unfold del; rw [List.filter_filter, List.filter_filter]; congr; funext a; exact Bool.and_comm _ _
theorem del_filter (q : Nat) (P : Nat → Bool) (S : List Nat) : del q (S.filter P) = (del q S).filter P := by
  unfold del; rw [List.filter_filter, List.filter_filter]; congr; funext a; exact Bool.and_comm _ _
theorem del_le (q : Nat) (S : List Nat) : (del q S).length ≤ S.length := List.length_filter_le _ _
theorem del_none {q : Nat} {S : List Nat} (h : q ∉ S) : del q S = S := by
  unfold del
  rw [List.filter_eq_self]
  intro a ha
  rw [bne_iff_ne]
  rintro rfl; exact h ha
theorem del_lt {q : Nat} {S : List Nat} (h : q ∈ S) : (del q S).length < S.length := by
  unfold del
  rw [List.length_filter_lt_length_iff_exists]
  exact ⟨q, h, by simp⟩
theorem mem_del {q a : Nat} {S : List Nat} : a ∈ del q S ↔ a ∈ S ∧ a ≠ q := by
  unfold del; rw [List.mem_filter, bne_iff_ne]
theorem del_nodup {q : Nat} {S : List Nat} (h : S.Nodup) : (del q S).Nodup := List.Pairwise.filter _ h
theorem del_cons_eq {q : Nat} {S : List Nat} (h : q ∉ S) : del q (q :: S) = S := by
  have : del q (q :: S) = del q S := by unfold del; rw [List.filter_cons]; simp
  rw [this, del_none h]
theorem del_cons_ne {q a : Nat} {S : List Nat} (h : a ≠ q) : del q (a :: S) = a :: del q S := by
  unfold del; rw [List.filter_cons]; simp [h]
theorem sm_del (f : Nat → Int) {q : Nat} : ∀ {S : List Nat}, S.Nodup → q ∈ S → sm f (del q S) + f q = sm f S
  | [], _, h => nomatch h
  | a :: S, hn, h => by
    have hn' := List.nodup_cons.mp hn
    by_cases e : a = q
    · subst e
      rw [del_cons_eq hn'.1, sm_cons]; omega
    · rw [del_cons_ne e, sm_cons, sm_cons]
      have := sm_del f hn'.2 ((List.mem_cons.mp h).resolve_left fun e' => e e'.symm)
      omega
/- the double sum over two different places may be turned -/
theorem sm_pairs (f : Nat → Nat → Int) {S : List Nat} (hn : S.Nodup) : sm (fun q => sm (fun r => f q r) (del q S)) S = sm (fun q => sm (fun r => f r q) (del q S)) S := by
  have h1 : sm (fun q => sm (fun r => f q r) (del q S) + f q q) S = sm (fun q => sm (fun r => f r q) (del q S) + f q q) S := by
    rw [sm_congr (fun q hq => sm_del (fun r => f q r) hn hq), sm_congr (fun q hq => sm_del (fun r => f r q) hn hq)]
    exact sm_swap f S S
  rw [sm_add, sm_add] at h1
  omega
section
variable (x : Int) (w : Nat → Nat → Int)
/- the net's sum -/
noncomputable def netK : Nat → List Nat → Int
  | 0, _ => 1
  | _ + 1, [] => 1
  | n + 1, p :: S => x * netK n S + sm (fun q => w p q * netK n (del q S)) S
theorem netK_s {n p : Nat} {S : List Nat} : netK x w (n + 1) (p :: S) = x * netK x w n S + sm (fun q => w p q * netK x w n (del q S)) S := rfl
noncomputable def netN (S : List Nat) : Int := netK x w S.length S
variable {x w}
theorem netK_fuel : ∀ (n m : Nat) (S : List Nat), S.length ≤ n → S.length ≤ m → netK x w n S = netK x w m S
  | 0, 0, _, _, _ => rfl
  | 0, m + 1, [], _, _ => rfl
  | n + 1, 0, [], _, _ => rfl
  | n + 1, m + 1, [], _, _ => rfl
  | 0, _ + 1, _ :: _, h, _ => by simp at h
  | _ + 1, 0, _ :: _, _, h => by simp at h
  | n + 1, m + 1, p :: S, h1, h2 => by
    rw [List.length_cons] at h1 h2
    rewrite [netK_s, netK_s]
    rw [netK_fuel n m S (by omega) (by omega)]
    congr 1
    exact sm_congr fun q _ => by
      have := del_le q S
      rw [netK_fuel n m (del q S) (by omega) (by omega)]
theorem netK_eq {n : Nat} {S : List Nat} (h : S.length ≤ n) : netK x w n S = netN x w S := netK_fuel _ _ _ h (Nat.le_refl _)
theorem netN_nil : netN x w [] = 1 := rfl
theorem netN_cons (p : Nat) (S : List Nat) : netN x w (p :: S) = x * netN x w S + sm (fun q => w p q * netN x w (del q S)) S := by
  conv => lhs; unfold netN; rw [List.length_cons]; rewrite [netK_s]
  rw [netK_eq (Nat.le_refl _)]
  congr 1
  exact sm_congr fun q _ => by rw [netK_eq (del_le q S)]
theorem net_swap (hw : ∀ a b, w a b = w b a) {a b : Nat} {S : List Nat} (hn : (a :: b :: S).Nodup) : netN x w (a :: b :: S) = netN x w (b :: a :: S) := by
  have h1 := List.nodup_cons.mp hn
  have h2 := List.nodup_cons.mp h1.2
  have haS : a ∉ S := fun h => h1.1 (.tail _ h)
  have hab : a ≠ b := fun e => h1.1 (e ▸ .head _)
  have key : ∀ a b, a ∉ S → b ∉ S → a ≠ b → netN x w (a :: b :: S) = x * (x * netN x w S) + (x * sm (fun q => w b q * netN x w (del q S)) S + x * sm (fun q => w a q * netN x w (del q S)) S) + w a b * netN x w S + sm (fun q => sm (fun r => w a q * w b r * netN x w (del r (del q S))) (del q S)) S := by
    intro a b ha hb hab
    rw [netN_cons, sm_cons, netN_cons, del_cons_eq hb]
    have : sm (fun q => w a q * netN x w (del q (b :: S))) S = sm (fun q => x * (w a q * netN x w (del q S)) + sm (fun r => w a q * w b r * netN x w (del r (del q S))) (del q S)) S := by
      refine sm_congr fun q hq => ?_
      rw [del_cons_ne (show b ≠ q by rintro rfl; exact hb hq), netN_cons, Int.mul_add, ← sm_mul]
      congr 1
      · rw [← Int.mul_assoc, ← Int.mul_assoc, Int.mul_comm (w a q) x]
      · exact sm_congr fun r _ => (Int.mul_assoc _ _ _).symm
    rw [this, sm_add, sm_mul]
    grind
  rw [key a b haS h2.1 hab, key b a h2.1 haS (Ne.symm hab), hw a b]
  have := sm_pairs (fun q r => w a q * w b r * netN x w (del r (del q S))) h2.2
  have e : sm (fun q => sm (fun r => w a r * w b q * netN x w (del q (del r S))) (del q S)) S = sm (fun q => sm (fun r => w b q * w a r * netN x w (del r (del q S))) (del q S)) S := by
    refine sm_congr fun q _ => sm_congr fun r _ => ?_
    rw [del_comm, Int.mul_comm (w a r)]
  rw [this, e]
  grind
theorem net_perm (hw : ∀ a b, w a b = w b a) : ∀ (n : Nat) {S S' : List Nat}, S.length ≤ n → S.Perm S' → S.Nodup → netN x w S = netN x w S' := by
  intro n
  induction n with
  | zero =>
    intro S S' hl h _
    have : S = [] := List.length_eq_zero_iff.mp (by omega)
    subst this
    rw [List.nil_perm.mp h]
  | succ n ih =>
    intro S S' hl h hn
    induction h with
    | nil => rfl
    | @cons a l l' h _ =>
      have hn' := (List.nodup_cons.mp hn).2
      rw [List.length_cons] at hl
      rw [netN_cons, netN_cons, ih (by omega) h hn', sm_perm h]
      congr 1
      refine sm_congr fun q _ => ?_
      have := del_le q l
      rw [ih (by omega) (show (del q l).Perm (del q l') from h.filter _) (del_nodup hn')]
    | swap a b l => exact net_swap hw hn
    | trans h1 _ ih1 ih2 => rw [ih1 hl hn, ih2 (h1.length_eq ▸ hl) (h1.nodup_iff.mp hn)]
theorem perm_del {q : Nat} : ∀ {S : List Nat}, S.Nodup → q ∈ S → S.Perm (q :: del q S)
  | [], _, h => nomatch h
  | a :: S, hn, h => by
    have hn' := List.nodup_cons.mp hn
    by_cases e : a = q
    · subst e; rw [del_cons_eq hn'.1]
    · rw [del_cons_ne e]
      exact ((perm_del hn'.2 ((List.mem_cons.mp h).resolve_left fun e' => e e'.symm)).cons a).trans (List.Perm.swap _ _ _)
theorem net_front (hw : ∀ a b, w a b = w b a) {q : Nat} {S : List Nat} (hn : S.Nodup) (hq : q ∈ S) : netN x w (q :: del q S) = netN x w S :=
  (net_perm hw _ (Nat.le_refl _) (perm_del hn hq) hn).symm
theorem sm_nonneg {f : Nat → Int} : ∀ {l : List Nat}, (∀ a ∈ l, 0 ≤ f a) → 0 ≤ sm f l
  | [], _ => Int.le_refl 0
  | a :: l, h => by
    rw [sm_cons]
    have := h a (.head _)
    have := sm_nonneg fun b hb => h b (.tail _ hb)
    omega
theorem net_pos (hx : 1 ≤ x) (hw0 : ∀ a b, 0 ≤ w a b) : ∀ (n : Nat) (S : List Nat), S.length ≤ n → 0 < netN x w S := by
  intro n
  induction n with
  | zero =>
    intro S hl
    have : S = [] := List.length_eq_zero_iff.mp (by omega)
    subst this; exact Int.one_pos
  | succ n ih =>
    intro S hl
    cases S with
    | nil => exact Int.one_pos
    | cons a S =>
      rw [List.length_cons] at hl
      rw [netN_cons]
      have h1 := Int.mul_pos (show 0 < x by omega) (ih S (by omega))
      have h2 : 0 ≤ sm (fun q => w a q * netN x w (del q S)) S := sm_nonneg fun q _ => by
        have := del_le q S
        exact Int.mul_nonneg (hw0 _ _) (Int.le_of_lt (ih _ (by omega)))
      omega
theorem sm_filter {f : Nat → Int} (P : Nat → Bool) : ∀ {l : List Nat}, (∀ a ∈ l, P a = false → f a = 0) → sm f l = sm f (l.filter P)
  | [], _ => rfl
  | a :: l, h => by
    have ih := sm_filter P (l := l) fun b hb => h b (.tail _ hb)
    rw [List.filter_cons, sm_cons, ih]
    cases e : P a with
    | true => simp only [if_true]; rw [sm_cons]
    | false => rw [h a (.head _) e]; simp
/- nothing between P and the rest -/
noncomputable def Apart (w : Nat → Nat → Int) (P : Nat → Bool) (S : List Nat) : Prop := ∀ a ∈ S, ∀ b ∈ S, P a = true → P b = false → w a b = 0 ∧ w b a = 0
theorem net_split {P : Nat → Bool} : ∀ (n : Nat) (S : List Nat), S.length ≤ n → Apart w P S → netN x w S = netN x w (S.filter P) * netN x w (S.filter fun a => !P a) := by
  intro n
  induction n with
  | zero =>
    intro S hl _
    have : S = [] := List.length_eq_zero_iff.mp (by omega)
    subst this; rfl
  | succ n ih =>
    intro S hl hA
    cases S with
    | nil => rfl
    | cons a S =>
      rw [List.length_cons] at hl
      have hA' : Apart w P S := fun c hc d hd => hA c (.tail _ hc) d (.tail _ hd)
      have hAd : ∀ q, Apart w P (del q S) := fun q c hc d hd => hA' c (mem_del.mp hc).1 d (mem_del.mp hd).1
      have ihq : ∀ q, netN x w (del q S) = netN x w (del q (S.filter P)) * netN x w (del q (S.filter fun a => !P a)) := fun q => by
        have := del_le q S
        rw [ih _ (by omega) (hAd q), del_filter, del_filter]
      rw [netN_cons, ih S (by omega) hA', List.filter_cons, List.filter_cons]
      cases e : P a with
      | true =>
        simp only [if_true, Bool.not_true, Bool.false_eq_true, if_false]
        rw [netN_cons, sm_filter P (fun q hq hP => by rw [(hA a (.head _) q (.tail _ hq) e hP).1, Int.zero_mul])]
        rw [sm_congr (g := fun q => netN x w (S.filter fun a => !P a) * (w a q * netN x w (del q (S.filter P)))) (fun q hq => by
          have hP := (List.mem_filter.mp hq).2
          rw [ihq q, del_none (S := S.filter fun a => !P a) (fun h => by have := (List.mem_filter.mp h).2; rw [hP] at this; cases this)]
          grind), sm_mul]
        grind
      | false =>
        simp only [if_true, Bool.not_false, Bool.false_eq_true, if_false]
        rw [netN_cons, sm_filter (fun a => !P a) (fun q hq hP => by
          have hP : P q = true := by simpa using hP
          rw [(hA q (.tail _ hq) a (.head _) hP e).2, Int.zero_mul])]
        rw [sm_congr (g := fun q => netN x w (S.filter P) * (w a q * netN x w (del q (S.filter fun a => !P a)))) (fun q hq => by
          have hP := (List.mem_filter.mp hq).2
          rw [ihq q, del_none (S := S.filter P) (fun h => by have := (List.mem_filter.mp h).2; rw [this] at hP; cases hP)]
          grind), sm_mul]
        grind
end
end Mine
end
section
namespace Mine
section
variable (x : Int) (w : Nat → Nat → Int) (adj : Nat → Nat → Bool)
/- tied and bare of a place, from those below it -/
noncomputable def bdL {α : Type} (f : α → Int × Int) (wv : α → Int) : List α → Int × Int
  | [] => (0, 1)
  | c :: cs => ((bdL f wv cs).1 * (x * (f c).2 + (f c).1) + wv c * (f c).2 * (bdL f wv cs).2, (bdL f wv cs).2 * (x * (f c).2 + (f c).1))
theorem bdL_z {α : Type} {f : α → Int × Int} {wv : α → Int} : bdL x f wv [] = (0, 1) := rfl
theorem bdL_s {α : Type} {f : α → Int × Int} {wv : α → Int} {c : α} {cs : List α} : bdL x f wv (c :: cs) = ((bdL x f wv cs).1 * (x * (f c).2 + (f c).1) + wv c * (f c).2 * (bdL x f wv cs).2, (bdL x f wv cs).2 * (x * (f c).2 + (f c).1)) := rfl
noncomputable def trK : Nat → Nat → List Nat → Int × Int
  | 0, _, _ => (0, 1)
  | n + 1, v, S => bdL x (fun c => trK n c (del c S)) (w v) (S.filter (adj v))
theorem trK_z {v : Nat} {S : List Nat} : trK x w adj 0 v S = (0, 1) := rfl
theorem trK_s {n v : Nat} {S : List Nat} : trK x w adj (n + 1) v S = bdL x (fun c => trK x w adj n c (del c S)) (w v) (S.filter (adj v)) := rfl
noncomputable def tr (v : Nat) (S : List Nat) : Int × Int := trK x w adj S.length v S
noncomputable def full (v : Nat) (S : List Nat) : Int := x * (tr x w adj v S).2 + (tr x w adj v S).1
variable {x w adj}
theorem bdL_congr {α : Type} {f g : α → Int × Int} {wv wv' : α → Int} : ∀ {l : List α}, (∀ c ∈ l, f c = g c) → (∀ c ∈ l, wv c = wv' c) → bdL x f wv l = bdL x g wv' l
  | [], _, _ => rfl
  | c :: l, h, h' => by
    rewrite [bdL_s, bdL_s]
    rw [bdL_congr (l := l) (fun b hb => h b (.tail _ hb)) (fun b hb => h' b (.tail _ hb)), h c (.head _), h' c (.head _)]
theorem trK_fuel : ∀ (n m v : Nat) (S : List Nat), S.length ≤ n → S.length ≤ m → trK x w adj n v S = trK x w adj m v S
  | 0, 0, _, _, _, _ => rfl
  | 0, m + 1, v, [], _, _ => rfl
  | n + 1, 0, v, [], _, _ => rfl
  | 0, _ + 1, _, _ :: _, h, _ => by simp at h
  | _ + 1, 0, _, _ :: _, _, h => by simp at h
  | n + 1, m + 1, v, S, h1, h2 => by
    rewrite [trK_s, trK_s]
    refine bdL_congr (fun c hc => ?_) fun _ _ => rfl
    have := del_lt (List.mem_filter.mp hc).1
    exact trK_fuel n m c (del c S) (by omega) (by omega)
theorem trK_eq {n v : Nat} {S : List Nat} (h : S.length ≤ n) : trK x w adj n v S = tr x w adj v S := trK_fuel _ _ _ _ h (Nat.le_refl _)
theorem tr_eq (v : Nat) (S : List Nat) : tr x w adj v S = bdL x (fun c => tr x w adj c (del c S)) (w v) (S.filter (adj v)) := by
  rw [← trK_eq (n := S.length + 1) (Nat.le_succ _)]
  rewrite [trK_s]
  refine bdL_congr (fun c hc => ?_) fun _ _ => rfl
  have := del_lt (List.mem_filter.mp hc).1
  exact trK_eq (by omega)
/- Godsil's step -/
theorem bd_net {f : Nat → Int × Int} {wv N1 : Nat → Int} {NS : Int} : ∀ {l : List Nat}, (∀ c ∈ l, (x * (f c).2 + (f c).1) * N1 c = (f c).2 * NS) → (bdL x f wv l).1 * NS = (bdL x f wv l).2 * sm (fun c => wv c * N1 c) l
  | [], _ => by rewrite [bdL_z]; rw [sm_nil]; simp
  | c :: l, h => by
    have ih := bd_net (wv := wv) (l := l) fun b hb => h b (.tail _ hb)
    have hc := h c (.head _)
    rewrite [bdL_s]
    rw [sm_cons]
    simp only []
    generalize (bdL x f wv l).1 = t at *
    generalize (bdL x f wv l).2 = b at *
    generalize sm (fun c => wv c * N1 c) l = s at *
    generalize (f c).2 = B at *
    generalize (f c).1 = D at *
    generalize N1 c = n at *
    generalize wv c = k at *
    have e1 : (t * (x * B + D) + k * B * b) * NS = (t * NS) * (x * B + D) + k * b * (B * NS) := by grind
    rw [e1, ih, ← hc]
    grind
variable (hw : ∀ a b, w a b = w b a) (hx : 1 ≤ x) (hw0 : ∀ a b, 0 ≤ w a b) (ha : ∀ a b, adj a b = false → w a b = 0)
include hw ha in
theorem godsil : ∀ (n v : Nat) (S : List Nat), S.length ≤ n → S.Nodup → full x w adj v S * netN x w S = (tr x w adj v S).2 * netN x w (v :: S) := by
  intro n
  induction n with
  | zero =>
    intro v S hl _
    have : S = [] := List.length_eq_zero_iff.mp (by omega)
    subst this
    rw [netN_cons]; unfold full; rw [tr_eq]
    rw [sm_nil, netN_nil]
    simp [bdL_z]
  | succ n ih =>
    intro v S hl hn
    have key : (tr x w adj v S).1 * netN x w S = (tr x w adj v S).2 * sm (fun c => w v c * netN x w (del c S)) (S.filter (adj v)) := by
      rw [tr_eq]
      refine bd_net fun c hc => ?_
      have hcS := (List.mem_filter.mp hc).1
      have := del_lt hcS
      have := ih c (del c S) (by omega) (del_nodup hn)
      rw [net_front hw hn hcS] at this
      exact this
    rw [← sm_filter (adj v) (fun a _ hf => by rw [ha v a hf, Int.zero_mul])] at key
    rw [netN_cons]
    unfold full
    rw [Int.add_mul, key]
    grind
/- products over a list -/
noncomputable def pr (f : Nat → Int) : List Nat → Int
  | [] => 1
  | c :: l => pr f l * f c
theorem pr_s {f : Nat → Int} {c : Nat} {l : List Nat} : pr f (c :: l) = pr f l * f c := rfl
theorem bd_pr {f : Nat → Int × Int} {wv : Nat → Int} : ∀ l : List Nat, (bdL x f wv l).2 = pr (fun c => x * (f c).2 + (f c).1) l
  | [] => rfl
  | c :: l => by rewrite [bdL_s, pr_s]; rw [bd_pr l]
theorem pr_congr {f g : Nat → Int} : ∀ {l : List Nat}, (∀ c ∈ l, f c = g c) → pr f l = pr g l
  | [], _ => rfl
  | c :: l, h => by rewrite [pr_s, pr_s]; rw [pr_congr (l := l) fun b hb => h b (.tail _ hb), h c (.head _)]
theorem pr_split (P : Nat → Bool) (f : Nat → Int) : ∀ l : List Nat, pr f l = pr f (l.filter P) * pr f (l.filter fun a => !P a)
  | [] => rfl
  | c :: l => by
    have ih := pr_split P f l
    rw [List.filter_cons, List.filter_cons]
    cases e : P c
    · simp only [Bool.not_false, Bool.false_eq_true, if_true, if_false]; conv => lhs; rewrite [pr_s]
      conv => rhs; rhs; rewrite [pr_s]
      rw [ih]; grind
    · simp only [Bool.not_true, Bool.false_eq_true, if_true, if_false]; conv => lhs; rewrite [pr_s]
      conv => rhs; lhs; rewrite [pr_s]
      rw [ih]; grind
theorem pr_dvd {f : Nat → Int} {q : Nat} : ∀ {l : List Nat}, q ∈ l → f q ∣ pr f l
  | [], h => nomatch h
  | c :: l, h => by
    rewrite [pr_s]
    rcases List.mem_cons.mp h with rfl | h
    · exact Int.dvd_mul_left _ _
    · exact Int.dvd_trans (pr_dvd h) (Int.dvd_mul_right _ _)
theorem tr_pr (v : Nat) (S : List Nat) : (tr x w adj v S).2 = pr (fun c => full x w adj c (del c S)) (S.filter (adj v)) := by
  rw [tr_eq, bd_pr]; rfl
theorem filter_sub {P A : Nat → Bool} : ∀ {S : List Nat}, (∀ a ∈ S, A a = true → P a = true) → S.filter A = (S.filter P).filter A
  | [], _ => rfl
  | a :: S, h => by
    have ih := filter_sub (S := S) fun b hb => h b (.tail _ hb)
    rw [List.filter_cons, List.filter_cons]
    cases e : A a
    · simp only [Bool.false_eq_true, if_false]
      split
      · rw [List.filter_cons, e]; simpa using ih
      · exact ih
    · rw [h a (.head _) e]; simp only [if_true]; rw [List.filter_cons, e]; simp [ih]
/- what lies apart is not seen -/
theorem tr_split {P : Nat → Bool} : ∀ (n v : Nat) (S : List Nat), S.length ≤ n → (∀ b ∈ S, P b = false → adj v b = false) → (∀ a ∈ S, ∀ b ∈ S, P a = true → P b = false → adj a b = false) → tr x w adj v S = tr x w adj v (S.filter P) := by
  intro n
  induction n with
  | zero =>
    intro v S hl _ _
    have : S = [] := List.length_eq_zero_iff.mp (by omega)
    subst this; rfl
  | succ n ih =>
    intro v S hl hv hA
    have hP : ∀ a ∈ S, adj v a = true → P a = true := fun a h1 h2 => by
      cases e : P a
      · rw [hv a h1 e] at h2; cases h2
      · rfl
    rw [tr_eq, tr_eq v (S.filter P), ← filter_sub hP]
    refine bdL_congr (fun c hc => ?_) fun _ _ => rfl
    have hc' := List.mem_filter.mp hc
    have := del_lt hc'.1
    have hPc := hP c hc'.1 hc'.2
    rw [ih c (del c S) (by omega) (fun b hb hb' => hA c hc'.1 b (mem_del.mp hb).1 hPc hb') (fun a h1 b h2 => hA a (mem_del.mp h1).1 b (mem_del.mp h2).1), del_filter]
variable (adj) in
noncomputable def reach : Nat → List Nat → List Nat → List Nat
  | 0, _, R => R
  | n + 1, S, R => reach n S (S.filter fun r => R.contains r || R.any fun q => adj q r)
variable (adj) in
noncomputable def sepB (P : Nat → Bool) (S : List Nat) : Bool := S.all fun a => S.all fun b => !(P a && !P b && (adj a b || adj b a))
variable (adj) in
/- every part of S has a place that A takes, and so on below -/
noncomputable def covK : Nat → List Nat → (Nat → Bool) → Bool
  | 0, S, _ => S.isEmpty
  | n + 1, S, A => S.isEmpty || S.any fun q => A q && (fun R : List Nat => R.contains q && sepB adj R.contains S && covK n (del q (S.filter R.contains)) (adj q) && covK n (S.filter fun a => !R.contains a) A) (reach adj 5 S [q])
theorem covK_s {n : Nat} {S : List Nat} {A : Nat → Bool} : covK adj (n + 1) S A = (S.isEmpty || S.any fun q => A q && (fun R : List Nat => R.contains q && sepB adj R.contains S && covK adj n (del q (S.filter R.contains)) (adj q) && covK adj n (S.filter fun a => !R.contains a) A) (reach adj 5 S [q])) := rfl
theorem sep_of {P : Nat → Bool} {S : List Nat} (h : sepB adj P S = true) : ∀ a ∈ S, ∀ b ∈ S, P a = true → P b = false → adj a b = false ∧ adj b a = false := by
  intro a h1 b h2 hP hP'
  have := List.all_eq_true.mp (List.all_eq_true.mp h a h1) b h2
  rw [hP, hP'] at this
  simpa using this
include hw hx hw0 ha in
theorem full_dvd {v : Nat} {S : List Nat} (hn : S.Nodup) {k : Int} (h : (tr x w adj v S).2 = k * netN x w S) : full x w adj v S = k * netN x w (v :: S) := by
  have hp := net_pos hx hw0 _ S (Nat.le_refl _)
  have g := godsil (x := x) hw ha _ v S (Nat.le_refl _) hn
  rw [h] at g
  refine Int.eq_of_mul_eq_mul_right (show netN x w S ≠ 0 by omega) ?_
  rw [g]; grind
include hw hx hw0 ha in
theorem cov_dvd : ∀ (n v : Nat) (S : List Nat), S.Nodup → covK adj n S (adj v) = true → netN x w S ∣ (tr x w adj v S).2 := by
  intro n
  induction n with
  | zero =>
    intro v S _ h
    have : S = [] := List.isEmpty_iff.mp h
    subst this; exact Int.one_dvd _
  | succ n ih =>
    intro v S hn h
    rewrite [covK_s] at h
    rw [Bool.or_eq_true] at h
    rcases h with h | h
    · have : S = [] := List.isEmpty_iff.mp h
      subst this; exact Int.one_dvd _
    rw [List.any_eq_true] at h
    obtain ⟨q, hq, h⟩ := h
    generalize reach adj 5 S [q] = R at h
    simp only [Bool.and_eq_true] at h
    obtain ⟨hA, ⟨⟨hPq, hs⟩, h1⟩, h2⟩ := h
    have hP := sep_of hs
    generalize R.contains = P at *
    clear hs
    have hap : Apart w P S := fun a h1 b h2 hPa hPb => by
      have := hP a h1 b h2 hPa hPb
      rw [ha _ _ this.1, ha _ _ this.2]; exact ⟨rfl, rfl⟩
    rw [net_split _ S (Nat.le_refl _) hap, tr_pr, pr_split P]
    refine Int.mul_dvd_mul ?_ ?_
    · have hnC : (S.filter P).Nodup := List.Pairwise.filter _ hn
      have hqC : q ∈ S.filter P := List.mem_filter.mpr ⟨hq, hPq⟩
      obtain ⟨k, hk⟩ := ih q (del q (S.filter P)) (del_nodup hnC) h1
      have hf := full_dvd hw hx hw0 ha (del_nodup hnC) (k := k) (by rw [hk, Int.mul_comm])
      rw [net_front hw hnC hqC] at hf
      have e : full x w adj q (del q S) = full x w adj q (del q (S.filter P)) := by
        unfold full
        rw [tr_split _ q (del q S) (Nat.le_refl _) (fun b hb hb' => (hP q hq b (mem_del.mp hb).1 hPq hb').1) (fun a h1 b h2 h3 h4 => (hP a (mem_del.mp h1).1 b (mem_del.mp h2).1 h3 h4).1), del_filter]
      refine Int.dvd_trans ?_ (pr_dvd (q := q) (List.mem_filter.mpr ⟨List.mem_filter.mpr ⟨hq, hA⟩, hPq⟩))
      rw [e, hf]
      exact Int.dvd_mul_left _ _
    · have := ih v (S.filter fun a => !P a) (List.Pairwise.filter _ hn) h2
      rw [tr_pr] at this
      refine Eq.mp (congrArg (fun z => netN x w (S.filter fun a => !P a) ∣ z) ?_) this
      have e : (S.filter fun a => !P a).filter (adj v) = (S.filter (adj v)).filter fun a => !P a := by
        rw [List.filter_filter, List.filter_filter]; congr; funext a; exact Bool.and_comm _ _
      rw [e]
      refine pr_congr fun c hc => ?_
      have hc1 := List.mem_filter.mp hc
      have hcS := (List.mem_filter.mp hc1.1).1
      have hcP : P c = false := by simpa using hc1.2
      unfold full
      rw [tr_split (P := fun a => !P a) _ c (del c S) (Nat.le_refl _) (fun b hb hb' => (hP b (mem_del.mp hb).1 c hcS (by simpa using hb') hcP).2) (fun a h1 b h2 h3 h4 => (hP b (mem_del.mp h2).1 a (mem_del.mp h1).1 (by simpa using h4) (by simpa using h3)).2), del_filter]
/- all is positive -/
theorem bd_pos {α : Type} {f : α → Int × Int} {wv : α → Int} (hx : 1 ≤ x) : ∀ {l : List α}, (∀ c ∈ l, 0 ≤ (f c).1 ∧ 1 ≤ (f c).2 ∧ 0 ≤ wv c) → 0 ≤ (bdL x f wv l).1 ∧ 1 ≤ (bdL x f wv l).2
  | [], _ => ⟨Int.le_refl _, Int.le_refl _⟩
  | c :: l, h => by
    have ih := bd_pos hx (l := l) fun b hb => h b (.tail _ hb)
    obtain ⟨h1, h2, h3⟩ := h c (.head _)
    have hF : 1 ≤ x * (f c).2 + (f c).1 := by
      have := Int.mul_le_mul hx h2 (by omega) (by omega)
      omega
    rewrite [bdL_s]
    refine ⟨Int.add_nonneg (Int.mul_nonneg ih.1 (by omega)) (Int.mul_nonneg (Int.mul_nonneg h3 (by omega)) (by omega)), ?_⟩
    have := Int.mul_le_mul ih.2 hF (by omega) (by omega)
    simpa using this
/- more weight, more in all -/
theorem bd_mono {α : Type} {y : Int} {f g : α → Int × Int} {wv wv' : α → Int} (hx : 1 ≤ x) (hxy : x ≤ y) : ∀ {l : List α}, (∀ c ∈ l, 0 ≤ (f c).1 ∧ 1 ≤ (f c).2 ∧ 0 ≤ wv c) → (∀ c ∈ l, (f c).1 ≤ (g c).1 ∧ (f c).2 ≤ (g c).2 ∧ wv c ≤ wv' c) →
    (bdL x f wv l).1 ≤ (bdL y g wv' l).1 ∧ (bdL x f wv l).2 ≤ (bdL y g wv' l).2
  | [], _, _ => ⟨Int.le_refl _, Int.le_refl _⟩
  | c :: l, h, h' => by
    have ih := bd_mono hx hxy (l := l) (fun b hb => h b (.tail _ hb)) (fun b hb => h' b (.tail _ hb))
    have ip := bd_pos hx (l := l) (fun b hb => h b (.tail _ hb))
    obtain ⟨h1, h2, h3⟩ := h c (.head _)
    obtain ⟨k1, k2, k3⟩ := h' c (.head _)
    have hF : x * (f c).2 + (f c).1 ≤ y * (g c).2 + (g c).1 := by
      have := Int.mul_le_mul hxy k2 (by omega) (by omega)
      omega
    have hF0 : 0 ≤ x * (f c).2 + (f c).1 := by
      have := Int.mul_nonneg (show 0 ≤ x by omega) (show 0 ≤ (f c).2 by omega)
      omega
    rewrite [bdL_s, bdL_s]
    refine ⟨Int.add_le_add (Int.mul_le_mul ih.1 hF hF0 (by omega)) (Int.mul_le_mul (Int.mul_le_mul k3 k2 (by omega) (by omega)) ih.2 (by omega) (Int.mul_nonneg (by omega) (by omega))), Int.mul_le_mul ih.2 hF hF0 (by omega)⟩
theorem tr_pos (hx : 1 ≤ x) (hw0 : ∀ a b, 0 ≤ w a b) : ∀ (n v : Nat) (S : List Nat), 0 ≤ (trK x w adj n v S).1 ∧ 1 ≤ (trK x w adj n v S).2 := by
  intro n
  induction n with
  | zero => intro v S; exact ⟨Int.le_refl _, Int.le_refl _⟩
  | succ n ih => intro v S; rewrite [trK_s]; exact bd_pos hx fun c _ => ⟨(ih _ _).1, (ih _ _).2, hw0 _ _⟩
theorem tr_mono {y : Int} {u : Nat → Nat → Int} (hx : 1 ≤ x) (hxy : x ≤ y) (hw0 : ∀ a b, 0 ≤ w a b) (hwu : ∀ a b, w a b ≤ u a b) : ∀ (n v : Nat) (S : List Nat), (trK x w adj n v S).1 ≤ (trK y u adj n v S).1 ∧ (trK x w adj n v S).2 ≤ (trK y u adj n v S).2 := by
  intro n
  induction n with
  | zero => intro v S; exact ⟨Int.le_refl _, Int.le_refl _⟩
  | succ n ih =>
    intro v S
    rewrite [trK_s, trK_s]
    exact bd_mono hx hxy (fun c _ => ⟨(tr_pos hx hw0 _ _ _).1, (tr_pos hx hw0 _ _ _).2, hw0 _ _⟩) (fun c _ => ⟨(ih _ _).1, (ih _ _).2, hwu _ _⟩)
theorem sm_le {f : Nat → Int} {b : Int} : ∀ {l : List Nat}, (∀ a ∈ l, f a ≤ b) → sm f l ≤ (l.length : Int) * b
  | [], _ => by rw [sm_nil]; simp
  | a :: l, h => by
    have ih := sm_le (l := l) fun c hc => h c (.tail _ hc)
    have := h a (.head _)
    rw [sm_cons, List.length_cons, Int.natCast_succ, Int.add_mul]
    omega
theorem net_bound (hx : 1 ≤ x) (hx4 : x ≤ 4) (hw0 : ∀ a b, 0 ≤ w a b) (hw4 : ∀ a b, w a b ≤ 4) : ∀ (n : Nat), n ≤ 5 → ∀ (S : List Nat), S.length ≤ n → netN x w S ≤ 20 ^ n := by
  intro n
  induction n with
  | zero =>
    intro _ S hl
    have : S = [] := List.length_eq_zero_iff.mp (by omega)
    subst this; exact Int.le_refl _
  | succ n ih =>
    intro hn S hl
    have hp : (1 : Int) ≤ 20 ^ n := by
      have := Int.pow_pos (n := 20) (m := n) (by decide)
      omega
    have ih := ih (by omega)
    rw [Int.pow_succ]
    generalize (20 : Int) ^ n = K at *
    cases S with
    | nil => rw [netN_nil]; omega
    | cons a S =>
      rw [List.length_cons] at hl
      rw [netN_cons]
      have h1 : x * netN x w S ≤ 4 * K := Int.mul_le_mul hx4 (ih S (by omega)) (Int.le_of_lt (net_pos hx hw0 _ S (Nat.le_refl _))) (by decide)
      have h2 : sm (fun q => w a q * netN x w (del q S)) S ≤ (S.length : Int) * (4 * K) := sm_le fun q _ => by
        have := del_le q S
        exact Int.mul_le_mul (hw4 _ _) (ih _ (by omega)) (Int.le_of_lt (net_pos hx hw0 _ _ (Nat.le_refl _))) (by decide)
      have h3 : (S.length : Int) * (4 * K) ≤ 4 * (4 * K) := Int.mul_le_mul_of_nonneg_right (by omega) (by omega)
      omega
end
end Mine
end
section
set_option maxRecDepth 100000
namespace Mine
/- the places; a walk is the list of its places, the last one first -/
noncomputable abbrev LL : List Nat := [97, 98, 99, 100, 101]
noncomputable def avail (y : List Nat) : List Nat := LL.filter fun c => !y.contains c
noncomputable def kids (adj : Nat → Nat → Bool) (y : List Nat) : List (List Nat) := ((avail y).filter (adj (y.headD 0))).map fun c => c :: y
noncomputable def bfs (adj : Nat → Nat → Bool) : Nat → List (List Nat) → List (List Nat)
  | 0, _ => []
  | _ + 1, [] => []
  | n + 1, y :: q => y :: bfs adj n (q ++ kids adj y)
theorem bfs_s {adj : Nat → Nat → Bool} {n : Nat} {y : List Nat} {q : List (List Nat)} : bfs adj (n + 1) (y :: q) = y :: bfs adj n (q ++ kids adj y) := rfl
noncomputable def bq (adj : Nat → Nat → Bool) : Nat → List (List Nat) → List (List Nat)
  | 0, Q => Q
  | _ + 1, [] => []
  | i + 1, y :: q => bq adj i (q ++ kids adj y)
theorem bq_s {adj : Nat → Nat → Bool} {i : Nat} {y : List Nat} {q : List (List Nat)} : bq adj (i + 1) (y :: q) = bq adj i (q ++ kids adj y) := rfl
noncomputable def tiesTbl : List Nat := [7, 6, 0, 1, 2, 6, 7, 6, 3, 4, 0, 6, 7, 6, 5, 1, 3, 6, 7, 6, 2, 4, 5, 6, 7]
/- the net whose chords are the bits of m -/
noncomputable def adjM (m p q : Nat) : Bool := Nat.testBit (m + 64) (tiesTbl.getD ((p - 97) * 5 + (q - 97)) 7)
/- the ones that lie below a walk are all behind it, in order -/
noncomputable def chkW (adj : Nat → Nat → Bool) : List (List Nat) → Bool
  | [] => true
  | y :: l => (l.filter fun c => c.tail == y) == kids adj y && chkW adj l
theorem chkW_s {adj : Nat → Nat → Bool} {y : List Nat} {l : List (List Nat)} : chkW adj (y :: l) = ((l.filter fun c => c.tail == y) == kids adj y && chkW adj l) := rfl
noncomputable def chkY (adj : Nat → Nat → Bool) (ws : List (List Nat)) (y : List Nat) : Bool := adj (y.tail.headD 0) (y.headD 0) && ws.contains y.tail && !y.tail.isEmpty
noncomputable def chkL (y : List Nat) : Bool := Nat.ble y.length 5
noncomputable def chkA (m s : Nat) : Bool :=
  (fun ws : List (List Nat) => Nat.blt ws.length 64 && chkW (adjM m) ws && ws.tail.all (chkY (adjM m) ws) && ws.all chkL) (bfs (adjM m) 64 [[s]])
noncomputable def chkC (m s : Nat) : Bool := covK (adjM m) 5 (del s LL) (adjM m s)
noncomputable def chkB (m s : Nat) : Bool := (fun p : Int × Int => decide (4 * p.2 + p.1 < 2 ^ 60)) (trK 4 (fun _ _ => 4) (adjM m) 5 s (del s LL))
noncomputable def masks : List Nat := (List.range 64).filter fun m => (fun k => Nat.ble 1 k && Nat.ble k 3) (((List.range 6).filter fun i => m.testBit i).length)
/- a walk that is nowhere twice -/
noncomputable def Good (y : List Nat) : Prop := y.Nodup ∧ (∀ c ∈ y, c ∈ LL) ∧ y ≠ []
theorem mem_avail {y : List Nat} {c : Nat} : c ∈ avail y ↔ c ∈ LL ∧ c ∉ y := by
  unfold avail; rw [List.mem_filter]; simp
theorem mem_kids {adj : Nat → Nat → Bool} {y z : List Nat} : z ∈ kids adj y ↔ ∃ c, (c ∈ LL ∧ c ∉ y) ∧ adj (y.headD 0) c = true ∧ z = c :: y := by
  unfold kids
  rw [List.mem_map]
  constructor
  · rintro ⟨c, hc, rfl⟩
    rw [List.mem_filter, mem_avail] at hc
    exact ⟨c, hc.1, hc.2, rfl⟩
  · rintro ⟨c, h1, h2, rfl⟩
    exact ⟨c, by rw [List.mem_filter, mem_avail]; exact ⟨h1, h2⟩, rfl⟩
theorem good_kids {adj : Nat → Nat → Bool} {y z : List Nat} (h : Good y) (hz : z ∈ kids adj y) : Good z := by
  obtain ⟨c, h1, _, rfl⟩ := mem_kids.mp hz
  refine ⟨List.nodup_cons.mpr ⟨h1.2, h.1⟩, fun d hd => ?_, by simp⟩
  rcases List.mem_cons.mp hd with rfl | hd
  · exact h1.1
  · exact h.2.1 d hd
section
variable {adj : Nat → Nat → Bool}
theorem bfs_good : ∀ (n : Nat) (Q : List (List Nat)), (∀ y ∈ Q, Good y) → ∀ y ∈ bfs adj n Q, Good y
  | 0, _, _, _, h => nomatch h
  | _ + 1, [], _, _, h => nomatch h
  | n + 1, y :: q, hQ, z, h => by
    rewrite [bfs_s] at h
    rcases List.mem_cons.mp h with rfl | h
    · exact hQ _ (.head _)
    · refine bfs_good n _ (fun u hu => ?_) z h
      rcases List.mem_append.mp hu with hu | hu
      · exact hQ u (.tail _ hu)
      · exact good_kids (hQ y (.head _)) hu
theorem bq_nil : ∀ i, bq adj i [] = []
  | 0 => rfl
  | _ + 1 => rfl
theorem bfs_get : ∀ (n i : Nat) (Q : List (List Nat)), i < n → (bfs adj n Q)[i]? = (bq adj i Q).head?
  | 0, _, _, h => by omega
  | n + 1, i, [], _ => by rw [bq_nil]; rfl
  | n + 1, 0, y :: q, _ => rfl
  | n + 1, i + 1, y :: q, h => by
    rewrite [bfs_s, bq_s]
    rw [List.getElem?_cons_succ]
    exact bfs_get n i _ (by omega)
theorem bq_succ : ∀ (i : Nat) (Q : List (List Nat)) (y : List Nat) (q : List (List Nat)), bq adj i Q = y :: q → bq adj (i + 1) Q = q ++ kids adj y
  | 0, Q, y, q, h => by
    have h : Q = y :: q := h
    subst h; rfl
  | i + 1, [], y, q, h => by rw [bq_nil] at h; cases h
  | i + 1, z :: Q, y, q, h => by
    rewrite [bq_s] at h ⊢
    exact bq_succ i _ y q h
theorem bfs_len : ∀ (n : Nat) (Q : List (List Nat)), (bfs adj n Q).length < n → Q.length ≤ (bfs adj n Q).length
  | 0, _, h => by omega
  | _ + 1, [], _ => Nat.zero_le _
  | n + 1, y :: q, h => by
    rewrite [bfs_s] at h ⊢
    rw [List.length_cons] at h
    have := bfs_len n (q ++ kids adj y) (by omega)
    rw [List.length_append] at this
    rw [List.length_cons, List.length_cons]
    omega
theorem bfs_drop : ∀ (i n : Nat) (Q : List (List Nat)), i ≤ n → (bfs adj n Q).drop i = bfs adj (n - i) (bq adj i Q)
  | 0, n, Q, _ => rfl
  | i + 1, 0, Q, h => by omega
  | i + 1, n + 1, [], _ => by
    rw [bq_nil]
    have e : ∀ k, bfs adj k [] = [] := fun k => by cases k <;> rfl
    rw [e, e]; rfl
  | i + 1, n + 1, y :: q, h => by
    rw [Nat.add_sub_add_right]
    exact bfs_drop i n (q ++ kids adj y) (by omega)
theorem bq_len {n i : Nat} {Q : List (List Nat)} (hi : i < n) (h : (bfs adj n Q).length < n) (hn : n ≤ 64) : (bq adj i Q).length ≤ 64 := by
  have e := bfs_drop (adj := adj) i n Q (by omega)
  have el := congrArg List.length e
  rw [List.length_drop] at el
  by_cases hl : i ≤ (bfs adj n Q).length
  · have := bfs_len (adj := adj) (n - i) (bq adj i Q) (by omega)
    omega
  · have := bfs_len (adj := adj) (n - i) (bq adj i Q) (by omega)
    omega
theorem chkW_at : ∀ {ws : List (List Nat)}, chkW adj ws = true → ∀ {pre l : List (List Nat)} {y : List Nat}, ws = pre ++ y :: l → (l.filter fun c => c.tail == y) = kids adj y
  | [], _, pre, l, y, e => by cases pre <;> cases e
  | z :: ws, h, [], l, y, e => by
    cases e
    rewrite [chkW_s] at h
    rw [Bool.and_eq_true, beq_iff_eq] at h
    exact h.1
  | z :: ws, h, p :: pre, l, y, e => by
    cases e
    rewrite [chkW_s] at h
    rw [Bool.and_eq_true] at h
    exact chkW_at h.2 rfl
theorem avail_cons (c : Nat) (y : List Nat) : avail (c :: y) = del c (avail y) := by
  unfold avail del
  rw [List.filter_filter]
  congr
  funext a
  rw [List.contains_cons]
  cases h : a == c <;> simp [bne, h]
variable {x : Int} {w : Nat → Nat → Int}
theorem bd_map {α β : Type} (f : β → Int × Int) (wv : β → Int) (g : α → β) : ∀ l : List α, bdL x f wv (l.map g) = bdL x (fun c => f (g c)) (fun c => wv (g c)) l
  | [] => rfl
  | c :: l => by
    rw [List.map_cons]
    rewrite [bdL_s, bdL_s]
    rw [bd_map f wv g l]
/- what the walks of l give to u -/
noncomputable def acc (x : Int) (w : Nat → Nat → Int) (adj : Nat → Nat → Bool) (l : List (List Nat)) (u : List Nat) : Int × Int :=
  bdL x (fun c => tr x w adj (c.headD 0) (avail c)) (fun c => w (u.headD 0) (c.headD 0)) (l.filter fun c => c.tail == u)
theorem acc_full {l : List (List Nat)} {y : List Nat} (h : (l.filter fun c => c.tail == y) = kids adj y) : acc x w adj l y = tr x w adj (y.headD 0) (avail y) := by
  unfold acc
  rw [h, tr_eq]
  unfold kids
  rw [bd_map]
  exact bdL_congr (fun c _ => by rw [avail_cons]; rfl) fun _ _ => rfl
theorem acc_nil (u : List Nat) : acc x w adj [] u = (0, 1) := rfl
theorem acc_other {l : List (List Nat)} {y u : List Nat} (h : y.tail ≠ u) : acc x w adj (y :: l) u = acc x w adj l u := by
  unfold acc
  rw [List.filter_cons, if_neg (by rw [beq_iff_eq]; exact h)]
theorem acc_same {l : List (List Nat)} {y : List Nat} : acc x w adj (y :: l) y.tail = ((acc x w adj l y.tail).1 * (x * (tr x w adj (y.headD 0) (avail y)).2 + (tr x w adj (y.headD 0) (avail y)).1) + w (y.tail.headD 0) (y.headD 0) * (tr x w adj (y.headD 0) (avail y)).2 * (acc x w adj l y.tail).2, (acc x w adj l y.tail).2 * (x * (tr x w adj (y.headD 0) (avail y)).2 + (tr x w adj (y.headD 0) (avail y)).1)) := by
  conv => lhs; unfold acc
  rw [List.filter_cons, if_pos (by rw [beq_iff_eq])]
  conv => lhs; rewrite [bdL_s]
  rfl
/- how large all can be -/
theorem bd_bound {α : Type} {f : α → Int × Int} {wv : α → Int} {a : Nat} (hx : 1 ≤ x) (hx4 : x ≤ 4) : ∀ {l : List α}, (∀ c ∈ l, (0 ≤ (f c).1 ∧ (f c).1 ≤ 2 ^ a) ∧ (0 ≤ (f c).2 ∧ (f c).2 ≤ 2 ^ a) ∧ 0 ≤ wv c ∧ wv c ≤ 4) →
    (0 ≤ (bdL x f wv l).1 ∧ (bdL x f wv l).1 ≤ 2 ^ ((a + 4) * l.length)) ∧ (0 ≤ (bdL x f wv l).2 ∧ (bdL x f wv l).2 ≤ 2 ^ ((a + 4) * l.length))
  | [], _ => by rewrite [bdL_z]; rw [List.length_nil, Nat.mul_zero]; decide
  | c :: l, h => by
    have ih := bd_bound hx hx4 (l := l) fun b hb => h b (.tail _ hb)
    obtain ⟨⟨h1, h2⟩, ⟨h3, h4⟩, h5, h6⟩ := h c (.head _)
    rewrite [bdL_s]
    simp only []
    rw [List.length_cons, Nat.mul_succ, Int.pow_add, Int.pow_add 2 a 4]
    generalize (2 : Int) ^ a = A at *
    generalize (2 : Int) ^ ((a + 4) * l.length) = P at *
    generalize (bdL x f wv l).1 = t at *
    generalize (bdL x f wv l).2 = b at *
    generalize (f c).1 = D at *
    generalize (f c).2 = B at *
    generalize wv c = k at *
    obtain ⟨⟨t0, t1⟩, b0, b1⟩ := ih
    have m1 : x * B ≤ 4 * A := Int.mul_le_mul hx4 h4 h3 (by omega)
    have m0 : 0 ≤ x * B := Int.mul_nonneg (by omega) h3
    have m2 : k * B ≤ 4 * A := Int.mul_le_mul h6 h4 h3 (by omega)
    have m3 : 0 ≤ k * B := Int.mul_nonneg h5 h3
    have w1 : t * (x * B + D) ≤ P * (5 * A) := Int.mul_le_mul t1 (by omega) (by omega) (by omega)
    have w2 : 0 ≤ t * (x * B + D) := Int.mul_nonneg t0 (by omega)
    have w3 : k * B * b ≤ 4 * A * P := Int.mul_le_mul m2 b1 b0 (by omega)
    have w4 : 0 ≤ k * B * b := Int.mul_nonneg m3 b0
    have w5 : b * (x * B + D) ≤ P * (5 * A) := Int.mul_le_mul b1 (by omega) (by omega) (by omega)
    have w6 : 0 ≤ b * (x * B + D) := Int.mul_nonneg b0 (by omega)
    have e1 : P * (5 * A) = 5 * (P * A) := by grind
    have e2 : 4 * A * P = 4 * (P * A) := by grind
    have e3 : P * (A * 2 ^ 4) = 16 * (P * A) := by grind
    have e4 : 0 ≤ P * A := Int.mul_nonneg (by omega) (by omega)
    rw [e3]
    refine ⟨⟨?_, ?_⟩, ?_, ?_⟩ <;> omega
noncomputable def eB : Nat → Nat
  | 0 => 0
  | n + 1 => (eB n + 4) * 5
theorem tr_bound (hx : 1 ≤ x) (hx4 : x ≤ 4) (hw0 : ∀ a b, 0 ≤ w a b) (hw4 : ∀ a b, w a b ≤ 4) : ∀ (n v : Nat) (S : List Nat), S.length ≤ 5 → (0 ≤ (trK x w adj n v S).1 ∧ (trK x w adj n v S).1 ≤ 2 ^ eB n) ∧ 0 ≤ (trK x w adj n v S).2 ∧ (trK x w adj n v S).2 ≤ 2 ^ eB n := by
  intro n
  induction n with
  | zero => intro v S _; rewrite [trK_z]; decide
  | succ n ih =>
    intro v S hS
    rewrite [trK_s]
    have hl : (S.filter (adj v)).length ≤ 5 := Nat.le_trans (List.length_filter_le _ _) hS
    have h := bd_bound (l := S.filter (adj v)) (f := fun c => trK x w adj n c (del c S)) (wv := w v) (a := eB n) hx hx4 (fun c _ => by
      have := del_le c S
      have := ih c (del c S) (by omega)
      exact ⟨this.1, this.2, hw0 _ _, hw4 _ _⟩)
    have hp : (2 : Int) ^ ((eB n + 4) * (S.filter (adj v)).length) ≤ 2 ^ eB (n + 1) := by
      have : (eB n + 4) * (S.filter (adj v)).length ≤ eB (n + 1) := Nat.mul_le_mul_left _ hl
      exact_mod_cast Nat.pow_le_pow_right (by decide) this
    exact ⟨⟨h.1.1, Int.le_trans h.1.2 hp⟩, h.2.1, Int.le_trans h.2.2 hp⟩
theorem avail_len (y : List Nat) : (avail y).length ≤ 5 := List.length_filter_le _ _
theorem acc_bound (hx : 1 ≤ x) (hx4 : x ≤ 4) (hw0 : ∀ a b, 0 ≤ w a b) (hw4 : ∀ a b, w a b ≤ 4) {l : List (List Nat)} (hl : l.length ≤ 64) (u : List Nat) : (0 ≤ (acc x w adj l u).1 ∧ (acc x w adj l u).1 ≤ 2 ^ 1000000) ∧ 0 ≤ (acc x w adj l u).2 ∧ (acc x w adj l u).2 ≤ 2 ^ 1000000 := by
  have h := bd_bound (l := l.filter fun c => c.tail == u) (f := fun c => tr x w adj (c.headD 0) (avail c)) (wv := fun c => w (u.headD 0) (c.headD 0)) (a := eB 5) hx hx4 (fun c _ => by
    have := tr_bound (adj := adj) hx hx4 hw0 hw4 5 (c.headD 0) (avail c) (avail_len c)
    rw [trK_eq (avail_len c)] at this
    exact ⟨this.1, this.2, hw0 _ _, hw4 _ _⟩)
  have hp : (2 : Int) ^ ((eB 5 + 4) * (l.filter fun c => c.tail == u).length) ≤ 2 ^ 1000000 := by
    have h1 : (l.filter fun c => c.tail == u).length ≤ 64 := Nat.le_trans (List.length_filter_le _ _) hl
    have h2 : (eB 5 + 4) * (l.filter fun c => c.tail == u).length ≤ 15624 * 64 := Nat.mul_le_mul (by decide) h1
    have h3 : (eB 5 + 4) * (l.filter fun c => c.tail == u).length ≤ 1000000 := by omega
    generalize (eB 5 + 4) * (l.filter fun c => c.tail == u).length = k at h3
    exact_mod_cast (Nat.pow_le_pow_right (n := 2) (by decide) h3)
  exact ⟨⟨h.1.1, Int.le_trans h.1.2 hp⟩, h.2.1, Int.le_trans h.2.2 hp⟩
end
end Mine
end
section
open PySem PySem.W PyProof.Rows
set_option maxRecDepth 100000
set_option maxHeartbeats 8000000
namespace Mine
/- the walk stands still here -/
structure Stop (P : Prop) : Prop where
  get : P
/- a debt: shown at the walk's end -/
structure Owe (P : Prop) : Prop where
  pay : P
theorem owe_rshift {prog : Program} {w : World} {A : Around} {E : Value → Shared → Prop} {s : Shared} {a n : Int} {t u : Tok} {Q : Value → Shared → Prop} (hn : Owe (0 ≤ n)) (h : Q (.int (a.fdiv (2 ^ n.toNat)) s.toks) { s with toks := s.toks + 1 }) :
    wpAny (model prog w) A (binaryOp .RShift (.int a t) (.int n u)) Q E s := rshift_int hn.pay h
theorem owe_lshift {prog : Program} {w : World} {A : Around} {E : Value → Shared → Prop} {s : Shared} {a n : Int} {t u : Tok} {Q : Value → Shared → Prop} (hn : Owe (0 ≤ n ∧ n ≤ 1000000 ∧ a.natAbs < 2 ^ 64)) (h : Q (.int (a * 2 ^ n.toNat) s.toks) { s with toks := s.toks + 1 }) :
    wpAny (model prog w) A (binaryOp .LShift (.int a t) (.int n u)) Q E s := lshift_int_small hn.pay.1 hn.pay.2.1 hn.pay.2.2 h
section
variable {n x lo hi : Int} (hn : 0 < n) (hn2 : n ≤ 30) (h1 : lo < hi) (hne : ¬ lo + 1 = hi)
include hn h1 hne
theorem owe_sh0 : 0 ≤ ((lo + hi).fdiv (2 ^ (1 : Int).toNat) - lo) * n := Int.mul_nonneg (by have := mid_b h1 hne; omega) (by omega)
include hn2
theorem owe_sh1 (h : hi - lo ≤ 60) : ((lo + hi).fdiv (2 ^ (1 : Int).toNat) - lo) * n ≤ 1000000 := by
  have q := mid_b h1 hne
  have : ((lo + hi).fdiv (2 ^ (1 : Int).toNat) - lo) * n ≤ 60 * 30 := Int.mul_le_mul (by omega) hn2 (by omega) (by omega)
  omega
end
theorem append_L {prog : Program} {w : World} {A : Around} {E : Value → Shared → Prop} {s : Shared} {h₀ : Heap} {L D : Addr} {m : Str → Option Value} {news news' : List (Addr × Obj)} {qv : List Value} {n : Nat} {x : Value} {Q : Value → Shared → Prop}
    (F : Fr h₀ L s.heap m) (N : News h₀ L s.heap news) (U : Upd D (listOf qv.toArray n) (listOf (qv ++ [x]).toArray (n + 1)) news news')
    (h : ∀ h', Fr h₀ L h' m → News h₀ L h' news' → Q .none { s with heap := h' }) (hsz : qv.length ≤ 1000000) : wpAny (model prog w) A (call (.builtin "list.append") [.ref D, x]) Q E s := by
  have e : listOf (qv ++ [x]).toArray (n + 1) = listOf (qv.toArray.push x) (n + 1) := by rw [List.push_toArray]
  rw [e] at U
  exact append_K F N U h (by rw [List.size_toArray, sizeLine_eq]; omega)
theorem reverse_L {prog : Program} {w : World} {A : Around} {E : Value → Shared → Prop} {s : Shared} {h₀ : Heap} {L D : Addr} {m : Str → Option Value} {news news' : List (Addr × Obj)} {qv : List Value} {n : Nat} {Q : Value → Shared → Prop}
    (F : Fr h₀ L s.heap m) (N : News h₀ L s.heap news) (_hm : (D, listOf qv.toArray n) ∈ news) (U : Upd D (listOf qv.toArray n) (listOf qv.reverse.toArray n) news news')
    (h : ∀ h', Fr h₀ L h' m → News h₀ L h' news' → Q .none { s with heap := h' }) (hsz : qv.length ≤ 1000000) : wpAny (model prog w) A (call (.builtin "list.reverse") [.ref D]) Q E s :=
  kl_reverse F N rfl U (by show qv.length ≤ sizeLine; rw [sizeLine_eq]; omega) h
theorem above_of_one {D : Addr} {o : Obj} {news : List (Addr × Obj)} (h : ∀ p ∈ [(D, o)], ∀ q ∈ news, q.1 < p.1) : ∀ q ∈ news, q.1 < D := fun q hq => h _ (.head _) q hq
theorem ints_snoc {vs : List Value} {ns : List Int} {d : Int} {t : Tok} (h : IntsAre vs ns) : IntsAre (vs ++ [.int d t]) (ns ++ [d]) := by
  induction h with
  | nil => exact .cons d t .nil
  | cons i t' _ ih => exact .cons i t' ih
theorem ints_rev {vs : List Value} {ns : List Int} (h : IntsAre vs ns) : IntsAre vs.reverse ns.reverse := by
  induction h with
  | nil => exact .nil
  | cons i t' _ ih => rw [List.reverse_cons, List.reverse_cons]; exact ints_snoc ih
section
open PySem.Spec PySem.Calls PyProof.V
theorem pop0_L {prog : Program} {w : World} {A : Around} {E : Value → Shared → Prop} {s : Shared} {h₀ : Heap} {L D : Addr} {m : Str → Option Value} {news news' : List (Addr × Obj)} {v : Value} {vs : List Value} {n : Nat} {u : Tok} {Q : Value → Shared → Prop}
    (F : Fr h₀ L s.heap m) (N : News h₀ L s.heap news) (U : Upd D (listOf (v :: vs).toArray n) (listOf vs.toArray (n + 1)) news news') (hz : vs.length ≤ 1000) (h : ∀ h', Fr h₀ L h' m → News h₀ L h' news' → Q v { s with heap := h' }) :
    wpAny (model prog w) A (call (.builtin "list.pop") [.ref D, .int 0 u]) Q E s :=
  kl_popAt (p := []) (q := vs) (k := 0) F N (by decide) (by rw [List.size_toArray, List.length_cons]; unfold seqIndex?; simp) rfl U (by show (v :: vs).length ≤ sizeLine; rw [sizeLine_eq, List.length_cons]; omega) h
end
theorem shift_bits {r d n y : Int} (hr : 0 ≤ r) (hr2 : r < y) (hy2 : y < 1073741824) (hd : 0 ≤ d) (hd2 : d < 2 ^ 30) (hn1 : 0 < n) (hn2 : n ≤ 30) : ((Builtin.Int.intBits (r * 2 ^ n.toNat + d) : Nat) : Int) - n ≤ 4000 := by
  have h1 : (2 : Int) ^ n.toNat ≤ 2 ^ 30 := by
    have : n.toNat ≤ 30 := by omega
    exact_mod_cast Nat.pow_le_pow_right (by decide) this
  have h2 : r * 2 ^ n.toNat ≤ 1073741824 * 2 ^ 30 := Int.mul_le_mul (by omega) h1 (Int.le_of_lt (pow_pos' _)) (by omega)
  have h3 : 0 ≤ r * 2 ^ n.toNat := Int.mul_nonneg hr (Int.le_of_lt (pow_pos' _))
  have h4 : Builtin.Int.intBits (r * 2 ^ n.toNat + d) ≤ 64 := intBits_le_64 (by omega) (by omega)
  omega
end Mine
end
end
section
set_option maxRecDepth 100000
namespace Mine
theorem chk_A : (masks.all fun m => LL.all fun s => chkA m s) = true := by decide +kernel
theorem chk_C : (masks.all fun m => LL.all fun s => chkC m s) = true := by decide +kernel
theorem chk_B : (masks.all fun m => LL.all fun s => chkB m s) = true := by decide +kernel
end Mine
end
section
open PySem PySem.W PyProof.Rows
set_option maxRecDepth 100000
namespace Mine
/- no run lowers the count of tokens -/
theorem runs_toks {M : Model} {Γ : Ctx} {p : Pos} {t : Sem Fin} {fs : List Frame} {s : Shared} {e : End} {s' : Shared} (h : Runs M Γ p t fs s e s') : s.toks ≤ s'.toks := by
  induction h
  all_goals first
    | exact Nat.le_refl _
    | assumption
    | (rename_i ih; exact Nat.le_trans (Nat.le_succ _) ih)
    | (rename_i ih; exact ih)
    | (rename_i ih1 ih2; exact Nat.le_trans ih1 ih2)
    | (rename_i ih1 _ ih2; exact Nat.le_trans ih1 ih2)
    | skip
theorem wakes_toks {M : Model} {Γ : Ctx} {p : Pos} {g : Nat} {r : Resume} {s : Shared} {res : GenResult} {s' : Shared} (h : Wakes M Γ p g r s res s') : s.toks ≤ s'.toks := by
  unfold Wakes at h
  split at h
  · exact h.elim
  · split at h
    · obtain ⟨e₁, s₁, h1, _, _, rfl⟩ := h
      have q := runs_toks h1; exact q
    · rw [h.2]; exact Nat.le_refl _
    · rw [h.2]; exact Nat.le_refl _
  · obtain ⟨e₁, s₁, h1, _, _, rfl⟩ := h
    have q := runs_toks h1; exact q
  · rw [h.2]; exact Nat.le_refl _
  · rw [h.2]; exact Nat.le_refl _
theorem wp_toks {X : Type} {M : Model} {Γ : Ctx} (tree : Sem X) {post : X → Pos → Shared → Prop} {exc : Value → Pos → Shared → Prop} {b : Nat} : ∀ (pos : Pos) (sh : Shared), b ≤ sh.toks →
    Sem.wp M Γ tree (fun x p s => b ≤ s.toks → post x p s) (fun v p s => b ≤ s.toks → exc v p s) pos sh → Sem.wp M Γ tree post exc pos sh := by
  induction tree with
  | pure x => exact fun pos sh hb h => h hb
  | raise v => exact fun pos sh hb h => h hb
  | unsupported | finish | yield | fork | await | register => exact fun _ _ _ h => h
  | rule _ k ih | «at» _ k ih | alloc _ k ih | loadIfAlive _ k ih | point _ k ih | ask k ih | os _ _ k ih | handled _ k ih | newGen _ k ih | stack k ih | thread k ih => exact fun _ _ hb h => ih _ _ _ hb h
  | fresh k ih => exact fun _ _ hb h => ih _ _ _ (Nat.le_succ_of_le hb) h
  | load a _ k ih | genState a k ih => exact fun _ _ hb ⟨o, ho, h⟩ => ⟨o, ho, ih _ _ _ hb h⟩
  | update a _ f k ih | choose _ _ k ih => exact fun _ _ hb ⟨ha, h⟩ => ⟨ha, ih _ _ _ hb h⟩
  | call c h g l k ih => exact fun _ _ hb ⟨r, s', hr, h⟩ => ⟨r, s', hr, ih _ _ _ (Nat.le_trans hb (runs_toks hr)) h⟩
  | resume g r l k ih => exact fun _ _ hb ⟨res, s', hw, h⟩ => ⟨res, s', hw, ih _ _ _ (Nat.le_trans hb (wakes_toks hw)) h⟩
/- a mark: what holds if the count has not fallen -/
structure Tk (a b : Nat) (P : Prop) : Prop where
  get : a ≤ b → P
theorem wpAny_toks {α : Type} {M : Model} {A : Around} {t : Sem α} {Q : α → Shared → Prop} {E : Value → Shared → Prop} {s : Shared} (h : wpAny M A t (fun v s' => Tk s.toks s'.toks (Q v s')) E s) : wpAny M A t Q E s := fun Γ p hΓ =>
  by
  refine wp_toks (b := s.toks) t p s (Nat.le_refl _) ?_
  exact Sem.wp_mono (post := fun v _ s' => Tk s.toks s'.toks (Q v s')) (exc := fun e _ s' => E e s') (exc' := fun v _ s_1 => s.toks ≤ s_1.toks → E v s_1) M Γ t (fun a _ s' (q : Tk _ _ _) => q.get) (fun e _ s' q _ => q) p s (h Γ p hΓ)
end Mine
end
section
open PySem
set_option maxRecDepth 100000
set_option maxHeartbeats 400000
namespace Mine
namespace Rx
open PySem.Sre
theorem runFor_done {m : M} (h : m.outcome.isSome = true) : ∀ n, M.runFor n m = m
  | 0 => rfl
  | n + 1 => by unfold M.runFor; rw [if_pos h]
theorem runFor_add : ∀ (a b : Nat) (m : M), M.runFor (a + b) m = M.runFor b (M.runFor a m)
  | 0, b, m => by rw [Nat.zero_add]; rfl
  | a + 1, b, m => by
    rw [Nat.succ_add]
    conv => lhs; unfold M.runFor
    conv => rhs; rw [M.runFor]
    by_cases h : m.outcome.isSome = true
    · rw [if_pos h, if_pos h, runFor_done h]
    · rw [if_neg h, if_neg h]; exact runFor_add a b _
set_option genInjectivity false in
/- what of the machine changes -/
structure Core where
  must : Bool
  start : Nat
  pc : Nat
  pos : Nat
  handed : Nat
  om : Bool
  frames : List Sre.Frame
  weight : Nat
  answer : Option Bool
  outcome : Option Sre.Outcome
noncomputable def Core.toM (code text : Array Nat) (c : Core) (seen : Seen) : M :=
  { code, text, lim := text.size, start := c.start, lastStart := text.size, wholeText := false, mustAdvance := c.must, pc := c.pc, pos := c.pos, handed := c.handed, outermost := c.om, marks := #[], lastmark := -1, lastindex := -1, loops := #[], inner := none,
    frames := c.frames, weight := c.weight, answer := c.answer, seen, outcome := c.outcome }
noncomputable def Go (code text : Array Nat) (N : Nat) (a b : Core) : Prop := ∀ seen, ∃ k seen', k ≤ N ∧ M.runFor k (a.toM code text seen) = b.toM code text seen'
section
variable {code text : Array Nat} {c : Core}
theorem Go.trans {N M' : Nat} {a b d : Core} (h : Go code text N a b) (h' : Go code text M' b d) : Go code text (N + M') a d := fun seen => by
  obtain ⟨k, s1, hk, e⟩ := h seen
  obtain ⟨k', s2, hk', e'⟩ := h' s1
  exact ⟨k + k', s2, by omega, by rw [runFor_add, e, e']⟩
theorem Go.refl {a : Core} : Go code text 0 a a := fun seen => ⟨0, seen, Nat.le_refl _, rfl⟩
theorem go_of {a b : Core} (ho : a.outcome = none) (h : ∀ seen, ∃ seen', (a.toM code text seen).step = b.toM code text seen') : Go code text 1 a b := fun seen => by
  obtain ⟨s', e⟩ := h seen
  refine ⟨1, s', Nat.le_refl _, ?_⟩
  unfold M.runFor
  rw [if_neg (by show ¬ a.outcome.isSome = true; rw [ho]; simp)]
  unfold M.runFor
  exact e
theorem step_exec (ho : c.outcome = none) (ha : c.answer = none) (hp : c.pc < code.size) (seen : Seen) : (c.toM code text seen).step = (c.toM code text seen).exec := by
  unfold M.step
  rw [if_neg (by show ¬ c.outcome.isSome = true; rw [ho]; simp)]
  have e : (c.toM code text seen).answer = none := ha
  rw [e]
  show (if c.pc < code.size then _ else _) = _
  rw [if_pos hp]
theorem word_eq (seen : Seen) (k : Nat) : (c.toM code text seen).word k = code.getD (c.pc + k) 0 := rfl
theorem go_lit_yes (ho : c.outcome = none) (ha : c.answer = none) (hp : c.pc < code.size) (h16 : code.getD c.pc 0 = 16) (hlt : c.pos < text.size) (hc : text.getD c.pos 0 = code.getD (c.pc + 1) 0) :
    Go code text 1 c { c with pc := c.pc + 2, pos := c.pos + 1 } := go_of ho fun seen => by
  rw [step_exec ho ha hp]
  unfold M.exec
  rw [word_eq, Nat.add_zero, h16]
  refine ⟨seen.add 16, ?_⟩
  show (if c.pos ≥ text.size then _ else _) = _
  rw [if_neg (Nat.not_le.mpr hlt)]
  show (match accepts code c.pc (text.getD c.pos 0) (seen.add 16) with | .error why => _ | .ok (false, seen) => _ | .ok (true, seen) => _) = _
  have : accepts code c.pc (text.getD c.pos 0) (seen.add 16) = .ok (true, seen.add 16) := by
    unfold accepts
    rw [h16, hc]
    show Except.ok (code.getD (c.pc + 1) 0 == code.getD (c.pc + 1) 0, seen.add 16) = _
    rw [beq_self_eq_true]
  rw [this]
  have hw : itemWidth code c.pc = 2 := by unfold itemWidth; rw [h16]; rfl
  show ({ (c.toM code text (seen.add 16)) with pc := c.pc + itemWidth code c.pc, pos := c.pos + 1 } : M) = _
  rw [hw]
  rfl
theorem go_lit_no (ho : c.outcome = none) (ha : c.answer = none) (hp : c.pc < code.size) (h16 : code.getD c.pc 0 = 16) (hc : c.pos < text.size → text.getD c.pos 0 ≠ code.getD (c.pc + 1) 0) :
    Go code text 1 c { c with answer := some false } := go_of ho fun seen => by
  rw [step_exec ho ha hp]
  unfold M.exec
  rw [word_eq, Nat.add_zero, h16]
  refine ⟨seen.add 16, ?_⟩
  show (if c.pos ≥ text.size then _ else _) = _
  by_cases hlt : c.pos < text.size
  · rw [if_neg (Nat.not_le.mpr hlt)]
    show (match accepts code c.pc (text.getD c.pos 0) (seen.add 16) with | .error why => _ | .ok (false, seen) => _ | .ok (true, seen) => _) = _
    have : accepts code c.pc (text.getD c.pos 0) (seen.add 16) = .ok (false, seen.add 16) := by
      unfold accepts
      rw [h16]
      show Except.ok (text.getD c.pos 0 == code.getD (c.pc + 1) 0, seen.add 16) = _
      rw [beq_eq_false_iff_ne.mpr (hc hlt)]
    rw [this]
    rfl
  · rw [if_pos (Nat.not_lt.mp hlt)]; rfl
theorem go_jump (ho : c.outcome = none) (ha : c.answer = none) (hp : c.pc < code.size) (h15 : code.getD c.pc 0 = 15) : Go code text 1 c { c with pc := c.pc + 1 + code.getD (c.pc + 1) 0 } := go_of ho fun seen => by
  rw [step_exec ho ha hp]
  unfold M.exec
  rw [word_eq, Nat.add_zero, h15]
  exact ⟨seen.add 15, rfl⟩
theorem go_success (ho : c.outcome = none) (ha : c.answer = none) (hp : c.pc < code.size) (h1 : code.getD c.pc 0 = 1) (hm : (c.must && c.pos == c.start) = false) : Go code text 1 c { c with handed := c.pos, answer := some true } := go_of ho fun seen => by
  rw [step_exec ho ha hp]
  unfold M.exec
  rw [word_eq, Nat.add_zero, h1]
  refine ⟨seen.add 1, ?_⟩
  show (if (c.om && ((false && c.pos != text.size) || (c.must && c.pos == c.start))) = true then _ else _) = _
  rw [hm]
  simp only [Bool.false_and, Bool.or_false, Bool.and_false, Bool.false_eq_true, if_false]
  rfl
theorem go_branch (ho : c.outcome = none) (ha : c.answer = none) (hp : c.pc < code.size) (h7 : code.getD c.pc 0 = 7) (h0 : code.getD (c.pc + 1) 0 ≠ 0) (hw : c.weight ≤ 1000) :
    Go code text 1 c { c with frames := { wait := .nextBranch, pc := c.pc + 1, pos := c.pos, outermost := c.om } :: c.frames, weight := c.weight + 1, pc := c.pc + 1 + 1, handed := c.pos } := go_of ho fun seen => by
  rw [step_exec ho ha hp]
  unfold M.exec
  rw [word_eq, Nat.add_zero, h7]
  refine ⟨seen.add 7, ?_⟩
  show M.alternative _ (c.pc + 1) _ = _
  unfold M.alternative
  show (if (code.getD (c.pc + 1) 0 == 0) = true then _ else _) = _
  rw [if_neg (by simpa using h0)]
  unfold M.attempt
  show (if c.weight + 1 + 0 > 16777216 then _ else _) = _
  rw [if_neg (by omega)]
  rfl
theorem go_not (ho : c.outcome = none) (ha : c.answer = none) (hp : c.pc < code.size) (h5 : code.getD c.pc 0 = 5) (h0 : code.getD (c.pc + 2) 0 = 0) (hw : c.weight ≤ 1000) :
    Go code text 1 c { c with frames := { wait := .lookNot, pc := c.pc, pos := c.pos, outermost := c.om } :: c.frames, weight := c.weight + 1, pc := c.pc + 3, handed := c.pos, om := false } := go_of ho fun seen => by
  rw [step_exec ho ha hp]
  unfold M.exec
  rw [word_eq, Nat.add_zero, h5]
  refine ⟨seen.add 5, ?_⟩
  show (if c.pos < code.getD (c.pc + 2) 0 then _ else M.attempt _ _ (c.pc + 3) (c.pos - code.getD (c.pc + 2) 0) false) = _
  rw [h0, if_neg (Nat.not_lt_zero _), Nat.sub_zero]
  unfold M.attempt
  show (if c.weight + 1 + 0 > 16777216 then _ else _) = _
  rw [if_neg (by omega)]
  rfl
theorem go_at (ho : c.outcome = none) (ha : c.answer = none) (hp : c.pc < code.size) (h6 : code.getD c.pc 0 = 6) (h1 : code.getD (c.pc + 1) 0 = 1) {b : Bool} (hb : (c.pos == 0 || text.getD (c.pos - 1) 0 == 10) = b) :
    Go code text 1 c (if b = true then { c with pc := c.pc + 2 } else { c with answer := some false }) := go_of ho fun seen => by
  rw [step_exec ho ha hp]
  unfold M.exec
  rw [word_eq, Nat.add_zero, h6]
  refine ⟨(seen.add 6).add 44, ?_⟩
  show (match M.isAt (c.toM code text (seen.add 6)) (code.getD (c.pc + 1) 0) with | .error why => _ | .ok yes => if yes = true then ({ (c.toM code text ((seen.add 6).add (43 + code.getD (c.pc + 1) 0))) with pc := c.pc + 2 } : M) else M.say (c.toM code text ((seen.add 6).add (43 + code.getD (c.pc + 1) 0))) false) = _
  rw [h1]
  show (if (c.pos == 0 || text.getD (c.pos - 1) 0 == 10) = true then _ else _) = _
  rw [hb]
  cases b <;> rfl
theorem step_back {f : Sre.Frame} {rest : List Sre.Frame} {yes : Bool} (ho : c.outcome = none) (ha : c.answer = some yes) (hf : c.frames = f :: rest) (hk : f.kept.marks.size = 0) (seen : Seen) :
    (c.toM code text seen).step = M.resume (({ c with answer := none, frames := rest, weight := c.weight - 1, pc := f.pc, pos := f.pos, om := f.outermost } : Core).toM code text seen) f yes := by
  unfold M.step
  rw [if_neg (by show ¬ c.outcome.isSome = true; rw [ho]; simp)]
  have e : (c.toM code text seen).answer = some yes := ha
  have e2 : (c.toM code text seen).frames = f :: rest := hf
  rw [e, e2]
  show M.resume _ f yes = M.resume _ f yes
  rw [hk]
  rfl
theorem go_end {yes : Bool} (ho : c.outcome = none) (ha : c.answer = some yes) (hf : c.frames = []) : Go code text 1 c { c with outcome := some (if yes then .matched else .failed) } := go_of ho fun seen => by
  obtain ⟨mu, st, pc, po, hd', om, fr, we, an, ou⟩ := c
  dsimp only at ho ha hf
  subst ho; subst ha; subst hf
  exact ⟨seen, rfl⟩
/- yes handed on from a start or a branch -/
theorem go_up {f : Sre.Frame} {rest : List Sre.Frame} (ho : c.outcome = none) (ha : c.answer = some true) (hf : c.frames = f :: rest) (hk : f.kept = {}) (hw : f.wait = .nextStart ∨ f.wait = .nextBranch) :
    Go code text 1 c { c with answer := some true, frames := rest, weight := c.weight - 1, pc := f.pc, pos := f.pos, om := f.outermost } := go_of ho fun seen => by
  rw [step_back ho ha hf (by rw [hk]; rfl)]
  refine ⟨seen, ?_⟩
  unfold M.resume
  rcases hw with h | h <;> (rw [h]; rfl)
theorem go_next_alt {f : Sre.Frame} {rest : List Sre.Frame} (ho : c.outcome = none) (ha : c.answer = some false) (hf : c.frames = f :: rest) (hk : f.kept = {}) (hw : f.wait = .nextBranch) (h0 : code.getD (f.pc + code.getD f.pc 0) 0 ≠ 0) (hwt : c.weight ≤ 1000) (hw1 : 1 ≤ c.weight) :
    Go code text 1 c { c with answer := none, frames := { wait := .nextBranch, pc := f.pc + code.getD f.pc 0, pos := f.pos, outermost := f.outermost } :: rest, pc := f.pc + code.getD f.pc 0 + 1, pos := f.pos, handed := f.pos, om := f.outermost } := go_of ho fun seen => by
  rw [step_back ho ha hf (by rw [hk]; rfl)]
  refine ⟨seen, ?_⟩
  unfold M.resume
  rw [hw, hk]
  show M.alternative _ (f.pc + code.getD f.pc 0) _ = _
  unfold M.alternative
  show (if (code.getD (f.pc + code.getD f.pc 0) 0 == 0) = true then _ else _) = _
  rw [if_neg (by simpa using h0)]
  unfold M.attempt
  show (if c.weight - 1 + 1 + 0 > 16777216 then _ else _) = _
  rw [if_neg (by omega)]
  have e : c.weight - 1 + 1 + 0 = c.weight := by omega
  unfold Core.toM
  show ({ code := code, text := text, lim := text.size, start := c.start, lastStart := text.size, wholeText := false, mustAdvance := c.must, pc := f.pc + code.getD f.pc 0 + 1, pos := f.pos, handed := f.pos, outermost := f.outermost, marks := #[], lastmark := -1, lastindex := -1, loops := #[], inner := none, frames := { wait := .nextBranch, pc := f.pc + code.getD f.pc 0, pos := f.pos, outermost := f.outermost } :: rest, weight := c.weight - 1 + 1 + 0, answer := none, seen := seen, outcome := c.outcome } : M) = _
  rw [e]
theorem go_not_no {f : Sre.Frame} {rest : List Sre.Frame} (ho : c.outcome = none) (ha : c.answer = some false) (hf : c.frames = f :: rest) (hk : f.kept = {}) (hw : f.wait = .lookNot) :
    Go code text 1 c { c with answer := none, frames := rest, weight := c.weight - 1, pc := f.pc + 1 + code.getD (f.pc + 1) 0, pos := f.pos, om := f.outermost } := go_of ho fun seen => by
  rw [step_back ho ha hf (by rw [hk]; rfl)]
  refine ⟨seen, ?_⟩
  unfold M.resume
  rw [hw, hk]
  rfl
end
end Rx
end Mine
end
section
set_option hygiene false in
local macro_rules | `(tactic| omega) => `(tactic| walk_at "MY om")
section
open PySem
set_option maxRecDepth 100000
set_option maxHeartbeats 400000
namespace Mine
namespace Rx
open PySem.Sre
noncomputable def code1 : Array Nat := #[14, 4, 0, 1, 1, 6, 1, 16, 46, 1]
noncomputable def code2 : Array Nat := #[14, 9, 4, 1, 2, 16, 10, 16, 13, 0, 7, 7, 16, 13, 16, 10, 15, 18, 5, 16, 10, 15, 13, 11, 16, 13, 5, 5, 0, 16, 10, 1, 15, 2, 0, 1]
section
variable {text : Array Nat}
/- a try of the first pattern at s -/
noncomputable def A1 (must : Bool) (s : Nat) (om : Bool) : Core := { must, start := s, pc := 5, pos := s, handed := s, om, frames := [{ wait := .nextStart, pc := 5, pos := s, outermost := om }], weight := 1, answer := none, outcome := none }
noncomputable def hit1 (text : Array Nat) (p : Nat) : Bool := (p == 0 || text.getD (p - 1) 0 == 10) && decide (p < text.size) && text.getD p 0 == 46
theorem go_again1 {c : Core} {f : Sre.Frame} (ho : c.outcome = none) (ha : c.answer = some false) (hf : c.frames = [f]) (hk : f.kept = {}) (hw : f.wait = .nextStart) (hp : f.pc = 5) (hlt : f.pos < text.size) (hwt : c.weight = 1) :
    Go code1 text 1 c (A1 false (f.pos + 1) false) := go_of ho fun seen => by
  rw [step_back ho ha hf (by rw [hk]; rfl)]
  refine ⟨seen, ?_⟩
  obtain ⟨mu, st, pc, po, hd', om, fr, we, an, ou⟩ := c
  dsimp only at ho ha hf hwt
  subst ho; subst ha; subst hf; subst hwt
  unfold M.resume
  rw [hw]
  show (if f.pos < text.size then _ else _) = _
  rw [if_pos hlt]
  show M.attemptFrom _ (f.pos + 1) false = _
  unfold M.attemptFrom
  rw [if_pos (by rfl)]
  unfold M.attemptAt M.attempt
  have hno : ¬ (1 - 1 + 1 + 0 > 16777216) := by decide
  refine (if_neg hno).trans ?_
  show Core.toM code1 text { must := false, start := f.pos + 1, pc := f.pc, pos := f.pos + 1, handed := f.pos + 1, om := false, frames := [{ wait := .nextStart, pc := f.pc, pos := f.pos + 1, outermost := false }], weight := 1, answer := none, outcome := none } seen = _
  rw [hp]
  rfl
theorem go_over1 {c : Core} {f : Sre.Frame} (ho : c.outcome = none) (ha : c.answer = some false) (hf : c.frames = [f]) (hk : f.kept = {}) (hw : f.wait = .nextStart) (hlt : ¬ f.pos < text.size) :
    Go code1 text 1 c { c with answer := some false, frames := [], weight := c.weight - 1, pc := f.pc, pos := f.pos, om := f.outermost } := go_of ho fun seen => by
  rw [step_back ho ha hf (by rw [hk]; rfl)]
  refine ⟨seen, ?_⟩
  unfold M.resume
  rw [hw]
  show (if f.pos < text.size then _ else _) = _
  rw [if_neg hlt]
  rfl
theorem A1_yes {must : Bool} {s : Nat} {om : Bool} (h : hit1 text s = true) : ∃ b, Go code1 text 5 (A1 must s om) b ∧ b.start = s ∧ b.handed = s + 1 ∧ b.outcome = some .matched := by
  unfold hit1 at h
  rw [Bool.and_eq_true, Bool.and_eq_true] at h
  obtain ⟨⟨h1, h2⟩, h3⟩ := h
  have h2 := of_decide_eq_true h2
  have h3 : text.getD s 0 = 46 := by simpa using h3
  have g1 := go_at (code := code1) (text := text) (c := A1 must s om) rfl rfl (show 5 < code1.size by decide) rfl rfl h1
  rw [if_pos rfl] at g1
  have g2 := go_lit_yes (code := code1) (text := text) (c := { A1 must s om with pc := 7 }) rfl rfl (show 7 < code1.size by decide) rfl h2 h3
  have g3 := go_success (code := code1) (text := text) (c := { A1 must s om with pc := 9, pos := s + 1 }) rfl rfl (show 9 < code1.size by decide) rfl (by show (must && (s + 1 == s)) = false; rw [beq_eq_false_iff_ne.mpr (by omega), Bool.and_false])
  have g4 := go_up (code := code1) (text := text) (c := { A1 must s om with pc := 9, pos := s + 1, handed := s + 1, answer := some true }) rfl rfl rfl rfl (.inl rfl)
  have g5 := go_end (code := code1) (text := text) (c := { A1 must s om with pc := 5, pos := s, handed := s + 1, answer := some true, frames := [], weight := 0 }) (yes := true) rfl rfl rfl
  exact ⟨_, (((g1.trans g2).trans g3).trans g4).trans g5, rfl, rfl, rfl⟩
theorem A1_fails {must : Bool} {s : Nat} {om : Bool} (h : hit1 text s = false) : ∃ N b, N ≤ 2 ∧ Go code1 text N (A1 must s om) b ∧ b.outcome = none ∧ b.answer = some false ∧ b.frames = (A1 must s om).frames ∧ b.weight = 1 := by
  by_cases h1 : (s == 0 || text.getD (s - 1) 0 == 10) = true
  · have g1 := go_at (code := code1) (text := text) (c := A1 must s om) rfl rfl (show 5 < code1.size by decide) rfl rfl h1
    rw [if_pos rfl] at g1
    have g2 := go_lit_no (code := code1) (text := text) (c := { A1 must s om with pc := 7 }) rfl rfl (show 7 < code1.size by decide) rfl (by
      intro hlt e
      have e' : text.getD s 0 = 46 := e
      unfold hit1 at h
      rw [h1, decide_eq_true (show s < text.size from hlt), e'] at h
      cases h)
    exact ⟨_, _, Nat.le_refl 2, g1.trans g2, rfl, rfl, rfl, rfl⟩
  · have h1' : (s == 0 || text.getD (s - 1) 0 == 10) = false := by simpa using h1
    have g1 := go_at (code := code1) (text := text) (c := A1 must s om) rfl rfl (show 5 < code1.size by decide) rfl rfl h1'
    rw [if_neg Bool.false_ne_true] at g1
    exact ⟨_, _, by omega, g1, rfl, rfl, rfl, rfl⟩
theorem Go.le {code : Array Nat} {N N' : Nat} {a b : Core} (h : Go code text N a b) (hN : N ≤ N') : Go code text N' a b := fun seen => by
  obtain ⟨k, s, hk, e⟩ := h seen
  exact ⟨k, s, by omega, e⟩
theorem A1_next {must : Bool} {s : Nat} {om : Bool} (h : hit1 text s = false) (hs : s < text.size) : Go code1 text 3 (A1 must s om) (A1 false (s + 1) false) := by
  obtain ⟨N, b, hN, g, ho, ha, hf, hw⟩ := A1_fails (must := must) (om := om) h
  exact (g.trans (go_again1 (f := { wait := .nextStart, pc := 5, pos := s, outermost := om }) ho ha hf rfl rfl rfl hs hw)).le (by omega)
theorem A1_over {must : Bool} {s : Nat} {om : Bool} (h : hit1 text s = false) (hs : ¬ s < text.size) : ∃ b, Go code1 text 4 (A1 must s om) b ∧ b.outcome = some .failed := by
  obtain ⟨N, b, hN, g, ho, ha, hf, hw⟩ := A1_fails (must := must) (om := om) h
  have g1 := go_over1 (f := { wait := .nextStart, pc := 5, pos := s, outermost := om }) ho ha hf rfl rfl hs
  have g2 := go_end (code := code1) (text := text) (c := { b with answer := some false, frames := [], weight := b.weight - 1, pc := 5, pos := s, om := om }) (yes := false) ho rfl rfl
  exact ⟨_, ((g.trans g1).trans g2).le (by omega), rfl⟩
theorem A1_to {must : Bool} : ∀ (d s : Nat) (om : Bool), (∀ q, s ≤ q → q < s + d → hit1 text q = false) → s + d ≤ text.size → ∃ must' om', Go code1 text (3 * d) (A1 must s om) (A1 must' (s + d) om')
  | 0, s, om, _, _ => ⟨must, om, Go.refl⟩
  | d + 1, s, om, h, hs => by
    have g := A1_next (text := text) (must := must) (om := om) (h s (Nat.le_refl _) (by omega)) (by omega)
    obtain ⟨m', o', g'⟩ := A1_to (must := false) d (s + 1) false (fun q h1 h2 => h q (by omega) (by omega)) (by omega)
    rw [show s + 1 + d = s + (d + 1) by omega] at g'
    exact ⟨m', o', (g.trans g').le (by omega)⟩
/- the first pattern's search finds p -/
theorem search1_yes {must : Bool} {s p : Nat} (hsp : s ≤ p) (h : ∀ q, s ≤ q → q < p → hit1 text q = false) (hp : hit1 text p = true) :
    ∃ k m, k ≤ 3 * text.size + 5 ∧ M.runFor k (forSearch code1 text 0 s text.size must) = m ∧ m.start = p ∧ m.handed = p + 1 ∧ m.outcome = some .matched := by
  have hlt : p < text.size := by
    unfold hit1 at hp
    rw [Bool.and_eq_true, Bool.and_eq_true] at hp
    exact of_decide_eq_true hp.1.2
  have e : forSearch code1 text 0 s text.size must = (A1 must s true).toM code1 text (({} : Seen).add 14) := by
    unfold forSearch
    show (if (decide (s > text.size) || decide (text.size - s < 1)) = true then _ else _) = _
    rw [decide_eq_false (by omega), decide_eq_false (by omega), if_neg (by decide)]
    rfl
  obtain ⟨m', o', g⟩ := A1_to (text := text) (must := must) (p - s) s true (fun q h1 h2 => h q h1 (by omega)) (by omega)
  rw [show s + (p - s) = p by omega] at g
  obtain ⟨b, g2, b1, b2, b3⟩ := A1_yes (text := text) (must := m') (om := o') hp
  obtain ⟨k, seen', hk, e2⟩ := (g.trans g2) (({} : Seen).add 14)
  exact ⟨k, b.toM code1 text seen', by omega, by rw [e]; exact e2, b1, b2, b3⟩
theorem search1_no {must : Bool} {s : Nat} (h : ∀ q, s ≤ q → q < text.size → hit1 text q = false) :
    ∃ k m, k ≤ 3 * text.size + 5 ∧ M.runFor k (forSearch code1 text 0 s text.size must) = m ∧ m.outcome = some .failed := by
  by_cases hs : s < text.size
  · have e : forSearch code1 text 0 s text.size must = (A1 must s true).toM code1 text (({} : Seen).add 14) := by
      unfold forSearch
      show (if (decide (s > text.size) || decide (text.size - s < 1)) = true then _ else _) = _
      rw [decide_eq_false (by omega), decide_eq_false (by omega), if_neg (by decide)]
      rfl
    obtain ⟨m', o', g⟩ := A1_to (text := text) (must := must) (text.size - s) s true (fun q h1 h2 => h q h1 (by omega)) (by omega)
    rw [show s + (text.size - s) = text.size by omega] at g
    have hn : hit1 text text.size = false := by
      unfold hit1
      rw [decide_eq_false (Nat.lt_irrefl _), Bool.and_false, Bool.false_and]
    obtain ⟨b, g2, b3⟩ := A1_over (text := text) (must := m') (om := o') hn (Nat.lt_irrefl _)
    obtain ⟨k, seen', hk, e2⟩ := (g.trans g2) (({} : Seen).add 14)
    exact ⟨k, b.toM code1 text seen', by omega, by rw [e]; exact e2, b3⟩
  · refine ⟨1, _, by omega, rfl, ?_⟩
    unfold forSearch
    show M.outcome (M.runFor 1 (if (decide (s > text.size) || decide (text.size - s < 1)) = true then _ else _)) = _
    rw [decide_eq_true (show text.size - s < 1 by omega), Bool.or_true, if_pos rfl]
    rfl
end
end Rx
end Mine
end
section
open PySem
set_option maxRecDepth 100000
set_option maxHeartbeats 400000
namespace Mine
namespace Rx
open PySem.Sre
section
variable {text : Array Nat}
noncomputable def in2 (c : Nat) : Bool := c == 10 || c == 13
theorem inSet2 (c : Nat) (seen : Seen) : ∃ seen', inSet code2 c code2.size 5 true seen = .ok (in2 c, seen') := by
  show ∃ seen', inSet code2 c 36 5 true seen = .ok (in2 c, seen')
  by_cases h : c = 10
  · subst h
    refine ⟨seen.add 16, ?_⟩
    rfl
  · have h10 : (c == 10) = false := beq_eq_false_iff_ne.mpr h
    have e1 : inSet code2 c 36 5 true seen = inSet code2 c 35 7 true (seen.add 16) := by
      show (if (c == 10) = true then _ else _) = _
      rw [h10, if_neg Bool.false_ne_true]
      rfl
    rw [e1]
    unfold in2
    rw [h10, Bool.false_or]
    by_cases h' : c = 13
    · subst h'
      exact ⟨(seen.add 16).add 16, rfl⟩
    · have h13 : (c == 13) = false := beq_eq_false_iff_ne.mpr h'
      rw [h13]
      refine ⟨((seen.add 16).add 16).add 0, ?_⟩
      show (if (c == 13) = true then _ else _) = _
      rw [h13, if_neg Bool.false_ne_true]
      rfl
theorem admitted2_yes {m : M} (hc : m.code = code2) {p : Nat} (hp : in2 (m.text.getD p 0) = true) (hpl : p < m.lim) : ∀ (d s fuel : Nat) (seen : Seen), s + d = p → d < fuel → (∀ q, s ≤ q → q < p → in2 (m.text.getD q 0) = false) →
    ∃ seen', M.admitted m fuel s seen = .ok (some p, seen')
  | d, s, 0, seen, _, hf, _ => absurd hf (Nat.not_lt_zero _)
  | 0, s, fuel + 1, seen, hs, _, _ => by
    obtain rfl : s = p := by omega
    unfold M.admitted
    rw [if_neg (by omega), hc]
    obtain ⟨s', e⟩ := inSet2 (m.text.getD s 0) seen
    rw [e, hp]
    exact ⟨s', rfl⟩
  | d + 1, s, fuel + 1, seen, hs, hf, hq => by
    unfold M.admitted
    rw [if_neg (by omega), hc]
    obtain ⟨s', e⟩ := inSet2 (m.text.getD s 0) seen
    rw [e, hq s (Nat.le_refl _) (by omega)]
    exact admitted2_yes hc hp hpl d (s + 1) fuel s' (by omega) (by omega) (fun q h1 h2 => hq q (by omega) h2)
theorem admitted2_no {m : M} (hc : m.code = code2) : ∀ (fuel s : Nat) (seen : Seen), (∀ q, s ≤ q → q < m.lim → in2 (m.text.getD q 0) = false) → ∃ seen', M.admitted m fuel s seen = .ok (none, seen')
  | 0, s, seen, _ => ⟨seen, rfl⟩
  | fuel + 1, s, seen, hq => by
    unfold M.admitted
    by_cases h : s ≥ m.lim
    · rw [if_pos h]; exact ⟨seen, rfl⟩
    · rw [if_neg h, hc]
      obtain ⟨s', e⟩ := inSet2 (m.text.getD s 0) seen
      rw [e, hq s (Nat.le_refl _) (by omega)]
      exact admitted2_no hc fuel (s + 1) s' fun q h1 h2 => hq q (by omega) h2
theorem first2 {m : M} (hc : m.code = code2) : m.hasFirstSet = true := by
  unfold M.hasFirstSet
  rw [hc]
  rfl
theorem from2_yes {m : M} (hc : m.code = code2) {s p : Nat} {first : Bool} (hsp : s ≤ p) (hpl : p < m.lim) (h : ∀ q, s ≤ q → q < p → in2 (m.text.getD q 0) = false) (hp : in2 (m.text.getD p 0) = true) :
    ∃ seen', m.attemptFrom s first = ({ m with mustAdvance := false, seen := seen' } : M).attemptAt p first := by
  obtain ⟨s', ea⟩ := admitted2_yes (m := m) hc (p := p) hp hpl (p - s) s (m.lim + 1 - s) m.seen (by omega) (by omega) h
  refine ⟨s', ?_⟩
  unfold M.attemptFrom
  rw [first2 hc, if_neg (by decide), ea]
theorem from2_no {m : M} (hc : m.code = code2) {s : Nat} {first : Bool} (h : ∀ q, s ≤ q → q < m.lim → in2 (m.text.getD q 0) = false) :
    ∃ seen', m.attemptFrom s first = ({ m with seen := seen' } : M).say false := by
  obtain ⟨s', ea⟩ := admitted2_no (m := m) hc (m.lim + 1 - s) s m.seen h
  refine ⟨s', ?_⟩
  unfold M.attemptFrom
  rw [first2 hc, if_neg (by decide), ea]
/- the machine ahead of its first try -/
noncomputable def pre2 (text : Array Nat) (s : Nat) (must : Bool) : M := { code := code2, text := text, lim := text.size, start := s, lastStart := text.size, mustAdvance := must, pc := 10, pos := s, handed := s, marks := #[], seen := ({} : Seen).add 14 }
theorem search2_eq {text : Array Nat} {s : Nat} {must : Bool} (hs : s < text.size) : forSearch code2 text 0 s text.size must = (pre2 text s must).attemptFrom s true := by
  unfold forSearch
  show (if (decide (s > text.size) || decide (text.size - s < 1)) = true then _ else _) = _
  rw [decide_eq_false (by omega), decide_eq_false (by omega), if_neg (by decide)]
  rfl
/- a try of the second pattern at s -/
noncomputable def A2 (s : Nat) : Core := { must := false, start := s, pc := 10, pos := s, handed := s, om := true, frames := [{ wait := .nextStart, pc := 10, pos := s, outermost := true }], weight := 1, answer := none, outcome := none }
noncomputable def len2 (text : Array Nat) (p : Nat) : Nat := if text.getD p 0 = 13 ∧ p + 1 < text.size ∧ text.getD (p + 1) 0 = 10 then 2 else 1
noncomputable abbrev fs (s : Nat) : Sre.Frame := { wait := .nextStart, pc := 10, pos := s, outermost := true }
noncomputable abbrev fb (s pc : Nat) : Sre.Frame := { wait := .nextBranch, pc := pc, pos := s, outermost := true }
/- the end of an alternative that fits -/
theorem fit2 {s h pc e : Nat} : ∃ b, Go code2 text 4 { A2 s with frames := [fb s pc, fs s], weight := 2, pc := 35, pos := e, handed := h } b ∧ b.start = s ∧ b.handed = e ∧ b.outcome = some .matched := by
  have g1 := go_success (code := code2) (text := text) (c := { A2 s with frames := [fb s pc, fs s], weight := 2, pc := 35, pos := e, handed := h }) rfl rfl (show 35 < code2.size by decide) rfl rfl
  have g2 := go_up (code := code2) (text := text) (c := { A2 s with frames := [fb s pc, fs s], weight := 2, pc := 35, pos := e, handed := e, answer := some true }) (f := fb s pc) rfl rfl rfl rfl (.inr rfl)
  have g3 := go_up (code := code2) (text := text) (c := { A2 s with frames := [fs s], weight := 1, pc := pc, pos := s, handed := e, answer := some true }) (f := fs s) rfl rfl rfl rfl (.inl rfl)
  have g4 := go_end (code := code2) (text := text) (c := { A2 s with frames := [], weight := 0, pc := 10, pos := s, handed := e, answer := some true }) (yes := true) rfl rfl rfl
  exact ⟨_, ((g1.trans g2).trans g3).trans g4, rfl, rfl, rfl⟩
/- the first alternative fails -/
theorem alt1_no {s : Nat} (h : ¬ (text.getD s 0 = 13 ∧ s + 1 < text.size ∧ text.getD (s + 1) 0 = 10)) (hs : s < text.size) :
    Go code2 text 4 (A2 s) { A2 s with frames := [fb s 18, fs s], weight := 2, pc := 19, pos := s, handed := s } := by
  have g1 := go_branch (code := code2) (text := text) (c := A2 s) rfl rfl (show 10 < code2.size by decide) rfl (show code2.getD (10 + 1) 0 ≠ 0 by decide) (show 1 ≤ 1000 by decide)
  by_cases h1 : text.getD s 0 = 13
  · have g2 := go_lit_yes (code := code2) (text := text) (c := { A2 s with frames := [fb s 11, fs s], weight := 2, pc := 12, pos := s, handed := s }) rfl rfl (show 12 < code2.size by decide) rfl hs h1
    have g3 := go_lit_no (code := code2) (text := text) (c := { A2 s with frames := [fb s 11, fs s], weight := 2, pc := 14, pos := s + 1, handed := s }) rfl rfl (show 14 < code2.size by decide) rfl (fun h2 h3 => h ⟨h1, h2, h3⟩)
    have g4 := go_next_alt (code := code2) (text := text) (c := { A2 s with frames := [fb s 11, fs s], weight := 2, pc := 14, pos := s + 1, handed := s, answer := some false }) (f := fb s 11) rfl rfl rfl rfl rfl (show code2.getD (11 + code2.getD 11 0) 0 ≠ 0 by decide) (show 2 ≤ 1000 by decide) (show 1 ≤ 2 by decide)
    exact ((g1.trans g2).trans g3).trans g4
  · have g2 := go_lit_no (code := code2) (text := text) (c := { A2 s with frames := [fb s 11, fs s], weight := 2, pc := 12, pos := s, handed := s }) rfl rfl (show 12 < code2.size by decide) rfl (fun _ h3 => h1 h3)
    have g4 := go_next_alt (code := code2) (text := text) (c := { A2 s with frames := [fb s 11, fs s], weight := 2, pc := 12, pos := s, handed := s, answer := some false }) (f := fb s 11) rfl rfl rfl rfl rfl (show code2.getD (11 + code2.getD 11 0) 0 ≠ 0 by decide) (show 2 ≤ 1000 by decide) (show 1 ≤ 2 by decide)
    exact ((g1.trans g2).trans g4).le (by omega)
theorem A2_yes {s : Nat} (hs : s < text.size) (h : in2 (text.getD s 0) = true) : ∃ b, Go code2 text 16 (A2 s) b ∧ b.start = s ∧ b.handed = s + len2 text s ∧ b.outcome = some .matched := by
  by_cases h1 : text.getD s 0 = 13 ∧ s + 1 < text.size ∧ text.getD (s + 1) 0 = 10
  · have g1 := go_branch (code := code2) (text := text) (c := A2 s) rfl rfl (show 10 < code2.size by decide) rfl (show code2.getD (10 + 1) 0 ≠ 0 by decide) (show 1 ≤ 1000 by decide)
    have g2 := go_lit_yes (code := code2) (text := text) (c := { A2 s with frames := [fb s 11, fs s], weight := 2, pc := 12, pos := s, handed := s }) rfl rfl (show 12 < code2.size by decide) rfl hs h1.1
    have g3 := go_lit_yes (code := code2) (text := text) (c := { A2 s with frames := [fb s 11, fs s], weight := 2, pc := 14, pos := s + 1, handed := s }) rfl rfl (show 14 < code2.size by decide) rfl h1.2.1 h1.2.2
    have g4 := go_jump (code := code2) (text := text) (c := { A2 s with frames := [fb s 11, fs s], weight := 2, pc := 16, pos := s + 1 + 1, handed := s }) rfl rfl (show 16 < code2.size by decide) rfl
    obtain ⟨b, g5, b1, b2, b3⟩ := fit2 (text := text) (s := s) (h := s) (pc := 11) (e := s + 1 + 1)
    refine ⟨b, (((((g1.trans g2).trans g3).trans g4).trans g5).le (by omega)), b1, ?_, b3⟩
    rw [b2]; unfold len2; rw [if_pos h1]
  · have ga := alt1_no h1 hs
    have el : len2 text s = 1 := by unfold len2; rw [if_neg h1]
    rw [el]
    by_cases h2 : text.getD s 0 = 10
    · have g2 := go_lit_yes (code := code2) (text := text) (c := { A2 s with frames := [fb s 18, fs s], weight := 2, pc := 19, pos := s, handed := s }) rfl rfl (show 19 < code2.size by decide) rfl hs h2
      have g3 := go_jump (code := code2) (text := text) (c := { A2 s with frames := [fb s 18, fs s], weight := 2, pc := 21, pos := s + 1, handed := s }) rfl rfl (show 21 < code2.size by decide) rfl
      obtain ⟨b, g5, b1, b2, b3⟩ := fit2 (text := text) (s := s) (h := s) (pc := 18) (e := s + 1)
      exact ⟨b, ((((ga.trans g2).trans g3).trans g5).le (by omega)), b1, b2, b3⟩
    · have h13 : text.getD s 0 = 13 := by
        unfold in2 at h
        rw [Bool.or_eq_true] at h
        rcases h with h | h
        · exact absurd (by simpa using h) h2
        · simpa using h
      have g2 := go_lit_no (code := code2) (text := text) (c := { A2 s with frames := [fb s 18, fs s], weight := 2, pc := 19, pos := s, handed := s }) rfl rfl (show 19 < code2.size by decide) rfl (fun _ h3 => h2 h3)
      have g3 := go_next_alt (code := code2) (text := text) (c := { A2 s with frames := [fb s 18, fs s], weight := 2, pc := 19, pos := s, handed := s, answer := some false }) (f := fb s 18) rfl rfl rfl rfl rfl (show code2.getD (18 + code2.getD 18 0) 0 ≠ 0 by decide) (show 2 ≤ 1000 by decide) (show 1 ≤ 2 by decide)
      have g4 := go_lit_yes (code := code2) (text := text) (c := { A2 s with frames := [fb s 23, fs s], weight := 2, pc := 24, pos := s, handed := s }) rfl rfl (show 24 < code2.size by decide) rfl hs h13
      have g5 := go_not (code := code2) (text := text) (c := { A2 s with frames := [fb s 23, fs s], weight := 2, pc := 26, pos := s + 1, handed := s }) rfl rfl (show 26 < code2.size by decide) rfl rfl (show 2 ≤ 1000 by decide)
      have g6 := go_lit_no (code := code2) (text := text) (c := { A2 s with frames := [{ wait := .lookNot, pc := 26, pos := s + 1, outermost := true }, fb s 23, fs s], weight := 3, pc := 29, pos := s + 1, handed := s + 1, om := false }) rfl rfl (show 29 < code2.size by decide) rfl (fun h3 h4 => h1 ⟨h13, h3, h4⟩)
      have g7 := go_not_no (code := code2) (text := text) (c := { A2 s with frames := [{ wait := .lookNot, pc := 26, pos := s + 1, outermost := true }, fb s 23, fs s], weight := 3, pc := 29, pos := s + 1, handed := s + 1, om := false, answer := some false }) (f := { wait := .lookNot, pc := 26, pos := s + 1, outermost := true }) rfl rfl rfl rfl rfl
      have g8 := go_jump (code := code2) (text := text) (c := { A2 s with frames := [fb s 23, fs s], weight := 2, pc := 32, pos := s + 1, handed := s + 1 }) rfl rfl (show 32 < code2.size by decide) rfl
      obtain ⟨b, g9, b1, b2, b3⟩ := fit2 (text := text) (s := s) (h := s + 1) (pc := 23) (e := s + 1)
      exact ⟨b, ((((((((ga.trans g2).trans g3).trans g4).trans g5).trans g6).trans g7).trans g8).trans g9).le (by omega), b1, b2, b3⟩
theorem search2_yes {must : Bool} {s p : Nat} (hsp : s ≤ p) (hpl : p < text.size) (h : ∀ q, s ≤ q → q < p → in2 (text.getD q 0) = false) (hp : in2 (text.getD p 0) = true) :
    ∃ k m, k ≤ 20 ∧ M.runFor k (forSearch code2 text 0 s text.size must) = m ∧ m.start = p ∧ m.handed = p + len2 text p ∧ m.outcome = some .matched := by
  obtain ⟨b, g2, b1, b2, b3⟩ := A2_yes hpl hp
  have e : ∃ seen', forSearch code2 text 0 s text.size must = (A2 p).toM code2 text seen' := by
    rw [search2_eq (by omega)]
    obtain ⟨s', e⟩ := from2_yes (m := pre2 text s must) (first := true) rfl hsp hpl h hp
    exact ⟨s', e⟩
  obtain ⟨seen', e⟩ := e
  obtain ⟨k, s2, hk, e2⟩ := g2 seen'
  exact ⟨k, b.toM code2 text s2, by omega, by rw [e]; exact e2, b1, b2, b3⟩
theorem search2_no {must : Bool} {s : Nat} (h : ∀ q, s ≤ q → q < text.size → in2 (text.getD q 0) = false) :
    ∃ k m, k ≤ 20 ∧ M.runFor k (forSearch code2 text 0 s text.size must) = m ∧ m.outcome = some .failed := by
  refine ⟨1, _, by omega, rfl, ?_⟩
  by_cases hs : s < text.size
  · rw [search2_eq hs]
    obtain ⟨s', e⟩ := from2_no (m := pre2 text s must) (first := true) rfl h
    rw [e]
    rfl
  · unfold forSearch
    show M.outcome (M.runFor 1 (if (decide (s > text.size) || decide (text.size - s < 1)) = true then _ else _)) = _
    rw [decide_eq_true (show text.size - s < 1 by omega), Bool.or_true, if_pos rfl]
    rfl
end
end Rx
end Mine
end
end
section
open PySem PySem.W PyProof.Rows
namespace Mine
set_option hygiene false in
local macro_rules | `(tactic| walk_at "MY h0") => `(tactic| (k_here; (try k_unfold); (with_reducible refine wpAny_execs_cons ?_); (try dsimp only); k_fold))
section
set_option hygiene false in
local macro_rules | `(tactic| omega) => `(tactic| walk_at "MY om")
section
theorem off_Ell : True := by (w_top off; first | walk1 | trivial)
set_option maxRecDepth 100000
set_option maxHeartbeats 8000000
theorem len_one {prog : Program} {w : World} {A : Around} {E Q : Value → Shared → Prop} {s : Shared} {c : Nat} {t : Tok} (h : Q (.int (({ cps := #[c] } : Str).length) (s.toks + 1)) { s with toks := s.toks + 1 + 1 }) :
    wpAny (model prog w) A (call (.builtin "len") [.str { cps := #[c] } t]) Q E s := len_str (by show ¬ ((1 : Nat) : Int) ≥ 2 ^ 63; decide) h
set_option hygiene false in
local macro_rules | `(tactic| walk_at "execs cons") => `(tactic| walk_at "MY h0")
set_option hygiene false in
local macro_rules | `(tactic| walk_at "call builtin:str.find") => `(tactic| refine call_find4 ?_)
set_option hygiene false in
local macro_rules | `(tactic| walk_at "call builtin:str.rfind") => `(tactic| refine call_rfind4 ?_)
set_option hygiene false in
local macro_rules | `(tactic| walk_at "exec For Name Name cons nil") => `(tactic| (k_here; refine Stop.get ?_))
set_option hygiene false in
local macro_rules | `(tactic| walk_at "call builtin:len") => `(tactic| (with_reducible refine len_one ?_))
set_option hygiene false in
local macro_rules | `(tactic| walk_at "TurnX") => `(tactic| (dsimp only [TurnX]))
/- the places where the three pieces are found -/
noncomputable def emP0 (got : Str) : Int := find4 got (Str.ofString "") 0 got.length
noncomputable def emP1 (got c : Str) : Int := find4 got c (emP0 got + 0) got.length
noncomputable def emP2 (got c : Str) : Int := find4 got (Str.ofString "") (emP1 got c + 1) got.length
noncomputable def emF (got c : Str) : Bool := if emP0 got < 0 then false else if emP1 got c < 0 then false else if emP2 got c < 0 then false else true
noncomputable def emJ (got c : Str) : Nat → Int → Prop
  | 0, a => a = 0
  | 1, a => ¬ emP0 got < 0 ∧ a = emP0 got + 0
  | 2, a => ¬ emP0 got < 0 ∧ ¬ emP1 got c < 0 ∧ a = emP1 got c + 1
  | _, _ => ¬ emP0 got < 0 ∧ ¬ emP1 got c < 0 ∧ ¬ emP2 got c < 0
theorem em_end3 {got c : Str} {b : Int} (h : emJ got c 3 b) : true = emF got c := by
  obtain ⟨h0, h1, h2⟩ := h; unfold emF; rw [if_neg h0, if_neg h1, if_neg h2]
theorem em_end0 {got c : Str} {b : Int} (h : emJ got c 0 b) (q : find4 got (Str.ofString "") b got.length < 0) : false = emF got c := by
  cases (show b = 0 from h); unfold emF; rw [if_pos (show emP0 got < 0 from q)]
theorem em_end1 {got c : Str} {b : Int} (h : emJ got c 1 b) (q : find4 got c b got.length < 0) : false = emF got c := by
  obtain ⟨h0, rfl⟩ := h; unfold emF; rw [if_neg h0, if_pos (show emP1 got c < 0 from q)]
theorem em_end2 {got c : Str} {b : Int} (h : emJ got c 2 b) (q : find4 got (Str.ofString "") b got.length < 0) : false = emF got c := by
  obtain ⟨h0, h1, rfl⟩ := h; unfold emF; rw [if_neg h0, if_neg h1, if_pos (show emP2 got c < 0 from q)]
theorem em_t0 {got c : Str} {b : Int} (h : emJ got c 0 b) (q : ¬ find4 got (Str.ofString "") b got.length < 0) : emJ got c 1 (find4 got (Str.ofString "") b got.length + 0) := by
  cases (show b = 0 from h); exact ⟨q, rfl⟩
theorem em_t1 {got c : Str} {b : Int} (h : emJ got c 1 b) (q : ¬ find4 got c b got.length < 0) : emJ got c 2 (find4 got c b got.length + 1) := by
  obtain ⟨h0, rfl⟩ := h; exact ⟨h0, q, rfl⟩
theorem em_t2 {got c : Str} {b a : Int} (h : emJ got c 2 b) (q : ¬ find4 got (Str.ofString "") b got.length < 0) : emJ got c 3 a := by
  obtain ⟨h0, h1, rfl⟩ := h; exact ⟨h0, h1, q⟩
/- the text '...c...' of a place -/
noncomputable def wantF (c : Nat) : Str := Str.ofString "..." ++ ⟨#[c]⟩ ++ Str.ofString "..."
structure WantOk (W : Str) (c : Nat) : Prop where
  len : W.length = 7
  has : (Builtin.Str.occurrences W (Str.ofString "...") 0 W.length 1).isEmpty = false
  parts : Txt.split W (Str.ofString "...") = [Str.ofString "", ⟨#[c]⟩, Str.ofString ""]
theorem wantF_ok : ∀ c ∈ [97, 98, 99, 100, 101], WantOk (wantF c) c := by
  have h : ∀ c ∈ [97, 98, 99, 100, 101], (wantF c).length = 7 ∧ (Builtin.Str.occurrences (wantF c) (Str.ofString "...") 0 (wantF c).length 1).isEmpty = false ∧ Txt.split (wantF c) (Str.ofString "...") = [Str.ofString "", ⟨#[c]⟩, Str.ofString ""] := by decide +kernel
  exact fun c hc => ⟨(h c hc).1, (h c hc).2.1, (h c hc).2.2⟩
theorem want_notIn {prog : Program} {w : World} {A : Around} {E : Value → Shared → Prop} {s : Shared} {W : Str} {c : Nat} {t u : Tok} {Q : Value → Shared → Prop} (hW : WantOk W c) (h : Q (.bool false) s) : wpAny (model prog w) A (compareOp .NotIn (.str (Str.ofString "...") u) (.str W t)) Q E s :=
  notIn_str (by rw [hW.has]; exact h)
theorem want_split {prog : Program} {w : World} {A : Around} {E : Value → Shared → Prop} {s : Shared} {h₀ : Heap} {L : Addr} {m : Str → Option Value} {news : List (Addr × Obj)} {W : Str} {c : Nat} {t u : Tok} {Q : Value → Shared → Prop} (hW : WantOk W c) (F : Fr h₀ L s.heap m) (N : News h₀ L s.heap news)
    (h : ∀ D t1 t2 t3 h' k, Fr h₀ L h' m → News h₀ L h' ((D, listOf [Value.str (Str.ofString "") t1, .str ⟨#[c]⟩ t2, .str (Str.ofString "") t3].toArray 0) :: news) → (∀ p ∈ news, p.1 < D) → Q (.ref D) { s with heap := h', toks := k }) :
    wpAny (model prog w) A (call (.builtin "str.split") [.str W t, .str (Str.ofString "...") u]) Q E s := by
  refine KSpl.split1 F N (by decide) (fun D l h' k e a F' N' l1 => ?_) (by rw [hW.len, sizeLine_eq]; decide)
  rw [hW.parts] at e
  obtain ⟨t1, l1', rfl, e1⟩ := KSpl.cons_of e
  obtain ⟨t2, l2', rfl, e2⟩ := KSpl.cons_of e1
  obtain ⟨t3, l3', rfl, e3⟩ := KSpl.cons_of e2
  have e4 := KSpl.nil_of e3
  subst e4
  exact h D t1 t2 t3 h' k F' N' l1
set_option hygiene false in
local macro_rules | `(tactic| walk_at "compareOp NotIn str str") => `(tactic| refine want_notIn (by assumption) ?_)
set_option hygiene false in
local macro_rules | `(tactic| walk_at "call builtin:str.split") => `(tactic| (k_here; refine Stop.get ?_))
set_option hygiene false in
local macro_rules | `(tactic| walk_at "exec Assign cons Tuple") => `(tactic| (k_here; refine Stop.get ?_))
namespace ell_pure
noncomputable def S (w : World) (p : Program) (loose : List Str) (mean : ExcName → Option Value) (mg : Str → Option Value) (mb : Str → Option Value) (got : Str) (W : Str) (c : Nat) (tk : Tok) (tk2 : Tok) : Prop :=
  ∀ (hW : WantOk W c)  (hlen : got.length ≤ 100),
    Pure prg w (hd.heap_39 w.params) p loose mean mg mb 80 [.str W tk, .str got tk2] 2 20 (fun r => r = .bool (emF got ⟨#[c]⟩))
theorem c₁ : Nonempty {t : World × Program × (List Str) × (ExcName → Option Value) × (Str → Option Value) × (Str → Option Value) × Str × Str × Nat × Tok × Tok // S t.1 t.2.1 t.2.2.1 t.2.2.2.1 t.2.2.2.2.1 t.2.2.2.2.2.1 t.2.2.2.2.2.2.1 t.2.2.2.2.2.2.2.1 t.2.2.2.2.2.2.2.2.1 t.2.2.2.2.2.2.2.2.2.1 t.2.2.2.2.2.2.2.2.2.2 → ∀ t : World × Program × (List Str) × (ExcName → Option Value) × (Str → Option Value) × (Str → Option Value) × Str × Str × Nat × Tok × Tok, S t.1 t.2.1 t.2.2.1 t.2.2.2.1 t.2.2.2.2.1 t.2.2.2.2.2.1 t.2.2.2.2.2.2.1 t.2.2.2.2.2.2.2.1 t.2.2.2.2.2.2.2.2.1 t.2.2.2.2.2.2.2.2.2.1 t.2.2.2.2.2.2.2.2.2.2} := eps_ex ⟨(⟨fun _ _ => 0, { strHash := fun _ => 0, shareClass := fun _ => 0, mergeTok := fun _ => default, idOf := fun _ => 0, idOfShared := fun _ _ => 0, followText := fun _ => true, idOfImm := fun _ => 0 }⟩, default, default, default, default, default, default, default, default, default, default)⟩ fun t => S t.1 t.2.1 t.2.2.1 t.2.2.2.1 t.2.2.2.2.1 t.2.2.2.2.2.1 t.2.2.2.2.2.2.1 t.2.2.2.2.2.2.2.1 t.2.2.2.2.2.2.2.2.1 t.2.2.2.2.2.2.2.2.2.1 t.2.2.2.2.2.2.2.2.2.2
noncomputable def c₀ : World × Program × (List Str) × (ExcName → Option Value) × (Str → Option Value) × (Str → Option Value) × Str × Str × Nat × Tok × Tok := (Classical.choice c₁).val
noncomputable def w : World := c₀.1
noncomputable def p : Program := c₀.2.1
noncomputable def loose : List Str := c₀.2.2.1
noncomputable def mean : ExcName → Option Value := c₀.2.2.2.1
noncomputable def mg : Str → Option Value := c₀.2.2.2.2.1
noncomputable def mb : Str → Option Value := c₀.2.2.2.2.2.1
noncomputable def got : Str := c₀.2.2.2.2.2.2.1
noncomputable def W : Str := c₀.2.2.2.2.2.2.2.1
noncomputable def c : Nat := c₀.2.2.2.2.2.2.2.2.1
noncomputable def tk : Tok := c₀.2.2.2.2.2.2.2.2.2.1
noncomputable def tk2 : Tok := c₀.2.2.2.2.2.2.2.2.2.2
theorem main : S w p loose mean mg mb got W c tk tk2 := by
  unfold S
  intro hW hlen
  unfold prg
  k_fill
  unfold Pure
  intro dp un gd cn cs a ccd cl outer A₀ base h₀ L m news s Q E B F X N T hk hd hu hret
  refine wpAny_call ?_
  k_dflt ktr_enter
  k_steps
  all_goals try (refine Stop.mk ?_; (refine want_split (by assumption) (by k_asm) (by k_asm) ?_; intro D' t1' t2' t3' h' k' F' N' l1; (try k_lt l1)); k_steps)
  all_goals try (refine Stop.mk ?_; refine Assign_Tuple_swapped (names := [Str.ofString "startpos", Str.ofString "endpos"]) ?_; k_steps)
  all_goals try (refine Stop.mk ?_; (rename Fr _ _ _ _ => lF'); (with_unfolding_all refine' For_invVF lF' ?k1 ?k2 ?_; (case k1 | k2 => exact rfl)); k_steps)
  all_goals first
    | ((rename (List.isEmpty _ = true) => he); exact absurd he (by decide +kernel))
    | skip
  refine loop_fix1 (y1 := Str.ofString "startpos") (by_list rfl (by k_asm) (by k_asm) (by k_mem)) (fun i a => ∃ b t, a = some (.int b t) ∧ emJ got ⟨#[c]⟩ i b) (by k_mem) ?hj ?turn ?done
  case hj => exact ⟨_, _, rfl, rfl⟩
  case done =>
    rintro u a h tk ⟨b, t, rfl, hb⟩ F' N'
    dsimp only
    k_steps
    exact hret _ _ _ (by k_asm) (by (refine news_sub (by k_asm) ?_; repeat (first | exact sub_refl _ | refine sub_tail ?_))) (bool_is (em_end3 hb))
  case turn =>
    rintro i v a I ito h tk hin hv ⟨b, t, rfl, hb⟩ hlow F' N'
    k_lt hlow
    rcases i with _ | _ | _ | i
    all_goals try (simp at hv; done)
    all_goals (simp only [List.getElem?_toArray, List.getElem?_cons_zero, List.getElem?_cons_succ, List.getElem?_nil, Option.some.injEq, reduceCtorEq] at hv)
    all_goals (subst hv)
    all_goals (try k_fold)
    all_goals k_steps
    all_goals first
      | exact hret _ _ _ (by k_asm) (by (refine news_sub (by k_asm) ?_; repeat (first | exact sub_refl _ | refine sub_tail ?_))) (bool_is (by first | exact em_end0 (by assumption) (by assumption) | exact em_end1 (by assumption) (by assumption) | exact em_end2 (by assumption) (by assumption)))
      | exact TurnE.intro (by k_asm) (by k_asm) (by exact sub_refl _) ⟨rfl, ⟨_, _, rfl, by first | exact em_t0 (by assumption) (by assumption) | exact em_t1 (by assumption) (by assumption) | exact em_t2 (by assumption) (by assumption)⟩, by k_same2⟩
end ell_pure
theorem ell_pure (w : World) (p : Program) (loose : List Str) (mean : ExcName → Option Value) (mg mb : Str → Option Value) (got W : Str) (c : Nat) (hW : WantOk W c) (tk tk2 : Tok) (hlen : got.length ≤ 100) :
    Pure prg w (hd.heap_39 w.params) p loose mean mg mb 80 [.str W tk, .str got tk2] 2 20 (fun r => r = .bool (emF got ⟨#[c]⟩)) :=
  (Classical.choice ell_pure.c₁).property ell_pure.main (w, p, loose, mean, mg, mb, got, W, c, tk, tk2) hW hlen
end
section
theorem off_Strip : True := by (w_top off; first | walk1 | trivial)
set_option maxRecDepth 100000
set_option maxHeartbeats 4000000
set_option hygiene false in
local macro_rules | `(tactic| walk_at "call builtin:str.find") => `(tactic| refine call_find4 ?_)
set_option hygiene false in
local macro_rules | `(tactic| walk_at "call builtin:str.rfind") => `(tactic| refine call_rfind4 ?_)
noncomputable def stripF (msg : Str) : Str :=
  let n := Txt.find msg (Str.ofString "\n")
  let e1 : Int := if 0 ≤ n then n else msg.length
  let c := find4 msg (Str.ofString ":") 0 e1
  let e2 : Int := if 0 ≤ c then c else e1
  let d := rfind4 msg (Str.ofString ".") 0 e2
  Txt.slice msg (some (if 0 ≤ d then d + 1 else 0)) (some e2)
section
variable {msg : Str} {r : Int} (hr : (0 ≤ Txt.find msg (Str.ofString "\n") ∧ r = Txt.find msg (Str.ofString "\n")) ∨ (¬ 0 ≤ Txt.find msg (Str.ofString "\n") ∧ r = (msg.length : Int)))
include hr
theorem strip_end1 (hc : 0 ≤ find4 msg (Str.ofString ":") 0 r) (hd : 0 ≤ rfind4 msg (Str.ofString ".") 0 (find4 msg (Str.ofString ":") 0 r)) :
    Txt.slice msg (some (rfind4 msg (Str.ofString ".") 0 (find4 msg (Str.ofString ":") 0 r) + 1)) (some (find4 msg (Str.ofString ":") 0 r)) = stripF msg := by
  unfold stripF; rcases hr with ⟨h1, rfl⟩ | ⟨h1, rfl⟩ <;> simp only [h1, hc, hd, if_true, if_false]
theorem strip_end2 (hc : 0 ≤ find4 msg (Str.ofString ":") 0 r) (hd : ¬ 0 ≤ rfind4 msg (Str.ofString ".") 0 (find4 msg (Str.ofString ":") 0 r)) :
    Txt.slice msg (some 0) (some (find4 msg (Str.ofString ":") 0 r)) = stripF msg := by
  unfold stripF; rcases hr with ⟨h1, rfl⟩ | ⟨h1, rfl⟩ <;> simp only [h1, hc, hd, if_true, if_false]
theorem strip_end3 (hc : ¬ 0 ≤ find4 msg (Str.ofString ":") 0 r) (hd : 0 ≤ rfind4 msg (Str.ofString ".") 0 r) :
    Txt.slice msg (some (rfind4 msg (Str.ofString ".") 0 r + 1)) (some r) = stripF msg := by
  unfold stripF; rcases hr with ⟨h1, rfl⟩ | ⟨h1, rfl⟩ <;> simp only [h1, hc, hd, if_true, if_false]
theorem strip_end4 (hc : ¬ 0 ≤ find4 msg (Str.ofString ":") 0 r) (hd : ¬ 0 ≤ rfind4 msg (Str.ofString ".") 0 r) :
    Txt.slice msg (some 0) (some r) = stripF msg := by
  unfold stripF; rcases hr with ⟨h1, rfl⟩ | ⟨h1, rfl⟩ <;> simp only [h1, hc, hd, if_true, if_false]
end
set_option hygiene false in
local macro_rules | `(tactic| walk_at "exec Assign cons Tuple") => `(tactic| (k_here; refine Stop.get ?_))
namespace strip_pure
noncomputable def S (w : World) (p : Program) (loose : List Str) (mean : ExcName → Option Value) (mg : Str → Option Value) (mb : Str → Option Value) (msg : Str) (tk : Tok) : Prop :=
  ∀ (hlen : msg.length ≤ 100),
    Pure prg w (hd.heap_39 w.params) p loose mean mg mb 87 [.str msg tk] 2 20 (fun r => ∃ t, r = .str (stripF msg) t)
theorem c₁ : Nonempty {t : World × Program × (List Str) × (ExcName → Option Value) × (Str → Option Value) × (Str → Option Value) × Str × Tok // S t.1 t.2.1 t.2.2.1 t.2.2.2.1 t.2.2.2.2.1 t.2.2.2.2.2.1 t.2.2.2.2.2.2.1 t.2.2.2.2.2.2.2 → ∀ t : World × Program × (List Str) × (ExcName → Option Value) × (Str → Option Value) × (Str → Option Value) × Str × Tok, S t.1 t.2.1 t.2.2.1 t.2.2.2.1 t.2.2.2.2.1 t.2.2.2.2.2.1 t.2.2.2.2.2.2.1 t.2.2.2.2.2.2.2} := eps_ex ⟨(⟨fun _ _ => 0, { strHash := fun _ => 0, shareClass := fun _ => 0, mergeTok := fun _ => default, idOf := fun _ => 0, idOfShared := fun _ _ => 0, followText := fun _ => true, idOfImm := fun _ => 0 }⟩, default, default, default, default, default, default, default)⟩ fun t => S t.1 t.2.1 t.2.2.1 t.2.2.2.1 t.2.2.2.2.1 t.2.2.2.2.2.1 t.2.2.2.2.2.2.1 t.2.2.2.2.2.2.2
noncomputable def c₀ : World × Program × (List Str) × (ExcName → Option Value) × (Str → Option Value) × (Str → Option Value) × Str × Tok := (Classical.choice c₁).val
noncomputable def w : World := c₀.1
noncomputable def p : Program := c₀.2.1
noncomputable def loose : List Str := c₀.2.2.1
noncomputable def mean : ExcName → Option Value := c₀.2.2.2.1
noncomputable def mg : Str → Option Value := c₀.2.2.2.2.1
noncomputable def mb : Str → Option Value := c₀.2.2.2.2.2.1
noncomputable def msg : Str := c₀.2.2.2.2.2.2.1
noncomputable def tk : Tok := c₀.2.2.2.2.2.2.2
theorem main : S w p loose mean mg mb msg tk := by
  unfold S
  intro hlen
  unfold prg
  k_fill
  unfold Pure
  intro dp un gd cn cs a ccd cl outer A₀ base h₀ L m news s Q E B F X N T hk hd hu hret
  refine wpAny_call ?_
  k_dflt ktr_enter
  k_steps
  refine Stop.mk ?_
  refine Assign_Tuple_swapped (names := [Str.ofString "start", Str.ofString "end"]) ?_
  k_steps
  all_goals (exact hret _ _ _ (by k_asm) (by (refine news_sub (by k_asm) ?_; repeat (first | exact sub_refl _ | refine sub_tail ?_))) (str_is (by first | with_reducible exact strip_end1 (by assumption) (by assumption) (by assumption) | with_reducible exact strip_end2 (by assumption) (by assumption) (by assumption) | with_reducible exact strip_end3 (by assumption) (by assumption) (by assumption) | with_reducible exact strip_end4 (by assumption) (by assumption) (by assumption))))
end strip_pure
theorem strip_pure (w : World) (p : Program) (loose : List Str) (mean : ExcName → Option Value) (mg mb : Str → Option Value) (msg : Str) (tk : Tok) (hlen : msg.length ≤ 100) :
    Pure prg w (hd.heap_39 w.params) p loose mean mg mb 87 [.str msg tk] 2 20 (fun r => ∃ t, r = .str (stripF msg) t) :=
  (Classical.choice strip_pure.c₁).property strip_pure.main (w, p, loose, mean, mg, mb, msg, tk) hlen
end
section
set_option maxRecDepth 100000
set_option maxHeartbeats 4000000
open Builtin Builtin.Str StrLaws
theorem sub_empty (s : Str) (i : Nat) : subAt s (Str.ofString "") i = true := by
  have e : Str.ofString "" = ⟨#[]⟩ := by decide +kernel
  rw [e]
  unfold subAt
  show (s.cps.extract i (i + 0) == #[]) = true
  rw [beq_iff_eq]
  apply Array.ext'
  simp
theorem occ_empty_some (s : Str) {k hi : Nat} (h : k ≤ hi) : (occurrences s (Str.ofString "") k hi 1).isEmpty = false := by
  have e : (Str.ofString "").length = 0 := by decide +kernel
  rw [occ_eq]
  have key := occ_none s (Str.ofString "") hi (List.range' k (hi + 1 - k)) k (fun i hi' => by simp [List.mem_range'] at hi'; omega)
  cases hq : (forIn (List.range' k (hi + 1 - k)) ((#[] : Array Nat), k) (occBody s (Str.ofString "") hi 1)).run.fst.toList with
  | nil =>
    exfalso
    have h0 : (forIn (List.range' k (hi + 1 - k)) ((#[] : Array Nat), k) (occBody s (Str.ofString "") hi 1)).run.fst = #[] := Array.ext' hq
    exact key.mp h0 k (by simp [List.mem_range']; omega) ⟨by omega, sub_empty s k⟩
  | cons a l => rfl
theorem from_nat {n k : Nat} (h : k ≤ n) : fromIndex n ((k : Nat) : Int) = k := by
  unfold fromIndex
  split
  · omega
  · simp
theorem emP0_eq (got : Str) : emP0 got = 0 := by
  unfold emP0 find4
  have e1 := from_nat (Nat.zero_le got.length)
  have e2 := from_nat (Nat.le_refl got.length)
  rw [show fromIndex got.length 0 = 0 from e1, e2, Nat.min_self]
  rcases occ_head got (Str.ofString "") 1 (Nat.le_refl _) with ⟨h, hn⟩ | ⟨i, r, h, ha, hn⟩
  · exact absurd ⟨by show 0 + (Str.ofString "").length ≤ got.length; rw [show (Str.ofString "").length = 0 by decide +kernel]; omega, sub_empty got 0⟩ (hn 0)
  · rw [h]
    have : i = 0 := Nat.eq_zero_of_not_pos fun hp => hn 0 hp ⟨by rw [show (Str.ofString "").length = 0 by decide +kernel]; omega, sub_empty got 0⟩
    subst this; rfl
theorem emF_mem (got : Str) (c : Nat) : emF got ⟨#[c]⟩ = decide (c ∈ got.cps.toList) := by
  unfold emF
  have e1 := from_nat (Nat.zero_le got.length)
  have e2 := from_nat (Nat.le_refl got.length)
  have hm := found_one got c
  have p1 : emP1 got ⟨#[c]⟩ = match occurrences got ⟨#[c]⟩ 0 got.length 1 with | k :: _ => (k : Int) | [] => -1 := by
    unfold emP1 find4
    rw [emP0_eq, show fromIndex got.length (0 + 0) = 0 from e1, e2, Nat.min_self]
    try (cases occurrences got ⟨#[c]⟩ 0 got.length 1 <;> rfl)
  rw [emP0_eq, if_neg (by decide), ← hm, p1]
  cases ho : occurrences got ⟨#[c]⟩ 0 got.length 1 with
  | nil => simp
  | cons k r =>
    have hk : k + 1 ≤ got.length := (occ_spec got ⟨#[c]⟩ 0 got.length 1 k (by rw [ho]; exact .head _)).1
    simp only []
    rw [if_neg (by omega), if_neg]
    · rfl
    · unfold emP2 find4
      have := occ_empty_some got (k := k + 1) (hi := got.length) hk
      rw [p1, ho]
      simp only []
      rw [show ((k : Int) + 1) = ((k + 1 : Nat) : Int) by omega, from_nat hk, e2, Nat.min_self]
      cases hq : occurrences got (Str.ofString "") (k + 1) got.length 1 with
      | nil => rw [hq] at this; cases this
      | cons a l => simp only []; omega
end
end
section
set_option maxRecDepth 100000
open PySem.Spec PySem.Calls
section
variable {prog : Program} {w : World} {A : Around} {E : Value → Shared → Prop} {s : Shared} {env : Env} {h₀ : Heap} {x : Str} {body : List Stmt} {Q : Flow → Shared → Prop}
/- a loop over the signs of a text, the tokens told -/
inductive LoopT (prog : Program) (w : World) (A : Around) (h₀ : Heap) (env : Env) (x : Str) (body : List Stmt) (Q : Flow → Shared → Prop) (E : Value → Shared → Prop) (it : Value) (s₂ : Shared) : Prop
  | mk (I : Addr) (y : Str) (St : Nat → Heap → Prop) (J : Nat → (Str → Option Value) → List (Addr × Obj) → Prop) (m₀ : Str → Option Value) (news : List (Addr × Obj)) (q0 : it = .ref I) (q1 : 0 < s₂.toks) (q2 : env.locals ≠ I) (q3 : h₀.get? I = none) (q4 : (∀ p ∈ news, p.1 < I)) (q5 : (∀ i m nw, J i m nw → nw.map (·.1) = news.map (·.1))) (q6 : St 0 s₂.heap) (q7 : Fr h₀ env.locals s₂.heap m₀) (q8 : News h₀ env.locals s₂.heap news) (q9 : J 0 m₀ news) (q10 : (∀ i h, St i h → ∃ o, h.get? I = some o ∧ ∀ h', h'.get? I = some o → St i h')) (q11 : (∀ i (s : Shared) (R : Option Value → Shared → Prop) (E' : Value → Shared → Prop) c, St i s.heap → y.cps[i]? = some c → (∀ h', St (i + 1) h' → (∀ b, b ≠ I → h'.get? b = s.heap.get? b) → R (some (.str ⟨#[c]⟩ s.toks)) { s with heap := h', toks := s.toks + 1 }) → wpAny (model prog w) A (pyNext (.ref I)) R E' s)) (q12 : (∀ i (s : Shared) (R : Option Value → Shared → Prop) (E' : Value → Shared → Prop), St i s.heap → y.cps[i]? = none → (∀ h', (∀ b o, b ≠ I → s.heap.get? b = some o → h'.get? b = some o) → R none { s with heap := h' }) → wpAny (model prog w) A (pyNext (.ref I)) R E' s)) (q13 : (∀ i c u m₁ nw ito h tk, y.cps[i]? = some c → J i m₁ nw → (∀ p ∈ nw, p.1 < I) → @LT.lt Nat _ 0 u → @LT.lt Nat _ u tk → Fr h₀ env.locals h (fun z => if z = x then some (.str ⟨#[c]⟩ u) else m₁ z) → News h₀ env.locals h ((I, ito) :: nw) → wpAny (model prog w) A (execs body env) (TurnX h₀ env.locals (I, ito) (J (i + 1)) { s₂ with heap := h, toks := tk } Q) E { s₂ with heap := h, toks := tk })) (q14 : (∀ m₁ nw h tk, J y.cps.size m₁ nw → Fr h₀ env.locals h m₁ → News h₀ env.locals h nw → Q .next { s₂ with heap := h, toks := tk }))

inductive FTJ (h₀ : Heap) (L : Addr) (s₂ : Shared) (St : Nat → Heap → Prop) (J : Nat → (Str → Option Value) → List (Addr × Obj) → Prop) (n : Nat) (k : Nat) (s' : Shared) : Prop
  | mk (h' : Heap) (tk : Nat) (m' : Str → Option Value) (nw : List (Addr × Obj)) (i : Nat) (e : s' = { s₂ with heap := h', toks := tk }) (q1 : 0 < tk) (q2 : St i h') (q3 : Fr h₀ L h' m') (q4 : News h₀ L h' nw) (q5 : J i m' nw) (q6 : i ≤ n) (q7 : k = n + 1 - i)
theorem For_T {m : Str → Option Value} {px pos : Pos} {iter : PySem.Expr} (_F : Fr h₀ env.locals s.heap m) (hx : env.kindOf x = some .local)
    (hp : (env.scope.kind == .class || (env.scope.kind == .module && env.locals != env.globals)) = false)
    (h : wpAny (model prog w) A (eval iter env) (fun xv s₁ => wpAny (model prog w) A (pyIter xv) (fun it s₂ => LoopT prog w A h₀ env x body Q E it s₂) E s₁) E s)
    (hs : ∀ x, foldedSetIterable iter env x = pure x := by intro _; rfl)
    (hE : PassesOwn (model prog w) A env E := by passes_own) :
    wpAny (model prog w) A (exec (.For (.Name x px) iter body [] pos) env) Q E s := by
  refine wpAny_For (wpAny_mono h (fun xv s₁ h₁ => wpAny_mono h₁ (fun it s₂ h₂ => ?_) fun _ _ e => e) fun _ _ e => e) hs
  obtain ⟨I, y, St, J, m₀, news, rfl, h0, hLI, hI, hlt, hadr, hst, F, N, hj, hob, item, last, turn, done⟩ := h₂
  have low : ∀ {nw : List (Addr × Obj)}, nw.map (·.1) = news.map (·.1) → ∀ p ∈ nw, p.1 < I := by
    intro nw e p hp
    have h1 : p.1 ∈ nw.map (·.1) := List.mem_map.mpr ⟨p, hp, rfl⟩
    rw [e] at h1
    obtain ⟨q, hq1, hq2⟩ := List.mem_map.mp h1
    rw [← hq2]; exact hlt q hq1
  refine codeAny_forLoop (FTJ h₀ env.locals s₂ St J y.cps.size) ?_ (y.cps.size + 1)
    ⟨s₂.heap, s₂.toks, m₀, news, 0, rfl, h0, hst, F, N, hj, Nat.zero_le _, rfl⟩
  rintro k s' ⟨h', tk, m', nw, i, rfl, htk, hst', F', N', hJ, hi, rfl⟩
  have keepI : ∀ {b : Addr} {o : Obj}, h₀.get? b = some o → b ≠ I := fun e q => by rw [q, hI] at e; cases e
  have hnw := low (hadr _ _ _ hJ)
  cases hc : y.cps[i]? with
  | none =>
    have hin : i = y.cps.size := by
      have := Array.getElem?_eq_none_iff.mp hc
      omega
    subst hin
    refine last _ _ _ _ hst' hc fun h₁ hk => wpAny_execs_nil ?_
    refine done m' nw h₁ tk hJ ⟨F'.ns.at' fun o e => hk _ o hLI e, fun b o e => hk b o (keepI e) (F'.keep b o e), F'.above⟩ fun p hp => ⟨hk _ _ (Nat.ne_of_lt (hnw p hp)) (N' p hp).1, (N' p hp).2⟩
  | some c =>
    have hlt' : i < y.cps.size := (Array.getElem?_eq_some_iff.mp hc).1
    refine item i _ _ _ c hst' hc fun h₁ hst₁ hk => ?_
    have F₁ : Fr h₀ env.locals h₁ m' := ⟨F'.ns.at' fun o e => (hk _ hLI).trans e, fun b o e => (hk b (keepI e)).trans (F'.keep b o e), F'.above⟩
    have N₁ : News h₀ env.locals h₁ nw := fun p hp => ⟨(hk _ (Nat.ne_of_lt (hnw p hp))).trans (N' p hp).1, (N' p hp).2⟩
    obtain ⟨o₁, ho₁, hto⟩ := hob _ _ hst₁
    refine wpAny_assign_Name (wpAny_storeName_local hx F₁.ns (fun h₂ hn₂ hs₂ => ?_) hp)
    have F₂ := F₁.set hn₂ hs₂
    have hI₂ : h₂.get? I = some o₁ := (hs₂.2 I fun q => hLI q.symm).trans ho₁
    have N₂ : News h₀ env.locals h₂ ((I, o₁) :: nw) := fun p hp => by
      rcases List.mem_cons.mp hp with rfl | hp
      · exact ⟨hI₂, fun q => hLI q.symm, hI⟩
      · exact (N₁.set hs₂) p hp
    refine wpAny_passesOwn hE (wpAny_toks (wpAny_mono (turn i c tk m' nw o₁ h₂ (tk + 1 + 1) hc hJ hnw htk (Nat.lt_succ_of_lt (Nat.lt_succ_self _)) F₂ N₂) (fun f s₃ h₃ => ⟨fun hle => ?_⟩) fun _ _ e => e))
    have fin : TurnE h₀ env.locals (I, o₁) (J (i + 1)) { s₂ with heap := h₂, toks := tk + 1 + 1 } s₃ → ∃ m, m < y.cps.size + 1 - i ∧ FTJ h₀ env.locals s₂ St J y.cps.size m s₃ := by
      rintro ⟨h₃', tk₃, m₃, nw₃, rfl, F₃, N₃, hJ₃⟩
      refine ⟨y.cps.size + 1 - (i + 1), by omega, ⟨h₃', tk₃, m₃, nw₃, i + 1, rfl, ?_, hto _ (N₃ _ (List.mem_cons_self ..)).1, F₃, fun p hp => N₃ p (List.mem_cons_of_mem _ hp), hJ₃, hlt', rfl⟩⟩
      exact Nat.lt_of_lt_of_le (by show 0 < tk + 1 + 1; omega) hle
    cases f with
    | ret v => exact h₃
    | brk => exact h₃
    | next => exact fin h₃
    | cont => exact fin h₃
/- the rule: one name of the frame under R, the ledger fixed -/
theorem loopT_fix1 {y : Str} {t : Tok} {y1 : Str} {m₀ : Str → Option Value} {news : List (Addr × Obj)} (hh : A.handled = none) (F : Fr h₀ env.locals s.heap m₀) (N : News h₀ env.locals s.heap news) (R : Nat → Option Value → Prop) (h0 : 0 < s.toks) (hj : R 0 (m₀ y1))
    (turn : ∀ i c u a1 I ito h tk, y.cps[i]? = some c → R i a1 → (∀ p ∈ news, p.1 < I) → @LT.lt Nat _ 0 u → @LT.lt Nat _ u tk → Fr h₀ env.locals h (fun z => if z = x then some (.str ⟨#[c]⟩ u) else if z = y1 then a1 else m₀ z) → News h₀ env.locals h ((I, ito) :: news) →
      wpAny (model prog w) A (execs body env) (TurnX h₀ env.locals (I, ito) (fun m nw => nw = news ∧ R (i + 1) (m y1) ∧ ∀ z, z ≠ x → z ≠ y1 → m z = m₀ z) { s with heap := h, toks := tk } Q) E { s with heap := h, toks := tk })
    (done : ∀ u a1 h tk, R y.cps.size a1 → Fr h₀ env.locals h (fun z => if z = x then u else if z = y1 then a1 else m₀ z) → News h₀ env.locals h news → Q .next { s with heap := h, toks := tk }) :
    wpAny (model prog w) A (pyIter (.str y t)) (fun it s₂ => LoopT prog w A h₀ env x body Q E it s₂) E s := by
  have hLI : env.locals ≠ s.heap.objs.size := fun hm => absurd F.ns.lt (hm ▸ Nat.lt_irrefl _)
  have nm : ∀ {m : Str → Option Value} {v : Option Value}, (∀ z, z ≠ x → z ≠ y1 → m z = m₀ z) → (fun z => if z = x then v else m z) = fun z => if z = x then v else if z = y1 then m y1 else m₀ z := by
    intro m v h
    funext z
    by_cases h0 : z = x
    · simp only [if_pos h0]
    · by_cases h1 : z = y1
      · simp only [if_neg h0, if_pos h1]; rw [h1]
      · simp only [if_neg h0, if_neg h1]; exact h z h0 h1
  have fin : ∀ (o : Obj) (St : Nat → Heap → Prop), St 0 (s.heap.push o) →
      (∀ i h, St i h → ∃ o, h.get? s.heap.objs.size = some o ∧ ∀ h', h'.get? s.heap.objs.size = some o → St i h') →
      (∀ i (s' : Shared) (R : Option Value → Shared → Prop) (E' : Value → Shared → Prop) c, St i s'.heap → y.cps[i]? = some c → (∀ h', St (i + 1) h' → (∀ b, b ≠ s.heap.objs.size → h'.get? b = s'.heap.get? b) → R (some (.str ⟨#[c]⟩ s'.toks)) { s' with heap := h', toks := s'.toks + 1 }) → wpAny (model prog w) A (pyNext (.ref s.heap.objs.size)) R E' s') →
      (∀ i (s' : Shared) (R : Option Value → Shared → Prop) (E' : Value → Shared → Prop), St i s'.heap → y.cps[i]? = none → (∀ h', (∀ b o, b ≠ s.heap.objs.size → s'.heap.get? b = some o → h'.get? b = some o) → R none { s' with heap := h' }) → wpAny (model prog w) A (pyNext (.ref s.heap.objs.size)) R E' s') →
      LoopT prog w A h₀ env x body Q E (.ref s.heap.objs.size) { s with heap := s.heap.push o } := by
    intro o St st0 hob item last
    refine ⟨s.heap.objs.size, y, St, fun i m nw => nw = news ∧ R i (m y1) ∧ ∀ z, z ≠ x → z ≠ y1 → m z = m₀ z, m₀, news, rfl, h0, hLI, next_is_new F, fun p hp => Heap.lt_size (N p hp).1, fun i m nw h => h.1 ▸ rfl, st0, F.push _, fun p hp => ⟨Heap.get?_push_of_some _ (N p hp).1, (N p hp).2⟩, ⟨rfl, hj, fun _ _ _ => rfl⟩, hob, item, last, ?_, ?_⟩
    · rintro i c u m₁ nw ito h tk hc ⟨rfl, hR, hm⟩ hlow hu hut F₁ N₁
      rw [nm hm] at F₁
      exact turn i c u _ _ ito h tk hc hR hlow hu hut F₁ N₁
    · rintro m₁ nw h tk ⟨rfl, hR, hm⟩ F₁ N₁
      refine done (m₁ x) _ h tk hR ?_ N₁
      rw [← nm hm]
      have e : (fun z => if z = x then m₁ x else m₁ z) = m₁ := by
        funext z
        by_cases q : z = x
        · simp only [q, if_true]
        · simp only [q, if_false]
      rw [e]; exact F₁
  have ob : ∀ (T : String) i (h : Heap), h.IsStrIter s.heap.objs.size T y t i → ∃ o, h.get? s.heap.objs.size = some o ∧ ∀ h' : Heap, h'.get? s.heap.objs.size = some o → h'.IsStrIter s.heap.objs.size T y t i :=
    fun T i h ⟨o, ho, r⟩ => ⟨o, ho, fun h' e => ⟨o, e, r⟩⟩
  cases ha : y.cps.all (· < 128)
  · exact wpAny_pyIter_wide ha (fin _ (fun i h => h.IsStrIter s.heap.objs.size "str_iterator" y t i) ⟨_, Heap.get?_push_size _ rfl, rfl, rfl⟩ (ob _)
      (fun i s' R E' c st hc hR => wpAny_pyNext_wide_item st hc fun h' it hs => hR h' it hs.2) (fun i s' R E' st hc hR => wpAny_pyNext_wide_end hh st hc fun h' he => hR h' fun b o hb e => he b o hb e))
  · exact wpAny_pyIter_ascii ha (fin _ (fun i h => h.IsStrIter s.heap.objs.size "str_ascii_iterator" y t i) ⟨_, Heap.get?_push_size _ rfl, rfl, rfl⟩ (ob _)
      (fun i s' R E' c st hc hR => wpAny_pyNext_ascii_item st hc fun h' it hs => hR h' it hs.2) (fun i s' R E' st hc hR => wpAny_pyNext_ascii_end hh st hc fun h' he => hR h' fun b o hb e => he b o hb e))
end
end
section
set_option maxRecDepth 100000
set_option maxHeartbeats 400000
namespace Rx
open PySem.Builtin.Re
section
variable {M : Model} {A : Around} {E : Value → Shared → Prop} {s : Shared}
theorem drive_any {Q : Sre.M → Shared → Prop} : ∀ (n k : Nat) (m : Sre.M), 0 < n → k ≤ 4 * n → (Sre.M.runFor k m).outcome.isSome = true → Q (Sre.M.runFor k m) s → wpAny M A (reDrive n m) Q E s
  | 0, _, _, h0, _, _, _ => absurd h0 (Nat.lt_irrefl _)
  | n + 1, k, m, _, hk, ho, hQ => by
    unfold reDrive reTurnSteps
    dsimp only
    by_cases h4 : (Sre.M.runFor 4 m).outcome.isSome = true
    · rw [if_pos h4]
      have e : Sre.M.runFor 4 m = Sre.M.runFor k m := by
        rcases Nat.le_total k 4 with h | h
        · rw [show 4 = k + (4 - k) by omega, runFor_add, runFor_done ho]
        · rw [show k = 4 + (k - 4) by omega, runFor_add, runFor_done h4]
      rw [e]
      exact wpAny_pure hQ
    · rw [if_neg h4]
      have hgt : 4 < k := by
        rcases Nat.lt_or_ge 4 k with h | h
        · exact h
        · exact absurd (by rw [show 4 = k + (4 - k) by omega, runFor_add, runFor_done ho]; exact ho) h4
      have e : Sre.M.runFor k m = Sre.M.runFor (k - 4) (Sre.M.runFor 4 m) := by rw [← runFor_add, show 4 + (k - 4) = k by omega]
      rw [e] at ho hQ
      exact wpAny_bind (wpAny_rule (drive_any n (k - 4) _ (by omega) (by omega) ho hQ))
theorem rules_any {Q : PUnit → Shared → Prop} {c : Nat → Bool} {f : Nat → String} (hQ : Q ⟨⟩ s) : ∀ l : List Nat, wpAny M A (forIn l PUnit.unit fun i _ => if c i = true then do rule (f i); pure (ForInStep.yield PUnit.unit) else pure (ForInStep.yield PUnit.unit)) Q E s
  | [] => wpAny_pure hQ
  | i :: l => by
    rw [List.forIn_cons]
    refine wpAny_bind ?_
    cases c i with
    | true => exact wpAny_bind (wpAny_rule (wpAny_pure (rules_any hQ l)))
    | false => exact wpAny_pure (rules_any hQ l)
theorem runEnd_any {Q : Option Sre.M → Shared → Prop} {k : Nat} {m m' : Sre.M} (hk : k ≤ 1000) (e : Sre.M.runFor k m = m') (h : (m'.outcome = some .matched ∧ Q (some m') s) ∨ (m'.outcome = some .failed ∧ Q none s)) : wpAny M A (reRunToEnd m) Q E s := by
  unfold reRunToEnd
  subst e
  refine wpAny_bind (drive_any (2 ^ 64) k m (by decide) (by omega) (by rcases h with h | h <;> rw [h.1] <;> rfl) ?_)
  refine wpAny_bind ?_
  refine rules_any ?_ _
  rcases h with ⟨h, hQ⟩ | ⟨h, hQ⟩
  · rw [h]; exact wpAny_pure hQ
  · rw [h]; exact wpAny_pure hQ
end
end Rx
end
section
open PySem.Calls
/- the table of the codes made at run time: empty, or with the code of an earlier call, which stands in rest -/
noncomputable def TabSt (qual : Str) (ln col : Value) (tab : Obj) (rest : List (Addr × Obj)) : Prop :=
  tab = tabObj #[] ∨ ∃ c oc vs t, tab = tabObj #[ln, col, .ref c] ∧ (c, oc) ∈ rest ∧ oc.data = .fields vs ∧ vs[1]? = some (.str qual t) ∧ @LT.lt Nat _ 54 c
theorem TabSt.mono {qual : Str} {ln col : Value} {tab : Obj} {l r : List (Addr × Obj)} (h : TabSt qual ln col tab l) (s : ∀ q ∈ l, q ∈ r) : TabSt qual ln col tab r := by
  rcases h with h | ⟨c, oc, vs, t, e, hm, k⟩
  · exact .inl h
  · exact .inr ⟨c, oc, vs, t, e, s _ hm, k⟩
noncomputable def Fresh (c B : Addr) (news : List (Addr × Obj)) : Prop := (∀ q ∈ news, @LT.lt Nat _ q.1 c) ∨ (@LT.lt Nat _ c B ∧ @LT.lt Nat _ 54 c)
theorem Fresh.ne {c B a : Addr} {o : Obj} {news : List (Addr × Obj)} (h : Fresh c B news) (hm : (a, o) ∈ news) (hb : @LE.le Nat _ B a) : @Ne Nat c a := by
  rcases h with h | h
  · exact Nat.ne_of_gt (h _ hm)
  · exact Nat.ne_of_lt (Nat.lt_of_lt_of_le h.1 hb)
theorem Fresh.low {c B a : Addr} {o : Obj} {news : List (Addr × Obj)} (h : Fresh c B news) (hm : (a, o) ∈ news) (hb : @LE.le Nat _ 54 a) : @LT.lt Nat _ 54 c := by
  rcases h with h | h
  · exact Nat.lt_of_le_of_lt hb (h _ hm)
  · exact h.2
theorem lt_tail {x : Addr × Obj} {rest : List (Addr × Obj)} {B : Addr} (h : ∀ p ∈ x :: rest, @LT.lt Nat _ p.1 B) : ∀ p ∈ rest, @LT.lt Nat _ p.1 B := fun p hp => h p (.tail _ hp)
theorem allLt_all {d : Addr} : ∀ {l : List (Addr × Obj)}, AllLt d l → ∀ p ∈ l, @LT.lt Nat _ p.1 d
  | [], _, _, h => nomatch h
  | _ :: _, x, _, h => by
    rcases List.mem_cons.mp h with rfl | h
    · exact x.1
    · exact allLt_all x.2 _ h
section
variable {M : Model} {A : Around} {E : Value → Shared → Prop} {s : Shared} {h₀ : Heap} {L a c P : Addr} {m mg mb : Str → Option Value} {cn : Str} {cs : Scope} {ccd : Value} {cl : List (Str × Addr)} {news rest : List (Addr × Obj)} {g : Obj → List (Addr × Obj)}
  {p : Program} {loose : List Str} {mean : ExcName → Option Value} {name qual : Str} {params : Arguments} {body : List Stmt} {scope : Scope} {tab : Obj} {pos : Pos} {clos : List (Str × Addr)} {firstLine : Nat}
theorem nest_any {Q : Value → Shared → Prop} {B : Addr} (F : Fr h₀ L s.heap m) (N : News h₀ L s.heap news) (T : Top p loose mean mg mb h₀) (C : CodeHd h₀ c P) (hcd : ccd = .ref c) (U : UpdF P tab news g)
    (ht : TabSt qual (rawInt pos.line) (rawInt pos.col) tab rest) (hlt : ∀ q ∈ rest, @LT.lt Nat _ q.1 B) (hsub : ∀ q ∈ rest, q ∈ news)
    (hcl : closureFor scope (envX cn cs L a ccd cl) = pure clos)
    (h : ∀ f c' oc vs t ctv doc h' tk, Fr h₀ L h' m →
      News h₀ L h' ((f, fnMade name qual params body scope clos doc ((mg "__name__").getD .none) c' ctv) :: (c', oc) :: g (tabObj #[rawInt pos.line, rawInt pos.col, .ref c'])) →
      oc.data = .fields vs → vs[1]? = some (.str qual t) → (∀ q ∈ news, q.1 < f) → c' < f → Fresh c' B news → Q (.ref f) { s with heap := h', toks := tk }) :
    wpAny M A (makeFunction name qual params (.stmts body) scope (envX cn cs L a ccd cl) [] [] [] pos firstLine) Q E s := by
  rcases ht with rfl | ⟨c1, oc, vs, t, rfl, hm, hd, hv, h54⟩
  · refine nest_K F N T C hcd U (by kn_triples) (by kn_among) hcl fun f c' oc vs t ctv doc h' tk F' N' hd hv hn hf => ?_
    rw [show (#[] : Array Value) ++ #[rawInt pos.line, rawInt pos.col, .ref c'] = #[rawInt pos.line, rawInt pos.col, .ref c'] by simp] at N'
    exact h f c' oc vs t ctv doc h' tk F' N' hd hv (fun q hq => Nat.lt_trans (hn q hq) hf) hf (.inl hn)
  · obtain ⟨pre, post, e1, e2, _, _⟩ := U.split
    have hmP : (P, tabObj #[rawInt pos.line, rawInt pos.col, .ref c1]) ∈ news := by rw [e1]; exact List.mem_append_right _ (.head _)
    refine nestHit_K (c' := c1) F N T C hcd hmP (by kn_triples) (by show codeAmong pos [rawInt pos.line, rawInt pos.col, .ref c1] = _; simp [codeAmong, rawInt]) hcl fun f ctv doc h' tk F' N' hn => ?_
    refine h f c1 oc vs t ctv doc h' tk F' (fun q hq => ?_) hd hv hn (hn _ (hsub _ hm)) (.inr ⟨hlt _ hm, h54⟩)
    rcases List.mem_cons.mp hq with rfl | hq
    · exact N' _ (.head _)
    · rcases List.mem_cons.mp hq with rfl | hq
      · exact N' _ (.tail _ (hsub _ hm))
      · rw [e2, ← e1] at hq
        exact N' _ (.tail _ hq)
end
end
section
theorem off_Div2 : True := by (w_top off; first | walk1 | trivial)
set_option maxRecDepth 100000
set_option maxHeartbeats 8000000
noncomputable def pairOut (a b : Int) (r : Value) (tl : List (Addr × Obj)) : Prop := ∃ D t u, r = .ref D ∧ tl = [(D, tupOf [.int a t, .int b u])]
theorem div2_makes {w : World} {p : Program} {loose : List Str} {mean : ExcName → Option Value} {mg mb : Str → Option Value} {x y n : Int} {tk tk2 tk3 : Tok} (hy : 0 < y) (hy2 : y < 1073741824) (hn : ((Builtin.Int.intBits x : Nat) : Int) - n ≤ 4000) :
    Makes prg w (hd.heap_39 w.params) p loose mean mg mb 38 [.int x tk, .int y tk2, .int n tk3] 2 20 (pairOut (x.fdiv y) (x.fmod y)) := by
  unfold prg
  k_fill
  unfold Makes
  intro dp un gd cn cs a ccd cl outer A₀ base h₀ L m news s Q E B F X N T hk hd hu hret
  refine wpAny_call ?_
  k_dflt ktr_enter
  k_steps
  exact hret _ [_] _ _ (by k_asm) (by k_asm) (by (refine above_one ?_; first | assumption | exact lt_of_news (by assumption))) ⟨_, _, _, rfl, rfl⟩
end
section
set_option hygiene false in
local macro_rules | `(tactic| omega) => `(tactic| walk_at "MY om")
section
theorem off_Net : True := by (w_top off; first | walk1 | trivial)
set_option maxRecDepth 100000
set_option maxHeartbeats 8000000
open PySem.Spec PySem.Calls PyProof.V
/- a dict's words hold ints -/
noncomputable def IntVals (kvs : List (Str × Value)) : Prop := ∀ k v, valueAt kvs k = some v → ∃ i t, v = .int i t ∧ 0 < i ∧ i ≤ 4
noncomputable def wt (kvs : List (Str × Value)) (k : Str) : Int := match valueAt kvs k with | some (.int i _) => i | _ => 0
section
variable {prog : Program} {w : World} {A : Around} {E : Value → Shared → Prop} {s : Shared} {h₀ : Heap} {L d : Addr} {m : Str → Option Value} {news : List (Addr × Obj)} {o : Obj} {kvs : List (Str × Value)} {k : Str} {t : Tok}
theorem kv_item {value slice : PySem.Expr} {Q : Value → Shared → Prop} (N : News h₀ L s.heap news) (hp : (d, o) ∈ news) (hd : o.IsDictOf (PySem.strKind prog w) kvs) (hI : IntVals kvs) (hs : (valueAt kvs k).isSome = true) (h : ∀ u, Q (.int (wt kvs k) u) { s with toks := s.toks + 1 })
    (hs' : subscripted slice false (.ref d) (.str k t) = operate [.ref d, .str k t] (getItem (.ref d) (.str k t)) := by with_unfolding_all rfl) (hg : ∀ r, letTemporaryGo value (.ref d) r = pure () := by intro _; with_unfolding_all rfl) :
    wpAny (model prog w) A (subscriptTail value slice (.ref d) (.str k t)) Q E s := by
  obtain ⟨v, hv⟩ := Option.isSome_iff_exists.mp hs
  obtain ⟨i, u, rfl, _, _⟩ := hI _ _ hv
  have e : wt kvs k = i := by unfold wt; rw [hv]
  exact kda_item N hp hd (strKind_is _ _ _ _) hv (e ▸ h u) hs' hg
theorem kv_in {Q : Value → Shared → Prop} (N : News h₀ L s.heap news) (hp : (d, o) ∈ news) (hd : o.IsDictOf (PySem.strKind prog w) kvs) (lo : (d == sysModules) = false) (h : Q (.bool (valueAt kvs k).isSome) { s with toks := s.toks + 1 }) :
    wpAny (model prog w) A (compareOp .In (.str k t) (.ref d)) Q E s := kda_in N hp hd lo (strKind_is _ _ _ _) _ rfl h
end
set_option hygiene false in
local macro_rules | `(tactic| walk_at "compareOp In str ref") => `(tactic| (k_here; refine Stop.get ?_))
set_option hygiene false in
local macro_rules | `(tactic| walk_at "subscriptTail") => `(tactic| (k_here; (with_reducible show wpAny _ _ (subscriptTail _ _ (Value.ref _) (Value.str _ _)) _ _ _); refine Stop.get ?_))
set_option hygiene false in
local macro_rules | `(tactic| walk_at "exec For Name Name cons nil") => `(tactic| (k_here; refine Stop.get ?_))
set_option hygiene false in
local macro_rules | `(tactic| walk_at "execs cons") => `(tactic| ((with_reducible refine wpAny_execs_cons ?_); try dsimp only))
set_option hygiene false in
local macro_rules | `(tactic| walk_at "Tk") => `(tactic| (refine Tk.mk fun hTk => ?_; dsimp only at hTk))
set_option hygiene false in
local macro_rules | `(tactic| walk_at "subscriptTail Name Constant str int") => `(tactic| ((fail_if_success (with_reducible show wpAny _ _ _ (fun _ _ => Tk _ _ _) _ _)); refine wpAny_toks ?_; walk_at "subscriptTail"))
set_option hygiene false in
local macro_rules | `(tactic| walk_at "binaryOp Add str str") => `(tactic| ((fail_if_success (with_reducible show wpAny _ _ _ (fun _ _ => Tk _ _ _) _ _)); refine wpAny_toks ?_; walk_at "binaryOp Add str str"))
theorem one_ne_empty (c : Nat) : (({ cps := #[c] } : Str) == Str.ofString "") = false := by
  apply beq_eq_false_iff_ne.mpr
  intro h
  have : #[c] = (Str.ofString "").cps := congrArg Str.cps h
  have e : (Str.ofString "").cps = #[] := by decide +kernel
  rw [e] at this
  simp at this
set_option hygiene false in
local macro_rules | `(tactic| walk_at "TurnX") => `(tactic| (dsimp only [TurnX]))

theorem wt_range {kvs : List (Str × Value)} (hI : IntVals kvs) (k : Str) : 0 ≤ wt kvs k ∧ wt kvs k ≤ 4 := by
  unfold wt
  cases h : valueAt kvs k with
  | none => decide
  | some v =>
    obtain ⟨i, u, rfl, h1, h2⟩ := hI _ _ h
    exact ⟨by show 0 ≤ i; omega, h2⟩
theorem wt_mulOk {kvs : List (Str × Value)} (hI : IntVals kvs) (k : Str) (b : Int) : IntMulOk (wt kvs k) b := by
  have := wt_range hI k
  exact IntMulOk.of_left (intBits_le_64 (by omega) (by omega))
theorem owe_mul {prog : Program} {w : World} {A : Around} {E : Value → Shared → Prop} {s : Shared} {a b : Int} {t u : Tok} {Q : Value → Shared → Prop} (hn : Owe (IntMulOk a b)) (h : Q (.int (a * b) s.toks) { s with toks := s.toks + 1 }) :
    wpAny (model prog w) A (binaryOp .Mult (.int a t) (.int b u)) Q E s := mul_int h hn.pay
set_option hygiene false in
local macro_rules | `(tactic| walk_at "binaryOp Mult int int") => `(tactic| refine owe_mul ?_ ?_)
/- _law_net: the sum after i of the places behind -/
noncomputable def netS (g : Str → Int) (kvs : List (Str × Value)) (x : Int) (pl b : Str) : Nat → Int
  | 0 => x * g b
  | i + 1 => match b.cps[i]? with
    | some c => if (valueAt kvs (Txt.item pl 0 ++ ⟨#[c]⟩)).isSome = true then netS g kvs x pl b i + wt kvs (Txt.item pl 0 ++ ⟨#[c]⟩) * g (Txt.replace b ⟨#[c]⟩ (Str.ofString "")) else netS g kvs x pl b i
    | none => netS g kvs x pl b i
theorem netS_s {g : Str → Int} {kvs : List (Str × Value)} {x : Int} {pl b : Str} {i : Nat} : netS g kvs x pl b (i + 1) = match b.cps[i]? with
    | some c => if (valueAt kvs (Txt.item pl 0 ++ ⟨#[c]⟩)).isSome = true then netS g kvs x pl b i + wt kvs (Txt.item pl 0 ++ ⟨#[c]⟩) * g (Txt.replace b ⟨#[c]⟩ (Str.ofString "")) else netS g kvs x pl b i
    | none => netS g kvs x pl b i := rfl
noncomputable def netF (kvs : List (Str × Value)) (x : Int) : Nat → Str → Int
  | 0, _ => 1
  | d + 1, pl => if (pl == Str.ofString "") = true then 1 else netS (netF kvs x d) kvs x pl (Txt.slice pl (some 1) none) (Txt.slice pl (some 1) none).cps.size
theorem netF_s {kvs : List (Str × Value)} {x : Int} {d : Nat} {pl : Str} : netF kvs x (d + 1) pl = if (pl == Str.ofString "") = true then 1 else netS (netF kvs x d) kvs x pl (Txt.slice pl (some 1) none) (Txt.slice pl (some 1) none).cps.size := rfl
theorem netS_yes {g : Str → Int} {kvs : List (Str × Value)} {x : Int} {pl b : Str} {i c : Nat} (hc : b.cps[i]? = some c) (h : (valueAt kvs (Txt.item pl 0 ++ ⟨#[c]⟩)).isSome = true) :
    netS g kvs x pl b i + wt kvs (Txt.item pl 0 ++ ⟨#[c]⟩) * g (Txt.replace b ⟨#[c]⟩ (Str.ofString "")) = netS g kvs x pl b (i + 1) := by
  rewrite [netS_s]
  rw [hc]; simp only [h, if_true]
theorem netS_no {g : Str → Int} {kvs : List (Str × Value)} {x : Int} {pl b : Str} {i c : Nat} (hc : b.cps[i]? = some c) (h : (valueAt kvs (Txt.item pl 0 ++ ⟨#[c]⟩)).isSome = false) :
    netS g kvs x pl b i = netS g kvs x pl b (i + 1) := by
  rewrite [netS_s]
  rw [hc]; simp only [h, Bool.false_eq_true, if_false]
/- the texts that take some of a, b, c, d, e in order -/
noncomputable def subs5 : List Str := ([97, 98, 99, 100, 101].foldr (fun c (l : List (List Nat)) => l.map (fun y => c :: y) ++ l) [[]]).map fun l => ⟨l.toArray⟩
theorem subs5_slice : ∀ pl ∈ subs5, (pl == Str.ofString "") = false → Txt.slice pl (some 1) none ∈ subs5 ∧ (Txt.slice pl (some 1) none).length < pl.length := by decide +kernel
theorem subs5_replace : ∀ pl ∈ subs5, ∀ c ∈ pl.cps.toList, Txt.replace pl ⟨#[c]⟩ (Str.ofString "") ∈ subs5 ∧ (Txt.replace pl ⟨#[c]⟩ (Str.ofString "")).length ≤ pl.length := by decide +kernel
theorem subs5_len : ∀ pl ∈ subs5, pl.length ≤ 5 := by decide +kernel
theorem rep_room {b : Str} (h : b.length ≤ 100) : b.length + (b.length + 1) * (Str.ofString "").length ≤ 16777216 := by
  rw [show (Str.ofString "").length = 0 by decide +kernel]; omega
set_option hygiene false in
local macro_rules | `(tactic| walk_at "call builtin:str.replace") => `(tactic| (k_here; refine Stop.get ?_))
theorem subs5_step {pl : Str} {n : Nat} (hm : pl ∈ subs5) (hne : (pl == Str.ofString "") = false) (hn : pl.length < n + 1) : Txt.slice pl (some 1) none ∈ subs5 ∧ (Txt.slice pl (some 1) none).length < n := by
  have := subs5_slice pl hm hne
  exact ⟨this.1, by omega⟩
theorem subs5_step2 {pl : Str} {n i c : Nat} (hm : pl ∈ subs5) (hne : (pl == Str.ofString "") = false) (hn : pl.length < n + 1) (hc : (Txt.slice pl (some 1) none).cps[i]? = some c) :
    Txt.replace (Txt.slice pl (some 1) none) ⟨#[c]⟩ (Str.ofString "") ∈ subs5 ∧ (Txt.replace (Txt.slice pl (some 1) none) ⟨#[c]⟩ (Str.ofString "")).length < n := by
  have h1 := subs5_slice pl hm hne
  have hmem : c ∈ (Txt.slice pl (some 1) none).cps.toList := by
    rw [Array.mem_toList_iff]
    exact Array.mem_of_getElem? hc
  have h2 := subs5_replace _ h1.1 c hmem
  exact ⟨h2.1, by omega⟩
noncomputable def NetT (w : World) (p : Program) (loose : List Str) (mean : ExcName → Option Value) (mg mb : Str → Option Value) (n : Nat) : Prop :=
  ∀ (dp un : Nat) (gd : Option (List Code)) (cn : Str) (cs : Scope) (a : Addr) (ccd : Value) (cl : List (Str × Addr)) (outer : List Env) (A₀ : Around) (base h₀ : Heap) (L : Addr) (m : Str → Option Value) (news : List (Addr × Obj)) (s : Shared)
    (Q E : Value → Shared → Prop) (d : Addr) (o : Obj) (kvs : List (Str × Value)) (pl : Str) (x : Int) (tk tk2 : Tok),
    Below A₀ base outer h₀ → Fr h₀ L s.heap m → (hd.heap_39 w.params).In h₀ → News h₀ L s.heap news → Top p loose mean mg mb h₀ → cs.kind = .function → dp + n < recursionLimit → un + 10 * n < cLine →
    (d, o) ∈ news → o.IsDictOf (PySem.strKind prg w) kvs → IntVals kvs → (d == sysModules) = false → pl ∈ subs5 → pl.length < n → (1 ≤ x ∧ x ≤ 4) →
    (∀ t h' tk', Fr h₀ L h' m → News h₀ L h' news → Q (.int (netF kvs x n pl) t) { s with heap := h', toks := tk' }) →
    wpAny (model prg w) (ktrTop dp un gd cn cs L a ccd cl outer) (call (.ref 181) [.ref d, .str pl tk, .int x tk2]) Q E s
theorem netT_use {w : World} {p : Program} {loose : List Str} {mean : ExcName → Option Value} {mg mb : Str → Option Value} {n : Nat}
  {dp un : Nat} {gd : Option (List Code)} {cn : Str} {cs : Scope} {a : Addr} {ccd : Value} {cl : List (Str × Addr)} {outer : List Env} {A₀ : Around} {base h₀ : Heap} {L : Addr} {m : Str → Option Value} {news : List (Addr × Obj)} {s : Shared}
    {Q E : Value → Shared → Prop} {d : Addr} {o : Obj} {kvs : List (Str × Value)} {pl : Str} {x : Int} {tk tk2 : Tok}
    (B : Below A₀ base outer h₀) (F : Fr h₀ L s.heap m) (X : (hd.heap_39 w.params).In h₀) (N : News h₀ L s.heap news) (T : Top p loose mean mg mb h₀) (I : NetT w p loose mean mg mb n) (hk : cs.kind = .function) (hd : dp + n < recursionLimit) (hu : un + 10 * n < cLine)
    (hm : (d, o) ∈ news) (hdo : o.IsDictOf (PySem.strKind prg w) kvs) (hI : IntVals kvs) (hlo : (d == sysModules) = false) (hlen : Owe (pl ∈ subs5 ∧ pl.length < n ∧ 1 ≤ x ∧ x ≤ 4))
    (hret : ∀ t h' tk', Fr h₀ L h' m → News h₀ L h' news → Q (.int (netF kvs x n pl) t) { s with heap := h', toks := tk' }) :
    wpAny (model prg w) (ktrTop dp un gd cn cs L a ccd cl outer) (call (.ref 181) [.ref d, .str pl tk, .int x tk2]) Q E s :=
  I dp un gd cn cs a ccd cl outer A₀ base h₀ L m news s Q E d o kvs pl x tk tk2 B F X N T hk hd hu hm hdo hI hlo hlen.pay.1 hlen.pay.2.1 hlen.pay.2.2 hret
set_option hygiene false in
local macro_rules | `(tactic| walk_at "call ref") => `(tactic| (k_here; refine Stop.get ?_))
theorem net_t (w : World) (p : Program) (loose : List Str) (mean : ExcName → Option Value) (mg mb : Str → Option Value) : ∀ n, NetT w p loose mean mg mb n := by
  intro n
  induction n with
  | zero => intro dp un gd cn cs a ccd cl outer A₀ base h₀ L m news s Q E d o kvs pl x tk tk2 B F X N T hk hd hu hm hdo hI hlo hlen hlen2 hx hret; omega
  | succ n IH =>
  intro dp un gd cn cs a ccd cl outer A₀ base h₀ L m news s Q E d o kvs pl x tk tk2 B F X N T hk hd hu hm hdo hI hlo hlen hlen2 hx hret
  have hl5 := subs5_len pl hlen
  revert X
  unfold prg
  k_fill
  intro X
  refine wpAny_call ?_
  k_dflt ktr_enter
  k_steps
  all_goals try (refine Stop.mk ?_; (k_dflt (refine' netT_use ?B_u9 ?F_u9 ?X_u9 ?N_u9 ?T_u9 ?I_u9 ?hk_u9 ?hd_u9 ?hu_u9 ?hm_u9 ?hdo_u9 ?hI_u9 ?hlo_u9 ?hlen_u9 ?_; (case B_u9 => k_asm); (case F_u9 => k_asm); (case X_u9 => k_asm); (case N_u9 => k_asm); (case T_u9 => k_asm); (case I_u9 => assumption); (case hdo_u9 => assumption); (case hm_u9 => first | assumption | exact .tail _ (by assumption) | k_mem | exact .tail _ (.tail _ (by assumption))); (case hI_u9 => assumption); (case hlo_u9 => assumption); (case hk_u9 => exact rfl); (case hd_u9 => ktr_room); (case hu_u9 => ktr_units)); rotate_left; intro t h' tk' F' N'); k_steps)
  all_goals first
    | exact ⟨IntMulOk.of_left (intBits_le_64 (by omega) (by omega))⟩
    | (rw [show (1 : Int) = netF kvs x (n + 1) pl by rewrite [netF_s]; rw [if_pos (by assumption)]]; exact hret _ _ _ (by k_asm) (by k_asm))
    | skip
  all_goals try (refine Stop.mk ?_; (rename Fr _ _ _ _ => lF'); (with_unfolding_all refine' For_T lF' ?k1 ?k2 ?_; (case k1 | k2 => exact rfl)); k_steps)
  all_goals try (refine loopT_fix1 (y1 := Str.ofString "total") rfl (by k_asm) (by k_asm) (fun i a => ∃ t, a = some (.int (netS (netF kvs x n) kvs x pl (Txt.slice pl (some 1) none) i) t)) (Nat.succ_pos _) ⟨_, rfl⟩ ?turn ?done)
  case done =>
    rintro u a h tk ⟨t, rfl⟩ F' N'
    dsimp only
    k_steps
    rw [show netS (netF kvs x n) kvs x pl (Txt.slice pl (some 1) none) (Txt.slice pl (some 1) none).cps.size = netF kvs x (n + 1) pl by conv => rhs; rewrite [netF_s]; rw [if_neg (by rw [show (pl == Str.ofString "") = false by assumption]; exact Bool.false_ne_true)]]
    exact hret _ _ _ (by k_asm) (by k_asm)
  case turn =>
    rintro i c u a I ito h tk hc ⟨t, rfl⟩ hlow hu0 hut F' N'
    (try k_lt hlow)
    k_fold
    k_steps
    refine Stop.mk ?_
    k_dflt (refine' kv_in ?N ?m ?d ?l ?_; (case d => assumption); (case N => k_asm); (case m => first | assumption | exact .tail _ (by assumption) | k_mem | exact .tail _ (.tail _ (by assumption))); (case l => assumption))
    k_steps
    all_goals try (refine Stop.mk ?_; k_dflt (refine' kv_item ?N ?m ?d ?i ?s ?_; (case d => assumption); (case N => k_asm); (case m => first | assumption | exact .tail _ (by assumption) | k_mem | exact .tail _ (.tail _ (by assumption))); (case i | s => assumption)); k_steps)
    all_goals try (refine Stop.mk ?_; refine SC.replace (by (show @Ne Nat _ _); omega) (by (show @Ne Nat _ _); omega) (by (show @Ne Nat _ _); omega) (one_ne_empty _) (rep_room (by omega)) ?_; intro _ _; k_steps)
    all_goals try (refine Stop.mk ?_; (k_dflt (refine' netT_use ?B_u7 ?F_u7 ?X_u7 ?N_u7 ?T_u7 ?I_u7 ?hk_u7 ?hd_u7 ?hu_u7 ?hm_u7 ?hdo_u7 ?hI_u7 ?hlo_u7 ?hlen_u7 ?_; (case B_u7 => k_asm); (case F_u7 => k_asm); (case X_u7 => k_asm); (case N_u7 => k_asm); (case T_u7 => k_asm); (case I_u7 => assumption); (case hdo_u7 => assumption); (case hm_u7 => first | assumption | exact .tail _ (by assumption) | k_mem | exact .tail _ (.tail _ (by assumption))); (case hI_u7 => assumption); (case hlo_u7 => assumption); (case hk_u7 => exact rfl); (case hd_u7 => ktr_room); (case hu_u7 => ktr_units)); rotate_left; intro t h' tk' F' N'); k_steps)
    all_goals try ((k_dflt (refine' netT_use ?B_u8 ?F_u8 ?X_u8 ?N_u8 ?T_u8 ?I_u8 ?hk_u8 ?hd_u8 ?hu_u8 ?hm_u8 ?hdo_u8 ?hI_u8 ?hlo_u8 ?hlen_u8 ?_; (case B_u8 => k_asm); (case F_u8 => k_asm); (case X_u8 => k_asm); (case N_u8 => k_asm); (case T_u8 => k_asm); (case I_u8 => assumption); (case hdo_u8 => assumption); (case hm_u8 => first | assumption | exact .tail _ (by assumption) | k_mem | exact .tail _ (.tail _ (by assumption))); (case hI_u8 => assumption); (case hlo_u8 => assumption); (case hk_u8 => exact rfl); (case hd_u8 => ktr_room); (case hu_u8 => ktr_units)); rotate_left; intro t h' tk' F' N'); k_steps)
    all_goals first
      | exact TurnE.intro (by k_asm) (by k_asm) (by exact sub_refl _) ⟨rfl, ⟨_, by simp only [reduceIte, netS_yes hc (by assumption)]; exact rfl⟩, by k_same2⟩
      | exact TurnE.intro (by k_asm) (by k_asm) (by exact sub_refl _) ⟨rfl, ⟨_, by rw [← netS_no hc (by assumption)]; exact rfl⟩, by k_same2⟩
      | exact ⟨wt_mulOk hI _ _⟩
      | exact ⟨(subs5_step2 hlen (by assumption) hlen2 hc).1, (subs5_step2 hlen (by assumption) hlen2 hc).2, hx⟩
      | trace "TURN"
  all_goals first
    | exact ⟨(subs5_step hlen (by assumption) hlen2).1, (subs5_step hlen (by assumption) hlen2).2, hx⟩
    | trace "NEXT"
end
end
set_option hygiene false in
local macro_rules | `(tactic| walk_at "MY h1") => `(tactic| first | exact allne (by assumption) (by omega) | exact allne1 (by assumption) (by omega) | exact allne2 (by assumption) (by omega))
set_option hygiene false in
local macro_rules | `(tactic| walk_at "MY h2") => `(tactic| (refine neN ?_; (try dsimp only); first | exact Fresh.ne (by assumption) (by k_mem) (by omega) | exact Ne.symm (Fresh.ne (by assumption) (by k_mem) (by omega)) | fail))
section
set_option hygiene false in
local macro_rules | `(tactic| omega) => `(tactic| walk_at "MY om")
section
theorem off_I2D : True := by (w_top off; first | walk1 | trivial)
set_option maxRecDepth 100000
set_option maxHeartbeats 8000000
theorem rep_fold (v : Value) (n : Nat) : List.foldl (fun x1 x2 => x1 ++ x2) (#[] : Array Value) (List.replicate n #[v]) = (List.replicate n v).toArray := by
  have : ∀ (n : Nat) (a : Array Value), List.foldl (fun x1 x2 => x1 ++ x2) a (List.replicate n #[v]) = a ++ (List.replicate n v).toArray := by
    intro n
    induction n with
    | zero => intro a; simp
    | succ n ih =>
      intro a
      rw [List.replicate_succ, List.foldl_cons, ih, List.replicate_succ]
      apply Array.ext'
      simp
  rw [this]; simp
theorem mul_rep {prog : Program} {w : World} {A : Around} {E : Value → Shared → Prop} {s : Shared} {h₀ : Heap} {L : Addr} {m : Str → Option Value} {news : List (Addr × Obj)} {l : Addr} {v : Value} {k : Nat} {x : Int} {u : Tok} {Q : Value → Shared → Prop}
    (F : Fr h₀ L s.heap m) (N : News h₀ L s.heap news) (hm : (l, listOf #[v] k) ∈ news) (hlo : 0 ≤ x) (hhi : x ≤ 10000)
    (h : ∀ l' h', Fr h₀ L h' m → News h₀ L h' ((l', listOf (List.replicate x.toNat v).toArray 0) :: news) → (∀ p ∈ news, p.1 < l') → Q (.ref l') { s with heap := h' }) :
    wpAny (model prog w) A (binaryOp .Mult (.ref l) (.int x u)) Q E s :=
  mul_list F N (N _ hm).1 (by omega) (by omega) (by show 1 * x.toNat ≤ 2 ^ 24; omega) fun h' F' N' => h _ h' F' (by
    have e : (List.foldl (fun x1 x2 => x1 ++ x2) #[] (List.replicate (if (#[v] : Array Value).isEmpty = true then 0 else x.toNat) #[v])) = (List.replicate x.toNat v).toArray := by
      rw [if_neg (by simp)]; exact rep_fold v _
    rw [e] at N'
    exact N') (lt_of_news N)
set_option hygiene false in
local macro_rules | `(tactic| k_all) => `(tactic| assumption)
set_option hygiene false in
local macro_rules | `(tactic| k_all) => `(tactic| walk_at "MY h1")
set_option hygiene false in
local macro_rules | `(tactic| walk_at "binaryOp Mult ref int") => `(tactic| (k_here; refine Stop.get ?_))

/- what inner leaves of the digits ns -/
noncomputable def innF (n : Int) : Nat → List Int → Int → Int → Int → List Int
  | 0, ns, _, _, _ => ns
  | d + 1, ns, x, lo, hi =>
    if lo + 1 = hi then ns.set lo.toNat x
    else
      let mid := (lo + hi).fdiv (2 ^ (1 : Int).toNat)
      let sh := (mid - lo) * n
      let up := x.fdiv (2 ^ sh.toNat)
      innF n d (innF n d ns (Builtin.bitXor x (up * 2 ^ sh.toNat)) lo mid) up mid hi
theorem innF_s {n : Int} {d : Nat} {ns : List Int} {x lo hi : Int} : innF n (d + 1) ns x lo hi = if lo + 1 = hi then ns.set lo.toNat x else innF n d (innF n d ns (Builtin.bitXor x (x.fdiv (2 ^ (((lo + hi).fdiv (2 ^ (1 : Int).toNat) - lo) * n).toNat) * 2 ^ (((lo + hi).fdiv (2 ^ (1 : Int).toNat) - lo) * n).toNat)) lo ((lo + hi).fdiv (2 ^ (1 : Int).toNat))) (x.fdiv (2 ^ (((lo + hi).fdiv (2 ^ (1 : Int).toNat) - lo) * n).toNat)) ((lo + hi).fdiv (2 ^ (1 : Int).toNat)) hi := rfl
theorem innF_len (n : Int) : ∀ d ns x lo hi, (innF n d ns x lo hi).length = ns.length
  | 0, _, _, _, _ => rfl
  | d + 1, ns, x, lo, hi => by
    rewrite [innF_s]
    split
    · exact List.length_set
    · rw [innF_len n d, innF_len n d]
/- a fresh closure over a list la of the ledger: what a call of it does to the places lo .. hi - 1 -/
noncomputable def InnT (prog : Program) (w : World) (K : Frag) (p : Program) (loose : List Str) (mean : ExcName → Option Value) (mg mb : Str → Option Value) (f la : Addr) (g : Obj → List (Addr × Obj)) (n : Int) (d : Nat) : Prop :=
  ∀ (dp un : Nat) (gd : Option (List Code)) (cn : Str) (cs : Scope) (a : Addr) (ccd : Value) (cl : List (Str × Addr)) (outer : List Env) (A₀ : Around) (base h₀ : Heap) (L : Addr) (m : Str → Option Value) (s : Shared)
    (Q E : Value → Shared → Prop) (vs : List Value) (ns : List Int) (k : Nat) (x lo hi : Int) (t1 t2 t3 : Tok),
    Below A₀ base outer h₀ → Fr h₀ L s.heap m → K.In h₀ → News h₀ L s.heap (g (listOf vs.toArray k)) → UpdF la (listOf vs.toArray k) (g (listOf vs.toArray k)) g → Top p loose mean mg mb h₀ → cs.kind = .function → dp + d < recursionLimit → un + 10 * d < cLine →
    IntsAre vs ns → (0 ≤ x ∧ x < 2 ^ 60) → hi - lo ≤ d → 0 ≤ lo → lo < hi → hi ≤ (ns.length : Int) → ns.length ≤ 60 →
    (∀ h' tk' vs', Fr h₀ L h' m → News h₀ L h' (g (listOf vs'.toArray k)) → IntsAre vs' (innF n d ns x lo hi) → Q .none { s with heap := h', toks := tk' }) →
    wpAny (model prog w) (ktrTop dp un gd cn cs L a ccd cl outer) (call (.ref f) [.int x t1, .int lo t2, .int hi t3]) Q E s
theorem innT_use {prog : Program} {w : World} {K : Frag} {p : Program} {loose : List Str} {mean : ExcName → Option Value} {mg mb : Str → Option Value} {f la : Addr} {g : Obj → List (Addr × Obj)} {n : Int} {d : Nat}
    {dp un : Nat} {gd : Option (List Code)} {cn : Str} {cs : Scope} {a : Addr} {ccd : Value} {cl : List (Str × Addr)} {outer : List Env} {A₀ : Around} {base h₀ : Heap} {L : Addr} {m : Str → Option Value} {news : List (Addr × Obj)} {s : Shared}
    {Q E : Value → Shared → Prop} {vs : List Value} {ns : List Int} {k : Nat} {x lo hi : Int} {t1 t2 t3 : Tok}
    (B : Below A₀ base outer h₀) (F : Fr h₀ L s.heap m) (X : K.In h₀) (N : News h₀ L s.heap news) (_hm : (la, listOf vs.toArray k) ∈ news) (U : UpdF la (listOf vs.toArray k) news g) (T : Top p loose mean mg mb h₀)
    (I : InnT prog w K p loose mean mg mb f la g n d) (hk : cs.kind = .function) (hd : dp + d < recursionLimit) (hu : un + 10 * d < cLine) (hi' : IntsAre vs ns) (hok : Owe ((0 ≤ x ∧ x < 2 ^ 60) ∧ hi - lo ≤ d ∧ 0 ≤ lo ∧ lo < hi ∧ hi ≤ (ns.length : Int) ∧ ns.length ≤ 60))
    (h : ∀ h' tk' vs', Fr h₀ L h' m → News h₀ L h' (g (listOf vs'.toArray k)) → IntsAre vs' (innF n d ns x lo hi) → Q .none { s with heap := h', toks := tk' }) :
    wpAny (model prog w) (ktrTop dp un gd cn cs L a ccd cl outer) (call (.ref f) [.int x t1, .int lo t2, .int hi t3]) Q E s := by
  have e : news = g (listOf vs.toArray k) := by
    obtain ⟨pre, post, e1, e2, _, _⟩ := U.split
    rw [e1, e2]
  subst e
  obtain ⟨q1, q2, q3, q4, q5, q6⟩ := hok.pay
  exact I dp un gd cn cs a ccd cl outer A₀ base h₀ L m s Q E vs ns k x lo hi t1 t2 t3 B F X N U T hk hd hu hi' q1 q2 q3 q4 q5 q6 h
theorem innT_of {prog : Program} {w : World} {K : Frag} {p : Program} {loose : List Str} {mean : ExcName → Option Value} {mg mb : Str → Option Value} {f la : Addr} {g : Obj → List (Addr × Obj)} {n : Int}
    (step : ∀ d, InnT prog w K p loose mean mg mb f la g n d → InnT prog w K p loose mean mg mb f la g n (d + 1)) : ∀ d, InnT prog w K p loose mean mg mb f la g n d := by
  intro d
  induction d with
  | zero => intro dp un gd cn cs a ccd cl outer A₀ base h₀ L m s Q E vs ns k x lo hi t1 t2 t3 _ _ _ _ _ _ _ _ _ _ _ h0 _ h2 _ _ _; omega
  | succ d ih => exact step d ih
set_option hygiene false in
local macro_rules | `(tactic| walk_at "call builtin:len") => `(tactic| (k_here; refine Stop.get ?_))
set_option hygiene false in
local macro_rules | `(tactic| walk_at "binaryOp RShift int int") => `(tactic| refine owe_rshift ?_ ?_)
set_option hygiene false in
local macro_rules | `(tactic| walk_at "binaryOp LShift int int") => `(tactic| refine owe_lshift ?_ ?_)
set_option hygiene false in
local macro_rules | `(tactic| walk_at "setItem ref int") => `(tactic| (k_here; refine Stop.get ?_))
set_option hygiene false in
local macro_rules | `(tactic| walk_at "call ref") => `(tactic| (k_here; refine Stop.get ?_))

theorem ints_rep (t : Tok) (c : Int) : ∀ k : Nat, IntsAre (List.replicate k (Value.int c t)) (List.replicate k c)
  | 0 => .nil
  | k + 1 => .cons c t (ints_rep t c k)
theorem owe_b1 {x : Int} (k : Nat) (h : 0 ≤ x ∧ x < 2 ^ 60) : (x.fdiv (2 ^ k)).natAbs < 2 ^ 64 := by
  have := fdiv_pow_range k h.1
  omega
theorem owe_b2 {x : Int} (k : Nat) (h : 0 ≤ x ∧ x < 2 ^ 60) : 0 ≤ x.fdiv (2 ^ k) ∧ x.fdiv (2 ^ k) < 2 ^ 60 := by
  have := fdiv_pow_range k h.1
  omega
theorem owe_b3 {x : Int} (k : Nat) (h : 0 ≤ x ∧ x < 2 ^ 60) : 0 ≤ Builtin.bitXor x (x.fdiv (2 ^ k) * 2 ^ k) ∧ Builtin.bitXor x (x.fdiv (2 ^ k) * 2 ^ k) < 2 ^ 60 := by
  rw [bitXor_high k h.1]
  have h1 := Int.emod_nonneg x (Int.ne_of_gt (pow_pos' k))
  have h2 : x % 2 ^ k ≤ x := by
    have d := Int.mul_ediv_add_emod x (2 ^ k)
    have p := Int.mul_nonneg (Int.le_of_lt (pow_pos' k)) (Int.ediv_nonneg h.1 (Int.le_of_lt (pow_pos' k)))
    omega
  omega
theorem innF_step {n x lo hi : Int} {d : Nat} {ns : List Int} (hne : ¬ lo + 1 = hi) : innF n (d + 1) ns x lo hi =
    innF n d (innF n d ns (Builtin.bitXor x (x.fdiv (2 ^ (((lo + hi).fdiv (2 ^ (1 : Int).toNat) - lo) * n).toNat) * 2 ^ (((lo + hi).fdiv (2 ^ (1 : Int).toNat) - lo) * n).toNat)) lo ((lo + hi).fdiv (2 ^ (1 : Int).toNat)))
      (x.fdiv (2 ^ (((lo + hi).fdiv (2 ^ (1 : Int).toNat) - lo) * n).toNat)) ((lo + hi).fdiv (2 ^ (1 : Int).toNat)) hi := by
  rewrite [innF_s]
  rw [if_neg hne]
theorem innF_one {n x lo hi : Int} {d : Nat} {ns : List Int} (h : lo + 1 = hi) : innF n (d + 1) ns x lo hi = ns.set lo.toNat x := by
  rewrite [innF_s]
  rw [if_pos h]
noncomputable def i2dK (x n : Int) : Nat := ((((Builtin.Int.intBits x : Nat) : Int) + n - 1).fdiv n).toNat
noncomputable def i2dF (x n : Int) : List Int := innF n 60 (List.replicate (i2dK x n) 0) x 0 (i2dK x n : Int)
set_option hygiene false in
local macro_rules | `(tactic| k_ne) => `(tactic| walk_at "MY h2")
set_option hygiene false in
local macro_rules | `(tactic| walk_at "exec FunctionDef") => `(tactic| (k_here; refine Stop.get ?_))
namespace i2d_any
noncomputable def S (w : World) (p : Program) (loose : List Str) (mean : ExcName → Option Value) (mg : Str → Option Value) (mb : Str → Option Value) (x : Int) (n : Int) (tk : Tok) (tk2 : Tok) (dp : Nat) (un : Nat) (gd : Option (List Code)) (cn : Str) (cs : Scope) (a : Addr) (ccd : Value) (cl : List (Str × Addr)) (outer : List Env) (A₀ : Around) (base : Heap) (h₀ : Heap) (L : Addr) (m : Str → Option Value) (rest : List (Addr × Obj)) (s : Shared) (Q : Value → Shared → Prop) (E : Value → Shared → Prop) (tab : Obj) : Prop :=
  ∀ (hx : 0 < x)  (hb : (Builtin.Int.intBits x : Int) ≤ 60)  (hn : 0 < n)  (hn2 : n ≤ 30)  (hx2 : x < 2 ^ 60)  (hk0 : 0 < (((Builtin.Int.intBits x : Nat) : Int) + n - 1).fdiv n)  (hk1 : (((Builtin.Int.intBits x : Nat) : Int) + n - 1).fdiv n ≤ 60)  (B : Below A₀ base outer h₀)  (F : Fr h₀ L s.heap m)  (X : (hd.heap_39 w.params).In h₀)  (C : CodeHd base 51 47)  (hS : TabSt "_int2digits.<locals>.inner" (rawInt 33) (rawInt 4) tab rest)  (r54 : ∃ o, (54, o) ∈ rest)  (N : News h₀ L s.heap ((47, tab) :: rest))  (hoff : ∀ p ∈ rest, p.1 ≠ 47)  (T : Top p loose mean mg mb h₀)  (hk : cs.kind = .function)  (hd : dp + 100 < recursionLimit)  (hu : un + 1000 < cLine)  (hret : ∀ la c' oc vs t vals k h' tk', Fr h₀ L h' m → News h₀ L h' ((la, listOf (List.toArray vals) k) :: (c', oc) :: (47, tabObj #[rawInt 33, rawInt 4, .ref c']) :: rest) → oc.data = .fields vs → vs[1]? = some (.str "_int2digits.<locals>.inner" t) → IntsAre vals (i2dF x n) → (∀ q ∈ rest, @LT.lt Nat _ q.1 la) → @Ne Nat c' la → @LT.lt Nat _ 54 c' → @LT.lt Nat _ 54 la →
      Q (.ref la) { s with heap := h', toks := tk' }),
    wpAny (model prg w) (ktrTop dp un gd cn cs L a ccd cl outer) (call (.ref 52) [.int x tk, .int n tk2]) Q E s
theorem c₁ : Nonempty {t : World × Program × (List Str) × (ExcName → Option Value) × (Str → Option Value) × (Str → Option Value) × Int × Int × Tok × Tok × Nat × Nat × (Option (List Code)) × Str × Scope × Addr × Value × (List (Str × Addr)) × (List Env) × Around × Heap × Heap × Addr × (Str → Option Value) × (List (Addr × Obj)) × Shared × (Value → Shared → Prop) × (Value → Shared → Prop) × Obj // S t.1 t.2.1 t.2.2.1 t.2.2.2.1 t.2.2.2.2.1 t.2.2.2.2.2.1 t.2.2.2.2.2.2.1 t.2.2.2.2.2.2.2.1 t.2.2.2.2.2.2.2.2.1 t.2.2.2.2.2.2.2.2.2.1 t.2.2.2.2.2.2.2.2.2.2.1 t.2.2.2.2.2.2.2.2.2.2.2.1 t.2.2.2.2.2.2.2.2.2.2.2.2.1 t.2.2.2.2.2.2.2.2.2.2.2.2.2.1 t.2.2.2.2.2.2.2.2.2.2.2.2.2.2.1 t.2.2.2.2.2.2.2.2.2.2.2.2.2.2.2.1 t.2.2.2.2.2.2.2.2.2.2.2.2.2.2.2.2.1 t.2.2.2.2.2.2.2.2.2.2.2.2.2.2.2.2.2.1 t.2.2.2.2.2.2.2.2.2.2.2.2.2.2.2.2.2.2.1 t.2.2.2.2.2.2.2.2.2.2.2.2.2.2.2.2.2.2.2.1 t.2.2.2.2.2.2.2.2.2.2.2.2.2.2.2.2.2.2.2.2.1 t.2.2.2.2.2.2.2.2.2.2.2.2.2.2.2.2.2.2.2.2.2.1 t.2.2.2.2.2.2.2.2.2.2.2.2.2.2.2.2.2.2.2.2.2.2.1 t.2.2.2.2.2.2.2.2.2.2.2.2.2.2.2.2.2.2.2.2.2.2.2.1 t.2.2.2.2.2.2.2.2.2.2.2.2.2.2.2.2.2.2.2.2.2.2.2.2.1 t.2.2.2.2.2.2.2.2.2.2.2.2.2.2.2.2.2.2.2.2.2.2.2.2.2.1 t.2.2.2.2.2.2.2.2.2.2.2.2.2.2.2.2.2.2.2.2.2.2.2.2.2.2.1 t.2.2.2.2.2.2.2.2.2.2.2.2.2.2.2.2.2.2.2.2.2.2.2.2.2.2.2.1 t.2.2.2.2.2.2.2.2.2.2.2.2.2.2.2.2.2.2.2.2.2.2.2.2.2.2.2.2 → ∀ t : World × Program × (List Str) × (ExcName → Option Value) × (Str → Option Value) × (Str → Option Value) × Int × Int × Tok × Tok × Nat × Nat × (Option (List Code)) × Str × Scope × Addr × Value × (List (Str × Addr)) × (List Env) × Around × Heap × Heap × Addr × (Str → Option Value) × (List (Addr × Obj)) × Shared × (Value → Shared → Prop) × (Value → Shared → Prop) × Obj, S t.1 t.2.1 t.2.2.1 t.2.2.2.1 t.2.2.2.2.1 t.2.2.2.2.2.1 t.2.2.2.2.2.2.1 t.2.2.2.2.2.2.2.1 t.2.2.2.2.2.2.2.2.1 t.2.2.2.2.2.2.2.2.2.1 t.2.2.2.2.2.2.2.2.2.2.1 t.2.2.2.2.2.2.2.2.2.2.2.1 t.2.2.2.2.2.2.2.2.2.2.2.2.1 t.2.2.2.2.2.2.2.2.2.2.2.2.2.1 t.2.2.2.2.2.2.2.2.2.2.2.2.2.2.1 t.2.2.2.2.2.2.2.2.2.2.2.2.2.2.2.1 t.2.2.2.2.2.2.2.2.2.2.2.2.2.2.2.2.1 t.2.2.2.2.2.2.2.2.2.2.2.2.2.2.2.2.2.1 t.2.2.2.2.2.2.2.2.2.2.2.2.2.2.2.2.2.2.1 t.2.2.2.2.2.2.2.2.2.2.2.2.2.2.2.2.2.2.2.1 t.2.2.2.2.2.2.2.2.2.2.2.2.2.2.2.2.2.2.2.2.1 t.2.2.2.2.2.2.2.2.2.2.2.2.2.2.2.2.2.2.2.2.2.1 t.2.2.2.2.2.2.2.2.2.2.2.2.2.2.2.2.2.2.2.2.2.2.1 t.2.2.2.2.2.2.2.2.2.2.2.2.2.2.2.2.2.2.2.2.2.2.2.1 t.2.2.2.2.2.2.2.2.2.2.2.2.2.2.2.2.2.2.2.2.2.2.2.2.1 t.2.2.2.2.2.2.2.2.2.2.2.2.2.2.2.2.2.2.2.2.2.2.2.2.2.1 t.2.2.2.2.2.2.2.2.2.2.2.2.2.2.2.2.2.2.2.2.2.2.2.2.2.2.1 t.2.2.2.2.2.2.2.2.2.2.2.2.2.2.2.2.2.2.2.2.2.2.2.2.2.2.2.1 t.2.2.2.2.2.2.2.2.2.2.2.2.2.2.2.2.2.2.2.2.2.2.2.2.2.2.2.2} := eps_ex ⟨(⟨fun _ _ => 0, { strHash := fun _ => 0, shareClass := fun _ => 0, mergeTok := fun _ => default, idOf := fun _ => 0, idOfShared := fun _ _ => 0, followText := fun _ => true, idOfImm := fun _ => 0 }⟩, default, default, default, default, default, default, default, default, default, default, default, default, default, default, default, default, default, default, {}, default, default, default, default, default, {}, default, default, default)⟩ fun t => S t.1 t.2.1 t.2.2.1 t.2.2.2.1 t.2.2.2.2.1 t.2.2.2.2.2.1 t.2.2.2.2.2.2.1 t.2.2.2.2.2.2.2.1 t.2.2.2.2.2.2.2.2.1 t.2.2.2.2.2.2.2.2.2.1 t.2.2.2.2.2.2.2.2.2.2.1 t.2.2.2.2.2.2.2.2.2.2.2.1 t.2.2.2.2.2.2.2.2.2.2.2.2.1 t.2.2.2.2.2.2.2.2.2.2.2.2.2.1 t.2.2.2.2.2.2.2.2.2.2.2.2.2.2.1 t.2.2.2.2.2.2.2.2.2.2.2.2.2.2.2.1 t.2.2.2.2.2.2.2.2.2.2.2.2.2.2.2.2.1 t.2.2.2.2.2.2.2.2.2.2.2.2.2.2.2.2.2.1 t.2.2.2.2.2.2.2.2.2.2.2.2.2.2.2.2.2.2.1 t.2.2.2.2.2.2.2.2.2.2.2.2.2.2.2.2.2.2.2.1 t.2.2.2.2.2.2.2.2.2.2.2.2.2.2.2.2.2.2.2.2.1 t.2.2.2.2.2.2.2.2.2.2.2.2.2.2.2.2.2.2.2.2.2.1 t.2.2.2.2.2.2.2.2.2.2.2.2.2.2.2.2.2.2.2.2.2.2.1 t.2.2.2.2.2.2.2.2.2.2.2.2.2.2.2.2.2.2.2.2.2.2.2.1 t.2.2.2.2.2.2.2.2.2.2.2.2.2.2.2.2.2.2.2.2.2.2.2.2.1 t.2.2.2.2.2.2.2.2.2.2.2.2.2.2.2.2.2.2.2.2.2.2.2.2.2.1 t.2.2.2.2.2.2.2.2.2.2.2.2.2.2.2.2.2.2.2.2.2.2.2.2.2.2.1 t.2.2.2.2.2.2.2.2.2.2.2.2.2.2.2.2.2.2.2.2.2.2.2.2.2.2.2.1 t.2.2.2.2.2.2.2.2.2.2.2.2.2.2.2.2.2.2.2.2.2.2.2.2.2.2.2.2
noncomputable def c₀ : World × Program × (List Str) × (ExcName → Option Value) × (Str → Option Value) × (Str → Option Value) × Int × Int × Tok × Tok × Nat × Nat × (Option (List Code)) × Str × Scope × Addr × Value × (List (Str × Addr)) × (List Env) × Around × Heap × Heap × Addr × (Str → Option Value) × (List (Addr × Obj)) × Shared × (Value → Shared → Prop) × (Value → Shared → Prop) × Obj := (Classical.choice c₁).val
noncomputable def w : World := c₀.1
noncomputable def p : Program := c₀.2.1
noncomputable def loose : List Str := c₀.2.2.1
noncomputable def mean : ExcName → Option Value := c₀.2.2.2.1
noncomputable def mg : Str → Option Value := c₀.2.2.2.2.1
noncomputable def mb : Str → Option Value := c₀.2.2.2.2.2.1
noncomputable def x : Int := c₀.2.2.2.2.2.2.1
noncomputable def n : Int := c₀.2.2.2.2.2.2.2.1
noncomputable def tk : Tok := c₀.2.2.2.2.2.2.2.2.1
noncomputable def tk2 : Tok := c₀.2.2.2.2.2.2.2.2.2.1
noncomputable def dp : Nat := c₀.2.2.2.2.2.2.2.2.2.2.1
noncomputable def un : Nat := c₀.2.2.2.2.2.2.2.2.2.2.2.1
noncomputable def gd : Option (List Code) := c₀.2.2.2.2.2.2.2.2.2.2.2.2.1
noncomputable def cn : Str := c₀.2.2.2.2.2.2.2.2.2.2.2.2.2.1
noncomputable def cs : Scope := c₀.2.2.2.2.2.2.2.2.2.2.2.2.2.2.1
noncomputable def a : Addr := c₀.2.2.2.2.2.2.2.2.2.2.2.2.2.2.2.1
noncomputable def ccd : Value := c₀.2.2.2.2.2.2.2.2.2.2.2.2.2.2.2.2.1
noncomputable def cl : List (Str × Addr) := c₀.2.2.2.2.2.2.2.2.2.2.2.2.2.2.2.2.2.1
noncomputable def outer : List Env := c₀.2.2.2.2.2.2.2.2.2.2.2.2.2.2.2.2.2.2.1
noncomputable def A₀ : Around := c₀.2.2.2.2.2.2.2.2.2.2.2.2.2.2.2.2.2.2.2.1
noncomputable def base : Heap := c₀.2.2.2.2.2.2.2.2.2.2.2.2.2.2.2.2.2.2.2.2.1
noncomputable def h₀ : Heap := c₀.2.2.2.2.2.2.2.2.2.2.2.2.2.2.2.2.2.2.2.2.2.1
noncomputable def L : Addr := c₀.2.2.2.2.2.2.2.2.2.2.2.2.2.2.2.2.2.2.2.2.2.2.1
noncomputable def m : Str → Option Value := c₀.2.2.2.2.2.2.2.2.2.2.2.2.2.2.2.2.2.2.2.2.2.2.2.1
noncomputable def rest : List (Addr × Obj) := c₀.2.2.2.2.2.2.2.2.2.2.2.2.2.2.2.2.2.2.2.2.2.2.2.2.1
noncomputable def s : Shared := c₀.2.2.2.2.2.2.2.2.2.2.2.2.2.2.2.2.2.2.2.2.2.2.2.2.2.1
noncomputable def Q : Value → Shared → Prop := c₀.2.2.2.2.2.2.2.2.2.2.2.2.2.2.2.2.2.2.2.2.2.2.2.2.2.2.1
noncomputable def E : Value → Shared → Prop := c₀.2.2.2.2.2.2.2.2.2.2.2.2.2.2.2.2.2.2.2.2.2.2.2.2.2.2.2.1
noncomputable def tab : Obj := c₀.2.2.2.2.2.2.2.2.2.2.2.2.2.2.2.2.2.2.2.2.2.2.2.2.2.2.2.2
theorem main : S w p loose mean mg mb x n tk tk2 dp un gd cn cs a ccd cl outer A₀ base h₀ L m rest s Q E tab := by
  unfold S
  intro hx hb hn hn2 hx2 hk0 hk1 B F X C hS r54 N hoff T hk hd hu hret
  unfold prg
  revert X; k_fill; intro X
  refine wpAny_call ?_
  k_dflt ((refine' code_defC ?k1_u1 ?k2_u1 ?k3_u1 ?k4_u1 ?k5_u1 ?kA_u1 ?kF_u1 ?kK_u1 ?k6_u1 ?k7_u1 ?k8_u1 ?k9_u1 ?kB_u1 ?kD_u1 ?_ ?c2_u1 ?c3_u1 ?c4_u1; (case kA_u1 => exact rfl); (case kF_u1 => exact rfl); (case kK_u1 => assumption); (case k1_u1 => k_asm); (case k2_u1 => k_asm); (case k3_u1 => k_asm); (case k4_u1 => k_asm); (case k5_u1 => k_asm); (case k6_u1 => k_is); (case k7_u1 => k_is); (case k8_u1 => ktr_room); (case k9_u1 => exact BindsTo.of_eq rfl); (case kB_u1 => exact rfl); (case kD_u1 => decide +kernel); (case c2_u1 => exact rfl); (case c3_u1 => exact rfl); (case c4_u1 => exact rfl); k_whole; intro g' L' h' tk' cells' FG' F' N' Y' B' X' T' l1; have l0' := l1; (try k_lt l1); k_cells Y'; (try simp only [List.cons_append, List.nil_append] at N'); (try dsimp only); (try k_lift B'); (try k_fold)))
  obtain ⟨o54, m54⟩ := r54
  (rename (∀ p ∈ (47, tab) :: rest, @LT.lt Nat _ p.1 _) => zl)
  have z54 : @LT.lt Nat _ 54 _ := zl _ (.tail _ m54)
  k_steps
  all_goals try (refine Stop.mk ?_; (k_dflt (refine' len_list ?k1_u200 ?k2_u200 ?_; (case k1_u200 => exact News.isList (by k_asm) (by k_mem)); (case k2_u200 => (first | (simp only [List.size_toArray, List.length_replicate]; omega) | omega)))); k_steps)
  all_goals try (refine Stop.mk ?_; (k_dflt (refine' mul_rep ?k1_u1 ?k2_u1 ?k3_u1 ?k4_u1 ?k5_u1 ?_; (case k1_u1 => k_asm); (case k2_u1 => k_asm); (case k3_u1 => k_mem); (case k4_u1 => omega); (case k5_u1 => omega); k_whole); intro l' h' F' N' l1; (try k_lt l1)); k_steps)
  refine Stop.mk ?_
  k_dflt (refine' nestDef_K ?d0 ?k0 ?a0 ?_)
  case d0 => exact rfl
  case k0 => exact rfl
  case a0 => exact rfl
  k_dflt (refine' nest_any ?F ?N ?T ?C ?cd ?U ?S ?lt ?sub ?cl ?_)
  case F => k_asm
  case N => k_asm
  case T => k_asm
  case cd => exact rfl
  case C => kn_code
  case U => k_updF
  case S => assumption
  case lt => exact lt_tail (by assumption)
  case sub => (intro q hq; repeat (first | exact hq | refine List.Mem.tail _ ?_))
  case cl => exact rfl
  k_whole
  intro f' c' oc' vs' t' ct' dc' h' tk' F' N' d1' d2' l1 l2 l3
  (try dsimp only at N')
  (try k_lt l1)
  (try k_lt2 l2)
  k_steps
  all_goals try (refine Stop.mk ?_; (k_dflt (refine' len_list ?k1_u201 ?k2_u201 ?_; (case k1_u201 => exact News.isList (by k_asm) (by k_mem)); (case k2_u201 => (first | (simp only [List.size_toArray, List.length_replicate]; omega) | omega)))); k_steps)
  all_goals first
    | (exfalso; omega)
    | skip
  refine Stop.mk ?_
  k_dflt (refine' innT_use (n := n) ?k1 ?k2 ?k3 ?k4 ?km ?kU ?k5 (innT_of (fun d IH => ?step) 60) ?kk ?kd ?ku ?kiA ?_ ?_)
  case k1 => k_asm
  case k2 => k_asm
  case k3 => k_asm
  case k4 => k_asm
  case k5 => k_asm
  case km => k_mem
  case kiA => exact ints_rep _ _ _
  case kU => k_updF
  case kk => exact rfl
  case kd => ktr_room
  case ku => ktr_units
  case step =>
    clear hret
    intro dp un gd cn cs a ccd cl outer A₀ base h₀ L m s Q E vs ns k x lo hi t1 t2 t3 B F X N U T hk hd hu hA hok hdd h0 h1 h2 h3 hret
    have hAl := hA.length
    refine wpAny_call ?_
    k_dflt ((refine' code_nest ?k1_u2 ?k2_u2 ?k3_u2 ?k4_u2 ?k5_u2 ?kA_u2 ?kF_u2 ?kK_u2 ?k6_u2 ?k7_u2 ?k8_u2 ?k9_u2 ?kB_u2 ?_ ?c2_u2 ?c3_u2 ?c4_u2 ?c5_u2; (case kA_u2 => exact rfl); (case kF_u2 => exact rfl); (case kK_u2 => assumption); (case k1_u2 => k_asm); (case k2_u2 => k_asm); (case k3_u2 => k_asm); (case k4_u2 => k_asm); (case k5_u2 => k_asm); (case k6_u2 => k_mem); (case k7_u2 => exact codeRec_news (by k_asm) (by k_mem) (by assumption) (by assumption)); (case k8_u2 => ktr_room); (case k9_u2 => exact BindsTo.of_eq rfl); (case c5_u2 => decide); (case kB_u2 => exact locs rfl); (case c2_u2 => exact rfl); (case c3_u2 => exact rfl); (case c4_u2 => exact rfl); k_whole; intro g' L' h' FG' F' N' B' X' T'; (try dsimp only); (try k_lift B'); (try k_fold)))
    k_steps
    all_goals try (refine Stop.mk ?_; (k_dflt (refine' len_list ?k1_u202 ?k2_u202 ?_; (case k1_u202 => exact News.isList (by k_asm) (by k_mem)); (case k2_u202 => (first | (simp only [List.size_toArray, List.length_replicate]; omega) | omega)))); k_steps)
    all_goals try (refine Stop.mk ?_; (k_dflt (refine' ksa_set ?F_u2 ?N_u2 ?U_u2 ?hi_u2 ?a_u2 ?b_u2 ?c_u2 ?_; (case F_u2 => k_asm); (case N_u2 => k_asm); (case U_u2 => k_upd); (case hi_u2 => l_ints); (case a_u2 => assumption); (case b_u2 => omega); (case c_u2 => omega); k_whole); intro h' F' N' iA' _ _); k_steps)
    all_goals try (refine Stop.mk ?_; ((k_dflt (refine' innT_use ?k1_u3 ?k2_u3 ?k3_u3 ?k4_u3 ?km_u3 ?kU_u3 ?k5_u3 ?kI_u3 ?kk_u3 ?kd_u3 ?ku_u3 ?kA_u3 ?_ ?_); (case kA_u3 => l_ints); (case k1_u3 => k_asm); (case k2_u3 => k_asm); (case k3_u3 => k_asm); (case k4_u3 => k_asm); (case k5_u3 => k_asm); (case km_u3 => k_mem); (case kU_u3 => k_updF); (case kk_u3 => exact rfl); (case kI_u3 => assumption); (case kd_u3 => ktr_room); (case ku_u3 => ktr_units)); rotate_left; intro h' tk' vs' F' N' iA'; (try dsimp only at N')); k_steps)
    all_goals try (refine Stop.mk ?_; ((k_dflt (refine' innT_use ?k1_u4 ?k2_u4 ?k3_u4 ?k4_u4 ?km_u4 ?kU_u4 ?k5_u4 ?kI_u4 ?kk_u4 ?kd_u4 ?ku_u4 ?kA_u4 ?_ ?_); (case kA_u4 => l_ints); (case k1_u4 => k_asm); (case k2_u4 => k_asm); (case k3_u4 => k_asm); (case k4_u4 => k_asm); (case k5_u4 => k_asm); (case km_u4 => k_mem); (case kU_u4 => k_updF); (case kk_u4 => exact rfl); (case kI_u4 => assumption); (case kd_u4 => ktr_room); (case ku_u4 => ktr_units)); rotate_left; intro h' tk' vs' F' N' iA'; (try dsimp only at N')); k_steps)
    all_goals first
      | exact hret _ _ _ (by k_asm) (by k_asm) (by rw [innF_one (by assumption)]; assumption)
      | exact hret _ _ _ (by k_asm) (by k_asm) (by rw [innF_step (by assumption)]; assumption)
      | exact ⟨by decide⟩
      | exact ⟨owe_sh0 hn h1 (by assumption)⟩
      | exact ⟨owe_sh0 hn h1 (by assumption), owe_sh1 hn hn2 h1 (by assumption) (mid_60 h0 h2 h3), owe_b1 _ hok⟩
      | exact ⟨owe_b2 _ hok, mid_hi hdd (mid_b h1 (by assumption)), mid_nn h0 (mid_b h1 (by assumption)), (mid_b h1 (by assumption)).2, by rw [innF_len]; exact h2, by rw [innF_len]; exact h3⟩
      | exact ⟨owe_b3 _ hok, mid_lo hdd (mid_b h1 (by assumption)), h0, (mid_b h1 (by assumption)).1, mid_len (mid_b h1 (by assumption)) h2, h3⟩
  · exact ⟨⟨⟨by omega, hx2⟩, by simp only [List.size_toArray, List.length_replicate]; omega, by omega, by simp only [List.size_toArray, List.length_replicate]; omega, by simp only [List.size_toArray, List.length_replicate]; omega, by simp only [List.length_replicate]; omega⟩⟩
  · intro h' tk' vs' F' N' iA'
    try dsimp only at N'
    k_steps
    all_goals try (refine Stop.mk ?_; (k_dflt (refine' len_list ?k1_u203 ?k2_u203 ?_; (case k1_u203 => exact News.isList (by k_asm) (by k_mem)); (case k2_u203 => (first | (simp only [List.size_toArray, List.length_replicate]; omega) | omega)))); k_steps)
    (rename IntsAre _ _ => iB)
    simp only [List.size_toArray, List.length_replicate] at iB
    refine' hret _ _ _ _ _ _ _ _ _ ?F ?N ?d1 ?d2 ?iA ?q1 ?q2 ?q3 ?q4
    case F => k_asm
    case d1 => assumption
    case d2 => assumption
    case iA => exact iB
    case N => exact news_cons (by k_asm) (by k_mem) (news_cons (by k_asm) (by k_mem) (news_cons (by k_asm) (by k_mem) (news_sub (by k_asm) (by repeat (first | exact sub_refl _ | refine sub_tail ?_)))))
    case q1 => exact all_trans1 (by assumption) (by omega)
    case q2 => k_ne
    case q3 => exact Fresh.low (by assumption) (List.Mem.head _) (by omega)
    case q4 => exact ltN (by omega)
end i2d_any
theorem i2d_any {w : World} {p : Program} {loose : List Str} {mean : ExcName → Option Value} {mg mb : Str → Option Value} {x n : Int} {tk tk2 : Tok} (hx : 0 < x) (hb : (Builtin.Int.intBits x : Int) ≤ 60) (hn : 0 < n) (hn2 : n ≤ 30) (hx2 : x < 2 ^ 60) (hk0 : 0 < (((Builtin.Int.intBits x : Nat) : Int) + n - 1).fdiv n) (hk1 : (((Builtin.Int.intBits x : Nat) : Int) + n - 1).fdiv n ≤ 60)
  {dp un : Nat} {gd : Option (List Code)} {cn : Str} {cs : Scope} {a : Addr} {ccd : Value} {cl : List (Str × Addr)} {outer : List Env} {A₀ : Around} {base h₀ : Heap} {L : Addr} {m : Str → Option Value} {rest : List (Addr × Obj)} {s : Shared}
    {Q E : Value → Shared → Prop}
    (B : Below A₀ base outer h₀) (F : Fr h₀ L s.heap m) (X : (hd.heap_39 w.params).In h₀) (C : CodeHd base 51 47) {tab : Obj} (hS : TabSt "_int2digits.<locals>.inner" (rawInt 33) (rawInt 4) tab rest) (r54 : ∃ o, (54, o) ∈ rest) (N : News h₀ L s.heap ((47, tab) :: rest)) (hoff : ∀ p ∈ rest, p.1 ≠ 47) (T : Top p loose mean mg mb h₀) (hk : cs.kind = .function) (hd : dp + 100 < recursionLimit) (hu : un + 1000 < cLine) 
    (hret : ∀ la c' oc vs t vals k h' tk', Fr h₀ L h' m → News h₀ L h' ((la, listOf (List.toArray vals) k) :: (c', oc) :: (47, tabObj #[rawInt 33, rawInt 4, .ref c']) :: rest) → oc.data = .fields vs → vs[1]? = some (.str "_int2digits.<locals>.inner" t) → IntsAre vals (i2dF x n) → (∀ q ∈ rest, @LT.lt Nat _ q.1 la) → @Ne Nat c' la → @LT.lt Nat _ 54 c' → @LT.lt Nat _ 54 la →
      Q (.ref la) { s with heap := h', toks := tk' }) :
    wpAny (model prg w) (ktrTop dp un gd cn cs L a ccd cl outer) (call (.ref 52) [.int x tk, .int n tk2]) Q E s :=
  (Classical.choice i2d_any.c₁).property i2d_any.main (w, p, loose, mean, mg, mb, x, n, tk, tk2, dp, un, gd, cn, cs, a, ccd, cl, outer, A₀, base, h₀, L, m, rest, s, Q, E, tab) hx hb hn hn2 hx2 hk0 hk1 B F X C hS r54 N hoff T hk hd hu hret
end
section
theorem off_D2I : True := by (w_top off; first | walk1 | trivial)
set_option maxRecDepth 100000
set_option maxHeartbeats 8000000
set_option hygiene false in
local macro_rules | `(tactic| k_all) => `(tactic| assumption)
set_option hygiene false in
local macro_rules | `(tactic| k_all) => `(tactic| walk_at "MY h1")
set_option hygiene false in
local macro_rules | `(tactic| walk_at "call builtin:len") => `(tactic| (k_here; refine Stop.get ?_))
set_option hygiene false in
local macro_rules | `(tactic| walk_at "binaryOp RShift int int") => `(tactic| refine owe_rshift ?_ ?_)
set_option hygiene false in
local macro_rules | `(tactic| walk_at "binaryOp LShift int int") => `(tactic| refine owe_lshift ?_ ?_)

/- what inner gives of the digits ns -/
noncomputable def d2F (n : Int) (ns : List Int) : Nat → Int → Int → Int
  | 0, _, _ => 0
  | d + 1, lo, hi =>
    if lo + 1 = hi then ns.getD lo.toNat 0
    else d2F n ns d ((lo + hi).fdiv (2 ^ (1 : Int).toNat)) hi * 2 ^ (((lo + hi).fdiv (2 ^ (1 : Int).toNat) - lo) * n).toNat + d2F n ns d lo ((lo + hi).fdiv (2 ^ (1 : Int).toNat))
theorem d2F_s {n : Int} {ns : List Int} {d : Nat} {lo hi : Int} : d2F n ns (d + 1) lo hi = if lo + 1 = hi then ns.getD lo.toNat 0 else d2F n ns d ((lo + hi).fdiv (2 ^ (1 : Int).toNat)) hi * 2 ^ (((lo + hi).fdiv (2 ^ (1 : Int).toNat) - lo) * n).toNat + d2F n ns d lo ((lo + hi).fdiv (2 ^ (1 : Int).toNat)) := rfl
theorem d2F_step {n lo hi : Int} {d : Nat} {ns : List Int} (hne : ¬ lo + 1 = hi) : d2F n ns (d + 1) lo hi =
    d2F n ns d ((lo + hi).fdiv (2 ^ (1 : Int).toNat)) hi * 2 ^ (((lo + hi).fdiv (2 ^ (1 : Int).toNat) - lo) * n).toNat + d2F n ns d lo ((lo + hi).fdiv (2 ^ (1 : Int).toNat)) := by
  rewrite [d2F_s]
  rw [if_neg hne]
theorem d2F_one {n lo hi : Int} {d : Nat} {ns : List Int} (h : lo + 1 = hi) : d2F n ns (d + 1) lo hi = ns.getD lo.toNat 0 := by
  rewrite [d2F_s]
  rw [if_pos h]
noncomputable def RdT (prog : Program) (w : World) (K : Frag) (p : Program) (loose : List Str) (mean : ExcName → Option Value) (mg mb : Str → Option Value) (f : Addr) (news : List (Addr × Obj)) (n : Int) (ns : List Int) (d : Nat) : Prop :=
  ∀ (dp un : Nat) (gd : Option (List Code)) (cn : Str) (cs : Scope) (a : Addr) (ccd : Value) (cl : List (Str × Addr)) (outer : List Env) (A₀ : Around) (base h₀ : Heap) (L : Addr) (m : Str → Option Value) (s : Shared)
    (Q E : Value → Shared → Prop) (lo hi : Int) (t2 t3 : Tok),
    Below A₀ base outer h₀ → Fr h₀ L s.heap m → K.In h₀ → News h₀ L s.heap news → Top p loose mean mg mb h₀ → cs.kind = .function → dp + d < recursionLimit → un + 10 * d < cLine →
    hi - lo ≤ d → 0 ≤ lo → lo < hi → hi ≤ (ns.length : Int) → ns.length ≤ 60 →
    (∀ h' tk' t', Fr h₀ L h' m → News h₀ L h' news → Q (.int (d2F n ns d lo hi) t') { s with heap := h', toks := tk' }) →
    wpAny (model prog w) (ktrTop dp un gd cn cs L a ccd cl outer) (call (.ref f) [.int lo t2, .int hi t3]) Q E s
theorem rdT_use {prog : Program} {w : World} {K : Frag} {p : Program} {loose : List Str} {mean : ExcName → Option Value} {mg mb : Str → Option Value} {f : Addr} {n : Int} {ns : List Int} {d : Nat}
    {dp un : Nat} {gd : Option (List Code)} {cn : Str} {cs : Scope} {a : Addr} {ccd : Value} {cl : List (Str × Addr)} {outer : List Env} {A₀ : Around} {base h₀ : Heap} {L : Addr} {m : Str → Option Value} {news : List (Addr × Obj)} {s : Shared}
    {Q E : Value → Shared → Prop} {lo hi : Int} {t2 t3 : Tok}
    (B : Below A₀ base outer h₀) (F : Fr h₀ L s.heap m) (X : K.In h₀) (N : News h₀ L s.heap news) (T : Top p loose mean mg mb h₀)
    (I : RdT prog w K p loose mean mg mb f news n ns d) (hk : cs.kind = .function) (hd : dp + d < recursionLimit) (hu : un + 10 * d < cLine) (hok : Owe (hi - lo ≤ d ∧ 0 ≤ lo ∧ lo < hi ∧ hi ≤ (ns.length : Int) ∧ ns.length ≤ 60))
    (h : ∀ h' tk' t', Fr h₀ L h' m → News h₀ L h' news → Q (.int (d2F n ns d lo hi) t') { s with heap := h', toks := tk' }) :
    wpAny (model prog w) (ktrTop dp un gd cn cs L a ccd cl outer) (call (.ref f) [.int lo t2, .int hi t3]) Q E s := by
  obtain ⟨q2, q3, q4, q5, q6⟩ := hok.pay
  exact I dp un gd cn cs a ccd cl outer A₀ base h₀ L m s Q E lo hi t2 t3 B F X N T hk hd hu q2 q3 q4 q5 q6 h
theorem rdT_of {prog : Program} {w : World} {K : Frag} {p : Program} {loose : List Str} {mean : ExcName → Option Value} {mg mb : Str → Option Value} {f : Addr} {news : List (Addr × Obj)} {n : Int} {ns : List Int}
    (step : ∀ d, RdT prog w K p loose mean mg mb f news n ns d → RdT prog w K p loose mean mg mb f news n ns (d + 1)) : ∀ d, RdT prog w K p loose mean mg mb f news n ns d := by
  intro d
  induction d with
  | zero => intro dp un gd cn cs a ccd cl outer A₀ base h₀ L m s Q E lo hi t2 t3 _ _ _ _ _ _ _ _ _ h0 _ h2 _ _; omega
  | succ d ih => exact step d ih
set_option hygiene false in
local macro_rules | `(tactic| walk_at "call ref") => `(tactic| (k_here; refine Stop.get ?_))
set_option hygiene false in
local macro_rules | `(tactic| k_ne) => `(tactic| walk_at "MY h2")
set_option hygiene false in
local macro_rules | `(tactic| walk_at "exec FunctionDef") => `(tactic| (k_here; refine Stop.get ?_))
theorem d2i_any {w : World} {p : Program} {loose : List Str} {mean : ExcName → Option Value} {mg mb : Str → Option Value} {n : Int} {tk2 : Tok} (hn : 0 < n) (hn2 : n ≤ 30) {ns : List Int} (hl0 : 0 < ns.length) (hl1 : ns.length ≤ 60)
    (hv : ∀ (d : Nat) (lo hi : Int), 0 ≤ lo → lo < hi → hi ≤ (ns.length : Int) → hi - lo ≤ d → (d2F n ns d lo hi).natAbs < 2 ^ 64)
    {dp un : Nat} {gd : Option (List Code)} {cn : Str} {cs : Scope} {a : Addr} {ccd : Value} {cl : List (Str × Addr)} {outer : List Env} {A₀ : Around} {base h₀ : Heap} {L : Addr} {m : Str → Option Value} {rest : List (Addr × Obj)} {s : Shared}
    {Q E : Value → Shared → Prop} {la : Addr} {vs : List Value} {k : Nat} (hA : IntsAre vs ns)
    (B : Below A₀ base outer h₀) (F : Fr h₀ L s.heap m) (X : (hd.heap_39 w.params).In h₀) (C : CodeHd base 58 54) {tab : Obj} (hS : TabSt "_digits2int.<locals>.inner" (rawInt 48) (rawInt 4) tab rest) (N : News h₀ L s.heap ((la, listOf vs.toArray k) :: (54, tab) :: rest)) (hlaP : @LT.lt Nat _ 54 la) (hoff : ∀ p ∈ rest, p.1 ≠ 54) (T : Top p loose mean mg mb h₀) (hk : cs.kind = .function) (hd : dp + 100 < recursionLimit) (hu : un + 1000 < cLine)
    (hret : ∀ c' oc vs1 t h' tk' t', Fr h₀ L h' m → News h₀ L h' ((c', oc) :: (54, tabObj #[rawInt 48, rawInt 4, .ref c']) :: rest) → oc.data = .fields vs1 → vs1[1]? = some (.str "_digits2int.<locals>.inner" t) → @LT.lt Nat _ 54 c' →
      Q (.int (d2F n ns 60 0 ns.length) t') { s with heap := h', toks := tk' }) :
    wpAny (model prg w) (ktrTop dp un gd cn cs L a ccd cl outer) (call (.ref 59) [.ref la, .int n tk2]) Q E s := by
  unfold prg
  revert X; k_fill; intro X
  have hAl := hA.length
  refine wpAny_call ?_
  k_dflt ((refine' code_defC ?k1_u1 ?k2_u1 ?k3_u1 ?k4_u1 ?k5_u1 ?kA_u1 ?kF_u1 ?kK_u1 ?k6_u1 ?k7_u1 ?k8_u1 ?k9_u1 ?kB_u1 ?kD_u1 ?_ ?c2_u1 ?c3_u1 ?c4_u1; (case kA_u1 => exact rfl); (case kF_u1 => exact rfl); (case kK_u1 => assumption); (case k1_u1 => k_asm); (case k2_u1 => k_asm); (case k3_u1 => k_asm); (case k4_u1 => k_asm); (case k5_u1 => k_asm); (case k6_u1 => k_is); (case k7_u1 => k_is); (case k8_u1 => ktr_room); (case k9_u1 => exact BindsTo.of_eq rfl); (case kB_u1 => exact rfl); (case kD_u1 => decide +kernel); (case c2_u1 => exact rfl); (case c3_u1 => exact rfl); (case c4_u1 => exact rfl); k_whole; intro g' L' h' tk' cells' FG' F' N' Y' B' X' T' l1; have l0' := l1; (try k_lt l1); k_cells Y'; (try simp only [List.cons_append, List.nil_append] at N'); (try dsimp only); (try k_lift B'); (try k_fold)))
  k_steps
  all_goals try (refine Stop.mk ?_; (k_dflt (refine' len_list ?k1_u204 ?k2_u204 ?_; (case k1_u204 => exact News.isList (by k_asm) (by k_mem)); (case k2_u204 => (first | (simp only [List.size_toArray, List.length_replicate]; omega) | omega)))); k_steps)
  refine Stop.mk ?_
  k_dflt (refine' nestDef_K ?d0 ?k0 ?a0 ?_)
  case d0 => exact rfl
  case k0 => exact rfl
  case a0 => exact rfl
  k_dflt (refine' nest_any ?F ?N ?T ?C ?cd ?U ?S ?lt ?sub ?cl ?_)
  case F => k_asm
  case N => k_asm
  case T => k_asm
  case cd => exact rfl
  case C => kn_code
  case U => k_updF
  case S => assumption
  case lt => exact lt_tail (lt_tail (by assumption))
  case sub => (intro q hq; repeat (first | exact hq | refine List.Mem.tail _ ?_))
  case cl => exact rfl
  k_whole
  intro f' c' oc' vs' t' ct' dc' h' tk' F' N' d1' d2' l1 l2 l3
  (try dsimp only at N')
  (try k_lt l1)
  (try k_lt2 l2)
  k_steps
  all_goals try (refine Stop.mk ?_; (k_dflt (refine' len_list ?k1_u205 ?k2_u205 ?_; (case k1_u205 => exact News.isList (by k_asm) (by k_mem)); (case k2_u205 => (first | (simp only [List.size_toArray, List.length_replicate]; omega) | omega)))); k_steps)
  refine Stop.mk ?_
  k_dflt (refine' rdT_use (n := n) (ns := ns) ?k1 ?k2 ?k3 ?k4 ?k5 (rdT_of (fun d IH => ?step) 60) ?kk ?kd ?ku ?_ ?_)
  case k1 => k_asm
  case k2 => k_asm
  case k3 => k_asm
  case k4 => k_asm
  case k5 => k_asm
  case kk => exact rfl
  case kd => ktr_room
  case ku => ktr_units
  case step =>
    clear hret
    intro dp un gd cn cs a ccd cl outer A₀ base h₀ L m s Q E lo hi t2 t3 B F X N T hk hd hu hdd h0 h1 h2 h3 hret
    refine wpAny_call ?_
    k_dflt ((refine' code_nest ?k1_u2 ?k2_u2 ?k3_u2 ?k4_u2 ?k5_u2 ?kA_u2 ?kF_u2 ?kK_u2 ?k6_u2 ?k7_u2 ?k8_u2 ?k9_u2 ?kB_u2 ?_ ?c2_u2 ?c3_u2 ?c4_u2 ?c5_u2; (case kA_u2 => exact rfl); (case kF_u2 => exact rfl); (case kK_u2 => assumption); (case k1_u2 => k_asm); (case k2_u2 => k_asm); (case k3_u2 => k_asm); (case k4_u2 => k_asm); (case k5_u2 => k_asm); (case k6_u2 => k_mem); (case k7_u2 => exact codeRec_news (by k_asm) (by k_mem) (by assumption) (by assumption)); (case k8_u2 => ktr_room); (case k9_u2 => exact BindsTo.of_eq rfl); (case c5_u2 => decide); (case kB_u2 => exact locs rfl); (case c2_u2 => exact rfl); (case c3_u2 => exact rfl); (case c4_u2 => exact rfl); k_whole; intro g' L' h' FG' F' N' B' X' T'; (try dsimp only); (try k_lift B'); (try k_fold)))
    k_steps
    all_goals try (refine Stop.mk ?_; (k_dflt (refine' len_list ?k1_u206 ?k2_u206 ?_; (case k1_u206 => exact News.isList (by k_asm) (by k_mem)); (case k2_u206 => (first | (simp only [List.size_toArray, List.length_replicate]; omega) | omega)))); k_steps)
    all_goals try (refine Stop.mk ?_; ((k_dflt (refine' rdT_use ?k1_u5 ?k2_u5 ?k3_u5 ?k4_u5 ?k5_u5 ?kI_u5 ?kk_u5 ?kd_u5 ?ku_u5 ?_ ?_); (case k1_u5 => k_asm); (case k2_u5 => k_asm); (case k3_u5 => k_asm); (case k4_u5 => k_asm); (case k5_u5 => k_asm); (case kk_u5 => exact rfl); (case kI_u5 => assumption); (case kd_u5 => ktr_room); (case ku_u5 => ktr_units)); rotate_left; intro h' tk' t' F' N'); k_steps)
    all_goals try (refine Stop.mk ?_; ((k_dflt (refine' rdT_use ?k1_u6 ?k2_u6 ?k3_u6 ?k4_u6 ?k5_u6 ?kI_u6 ?kk_u6 ?kd_u6 ?ku_u6 ?_ ?_); (case k1_u6 => k_asm); (case k2_u6 => k_asm); (case k3_u6 => k_asm); (case k4_u6 => k_asm); (case k5_u6 => k_asm); (case kk_u6 => exact rfl); (case kI_u6 => assumption); (case kd_u6 => ktr_room); (case ku_u6 => ktr_units)); rotate_left; intro h' tk' t' F' N'); k_steps)
    all_goals first
      | (rw [← d2F_one (n := n) (d := d) (ns := ns) (lo := lo) (hi := hi) (by assumption)]; exact hret _ _ _ (by k_asm) (by k_asm))
      | (rw [← d2F_step (n := n) (d := d) (ns := ns) (lo := lo) (hi := hi) (by assumption)]; exact hret _ _ _ (by k_asm) (by k_asm))
      | exact ⟨by decide⟩
      | exact ⟨owe_sh0 hn h1 (by assumption), owe_sh1 hn hn2 h1 (by assumption) (mid_60 h0 h2 h3), hv _ _ _ (mid_nn h0 (mid_b h1 (by assumption))) (mid_b h1 (by assumption)).2 h2 (mid_hi hdd (mid_b h1 (by assumption)))⟩
      | exact ⟨mid_hi hdd (mid_b h1 (by assumption)), mid_nn h0 (mid_b h1 (by assumption)), (mid_b h1 (by assumption)).2, h2, h3⟩
      | exact ⟨mid_lo hdd (mid_b h1 (by assumption)), h0, (mid_b h1 (by assumption)).1, mid_len (mid_b h1 (by assumption)) h2, h3⟩
  · exact ⟨by simp only [List.size_toArray]; omega, by omega, by simp only [List.size_toArray]; omega, by simp only [List.size_toArray]; omega, hl1⟩
  · intro h' tk' t' F' N'
    k_steps
    all_goals try (refine Stop.mk ?_; (k_dflt (refine' len_list ?k1_u207 ?k2_u207 ?_; (case k1_u207 => exact News.isList (by k_asm) (by k_mem)); (case k2_u207 => (first | (simp only [List.size_toArray, List.length_replicate]; omega) | omega)))); k_steps)
    rw [show vs.toArray.size = ns.length from hAl]
    refine' hret _ _ _ _ _ _ _ ?F ?N ?d1 ?d2 ?q1
    case F => k_asm
    case d1 => assumption
    case d2 => assumption
    case N => exact news_cons (by k_asm) (by k_mem) (news_cons (by k_asm) (by k_mem) (news_sub (by k_asm) (by repeat (first | exact sub_refl _ | refine sub_tail ?_))))
    case q1 => exact Fresh.low (by assumption) (.tail _ (.head _)) (by omega)
end
section
theorem off_DP : True := by (w_top off; first | walk1 | trivial)
set_option maxRecDepth 100000
set_option maxHeartbeats 8000000
set_option hygiene false in
local macro_rules | `(tactic| walk_at "execs cons") => `(tactic| walk_at "MY h0")
set_option hygiene false in
local macro_rules | `(tactic| k_all) => `(tactic| assumption)
set_option hygiene false in
local macro_rules | `(tactic| k_all) => `(tactic| walk_at "MY h1")
theorem news_r5 {h₀ h : Heap} {L : Addr} {a b c d e : Addr × Obj} {r : List (Addr × Obj)} (N : News h₀ L h (a :: b :: c :: d :: e :: r)) : News h₀ L h r := fun q hq => N q (.tail _ (.tail _ (.tail _ (.tail _ (.tail _ hq)))))
noncomputable def divStep (b n : Int) (st : List Int × Int) (d : Int) : List Int × Int := (st.1 ++ [(st.2 * 2 ^ n.toNat + d).fdiv b], (st.2 * 2 ^ n.toNat + d).fmod b)
theorem ints_rev_item {vs : List Value} {ds : List Int} {i : Nat} {v : Value} (h : IntsAre vs ds) (hi : i < vs.toArray.size) (hv : vs.toArray[vs.toArray.size - 1 - i]? = some v) :
    ∃ d t, v = .int d t ∧ ds.reverse.take (i + 1) = ds.reverse.take i ++ [d] ∧ d ∈ ds := by
  have hl : vs.length = ds.length := h.length
  rw [List.size_toArray] at hi hv
  have hx : ds[vs.length - 1 - i]? = some (ds[vs.length - 1 - i]'(by omega)) := List.getElem?_eq_getElem (by omega)
  obtain ⟨t, ht⟩ := h.get _ _ hx
  have hv' : vs[vs.length - 1 - i]? = some v := by simpa using hv
  rw [ht] at hv'
  refine ⟨_, t, (Option.some.inj hv').symm, ?_, List.getElem_mem _⟩
  rw [List.take_add_one]
  congr 1
  rw [List.getElem?_reverse (by omega)]
  have e : ds.length - 1 - i = vs.length - 1 - i := by omega
  rw [e, hx]; rfl
noncomputable def divSt (x y n : Int) (i : Nat) : List Int × Int := ((i2dF x n).reverse.take i).foldl (divStep y n) ([], 0)
theorem divSt_succ {x y n : Int} {i : Nat} {d : Int} (h : (i2dF x n).reverse.take (i + 1) = (i2dF x n).reverse.take i ++ [d]) : divSt x y n (i + 1) = divStep y n (divSt x y n i) d := by
  unfold divSt
  rw [h, List.foldl_append]; rfl
set_option hygiene false in
local macro_rules | `(tactic| walk_at "binaryOp LShift int int") => `(tactic| refine owe_lshift ?_ ?_)
set_option hygiene false in
local macro_rules | `(tactic| walk_at "call builtin:list.append") => `(tactic| (k_here; refine Stop.get ?_))
set_option hygiene false in
local macro_rules | `(tactic| walk_at "call builtin:list.reverse") => `(tactic| (k_here; refine Stop.get ?_))
set_option hygiene false in
local macro_rules | `(tactic| walk_at "TurnX") => `(tactic| (dsimp only [TurnX]))
theorem fmod_rng (a : Int) {y : Int} (hy : 0 < y) : 0 ≤ a.fmod y ∧ a.fmod y < y := by
  rw [Int.fmod_eq_emod_of_nonneg _ (Int.le_of_lt hy)]
  exact ⟨Int.emod_nonneg _ (Int.ne_of_gt hy), Int.emod_lt_of_pos _ hy⟩
theorem i2d_len {vs : List Value} {x n : Int} (h : IntsAre vs (i2dF x n)) (hk1 : (((Builtin.Int.intBits x : Nat) : Int) + n - 1).fdiv n ≤ 60) : vs.length ≤ 60 := by
  rw [h.length]
  unfold i2dF
  rw [innF_len, List.length_replicate]
  unfold i2dK
  omega
set_option hygiene false in
local macro_rules | `(tactic| walk_at "call ref") => `(tactic| ((with_reducible show wpAny _ _ (call (Value.ref _) _) _ _ _); refine Stop.get ?_))
inductive DJ (y : Int) (S : List Int × Int) (i : Nat) (a2 : Option Value) (o : Obj) : Prop
  | mk (qv : List Value) (kq : Nat) (t : Tok) (e : o = listOf (List.toArray qv) kq) (e2 : a2 = some (.int S.2 t)) (q1 : IntsAre qv S.1) (q2 : qv.length = i) (q3 : 0 ≤ S.2) (q4 : S.2 < y)
namespace dp_any
noncomputable def S (w : World) (p : Program) (loose : List Str) (mean : ExcName → Option Value) (mg : Str → Option Value) (mb : Str → Option Value) (x : Int) (y : Int) (tk : Tok) (tk2 : Tok) (dp : Nat) (un : Nat) (gd : Option (List Code)) (cn : Str) (cs : Scope) (a : Addr) (ccd : Value) (cl : List (Str × Addr)) (outer : List Env) (A₀ : Around) (base : Heap) (h₀ : Heap) (L : Addr) (m : Str → Option Value) (s : Shared) (Q : Value → Shared → Prop) (E : Value → Shared → Prop) (tab1 : Obj) (tab2 : Obj) (rest : List (Addr × Obj)) : Prop :=
  ∀ (n : Int) (hx : 0 < x)  (hx2 : x < 2 ^ 60)  (hy : 0 < y)  (hy2 : y < 1073741824)  (hn : n = ((Builtin.Int.intBits y : Nat) : Int))  (hn1 : 0 < n)  (hn2 : n ≤ 30)  (hb : ((Builtin.Int.intBits x : Nat) : Int) ≤ 60)  (hq0 : 0 < (i2dF x n).length)  (hqv : ∀ (d : Nat) (lo hi : Int), 0 ≤ lo → lo < hi → hi ≤ ((divSt x y n (i2dF x n).length).1.reverse.length : Int) → hi - lo ≤ d → (d2F n (divSt x y n (i2dF x n).length).1.reverse d lo hi).natAbs < 2 ^ 64)  (hdig : ∀ d ∈ i2dF x n, 0 ≤ d ∧ d < 2 ^ 30)  (hk0 : 0 < (((Builtin.Int.intBits x : Nat) : Int) + n - 1).fdiv n)  (hk1 : (((Builtin.Int.intBits x : Nat) : Int) + n - 1).fdiv n ≤ 60)  (B : Below A₀ base outer h₀)  (F : Fr h₀ L s.heap m)  (X : (hd.heap_39 w.params).In h₀)  (C : CodeHd base 51 47)  (C2 : CodeHd base 58 54)  (hS1 : TabSt "_int2digits.<locals>.inner" (rawInt 33) (rawInt 4) tab1 rest)  (hS2 : TabSt "_digits2int.<locals>.inner" (rawInt 48) (rawInt 4) tab2 rest)  (ho7 : ∀ q ∈ rest, q.1 ≠ 47)  (ho4 : ∀ q ∈ rest, q.1 ≠ 54)  (N : News h₀ L s.heap ((47, tab1) :: (54, tab2) :: rest))  (T : Top p loose mean mg mb h₀)  (hk : cs.kind = .function)  (hd : dp + 200 < recursionLimit)  (hu : un + 1500 < cLine)  (hret : ∀ D t u c1 oc1 vs1 t1 c2 oc2 vs2 t2 h' tk', Fr h₀ L h' m → News h₀ L h' ((D, tupOf [.int (d2F n (divSt x y n (i2dF x n).length).1.reverse 60 0 (divSt x y n (i2dF x n).length).1.reverse.length) t, .int (divSt x y n (i2dF x n).length).2 u]) :: (c2, oc2) :: (54, tabObj #[rawInt 48, rawInt 4, .ref c2]) :: (c1, oc1) :: (47, tabObj #[rawInt 33, rawInt 4, .ref c1]) :: []) →
      oc1.data = .fields vs1 → vs1[1]? = some (.str "_int2digits.<locals>.inner" t1) → oc2.data = .fields vs2 → vs2[1]? = some (.str "_digits2int.<locals>.inner" t2) → @LT.lt Nat _ 54 c1 → @LT.lt Nat _ 54 c2 → Q (.ref D) { s with heap := h', toks := tk' }),
    wpAny (model prg w) (ktrTop dp un gd cn cs L a ccd cl outer) (call (.ref 66) [.int x tk, .int y tk2]) Q E s
theorem c₁ : Nonempty {t : World × Program × (List Str) × (ExcName → Option Value) × (Str → Option Value) × (Str → Option Value) × Int × Int × Tok × Tok × Nat × Nat × (Option (List Code)) × Str × Scope × Addr × Value × (List (Str × Addr)) × (List Env) × Around × Heap × Heap × Addr × (Str → Option Value) × Shared × (Value → Shared → Prop) × (Value → Shared → Prop) × Obj × Obj × (List (Addr × Obj)) // S t.1 t.2.1 t.2.2.1 t.2.2.2.1 t.2.2.2.2.1 t.2.2.2.2.2.1 t.2.2.2.2.2.2.1 t.2.2.2.2.2.2.2.1 t.2.2.2.2.2.2.2.2.1 t.2.2.2.2.2.2.2.2.2.1 t.2.2.2.2.2.2.2.2.2.2.1 t.2.2.2.2.2.2.2.2.2.2.2.1 t.2.2.2.2.2.2.2.2.2.2.2.2.1 t.2.2.2.2.2.2.2.2.2.2.2.2.2.1 t.2.2.2.2.2.2.2.2.2.2.2.2.2.2.1 t.2.2.2.2.2.2.2.2.2.2.2.2.2.2.2.1 t.2.2.2.2.2.2.2.2.2.2.2.2.2.2.2.2.1 t.2.2.2.2.2.2.2.2.2.2.2.2.2.2.2.2.2.1 t.2.2.2.2.2.2.2.2.2.2.2.2.2.2.2.2.2.2.1 t.2.2.2.2.2.2.2.2.2.2.2.2.2.2.2.2.2.2.2.1 t.2.2.2.2.2.2.2.2.2.2.2.2.2.2.2.2.2.2.2.2.1 t.2.2.2.2.2.2.2.2.2.2.2.2.2.2.2.2.2.2.2.2.2.1 t.2.2.2.2.2.2.2.2.2.2.2.2.2.2.2.2.2.2.2.2.2.2.1 t.2.2.2.2.2.2.2.2.2.2.2.2.2.2.2.2.2.2.2.2.2.2.2.1 t.2.2.2.2.2.2.2.2.2.2.2.2.2.2.2.2.2.2.2.2.2.2.2.2.1 t.2.2.2.2.2.2.2.2.2.2.2.2.2.2.2.2.2.2.2.2.2.2.2.2.2.1 t.2.2.2.2.2.2.2.2.2.2.2.2.2.2.2.2.2.2.2.2.2.2.2.2.2.2.1 t.2.2.2.2.2.2.2.2.2.2.2.2.2.2.2.2.2.2.2.2.2.2.2.2.2.2.2.1 t.2.2.2.2.2.2.2.2.2.2.2.2.2.2.2.2.2.2.2.2.2.2.2.2.2.2.2.2.1 t.2.2.2.2.2.2.2.2.2.2.2.2.2.2.2.2.2.2.2.2.2.2.2.2.2.2.2.2.2 → ∀ t : World × Program × (List Str) × (ExcName → Option Value) × (Str → Option Value) × (Str → Option Value) × Int × Int × Tok × Tok × Nat × Nat × (Option (List Code)) × Str × Scope × Addr × Value × (List (Str × Addr)) × (List Env) × Around × Heap × Heap × Addr × (Str → Option Value) × Shared × (Value → Shared → Prop) × (Value → Shared → Prop) × Obj × Obj × (List (Addr × Obj)), S t.1 t.2.1 t.2.2.1 t.2.2.2.1 t.2.2.2.2.1 t.2.2.2.2.2.1 t.2.2.2.2.2.2.1 t.2.2.2.2.2.2.2.1 t.2.2.2.2.2.2.2.2.1 t.2.2.2.2.2.2.2.2.2.1 t.2.2.2.2.2.2.2.2.2.2.1 t.2.2.2.2.2.2.2.2.2.2.2.1 t.2.2.2.2.2.2.2.2.2.2.2.2.1 t.2.2.2.2.2.2.2.2.2.2.2.2.2.1 t.2.2.2.2.2.2.2.2.2.2.2.2.2.2.1 t.2.2.2.2.2.2.2.2.2.2.2.2.2.2.2.1 t.2.2.2.2.2.2.2.2.2.2.2.2.2.2.2.2.1 t.2.2.2.2.2.2.2.2.2.2.2.2.2.2.2.2.2.1 t.2.2.2.2.2.2.2.2.2.2.2.2.2.2.2.2.2.2.1 t.2.2.2.2.2.2.2.2.2.2.2.2.2.2.2.2.2.2.2.1 t.2.2.2.2.2.2.2.2.2.2.2.2.2.2.2.2.2.2.2.2.1 t.2.2.2.2.2.2.2.2.2.2.2.2.2.2.2.2.2.2.2.2.2.1 t.2.2.2.2.2.2.2.2.2.2.2.2.2.2.2.2.2.2.2.2.2.2.1 t.2.2.2.2.2.2.2.2.2.2.2.2.2.2.2.2.2.2.2.2.2.2.2.1 t.2.2.2.2.2.2.2.2.2.2.2.2.2.2.2.2.2.2.2.2.2.2.2.2.1 t.2.2.2.2.2.2.2.2.2.2.2.2.2.2.2.2.2.2.2.2.2.2.2.2.2.1 t.2.2.2.2.2.2.2.2.2.2.2.2.2.2.2.2.2.2.2.2.2.2.2.2.2.2.1 t.2.2.2.2.2.2.2.2.2.2.2.2.2.2.2.2.2.2.2.2.2.2.2.2.2.2.2.1 t.2.2.2.2.2.2.2.2.2.2.2.2.2.2.2.2.2.2.2.2.2.2.2.2.2.2.2.2.1 t.2.2.2.2.2.2.2.2.2.2.2.2.2.2.2.2.2.2.2.2.2.2.2.2.2.2.2.2.2} := eps_ex ⟨(⟨fun _ _ => 0, { strHash := fun _ => 0, shareClass := fun _ => 0, mergeTok := fun _ => default, idOf := fun _ => 0, idOfShared := fun _ _ => 0, followText := fun _ => true, idOfImm := fun _ => 0 }⟩, default, default, default, default, default, default, default, default, default, default, default, default, default, default, default, default, default, default, {}, default, default, default, default, {}, default, default, default, default, default)⟩ fun t => S t.1 t.2.1 t.2.2.1 t.2.2.2.1 t.2.2.2.2.1 t.2.2.2.2.2.1 t.2.2.2.2.2.2.1 t.2.2.2.2.2.2.2.1 t.2.2.2.2.2.2.2.2.1 t.2.2.2.2.2.2.2.2.2.1 t.2.2.2.2.2.2.2.2.2.2.1 t.2.2.2.2.2.2.2.2.2.2.2.1 t.2.2.2.2.2.2.2.2.2.2.2.2.1 t.2.2.2.2.2.2.2.2.2.2.2.2.2.1 t.2.2.2.2.2.2.2.2.2.2.2.2.2.2.1 t.2.2.2.2.2.2.2.2.2.2.2.2.2.2.2.1 t.2.2.2.2.2.2.2.2.2.2.2.2.2.2.2.2.1 t.2.2.2.2.2.2.2.2.2.2.2.2.2.2.2.2.2.1 t.2.2.2.2.2.2.2.2.2.2.2.2.2.2.2.2.2.2.1 t.2.2.2.2.2.2.2.2.2.2.2.2.2.2.2.2.2.2.2.1 t.2.2.2.2.2.2.2.2.2.2.2.2.2.2.2.2.2.2.2.2.1 t.2.2.2.2.2.2.2.2.2.2.2.2.2.2.2.2.2.2.2.2.2.1 t.2.2.2.2.2.2.2.2.2.2.2.2.2.2.2.2.2.2.2.2.2.2.1 t.2.2.2.2.2.2.2.2.2.2.2.2.2.2.2.2.2.2.2.2.2.2.2.1 t.2.2.2.2.2.2.2.2.2.2.2.2.2.2.2.2.2.2.2.2.2.2.2.2.1 t.2.2.2.2.2.2.2.2.2.2.2.2.2.2.2.2.2.2.2.2.2.2.2.2.2.1 t.2.2.2.2.2.2.2.2.2.2.2.2.2.2.2.2.2.2.2.2.2.2.2.2.2.2.1 t.2.2.2.2.2.2.2.2.2.2.2.2.2.2.2.2.2.2.2.2.2.2.2.2.2.2.2.1 t.2.2.2.2.2.2.2.2.2.2.2.2.2.2.2.2.2.2.2.2.2.2.2.2.2.2.2.2.1 t.2.2.2.2.2.2.2.2.2.2.2.2.2.2.2.2.2.2.2.2.2.2.2.2.2.2.2.2.2
noncomputable def c₀ : World × Program × (List Str) × (ExcName → Option Value) × (Str → Option Value) × (Str → Option Value) × Int × Int × Tok × Tok × Nat × Nat × (Option (List Code)) × Str × Scope × Addr × Value × (List (Str × Addr)) × (List Env) × Around × Heap × Heap × Addr × (Str → Option Value) × Shared × (Value → Shared → Prop) × (Value → Shared → Prop) × Obj × Obj × (List (Addr × Obj)) := (Classical.choice c₁).val
noncomputable def w : World := c₀.1
noncomputable def p : Program := c₀.2.1
noncomputable def loose : List Str := c₀.2.2.1
noncomputable def mean : ExcName → Option Value := c₀.2.2.2.1
noncomputable def mg : Str → Option Value := c₀.2.2.2.2.1
noncomputable def mb : Str → Option Value := c₀.2.2.2.2.2.1
noncomputable def x : Int := c₀.2.2.2.2.2.2.1
noncomputable def y : Int := c₀.2.2.2.2.2.2.2.1
noncomputable def tk : Tok := c₀.2.2.2.2.2.2.2.2.1
noncomputable def tk2 : Tok := c₀.2.2.2.2.2.2.2.2.2.1
noncomputable def dp : Nat := c₀.2.2.2.2.2.2.2.2.2.2.1
noncomputable def un : Nat := c₀.2.2.2.2.2.2.2.2.2.2.2.1
noncomputable def gd : Option (List Code) := c₀.2.2.2.2.2.2.2.2.2.2.2.2.1
noncomputable def cn : Str := c₀.2.2.2.2.2.2.2.2.2.2.2.2.2.1
noncomputable def cs : Scope := c₀.2.2.2.2.2.2.2.2.2.2.2.2.2.2.1
noncomputable def a : Addr := c₀.2.2.2.2.2.2.2.2.2.2.2.2.2.2.2.1
noncomputable def ccd : Value := c₀.2.2.2.2.2.2.2.2.2.2.2.2.2.2.2.2.1
noncomputable def cl : List (Str × Addr) := c₀.2.2.2.2.2.2.2.2.2.2.2.2.2.2.2.2.2.1
noncomputable def outer : List Env := c₀.2.2.2.2.2.2.2.2.2.2.2.2.2.2.2.2.2.2.1
noncomputable def A₀ : Around := c₀.2.2.2.2.2.2.2.2.2.2.2.2.2.2.2.2.2.2.2.1
noncomputable def base : Heap := c₀.2.2.2.2.2.2.2.2.2.2.2.2.2.2.2.2.2.2.2.2.1
noncomputable def h₀ : Heap := c₀.2.2.2.2.2.2.2.2.2.2.2.2.2.2.2.2.2.2.2.2.2.1
noncomputable def L : Addr := c₀.2.2.2.2.2.2.2.2.2.2.2.2.2.2.2.2.2.2.2.2.2.2.1
noncomputable def m : Str → Option Value := c₀.2.2.2.2.2.2.2.2.2.2.2.2.2.2.2.2.2.2.2.2.2.2.2.1
noncomputable def s : Shared := c₀.2.2.2.2.2.2.2.2.2.2.2.2.2.2.2.2.2.2.2.2.2.2.2.2.1
noncomputable def Q : Value → Shared → Prop := c₀.2.2.2.2.2.2.2.2.2.2.2.2.2.2.2.2.2.2.2.2.2.2.2.2.2.1
noncomputable def E : Value → Shared → Prop := c₀.2.2.2.2.2.2.2.2.2.2.2.2.2.2.2.2.2.2.2.2.2.2.2.2.2.2.1
noncomputable def tab1 : Obj := c₀.2.2.2.2.2.2.2.2.2.2.2.2.2.2.2.2.2.2.2.2.2.2.2.2.2.2.2.1
noncomputable def tab2 : Obj := c₀.2.2.2.2.2.2.2.2.2.2.2.2.2.2.2.2.2.2.2.2.2.2.2.2.2.2.2.2.1
noncomputable def rest : List (Addr × Obj) := c₀.2.2.2.2.2.2.2.2.2.2.2.2.2.2.2.2.2.2.2.2.2.2.2.2.2.2.2.2.2
theorem main : S w p loose mean mg mb x y tk tk2 dp un gd cn cs a ccd cl outer A₀ base h₀ L m s Q E tab1 tab2 rest := by
  unfold S
  intro n hx hx2 hy hy2 hn hn1 hn2 hb hq0 hqv hdig hk0 hk1 B F X C C2 hS1 hS2 ho7 ho4 N T hk hd hu hret
  unfold prg
  revert X; k_fill; intro X
  subst hn
  refine wpAny_call ?_
  k_dflt ktr_enter
  k_steps
  refine Stop.mk ?_
  k_dflt (refine' i2d_any (rest := (54, _) :: _) ?o1 ?o2 ?o3 ?o4 ?o5 ?o6 ?o7 ?B ?F ?X ?C ?S ?r54 ?N ?off ?T ?hk ?hd ?hu ?_)
  case B => k_asm
  case F => k_asm
  case X => k_asm
  case T => k_asm
  case C => assumption
  case N => k_asm
  case S => exact TabSt.mono (by assumption) (fun q hq => .tail _ hq)
  case r54 => exact ⟨_, .head _⟩
  case off => exact List.forall_mem_cons.mpr ⟨show @Ne Nat 54 47 by decide, by assumption⟩
  case o1 => assumption
  case o2 => assumption
  case o3 => assumption
  case o4 => assumption
  case o5 => assumption
  case o6 => assumption
  case o7 => assumption
  case hk => exact rfl
  case hd => ktr_room
  case hu => ktr_units
  k_steps
  (with_reducible rename IntsAre _ _ => zA)
  have zL := i2d_len zA hk1
  have zE := zA.length
  (rename (∀ q ∈ (54, tab2) :: rest, @LT.lt Nat _ q.1 _) => z54); replace z54 := z54 _ (.head _)
  dsimp only at z54
  k_dflt (refine' loop_acc2 (y1 := Str.ofString "q_digit") (y2 := Str.ofString "r") (by_rev ?hh ?zF ?zN ?hlt ?hm) ?hmq ?U (fun i a1 a2 o => DJ y (divSt x y (Builtin.Int.intBits y) i) i a2 o) ?hl ?hj ?turn ?done)
  case hh => exact rfl
  case zF => k_asm
  case zN => k_asm
  case hlt => (repeat (refine List.forall_mem_cons.mpr ⟨by (refine ltN ?_; (try dsimp only); omega), ?_⟩)); exact allLt_all (by walk_at "MY cj")
  case hmq => exact .head _
  case hm => exact .tail _ (.head _)
  case U => k_updF
  case hl => intro o; exact .tail _ (.head _)
  case hj => exact ⟨[], 0, _, rfl, rfl, .nil, rfl, Int.le_refl _, hy⟩
  case turn =>
    rintro i v a1 a2 o I ito h tk hin hv ⟨qv, kq, t, rfl, rfl, hA, hql, hr0, hr1⟩ hlow F' N'
    obtain ⟨d, td, rfl, hst, hd⟩ := ints_rev_item zA hin hv
    have hst' := divSt_succ (y := y) hst
    obtain ⟨hd0, hd1⟩ := hdig d hd
    try dsimp only at hlow N'
    rw [List.size_toArray] at hin
    k_lt hlow
    k_steps
    all_goals first
      | exact ⟨by omega, by omega, by omega⟩
      | skip
    refine Stop.mk ?_
    k_dflt (refine' makes_use (div2_makes ?o1 ?o2 ?o3) ?B ?F ?X ?N ?T ?hk ?hd ?hu ?_)
    case B => k_asm
    case F => k_asm
    case X => k_asm
    case T => k_asm
    case N => k_asm
    case o1 => assumption
    case o2 => assumption
    case o3 => exact shift_bits (by assumption) (by assumption) (by assumption) (by assumption) (by assumption) (by assumption) (by assumption)
    case hk => exact rfl
    case hd => ktr_room
    case hu => ktr_units
    rintro r' tl' h' tk' F' N' hl9 ⟨D', t', u', e1', e2'⟩
    subst e1' e2'
    (have l1' := above_of_one hl9)
    k_lt l1'
    (try simp only [List.cons_append, List.nil_append] at N')
    k_steps
    refine Stop.mk ?_
    k_dflt (refine' append_L ?k1 ?k2 ?k3 ?_ ?z; (case k1 | k2 => k_asm); (case k3 => k_upd); (case z => omega); k_whole)
    intro _ _ N'
    (try dsimp only at N')
    k_steps
    all_goals first
      | exact ⟨by omega, by omega, by omega⟩
      | skip
    exact TurnE.intro (by k_asm) (by k_asm) (by refine sub_tail ?_; exact sub_refl _) ⟨_, rfl, ⟨_, _, _, rfl, by rw [hst']; with_unfolding_all rfl, by rw [hst']; exact ints_snoc hA, by rw [List.length_append, hql]; rfl, by rw [hst']; exact (fmod_rng _ hy).1, by rw [hst']; exact (fmod_rng _ hy).2⟩, by k_same2⟩
  case done =>
    rintro u a1 a2 o h tk ⟨qv, kq, t, rfl, rfl, hA, hql, hr0, hr1⟩ F' N'
    try dsimp only at N'
    dsimp only
    rw [List.size_toArray, zA.length] at hql hA hr0 hr1 F'
    have hAl := hA.length
    k_steps
    refine Stop.mk ?_
    ((try dsimp only); k_dflt (refine' reverse_L ?k1_u11 ?k2_u11 ?km_u11 ?k3_u11 ?_ ?z_u11; (case k1_u11 => k_asm); (case k2_u11 => k_asm); (case km_u11 => k_mem); (case k3_u11 => k_upd); (case z_u11 => omega); k_whole); intro h' F' N'; (try dsimp only at N'))
    k_steps
    refine Stop.mk ?_
    k_dflt (refine' d2i_any (rest := _ :: _ :: _) ?o1 ?o2 ?o3 ?o4 ?o5 ?A ?B ?F ?X ?C ?S ?N ?la ?off ?T ?hk ?hd ?hu ?_)
    case B => k_asm
    case F => k_asm
    case X => k_asm
    case T => k_asm
    case C => assumption
    case A => exact ints_rev (by assumption)
    case o1 => assumption
    case o2 => assumption
    case hk => exact rfl
    case hd => ktr_room
    case hu => ktr_units
    case N => exact news_cons (by k_asm) (by k_mem) (news_cons (by k_asm) (by k_mem) (news_cons (by k_asm) (.tail _ (.tail _ (.head _))) (news_cons (by k_asm) (.tail _ (.tail _ (.tail _ (.head _)))) (news_r5 (by k_asm)))))
    case S => exact TabSt.mono (by assumption) (fun q hq => .tail _ (.tail _ hq))
    case off => exact List.forall_mem_cons.mpr ⟨Nat.ne_of_gt (by assumption), List.forall_mem_cons.mpr ⟨show @Ne Nat 47 54 by decide, by assumption⟩⟩
    k_steps
    case o3 => rw [List.length_reverse]; omega
    case o4 => rw [List.length_reverse]; omega
    case o5 => apply hqv <;> assumption
    refine' hret _ _ _ _ _ _ _ _ _ _ _ _ _ ?F ?N ?d1 ?d2 ?d3 ?d4 ?d5 ?d6
    case F => k_asm
    case d2 => assumption
    case d4 => assumption
    case d1 => assumption
    case d3 => assumption
    case N => exact news_cons (by k_asm) (by k_mem) (news_cons (by k_asm) (by k_mem) (news_cons (by k_asm) (by k_mem) (news_cons (by k_asm) (by k_mem) (news_cons (by k_asm) (by k_mem) News.nil))))
    case d5 => exact ltN (by omega)
    case d6 => assumption
end dp_any
theorem dp_any {w : World} {p : Program} {loose : List Str} {mean : ExcName → Option Value} {mg mb : Str → Option Value} {x y n : Int} {tk tk2 : Tok} (hx : 0 < x) (hx2 : x < 2 ^ 60) (hy : 0 < y) (hy2 : y < 1073741824) (hn : n = ((Builtin.Int.intBits y : Nat) : Int)) (hn1 : 0 < n) (hn2 : n ≤ 30) (hb : ((Builtin.Int.intBits x : Nat) : Int) ≤ 60) (hq0 : 0 < (i2dF x n).length) (hqv : ∀ (d : Nat) (lo hi : Int), 0 ≤ lo → lo < hi → hi ≤ ((divSt x y n (i2dF x n).length).1.reverse.length : Int) → hi - lo ≤ d → (d2F n (divSt x y n (i2dF x n).length).1.reverse d lo hi).natAbs < 2 ^ 64) (hdig : ∀ d ∈ i2dF x n, 0 ≤ d ∧ d < 2 ^ 30) (hk0 : 0 < (((Builtin.Int.intBits x : Nat) : Int) + n - 1).fdiv n) (hk1 : (((Builtin.Int.intBits x : Nat) : Int) + n - 1).fdiv n ≤ 60)
    {dp un : Nat} {gd : Option (List Code)} {cn : Str} {cs : Scope} {a : Addr} {ccd : Value} {cl : List (Str × Addr)} {outer : List Env} {A₀ : Around} {base h₀ : Heap} {L : Addr} {m : Str → Option Value} {s : Shared} {Q E : Value → Shared → Prop}
    (B : Below A₀ base outer h₀) (F : Fr h₀ L s.heap m) (X : (hd.heap_39 w.params).In h₀) (C : CodeHd base 51 47) (C2 : CodeHd base 58 54) {tab1 tab2 : Obj} {rest : List (Addr × Obj)} (hS1 : TabSt "_int2digits.<locals>.inner" (rawInt 33) (rawInt 4) tab1 rest) (hS2 : TabSt "_digits2int.<locals>.inner" (rawInt 48) (rawInt 4) tab2 rest) (ho7 : ∀ q ∈ rest, q.1 ≠ 47) (ho4 : ∀ q ∈ rest, q.1 ≠ 54) (N : News h₀ L s.heap ((47, tab1) :: (54, tab2) :: rest)) (T : Top p loose mean mg mb h₀) (hk : cs.kind = .function) (hd : dp + 200 < recursionLimit) (hu : un + 1500 < cLine) 
    
    (hret : ∀ D t u c1 oc1 vs1 t1 c2 oc2 vs2 t2 h' tk', Fr h₀ L h' m → News h₀ L h' ((D, tupOf [.int (d2F n (divSt x y n (i2dF x n).length).1.reverse 60 0 (divSt x y n (i2dF x n).length).1.reverse.length) t, .int (divSt x y n (i2dF x n).length).2 u]) :: (c2, oc2) :: (54, tabObj #[rawInt 48, rawInt 4, .ref c2]) :: (c1, oc1) :: (47, tabObj #[rawInt 33, rawInt 4, .ref c1]) :: []) →
      oc1.data = .fields vs1 → vs1[1]? = some (.str "_int2digits.<locals>.inner" t1) → oc2.data = .fields vs2 → vs2[1]? = some (.str "_digits2int.<locals>.inner" t2) → @LT.lt Nat _ 54 c1 → @LT.lt Nat _ 54 c2 → Q (.ref D) { s with heap := h', toks := tk' }) :
    wpAny (model prg w) (ktrTop dp un gd cn cs L a ccd cl outer) (call (.ref 66) [.int x tk, .int y tk2]) Q E s :=
  (Classical.choice dp_any.c₁).property dp_any.main (w, p, loose, mean, mg, mb, x, y, tk, tk2, dp, un, gd, cn, cs, a, ccd, cl, outer, A₀, base, h₀, L, m, s, Q, E, tab1, tab2, rest) n hx hx2 hy hy2 hn hn1 hn2 hb hq0 hqv hdig hk0 hk1 B F X C C2 hS1 hS2 ho7 ho4 N T hk hd hu hret
end
section
theorem off_IDM : True := by (w_top off; first | walk1 | trivial)
set_option maxRecDepth 100000
set_option maxHeartbeats 8000000
set_option hygiene false in
local macro_rules | `(tactic| walk_at "call ref") => `(tactic| ((with_reducible show wpAny _ _ (call (Value.ref _) _) _ _ _); refine Stop.get ?_))
theorem idm_any {w : World} {p : Program} {loose : List Str} {mean : ExcName → Option Value} {mg mb : Str → Option Value} {x y n : Int} {tk tk2 : Tok} (hx : 0 < x) (hx2 : x < 2 ^ 60) (hy : 0 < y) (hy2 : y < 1073741824) (hn : n = ((Builtin.Int.intBits y : Nat) : Int)) (hn1 : 0 < n) (hn2 : n ≤ 30) (hb : ((Builtin.Int.intBits x : Nat) : Int) ≤ 60) (hq0 : 0 < (i2dF x n).length) (hqv : ∀ (d : Nat) (lo hi : Int), 0 ≤ lo → lo < hi → hi ≤ ((divSt x y n (i2dF x n).length).1.reverse.length : Int) → hi - lo ≤ d → (d2F n (divSt x y n (i2dF x n).length).1.reverse d lo hi).natAbs < 2 ^ 64) (hdig : ∀ d ∈ i2dF x n, 0 ≤ d ∧ d < 2 ^ 30) (hk0 : 0 < (((Builtin.Int.intBits x : Nat) : Int) + n - 1).fdiv n) (hk1 : (((Builtin.Int.intBits x : Nat) : Int) + n - 1).fdiv n ≤ 60)
    {dp un : Nat} {gd : Option (List Code)} {cn : Str} {cs : Scope} {a : Addr} {ccd : Value} {cl : List (Str × Addr)} {outer : List Env} {A₀ : Around} {base h₀ : Heap} {L : Addr} {m : Str → Option Value} {s : Shared} {Q E : Value → Shared → Prop}
    (B : Below A₀ base outer h₀) (F : Fr h₀ L s.heap m) (X : (hd.heap_39 w.params).In h₀) (C : CodeHd base 51 47) (C2 : CodeHd base 58 54) {tab1 tab2 : Obj} {rest : List (Addr × Obj)} (hS1 : TabSt "_int2digits.<locals>.inner" (rawInt 33) (rawInt 4) tab1 rest) (hS2 : TabSt "_digits2int.<locals>.inner" (rawInt 48) (rawInt 4) tab2 rest) (ho7 : ∀ q ∈ rest, q.1 ≠ 47) (ho4 : ∀ q ∈ rest, q.1 ≠ 54) (N : News h₀ L s.heap ((47, tab1) :: (54, tab2) :: rest)) (T : Top p loose mean mg mb h₀) (hk : cs.kind = .function) (hd : dp + 201 < recursionLimit) (hu : un + 1510 < cLine) 
    
    (hret : ∀ D t u c1 oc1 vs1 t1 c2 oc2 vs2 t2 h' tk', Fr h₀ L h' m → News h₀ L h' ((D, tupOf [.int (d2F n (divSt x y n (i2dF x n).length).1.reverse 60 0 (divSt x y n (i2dF x n).length).1.reverse.length) t, .int (divSt x y n (i2dF x n).length).2 u]) :: (c2, oc2) :: (54, tabObj #[rawInt 48, rawInt 4, .ref c2]) :: (c1, oc1) :: (47, tabObj #[rawInt 33, rawInt 4, .ref c1]) :: []) →
      oc1.data = .fields vs1 → vs1[1]? = some (.str "_int2digits.<locals>.inner" t1) → oc2.data = .fields vs2 → vs2[1]? = some (.str "_digits2int.<locals>.inner" t2) → @LT.lt Nat _ 54 c1 → @LT.lt Nat _ 54 c2 → Q (.ref D) { s with heap := h', toks := tk' }) :
    wpAny (model prg w) (ktrTop dp un gd cn cs L a ccd cl outer) (call (.ref 73) [.int x tk, .int y tk2]) Q E s := by
  unfold prg
  revert X; k_fill; intro X
  refine wpAny_call ?_
  k_dflt ktr_enter
  k_steps
  all_goals first
    | (exfalso; omega)
    | skip
  refine Stop.mk ?_
  k_dflt (refine' dp_any (n := _) ?h1 ?h2 ?h3 ?h4 ?h5 ?h6 ?h7 ?h8 ?h9 ?h10 ?h11 ?h12 ?h13 ?B ?F ?X ?C ?C2 ?S1 ?S2 ?o7 ?o4 ?N ?T ?hk ?hd ?hu ?_)
  case B => k_asm
  case F => k_asm
  case X => k_asm
  case T => k_asm
  case C => assumption
  case C2 => assumption
  case N => k_asm
  case S1 => assumption
  case S2 => assumption
  case o7 => assumption
  case o4 => assumption
  case hk => exact rfl
  case hd => ktr_room
  case hu => ktr_units
  k_steps
  all_goals first
    | (exfalso; omega)
    | (apply hqv <;> assumption)
    | exact (hdig _ (by assumption)).1
    | exact (hdig _ (by assumption)).2
    | skip
  refine' hret _ _ _ _ _ _ _ _ _ _ _ _ _ ?F ?N ?d1 ?d2 ?d3 ?d4 ?d5 ?d6
  case F => k_asm
  case N => k_asm
  case d2 => assumption
  case d4 => assumption
  case d1 => assumption
  case d3 => assumption
  case d5 => assumption
  case d6 => assumption
end
end
section
set_option maxRecDepth 100000
open PySem.Spec PySem.Calls PyProof.V
/- a dict of ints as a function of its keys -/
noncomputable def DF (kvs : List (Str × Value)) (f : Str → Option Int) : Prop := ∀ k, (valueAt kvs k = none ∧ f k = none) ∨ ∃ i t, valueAt kvs k = some (.int i t) ∧ f k = some i
noncomputable def upd (f : Str → Option Int) (k : Str) (i : Int) : Str → Option Int := fun y => if y = k then some i else f y
noncomputable def gi (f : Str → Option Int) (k : Str) : Int := (f k).getD 0
theorem find_put_ne {k y : Str} (v : Value) (hy : ¬ y = k) : ∀ l : List (Str × Value), Option.map (·.2) (List.find? (fun kv => decide (kv.1 = y)) (l.map fun kv => if kv.1 = k then (kv.1, v) else kv)) = Option.map (·.2) (List.find? (fun kv => decide (kv.1 = y)) l) := by
  intro l
  induction l with
  | nil => rfl
  | cons a l ih =>
    rw [List.map_cons, List.find?_cons, List.find?_cons]
    by_cases ha : a.1 = k
    · have : ¬ k = y := fun e => hy e.symm
      simp only [ha, if_true, this, decide_false]
      exact ih
    · simp only [ha, if_false]
      by_cases hay : a.1 = y
      · simp [hay]
      · simp only [hay, decide_false]; exact ih
theorem find_put_eq {k : Str} (v : Value) : ∀ l : List (Str × Value), (∃ q ∈ l, q.1 = k) → Option.map (·.2) (List.find? (fun kv => decide (kv.1 = k)) (l.map fun kv => if kv.1 = k then (kv.1, v) else kv)) = some v := by
  intro l
  induction l with
  | nil => rintro ⟨q, h, _⟩; cases h
  | cons a l ih =>
    rintro ⟨q, hq, hqk⟩
    rw [List.map_cons, List.find?_cons]
    by_cases ha : a.1 = k
    · simp [ha]
    · simp only [ha, if_false, decide_false]
      rcases List.mem_cons.mp hq with rfl | h
      · exact absurd hqk ha
      · exact ih ⟨q, h, hqk⟩
theorem valueAt_stored (kvs : List (Str × Value)) (k : Str) (v : Value) (y : Str) : valueAt (stored kvs k v) y = if y = k then some v else valueAt kvs y := by
  unfold stored valueAt
  by_cases h : kvs.any (fun kv => decide (kv.1 = k)) = true
  · rw [if_pos h]
    rw [List.any_eq_true] at h
    obtain ⟨q, hq, hk⟩ := h
    rw [decide_eq_true_eq] at hk
    by_cases hy : y = k
    · subst hy; rw [if_pos rfl]; exact find_put_eq v kvs ⟨q, hq, hk⟩
    · rw [if_neg hy]; exact find_put_ne v hy kvs
  · rw [if_neg h]
    rw [List.find?_append]
    by_cases hy : y = k
    · subst hy
      have : List.find? (fun kv => decide (kv.1 = y)) kvs = none := by
        rw [List.find?_eq_none]
        intro q hq hqk
        exact h (List.any_eq_true.mpr ⟨q, hq, hqk⟩)
      rw [this]; simp
    · have : ¬ k = y := fun e => hy e.symm
      rw [if_neg hy]
      cases hf : List.find? (fun kv => decide (kv.1 = y)) kvs with
      | some q => simp
      | none => simp [this]
theorem DF.set {kvs : List (Str × Value)} {f : Str → Option Int} (h : DF kvs f) (k : Str) (i : Int) (t : Tok) : DF (stored kvs k (.int i t)) (upd f k i) := by
  intro y
  rw [valueAt_stored]
  unfold upd
  by_cases hy : y = k
  · rw [if_pos hy, if_pos hy]; exact .inr ⟨i, t, rfl, rfl⟩
  · rw [if_neg hy, if_neg hy]; exact h y
theorem DF.nil : DF [] (fun _ => none) := fun _ => .inl ⟨rfl, rfl⟩
theorem DF.val {kvs : List (Str × Value)} {f : Str → Option Int} (h : DF kvs f) {k : Str} (hs : (f k).isSome = true) : ∃ t, valueAt kvs k = some (.int (gi f k) t) := by
  rcases h k with ⟨_, e⟩ | ⟨i, t, e, e2⟩
  · rw [e] at hs; cases hs
  · exact ⟨t, by rw [e]; unfold gi; rw [e2]; rfl⟩
section
variable {prog : Program} {w : World} {A : Around} {E : Value → Shared → Prop} {s : Shared} {h₀ : Heap} {L d : Addr} {m : Str → Option Value} {news : List (Addr × Obj)} {o : Obj} {kvs : List (Str × Value)} {k : Str} {t : Tok} {f : Str → Option Int}
theorem df_item {value slice : PySem.Expr} {Q : Value → Shared → Prop} (N : News h₀ L s.heap news) (hp : (d, o) ∈ news) (hd : o.IsDictOf (PySem.strKind prog w) kvs) (hI : DF kvs f) (hs : Owe ((f k).isSome = true)) (h : ∀ u, Q (.int (gi f k) u) { s with toks := s.toks + 1 })
    (hs' : subscripted slice false (.ref d) (.str k t) = operate [.ref d, .str k t] (getItem (.ref d) (.str k t)) := by with_unfolding_all rfl) (hg : ∀ r, letTemporaryGo value (.ref d) r = pure () := by intro _; with_unfolding_all rfl) :
    wpAny (model prog w) A (subscriptTail value slice (.ref d) (.str k t)) Q E s := by
  obtain ⟨u, hu⟩ := hI.val hs.pay
  exact kda_item N hp hd (strKind_is _ _ _ _) hu (h u) hs' hg
theorem df_set {Q : Unit → Shared → Prop} {g : Obj → List (Addr × Obj)} {i : Int} {u : Tok} {j : Nat} (F : Fr h₀ L s.heap m) (N : News h₀ L s.heap news) (_hp : (d, o) ∈ news) (U : UpdF d o news g) (hd : o.IsDictOf (PySem.strKind prog w) kvs) (hI : DF kvs f) (hsz : kvs.length ≤ j) (hj : j ≤ 1000)
    (h : ∀ h' o' kvs', Fr h₀ L h' m → News h₀ L h' (g o') → o'.IsDictOf (PySem.strKind prog w) kvs' → DF kvs' (upd f k i) → kvs'.length ≤ j + 1 → Q () { s with heap := h', toks := s.toks + 1 }) : wpAny (model prog w) A (setItem (.ref d) (.str k t) (.int i u)) Q E s :=
  kda_set F N U hd (strKind_is _ _ _ _) (by rw [sizeLine_eq]; omega) fun h' o' F' N' hd' => h h' o' _ F' N' hd' (hI.set k i u) (Nat.le_trans (stored_length_le _ _ _) (by omega))
end
theorem strs_at {vs : List Value} {ys : List Str} (h : StrsAre vs ys) : ∀ {i : Nat} {v : Value}, vs.toArray[i]? = some v → ∃ y t, ys[i]? = some y ∧ v = .str y t := by
  induction h with
  | nil => intro i v h; simp at h
  | cons y t _ ih =>
    intro i v h
    rw [List.getElem?_toArray] at h
    cases i with
    | zero =>
      rw [List.getElem?_cons_zero] at h
      cases h
      exact ⟨y, t, rfl, rfl⟩
    | succ i =>
      rw [List.getElem?_cons_succ] at h
      rw [List.getElem?_cons_succ]
      exact ih (by rw [List.getElem?_toArray]; exact h)
end
section
set_option maxRecDepth 100000
/- the value of digits, the lowest first -/
noncomputable def val (B : Int) : List Int → Int
  | [] => 0
  | a :: l => a + B * val B l
theorem val_z {B : Int} : val B [] = 0 := rfl
theorem val_s {B a : Int} {l : List Int} : val B (a :: l) = a + B * val B l := rfl
theorem val_nil (B : Int) : val B [] = 0 := rfl
theorem val_cons (B a : Int) (l : List Int) : val B (a :: l) = a + B * val B l := rfl
theorem val_app (B : Int) : ∀ (a b : List Int), val B (a ++ b) = val B a + B ^ a.length * val B b
  | [], b => by simp [val_z, val_s]
  | c :: a, b => by
    rw [List.cons_append, List.length_cons, Int.pow_succ, val_cons, val_cons, val_app B a b]
    generalize B ^ a.length = p
    grind
theorem val_range {B : Int} (hB : 0 < B) : ∀ {l : List Int}, (∀ d ∈ l, 0 ≤ d ∧ d < B) → 0 ≤ val B l ∧ val B l < B ^ l.length
  | [], _ => by rw [val_nil, List.length_nil, Int.pow_zero]; decide
  | a :: l, h => by
    have ih := val_range hB (l := l) fun b hb => h b (.tail _ hb)
    have ha := h a (.head _)
    rw [val_cons, List.length_cons, Int.pow_succ]
    have h1 : 0 ≤ B * val B l := Int.mul_nonneg (by omega) ih.1
    have h2 : B * (val B l + 1) ≤ B * B ^ l.length := Int.mul_le_mul_of_nonneg_left (by omega) (by omega)
    rw [Int.mul_add, Int.mul_comm B (B ^ l.length)] at h2
    omega
theorem shift_pow {n : Int} (hn : 0 ≤ n) (k : Nat) : (2 : Int) ^ ((k : Int) * n).toNat = (2 ^ n.toNat) ^ k := by
  obtain ⟨m, rfl⟩ := Int.eq_ofNat_of_zero_le hn
  rw [← Int.natCast_mul, Int.toNat_natCast, Int.toNat_natCast, Nat.mul_comm, Int.pow_mul]
theorem cut_lo {lo m hi d : Nat} (h1 : lo < m) (h2 : m < hi) (h : hi - lo ≤ d + 1) : m - lo ≤ d := by omega
theorem cut_hi {lo m hi d : Nat} (h1 : lo < m) (h2 : m < hi) (h : hi - lo ≤ d + 1) : hi - m ≤ d := by omega
theorem cut_sum {lo m hi : Nat} (h1 : lo ≤ m) (h2 : m ≤ hi) : hi - lo = (m - lo) + (hi - m) := by omega
theorem cut_le {m hi k : Nat} (h2 : m < hi) (h : hi ≤ k) : m ≤ k := Nat.le_trans (Nat.le_of_lt h2) h
theorem cut_one {lo hi : Nat} (h : (lo : Int) + 1 = hi) : hi = lo + 1 := by omega
theorem cut_cast {lo m : Nat} (h : lo < m) : ((m : Int) - lo) = ((m - lo : Nat) : Int) := by omega
theorem cut_in {lo m : Nat} {a : Int} (h : (lo : Int) < a) (e : a = m) : lo < m := by omega
theorem cut_in2 {hi m : Nat} {a : Int} (h : a < (hi : Int)) (e : a = m) : m < hi := by omega
theorem cut_nn {lo : Nat} {a : Int} (h : (lo : Int) < a) : 0 ≤ a := by omega
theorem cut_d {lo hi d : Nat} (h : (hi : Int) - lo ≤ d) : hi - lo ≤ d := by omega
theorem cut_abs {v : Int} (h0 : 0 ≤ v) (h : v < 2 ^ 60) : v.natAbs < 2 ^ 64 := by omega
/- inner writes the digits -/
theorem innF_val {n : Int} (hn : 0 < n) : ∀ (d : Nat) (ns : List Int) (x : Int) (lo hi : Nat), lo < hi → hi - lo ≤ d → hi ≤ ns.length → 0 ≤ x → x < (2 ^ n.toNat) ^ (hi - lo) →
    ∃ l, innF n d ns x lo hi = ns.take lo ++ l ++ ns.drop hi ∧ l.length = hi - lo ∧ val (2 ^ n.toNat) l = x ∧ ∀ c ∈ l, 0 ≤ c ∧ c < 2 ^ n.toNat
  | 0, ns, x, lo, hi, h1, h2, _, _, _ => by omega
  | d + 1, ns, x, lo, hi, h1, h2, h3, h4, h5 => by
    have hB : (0 : Int) < 2 ^ n.toNat := pow_pos' _
    rewrite [innF_s]
    by_cases h : (lo : Int) + 1 = hi
    · rw [if_pos h]
      have e := cut_one h
      refine ⟨[x], ?_, by rw [List.length_singleton, e, Nat.add_sub_cancel_left], by simp [val_z, val_s], ?_⟩
      · subst e
        rw [Int.toNat_natCast, List.set_eq_take_append_cons_drop, if_pos (show lo < ns.length from h3)]
        simp
      · rintro c hc
        rw [List.mem_singleton.mp hc]
        rw [e, Nat.add_sub_cancel_left, Int.pow_succ, Int.pow_zero, Int.one_mul] at h5
        exact ⟨h4, h5⟩
    · rw [if_neg h]
      have hm := mid_b (Int.ofNat_lt.mpr h1) h
      obtain ⟨m, hme⟩ : ∃ m : Nat, ((lo : Int) + hi).fdiv (2 ^ (1 : Int).toNat) = m := Int.eq_ofNat_of_zero_le (cut_nn hm.1)
      have hlm : lo < m := cut_in hm.1 hme
      have hmh : m < hi := cut_in2 hm.2 hme
      rw [hme] at ⊢
      clear hm hme
      have es : (2 : Int) ^ (((m : Int) - lo) * n).toNat = (2 ^ n.toNat) ^ (m - lo) := by
        rw [cut_cast hlm]
        exact shift_pow (Int.le_of_lt hn) _
      rw [bitXor_high _ h4, fdiv_pow, es]
      have hP : (0 : Int) < (2 ^ n.toNat) ^ (m - lo) := Int.pow_pos hB
      have hx1 := Int.emod_nonneg x (Int.ne_of_gt hP)
      have hx2 := Int.emod_lt_of_pos x hP
      have hy1 : 0 ≤ x / (2 ^ n.toNat) ^ (m - lo) := Int.ediv_nonneg h4 (Int.le_of_lt hP)
      have hy2 : x / (2 ^ n.toNat) ^ (m - lo) < (2 ^ n.toNat) ^ (hi - m) := by
        apply Int.ediv_lt_of_lt_mul hP
        rw [← Int.pow_add]
        rw [Nat.add_comm, ← cut_sum (Nat.le_of_lt hlm) (Nat.le_of_lt hmh)]
        exact h5
      have hdm := Int.mul_ediv_add_emod x ((2 ^ n.toNat) ^ (m - lo))
      generalize x / (2 ^ n.toNat) ^ (m - lo) = X1 at *
      generalize x % (2 ^ n.toNat) ^ (m - lo) = X0 at *
      obtain ⟨l1, e1, g1, v1, c1⟩ := innF_val hn d ns X0 lo m hlm (cut_lo hlm hmh h2) (cut_le hmh h3) hx1 hx2
      have hln := innF_len n d ns X0 lo m
      obtain ⟨l2, e2, g2, v2, c2⟩ := innF_val hn d (innF n d ns X0 lo m) X1 m hi hmh (cut_hi hlm hmh h2) (by rw [hln]; exact h3) hy1 hy2
      have t1 : (ns.take lo).length = lo := by rw [List.length_take]; exact Nat.min_eq_left (Nat.le_of_lt (Nat.lt_of_lt_of_le h1 h3))
      refine ⟨l1 ++ l2, ?_, by rw [List.length_append, g1, g2]; exact (cut_sum (Nat.le_of_lt hlm) (Nat.le_of_lt hmh)).symm, ?_, fun c hc => ?_⟩
      · rw [e2]
        conv => lhs; rw [e1]
        have a1 : (ns.take lo ++ l1 ++ ns.drop m).take m = ns.take lo ++ l1 := by
          have t2 : (ns.take lo ++ l1).length = m := by rw [List.length_append, t1, g1]; exact Nat.add_sub_cancel' (Nat.le_of_lt hlm)
          rw [List.take_append_of_le_length (Nat.le_of_eq t2.symm), List.take_of_length_le (Nat.le_of_eq t2)]
        have a2 : (ns.take lo ++ l1 ++ ns.drop m).drop hi = ns.drop hi := by
          have t2 : (ns.take lo ++ l1).length = m := by rw [List.length_append, t1, g1]; exact Nat.add_sub_cancel' (Nat.le_of_lt hlm)
          rw [List.drop_append, List.drop_eq_nil_of_le (by rw [t2]; exact Nat.le_of_lt hmh), List.nil_append, List.drop_drop, t2, Nat.add_sub_cancel' (Nat.le_of_lt hmh)]
        rw [a1, a2]
        simp
      · rw [val_app, v1, v2, g1]; omega
      · rcases List.mem_append.mp hc with h | h
        · exact c1 c h
        · exact c2 c h
theorem take_split {α : Type} {lo m hi : Nat} (h1 : lo ≤ m) (h2 : m ≤ hi) (ns : List α) : (ns.drop lo).take (hi - lo) = (ns.drop lo).take (m - lo) ++ (ns.drop m).take (hi - m) := by
  rw [cut_sum h1 h2, List.take_add, List.drop_drop, Nat.add_sub_cancel' h1]
/- inner reads the digits -/
theorem d2F_val {n : Int} (hn : 0 < n) (ns : List Int) : ∀ (d : Nat) (lo hi : Nat), lo < hi → hi - lo ≤ d → hi ≤ ns.length → d2F n ns d lo hi = val (2 ^ n.toNat) ((ns.drop lo).take (hi - lo))
  | 0, lo, hi, h1, h2, _ => by omega
  | d + 1, lo, hi, h1, h2, h3 => by
    by_cases h : (lo : Int) + 1 = hi
    · rw [d2F_one h]
      have e := cut_one h
      have hl : lo < ns.length := Nat.lt_of_lt_of_le h1 h3
      rw [e, Nat.add_sub_cancel_left, Int.toNat_natCast, List.drop_eq_getElem_cons hl]
      rw [List.take_succ_cons, List.take_zero, val_cons, val_nil, Int.mul_zero, Int.add_zero, List.getD_eq_getElem?_getD, List.getElem?_eq_getElem hl]
      rfl
    · rw [d2F_step h]
      have hm := mid_b (Int.ofNat_lt.mpr h1) h
      obtain ⟨m, hme⟩ : ∃ m : Nat, ((lo : Int) + hi).fdiv (2 ^ (1 : Int).toNat) = m := Int.eq_ofNat_of_zero_le (cut_nn hm.1)
      have hlm : lo < m := cut_in hm.1 hme
      have hmh : m < hi := cut_in2 hm.2 hme
      rw [hme] at ⊢
      clear hm hme
      have es : (2 : Int) ^ (((m : Int) - lo) * n).toNat = (2 ^ n.toNat) ^ (m - lo) := by
        rw [cut_cast hlm]
        exact shift_pow (Int.le_of_lt hn) _
      rw [es, d2F_val hn ns d m hi hmh (cut_hi hlm hmh h2) h3, d2F_val hn ns d lo m hlm (cut_lo hlm hmh h2) (cut_le hmh h3), take_split (Nat.le_of_lt hlm) (Nat.le_of_lt hmh), val_app]
      have : ((ns.drop lo).take (m - lo)).length = m - lo := by rw [List.length_take, List.length_drop]; exact Nat.min_eq_left (Nat.sub_le_sub_right (cut_le hmh h3) _)
      rw [this, Int.mul_comm]
      exact Int.add_comm _ _
/- long division, digit by digit -/
theorem fold_div {B y : Int} (hy : 0 < y) (hB : 0 < B) : ∀ (l : List Int), (∀ d ∈ l, 0 ≤ d ∧ d < B) →
    val B l = val B (l.reverse.foldl (fun (st : List Int × Int) d => (st.1 ++ [(st.2 * B + d).fdiv y], (st.2 * B + d).fmod y)) ([], 0)).1.reverse * y + (l.reverse.foldl (fun (st : List Int × Int) d => (st.1 ++ [(st.2 * B + d).fdiv y], (st.2 * B + d).fmod y)) ([], 0)).2
    ∧ 0 ≤ (l.reverse.foldl (fun (st : List Int × Int) d => (st.1 ++ [(st.2 * B + d).fdiv y], (st.2 * B + d).fmod y)) ([], 0)).2 ∧ (l.reverse.foldl (fun (st : List Int × Int) d => (st.1 ++ [(st.2 * B + d).fdiv y], (st.2 * B + d).fmod y)) ([], 0)).2 < y
    ∧ (∀ d ∈ (l.reverse.foldl (fun (st : List Int × Int) d => (st.1 ++ [(st.2 * B + d).fdiv y], (st.2 * B + d).fmod y)) ([], 0)).1, 0 ≤ d ∧ d < B)
    ∧ (l.reverse.foldl (fun (st : List Int × Int) d => (st.1 ++ [(st.2 * B + d).fdiv y], (st.2 * B + d).fmod y)) ([], 0)).1.length = l.length
  | [], _ => ⟨by simp [val_z, val_s], Int.le_refl _, hy, fun d h => (nomatch h), rfl⟩
  | a :: l, h => by
    obtain ⟨i1, i2, i3, i4, i5⟩ := fold_div hy hB l fun d hd => h d (.tail _ hd)
    have ha := h a (.head _)
    rw [List.reverse_cons, List.foldl_append, List.foldl_cons, List.foldl_nil, val_cons]
    generalize l.reverse.foldl (fun (st : List Int × Int) d => (st.1 ++ [(st.2 * B + d).fdiv y], (st.2 * B + d).fmod y)) ([], 0) = S at *
    obtain ⟨q, r⟩ := S
    dsimp only at *
    have hr : 0 ≤ r * B := Int.mul_nonneg i2 (by omega)
    have hlt : r * B + a < B * y := by
      have : (r + 1) * B ≤ y * B := Int.mul_le_mul_of_nonneg_right (by omega) (by omega)
      rw [Int.add_mul, Int.one_mul, Int.mul_comm y B] at this
      omega
    rw [Int.fdiv_eq_ediv_of_nonneg _ (by omega), Int.fmod_eq_emod_of_nonneg _ (by omega)]
    have hdm := Int.mul_ediv_add_emod (r * B + a) y
    refine ⟨?_, Int.emod_nonneg _ (by omega), Int.emod_lt_of_pos _ hy, fun d hd => ?_, by rw [List.length_append, i5]; rfl⟩
    · rw [List.reverse_append]
      simp only [List.reverse_cons, List.reverse_nil, List.nil_append, List.cons_append]
      rw [val_cons, i1]
      generalize val B q.reverse = V at *
      generalize (r * B + a) / y = D at *
      generalize (r * B + a) % y = M at *
      grind
    · rcases List.mem_append.mp hd with hd | hd
      · exact i4 d hd
      · rw [List.mem_singleton.mp hd]
        exact ⟨Int.ediv_nonneg (by omega) (by omega), Int.ediv_lt_of_lt_mul hy hlt⟩
theorem val_seg {B : Int} (hB : 0 < B) {q : List Int} (hq : ∀ d ∈ q, 0 ≤ d ∧ d < B) (lo k : Nat) : 0 ≤ val B ((q.drop lo).take k) ∧ val B ((q.drop lo).take k) ≤ val B q := by
  have h0 := val_range hB (l := (q.drop lo).take k) fun d hd => hq d (List.mem_of_mem_drop (List.mem_of_mem_take hd))
  refine ⟨h0.1, ?_⟩
  have e1 : val B q = val B (q.take lo) + B ^ (q.take lo).length * val B (q.drop lo) := by rw [← val_app, List.take_append_drop]
  have e2 : val B (q.drop lo) = val B ((q.drop lo).take k) + B ^ ((q.drop lo).take k).length * val B ((q.drop lo).drop k) := by rw [← val_app, List.take_append_drop]
  have h1 := (val_range hB (l := q.take lo) fun d hd => hq d (List.mem_of_mem_take hd)).1
  have h2 := (val_range hB (l := q.drop lo) fun d hd => hq d (List.mem_of_mem_drop hd)).1
  have h3 := (val_range hB (l := (q.drop lo).drop k) fun d hd => hq d (List.mem_of_mem_drop (List.mem_of_mem_drop hd))).1
  have p1 : 1 ≤ B ^ (q.take lo).length := Int.pow_pos hB
  have p2 : 0 ≤ B ^ ((q.drop lo).take k).length * val B ((q.drop lo).drop k) := Int.mul_nonneg (Int.le_of_lt (Int.pow_pos hB)) h3
  have p3 : 1 * val B (q.drop lo) ≤ B ^ (q.take lo).length * val B (q.drop lo) := Int.mul_le_mul_of_nonneg_right p1 h2
  omega
theorem bits_lt {x : Int} (hx : 0 < x) : x < 2 ^ (Builtin.Int.intBits x) := by
  have := (intBits_le_iff (m := Builtin.Int.intBits x) (x := x)).mp (Nat.le_refl _)
  have h2 : ((x.natAbs : Nat) : Int) < ((2 ^ Builtin.Int.intBits x : Nat) : Int) := by exact_mod_cast this
  push_cast at h2
  omega
theorem bits_pos {x : Int} (hx : 0 < x) : 0 < Builtin.Int.intBits x := by
  apply Nat.pos_of_ne_zero
  intro h
  have := (intBits_le_iff (m := 0) (x := x)).mp (by omega)
  omega
theorem bits_le {x : Int} {m : Nat} (hx : 0 < x) (h : x < 2 ^ m) : Builtin.Int.intBits x ≤ m := by
  refine intBits_le_iff.mpr ?_
  have h2 : ((x.natAbs : Nat) : Int) < ((2 ^ m : Nat) : Int) := by push_cast; omega
  exact_mod_cast h2
structure DigOk (x y n : Int) : Prop where
  n1 : 0 < n
  n2 : n ≤ 30
  hb : ((Builtin.Int.intBits x : Nat) : Int) ≤ 60
  hq0 : 0 < (i2dF x n).length
  hqv : ∀ (d : Nat) (lo hi : Int), 0 ≤ lo → lo < hi → hi ≤ ((divSt x y n (i2dF x n).length).1.reverse.length : Int) → hi - lo ≤ d → (d2F n (divSt x y n (i2dF x n).length).1.reverse d lo hi).natAbs < 2 ^ 64
  hdig : ∀ d ∈ i2dF x n, 0 ≤ d ∧ d < 2 ^ 30
  hk0 : 0 < (((Builtin.Int.intBits x : Nat) : Int) + n - 1).fdiv n
  hk1 : (((Builtin.Int.intBits x : Nat) : Int) + n - 1).fdiv n ≤ 60
  quo : d2F n (divSt x y n (i2dF x n).length).1.reverse 60 0 (divSt x y n (i2dF x n).length).1.reverse.length = x / y
  rem : (divSt x y n (i2dF x n).length).2 = x % y
theorem dig_ok {x y n : Int} (hx : 0 < x) (hx2 : x < 2 ^ 60) (hy : 0 < y) (hy2 : y < 1073741824) (hn : n = ((Builtin.Int.intBits y : Nat) : Int)) : DigOk x y n := by
  have b1 := bits_pos hx
  have b2 := bits_lt hx
  have b3 := bits_le hx hx2
  have c1 := bits_pos hy
  have c3 : Builtin.Int.intBits y ≤ 30 := bits_le hy (by omega)
  generalize hb : Builtin.Int.intBits x = b at *
  generalize Builtin.Int.intBits y = m at *
  subst hn
  obtain ⟨K, hK⟩ : ∃ K : Nat, K = (b + m - 1) / m := ⟨_, rfl⟩
  have hKf : ((b : Int) + m - 1).fdiv m = K := by
    rw [Int.fdiv_eq_ediv_of_nonneg _ (by omega), hK]
    have : ((b : Int) + m - 1) = ((b + m - 1 : Nat) : Int) := by omega
    rw [this]; rfl
  have hmod := Nat.div_add_mod (b + m - 1) m
  have hmlt := Nat.mod_lt (b + m - 1) (show m > 0 by omega)
  rw [← hK] at hmod
  have hK0 : 0 < K := by
    apply Nat.pos_of_ne_zero
    rintro h
    rw [h] at hmod; omega
  have hK1 : K ≤ 60 := by
    rw [hK]
    refine Nat.div_le_of_le_mul ?_
    have h2 : 1 * 59 ≤ m * 59 := Nat.mul_le_mul_right _ (by omega)
    omega
  have hB : (0 : Int) < 2 ^ ((m : Nat) : Int).toNat := pow_pos' _
  have hBm : (2 : Int) ^ ((m : Nat) : Int).toNat ≤ 2 ^ 30 := by
    rw [Int.toNat_natCast]
    exact_mod_cast Nat.pow_le_pow_right (by decide) c3
  have hxK : x < (2 ^ ((m : Nat) : Int).toNat) ^ (K - 0) := by
    rw [Int.toNat_natCast, ← Int.pow_mul, Nat.sub_zero]
    refine Int.lt_of_lt_of_le b2 ?_
    exact_mod_cast Nat.pow_le_pow_right (by decide) (show b ≤ m * K by omega)
  have hik : i2dK x m = K := by unfold i2dK; rw [hb, hKf]; rfl
  obtain ⟨l, e, g, v, c⟩ := innF_val (n := (m : Int)) (Int.natCast_pos.mpr c1) 60 (List.replicate K 0) x 0 K hK0 hK1 (by rw [List.length_replicate]; exact Nat.le_refl _) (Int.le_of_lt hx) hxK
  have el : i2dF x m = l := by
    unfold i2dF
    rw [hik]
    refine e.trans ?_
    simp
  rw [Nat.sub_zero] at g
  obtain ⟨q1, q2, q3, q4, q5⟩ := fold_div hy hB l c
  have eS : divSt x y m (i2dF x m).length = l.reverse.foldl (fun (st : List Int × Int) d => (st.1 ++ [(st.2 * 2 ^ ((m : Nat) : Int).toNat + d).fdiv y], (st.2 * 2 ^ ((m : Nat) : Int).toNat + d).fmod y)) ([], 0) := by
    unfold divSt
    rw [el, List.take_of_length_le (by rw [List.length_reverse]; exact Nat.le_refl _)]
    rfl
  have hq4 : ∀ d ∈ (divSt x y m (i2dF x m).length).1.reverse, 0 ≤ d ∧ d < 2 ^ ((m : Nat) : Int).toNat := fun d hd => q4 d (by rw [← eS]; exact List.mem_reverse.mp hd)
  have hq5 : (divSt x y m (i2dF x m).length).1.reverse.length = K := by rw [List.length_reverse, eS, q5, g]
  rw [← eS] at q1 q2 q3
  rw [v] at q1
  have hdiv : val (2 ^ ((m : Nat) : Int).toNat) (divSt x y m (i2dF x m).length).1.reverse = x / y ∧ (divSt x y m (i2dF x m).length).2 = x % y := by
    generalize val (2 ^ ((m : Nat) : Int).toNat) (divSt x y m (i2dF x m).length).1.reverse = V at *
    generalize (divSt x y m (i2dF x m).length).2 = r at *
    have := (Int.ediv_emod_unique (a := x) (b := y) (r := r) (q := V) hy).mpr ⟨by rw [q1, Int.mul_comm V y]; omega, q2, q3⟩
    exact ⟨this.1.symm, this.2.symm⟩
  have hle : x / y ≤ x := Int.ediv_le_self _ (Int.le_of_lt hx)
  refine ⟨Int.natCast_pos.mpr c1, Int.ofNat_le.mpr c3, by rw [hb]; exact Int.ofNat_le.mpr b3, by rw [el, g]; exact hK0, ?_, ?_, by rw [hb, hKf]; exact Int.natCast_pos.mpr hK0, by rw [hb, hKf]; exact Int.ofNat_le.mpr hK1, ?_, hdiv.2⟩
  · intro d lo hi h1 h2 h3 h4
    obtain ⟨lo, rfl⟩ := Int.eq_ofNat_of_zero_le h1
    obtain ⟨hi, rfl⟩ := Int.eq_ofNat_of_zero_le (show 0 ≤ hi from Int.le_trans h1 (Int.le_of_lt h2))
    rw [d2F_val (Int.natCast_pos.mpr c1) _ d lo hi (Int.ofNat_lt.mp h2) (cut_d h4) (Int.ofNat_le.mp h3)]
    have := val_seg hB hq4 lo (hi - lo)
    rw [hdiv.1] at this
    have : val (2 ^ ((m : Nat) : Int).toNat) (((divSt x y m (i2dF x m).length).1.reverse.drop lo).take (hi - lo)) < 2 ^ 60 := Int.lt_of_le_of_lt (Int.le_trans this.2 hle) hx2
    rename_i h60
    exact cut_abs h60.1 this
  · intro d hd
    rw [el] at hd
    have := c d hd
    exact ⟨this.1, Int.lt_of_lt_of_le this.2 hBm⟩
  · have := d2F_val (n := (m : Int)) (Int.natCast_pos.mpr c1) (divSt x y m (i2dF x m).length).1.reverse 60 0 (divSt x y m (i2dF x m).length).1.reverse.length (by rw [hq5]; exact hK0) (by rw [hq5]; exact hK1) (Nat.le_refl _)
    rw [Nat.sub_zero, List.drop_zero, List.take_length, hdiv.1] at this
    exact this
end
section
set_option hygiene false in
local macro_rules | `(tactic| omega) => `(tactic| walk_at "MY om")
section
theorem off_Tree : True := by (w_top off; first | walk1 | trivial)
set_option maxRecDepth 100000
set_option maxHeartbeats 8000000
open PySem.Spec PySem.Calls PyProof.V
set_option hygiene false in
local macro_rules | `(tactic| walk_at "execs cons") => `(tactic| walk_at "MY h0")
set_option hygiene false in
local macro_rules | `(tactic| walk_at "exec For Name Name cons nil") => `(tactic| (k_here; refine Stop.get ?_))
set_option hygiene false in
local macro_rules | `(tactic| walk_at "exec For Name Call cons nil") => `(tactic| (k_here; refine Stop.get ?_))
set_option hygiene false in
local macro_rules | `(tactic| walk_at "TurnX") => `(tactic| (dsimp only [TurnX]))
set_option hygiene false in
local macro_rules | `(tactic| walk_at "subscriptTail") => `(tactic| (k_here; (with_reducible show wpAny _ _ (subscriptTail _ _ (Value.ref _) (Value.str _ _)) _ _ _); k_dflt (refine' kv_item ?N_1 ?m_1 ?d_1 ?i_1 ?s_1 ?_; (case N_1 => k_asm); (case m_1 => first | k_mem | exact .tail _ (.tail _ (.tail _ (.tail _ (.tail _ (by assumption))))) | exact .tail _ (.tail _ (.tail _ (.tail _ (by assumption))))); (case d_1 | i_1 | s_1 => assumption))))
set_option hygiene false in
local macro_rules | `(tactic| walk_at "subscriptTail") => `(tactic| (k_here; (with_reducible show wpAny _ _ (subscriptTail _ _ (Value.ref _) (Value.str _ _)) _ _ _); k_dflt (refine' df_item ?N_2 ?m_2 ?d_2 ?i_2 ?_ ?_; (case N_2 => k_asm); (case m_2 => k_mem); (case d_2 | i_2 => assumption); rotate_left)))
set_option hygiene false in
local macro_rules | `(tactic| walk_at "setItem ref str") => `(tactic| (k_here; refine Stop.get ?_))
set_option hygiene false in
local macro_rules | `(tactic| walk_at "binaryOp Mult int int") => `(tactic| (refine owe_mul ?_ ?_; rotate_left))
/- the first i words under one int -/
noncomputable def iniF (c : Int) (ws : List Str) : Nat → Str → Option Int
  | 0 => fun _ => none
  | i + 1 => match ws[i]? with
    | some y => upd (iniF c ws i) y c
    | none => iniF c ws i
theorem iniF_s {c : Int} {ws : List Str} {i : Nat} : iniF c ws (i + 1) = match ws[i]? with
    | some y => upd (iniF c ws i) y c
    | none => iniF c ws i := rfl
theorem iniF_step {c : Int} {ws : List Str} {i : Nat} {y : Str} (h : ws[i]? = some y) : upd (iniF c ws i) y c = iniF c ws (i + 1) := by
  rewrite [iniF_s]
  rw [h]
theorem strs_drop {vs : List Value} {ys : List Str} (h : StrsAre vs ys) : StrsAre (vs.drop 1) (ys.drop 1) := by
  cases h with
  | nil => exact .nil
  | cons y t h => exact h
theorem allLt_to {d : Nat} {l : List (Addr × Obj)} (h : AllLt d l) : ∀ p ∈ l, @LT.lt Nat _ p.1 d := by
  induction l with
  | nil => intro p hp; cases hp
  | cons a l ih =>
    intro p hp
    rcases List.mem_cons.mp hp with rfl | hp
    · exact h.1
    · exact ih h.2 p hp
theorem rev_fix {h₀ h : Heap} {L D l : Addr} {X : Array Value} {Y : List Value} {n : Nat} {rest : List (Addr × Obj)} (N : News h₀ L h ((D, revObj l ((X.toList.length : Int) - 1)) :: (l, { cls := .type "list", data := .seq X n }) :: rest)) (e : X = Y.toArray) :
    News h₀ L h ((D, revObj l ((Y.toArray.size : Int) - 1)) :: (l, listOf Y.toArray n) :: rest) := by subst e; exact N
theorem pick1 {vals : List Value} (h : 0 < vals.length) : slicePick vals.toArray (some 1) none none = (vals.drop 1).toArray := by
  have := slicePick_from vals.toArray 1 (by rw [List.size_toArray]; exact h)
  exact this
noncomputable abbrev TS := (Str → Option Int) × (Str → Option Int)
noncomputable def aboveF (y : Str) : Str := Txt.slice y none (some (-2))
noncomputable def tieF (y : Str) : Str := Txt.item y (-3) ++ Txt.item y (-1)
noncomputable def wholeF (x : Int) (S : TS) (y : Str) : Int := x * gi S.1 y + gi S.2 y
noncomputable def stepT (kvs : List (Str × Value)) (x : Int) (S : TS) (y : Str) : TS :=
  (upd S.1 (aboveF y) (gi S.1 (aboveF y) * wholeF x S y), upd S.2 (aboveF y) (gi S.2 (aboveF y) * wholeF x S y + wt kvs (tieF y) * gi S.1 y * gi S.1 (aboveF y)))
noncomputable def treeAt (kvs : List (Str × Value)) (x : Int) (us : List Str) (S₀ : TS) : Nat → TS
  | 0 => S₀
  | i + 1 => match us[us.length - 1 - i]? with
    | some y => stepT kvs x (treeAt kvs x us S₀ i) y
    | none => treeAt kvs x us S₀ i
theorem treeAt_s {kvs : List (Str × Value)} {x : Int} {us : List Str} {S₀ : TS} {i : Nat} : treeAt kvs x us S₀ (i + 1) = match us[us.length - 1 - i]? with
    | some y => stepT kvs x (treeAt kvs x us S₀ i) y
    | none => treeAt kvs x us S₀ i := rfl
theorem treeAt_step {kvs : List (Str × Value)} {x : Int} {us : List Str} {S₀ : TS} {i : Nat} {y : Str} (h : us[us.length - 1 - i]? = some y) : treeAt kvs x us S₀ (i + 1) = stepT kvs x (treeAt kvs x us S₀ i) y := by
  rewrite [treeAt_s]
  rw [h]
structure StepOk (kvs : List (Str × Value)) (x : Int) (S : TS) (y : Str) : Prop where
  l3 : 3 ≤ y.length
  l9 : y.length ≤ 9
  b1 : (S.1 y).isSome = true
  t1 : (S.2 y).isSome = true
  b2 : (S.1 (aboveF y)).isSome = true
  t2 : (S.2 (aboveF y)).isSome = true
  k1 : (valueAt kvs (tieF y)).isSome = true
  m1 : IntMulOk x (gi S.1 y)
  m2 : IntMulOk (gi S.2 (aboveF y)) (wholeF x S y)
  m3 : IntMulOk (wt kvs (tieF y)) (gi S.1 y)
  m4 : IntMulOk (wt kvs (tieF y) * gi S.1 y) (gi S.1 (aboveF y))
  m5 : IntMulOk (gi S.1 (aboveF y)) (wholeF x S y)
noncomputable def treeEnd (kvs : List (Str × Value)) (x : Int) (ws : List Str) : TS := treeAt kvs x (ws.drop 1) (iniF 1 ws ws.length, iniF 0 ws ws.length) (ws.drop 1).length
structure TreeOk (kvs : List (Str × Value)) (x : Int) (ws : List Str) : Prop where
  steps : ∀ i y, i < (ws.drop 1).length → (ws.drop 1)[(ws.drop 1).length - 1 - i]? = some y → StepOk kvs x (treeAt kvs x (ws.drop 1) (iniF 1 ws ws.length, iniF 0 ws ws.length) i) y
  b1 : ((treeEnd kvs x ws).1 (ws.getD 0 Str.empty)).isSome = true
  t1 : ((treeEnd kvs x ws).2 (ws.getD 0 Str.empty)).isSome = true
  m1 : IntMulOk x (gi (treeEnd kvs x ws).1 (ws.getD 0 Str.empty))
inductive TJ1 (prog : Program) (w : World) (D1 D2 : Addr) (tail : List (Addr × Obj)) (fT fB : Str → Option Int) (b : Nat) (nw : List (Addr × Obj)) : Prop
  | mk (oT oB : Obj) (kT kB : List (Str × Value)) (e : nw = (D1, oT) :: (D2, oB) :: tail) (q1 : oT.IsDictOf (PySem.strKind prog w) kT) (q2 : oB.IsDictOf (PySem.strKind prog w) kB) (q3 : DF kT fT) (q4 : DF kB fB) (q5 : kT.length ≤ b) (q6 : kB.length ≤ b)
inductive TJ2 (prog : Program) (w : World) (p : Addr × Obj) (D1 D2 : Addr) (tail : List (Addr × Obj)) (fT fB : Str → Option Int) (b : Nat) (nw : List (Addr × Obj)) : Prop
  | mk (oT oB : Obj) (kT kB : List (Str × Value)) (e : nw = p :: (D1, oT) :: (D2, oB) :: tail) (q1 : oT.IsDictOf (PySem.strKind prog w) kT) (q2 : oB.IsDictOf (PySem.strKind prog w) kB) (q3 : DF kT fT) (q4 : DF kB fB) (q5 : kT.length ≤ b) (q6 : kB.length ≤ b)
namespace tree_t
noncomputable def S (w : World) (p : Program) (loose : List Str) (mean : ExcName → Option Value) (mg : Str → Option Value) (mb : Str → Option Value) (x : Int) (tk2 : Tok) (ws : List Str) (vals : List Value) (k : Nat) (kvs : List (Str × Value)) (dp : Nat) (un : Nat) (gd : Option (List Code)) (cn : Str) (cs : Scope) (a : Addr) (ccd : Value) (cl : List (Str × Addr)) (outer : List Env) (A₀ : Around) (base : Heap) (h₀ : Heap) (L : Addr) (m : Str → Option Value) (rest : List (Addr × Obj)) (s : Shared) (Q : Value → Shared → Prop) (E : Value → Shared → Prop) (la : Addr) (d : Addr) (o : Obj) : Prop :=
  ∀ (hS : StrsAre vals ws)  (hws : ws.length ≤ 64)  (hws0 : 0 < ws.length)  (hall : TreeOk kvs x ws)  (hm : (d, o) ∈ rest)  (hdo : o.IsDictOf (PySem.strKind prg w) kvs)  (hI : IntVals kvs)  (hlo : (d == sysModules) = false)  (B : Below A₀ base outer h₀)  (F : Fr h₀ L s.heap m)  (X : (hd.heap_39 w.params).In h₀)  (N : News h₀ L s.heap ((la, listOf vals.toArray k) :: rest))  (T : Top p loose mean mg mb h₀)  (hk : cs.kind = .function)  (hd : dp + 10 < recursionLimit)  (hu : un + 100 < cLine)  (hret : ∀ D t u h' tk', Fr h₀ L h' m → News h₀ L h' ((D, tupOf [.int (x * gi (treeEnd kvs x ws).1 (ws.getD 0 Str.empty) + gi (treeEnd kvs x ws).2 (ws.getD 0 Str.empty)) t, .int (gi (treeEnd kvs x ws).1 (ws.getD 0 Str.empty)) u]) :: rest) → Q (.ref D) { s with heap := h', toks := tk' }),
    wpAny (model prg w) (ktrTop dp un gd cn cs L a ccd cl outer) (call (.ref 174) [.ref la, .ref d, .int x tk2]) Q E s
theorem c₁ : Nonempty {t : World × Program × (List Str) × (ExcName → Option Value) × (Str → Option Value) × (Str → Option Value) × Int × Tok × (List Str) × (List Value) × Nat × (List (Str × Value)) × Nat × Nat × (Option (List Code)) × Str × Scope × Addr × Value × (List (Str × Addr)) × (List Env) × Around × Heap × Heap × Addr × (Str → Option Value) × (List (Addr × Obj)) × Shared × (Value → Shared → Prop) × (Value → Shared → Prop) × Addr × Addr × Obj // S t.1 t.2.1 t.2.2.1 t.2.2.2.1 t.2.2.2.2.1 t.2.2.2.2.2.1 t.2.2.2.2.2.2.1 t.2.2.2.2.2.2.2.1 t.2.2.2.2.2.2.2.2.1 t.2.2.2.2.2.2.2.2.2.1 t.2.2.2.2.2.2.2.2.2.2.1 t.2.2.2.2.2.2.2.2.2.2.2.1 t.2.2.2.2.2.2.2.2.2.2.2.2.1 t.2.2.2.2.2.2.2.2.2.2.2.2.2.1 t.2.2.2.2.2.2.2.2.2.2.2.2.2.2.1 t.2.2.2.2.2.2.2.2.2.2.2.2.2.2.2.1 t.2.2.2.2.2.2.2.2.2.2.2.2.2.2.2.2.1 t.2.2.2.2.2.2.2.2.2.2.2.2.2.2.2.2.2.1 t.2.2.2.2.2.2.2.2.2.2.2.2.2.2.2.2.2.2.1 t.2.2.2.2.2.2.2.2.2.2.2.2.2.2.2.2.2.2.2.1 t.2.2.2.2.2.2.2.2.2.2.2.2.2.2.2.2.2.2.2.2.1 t.2.2.2.2.2.2.2.2.2.2.2.2.2.2.2.2.2.2.2.2.2.1 t.2.2.2.2.2.2.2.2.2.2.2.2.2.2.2.2.2.2.2.2.2.2.1 t.2.2.2.2.2.2.2.2.2.2.2.2.2.2.2.2.2.2.2.2.2.2.2.1 t.2.2.2.2.2.2.2.2.2.2.2.2.2.2.2.2.2.2.2.2.2.2.2.2.1 t.2.2.2.2.2.2.2.2.2.2.2.2.2.2.2.2.2.2.2.2.2.2.2.2.2.1 t.2.2.2.2.2.2.2.2.2.2.2.2.2.2.2.2.2.2.2.2.2.2.2.2.2.2.1 t.2.2.2.2.2.2.2.2.2.2.2.2.2.2.2.2.2.2.2.2.2.2.2.2.2.2.2.1 t.2.2.2.2.2.2.2.2.2.2.2.2.2.2.2.2.2.2.2.2.2.2.2.2.2.2.2.2.1 t.2.2.2.2.2.2.2.2.2.2.2.2.2.2.2.2.2.2.2.2.2.2.2.2.2.2.2.2.2.1 t.2.2.2.2.2.2.2.2.2.2.2.2.2.2.2.2.2.2.2.2.2.2.2.2.2.2.2.2.2.2.1 t.2.2.2.2.2.2.2.2.2.2.2.2.2.2.2.2.2.2.2.2.2.2.2.2.2.2.2.2.2.2.2.1 t.2.2.2.2.2.2.2.2.2.2.2.2.2.2.2.2.2.2.2.2.2.2.2.2.2.2.2.2.2.2.2.2 → ∀ t : World × Program × (List Str) × (ExcName → Option Value) × (Str → Option Value) × (Str → Option Value) × Int × Tok × (List Str) × (List Value) × Nat × (List (Str × Value)) × Nat × Nat × (Option (List Code)) × Str × Scope × Addr × Value × (List (Str × Addr)) × (List Env) × Around × Heap × Heap × Addr × (Str → Option Value) × (List (Addr × Obj)) × Shared × (Value → Shared → Prop) × (Value → Shared → Prop) × Addr × Addr × Obj, S t.1 t.2.1 t.2.2.1 t.2.2.2.1 t.2.2.2.2.1 t.2.2.2.2.2.1 t.2.2.2.2.2.2.1 t.2.2.2.2.2.2.2.1 t.2.2.2.2.2.2.2.2.1 t.2.2.2.2.2.2.2.2.2.1 t.2.2.2.2.2.2.2.2.2.2.1 t.2.2.2.2.2.2.2.2.2.2.2.1 t.2.2.2.2.2.2.2.2.2.2.2.2.1 t.2.2.2.2.2.2.2.2.2.2.2.2.2.1 t.2.2.2.2.2.2.2.2.2.2.2.2.2.2.1 t.2.2.2.2.2.2.2.2.2.2.2.2.2.2.2.1 t.2.2.2.2.2.2.2.2.2.2.2.2.2.2.2.2.1 t.2.2.2.2.2.2.2.2.2.2.2.2.2.2.2.2.2.1 t.2.2.2.2.2.2.2.2.2.2.2.2.2.2.2.2.2.2.1 t.2.2.2.2.2.2.2.2.2.2.2.2.2.2.2.2.2.2.2.1 t.2.2.2.2.2.2.2.2.2.2.2.2.2.2.2.2.2.2.2.2.1 t.2.2.2.2.2.2.2.2.2.2.2.2.2.2.2.2.2.2.2.2.2.1 t.2.2.2.2.2.2.2.2.2.2.2.2.2.2.2.2.2.2.2.2.2.2.1 t.2.2.2.2.2.2.2.2.2.2.2.2.2.2.2.2.2.2.2.2.2.2.2.1 t.2.2.2.2.2.2.2.2.2.2.2.2.2.2.2.2.2.2.2.2.2.2.2.2.1 t.2.2.2.2.2.2.2.2.2.2.2.2.2.2.2.2.2.2.2.2.2.2.2.2.2.1 t.2.2.2.2.2.2.2.2.2.2.2.2.2.2.2.2.2.2.2.2.2.2.2.2.2.2.1 t.2.2.2.2.2.2.2.2.2.2.2.2.2.2.2.2.2.2.2.2.2.2.2.2.2.2.2.1 t.2.2.2.2.2.2.2.2.2.2.2.2.2.2.2.2.2.2.2.2.2.2.2.2.2.2.2.2.1 t.2.2.2.2.2.2.2.2.2.2.2.2.2.2.2.2.2.2.2.2.2.2.2.2.2.2.2.2.2.1 t.2.2.2.2.2.2.2.2.2.2.2.2.2.2.2.2.2.2.2.2.2.2.2.2.2.2.2.2.2.2.1 t.2.2.2.2.2.2.2.2.2.2.2.2.2.2.2.2.2.2.2.2.2.2.2.2.2.2.2.2.2.2.2.1 t.2.2.2.2.2.2.2.2.2.2.2.2.2.2.2.2.2.2.2.2.2.2.2.2.2.2.2.2.2.2.2.2} := eps_ex ⟨(⟨fun _ _ => 0, { strHash := fun _ => 0, shareClass := fun _ => 0, mergeTok := fun _ => default, idOf := fun _ => 0, idOfShared := fun _ _ => 0, followText := fun _ => true, idOfImm := fun _ => 0 }⟩, default, default, default, default, default, default, default, default, default, default, default, default, default, default, default, default, default, default, default, default, {}, default, default, default, default, default, {}, default, default, default, default, default)⟩ fun t => S t.1 t.2.1 t.2.2.1 t.2.2.2.1 t.2.2.2.2.1 t.2.2.2.2.2.1 t.2.2.2.2.2.2.1 t.2.2.2.2.2.2.2.1 t.2.2.2.2.2.2.2.2.1 t.2.2.2.2.2.2.2.2.2.1 t.2.2.2.2.2.2.2.2.2.2.1 t.2.2.2.2.2.2.2.2.2.2.2.1 t.2.2.2.2.2.2.2.2.2.2.2.2.1 t.2.2.2.2.2.2.2.2.2.2.2.2.2.1 t.2.2.2.2.2.2.2.2.2.2.2.2.2.2.1 t.2.2.2.2.2.2.2.2.2.2.2.2.2.2.2.1 t.2.2.2.2.2.2.2.2.2.2.2.2.2.2.2.2.1 t.2.2.2.2.2.2.2.2.2.2.2.2.2.2.2.2.2.1 t.2.2.2.2.2.2.2.2.2.2.2.2.2.2.2.2.2.2.1 t.2.2.2.2.2.2.2.2.2.2.2.2.2.2.2.2.2.2.2.1 t.2.2.2.2.2.2.2.2.2.2.2.2.2.2.2.2.2.2.2.2.1 t.2.2.2.2.2.2.2.2.2.2.2.2.2.2.2.2.2.2.2.2.2.1 t.2.2.2.2.2.2.2.2.2.2.2.2.2.2.2.2.2.2.2.2.2.2.1 t.2.2.2.2.2.2.2.2.2.2.2.2.2.2.2.2.2.2.2.2.2.2.2.1 t.2.2.2.2.2.2.2.2.2.2.2.2.2.2.2.2.2.2.2.2.2.2.2.2.1 t.2.2.2.2.2.2.2.2.2.2.2.2.2.2.2.2.2.2.2.2.2.2.2.2.2.1 t.2.2.2.2.2.2.2.2.2.2.2.2.2.2.2.2.2.2.2.2.2.2.2.2.2.2.1 t.2.2.2.2.2.2.2.2.2.2.2.2.2.2.2.2.2.2.2.2.2.2.2.2.2.2.2.1 t.2.2.2.2.2.2.2.2.2.2.2.2.2.2.2.2.2.2.2.2.2.2.2.2.2.2.2.2.1 t.2.2.2.2.2.2.2.2.2.2.2.2.2.2.2.2.2.2.2.2.2.2.2.2.2.2.2.2.2.1 t.2.2.2.2.2.2.2.2.2.2.2.2.2.2.2.2.2.2.2.2.2.2.2.2.2.2.2.2.2.2.1 t.2.2.2.2.2.2.2.2.2.2.2.2.2.2.2.2.2.2.2.2.2.2.2.2.2.2.2.2.2.2.2.1 t.2.2.2.2.2.2.2.2.2.2.2.2.2.2.2.2.2.2.2.2.2.2.2.2.2.2.2.2.2.2.2.2
noncomputable def c₀ : World × Program × (List Str) × (ExcName → Option Value) × (Str → Option Value) × (Str → Option Value) × Int × Tok × (List Str) × (List Value) × Nat × (List (Str × Value)) × Nat × Nat × (Option (List Code)) × Str × Scope × Addr × Value × (List (Str × Addr)) × (List Env) × Around × Heap × Heap × Addr × (Str → Option Value) × (List (Addr × Obj)) × Shared × (Value → Shared → Prop) × (Value → Shared → Prop) × Addr × Addr × Obj := (Classical.choice c₁).val
noncomputable def w : World := c₀.1
noncomputable def p : Program := c₀.2.1
noncomputable def loose : List Str := c₀.2.2.1
noncomputable def mean : ExcName → Option Value := c₀.2.2.2.1
noncomputable def mg : Str → Option Value := c₀.2.2.2.2.1
noncomputable def mb : Str → Option Value := c₀.2.2.2.2.2.1
noncomputable def x : Int := c₀.2.2.2.2.2.2.1
noncomputable def tk2 : Tok := c₀.2.2.2.2.2.2.2.1
noncomputable def ws : List Str := c₀.2.2.2.2.2.2.2.2.1
noncomputable def vals : List Value := c₀.2.2.2.2.2.2.2.2.2.1
noncomputable def k : Nat := c₀.2.2.2.2.2.2.2.2.2.2.1
noncomputable def kvs : List (Str × Value) := c₀.2.2.2.2.2.2.2.2.2.2.2.1
noncomputable def dp : Nat := c₀.2.2.2.2.2.2.2.2.2.2.2.2.1
noncomputable def un : Nat := c₀.2.2.2.2.2.2.2.2.2.2.2.2.2.1
noncomputable def gd : Option (List Code) := c₀.2.2.2.2.2.2.2.2.2.2.2.2.2.2.1
noncomputable def cn : Str := c₀.2.2.2.2.2.2.2.2.2.2.2.2.2.2.2.1
noncomputable def cs : Scope := c₀.2.2.2.2.2.2.2.2.2.2.2.2.2.2.2.2.1
noncomputable def a : Addr := c₀.2.2.2.2.2.2.2.2.2.2.2.2.2.2.2.2.2.1
noncomputable def ccd : Value := c₀.2.2.2.2.2.2.2.2.2.2.2.2.2.2.2.2.2.2.1
noncomputable def cl : List (Str × Addr) := c₀.2.2.2.2.2.2.2.2.2.2.2.2.2.2.2.2.2.2.2.1
noncomputable def outer : List Env := c₀.2.2.2.2.2.2.2.2.2.2.2.2.2.2.2.2.2.2.2.2.1
noncomputable def A₀ : Around := c₀.2.2.2.2.2.2.2.2.2.2.2.2.2.2.2.2.2.2.2.2.2.1
noncomputable def base : Heap := c₀.2.2.2.2.2.2.2.2.2.2.2.2.2.2.2.2.2.2.2.2.2.2.1
noncomputable def h₀ : Heap := c₀.2.2.2.2.2.2.2.2.2.2.2.2.2.2.2.2.2.2.2.2.2.2.2.1
noncomputable def L : Addr := c₀.2.2.2.2.2.2.2.2.2.2.2.2.2.2.2.2.2.2.2.2.2.2.2.2.1
noncomputable def m : Str → Option Value := c₀.2.2.2.2.2.2.2.2.2.2.2.2.2.2.2.2.2.2.2.2.2.2.2.2.2.1
noncomputable def rest : List (Addr × Obj) := c₀.2.2.2.2.2.2.2.2.2.2.2.2.2.2.2.2.2.2.2.2.2.2.2.2.2.2.1
noncomputable def s : Shared := c₀.2.2.2.2.2.2.2.2.2.2.2.2.2.2.2.2.2.2.2.2.2.2.2.2.2.2.2.1
noncomputable def Q : Value → Shared → Prop := c₀.2.2.2.2.2.2.2.2.2.2.2.2.2.2.2.2.2.2.2.2.2.2.2.2.2.2.2.2.1
noncomputable def E : Value → Shared → Prop := c₀.2.2.2.2.2.2.2.2.2.2.2.2.2.2.2.2.2.2.2.2.2.2.2.2.2.2.2.2.2.1
noncomputable def la : Addr := c₀.2.2.2.2.2.2.2.2.2.2.2.2.2.2.2.2.2.2.2.2.2.2.2.2.2.2.2.2.2.2.1
noncomputable def d : Addr := c₀.2.2.2.2.2.2.2.2.2.2.2.2.2.2.2.2.2.2.2.2.2.2.2.2.2.2.2.2.2.2.2.1
noncomputable def o : Obj := c₀.2.2.2.2.2.2.2.2.2.2.2.2.2.2.2.2.2.2.2.2.2.2.2.2.2.2.2.2.2.2.2.2
theorem main : S w p loose mean mg mb x tk2 ws vals k kvs dp un gd cn cs a ccd cl outer A₀ base h₀ L m rest s Q E la d o := by
  unfold S
  intro hS hws hws0 hall hm hdo hI hlo B F X N T hk hd hu hret
  obtain ⟨hok, hb1, ht1, hm1⟩ := hall
  unfold prg
  revert X; k_fill; intro X
  have hSl := hS.length
  refine wpAny_call ?_
  k_dflt ktr_enter
  k_steps
  all_goals try (refine Stop.mk ?_; ((rename Fr _ _ _ _ => lF'); (with_unfolding_all refine' For_invVF lF' ?k1_u222 ?k2_u222 ?_; (case k1_u222 => exact rfl); (case k2_u222 => exact rfl); k_whole)); k_steps)
  all_goals try (refine Stop.mk ?_; ((rename Fr _ _ _ _ => lF'); (with_unfolding_all refine' For_invVF lF' ?k1_u217 ?k2_u217 ?_; (case k1_u217 => exact rfl); (case k2_u217 => exact rfl); k_whole)); k_steps)
  all_goals try (refine Stop.mk ?_; (k_dflt (refine' df_set ?F_u106 ?N_u106 ?m_u106 ?U_u106 ?d_u106 ?i_u106 ?z_u106 ?j_u106 ?_; (case F_u106 => k_asm); (case N_u106 => k_asm); (case m_u106 => k_mem); (case U_u106 => k_updF); (case d_u106 => assumption); (case i_u106 => assumption); (case z_u106 => assumption); (case j_u106 => omega)); intro h' o' kvs' F' N' hd' hI' hz'; (try dsimp only at N')); k_steps)
  all_goals try (refine Stop.mk ?_; (k_dflt (refine' df_set ?F_u107 ?N_u107 ?m_u107 ?U_u107 ?d_u107 ?i_u107 ?z_u107 ?j_u107 ?_; (case F_u107 => k_asm); (case N_u107 => k_asm); (case m_u107 => k_mem); (case U_u107 => k_updF); (case d_u107 => assumption); (case i_u107 => assumption); (case z_u107 => assumption); (case j_u107 => omega)); intro h' o' kvs' F' N' hd' hI' hz'; (try dsimp only at N')); k_steps)
  (rename News _ _ _ _ => zN)
  (revert zN)
  (intro zN)
  refine loop_led0 (by_list rfl (by k_asm) zN (by k_mem)) (fun i nw => TJ1 prg w _ _ ((la, listOf vals.toArray k) :: rest) (iniF 0 ws i) (iniF 1 ws i) i nw)
    ?hl ?hadr ⟨_, _, _, _, rfl, by assumption, by assumption, DF.nil, DF.nil, Nat.le_refl _, Nat.le_refl _⟩ ?turn ?done
  case hl => rintro i nw ⟨oT, oB, kT, kB, rfl, _⟩; k_mem
  case hadr => rintro i nw ⟨oT, oB, kT, kB, rfl, _⟩; rfl
  case turn =>
    rintro i v nw I ito h tk hin hv ⟨oT, oB, kT, kB, rfl, hdT, hdB, hfT, hfB, hzT, hzB⟩ hlow F' N'
    obtain ⟨y, t, hy, rfl⟩ := strs_at hS hv
    have hin' : i < 64 := by
      have := (List.getElem?_eq_some_iff.mp hy).1
      omega
    (try k_lt hlow)
    (try k_fold)
    k_steps
    all_goals try (refine Stop.mk ?_; ((rename Fr _ _ _ _ => lF'); (with_unfolding_all refine' For_invVF lF' ?k1_u223 ?k2_u223 ?_; (case k1_u223 => exact rfl); (case k2_u223 => exact rfl); k_whole)); k_steps)
    all_goals try (refine Stop.mk ?_; ((rename Fr _ _ _ _ => lF'); (with_unfolding_all refine' For_invVF lF' ?k1_u218 ?k2_u218 ?_; (case k1_u218 => exact rfl); (case k2_u218 => exact rfl); k_whole)); k_steps)
    all_goals try (refine Stop.mk ?_; (k_dflt (refine' df_set ?F_u108 ?N_u108 ?m_u108 ?U_u108 ?d_u108 ?i_u108 ?z_u108 ?j_u108 ?_; (case F_u108 => k_asm); (case N_u108 => k_asm); (case m_u108 => k_mem); (case U_u108 => k_updF); (case d_u108 => assumption); (case i_u108 => assumption); (case z_u108 => assumption); (case j_u108 => omega)); intro h' o' kvs' F' N' hd' hI' hz'; (try dsimp only at N')); k_steps)
    all_goals try (refine Stop.mk ?_; (k_dflt (refine' df_set ?F_u109 ?N_u109 ?m_u109 ?U_u109 ?d_u109 ?i_u109 ?z_u109 ?j_u109 ?_; (case F_u109 => k_asm); (case N_u109 => k_asm); (case m_u109 => k_mem); (case U_u109 => k_updF); (case d_u109 => assumption); (case i_u109 => assumption); (case z_u109 => assumption); (case j_u109 => omega)); intro h' o' kvs' F' N' hd' hI' hz'; (try dsimp only at N')); k_steps)
    exact TurnE.intro (by k_asm) (by k_asm) (by exact sub_refl _) ⟨⟨_, _, _, _, rfl, by assumption, by assumption, by rw [← iniF_step hy]; assumption, by rw [← iniF_step hy]; assumption, by assumption, by assumption⟩, fun z hz => if_neg hz⟩
  case done =>
    rintro u nw h tk ⟨oT, oB, kT, kB, rfl, hdT, hdB, hfT, hfB, hzT, hzB⟩ F' N'
    dsimp only
    have zlt := lt_of_news N'
    k_lt zlt
    k_steps
    all_goals try (refine Stop.mk ?_; ((rename Fr _ _ _ _ => lF'); (with_unfolding_all refine' For_invVF lF' ?k1_u224 ?k2_u224 ?_; (case k1_u224 => exact rfl); (case k2_u224 => exact rfl); k_whole)); k_steps)
    all_goals try (refine Stop.mk ?_; ((rename Fr _ _ _ _ => lF'); (with_unfolding_all refine' For_invVF lF' ?k1_u219 ?k2_u219 ?_; (case k1_u219 => exact rfl); (case k2_u219 => exact rfl); k_whole)); k_steps)
    all_goals try (refine Stop.mk ?_; (k_dflt (refine' df_set ?F_u110 ?N_u110 ?m_u110 ?U_u110 ?d_u110 ?i_u110 ?z_u110 ?j_u110 ?_; (case F_u110 => k_asm); (case N_u110 => k_asm); (case m_u110 => k_mem); (case U_u110 => k_updF); (case d_u110 => assumption); (case i_u110 => assumption); (case z_u110 => assumption); (case j_u110 => omega)); intro h' o' kvs' F' N' hd' hI' hz'; (try dsimp only at N')); k_steps)
    all_goals try (refine Stop.mk ?_; (k_dflt (refine' df_set ?F_u111 ?N_u111 ?m_u111 ?U_u111 ?d_u111 ?i_u111 ?z_u111 ?j_u111 ?_; (case F_u111 => k_asm); (case N_u111 => k_asm); (case m_u111 => k_mem); (case U_u111 => k_updF); (case d_u111 => assumption); (case i_u111 => assumption); (case z_u111 => assumption); (case j_u111 => omega)); intro h' o' kvs' F' N' hd' hI' hz'; (try dsimp only at N')); k_steps)
    (rename News _ _ _ _ => zN)
    (rename (_ < _ ∧ _ ∧ _ ∧ _ ∧ AllLt _ _) => zl)
    have e0 : vals.toArray.size = ws.length := by rw [List.size_toArray]; exact hSl
    rw [e0] at hfT hfB hzT hzB
    have zE : slicePick vals.toArray (some 1) none none = (vals.drop 1).toArray := pick1 (by omega)
    have zN2 := rev_fix zN zE
    have hSd := strs_drop hS
    have hSdl := hSd.length
    refine loop_led2 (y1 := Str.ofString "above") (y2 := Str.ofString "whole") (by_rev rfl (by k_asm) zN2 ?hlt (.head _)) (fun i a1 a2 nw => TJ2 prg w (_, listOf (vals.drop 1).toArray 0) _ _ ((la, listOf vals.toArray k) :: rest) (treeAt kvs x (ws.drop 1) (iniF 1 ws ws.length, iniF 0 ws ws.length) i).2 (treeAt kvs x (ws.drop 1) (iniF 1 ws ws.length, iniF 0 ws ws.length) i).1 (64 + i) nw)
      ?hl ?hadr ⟨_, _, _, _, rfl, by assumption, by assumption, hfT, hfB, by omega, by omega⟩ ?turn ?done
    case hl => rintro i a1 a2 nw ⟨oT, oB, kT, kB, rfl, _⟩; exact .head _
    case hadr => rintro i a1 a2 nw ⟨oT, oB, kT, kB, rfl, _⟩; rfl
    case hlt =>
      intro p hp
      simp only [List.mem_cons] at hp
      rcases hp with rfl | rfl | rfl | rfl | hp
      · exact zl.1
      · exact zl.2.1
      · exact zl.2.2.1
      · exact zl.2.2.2.1
      · exact allLt_to zl.2.2.2.2 _ hp
    case turn =>
      rintro i v a1 a2 nw I ito h tk hin hv ⟨oT, oB, kT, kB, rfl, hdT, hdB, hfT, hfB, hzT, hzB⟩ hlow F' N'
      obtain ⟨y, t, hy, rfl⟩ := strs_at (strs_drop hS) hv
      rw [List.size_toArray] at hin hy
      have hin' : i < 64 := by rw [hSdl, List.length_drop] at hin; omega
      have hok' := hok i y (by omega) (by rw [← hSdl]; exact hy)
      have hstep : treeAt kvs x (ws.drop 1) (iniF 1 ws ws.length, iniF 0 ws ws.length) (i + 1) = stepT kvs x (treeAt kvs x (ws.drop 1) (iniF 1 ws ws.length, iniF 0 ws ws.length) i) y := treeAt_step (by rw [← hSdl]; exact hy)
      rw [hstep]
      clear hok hstep
      generalize treeAt kvs x (ws.drop 1) (iniF 1 ws ws.length, iniF 0 ws ws.length) i = S at *
      obtain ⟨fB, fT⟩ := S
      obtain ⟨hl3, hl9, hb1, ht1, hb2, ht2, hk1, hm1, hm2, hm3, hm4, hm5⟩ := hok'
      dsimp only [aboveF, tieF, wholeF] at *
      (try k_lt hlow)
      (try k_fold)
      k_steps
      all_goals try (refine Stop.mk ?_; ((rename Fr _ _ _ _ => lF'); (with_unfolding_all refine' For_invVF lF' ?k1_u225 ?k2_u225 ?_; (case k1_u225 => exact rfl); (case k2_u225 => exact rfl); k_whole)); k_steps)
      all_goals try (refine Stop.mk ?_; ((rename Fr _ _ _ _ => lF'); (with_unfolding_all refine' For_invVF lF' ?k1_u220 ?k2_u220 ?_; (case k1_u220 => exact rfl); (case k2_u220 => exact rfl); k_whole)); k_steps)
      all_goals try (refine Stop.mk ?_; (k_dflt (refine' df_set ?F_u112 ?N_u112 ?m_u112 ?U_u112 ?d_u112 ?i_u112 ?z_u112 ?j_u112 ?_; (case F_u112 => k_asm); (case N_u112 => k_asm); (case m_u112 => k_mem); (case U_u112 => k_updF); (case d_u112 => assumption); (case i_u112 => assumption); (case z_u112 => assumption); (case j_u112 => omega)); intro h' o' kvs' F' N' hd' hI' hz'; (try dsimp only at N')); k_steps)
      all_goals try (refine Stop.mk ?_; (k_dflt (refine' df_set ?F_u113 ?N_u113 ?m_u113 ?U_u113 ?d_u113 ?i_u113 ?z_u113 ?j_u113 ?_; (case F_u113 => k_asm); (case N_u113 => k_asm); (case m_u113 => k_mem); (case U_u113 => k_updF); (case d_u113 => assumption); (case i_u113 => assumption); (case z_u113 => assumption); (case j_u113 => omega)); intro h' o' kvs' F' N' hd' hI' hz'; (try dsimp only at N')); k_steps)
      all_goals first
        | exact TurnE.intro (by k_asm) (by k_asm) (by exact sub_refl _) ⟨⟨_, _, _, _, rfl, by assumption, by assumption, by assumption, by assumption, by omega, by omega⟩, by k_same2⟩
        | exact ⟨by assumption⟩
        | trace "TURN2"
    case done =>
      rintro u a1 a2 nw h tk ⟨oT, oB, kT, kB, rfl, hdT, hdB, hfT, hfB, hzT, hzB⟩ F' N'
      dsimp only
      rw [List.size_toArray, hSdl] at hfT hfB hzT hzB
      have hE : treeEnd kvs x ws = treeAt kvs x (ws.drop 1) (iniF 1 ws ws.length, iniF 0 ws ws.length) (ws.drop 1).length := rfl
      rw [← hE] at hfT hfB
      k_steps
      all_goals try (refine Stop.mk ?_; ((rename Fr _ _ _ _ => lF'); (with_unfolding_all refine' For_invVF lF' ?k1_u226 ?k2_u226 ?_; (case k1_u226 => exact rfl); (case k2_u226 => exact rfl); k_whole)); k_steps)
      all_goals try (refine Stop.mk ?_; ((rename Fr _ _ _ _ => lF'); (with_unfolding_all refine' For_invVF lF' ?k1_u221 ?k2_u221 ?_; (case k1_u221 => exact rfl); (case k2_u221 => exact rfl); k_whole)); k_steps)
      all_goals try (refine Stop.mk ?_; (k_dflt (refine' df_set ?F_u114 ?N_u114 ?m_u114 ?U_u114 ?d_u114 ?i_u114 ?z_u114 ?j_u114 ?_; (case F_u114 => k_asm); (case N_u114 => k_asm); (case m_u114 => k_mem); (case U_u114 => k_updF); (case d_u114 => assumption); (case i_u114 => assumption); (case z_u114 => assumption); (case j_u114 => omega)); intro h' o' kvs' F' N' hd' hI' hz'; (try dsimp only at N')); k_steps)
      all_goals try (refine Stop.mk ?_; (k_dflt (refine' df_set ?F_u115 ?N_u115 ?m_u115 ?U_u115 ?d_u115 ?i_u115 ?z_u115 ?j_u115 ?_; (case F_u115 => k_asm); (case N_u115 => k_asm); (case m_u115 => k_mem); (case U_u115 => k_updF); (case d_u115 => assumption); (case i_u115 => assumption); (case z_u115 => assumption); (case j_u115 => omega)); intro h' o' kvs' F' N' hd' hI' hz'; (try dsimp only at N')); k_steps)
      all_goals first
        | exact ⟨hb1⟩
        | exact ⟨ht1⟩
        | exact ⟨hm1⟩
        | skip
      refine' hret _ _ _ _ _ ?F ?N
      case F => k_asm
      case N => exact news_cons (by k_asm) (by k_mem) (news_sub (by k_asm) (by repeat (first | exact sub_refl _ | refine sub_tail ?_)))
end tree_t
theorem tree_t {w : World} {p : Program} {loose : List Str} {mean : ExcName → Option Value} {mg mb : Str → Option Value} {x : Int} {tk2 : Tok} {ws : List Str} {vals : List Value} {k : Nat} (hS : StrsAre vals ws) (hws : ws.length ≤ 64) (hws0 : 0 < ws.length) {kvs : List (Str × Value)} (hall : TreeOk kvs x ws)
    {dp un : Nat} {gd : Option (List Code)} {cn : Str} {cs : Scope} {a : Addr} {ccd : Value} {cl : List (Str × Addr)} {outer : List Env} {A₀ : Around} {base h₀ : Heap} {L : Addr} {m : Str → Option Value} {rest : List (Addr × Obj)} {s : Shared}
    {Q E : Value → Shared → Prop} {la d : Addr} {o : Obj} (hm : (d, o) ∈ rest) (hdo : o.IsDictOf (PySem.strKind prg w) kvs) (hI : IntVals kvs) (hlo : (d == sysModules) = false)
    (B : Below A₀ base outer h₀) (F : Fr h₀ L s.heap m) (X : (hd.heap_39 w.params).In h₀) (N : News h₀ L s.heap ((la, listOf vals.toArray k) :: rest)) (T : Top p loose mean mg mb h₀) (hk : cs.kind = .function) (hd : dp + 10 < recursionLimit) (hu : un + 100 < cLine)
    (hret : ∀ D t u h' tk', Fr h₀ L h' m → News h₀ L h' ((D, tupOf [.int (x * gi (treeEnd kvs x ws).1 (ws.getD 0 Str.empty) + gi (treeEnd kvs x ws).2 (ws.getD 0 Str.empty)) t, .int (gi (treeEnd kvs x ws).1 (ws.getD 0 Str.empty)) u]) :: rest) → Q (.ref D) { s with heap := h', toks := tk' }) :
    wpAny (model prg w) (ktrTop dp un gd cn cs L a ccd cl outer) (call (.ref 174) [.ref la, .ref d, .int x tk2]) Q E s :=
  (Classical.choice tree_t.c₁).property tree_t.main (w, p, loose, mean, mg, mb, x, tk2, ws, vals, k, kvs, dp, un, gd, cn, cs, a, ccd, cl, outer, A₀, base, h₀, L, m, rest, s, Q, E, la, d, o) hS hws hws0 hall hm hdo hI hlo B F X N T hk hd hu hret
end
section
theorem off_Ties : True := by (w_top off; first | walk1 | trivial)
set_option maxRecDepth 100000
set_option maxHeartbeats 8000000
open PySem.Spec PySem.Calls PyProof.V
set_option hygiene false in
local macro_rules | `(tactic| walk_at "execs cons") => `(tactic| walk_at "MY h0")
set_option hygiene false in
local macro_rules | `(tactic| walk_at "exec For Name Name cons nil") => `(tactic| (k_here; refine Stop.get ?_))
set_option hygiene false in
local macro_rules | `(tactic| walk_at "TurnX") => `(tactic| (dsimp only [TurnX]))
set_option hygiene false in
local macro_rules | `(tactic| walk_at "setItem ref str") => `(tactic| (k_here; refine Stop.get ?_))
noncomputable def pairF (y : Str) : Str := Txt.lstripChars y (Str.ofString ".")
noncomputable def tiesF (ws : List Str) : Nat → Str → Option Int
  | 0 => fun _ => none
  | i + 1 => match ws[i]? with
    | some y => upd (upd (tiesF ws i) (pairF y) ((y.length : Int) - 2)) (Txt.item (pairF y) 1 ++ Txt.item (pairF y) 0) ((y.length : Int) - 2)
    | none => tiesF ws i
theorem tiesF_z {ws : List Str} : tiesF ws 0 = fun _ => none := rfl
theorem tiesF_s {ws : List Str} {i : Nat} : tiesF ws (i + 1) = match ws[i]? with
    | some y => upd (upd (tiesF ws i) (pairF y) ((y.length : Int) - 2)) (Txt.item (pairF y) 1 ++ Txt.item (pairF y) 0) ((y.length : Int) - 2)
    | none => tiesF ws i := rfl
theorem tiesF_step {ws : List Str} {i : Nat} {y : Str} (h : ws[i]? = some y) : tiesF ws (i + 1) = upd (upd (tiesF ws i) (pairF y) ((y.length : Int) - 2)) (Txt.item (pairF y) 1 ++ Txt.item (pairF y) 0) ((y.length : Int) - 2) := by
  rewrite [tiesF_s]
  rw [h]
inductive TiJ (prog : Program) (w : World) (D : Addr) (tail : List (Addr × Obj)) (f : Str → Option Int) (b : Nat) (nw : List (Addr × Obj)) : Prop
  | mk (oT : Obj) (kT : List (Str × Value)) (e : nw = (D, oT) :: tail) (q1 : oT.IsDictOf (PySem.strKind prog w) kT) (q2 : DF kT f) (q3 : kT.length ≤ b)
namespace ties_t
noncomputable def S (w : World) (p : Program) (loose : List Str) (mean : ExcName → Option Value) (mg : Str → Option Value) (mb : Str → Option Value) (ws : List Str) (vals : List Value) (k : Nat) (dp : Nat) (un : Nat) (gd : Option (List Code)) (cn : Str) (cs : Scope) (a : Addr) (ccd : Value) (cl : List (Str × Addr)) (outer : List Env) (A₀ : Around) (base : Heap) (h₀ : Heap) (L : Addr) (m : Str → Option Value) (rest : List (Addr × Obj)) (s : Shared) (Q : Value → Shared → Prop) (E : Value → Shared → Prop) (la : Addr) : Prop :=
  ∀ (hS : StrsAre vals ws)  (hws : ws.length ≤ 64)  (hl : ∀ y ∈ ws, y.length ≤ 9 ∧ (pairF y).length = 2)  (B : Below A₀ base outer h₀)  (F : Fr h₀ L s.heap m)  (X : (hd.heap_39 w.params).In h₀)  (N : News h₀ L s.heap ((la, listOf vals.toArray k) :: rest))  (T : Top p loose mean mg mb h₀)  (hk : cs.kind = .function)  (hd : dp + 10 < recursionLimit)  (hu : un + 100 < cLine)  (hret : ∀ D o kvs h' tk', Fr h₀ L h' m → News h₀ L h' ((D, o) :: (la, listOf vals.toArray k) :: rest) → o.IsDictOf (PySem.strKind prg w) kvs → DF kvs (tiesF ws ws.length) → (D == sysModules) = false → (∀ q ∈ (la, listOf vals.toArray k) :: rest, @LT.lt Nat _ q.1 D) → Q (.ref D) { s with heap := h', toks := tk' }),
    wpAny (model prg w) (ktrTop dp un gd cn cs L a ccd cl outer) (call (.ref 160) [.ref la]) Q E s
theorem c₁ : Nonempty {t : World × Program × (List Str) × (ExcName → Option Value) × (Str → Option Value) × (Str → Option Value) × (List Str) × (List Value) × Nat × Nat × Nat × (Option (List Code)) × Str × Scope × Addr × Value × (List (Str × Addr)) × (List Env) × Around × Heap × Heap × Addr × (Str → Option Value) × (List (Addr × Obj)) × Shared × (Value → Shared → Prop) × (Value → Shared → Prop) × Addr // S t.1 t.2.1 t.2.2.1 t.2.2.2.1 t.2.2.2.2.1 t.2.2.2.2.2.1 t.2.2.2.2.2.2.1 t.2.2.2.2.2.2.2.1 t.2.2.2.2.2.2.2.2.1 t.2.2.2.2.2.2.2.2.2.1 t.2.2.2.2.2.2.2.2.2.2.1 t.2.2.2.2.2.2.2.2.2.2.2.1 t.2.2.2.2.2.2.2.2.2.2.2.2.1 t.2.2.2.2.2.2.2.2.2.2.2.2.2.1 t.2.2.2.2.2.2.2.2.2.2.2.2.2.2.1 t.2.2.2.2.2.2.2.2.2.2.2.2.2.2.2.1 t.2.2.2.2.2.2.2.2.2.2.2.2.2.2.2.2.1 t.2.2.2.2.2.2.2.2.2.2.2.2.2.2.2.2.2.1 t.2.2.2.2.2.2.2.2.2.2.2.2.2.2.2.2.2.2.1 t.2.2.2.2.2.2.2.2.2.2.2.2.2.2.2.2.2.2.2.1 t.2.2.2.2.2.2.2.2.2.2.2.2.2.2.2.2.2.2.2.2.1 t.2.2.2.2.2.2.2.2.2.2.2.2.2.2.2.2.2.2.2.2.2.1 t.2.2.2.2.2.2.2.2.2.2.2.2.2.2.2.2.2.2.2.2.2.2.1 t.2.2.2.2.2.2.2.2.2.2.2.2.2.2.2.2.2.2.2.2.2.2.2.1 t.2.2.2.2.2.2.2.2.2.2.2.2.2.2.2.2.2.2.2.2.2.2.2.2.1 t.2.2.2.2.2.2.2.2.2.2.2.2.2.2.2.2.2.2.2.2.2.2.2.2.2.1 t.2.2.2.2.2.2.2.2.2.2.2.2.2.2.2.2.2.2.2.2.2.2.2.2.2.2.1 t.2.2.2.2.2.2.2.2.2.2.2.2.2.2.2.2.2.2.2.2.2.2.2.2.2.2.2 → ∀ t : World × Program × (List Str) × (ExcName → Option Value) × (Str → Option Value) × (Str → Option Value) × (List Str) × (List Value) × Nat × Nat × Nat × (Option (List Code)) × Str × Scope × Addr × Value × (List (Str × Addr)) × (List Env) × Around × Heap × Heap × Addr × (Str → Option Value) × (List (Addr × Obj)) × Shared × (Value → Shared → Prop) × (Value → Shared → Prop) × Addr, S t.1 t.2.1 t.2.2.1 t.2.2.2.1 t.2.2.2.2.1 t.2.2.2.2.2.1 t.2.2.2.2.2.2.1 t.2.2.2.2.2.2.2.1 t.2.2.2.2.2.2.2.2.1 t.2.2.2.2.2.2.2.2.2.1 t.2.2.2.2.2.2.2.2.2.2.1 t.2.2.2.2.2.2.2.2.2.2.2.1 t.2.2.2.2.2.2.2.2.2.2.2.2.1 t.2.2.2.2.2.2.2.2.2.2.2.2.2.1 t.2.2.2.2.2.2.2.2.2.2.2.2.2.2.1 t.2.2.2.2.2.2.2.2.2.2.2.2.2.2.2.1 t.2.2.2.2.2.2.2.2.2.2.2.2.2.2.2.2.1 t.2.2.2.2.2.2.2.2.2.2.2.2.2.2.2.2.2.1 t.2.2.2.2.2.2.2.2.2.2.2.2.2.2.2.2.2.2.1 t.2.2.2.2.2.2.2.2.2.2.2.2.2.2.2.2.2.2.2.1 t.2.2.2.2.2.2.2.2.2.2.2.2.2.2.2.2.2.2.2.2.1 t.2.2.2.2.2.2.2.2.2.2.2.2.2.2.2.2.2.2.2.2.2.1 t.2.2.2.2.2.2.2.2.2.2.2.2.2.2.2.2.2.2.2.2.2.2.1 t.2.2.2.2.2.2.2.2.2.2.2.2.2.2.2.2.2.2.2.2.2.2.2.1 t.2.2.2.2.2.2.2.2.2.2.2.2.2.2.2.2.2.2.2.2.2.2.2.2.1 t.2.2.2.2.2.2.2.2.2.2.2.2.2.2.2.2.2.2.2.2.2.2.2.2.2.1 t.2.2.2.2.2.2.2.2.2.2.2.2.2.2.2.2.2.2.2.2.2.2.2.2.2.2.1 t.2.2.2.2.2.2.2.2.2.2.2.2.2.2.2.2.2.2.2.2.2.2.2.2.2.2.2} := eps_ex ⟨(⟨fun _ _ => 0, { strHash := fun _ => 0, shareClass := fun _ => 0, mergeTok := fun _ => default, idOf := fun _ => 0, idOfShared := fun _ _ => 0, followText := fun _ => true, idOfImm := fun _ => 0 }⟩, default, default, default, default, default, default, default, default, default, default, default, default, default, default, default, default, default, {}, default, default, default, default, default, {}, default, default, default)⟩ fun t => S t.1 t.2.1 t.2.2.1 t.2.2.2.1 t.2.2.2.2.1 t.2.2.2.2.2.1 t.2.2.2.2.2.2.1 t.2.2.2.2.2.2.2.1 t.2.2.2.2.2.2.2.2.1 t.2.2.2.2.2.2.2.2.2.1 t.2.2.2.2.2.2.2.2.2.2.1 t.2.2.2.2.2.2.2.2.2.2.2.1 t.2.2.2.2.2.2.2.2.2.2.2.2.1 t.2.2.2.2.2.2.2.2.2.2.2.2.2.1 t.2.2.2.2.2.2.2.2.2.2.2.2.2.2.1 t.2.2.2.2.2.2.2.2.2.2.2.2.2.2.2.1 t.2.2.2.2.2.2.2.2.2.2.2.2.2.2.2.2.1 t.2.2.2.2.2.2.2.2.2.2.2.2.2.2.2.2.2.1 t.2.2.2.2.2.2.2.2.2.2.2.2.2.2.2.2.2.2.1 t.2.2.2.2.2.2.2.2.2.2.2.2.2.2.2.2.2.2.2.1 t.2.2.2.2.2.2.2.2.2.2.2.2.2.2.2.2.2.2.2.2.1 t.2.2.2.2.2.2.2.2.2.2.2.2.2.2.2.2.2.2.2.2.2.1 t.2.2.2.2.2.2.2.2.2.2.2.2.2.2.2.2.2.2.2.2.2.2.1 t.2.2.2.2.2.2.2.2.2.2.2.2.2.2.2.2.2.2.2.2.2.2.2.1 t.2.2.2.2.2.2.2.2.2.2.2.2.2.2.2.2.2.2.2.2.2.2.2.2.1 t.2.2.2.2.2.2.2.2.2.2.2.2.2.2.2.2.2.2.2.2.2.2.2.2.2.1 t.2.2.2.2.2.2.2.2.2.2.2.2.2.2.2.2.2.2.2.2.2.2.2.2.2.2.1 t.2.2.2.2.2.2.2.2.2.2.2.2.2.2.2.2.2.2.2.2.2.2.2.2.2.2.2
noncomputable def c₀ : World × Program × (List Str) × (ExcName → Option Value) × (Str → Option Value) × (Str → Option Value) × (List Str) × (List Value) × Nat × Nat × Nat × (Option (List Code)) × Str × Scope × Addr × Value × (List (Str × Addr)) × (List Env) × Around × Heap × Heap × Addr × (Str → Option Value) × (List (Addr × Obj)) × Shared × (Value → Shared → Prop) × (Value → Shared → Prop) × Addr := (Classical.choice c₁).val
noncomputable def w : World := c₀.1
noncomputable def p : Program := c₀.2.1
noncomputable def loose : List Str := c₀.2.2.1
noncomputable def mean : ExcName → Option Value := c₀.2.2.2.1
noncomputable def mg : Str → Option Value := c₀.2.2.2.2.1
noncomputable def mb : Str → Option Value := c₀.2.2.2.2.2.1
noncomputable def ws : List Str := c₀.2.2.2.2.2.2.1
noncomputable def vals : List Value := c₀.2.2.2.2.2.2.2.1
noncomputable def k : Nat := c₀.2.2.2.2.2.2.2.2.1
noncomputable def dp : Nat := c₀.2.2.2.2.2.2.2.2.2.1
noncomputable def un : Nat := c₀.2.2.2.2.2.2.2.2.2.2.1
noncomputable def gd : Option (List Code) := c₀.2.2.2.2.2.2.2.2.2.2.2.1
noncomputable def cn : Str := c₀.2.2.2.2.2.2.2.2.2.2.2.2.1
noncomputable def cs : Scope := c₀.2.2.2.2.2.2.2.2.2.2.2.2.2.1
noncomputable def a : Addr := c₀.2.2.2.2.2.2.2.2.2.2.2.2.2.2.1
noncomputable def ccd : Value := c₀.2.2.2.2.2.2.2.2.2.2.2.2.2.2.2.1
noncomputable def cl : List (Str × Addr) := c₀.2.2.2.2.2.2.2.2.2.2.2.2.2.2.2.2.1
noncomputable def outer : List Env := c₀.2.2.2.2.2.2.2.2.2.2.2.2.2.2.2.2.2.1
noncomputable def A₀ : Around := c₀.2.2.2.2.2.2.2.2.2.2.2.2.2.2.2.2.2.2.1
noncomputable def base : Heap := c₀.2.2.2.2.2.2.2.2.2.2.2.2.2.2.2.2.2.2.2.1
noncomputable def h₀ : Heap := c₀.2.2.2.2.2.2.2.2.2.2.2.2.2.2.2.2.2.2.2.2.1
noncomputable def L : Addr := c₀.2.2.2.2.2.2.2.2.2.2.2.2.2.2.2.2.2.2.2.2.2.1
noncomputable def m : Str → Option Value := c₀.2.2.2.2.2.2.2.2.2.2.2.2.2.2.2.2.2.2.2.2.2.2.1
noncomputable def rest : List (Addr × Obj) := c₀.2.2.2.2.2.2.2.2.2.2.2.2.2.2.2.2.2.2.2.2.2.2.2.1
noncomputable def s : Shared := c₀.2.2.2.2.2.2.2.2.2.2.2.2.2.2.2.2.2.2.2.2.2.2.2.2.1
noncomputable def Q : Value → Shared → Prop := c₀.2.2.2.2.2.2.2.2.2.2.2.2.2.2.2.2.2.2.2.2.2.2.2.2.2.1
noncomputable def E : Value → Shared → Prop := c₀.2.2.2.2.2.2.2.2.2.2.2.2.2.2.2.2.2.2.2.2.2.2.2.2.2.2.1
noncomputable def la : Addr := c₀.2.2.2.2.2.2.2.2.2.2.2.2.2.2.2.2.2.2.2.2.2.2.2.2.2.2.2
theorem main : S w p loose mean mg mb ws vals k dp un gd cn cs a ccd cl outer A₀ base h₀ L m rest s Q E la := by
  unfold S
  intro hS hws hl B F X N T hk hd hu hret
  unfold prg
  revert X; k_fill; intro X
  have hSl := hS.length
  refine wpAny_call ?_
  k_dflt ktr_enter
  k_steps
  all_goals try (refine Stop.mk ?_; ((rename Fr _ _ _ _ => lF'); (with_unfolding_all refine' For_invVF lF' ?k1_u227 ?k2_u227 ?_; (case k1_u227 => exact rfl); (case k2_u227 => exact rfl); k_whole)); k_steps)
  all_goals try (refine Stop.mk ?_; (k_dflt (refine' df_set ?F_u100 ?N_u100 ?m_u100 ?U_u100 ?d_u100 ?i_u100 ?z_u100 ?j_u100 ?_; (case F_u100 => k_asm); (case N_u100 => k_asm); (case m_u100 => k_mem); (case U_u100 => k_updF); (case d_u100 => assumption); (case i_u100 => assumption); (case z_u100 => assumption); (case j_u100 => omega)); intro h' o' kvs' F' N' hd' hI' hz'; (try dsimp only at N')); k_steps)
  all_goals try (refine Stop.mk ?_; (k_dflt (refine' df_set ?F_u101 ?N_u101 ?m_u101 ?U_u101 ?d_u101 ?i_u101 ?z_u101 ?j_u101 ?_; (case F_u101 => k_asm); (case N_u101 => k_asm); (case m_u101 => k_mem); (case U_u101 => k_updF); (case d_u101 => assumption); (case i_u101 => assumption); (case z_u101 => assumption); (case j_u101 => omega)); intro h' o' kvs' F' N' hd' hI' hz'; (try dsimp only at N')); k_steps)
  refine loop_led1 (y1 := Str.ofString "pair") (by_list rfl (by k_asm) (by k_asm) (by k_mem)) (fun i a1 nw => TiJ prg w _ ((la, listOf vals.toArray k) :: rest) (tiesF ws i) (i + i) nw)
    ?hl ?hadr ⟨_, _, rfl, by assumption, DF.nil, Nat.le_refl _⟩ ?turn ?done
  case hl => rintro i a1 nw ⟨oT, kT, rfl, _⟩; k_mem
  case hadr => rintro i a1 nw ⟨oT, kT, rfl, _⟩; rfl
  case turn =>
    rintro i v a1 nw I ito h tk hin hv ⟨oT, kT, rfl, hdT, hfT, hzT⟩ hlow F' N'
    obtain ⟨y, t, hy, rfl⟩ := strs_at hS hv
    obtain ⟨hyl, hyp⟩ := hl y (List.mem_of_getElem? hy)
    have hst := tiesF_step hy
    rw [hst]
    clear hst
    generalize tiesF ws i = fT at *
    dsimp only [pairF] at *
    have hin' : i < 64 := by
      have := (List.getElem?_eq_some_iff.mp hy).1
      omega
    (try k_lt hlow)
    (try k_fold)
    k_steps
    all_goals try (refine Stop.mk ?_; ((rename Fr _ _ _ _ => lF'); (with_unfolding_all refine' For_invVF lF' ?k1_u228 ?k2_u228 ?_; (case k1_u228 => exact rfl); (case k2_u228 => exact rfl); k_whole)); k_steps)
    all_goals try (refine Stop.mk ?_; (k_dflt (refine' df_set ?F_u102 ?N_u102 ?m_u102 ?U_u102 ?d_u102 ?i_u102 ?z_u102 ?j_u102 ?_; (case F_u102 => k_asm); (case N_u102 => k_asm); (case m_u102 => k_mem); (case U_u102 => k_updF); (case d_u102 => assumption); (case i_u102 => assumption); (case z_u102 => assumption); (case j_u102 => omega)); intro h' o' kvs' F' N' hd' hI' hz'; (try dsimp only at N')); k_steps)
    all_goals try (refine Stop.mk ?_; (k_dflt (refine' df_set ?F_u103 ?N_u103 ?m_u103 ?U_u103 ?d_u103 ?i_u103 ?z_u103 ?j_u103 ?_; (case F_u103 => k_asm); (case N_u103 => k_asm); (case m_u103 => k_mem); (case U_u103 => k_updF); (case d_u103 => assumption); (case i_u103 => assumption); (case z_u103 => assumption); (case j_u103 => omega)); intro h' o' kvs' F' N' hd' hI' hz'; (try dsimp only at N')); k_steps)
    all_goals exact TurnE.intro (by k_asm) (by k_asm) (by exact sub_refl _) ⟨⟨_, _, rfl, by assumption, by assumption, by omega⟩, by k_same2⟩
  case done =>
    rintro u a1 nw h tk ⟨oT, kT, rfl, hdT, hfT, hzT⟩ F' N'
    dsimp only
    k_steps
    all_goals try (refine Stop.mk ?_; ((rename Fr _ _ _ _ => lF'); (with_unfolding_all refine' For_invVF lF' ?k1_u229 ?k2_u229 ?_; (case k1_u229 => exact rfl); (case k2_u229 => exact rfl); k_whole)); k_steps)
    all_goals try (refine Stop.mk ?_; (k_dflt (refine' df_set ?F_u104 ?N_u104 ?m_u104 ?U_u104 ?d_u104 ?i_u104 ?z_u104 ?j_u104 ?_; (case F_u104 => k_asm); (case N_u104 => k_asm); (case m_u104 => k_mem); (case U_u104 => k_updF); (case d_u104 => assumption); (case i_u104 => assumption); (case z_u104 => assumption); (case j_u104 => omega)); intro h' o' kvs' F' N' hd' hI' hz'; (try dsimp only at N')); k_steps)
    all_goals try (refine Stop.mk ?_; (k_dflt (refine' df_set ?F_u105 ?N_u105 ?m_u105 ?U_u105 ?d_u105 ?i_u105 ?z_u105 ?j_u105 ?_; (case F_u105 => k_asm); (case N_u105 => k_asm); (case m_u105 => k_mem); (case U_u105 => k_updF); (case d_u105 => assumption); (case i_u105 => assumption); (case z_u105 => assumption); (case j_u105 => omega)); intro h' o' kvs' F' N' hd' hI' hz'; (try dsimp only at N')); k_steps)
    rw [show vals.toArray.size = ws.length from hSl] at hfT
    refine' hret _ _ _ _ _ ?F ?N ?d ?f ?l ?q
    case F => k_asm
    case N => k_asm
    case d => assumption
    case f => assumption
    case l => assumption
    case q =>
      (rename (_ < _ ∧ AllLt _ _) => zl)
      exact fun q hq => allLt_to (l := (la, listOf vals.toArray k) :: rest) zl q hq
end ties_t
theorem ties_t {w : World} {p : Program} {loose : List Str} {mean : ExcName → Option Value} {mg mb : Str → Option Value} {ws : List Str} {vals : List Value} {k : Nat} (hS : StrsAre vals ws) (hws : ws.length ≤ 64) (hl : ∀ y ∈ ws, y.length ≤ 9 ∧ (pairF y).length = 2)
    {dp un : Nat} {gd : Option (List Code)} {cn : Str} {cs : Scope} {a : Addr} {ccd : Value} {cl : List (Str × Addr)} {outer : List Env} {A₀ : Around} {base h₀ : Heap} {L : Addr} {m : Str → Option Value} {rest : List (Addr × Obj)} {s : Shared}
    {Q E : Value → Shared → Prop} {la : Addr}
    (B : Below A₀ base outer h₀) (F : Fr h₀ L s.heap m) (X : (hd.heap_39 w.params).In h₀) (N : News h₀ L s.heap ((la, listOf vals.toArray k) :: rest)) (T : Top p loose mean mg mb h₀) (hk : cs.kind = .function) (hd : dp + 10 < recursionLimit) (hu : un + 100 < cLine)
    (hret : ∀ D o kvs h' tk', Fr h₀ L h' m → News h₀ L h' ((D, o) :: (la, listOf vals.toArray k) :: rest) → o.IsDictOf (PySem.strKind prg w) kvs → DF kvs (tiesF ws ws.length) → (D == sysModules) = false → (∀ q ∈ (la, listOf vals.toArray k) :: rest, @LT.lt Nat _ q.1 D) → Q (.ref D) { s with heap := h', toks := tk' }) :
    wpAny (model prg w) (ktrTop dp un gd cn cs L a ccd cl outer) (call (.ref 160) [.ref la]) Q E s :=
  (Classical.choice ties_t.c₁).property ties_t.main (w, p, loose, mean, mg, mb, ws, vals, k, dp, un, gd, cn, cs, a, ccd, cl, outer, A₀, base, h₀, L, m, rest, s, Q, E, la) hS hws hl B F X N T hk hd hu hret
end
section
theorem off_Queue : True := by (w_top off; first | walk1 | trivial)
set_option maxRecDepth 100000
set_option maxHeartbeats 2000000
open PySem.Spec PySem.Calls PyProof.V
noncomputable def mcEnt (w : World) (n : String) (t : Tok) (v : Value) : DictEntry := { hash := PyData.keyHash w.params (Str.ofString n), key := .str (Str.ofString n) t, val := v }
set_option hygiene false in
local macro_rules | `(tactic| walk_at "call builtin:list.append") => `(tactic| (k_here; refine Stop.get ?_))
set_option hygiene false in
local macro_rules | `(tactic| walk_at "call builtin:list.pop") => `(tactic| (k_here; refine Stop.get ?_))
end
section
set_option maxRecDepth 100000
set_option maxHeartbeats 1000000
namespace Rx
open PySem.Builtin.Re PySem.Calls PyProof.Rows.LCg
/- a compiled pattern as it lies -/
structure Pat (h : Heap) (P C : Addr) (code : Array Nat) : Prop where
  pat : ∃ oP p0 p1, h.get? P = some oP ∧ oP.cls = .type "re.Pattern" ∧ oP.data = .fields #[p0, p1, .int 0 0, .none, .none, .ref C, .int 0 0]
  cod : ∃ oC cv n, h.get? C = some oC ∧ oC.data = .seq cv n ∧ (cv.map reRawOf).map (·.toNat) = code
theorem Pat.keep {h h' : Heap} {P C : Addr} {code : Array Nat} (p : Pat h P C code) (k : ∀ b o, h.get? b = some o → h'.get? b = some o) : Pat h' P C code := by
  obtain ⟨⟨oP, p0, p1, e, c, d⟩, ⟨oC, cv, n, e', d', m⟩⟩ := p
  exact ⟨⟨oP, p0, p1, k _ _ e, c, d⟩, ⟨oC, cv, n, k _ _ e', d', m⟩⟩
section
variable {M : Model} {A : Around} {E : Value → Shared → Prop} {s : Shared} {P C : Addr} {code : Array Nat} {x : Str} {t : Tok}
theorem whole_any {Q : ReTarget → Shared → Prop} (p : Pat s.heap P C code) (h : Q ⟨.ref P, .str x t, code, x.cps, 0, 0, 0, x.cps.size⟩ s) : wpAny M A (reWholeTarget (.ref P) (.str x t)) Q E s := by
  obtain ⟨⟨oP, p0, p1, e, c, d⟩, ⟨oC, cv, n, e', d', m⟩⟩ := p
  unfold reWholeTarget
  refine wpAny_bind (wpAny_fieldsOf e d ?_)
  refine wpAny_bind (m := reTextOf (.str x t)) (wpAny_of_eq (a := (x.cps, 0)) rfl ?_)
  show wpAny _ _ (reNoCollectionInside (.str x t) 0 >>= _) _ _ s
  refine wpAny_bind (m := reNoCollectionInside (.str x t) 0) (wpAny_of_eq (a := ()) rfl ?_)
  show wpAny _ _ (reRawItems (.ref C) >>= _) _ _ s
  refine wpAny_bind ?_
  unfold reRawItems
  refine wpAny_bind (wpAny_seqItems e' d' ?_)
  refine wpAny_pure (wpAny_pure ?_)
  show Q ⟨.ref P, .str x t, (cv.map reRawOf).map (·.toNat), x.cps, 0, 0, 0, x.cps.size⟩ s
  rw [m]
  exact h
theorem push_any {D : Addr} {ys : List Value} {y : Value} {Q : Unit → Shared → Prop} {n : Nat} (hD : s.heap.get? D = some (listOf ys.toArray n)) (hsz : ys.length ≤ 100000)
    (h : ∀ h' n', h'.get? D = some (listOf (ys ++ [y]).toArray n') → (∀ b o, b ≠ D → s.heap.get? b = some o → h'.get? b = some o) → Q () { s with heap := h' }) : wpAny M A (updateSeq D (·.push y)) Q E s := by
  have hg : ∃ n', (s.heap.update D (Obj.mapSeq (·.push y))).get? D = some (listOf (ys ++ [y]).toArray n') := by
    refine ⟨_, (Heap.get?_update_self _ hD rfl).trans (congrArg some (?_ : _ = listOf (ys ++ [y]).toArray (n + ((ys.toArray.push y).size - ys.toArray.size)))) ⟩
    rw [← List.push_toArray]
    show ({ cls := .type "list", data := .seq _ _ } : Obj) = _
    first | rfl | simp [Array.size_push]
  obtain ⟨n', hg⟩ := hg
  exact wpAny_updateSeq hD rfl (h _ n' hg fun b o hb e => (Heap.get?_update_ne _ _ _ _ hb).trans e) (by rw [List.size_toArray, sizeLine_eq]; omega) (by show (ys.toArray.push y).size ≤ sizeLine + 1; rw [Array.size_push, List.size_toArray, sizeLine_eq]; omega)
theorem slice_any {x : Array Nat} {b e : Nat} {Q : Value → Shared → Prop} (hsz : x.size ≤ 100000) (h : ∀ t', Q (.str ⟨x.extract b e⟩ t') { s with toks := s.toks + 1 }) : wpAny M A (reSlice x 0 b e) Q E s := by
  unfold reSlice
  rw [if_pos (by decide)]
  exact wpAny_mkStr (h _) (by show (x.extract b e).size ≤ sizeLine; rw [Array.size_extract, sizeLine_eq]; omega)
end
/- what the search of a pattern finds in a text -/
structure Finds (code text : Array Nat) (nxt : Nat → Option (Nat × Nat)) : Prop where
  ok : ∀ d p e, nxt d = some (p, e) → d ≤ p ∧ p < e ∧ e ≤ text.size
  run : ∀ d must, d ≤ text.size → ∃ k m, k ≤ 1000 ∧ Sre.M.runFor k (Sre.forSearch code text 0 d text.size must) = m ∧ (match nxt d with | some (p, e) => m.outcome = some .matched ∧ m.start = p ∧ m.handed = e | none => m.outcome = some .failed)
/- the pieces from d on -/
noncomputable def pcs (x r : Str) (nxt : Nat → Option (Nat × Nat)) : Nat → Nat → List Str
  | 0, _ => []
  | f + 1, d => match nxt d with
    | some (p, e) => (if d < p then [⟨x.cps.extract d p⟩] else []) ++ r :: pcs x r nxt f e
    | none => if d < x.cps.size then [⟨x.cps.extract d x.cps.size⟩] else []
theorem pcs_s {x r : Str} {nxt : Nat → Option (Nat × Nat)} {f d : Nat} : pcs x r nxt (f + 1) d = match nxt d with
    | some (p, e) => (if d < p then [⟨x.cps.extract d p⟩] else []) ++ r :: pcs x r nxt f e
    | none => if d < x.cps.size then [⟨x.cps.extract d x.cps.size⟩] else [] := rfl
theorem pcs_some {x r : Str} {nxt : Nat → Option (Nat × Nat)} {f d p e : Nat} (h : nxt d = some (p, e)) : pcs x r nxt (f + 1) d = (if d < p then [⟨x.cps.extract d p⟩] else []) ++ r :: pcs x r nxt f e := by
  rewrite [pcs_s]
  rw [h]
theorem pcs_none {x r : Str} {nxt : Nat → Option (Nat × Nat)} {f d : Nat} (h : nxt d = none) : pcs x r nxt (f + 1) d = if d < x.cps.size then [⟨x.cps.extract d x.cps.size⟩] else [] := by
  rewrite [pcs_s]
  rw [h]
theorem entry_loop : entryFor table "re.Pattern.sub.loop" = some Builtin.«re.Pattern.sub.loop» := entryFor_of_tree (by kernel_rfl)
theorem loop_quiet (args : Args) : (Code.builtin "re.Pattern.sub.loop" args).quiet = true := Code.quiet_builtin _ (by decide +kernel)
theorem Pat.but {h h' : Heap} {P C D : Addr} {code : Array Nat} (p : Pat h P C code) (hP : P ≠ D) (hC : C ≠ D) (k : ∀ b o, b ≠ D → h.get? b = some o → h'.get? b = some o) : Pat h' P C code := by
  obtain ⟨⟨oP, p0, p1, e, c, d⟩, ⟨oC, cv, n, e', d', m⟩⟩ := p
  exact ⟨⟨oP, p0, p1, k _ _ hP e, c, d⟩, ⟨oC, cv, n, k _ _ hC e', d', m⟩⟩
section
variable {prog : Program} {w : World} {A : Around} {x r : Str} {tx tr : Tok} {P C D : Addr} {code : Array Nat} {nxt : Nat → Option (Nat × Nat)}
theorem loop_any (hF : Finds code x.cps nxt) (hx : x.length ≤ 300) (hr : r.length ≤ 2) (hPD : P ≠ D) (hCD : C ≠ D) : ∀ (f d : Nat) (ss : List Str) (vs : List Value) (n : Nat) (cnt : Int) (s : Shared) (R : Result → Shared → Prop),
    Pat s.heap P C code → s.heap.get? D = some (listOf vs.toArray n) → StrsAre vs ss → (∀ y ∈ ss, y.length ≤ 300) → d ≤ x.cps.size → x.cps.size - d < f → vs.length ≤ 2 * d →
    (∀ h' tk t', (∀ b o, b ≠ D → s.heap.get? b = some o → h'.get? b = some o) → R (.ok (.ret (.str (Txt.join Str.empty (ss ++ pcs x r nxt f d)) t'))) { s with heap := h', toks := tk }) →
    codeAny (model prog w) A (.builtin "re.Pattern.sub.loop" ⟨[.ref P, .str x tx, .str r tr, rawInt 0, rawInt 0, rawInt cnt, rawInt d, rawInt d, .bool false, .ref D, .bool false], []⟩) R s := by
  intro f
  induction f with
  | zero => intro d ss vs n cnt s R _ _ _ _ _ hf; omega
  | succ f ih =>
  intro d ss vs n cnt s R hP hD hS hw hd hf hv hR
  have hx' : x.cps.size ≤ 300 := hx
  refine codeAny_builtin entry_loop ?_
  rw [Around.under_plainId (by decide +kernel)]
  unfold Builtin.«re.Pattern.sub.loop»
  show wpAny _ _ (reWholeTarget (.ref P) (.str x tx) >>= _) _ _ s
  refine wpAny_bind (whole_any hP ?_)
  show wpAny _ _ (reLiteralCannotBeTurned (.str r tr) >>= _) _ _ s
  refine wpAny_bind (m := reLiteralCannotBeTurned (.str r tr)) (wpAny_of_eq (a := ()) rfl ?_)
  show wpAny _ _ (reNextFound ⟨.ref P, .str x tx, code, x.cps, 0, 0, 0, x.cps.size⟩ (d : Int).toNat false >>= _) _ _ s
  rw [Int.toNat_natCast]
  obtain ⟨k, m, hk, hm, hfound⟩ := hF.run d false hd
  refine wpAny_bind (runEnd_any hk hm ?_)
  cases hn : nxt d with
  | some pe =>
    obtain ⟨p, e⟩ := pe
    rw [hn] at hfound
    obtain ⟨ho, hst, hhd⟩ := hfound
    obtain ⟨o1, o2, o3⟩ := hF.ok _ _ _ hn
    refine .inl ⟨ho, ?_⟩
    dsimp only
    rw [hst, hhd]
    have hmust : (e == p) = false := beq_eq_false_iff_ne.mpr (by omega)
    rw [hmust]
    have hne : (Value.str r tr != Value.none) = true := rfl
    have go : ∀ (s' : Shared) (vs' : List Value) (ss' : List Str) (n' : Nat), s'.gens = s.gens → s'.drawn = s.drawn → s'.os = s.os → (∀ b o, b ≠ D → s.heap.get? b = some o → s'.heap.get? b = some o) → s'.heap.get? D = some (listOf vs'.toArray n') → StrsAre vs' ss' → (∀ y ∈ ss', y.length ≤ 300) → vs'.length + 1 ≤ 2 * e →
        ss' ++ r :: pcs x r nxt f e = ss ++ pcs x r nxt (f + 1) d →
        wpAny (model prog w) A.in1 (updateSeq D (·.push (.str r tr)) >>= fun _ => again (Code.builtin "re.Pattern.sub.loop" ⟨[.ref P, .str x tx, .str r tr, rawInt 0, rawInt 0, rawInt (cnt + 1), rawInt e, rawInt e, .bool false, .ref D, .bool false], []⟩))
          (fun fin s' => match fin with | Fin.done f => R (Except.ok f) s' | Fin.again c' => c'.quiet = true ∧ codeAny (model prog w) A c' R s') (fun e s' => R (Except.error e) s') s' := by
      intro s' vs' ss' n' hgn hdr hos hk' hD' hS' hw' hv' hcat
      refine wpAny_bind (push_any hD' (by omega) fun h₁ n₁ hD₁ hk₁ => ?_)
      show wpAny _ _ (pure (Fin.again _)) _ _ _
      refine wpAny_pure ⟨loop_quiet _, ?_⟩
      have hk2 : ∀ b o, b ≠ D → s.heap.get? b = some o → h₁.get? b = some o := fun b o hb e' => hk₁ b o hb (hk' b o hb e')
      refine ih e (ss' ++ [r]) (vs' ++ [.str r tr]) n₁ (cnt + 1) _ R (hP.but hPD hCD hk2) hD₁ (hS'.append' (.cons _ _ .nil)) ?_ o3 (by omega) (by rw [List.length_append, List.length_singleton]; exact hv') ?_
      · intro y hy
        rcases List.mem_append.mp hy with hy | hy
        · exact hw' y hy
        · rw [List.mem_singleton.mp hy]; omega
      · intro h₂ tk t' hk₂
        rw [List.append_assoc]
        show R (.ok (.ret (.str (Txt.join Str.empty (ss' ++ r :: pcs x r nxt f e)) t'))) _
        rw [hcat, hgn, hdr, hos]
        exact hR h₂ tk t' fun b o hb e' => hk₂ b o hb (hk2 b o hb e')
    by_cases hlt : d < p
    · rw [if_pos hlt]
      refine wpAny_bind (slice_any (by omega) fun t' => ?_)
      refine wpAny_bind (push_any hD (by omega) fun h₁ n₁ hD₁ hk₁ => ?_)
      refine go _ (vs ++ [.str ⟨x.cps.extract d p⟩ t']) (ss ++ [⟨x.cps.extract d p⟩]) n₁ rfl rfl rfl hk₁ hD₁ (hS.append' (.cons _ _ .nil)) ?_ (by rw [List.length_append, List.length_singleton]; omega) ?_
      · intro y hy
        rcases List.mem_append.mp hy with hy | hy
        · exact hw y hy
        · rw [List.mem_singleton.mp hy]
          show (x.cps.extract d p).size ≤ 300
          rw [Array.size_extract]; omega
      · rw [pcs_some hn, if_pos hlt, List.append_assoc]
    · rw [if_neg hlt]
      refine go s vs ss n rfl rfl rfl (fun _ _ _ e' => e') hD hS hw (by omega) ?_
      rw [pcs_some hn, if_neg hlt]; rfl
  | none =>
    rw [hn] at hfound
    refine .inr ⟨hfound, ?_⟩
    dsimp only
    have fin : ∀ (s' : Shared) (vs' : List Value) (ss' : List Str) (n' : Nat), s'.gens = s.gens → s'.drawn = s.drawn → s'.os = s.os → (∀ b o, b ≠ D → s.heap.get? b = some o → s'.heap.get? b = some o) → s'.heap.get? D = some (listOf vs'.toArray n') → StrsAre vs' ss' → (∀ y ∈ ss', y.length ≤ 300) → vs'.length ≤ 1000 →
        ss' = ss ++ pcs x r nxt (f + 1) d →
        wpAny (model prog w) A.in1 (do
          let joiner ← reSlice x.cps 0 0 0
          let l ← seqItems? (.ref D)
          if (l.getD #[]).isEmpty = true then ret joiner
          else do
            let text ← call (.builtin "str.join") [joiner, .ref D]
            ret text)
          (fun fin s' => match fin with | Fin.done f => R (Except.ok f) s' | Fin.again c' => c'.quiet = true ∧ codeAny (model prog w) A c' R s') (fun e s' => R (Except.error e) s') s' := by
      intro s' vs' ss' n' hgn hdr hos hk' hD' hS' hw' hv' hcat
      refine wpAny_bind (slice_any (by omega) fun t' => ?_)
      refine wpAny_bind (wpAny_seqItems hD' rfl ?_)
      have hemp : (⟨x.cps.extract 0 0⟩ : Str) = Str.empty := by
        rw [Array.extract_eq_empty_of_le (Nat.zero_le _)]; rfl
      rw [hemp]
      have hwt : (ss'.map (·.length)).sum ≤ 300 * ss'.length := by
        clear hcat hS'
        induction ss' with
        | nil => exact Nat.le_refl _
        | cons a l ih2 =>
          rw [List.map_cons, List.sum_cons, List.length_cons]
          have := ih2 fun y hy => hw' y (.tail _ hy)
          have := hw' a (.head _)
          omega
      have hlen := hS'.length
      cases vs' with
      | nil =>
        cases hS'
        show wpAny _ _ (ret (Value.str Str.empty t')) _ _ _
        refine wpAny_pure ?_
        show R (.ok (.ret (.str Str.empty t'))) _
        have e0 : Str.empty = Txt.join Str.empty (ss ++ pcs x r nxt (f + 1) d) := by rw [← hcat]; rfl
        have hR' := hR s'.heap (s'.toks + 1) t' hk'
        rw [← e0] at hR'
        rw [hgn, hdr, hos]
        exact hR'
      | cons v vs'' =>
        show wpAny _ _ (call (.builtin "str.join") [.str Str.empty t', .ref D] >>= fun text => ret text) _ _ _
        refine wpAny_bind (join_list (items := (v :: vs'').toArray) (ys := ss') ⟨_, hD', rfl, ⟨_, rfl⟩⟩ hS' ?_ fun t2 k2 => ?_)
        · show (ss'.map (·.length)).sum + ss'.length * 0 ≤ 16777216
          omega
        · refine wpAny_pure ?_
          show R (.ok (.ret (.str (Txt.join Str.empty ss') t2))) _
          rw [hcat, hgn, hdr, hos]
          exact hR s'.heap k2 t2 hk'
    by_cases hlt : d < x.cps.size
    · rw [if_pos hlt]
      refine wpAny_bind (slice_any (by omega) fun t' => ?_)
      refine wpAny_bind (push_any hD (by omega) fun h₁ n₁ hD₁ hk₁ => ?_)
      refine fin _ (vs ++ [.str ⟨x.cps.extract d x.cps.size⟩ t']) (ss ++ [⟨x.cps.extract d x.cps.size⟩]) n₁ rfl rfl rfl hk₁ hD₁ (hS.append' (.cons _ _ .nil)) ?_ (by rw [List.length_append, List.length_singleton]; omega) ?_
      · intro y hy
        rcases List.mem_append.mp hy with hy | hy
        · exact hw y hy
        · rw [List.mem_singleton.mp hy]
          show (x.cps.extract d x.cps.size).size ≤ 300
          rw [Array.size_extract]; omega
      · rw [pcs_none hn, if_pos hlt]
    · rw [if_neg hlt]
      refine fin s vs ss n rfl rfl rfl (fun _ _ _ e' => e') hD hS hw (by omega) ?_
      rw [pcs_none hn, if_neg hlt, List.append_nil]
end
end Rx
end
end
section
set_option maxRecDepth 100000
set_option maxHeartbeats 1000000
open PySem.Spec PySem.Calls
theorem typeCall_zip_3 (a b c : Value) : checkTypeCall "zip" ⟨[a, b, c], []⟩ = pure () := by kernel_rfl
theorem newCall_zip_3 (a b c : Value) : checkBuiltinCall "zip.__new__" ⟨[.type "zip", a, b, c], []⟩ = pure () := by kernel_rfl
theorem args_object_init_4 (a b c d : Value) : argsOk "object.__init__" ⟨[a, b, c, d], []⟩ := by
  unfold argsOk; rw [signature?_of (id := "object.__init__") (n := ['_', '_', 't', 'i', 'n', 'i', '_', '_']) (o := ['t', 'c', 'e', 'j', 'b', 'o']) (by kernel_rfl) F.owner_object]; kernel_rfl
noncomputable abbrev IsTrip (h : Heap) (T : Addr) (a b c : Value) : Prop := h.get? T = some { cls := .type "tuple", data := .seq #[a, b, c] }
/- the addresses of a zip of three lists, all apart -/
structure Z3 (z TI TO i1 i2 i3 : Addr) : Prop where
  TIz : TI ≠ z
  TOz : TO ≠ z
  i1z : i1 ≠ z
  i2z : i2 ≠ z
  i3z : i3 ≠ z
  TITO : TI ≠ TO
  TIi1 : TI ≠ i1
  TIi2 : TI ≠ i2
  TIi3 : TI ≠ i3
  TOi1 : TO ≠ i1
  TOi2 : TO ≠ i2
  TOi3 : TO ≠ i3
  i12 : i1 ≠ i2
  i13 : i1 ≠ i3
  i23 : i2 ≠ i3
structure Z3L (z TO i1 i2 i3 l : Addr) : Prop where
  z : l ≠ z
  TO : l ≠ TO
  i1 : l ≠ i1
  i2 : l ≠ i2
  i3 : l ≠ i3
section
variable {prog : Program} {w : World} {A : Around} {E : Value → Shared → Prop} {s : Shared}
theorem seq3_set {T : Addr} {a b c x : Value} {k : Nat} {Q : Unit → Shared → Prop} (hT : IsTrip s.heap T a b c)
    (h : ∀ h', h'.get? T = some { cls := .type "tuple", data := .seq ((#[a, b, c] : Array Value).setIfInBounds k x) } → Heap.SameBut T s.heap h' → Q () { s with heap := h' }) :
    wpAny (model prog w) A (updateSeq T (·.setIfInBounds k x)) Q E s := by
  refine wpAny_updateSeq hT rfl (h _ ?_ (Heap.SameBut.update ..))
  rw [Heap.get?_update_self _ hT rfl]
  simp [Obj.mapSeq]
end
namespace zip3_item
noncomputable def S (prog : Program) (w : World) (A : Around) (E : Value → Shared → Prop) (s : Shared) (z : Addr) (TI : Addr) (TO : Addr) (i1 : Addr) (i2 : Addr) (i3 : Addr) (l1 : Addr) (l2 : Addr) (l3 : Addr) (k : Nat) (xs : Array Value) (ys : Array Value) (zs : Array Value) (x : Value) (y : Value) (u : Value) (a : Value) (b : Value) (c : Value) (Q : Value → Shared → Prop) : Prop :=
  ∀ (D : Z3 z TI TO i1 i2 i3)  (D1 : Z3L z TO i1 i2 i3 l1)  (D2 : Z3L z TO i1 i2 i3 l2)  (D3 : Z3L z TO i1 i2 i3 l3)  (hz : IsZip s.heap z TI TO .none)  (hTI : IsTrip s.heap TI (.ref i1) (.ref i2) (.ref i3))  (hTO : IsTrip s.heap TO a b c)  (h1 : s.heap.IsListIter i1 l1 k)  (h2 : s.heap.IsListIter i2 l2 k)  (h3 : s.heap.IsListIter i3 l3 k)  (hl1 : s.heap.IsList l1 xs)  (hl2 : s.heap.IsList l2 ys)  (hl3 : s.heap.IsList l3 zs)  (hx : xs[k]? = some x)  (hy : ys[k]? = some y)  (hu : zs[k]? = some u)  (hQ : ∀ h', IsZip h' z TI TO (rawInt s.heap.objs.size) → IsTrip h' TO x y u → h'.IsListIter i1 l1 (k + 1) → h'.IsListIter i2 l2 (k + 1) → h'.IsListIter i3 l3 (k + 1) → IsTrip h' s.heap.objs.size x y u →
      (∀ c o, c ≠ z → c ≠ TO → c ≠ i1 → c ≠ i2 → c ≠ i3 → s.heap.get? c = some o → h'.get? c = some o) → Q (.ref s.heap.objs.size) { s with heap := h' }),
    wpAny (model prog w) A (Builtin.«zip.__next__» ⟨[.ref z], []⟩) (fun fin s' => ∃ v, fin = .done (.ret v) ∧ Q v s') E s
theorem c₁ : Nonempty {t : Program × World × Around × (Value → Shared → Prop) × Shared × Addr × Addr × Addr × Addr × Addr × Addr × Addr × Addr × Addr × Nat × (Array Value) × (Array Value) × (Array Value) × Value × Value × Value × Value × Value × Value × (Value → Shared → Prop) // S t.1 t.2.1 t.2.2.1 t.2.2.2.1 t.2.2.2.2.1 t.2.2.2.2.2.1 t.2.2.2.2.2.2.1 t.2.2.2.2.2.2.2.1 t.2.2.2.2.2.2.2.2.1 t.2.2.2.2.2.2.2.2.2.1 t.2.2.2.2.2.2.2.2.2.2.1 t.2.2.2.2.2.2.2.2.2.2.2.1 t.2.2.2.2.2.2.2.2.2.2.2.2.1 t.2.2.2.2.2.2.2.2.2.2.2.2.2.1 t.2.2.2.2.2.2.2.2.2.2.2.2.2.2.1 t.2.2.2.2.2.2.2.2.2.2.2.2.2.2.2.1 t.2.2.2.2.2.2.2.2.2.2.2.2.2.2.2.2.1 t.2.2.2.2.2.2.2.2.2.2.2.2.2.2.2.2.2.1 t.2.2.2.2.2.2.2.2.2.2.2.2.2.2.2.2.2.2.1 t.2.2.2.2.2.2.2.2.2.2.2.2.2.2.2.2.2.2.2.1 t.2.2.2.2.2.2.2.2.2.2.2.2.2.2.2.2.2.2.2.2.1 t.2.2.2.2.2.2.2.2.2.2.2.2.2.2.2.2.2.2.2.2.2.1 t.2.2.2.2.2.2.2.2.2.2.2.2.2.2.2.2.2.2.2.2.2.2.1 t.2.2.2.2.2.2.2.2.2.2.2.2.2.2.2.2.2.2.2.2.2.2.2.1 t.2.2.2.2.2.2.2.2.2.2.2.2.2.2.2.2.2.2.2.2.2.2.2.2 → ∀ t : Program × World × Around × (Value → Shared → Prop) × Shared × Addr × Addr × Addr × Addr × Addr × Addr × Addr × Addr × Addr × Nat × (Array Value) × (Array Value) × (Array Value) × Value × Value × Value × Value × Value × Value × (Value → Shared → Prop), S t.1 t.2.1 t.2.2.1 t.2.2.2.1 t.2.2.2.2.1 t.2.2.2.2.2.1 t.2.2.2.2.2.2.1 t.2.2.2.2.2.2.2.1 t.2.2.2.2.2.2.2.2.1 t.2.2.2.2.2.2.2.2.2.1 t.2.2.2.2.2.2.2.2.2.2.1 t.2.2.2.2.2.2.2.2.2.2.2.1 t.2.2.2.2.2.2.2.2.2.2.2.2.1 t.2.2.2.2.2.2.2.2.2.2.2.2.2.1 t.2.2.2.2.2.2.2.2.2.2.2.2.2.2.1 t.2.2.2.2.2.2.2.2.2.2.2.2.2.2.2.1 t.2.2.2.2.2.2.2.2.2.2.2.2.2.2.2.2.1 t.2.2.2.2.2.2.2.2.2.2.2.2.2.2.2.2.2.1 t.2.2.2.2.2.2.2.2.2.2.2.2.2.2.2.2.2.2.1 t.2.2.2.2.2.2.2.2.2.2.2.2.2.2.2.2.2.2.2.1 t.2.2.2.2.2.2.2.2.2.2.2.2.2.2.2.2.2.2.2.2.1 t.2.2.2.2.2.2.2.2.2.2.2.2.2.2.2.2.2.2.2.2.2.1 t.2.2.2.2.2.2.2.2.2.2.2.2.2.2.2.2.2.2.2.2.2.2.1 t.2.2.2.2.2.2.2.2.2.2.2.2.2.2.2.2.2.2.2.2.2.2.2.1 t.2.2.2.2.2.2.2.2.2.2.2.2.2.2.2.2.2.2.2.2.2.2.2.2} := eps_ex ⟨(default, ⟨fun _ _ => 0, { strHash := fun _ => 0, shareClass := fun _ => 0, mergeTok := fun _ => default, idOf := fun _ => 0, idOfShared := fun _ _ => 0, followText := fun _ => true, idOfImm := fun _ => 0 }⟩, {}, default, {}, default, default, default, default, default, default, default, default, default, default, default, default, default, default, default, default, default, default, default, default)⟩ fun t => S t.1 t.2.1 t.2.2.1 t.2.2.2.1 t.2.2.2.2.1 t.2.2.2.2.2.1 t.2.2.2.2.2.2.1 t.2.2.2.2.2.2.2.1 t.2.2.2.2.2.2.2.2.1 t.2.2.2.2.2.2.2.2.2.1 t.2.2.2.2.2.2.2.2.2.2.1 t.2.2.2.2.2.2.2.2.2.2.2.1 t.2.2.2.2.2.2.2.2.2.2.2.2.1 t.2.2.2.2.2.2.2.2.2.2.2.2.2.1 t.2.2.2.2.2.2.2.2.2.2.2.2.2.2.1 t.2.2.2.2.2.2.2.2.2.2.2.2.2.2.2.1 t.2.2.2.2.2.2.2.2.2.2.2.2.2.2.2.2.1 t.2.2.2.2.2.2.2.2.2.2.2.2.2.2.2.2.2.1 t.2.2.2.2.2.2.2.2.2.2.2.2.2.2.2.2.2.2.1 t.2.2.2.2.2.2.2.2.2.2.2.2.2.2.2.2.2.2.2.1 t.2.2.2.2.2.2.2.2.2.2.2.2.2.2.2.2.2.2.2.2.1 t.2.2.2.2.2.2.2.2.2.2.2.2.2.2.2.2.2.2.2.2.2.1 t.2.2.2.2.2.2.2.2.2.2.2.2.2.2.2.2.2.2.2.2.2.2.1 t.2.2.2.2.2.2.2.2.2.2.2.2.2.2.2.2.2.2.2.2.2.2.2.1 t.2.2.2.2.2.2.2.2.2.2.2.2.2.2.2.2.2.2.2.2.2.2.2.2
noncomputable def c₀ : Program × World × Around × (Value → Shared → Prop) × Shared × Addr × Addr × Addr × Addr × Addr × Addr × Addr × Addr × Addr × Nat × (Array Value) × (Array Value) × (Array Value) × Value × Value × Value × Value × Value × Value × (Value → Shared → Prop) := (Classical.choice c₁).val
noncomputable def prog : Program := c₀.1
noncomputable def w : World := c₀.2.1
noncomputable def A : Around := c₀.2.2.1
noncomputable def E : Value → Shared → Prop := c₀.2.2.2.1
noncomputable def s : Shared := c₀.2.2.2.2.1
noncomputable def z : Addr := c₀.2.2.2.2.2.1
noncomputable def TI : Addr := c₀.2.2.2.2.2.2.1
noncomputable def TO : Addr := c₀.2.2.2.2.2.2.2.1
noncomputable def i1 : Addr := c₀.2.2.2.2.2.2.2.2.1
noncomputable def i2 : Addr := c₀.2.2.2.2.2.2.2.2.2.1
noncomputable def i3 : Addr := c₀.2.2.2.2.2.2.2.2.2.2.1
noncomputable def l1 : Addr := c₀.2.2.2.2.2.2.2.2.2.2.2.1
noncomputable def l2 : Addr := c₀.2.2.2.2.2.2.2.2.2.2.2.2.1
noncomputable def l3 : Addr := c₀.2.2.2.2.2.2.2.2.2.2.2.2.2.1
noncomputable def k : Nat := c₀.2.2.2.2.2.2.2.2.2.2.2.2.2.2.1
noncomputable def xs : Array Value := c₀.2.2.2.2.2.2.2.2.2.2.2.2.2.2.2.1
noncomputable def ys : Array Value := c₀.2.2.2.2.2.2.2.2.2.2.2.2.2.2.2.2.1
noncomputable def zs : Array Value := c₀.2.2.2.2.2.2.2.2.2.2.2.2.2.2.2.2.2.1
noncomputable def x : Value := c₀.2.2.2.2.2.2.2.2.2.2.2.2.2.2.2.2.2.2.1
noncomputable def y : Value := c₀.2.2.2.2.2.2.2.2.2.2.2.2.2.2.2.2.2.2.2.1
noncomputable def u : Value := c₀.2.2.2.2.2.2.2.2.2.2.2.2.2.2.2.2.2.2.2.2.1
noncomputable def a : Value := c₀.2.2.2.2.2.2.2.2.2.2.2.2.2.2.2.2.2.2.2.2.2.1
noncomputable def b : Value := c₀.2.2.2.2.2.2.2.2.2.2.2.2.2.2.2.2.2.2.2.2.2.2.1
noncomputable def c : Value := c₀.2.2.2.2.2.2.2.2.2.2.2.2.2.2.2.2.2.2.2.2.2.2.2.1
noncomputable def Q : Value → Shared → Prop := c₀.2.2.2.2.2.2.2.2.2.2.2.2.2.2.2.2.2.2.2.2.2.2.2.2
theorem main : S prog w A E s z TI TO i1 i2 i3 l1 l2 l3 k xs ys zs x y u a b c Q := by
  unfold S
  intro D D1 D2 D3 hz hTI hTO h1 h2 h3 hl1 hl2 hl3 hx hy hu hQ
  show wpAny _ _ (field (.ref z) 2 >>= _) _ _ _
  refine wpAny_bind (wpAny_field hz rfl (x := .bool false) rfl ?_)
  show wpAny _ _ (field (.ref z) 3 >>= _) _ _ _
  refine wpAny_bind (wpAny_field hz rfl (x := .ref TI) rfl ?_)
  refine wpAny_bind (wpAny_seqItems hTI rfl ?_)
  show wpAny _ _ (Builtin.SmallTypes.ownedTupleIsFree (.ref z) >>= _) _ _ _
  refine wpAny_bind ?_
  unfold Builtin.SmallTypes.ownedTupleIsFree
  refine wpAny_bind (wpAny_field hz rfl (x := .none) rfl (wpAny_pure ?_))
  rw [if_pos rfl]
  refine wpAny_bind (wpAny_rule ?_)
  refine wpAny_bind (wpAny_field hz rfl (x := .ref TO) rfl ?_)
  refine wpAny_bind (wpAny_setField_rec hz (by simp) fun g₁ z₁ s₁ => ?_)
  replace z₁ : IsZip g₁ z TI TO .ellipsis := z₁
  refine wpAny_bind ?_
  rw [List.zipIdx_cons, List.zipIdx_cons, List.zipIdx_cons, List.zipIdx_nil, List.forIn_cons]
  have T₁ : IsTrip g₁ TO a b c := s₁.extBut _ _ D.TOz hTO
  refine wpAny_bind (wpAny_bind (wpAny_onRaise ?_))
  show wpAny _ _ (Builtin.SmallTypes.nextOf (.ref i1) >>= _) _ _ _
  refine wpAny_bind (wpAny_nextOf_list_item (h1.extBut s₁.extBut D.i1z) (hl1.extBut s₁.extBut D1.z) hx fun g₂ p1 s₂ => wpAny_pure ?_)
  have T₂ : IsTrip g₂ TO a b c := s₂.extBut _ _ D.TOi1 T₁
  refine wpAny_bind (wpAny_seqItems T₂ rfl ?_)
  refine wpAny_bind (seq3_set T₂ fun g₃ T₃ s₃ => ?_)
  replace T₃ : IsTrip g₃ TO x b c := T₃
  refine wpAny_bind (wpAny_letGo (wpAny_pure ?_))
  refine wpAny_bind (wpAny_bind (wpAny_onRaise ?_))
  show wpAny _ _ (Builtin.SmallTypes.nextOf (.ref i2) >>= _) _ _ _
  refine wpAny_bind (wpAny_nextOf_list_item (((h2.extBut s₁.extBut D.i2z).extBut s₂.extBut D.i12.symm).extBut s₃.extBut D.TOi2.symm)
    (((hl2.extBut s₁.extBut D2.z).extBut s₂.extBut D2.i1).extBut s₃.extBut D2.TO) hy fun g₄ p2 s₄ => wpAny_pure ?_)
  have T₄ : IsTrip g₄ TO x b c := s₄.extBut _ _ D.TOi2 T₃
  refine wpAny_bind (wpAny_seqItems T₄ rfl ?_)
  refine wpAny_bind (seq3_set T₄ fun g₅ T₅ s₅ => ?_)
  replace T₅ : IsTrip g₅ TO x y c := T₅
  refine wpAny_bind (wpAny_letGo (wpAny_pure ?_))
  refine wpAny_bind (wpAny_bind (wpAny_onRaise ?_))
  show wpAny _ _ (Builtin.SmallTypes.nextOf (.ref i3) >>= _) _ _ _
  refine wpAny_bind (wpAny_nextOf_list_item (((((h3.extBut s₁.extBut D.i3z).extBut s₂.extBut D.i13.symm).extBut s₃.extBut D.TOi3.symm).extBut s₄.extBut D.i23.symm).extBut s₅.extBut D.TOi3.symm)
    (((((hl3.extBut s₁.extBut D3.z).extBut s₂.extBut D3.i1).extBut s₃.extBut D3.TO).extBut s₄.extBut D3.i2).extBut s₅.extBut D3.TO) hu fun g₆ p3 s₆ => wpAny_pure ?_)
  have T₆ : IsTrip g₆ TO x y c := s₆.extBut _ _ D.TOi3 T₅
  refine wpAny_bind (wpAny_seqItems T₆ rfl ?_)
  refine wpAny_bind (seq3_set T₆ fun g₇ T₇ s₇ => ?_)
  replace T₇ : IsTrip g₇ TO x y u := T₇
  refine wpAny_bind (wpAny_letGo (wpAny_pure (wpAny_pure ?_)))
  refine wpAny_bind (wpAny_seqItems T₇ rfl ?_)
  refine wpAny_bind (wpAny_newTuple ?_)
  have hsz : g₇.objs.size = s.heap.objs.size := by rw [s₇.1, s₆.1, s₅.1, s₄.1, s₃.1, s₂.1, s₁.1]
  have z₇ : IsZip g₇ z TI TO .ellipsis := s₇.extBut _ _ D.TOz.symm (s₆.extBut _ _ D.i3z.symm (s₅.extBut _ _ D.TOz.symm (s₄.extBut _ _ D.i2z.symm (s₃.extBut _ _ D.TOz.symm (s₂.extBut _ _ D.i1z.symm z₁)))))
  have k₇ : ∀ c o, c ≠ z → c ≠ TO → c ≠ i1 → c ≠ i2 → c ≠ i3 → s.heap.get? c = some o → g₇.get? c = some o := fun c o c1 c2 c3 c4 c5 e =>
    s₇.extBut _ _ c2 (s₆.extBut _ _ c5 (s₅.extBut _ _ c2 (s₄.extBut _ _ c4 (s₃.extBut _ _ c2 (s₂.extBut _ _ c3 (s₁.extBut _ _ c1 e))))))
  have q1 : g₇.IsListIter i1 l1 (k + 1) := ((((p1.extBut s₃.extBut D.TOi1.symm).extBut s₄.extBut D.i12).extBut s₅.extBut D.TOi1.symm).extBut s₆.extBut D.i13).extBut s₇.extBut D.TOi1.symm
  have q2 : g₇.IsListIter i2 l2 (k + 1) := ((p2.extBut s₅.extBut D.TOi2.symm).extBut s₆.extBut D.i23).extBut s₇.extBut D.TOi2.symm
  have q3 : g₇.IsListIter i3 l3 (k + 1) := p3.extBut s₇.extBut D.TOi3.symm
  have zlt : z < g₇.objs.size := Heap.lt_size z₇
  show wpAny _ _ (Builtin.SmallTypes.ownedTupleHandOut (.ref z) (.ref g₇.objs.size) >>= _) _ _ _
  refine wpAny_bind ?_
  unfold Builtin.SmallTypes.ownedTupleHandOut
  have z₈ : IsZip (g₇.push { cls := .type "tuple", data := .seq #[x, y, u] }) z TI TO .ellipsis := Heap.get?_push_of_some _ z₇
  refine wpAny_bind (wpAny_setField_rec z₈ (by simp) fun g₉ z₉ s₉ => ?_)
  replace z₉ : IsZip g₉ z TI TO (rawInt g₇.objs.size) := z₉
  refine wpAny_setField_rec z₉ (by simp) fun g₁₀ z₁₀ s₁₀ => ?_
  replace z₁₀ : IsZip g₁₀ z TI TO (rawInt g₇.objs.size) := z₁₀
  have up : ∀ c o, c ≠ z → g₇.get? c = some o → g₁₀.get? c = some o := fun c o c1 e => s₁₀.extBut _ _ c1 (s₉.extBut _ _ c1 (Heap.get?_push_of_some _ e))
  have T₁₀ : IsTrip g₁₀ g₇.objs.size x y u := s₁₀.extBut _ _ (Nat.ne_of_gt zlt) (s₉.extBut _ _ (Nat.ne_of_gt zlt) (Heap.get?_push_size _ rfl))
  rw [hsz] at z₁₀ T₁₀
  refine wpAny_pure ⟨_, rfl, ?_⟩
  show Q (.ref g₇.objs.size) _
  rw [hsz]
  exact hQ g₁₀ z₁₀ (up _ _ D.TOz T₇) (q1.at fun o e => up _ o D.i1z e) (q2.at fun o e => up _ o D.i2z e) (q3.at fun o e => up _ o D.i3z e) T₁₀ fun c o c1 c2 c3 c4 c5 e => up c o c1 (k₇ c o c1 c2 c3 c4 c5 e)
end zip3_item
theorem zip3_item {prog : Program} {w : World} {A : Around} {E : Value → Shared → Prop} {s : Shared} {z TI TO i1 i2 i3 l1 l2 l3 : Addr} {k : Nat} {xs ys zs : Array Value} {x y u a b c : Value} {Q : Value → Shared → Prop} (D : Z3 z TI TO i1 i2 i3) (D1 : Z3L z TO i1 i2 i3 l1) (D2 : Z3L z TO i1 i2 i3 l2) (D3 : Z3L z TO i1 i2 i3 l3)
    (hz : IsZip s.heap z TI TO .none) (hTI : IsTrip s.heap TI (.ref i1) (.ref i2) (.ref i3)) (hTO : IsTrip s.heap TO a b c)
    (h1 : s.heap.IsListIter i1 l1 k) (h2 : s.heap.IsListIter i2 l2 k) (h3 : s.heap.IsListIter i3 l3 k) (hl1 : s.heap.IsList l1 xs) (hl2 : s.heap.IsList l2 ys) (hl3 : s.heap.IsList l3 zs)
    (hx : xs[k]? = some x) (hy : ys[k]? = some y) (hu : zs[k]? = some u)
    (hQ : ∀ h', IsZip h' z TI TO (rawInt s.heap.objs.size) → IsTrip h' TO x y u → h'.IsListIter i1 l1 (k + 1) → h'.IsListIter i2 l2 (k + 1) → h'.IsListIter i3 l3 (k + 1) → IsTrip h' s.heap.objs.size x y u →
      (∀ c o, c ≠ z → c ≠ TO → c ≠ i1 → c ≠ i2 → c ≠ i3 → s.heap.get? c = some o → h'.get? c = some o) → Q (.ref s.heap.objs.size) { s with heap := h' }) :
    wpAny (model prog w) A (Builtin.«zip.__next__» ⟨[.ref z], []⟩) (fun fin s' => ∃ v, fin = .done (.ret v) ∧ Q v s') E s :=
  (Classical.choice zip3_item.c₁).property zip3_item.main (prog, w, A, E, s, z, TI, TO, i1, i2, i3, l1, l2, l3, k, xs, ys, zs, x, y, u, a, b, c, Q) D D1 D2 D3 hz hTI hTO h1 h2 h3 hl1 hl2 hl3 hx hy hu hQ
section
variable {prog : Program} {w : World} {A : Around} {E : Value → Shared → Prop} {s : Shared}
end
namespace zip3_end
noncomputable def S (prog : Program) (w : World) (A : Around) (E : Value → Shared → Prop) (s : Shared) (z : Addr) (TI : Addr) (TO : Addr) (i1 : Addr) (i2 : Addr) (i3 : Addr) (l1 : Addr) (l2 : Addr) (k : Nat) (xs : Array Value) (ys : Array Value) (a : Value) (b : Value) (c : Value) (Q : Fin → Shared → Prop) : Prop :=
  ∀ (hh : A.handled = none)  (D : Z3 z TI TO i1 i2 i3)  (D1 : Z3L z TO i1 i2 i3 l1)  (D2 : Z3L z TO i1 i2 i3 l2)  (hz : IsZip s.heap z TI TO .none)  (hTI : IsTrip s.heap TI (.ref i1) (.ref i2) (.ref i3))  (hTO : IsTrip s.heap TO a b c)  (h1 : s.heap.IsListIter i1 l1 k)  (h2 : s.heap.IsListIter i2 l2 k)  (hl1 : s.heap.IsList l1 xs)  (hl2 : s.heap.IsList l2 ys)  (hend : xs[k]? = none ∨ ys[k]? = none)  (hE : ∀ h' e, (∀ c o, c ≠ z → c ≠ TO → c ≠ i1 → c ≠ i2 → c ≠ i3 → s.heap.get? c = some o → h'.get? c = some o) → (∃ o, h'.get? e = some o ∧ o.cls = .type "StopIteration") → E (.ref e) { s with heap := h' }),
    wpAny (model prog w) A (Builtin.«zip.__next__» ⟨[.ref z], []⟩) Q E s
theorem c₁ : Nonempty {t : Program × World × Around × (Value → Shared → Prop) × Shared × Addr × Addr × Addr × Addr × Addr × Addr × Addr × Addr × Nat × (Array Value) × (Array Value) × Value × Value × Value × (Fin → Shared → Prop) // S t.1 t.2.1 t.2.2.1 t.2.2.2.1 t.2.2.2.2.1 t.2.2.2.2.2.1 t.2.2.2.2.2.2.1 t.2.2.2.2.2.2.2.1 t.2.2.2.2.2.2.2.2.1 t.2.2.2.2.2.2.2.2.2.1 t.2.2.2.2.2.2.2.2.2.2.1 t.2.2.2.2.2.2.2.2.2.2.2.1 t.2.2.2.2.2.2.2.2.2.2.2.2.1 t.2.2.2.2.2.2.2.2.2.2.2.2.2.1 t.2.2.2.2.2.2.2.2.2.2.2.2.2.2.1 t.2.2.2.2.2.2.2.2.2.2.2.2.2.2.2.1 t.2.2.2.2.2.2.2.2.2.2.2.2.2.2.2.2.1 t.2.2.2.2.2.2.2.2.2.2.2.2.2.2.2.2.2.1 t.2.2.2.2.2.2.2.2.2.2.2.2.2.2.2.2.2.2.1 t.2.2.2.2.2.2.2.2.2.2.2.2.2.2.2.2.2.2.2 → ∀ t : Program × World × Around × (Value → Shared → Prop) × Shared × Addr × Addr × Addr × Addr × Addr × Addr × Addr × Addr × Nat × (Array Value) × (Array Value) × Value × Value × Value × (Fin → Shared → Prop), S t.1 t.2.1 t.2.2.1 t.2.2.2.1 t.2.2.2.2.1 t.2.2.2.2.2.1 t.2.2.2.2.2.2.1 t.2.2.2.2.2.2.2.1 t.2.2.2.2.2.2.2.2.1 t.2.2.2.2.2.2.2.2.2.1 t.2.2.2.2.2.2.2.2.2.2.1 t.2.2.2.2.2.2.2.2.2.2.2.1 t.2.2.2.2.2.2.2.2.2.2.2.2.1 t.2.2.2.2.2.2.2.2.2.2.2.2.2.1 t.2.2.2.2.2.2.2.2.2.2.2.2.2.2.1 t.2.2.2.2.2.2.2.2.2.2.2.2.2.2.2.1 t.2.2.2.2.2.2.2.2.2.2.2.2.2.2.2.2.1 t.2.2.2.2.2.2.2.2.2.2.2.2.2.2.2.2.2.1 t.2.2.2.2.2.2.2.2.2.2.2.2.2.2.2.2.2.2.1 t.2.2.2.2.2.2.2.2.2.2.2.2.2.2.2.2.2.2.2} := eps_ex ⟨(default, ⟨fun _ _ => 0, { strHash := fun _ => 0, shareClass := fun _ => 0, mergeTok := fun _ => default, idOf := fun _ => 0, idOfShared := fun _ _ => 0, followText := fun _ => true, idOfImm := fun _ => 0 }⟩, {}, default, {}, default, default, default, default, default, default, default, default, default, default, default, default, default, default, default)⟩ fun t => S t.1 t.2.1 t.2.2.1 t.2.2.2.1 t.2.2.2.2.1 t.2.2.2.2.2.1 t.2.2.2.2.2.2.1 t.2.2.2.2.2.2.2.1 t.2.2.2.2.2.2.2.2.1 t.2.2.2.2.2.2.2.2.2.1 t.2.2.2.2.2.2.2.2.2.2.1 t.2.2.2.2.2.2.2.2.2.2.2.1 t.2.2.2.2.2.2.2.2.2.2.2.2.1 t.2.2.2.2.2.2.2.2.2.2.2.2.2.1 t.2.2.2.2.2.2.2.2.2.2.2.2.2.2.1 t.2.2.2.2.2.2.2.2.2.2.2.2.2.2.2.1 t.2.2.2.2.2.2.2.2.2.2.2.2.2.2.2.2.1 t.2.2.2.2.2.2.2.2.2.2.2.2.2.2.2.2.2.1 t.2.2.2.2.2.2.2.2.2.2.2.2.2.2.2.2.2.2.1 t.2.2.2.2.2.2.2.2.2.2.2.2.2.2.2.2.2.2.2
noncomputable def c₀ : Program × World × Around × (Value → Shared → Prop) × Shared × Addr × Addr × Addr × Addr × Addr × Addr × Addr × Addr × Nat × (Array Value) × (Array Value) × Value × Value × Value × (Fin → Shared → Prop) := (Classical.choice c₁).val
noncomputable def prog : Program := c₀.1
noncomputable def w : World := c₀.2.1
noncomputable def A : Around := c₀.2.2.1
noncomputable def E : Value → Shared → Prop := c₀.2.2.2.1
noncomputable def s : Shared := c₀.2.2.2.2.1
noncomputable def z : Addr := c₀.2.2.2.2.2.1
noncomputable def TI : Addr := c₀.2.2.2.2.2.2.1
noncomputable def TO : Addr := c₀.2.2.2.2.2.2.2.1
noncomputable def i1 : Addr := c₀.2.2.2.2.2.2.2.2.1
noncomputable def i2 : Addr := c₀.2.2.2.2.2.2.2.2.2.1
noncomputable def i3 : Addr := c₀.2.2.2.2.2.2.2.2.2.2.1
noncomputable def l1 : Addr := c₀.2.2.2.2.2.2.2.2.2.2.2.1
noncomputable def l2 : Addr := c₀.2.2.2.2.2.2.2.2.2.2.2.2.1
noncomputable def k : Nat := c₀.2.2.2.2.2.2.2.2.2.2.2.2.2.1
noncomputable def xs : Array Value := c₀.2.2.2.2.2.2.2.2.2.2.2.2.2.2.1
noncomputable def ys : Array Value := c₀.2.2.2.2.2.2.2.2.2.2.2.2.2.2.2.1
noncomputable def a : Value := c₀.2.2.2.2.2.2.2.2.2.2.2.2.2.2.2.2.1
noncomputable def b : Value := c₀.2.2.2.2.2.2.2.2.2.2.2.2.2.2.2.2.2.1
noncomputable def c : Value := c₀.2.2.2.2.2.2.2.2.2.2.2.2.2.2.2.2.2.2.1
noncomputable def Q : Fin → Shared → Prop := c₀.2.2.2.2.2.2.2.2.2.2.2.2.2.2.2.2.2.2.2
theorem main : S prog w A E s z TI TO i1 i2 i3 l1 l2 k xs ys a b c Q := by
  unfold S
  intro hh D D1 D2 hz hTI hTO h1 h2 hl1 hl2 hend hE
  show wpAny _ _ (field (.ref z) 2 >>= _) _ _ _
  refine wpAny_bind (wpAny_field hz rfl (x := .bool false) rfl ?_)
  show wpAny _ _ (field (.ref z) 3 >>= _) _ _ _
  refine wpAny_bind (wpAny_field hz rfl (x := .ref TI) rfl ?_)
  refine wpAny_bind (wpAny_seqItems hTI rfl ?_)
  show wpAny _ _ (Builtin.SmallTypes.ownedTupleIsFree (.ref z) >>= _) _ _ _
  refine wpAny_bind ?_
  unfold Builtin.SmallTypes.ownedTupleIsFree
  refine wpAny_bind (wpAny_field hz rfl (x := .none) rfl (wpAny_pure ?_))
  rw [if_pos rfl]
  refine wpAny_bind (wpAny_rule ?_)
  refine wpAny_bind (wpAny_field hz rfl (x := .ref TO) rfl ?_)
  refine wpAny_bind (wpAny_setField_rec hz (by simp) fun g₁ z₁ s₁ => ?_)
  replace z₁ : IsZip g₁ z TI TO .ellipsis := z₁
  refine wpAny_bind ?_
  rw [List.zipIdx_cons, List.zipIdx_cons, List.zipIdx_cons, List.zipIdx_nil, List.forIn_cons]
  refine wpAny_bind (wpAny_bind (wpAny_onRaise ?_))
  show wpAny _ _ (Builtin.SmallTypes.nextOf (.ref i1) >>= _) _ _ _
  cases hx : xs[k]? with
  | none =>
    refine wpAny_bind (wpAny_nextOf_list_end hh (h1.extBut s₁.extBut D.i1z) (hl1.extBut s₁.extBut D1.z) hx fun g₂ e s₂ he => ?_)
    obtain ⟨oe, hoe, hce⟩ := he
    have z₂ : IsZip g₂ z TI TO .ellipsis := s₂ _ _ D.i1z.symm z₁
    have hez : e ≠ z := fun x => by subst x; rw [z₂] at hoe; cases hoe; simp at hce
    refine wpAny_setField_rec z₂ (by simp) fun g₃ _ s₃ => hE g₃ e (fun c o c1 _ c3 _ _ x => s₃.extBut _ _ c1 (s₂ _ _ c3 (s₁.extBut _ _ c1 x))) ⟨oe, s₃.extBut _ _ hez hoe, hce⟩
  | some x =>
    have hy : ys[k]? = none := by rcases hend with h | h; rw [hx] at h; cases h; exact h
    refine wpAny_bind (wpAny_nextOf_list_item (h1.extBut s₁.extBut D.i1z) (hl1.extBut s₁.extBut D1.z) hx fun g₂ p1 s₂ => wpAny_pure ?_)
    have T₂ : IsTrip g₂ TO a b c := s₂.extBut _ _ D.TOi1 (s₁.extBut _ _ D.TOz hTO)
    refine wpAny_bind (wpAny_seqItems T₂ rfl ?_)
    refine wpAny_bind (seq3_set T₂ fun g₃ T₃ s₃ => ?_)
    refine wpAny_bind (wpAny_letGo (wpAny_pure ?_))
    refine wpAny_bind (wpAny_bind (wpAny_onRaise ?_))
    show wpAny _ _ (Builtin.SmallTypes.nextOf (.ref i2) >>= _) _ _ _
    refine wpAny_bind (wpAny_nextOf_list_end hh (((h2.extBut s₁.extBut D.i2z).extBut s₂.extBut D.i12.symm).extBut s₃.extBut D.TOi2.symm)
      (((hl2.extBut s₁.extBut D2.z).extBut s₂.extBut D2.i1).extBut s₃.extBut D2.TO) hy fun g₄ e s₄ he => ?_)
    obtain ⟨oe, hoe, hce⟩ := he
    have z₄ : IsZip g₄ z TI TO .ellipsis := s₄ _ _ D.i2z.symm (s₃.extBut _ _ D.TOz.symm (s₂.extBut _ _ D.i1z.symm z₁))
    have hez : e ≠ z := fun x => by subst x; rw [z₄] at hoe; cases hoe; simp at hce
    refine wpAny_setField_rec z₄ (by simp) fun g₅ _ s₅ => hE g₅ e (fun c o c1 c2 c3 c4 _ x => s₅.extBut _ _ c1 (s₄ _ _ c4 (s₃.extBut _ _ c2 (s₂.extBut _ _ c3 (s₁.extBut _ _ c1 x))))) ⟨oe, s₅.extBut _ _ hez hoe, hce⟩
end zip3_end
theorem zip3_end {prog : Program} {w : World} {A : Around} {E : Value → Shared → Prop} {s : Shared} {z TI TO i1 i2 i3 l1 l2 : Addr} {k : Nat} {xs ys : Array Value} {a b c : Value} {Q : Fin → Shared → Prop} (hh : A.handled = none) (D : Z3 z TI TO i1 i2 i3) (D1 : Z3L z TO i1 i2 i3 l1) (D2 : Z3L z TO i1 i2 i3 l2)
    (hz : IsZip s.heap z TI TO .none) (hTI : IsTrip s.heap TI (.ref i1) (.ref i2) (.ref i3)) (hTO : IsTrip s.heap TO a b c)
    (h1 : s.heap.IsListIter i1 l1 k) (h2 : s.heap.IsListIter i2 l2 k) (hl1 : s.heap.IsList l1 xs) (hl2 : s.heap.IsList l2 ys) (hend : xs[k]? = none ∨ ys[k]? = none)
    (hE : ∀ h' e, (∀ c o, c ≠ z → c ≠ TO → c ≠ i1 → c ≠ i2 → c ≠ i3 → s.heap.get? c = some o → h'.get? c = some o) → (∃ o, h'.get? e = some o ∧ o.cls = .type "StopIteration") → E (.ref e) { s with heap := h' }) :
    wpAny (model prog w) A (Builtin.«zip.__next__» ⟨[.ref z], []⟩) Q E s :=
  (Classical.choice zip3_end.c₁).property zip3_end.main (prog, w, A, E, s, z, TI, TO, i1, i2, i3, l1, l2, k, xs, ys, a, b, c, Q) hh D D1 D2 hz hTI hTO h1 h2 hl1 hl2 hend hE
section
variable {prog : Program} {w : World} {A : Around} {E : Value → Shared → Prop} {s : Shared}
theorem next3_item {z TI TO i1 i2 i3 l1 l2 l3 : Addr} {k : Nat} {xs ys zs : Array Value} {x y u a b c : Value} {Q : Option Value → Shared → Prop} (D : Z3 z TI TO i1 i2 i3) (D1 : Z3L z TO i1 i2 i3 l1) (D2 : Z3L z TO i1 i2 i3 l2) (D3 : Z3L z TO i1 i2 i3 l3)
    (hz : IsZip s.heap z TI TO .none) (hTI : IsTrip s.heap TI (.ref i1) (.ref i2) (.ref i3)) (hTO : IsTrip s.heap TO a b c)
    (h1 : s.heap.IsListIter i1 l1 k) (h2 : s.heap.IsListIter i2 l2 k) (h3 : s.heap.IsListIter i3 l3 k) (hl1 : s.heap.IsList l1 xs) (hl2 : s.heap.IsList l2 ys) (hl3 : s.heap.IsList l3 zs)
    (hx : xs[k]? = some x) (hy : ys[k]? = some y) (hu : zs[k]? = some u)
    (hQ : ∀ h', IsZip h' z TI TO (rawInt s.heap.objs.size) → IsTrip h' TO x y u → h'.IsListIter i1 l1 (k + 1) → h'.IsListIter i2 l2 (k + 1) → h'.IsListIter i3 l3 (k + 1) → IsTrip h' s.heap.objs.size x y u →
      (∀ c o, c ≠ z → c ≠ TO → c ≠ i1 → c ≠ i2 → c ≠ i3 → s.heap.get? c = some o → h'.get? c = some o) → Q (some (.ref s.heap.objs.size)) { s with heap := h' }) :
    wpAny (model prog w) A (pyNext (.ref z)) Q E s := by
  have hT : s.TypeIs (.ref z) "zip" := ⟨_, hz, rfl⟩
  unfold pyNext
  exact wpAny_bind (wpAny_attempt (wpAny_callSpecial?_slot (name := Str.ofString "__next__") hT F.slot_zip_next
    (wpAny_call_entry F.slot_zip_next hT F.entry_zip_next
      (zip3_item D D1 D2 D3 hz hTI hTO h1 h2 h3 hl1 hl2 hl3 hx hy hu fun h' a1 a2 a3 a4 a5 a6 a7 => wpAny_pure (hQ h' a1 a2 a3 a4 a5 a6 a7)) (F.args_zip_next_1 _))))
theorem next3_end {z TI TO i1 i2 i3 l1 l2 : Addr} {k : Nat} {xs ys : Array Value} {a b c : Value} {Q : Option Value → Shared → Prop} (hh : A.handled = none) (D : Z3 z TI TO i1 i2 i3) (D1 : Z3L z TO i1 i2 i3 l1) (D2 : Z3L z TO i1 i2 i3 l2)
    (hz : IsZip s.heap z TI TO .none) (hTI : IsTrip s.heap TI (.ref i1) (.ref i2) (.ref i3)) (hTO : IsTrip s.heap TO a b c)
    (h1 : s.heap.IsListIter i1 l1 k) (h2 : s.heap.IsListIter i2 l2 k) (hl1 : s.heap.IsList l1 xs) (hl2 : s.heap.IsList l2 ys) (hend : xs[k]? = none ∨ ys[k]? = none)
    (hQ : ∀ h', (∀ c o, c ≠ z → c ≠ TO → c ≠ i1 → c ≠ i2 → c ≠ i3 → s.heap.get? c = some o → h'.get? c = some o) → Q none { s with heap := h' }) : wpAny (model prog w) A (pyNext (.ref z)) Q E s := by
  have hT : s.TypeIs (.ref z) "zip" := ⟨_, hz, rfl⟩
  unfold pyNext
  refine wpAny_bind (wpAny_attempt (wpAny_callSpecial?_slot (name := Str.ofString "__next__") hT F.slot_zip_next
    (wpAny_call_entry F.slot_zip_next hT F.entry_zip_next (zip3_end hh D D1 D2 hz hTI hTO h1 h2 hl1 hl2 hend fun h' e hk he => ?_) (F.args_zip_next_1 _))))
  obtain ⟨o, ho, hc⟩ := he
  refine wpAny_bind (wpAny_isInstance (T := "StopIteration") (b := true) ⟨o, ho, hc⟩ isSubtype_stop ?_)
  exact wpAny_pure (hQ _ hk)
/- the zip of three lists, the third no shorter -/
inductive St3 (z TI TO i1 i2 i3 l1 l2 l3 : Addr) (xs ys zs : Array Value) (i : Nat) (h : Heap) : Prop
  | mk (hz : IsZip h z TI TO .none) (hTI : IsTrip h TI (.ref i1) (.ref i2) (.ref i3)) (hTO : ∃ a b c, IsTrip h TO a b c) (h1 : h.IsListIter i1 l1 i) (h2 : h.IsListIter i2 l2 i) (h3 : h.IsListIter i3 l3 i) (hl1 : h.IsList l1 xs) (hl2 : h.IsList l2 ys) (hl3 : h.IsList l3 zs)
inductive Md3 (z TI TO i1 i2 i3 l1 l2 l3 : Addr) (xs ys zs : Array Value) (i : Nat) (T : Addr) (h : Heap) : Prop
  | mk (hz : IsZip h z TI TO (rawInt T)) (hTI : IsTrip h TI (.ref i1) (.ref i2) (.ref i3)) (hTO : ∃ a b c, IsTrip h TO a b c) (h1 : h.IsListIter i1 l1 (i + 1)) (h2 : h.IsListIter i2 l2 (i + 1)) (h3 : h.IsListIter i3 l3 (i + 1)) (hl1 : h.IsList l1 xs) (hl2 : h.IsList l2 ys) (hl3 : h.IsList l3 zs)
    (t1 : T ≠ z) (t2 : T ≠ TO) (t3 : T ≠ i1) (t4 : T ≠ i2) (t5 : T ≠ i3)
theorem of_nin5 {x a1 a2 a3 a4 a5 : Addr} (h : x ∉ [a1, a2, a3, a4, a5]) : x ≠ a1 ∧ x ≠ a2 ∧ x ≠ a3 ∧ x ≠ a4 ∧ x ≠ a5 := by
  simpa only [List.mem_cons, List.not_mem_nil, or_false, not_or] using h
theorem walks_zip3 (hh : A.handled = none) (z TI TO i1 i2 i3 l1 l2 l3 : Addr) (D : Z3 z TI TO i1 i2 i3) (D1 : Z3L z TO i1 i2 i3 l1) (D2 : Z3L z TO i1 i2 i3 l2) (D3 : Z3L z TO i1 i2 i3 l3) (xs ys zs : Array Value) (hzs : min xs.size ys.size ≤ zs.size) :
    WalksU prog w A z [z, TI, TO, i1, i2, i3, l1, l2, l3] [z, TO, i1, i2, i3] (min xs.size ys.size)
      (fun i vals => ∃ x y u, xs[i]? = some x ∧ ys[i]? = some y ∧ zs[i]? = some u ∧ vals = #[x, y, u])
      (St3 z TI TO i1 i2 i3 l1 l2 l3 xs ys zs) (Md3 z TI TO i1 i2 i3 l1 l2 l3 xs ys zs) where
  sub := fun c hc => by simp at hc ⊢; rcases hc with rfl | rfl | rfl | rfl | rfl <;> simp
  frame := fun i h h' hst hk => by
    obtain ⟨hz, hTI, ⟨a, b, c, hTO⟩, h1, h2, h3, hl1, hl2, hl3⟩ := hst
    exact ⟨hk z (.head _) _ hz, hk TI (.tail _ (.head _)) _ hTI, ⟨a, b, c, hk TO (.tail _ (.tail _ (.head _))) _ hTO⟩, h1.at fun o e => hk i1 (.tail _ (.tail _ (.tail _ (.head _)))) o e, h2.at fun o e => hk i2 (.tail _ (.tail _ (.tail _ (.tail _ (.head _))))) o e, h3.at fun o e => hk i3 (.tail _ (.tail _ (.tail _ (.tail _ (.tail _ (.head _)))))) o e,
      hl1.at fun o e => hk l1 (.tail _ (.tail _ (.tail _ (.tail _ (.tail _ (.tail _ (.head _))))))) o e, hl2.at fun o e => hk l2 (.tail _ (.tail _ (.tail _ (.tail _ (.tail _ (.tail _ (.tail _ (.head _)))))))) o e, hl3.at fun o e => hk l3 (.tail _ (.tail _ (.tail _ (.tail _ (.tail _ (.tail _ (.tail _ (.tail _ (.head _))))))))) o e⟩
  item := fun i s Q E hi hst hQ => by
    obtain ⟨hz, hTI, ⟨a, b, c, hTO⟩, h1, h2, h3, hl1, hl2, hl3⟩ := hst
    have hix : i < xs.size := Nat.lt_of_lt_of_le hi (Nat.min_le_left ..)
    have hiy : i < ys.size := Nat.lt_of_lt_of_le hi (Nat.min_le_right ..)
    have hiz : i < zs.size := Nat.lt_of_lt_of_le hi hzs
    refine next3_item D D1 D2 D3 hz hTI hTO h1 h2 h3 hl1 hl2 hl3 (Array.getElem?_eq_getElem hix) (Array.getElem?_eq_getElem hiy) (Array.getElem?_eq_getElem hiz) fun h' a1 a2 a3 a4 a5 a6 hk => ?_
    have lt : ∀ {c o}, s.heap.get? c = some o → s.heap.objs.size ≠ c := fun e => Nat.ne_of_gt (Heap.lt_size e)
    exact hQ s.heap.objs.size #[xs[i], ys[i], zs[i]] h' s.toks ⟨_, _, _, Array.getElem?_eq_getElem hix, Array.getElem?_eq_getElem hiy, Array.getElem?_eq_getElem hiz, rfl⟩ ⟨_, a6, rfl, _, rfl⟩
      ⟨a1, hk _ _ D.TIz D.TITO D.TIi1 D.TIi2 D.TIi3 hTI, ⟨_, _, _, a2⟩, a3, a4, a5, hl1.at fun o e => hk _ o D1.z D1.TO D1.i1 D1.i2 D1.i3 e, hl2.at fun o e => hk _ o D2.z D2.TO D2.i1 D2.i2 D2.i3 e, hl3.at fun o e => hk _ o D3.z D3.TO D3.i1 D3.i2 D3.i3 e,
        lt hz, lt hTO, (by obtain ⟨_, e, _⟩ := h1; exact lt e), (by obtain ⟨_, e, _⟩ := h2; exact lt e), (by obtain ⟨_, e, _⟩ := h3; exact lt e)⟩
      fun c o hc e => hk c o (of_nin5 hc).1 (of_nin5 hc).2.1 (of_nin5 hc).2.2.1 (of_nin5 hc).2.2.2.1 (of_nin5 hc).2.2.2.2 e
  go := fun elts k pos i T s Q E hm hQ => by
    obtain ⟨hz, hTI, ⟨a, b, c, hTO⟩, h1, h2, h3, hl1, hl2, hl3, _⟩ := hm
    refine wpAny_letOwnedTupleGo_zip hz fun h' hz' hs' => hQ h' ⟨hz', hs'.extBut _ _ D.TIz hTI, ⟨a, b, c, hs'.extBut _ _ D.TOz hTO⟩, h1.extBut hs'.extBut D.i1z, h2.extBut hs'.extBut D.i2z, h3.extBut hs'.extBut D.i3z,
      hl1.extBut hs'.extBut D1.z, hl2.extBut hs'.extBut D2.z, hl3.extBut hs'.extBut D3.z⟩ fun c o hc e => hs'.extBut _ _ (of_nin5 hc).1 e
  apart := fun i T h hm hT => by
    obtain ⟨_, _, _, _, _, _, _, _, _, t1, t2, t3, t4, t5⟩ := hm
    simp at hT
    rcases hT with rfl | rfl | rfl | rfl | rfl
    · exact t1 rfl
    · exact t2 rfl
    · exact t3 rfl
    · exact t4 rfl
    · exact t5 rfl
  done := fun s Q E hst hQ => by
    obtain ⟨hz, hTI, ⟨a, b, c, hTO⟩, h1, h2, h3, hl1, hl2, hl3⟩ := hst
    have hend : xs[min xs.size ys.size]? = none ∨ ys[min xs.size ys.size]? = none := by
      rcases Nat.le_total xs.size ys.size with h | h
      · exact .inl (by rw [Nat.min_eq_left h]; exact Array.getElem?_eq_none (Nat.le_refl _))
      · exact .inr (by rw [Nat.min_eq_right h]; exact Array.getElem?_eq_none (Nat.le_refl _))
    exact next3_end hh D D1 D2 hz hTI hTO h1 h2 hl1 hl2 hend fun h' hk => hQ h' s.toks fun c o hc e =>
      hk c o (of_nin5 hc).1 (of_nin5 hc).2.1 (of_nin5 hc).2.2.1 (of_nin5 hc).2.2.2.1 (of_nin5 hc).2.2.2.2 e
  self := fun i s Q E hst hQ => by obtain ⟨hz, _⟩ := hst; exact wpAny_pyIter_zip hz hQ
noncomputable abbrev zB1 (h : Heap) (l1 : Addr) : Heap := h.push { cls := .type "list_iterator", data := .fields #[.ref l1, .int 0 0] }
noncomputable abbrev zB4 (h : Heap) (l1 l2 l3 : Addr) : Heap := (zB1 (zB1 (zB1 h l1) l2) l3).push { cls := .type "tuple", data := .seq #[.ref h.objs.size, .ref (zB1 h l1).objs.size, .ref (zB1 (zB1 h l1) l2).objs.size] }
noncomputable abbrev zB5 (h : Heap) (l1 l2 l3 : Addr) : Heap := (zB4 h l1 l2 l3).push { cls := .type "tuple", data := .seq #[.none, .none, .none] }
noncomputable abbrev zB6 (h : Heap) (l1 l2 l3 : Addr) : Heap := (zB5 h l1 l2 l3).push { cls := .type "zip", data := .fields #[.none, .bool false, .bool false, .ref (zB1 (zB1 (zB1 h l1) l2) l3).objs.size, .ref (zB4 h l1 l2 l3).objs.size] }
end
theorem meets_zip3_new (l1 l2 l3 : Addr) (xs ys zs : Array Value) :
    Meets (Builtin.«zip.__new__» ⟨[.type "zip", .ref l1, .ref l2, .ref l3], []⟩) (fun _ R s => s.heap.IsList l1 xs ∧ s.heap.IsList l2 ys ∧ s.heap.IsList l3 zs ∧
      R (.ok (.ret (.ref (zB5 s.heap l1 l2 l3).objs.size))) { s with heap := zB6 s.heap l1 l2 l3 }) :=
  .of_wp fun prog w A R s h => by
    obtain ⟨hp, g, d, tk, os⟩ := s; obtain ⟨hl1, hl2, hl3, h⟩ := h
    have hsub := sub_zip
    have hL1 : Heap.IsList (Shared.heap ⟨hp, g, d, tk, os⟩) l1 xs := hl1
    have hL2 : Heap.IsList (Shared.heap ⟨hp.push { cls := .type "list_iterator", data := .fields #[.ref l1, .int 0 0] }, g, d, tk, os⟩) l2 ys := Heap.IsList.push hl2 _
    have hL3 : Heap.IsList (Shared.heap ⟨(hp.push { cls := .type "list_iterator", data := .fields #[.ref l1, .int 0 0] }).push { cls := .type "list_iterator", data := .fields #[.ref l2, .int 0 0] }, g, d, tk, os⟩) l3 zs := Heap.IsList.push (Heap.IsList.push hl3 _) _
    wp_walk using wpAny_pyIter_list hL1, wpAny_pyIter_list hL2, wpAny_pyIter_list hL3
    exact ⟨_, rfl, h⟩
section
variable {prog : Program} {w : World} {A : Around} {E : Value → Shared → Prop} {s : Shared}
theorem call_zip3 {l1 l2 l3 : Addr} {xs ys zs : Array Value} {Q : Value → Shared → Prop} (hl1 : s.heap.IsList l1 xs) (hl2 : s.heap.IsList l2 ys) (hl3 : s.heap.IsList l3 zs)
    (h : ∀ h', IsZip h' (s.heap.objs.size + 5) (s.heap.objs.size + 3) (s.heap.objs.size + 4) .none → IsTrip h' (s.heap.objs.size + 3) (.ref s.heap.objs.size) (.ref (s.heap.objs.size + 1)) (.ref (s.heap.objs.size + 2)) →
      IsTrip h' (s.heap.objs.size + 4) .none .none .none → h'.IsListIter s.heap.objs.size l1 0 → h'.IsListIter (s.heap.objs.size + 1) l2 0 → h'.IsListIter (s.heap.objs.size + 2) l3 0 → h'.objs.size = s.heap.objs.size + 6 →
      (∀ c o, s.heap.get? c = some o → h'.get? c = some o) → Q (.ref (s.heap.objs.size + 5)) { s with heap := h' }) :
    wpAny (model prog w) A (call (.type "zip") [.ref l1, .ref l2, .ref l3]) Q E s := by
  refine callType_new F.called_zip (by decide) (typeCall_zip_3 _ _ _) (newCall_zip_3 _ _ _) (fun obj => args_object_init_4 obj _ _ _) F.entry_zip_new
    (meets_zip3_new l1 l2 l3 xs ys zs) ⟨hl1, hl2, hl3, ?_⟩
  have e1 : (zB1 s.heap l1).objs.size = s.heap.objs.size + 1 := Heap.size_push ..
  have e2 : (zB1 (zB1 s.heap l1) l2).objs.size = s.heap.objs.size + 2 := by rw [Heap.size_push, e1]
  have e3 : (zB1 (zB1 (zB1 s.heap l1) l2) l3).objs.size = s.heap.objs.size + 3 := by rw [Heap.size_push, e2]
  have e4 : (zB4 s.heap l1 l2 l3).objs.size = s.heap.objs.size + 4 := by rw [Heap.size_push, e3]
  have e5 : (zB5 s.heap l1 l2 l3).objs.size = s.heap.objs.size + 5 := by rw [Heap.size_push, e4]
  have e6 : (zB6 s.heap l1 l2 l3).objs.size = s.heap.objs.size + 6 := by rw [Heap.size_push, e5]
  have g6 : (zB6 s.heap l1 l2 l3).get? (zB5 s.heap l1 l2 l3).objs.size = some _ := Heap.get?_push_size _ rfl
  have g5 : (zB6 s.heap l1 l2 l3).get? (zB4 s.heap l1 l2 l3).objs.size = some _ := Heap.get?_push_of_some _ (Heap.get?_push_size _ rfl)
  have g4 : (zB6 s.heap l1 l2 l3).get? (zB1 (zB1 (zB1 s.heap l1) l2) l3).objs.size = some _ := Heap.get?_push_of_some _ (Heap.get?_push_of_some _ (Heap.get?_push_size _ rfl))
  have g3 : (zB6 s.heap l1 l2 l3).get? (zB1 (zB1 s.heap l1) l2).objs.size = some _ := Heap.get?_push_of_some _ (Heap.get?_push_of_some _ (Heap.get?_push_of_some _ (Heap.get?_push_size _ rfl)))
  have g2 : (zB6 s.heap l1 l2 l3).get? (zB1 s.heap l1).objs.size = some _ := Heap.get?_push_of_some _ (Heap.get?_push_of_some _ (Heap.get?_push_of_some _ (Heap.get?_push_of_some _ (Heap.get?_push_size _ rfl))))
  have g1 : (zB6 s.heap l1 l2 l3).get? s.heap.objs.size = some _ := Heap.get?_push_of_some _ (Heap.get?_push_of_some _ (Heap.get?_push_of_some _ (Heap.get?_push_of_some _ (Heap.get?_push_of_some _ (Heap.get?_push_size _ rfl)))))
  show _ ∧ _
  rw [e3, e4, e5] at g6
  rw [e1, e2, e3] at g4
  rw [e4] at g5
  rw [e2] at g3
  rw [e1] at g2
  rw [e5]
  exact ⟨⟨_, g6, rfl⟩, h _ g6 g4 g5 ⟨_, g1, rfl, rfl⟩ ⟨_, g2, rfl, rfl⟩ ⟨_, g3, rfl, rfl⟩ e6 fun c o x =>
    Heap.get?_push_of_some _ (Heap.get?_push_of_some _ (Heap.get?_push_of_some _ (Heap.get?_push_of_some _ (Heap.get?_push_of_some _ (Heap.get?_push_of_some _ x)))))⟩
end
end
section
set_option maxRecDepth 100000
set_option maxHeartbeats 1000000
namespace Rx
open PySem.Builtin.Re PySem.Calls PyProof.Rows.LCg
theorem slot_sub : Slot "re.Pattern" "sub" "re.Pattern.sub" :=
  .of (owner := "re.Pattern") (n := "sub") (by rw [typeLookup_type, builtinLookup_eq_fast]; kernel_rfl) (by decide +kernel) (by decide +kernel) (by decide +kernel)
    (by first | exact .inl (by decide +kernel) | exact .inr (by decide +kernel)) (by rw [isSubtype_type]; kernel_rfl)
theorem entry_sub : entryFor table "re.Pattern.sub" = some Builtin.«re.Pattern.sub» := entryFor_of_tree (by kernel_rfl)
theorem args_sub (a b c : Value) : argsOk "re.Pattern.sub" ⟨[a, b, c], []⟩ := by unfold argsOk; kernel_rfl
theorem str_no_call : typeLookup (.type "str") "__call__" = pure none := by rw [typeLookup_type, builtinLookup_eq_fast]; kernel_rfl
theorem named_sub (a b : Value) : reNamed "re.Pattern.sub" "sub" ["repl", "string", "count"] 2 [a, b] [] = pure [some a, some b, none] := by rfl
section
variable {prog : Program} {w : World} {A : Around} {E : Value → Shared → Prop} {s : Shared} {x r : Str} {tx tr : Tok} {P C : Addr} {code : Array Nat} {nxt : Nat → Option (Nat × Nat)} {Q : Value → Shared → Prop}
theorem call_sub (hF : Finds code x.cps nxt) (hx : x.length ≤ 300) (hr : r.length ≤ 2) (hr92 : r.cps.contains 92 = false) (hP : Pat s.heap P C code)
    (h : ∀ h' tk t', (∀ b o, s.heap.get? b = some o → h'.get? b = some o) → Q (.str (Txt.join Str.empty (pcs x r nxt (x.cps.size + 1) 0)) t') { s with heap := h', toks := tk }) :
    wpAny (model prog w) A (call (.builtin "re.Pattern.sub") [.ref P, .str r tr, .str x tx]) Q E s := by
  have hT : s.TypeIs (.ref P) "re.Pattern" := by
    obtain ⟨⟨oP, p0, p1, e, c, d⟩, _⟩ := hP
    exact ⟨oP, e, c⟩
  refine wpAny_call (codeAny_call_builtin slot_sub.plain entry_sub (slot_sub.check _ _ _ _ _ _ _ _ hT (args_sub _ _ _) ?_))
  unfold Builtin.«re.Pattern.sub» reSubstitute
  dsimp only
  refine wpAny_bind (m := reNamed "re.Pattern.sub" "sub" ["repl", "string", "count"] 2 [Value.str r tr, Value.str x tx] []) (wpAny_of_eq (named_sub _ _) ?_)
  show wpAny _ _ (pure (0 : Int) >>= _) _ _ s
  refine wpAny_bind (wpAny_pure ?_)
  show wpAny _ _ (specialOf (.str r tr) (Str.ofString "__call__") >>= _) _ _ s
  refine wpAny_bind (wpAny_specialOf (typeIs_str _ _ _) str_no_call ?_)
  show wpAny _ _ (asStr? (.str r tr) >>= _) _ _ s
  refine wpAny_bind (m := asStr? (.str r tr)) (wpAny_of_eq (a := some r) rfl ?_)
  show wpAny _ _ (pure (!r.cps.contains 92) >>= _) _ _ s
  rw [hr92]
  refine wpAny_bind (wpAny_pure ?_)
  show wpAny _ _ (pure (Value.str r tr, (0 : Int)) >>= _) _ _ s
  refine wpAny_bind (wpAny_pure ?_)
  show wpAny _ _ (reWholeTarget (.ref P) (.str x tx) >>= _) _ _ s
  refine wpAny_bind (whole_any hP ?_)
  show wpAny _ _ (newList [] >>= _) _ _ s
  refine wpAny_bind (wpAny_newList ?_)
  show wpAny _ _ (pure (Fin.again _)) _ _ _
  refine wpAny_pure ⟨loop_quiet _, ?_⟩
  have hk : ∀ b o, s.heap.get? b = some o → (s.heap.push { cls := .type "list", data := .seq ([] : List Value).toArray }).get? b = some o := fun b o e => Heap.get?_push_of_some _ e
  have hPne : P ≠ s.heap.objs.size := by
    obtain ⟨⟨oP, p0, p1, e, c, d⟩, _⟩ := hP
    exact Nat.ne_of_lt (Heap.lt_size e)
  have hCne : C ≠ s.heap.objs.size := by
    obtain ⟨_, ⟨oC, cv, n, e', d', m⟩⟩ := hP
    exact Nat.ne_of_lt (Heap.lt_size e')
  refine loop_any hF hx hr hPne hCne (x.cps.size + 1) 0 [] [] 0 0 _ _ (hP.keep hk) (Heap.get?_push_size _ rfl) .nil (fun y hy => by cases hy) (Nat.zero_le _) (by omega) (Nat.le_refl _) ?_
  intro h' tk t' hk'
  exact h h' tk t' fun b o e => hk' b o (Nat.ne_of_lt (Heap.lt_size e)) (hk b o e)
end
end Rx
end
section
set_option maxRecDepth 100000
set_option maxHeartbeats 2000000
open PySem.Spec PySem.Calls PyProof.V
noncomputable def citObj (f e : Value) (done : Bool) : Obj := { cls := .type "callable_iterator", data := .fields #[f, e, .bool done] }
theorem slot_cit_next : Slot "callable_iterator" "__next__" "callable_iterator.__next__" :=
  .of (owner := "callable_iterator") (n := "__next__") (by rw [typeLookup_type, builtinLookup_eq_fast]; kernel_rfl) (by decide +kernel) (by decide +kernel) (by decide +kernel)
    (by first | exact .inl (by decide +kernel) | exact .inr (by decide +kernel)) (by rw [isSubtype_type]; kernel_rfl)
theorem entry_cit_next : entryFor table "callable_iterator.__next__" = some Builtin.«callable_iterator.__next__» := entryFor_of_tree (by kernel_rfl)
theorem args_cit_next (a : Value) : argsOk "callable_iterator.__next__" ⟨[a], []⟩ := by unfold argsOk; kernel_rfl
theorem meth_call : typeLookup (.type "method") "__call__" = pure (some (.builtin "method.__call__")) := by rw [typeLookup_type, builtinLookup_eq_fast]; kernel_rfl
theorem args_iter2 (a b : Value) : argsOk "iter" ⟨[a, b], []⟩ := by unfold argsOk; kernel_rfl
theorem call_iter2 {prog : Program} {w : World} {A : Around} {E : Value → Shared → Prop} {s : Shared} {h₀ : Heap} {L q : Addr} {m : Str → Option Value} {news : List (Addr × Obj)} {e : Str} {t : Tok} {Q : Value → Shared → Prop}
    (F : Fr h₀ L s.heap m) (N : News h₀ L s.heap news) (hT : s.TypeIs (.ref q) "method")
    (h : ∀ (I : Addr) h', Fr h₀ L h' m → News h₀ L h' ((I, citObj (.ref q) (.str e t) false) :: news) → (∀ p ∈ news, p.1 < I) → Q (.ref I) { s with heap := h' }) :
    wpAny (model prog w) A (call (.builtin "iter") [.ref q, .str e t]) Q E s := by
  refine call_function_entry (by decide +kernel) (by decide +kernel) kdk_entry_iter (args_iter2 _ _) ?_
  unfold Builtin.«iter»
  refine wpAny_bind (m := someArgs "iter" 1 2 _) (wpAny_of_eq (a := [Value.ref q, Value.str e t]) (by first | rfl | kernel_rfl!) ?_)
  show wpAny _ _ (specialOf (.ref q) (Str.ofString "__call__") >>= _) _ _ _
  refine wpAny_bind (wpAny_specialOf hT meth_call ?_)
  refine wpAny_bind (wpAny_rule ?_)
  refine wpAny_bind (wpAny_newObj_type ?_)
  exact wpAny_pure ⟨_, rfl, h _ _ (F.push _) (News.push F N _ rfl) (fun q hq => Heap.lt_size (N q hq).1)⟩
end
section
set_option maxRecDepth 100000
set_option maxHeartbeats 2000000
open PySem.Spec PySem.Calls PyProof.V
/- a bound method of a plain def -/
inductive IsMeth (h : Heap) (q : Addr) : Prop
  | mk (o : Obj) (vs : Array Value) (f : Addr) (of : Obj) (fd : FuncData) (q0 : h.get? q = some o) (q1 : o.cls = .type "method") (q2 : o.data = .fields vs) (q3 : vs[0]? = some (.ref f)) (q4 : h.get? f = some of) (q5 : of.data = .func fd)
theorem borrows_meth {M : Model} {A : Around} {E : Value → Shared → Prop} {s : Shared} {q : Addr} {Q : Bool → Shared → Prop} (hq : IsMeth s.heap q) (h : Q true s) : wpAny M A (borrowsExactly (.ref q)) Q E s := by
  obtain ⟨o, vs, f, of, fd, ho, hc, hd, hv, hof, hfd⟩ := hq
  unfold borrowsExactly
  refine wpAny_bind (wpAny_load ho ?_)
  rw [hd]
  dsimp only
  have e1 : (o.cls == Value.type "method") = true := by rw [hc]; decide
  rw [if_pos e1]
  have e2 : vs.getD 0 .none = .ref f := by
    rw [Array.getD_eq_getD_getElem?, hv]; rfl
  rw [e2]
  show wpAny _ _ (load f >>= _) _ _ _
  refine wpAny_bind (wpAny_load hof ?_)
  rw [hfd]
  exact wpAny_pure h
theorem next_cit {prog : Program} {w : World} {A : Around} {E : Value → Shared → Prop} {s : Shared} {I q : Addr} {e : Str} {t : Tok} {Q : Option Value → Shared → Prop}
    (hI : s.heap.get? I = some (citObj (.ref q) (.str e t) false)) (hq : IsMeth s.heap q)
    (hcall : wpAny (model prog w) A.in1 (callBorrowed (.ref q) []) (fun r s' => ∃ y u, r = .str y u ∧ y ≠ e ∧ s'.heap.get? I = some (citObj (.ref q) (.str e t) false) ∧ Q (some (.str y u)) s') (fun _ _ => False) s) :
    wpAny (model prog w) A (pyNext (.ref I)) Q E s := by
  have hT : s.TypeIs (.ref I) "callable_iterator" := ⟨_, hI, rfl⟩
  unfold pyNext
  refine wpAny_bind (wpAny_attempt (wpAny_callSpecial?_slot (name := Str.ofString "__next__") hT slot_cit_next (wpAny_call_entry slot_cit_next hT entry_cit_next ?_ (args_cit_next _))))
  show wpAny _ _ (field (.ref I) 2 >>= _) _ _ s
  refine wpAny_bind (wpAny_field hI rfl (x := .bool false) rfl ?_)
  rw [if_neg (by decide)]
  show wpAny _ _ (field (.ref I) 0 >>= _) _ _ s
  refine wpAny_bind (wpAny_field hI rfl (x := .ref q) rfl ?_)
  refine wpAny_bind (wpAny_attempt ?_)
  unfold callOutOfASlot
  refine wpAny_bind (borrows_meth hq ?_)
  rw [if_pos rfl]
  refine wpAny_mono hcall ?_ (fun _ _ h => h.elim)
  rintro r s' ⟨y, u, rfl, hne, hI', hQ⟩
  show wpAny _ _ (field (.ref I) 2 >>= _) _ _ s'
  refine wpAny_bind (wpAny_field hI' rfl (x := .bool false) rfl ?_)
  rw [if_neg (by decide)]
  show wpAny _ _ (field (.ref I) 1 >>= _) _ _ s'
  refine wpAny_bind (wpAny_field hI' rfl (x := .str e t) rfl ?_)
  refine wpAny_bind (wpAny_holding (wpAny_eqBool_str ?_))
  rw [show decide (e = y) = false from decide_eq_false fun h => hne h.symm]
  exact wpAny_pure ⟨_, rfl, wpAny_pure hQ⟩
theorem next_cit_end {prog : Program} {w : World} {A : Around} {E : Value → Shared → Prop} {s : Shared} {I q : Addr} {e : Str} {t : Tok} {Q : Option Value → Shared → Prop} (hh : A.handled = none)
    (hI : s.heap.get? I = some (citObj (.ref q) (.str e t) false)) (hq : IsMeth s.heap q)
    (hcall : wpAny (model prog w) A.in1 (callBorrowed (.ref q) []) (fun r s' => ∃ u, r = .str e u ∧ s'.heap.get? I = some (citObj (.ref q) (.str e t) false) ∧ IsMeth s'.heap q ∧
      (∀ h', h'.get? I = some (citObj .none .none true) → (∀ b o, b ≠ I → s'.heap.get? b = some o → h'.get? b = some o) → Q none { s' with heap := h' })) (fun _ _ => False) s) :
    wpAny (model prog w) A (pyNext (.ref I)) Q E s := by
  have hT : s.TypeIs (.ref I) "callable_iterator" := ⟨_, hI, rfl⟩
  unfold pyNext
  refine wpAny_bind (wpAny_attempt (wpAny_callSpecial?_slot (name := Str.ofString "__next__") hT slot_cit_next (wpAny_call_entry slot_cit_next hT entry_cit_next ?_ (args_cit_next _))))
  show wpAny _ _ (field (.ref I) 2 >>= _) _ _ s
  refine wpAny_bind (wpAny_field hI rfl (x := .bool false) rfl ?_)
  rw [if_neg (by decide)]
  show wpAny _ _ (field (.ref I) 0 >>= _) _ _ s
  refine wpAny_bind (wpAny_field hI rfl (x := .ref q) rfl ?_)
  refine wpAny_bind (wpAny_attempt ?_)
  unfold callOutOfASlot
  refine wpAny_bind (borrows_meth hq ?_)
  rw [if_pos rfl]
  refine wpAny_mono hcall ?_ (fun _ _ h => h.elim)
  rintro r s' ⟨u, rfl, hI', hq', hQ⟩
  show wpAny _ _ (field (.ref I) 2 >>= _) _ _ s'
  refine wpAny_bind (wpAny_field hI' rfl (x := .bool false) rfl ?_)
  rw [if_neg (by decide)]
  show wpAny _ _ (field (.ref I) 1 >>= _) _ _ s'
  refine wpAny_bind (wpAny_field hI' rfl (x := .str e t) rfl ?_)
  refine wpAny_bind (wpAny_holding (wpAny_eqBool_str ?_))
  rw [show decide (e = e) = true from decide_eq_true rfl]
  refine wpAny_bind (wpAny_rule ?_)
  refine wpAny_bind ?_
  show wpAny _ _ (field (.ref I) 0 >>= _) _ _ s'
  refine wpAny_bind (wpAny_field hI' rfl (x := .ref q) rfl ?_)
  show wpAny _ _ (slotLetsGo _ (.ref q) _ >>= _) _ _ s'
  refine wpAny_bind ?_
  unfold slotLetsGo
  show wpAny _ _ (borrowsExactly (.ref q) >>= _) _ _ s'
  refine wpAny_bind (borrows_meth hq' ?_)
  rw [if_pos rfl]
  refine wpAny_pure ?_
  show wpAny _ _ (setField (.ref I) 0 .none >>= _) _ _ s'
  refine wpAny_bind (wpAny_setField_rec hI' (by simp) fun h1 e1 k1 => ?_)
  show wpAny _ _ (setField (.ref I) 1 .none >>= _) _ _ _
  refine wpAny_bind (wpAny_setField_rec e1 (by simp) fun h2 e2 k2 => ?_)
  show wpAny _ _ (setField (.ref I) 2 (.bool true)) _ _ _
  refine wpAny_setField_rec e2 (by simp) fun h3 e3 k3 => ?_
  show wpAny _ _ (newExc (.type "StopIteration") [] >>= _) _ _ _
  refine wpAny_bind ?_
  simp only [newExc, newTuple]
  refine wpAny_bind (wpAny_newObj_type ?_ (by size_fits))
  refine wpAny_bind (m := firstArgMember _ _) (wpAny_of_eq (a := Value.none) (by first | rfl | (simp only [firstArgMember]; rfl)) ?_)
  refine wpAny_newObj_type ?_ (by size_fits)
  unfold raiseNew
  refine wpAny_bind (wpAny_handled ?_)
  rw [show A.in1.handled = none from hh]
  refine wpAny_bind (wpAny_pure (wpAny_throw ?_))
  refine wpAny_bind (wpAny_isInstance (T := "StopIteration") (b := true) ⟨_, Heap.get?_push_size _ rfl, rfl⟩ isSubtype_stop ?_)
  refine wpAny_pure (hQ _ ?_ ?_)
  · exact Heap.get?_push_of_some _ (Heap.get?_push_of_some _ e3)
  · intro b o hb e
    exact Heap.get?_push_of_some _ (Heap.get?_push_of_some _ ((k3.2 b hb).trans ((k2.2 b hb).trans ((k1.2 b hb).trans e))))
end
section
set_option maxRecDepth 100000
set_option maxHeartbeats 2000000
open PySem.Spec PySem.Calls PyProof.V
theorem fn_ga : typeLookup (.type "function") "__getattribute__" = pure (some (.builtin "object.__getattribute__")) := by rw [typeLookup_type, builtinLookup_eq_fast]; kernel_rfl
theorem fn_hook : typeLookup (.type "function") "__getattr__" = pure none := by rw [typeLookup_type, builtinLookup_eq_fast]; kernel_rfl
theorem fn_read : typeLookup (.type "function") "read" = pure none := by rw [typeLookup_type, builtinLookup_eq_fast]; kernel_rfl
theorem fn_canon : Manifest.canonical "object.__getattribute__" = "object.__getattribute__" := by decide +kernel
theorem fn_setattr : typeLookup (.type "function") "__setattr__" = pure (some (.builtin "object.__setattr__")) := by rw [typeLookup_type, builtinLookup_eq_fast]; kernel_rfl
theorem slot_fn_ga : Slot "function" "__getattribute__" "object.__getattribute__" :=
  .of (owner := "object") (n := "__getattribute__") fn_ga (by decide +kernel) (by decide +kernel) (by decide +kernel)
    (by first | exact .inl (by decide +kernel) | exact .inr (by decide +kernel)) (by rw [isSubtype_type]; kernel_rfl)
theorem entry_obj_ga : entryFor table "object.__getattribute__" = some Builtin.«object.__getattribute__» := entryFor_of_tree (by kernel_rfl)
theorem args_obj_ga (a b : Value) : argsOk "object.__getattribute__" ⟨[a, b], []⟩ := by unfold argsOk; kernel_rfl
theorem fn_getAttr {prog : Program} {w : World} {A : Around} {E : Value → Shared → Prop} {s : Shared} {st dd : Addr} {fo : Obj} {mm : Str → Option Value} {f : Addr} {Q : Value → Shared → Prop}
    (hst : s.heap.get? st = some fo) (hc : fo.cls = .type "function") (hdict : fo.dict = some dd) (hns : s.heap.Ns dd mm) (hv : mm "read" = some (.ref f)) {fd : FuncData} (hfd : fo.data = .func fd)
    (h : Q (.ref f) { s with toks := s.toks + 1 }) : wpAny (model prog w) A (getAttr (.ref st) "read") Q E s := by
  obtain ⟨hh, g, d, t, os⟩ := s
  have hT : ∀ tk, Shared.TypeIs (⟨hh, g, d, tk, os⟩ : Shared) (.ref st) "function" := fun tk => ⟨_, hst, hc⟩
  unfold getAttr getAttrBy
  refine wpAny_bind (wpAny_mkText (wpAny_holding (wpAny_bind (wpAny_typeOf (hT _) ?_))))
  refine wpAny_bind (wpAny_of_eq fn_ga ?_)
  dsimp only
  rw [if_neg (by decide)]
  unfold getAttrByItsOwn
  refine wpAny_bind (wpAny_of_eq (show hookBefore (.type "function") = pure none from rfl) ?_)
  refine wpAny_bind (wpAny_attempt (wpAny_holding ?_))
  unfold callGetattribute
  rw [if_neg (by simp)]
  unfold boundAndCalled
  refine wpAny_bind (wpAny_of_eq (slot_fn_ga.bind _) ?_)
  refine wpAny_call_entry slot_fn_ga (hT _) entry_obj_ga ?_ (args_obj_ga _ _)
  unfold Builtin.«object.__getattribute__»
  refine wpAny_bind (wpAny_of_eq (a := (Value.ref st, [Value.str "read" t])) rfl ?_)
  dsimp only
  refine wpAny_bind (wpAny_of_eq (a := ("read" : Str)) rfl ?_)
  refine wpAny_bind (wpAny_typeOf (hT _) ?_)
  unfold Builtin.ObjectAttr.find
  refine wpAny_bind ?_
  refine wpAny_bind (wpAny_of_eq fn_read ?_)
  refine wpAny_bind (wpAny_of_eq (a := none) rfl ?_)
  refine wpAny_bind (wpAny_of_eq (a := none) rfl ?_)
  dsimp only
  unfold Builtin.ObjectAttr.ownThenClass
  refine wpAny_bind ?_
  show wpAny _ _ (Builtin.ObjectAttr.ownDict st >>= _) _ _ _
  unfold Builtin.ObjectAttr.ownDict
  refine wpAny_bind ?_
  refine wpAny_bind (wpAny_loadPart_at hst ?_)
  rw [hfd]
  dsimp only
  unfold instanceDict
  refine wpAny_bind (wpAny_loadPart_at hst ?_)
  rw [hc, hdict]
  dsimp only
  refine wpAny_bind (wpAny_pure (wpAny_pure ?_))
  unfold Builtin.ObjectAttr.inDict
  refine wpAny_nsGet hns ?_
  rw [hv]
  dsimp only
  refine wpAny_bind (wpAny_rule (wpAny_pure ?_))
  dsimp only
  exact wpAny_pure ⟨_, rfl, wpAny_pure h⟩
theorem fn_getMethod {prog : Program} {w : World} {A : Around} {E : Value → Shared → Prop} {s : Shared} {st dd : Addr} {fo : Obj} {mm : Str → Option Value} {f : Addr} {pl : Sem Bool} {Q : Value × List Value → Shared → Prop}
    (hst : s.heap.get? st = some fo) (hc : fo.cls = .type "function") (hdict : fo.dict = some dd) (hns : s.heap.Ns dd mm) (hv : mm "read" = some (.ref f)) {fd : FuncData} (hfd : fo.data = .func fd)
    (h : ∀ tk, Q (.ref f, []) { s with toks := tk }) : wpAny (model prog w) A (getMethod (.ref st) "read" pl) Q E s := by
  have hT : s.TypeIs (.ref st) "function" := ⟨_, hst, hc⟩
  unfold getMethod
  refine wpAny_bind (wpAny_specialOf hT fn_ga ?_)
  dsimp only
  rw [if_neg (by rw [fn_canon]; decide)]
  refine wpAny_bind (wpAny_specialOf hT fn_hook ?_)
  rw [if_neg (by decide)]
  refine wpAny_bind (wpAny_specialOf hT fn_read ?_)
  exact wpAny_bind (fn_getAttr hst hc hdict hns hv hfd (wpAny_pure (h _)))
end
section
set_option maxRecDepth 100000
set_option maxHeartbeats 2000000
open PySem.Spec PySem.Calls PyProof.V
theorem slot_fn_sa : Slot "function" "__setattr__" "object.__setattr__" :=
  .of (owner := "object") (n := "__setattr__") fn_setattr (by decide +kernel) (by decide +kernel) (by decide +kernel)
    (by first | exact .inl (by decide +kernel) | exact .inr (by decide +kernel)) (by rw [isSubtype_type]; kernel_rfl)
theorem entry_obj_sa : entryFor table "object.__setattr__" = some Builtin.«object.__setattr__» := entryFor_of_tree (by kernel_rfl)
theorem args_obj_sa (a b c : Value) : argsOk "object.__setattr__" ⟨[a, b, c], []⟩ := by unfold argsOk; kernel_rfl
theorem fn_mro : mroOf (.type "function") = pure [.type "function", .type "object"] := by with_unfolding_all rfl
theorem fn_store {prog : Program} {w : World} {A : Around} {E : Value → Shared → Prop} {h : Heap} {g : Array GenState} {d : Drawn} {t : Nat} {os : OsState} {st : Addr} {fo : Obj} {fd : FuncData} {v : Value} {tk : Tok} {Q : Fin → Shared → Prop}
    (hst : h.get? st = some fo) (hc : fo.cls = .type "function") (hdn : fo.dict = none) (hfd : fo.data = .func fd)
    (hq : ∀ h' tk' oD, h'.get? st = some { fo with dict := some h.objs.size } → h'.get? h.objs.size = some oD → h'.Ns h.objs.size (fun y => if y = Str.ofString "read" then some v else none) → (∀ b o, b ≠ st → h.get? b = some o → h'.get? b = some o) → Q (.done (.ret .none)) ⟨h', g, d, tk', os⟩) :
    wpAny (model prog w) A (Builtin.«object.__setattr__» ⟨[.ref st, .str (Str.ofString "read") tk, v], []⟩) Q E ⟨h, g, d, t, os⟩ := by
  unfold Builtin.«object.__setattr__»
  have hpass : refuseLoop (.ref st) "__setattr__" [.type "function", .type "object"] = pure () := by with_unfolding_all rfl
  have hmro : ∀ {M : Model} {A' : Around} {E' : Value → Shared → Prop} {R : List Value → Shared → Prop} {s' : Shared}, R [.type "function", .type "object"] s' → wpAny M A' (mroOf (.type "function")) R E' s' := fun h => wpAny_of_eq fn_mro h
  repeat (first | rw [refuse_eq] | rw [hpass] | (with_reducible refine wpAny_loadPart_at hst ?_; rw [hc]) | with_reducible refine hmro ?_ | with_reducible refine wpAny_of_eq fn_read ?_ | wp_step)
  have hx₁ : (h.push { cls := .type "dict", data := .dict #[] }).get? st = some fo := Heap.get?_push_of_some _ hst
  have hxs : st ≠ h.objs.size := Nat.ne_of_lt (Heap.lt_size hst)
  have hfr := (Heap.get?_some_iff.mp hst).2
  rw [hdn, if_neg (by decide +kernel), hfd]
  dsimp only
  refine wpAny_bind (wpAny_alloc' ?_)
  refine wpAny_bind (wpAny_update' hx₁ ?_)
  refine wpAny_pure ?_
  have hgd : ((h.push { cls := .type "dict", data := .dict #[] }).update st fun o => { cls := o.cls, dict := some h.objs.size, data := o.data, slots := o.slots }).get? h.objs.size = some { cls := .type "dict", data := .dict #[] } :=
    (Heap.get?_update_ne _ _ _ _ hxs.symm).trans (Heap.get?_push_at rfl rfl)
  have hnd : ((h.push { cls := .type "dict", data := .dict #[] }).update st fun o => { cls := o.cls, dict := some h.objs.size, data := o.data, slots := o.slots }).Ns h.objs.size (fun _ => none) :=
    ⟨_, #[], _, hgd, rfl, fun e he => absurd he (by simp), fun _ => rfl⟩
  show wpAny _ _ (Builtin.ObjectAttr.storeInDict h.objs.size (.str "read" tk) "read" v) _ _ _
  unfold Builtin.ObjectAttr.storeInDict Builtin.ObjectAttr.newKeyGuard
  refine wpAny_bind (wpAny_pure (wpAny_bind (wpAny_nsSet1 (Heap.Ns1.of_empty hnd) fun h' hn' hs => ?_)))
  obtain ⟨oD, esD, epD, hoD, hdD, hcD⟩ := hn'.count (Within.cons (Str.ofString "read") v Within.nil)
  refine wpAny_bind (wpAny_lookBehind hoD (by rw [hdD]; exact pastItsLine_dict (Nat.le_trans hcD (by rw [List.length_cons, List.length_nil, sizeLine_eq]; omega))) ?_)
  refine wpAny_pure (hq h' _ oD ?_ hoD ?_ ?_)
  · refine (hs.2 st hxs).trans (Heap.get?_update_self _ hx₁ ?_)
    obtain ⟨oc, od, odt, osl⟩ := fo
    cases odt <;> first | rfl | exact hfr
  · obtain ⟨o', es, ep, e1, e2, e3, eu, e4⟩ := hn'
    exact ⟨o', es, ep, e1, e2, e3, fun y => by rw [e4 y]⟩
  · intro b ob hb he
    exact (hs.2 b (Nat.ne_of_lt (Heap.lt_size he))).trans ((Heap.get?_update_ne _ _ _ _ hb).trans (Heap.get?_push_of_some _ he))
/- an object that is a namespace wherever it lies -/
noncomputable def IsNsO (o : Obj) (m : Str → Option Value) : Prop := ∀ (h : Heap) (a : Addr), h.get? a = some o → h.Ns a m
theorem isNsO_of {h : Heap} {a : Addr} {o : Obj} {m : Str → Option Value} (ho : h.get? a = some o) (hn : h.Ns a m) : IsNsO o m := by
  obtain ⟨o', es, ep, e1, e2, e3, e4⟩ := hn
  obtain rfl : o = o' := Option.some.inj (ho.symm.trans e1)
  exact fun h' a' e => ⟨o, es, ep, e, e2, e3, e4⟩
theorem fn_setAttr {prog : Program} {w : World} {A : Around} {E : Value → Shared → Prop} {s : Shared} {h₀ : Heap} {L : Addr} {m : Str → Option Value} {news : List (Addr × Obj)} {g : Obj → List (Addr × Obj)} {st : Addr} {fo : Obj} {fd : FuncData} {v : Value} {Q : Unit → Shared → Prop}
    (F : Fr h₀ L s.heap m) (N : News h₀ L s.heap news) (_hm : (st, fo) ∈ news) (U : UpdF st fo news g) (hc : fo.cls = .type "function") (hdn : fo.dict = none) (hfd : fo.data = .func fd)
    (h : ∀ D oD h' tk, Fr h₀ L h' m → News h₀ L h' ((D, oD) :: g { fo with dict := some D }) → (∀ p ∈ news, p.1 < D) → IsNsO oD (fun y => if y = Str.ofString "read" then some v else none) → Q () { s with heap := h', toks := tk }) :
    wpAny (model prog w) A (setAttr (.ref st) "read" v) Q E s := by
  obtain ⟨pre, post, rfl, hg, a, b⟩ := U.split
  obtain ⟨hh, gg, d, t, os⟩ := s
  have hst := (N (st, fo) (List.mem_append_right _ (.head _)))
  have hT : ∀ tk, Shared.TypeIs (⟨hh, gg, d, tk, os⟩ : Shared) (.ref st) "function" := fun tk => ⟨_, hst.1, hc⟩
  unfold setAttr
  refine wpAny_bind (wpAny_mkText ?_)
  refine wpAny_bind (wpAny_callSpecial?_slot (name := "__setattr__") (hT _) slot_fn_sa (wpAny_call_entry slot_fn_sa (hT _) entry_obj_sa (fn_store hst.1 hc hdn hfd fun h' tk' oD e1 e2 e3 e4 => ?_) (args_obj_sa _ _ _)))
  refine ⟨_, rfl, wpAny_pure (h hh.objs.size oD h' tk' ?_ ?_ ?_ (isNsO_of e2 e3))⟩
  · have hLs : L ≠ st := fun e => hst.2.1 e.symm
    exact ⟨F.ns.at' fun o e => e4 L o hLs e, fun b o e => e4 b o (fun q => by rw [q, hst.2.2] at e; cases e) (F.keep b o e), F.above⟩
  · rw [hg]
    intro p hp
    rcases List.mem_cons.mp hp with rfl | hp
    · exact ⟨e2, fun q => absurd F.ns.lt (by rw [← q]; exact Nat.lt_irrefl _), next_is_new F⟩
    · rcases List.mem_append.mp hp with hp | hp
      · have q := N p (List.mem_append_left _ hp)
        exact ⟨e4 _ _ (a p hp) q.1, q.2⟩
      · rcases List.mem_cons.mp hp with rfl | hp
        · exact ⟨e1, hst.2⟩
        · have q := N p (List.mem_append_right _ (.tail _ hp))
          exact ⟨e4 _ _ (b p hp) q.1, q.2⟩
  · exact fun p hp => Heap.lt_size (N p hp).1
end
section
set_option hygiene false in
local macro_rules | `(tactic| omega) => `(tactic| walk_at "MY om")
section
set_option maxRecDepth 100000
set_option maxHeartbeats 2000000
open PySem.Spec PySem.Calls PyProof.Rows.LCg
theorem own_of {h : Heap} : ∀ l : List Addr, (∀ b ∈ l, ∃ o, h.get? b = some o) → ∃ own : List (Addr × Obj), own.map (·.1) = l ∧ ∀ p ∈ own, h.get? p.1 = some p.2
  | [], _ => ⟨[], rfl, fun p hp => nomatch hp⟩
  | b :: l, hb => by
    obtain ⟨o, ho⟩ := hb b (.head _)
    obtain ⟨own, e1, e2⟩ := own_of l fun c hc => hb c (.tail _ hc)
    refine ⟨(b, o) :: own, by rw [List.map_cons, e1], fun p hp => ?_⟩
    rcases List.mem_cons.mp hp with rfl | hp
    · exact ho
    · exact e2 p hp
theorem comp_loop_tup {prog : Program} {w : World} {A : Around} {s : Shared} {elt iter : Expr} {elts : List Expr} {x1} {tp : Pos} {scope : Scope} {pos : Pos} {it acc : Value} {env : Env} {R : Result → Shared → Prop} (I : Nat → Shared → Prop)
    (turn : ∀ n s, I n s → wpAny (model prog w) A (pyNext it) (fun r s₁ => match r with
      | none => R (.ok .next) s₁
      | some v => wpAny (model prog w) A (letOwnedTupleGo (.Tuple elts x1 tp) it v) (fun _ s₁' => wpAny (model prog w) A (assign (.Tuple elts x1 tp) env v) (fun _ s₂ =>
          wpAny (model prog w) A (eval elt env) (fun x s₄ =>
              wpAny (model prog w) A (call (.builtin "list.append") [acc, x]) (fun _ s₅ => ∃ m, m < n ∧ I m s₅) (notedBy (model prog w) A env fun e s' => R (.error e) s') s₄) (notedBy (model prog w) A env fun e s' => R (.error e) s') s₂)
          (notedBy (model prog w) A env fun e s' => R (.error e) s') s₁') (notedBy (model prog w) A env fun e s' => R (.error e) s') s₁) (notedBy (model prog w) A env fun e s' => R (.error e) s') s)
    (n : Nat) (h : I n s) : codeAny (model prog w) A (.compLoop (.ListComp elt [⟨.Tuple elts x1 tp, iter, [], 0⟩] scope pos) 0 it acc env) R s :=
  LCp.codeAny_compLoop_pair I turn n h
/- storing an unpacked tuple into the block's names -/
noncomputable def Puts (prog : Program) (w : World) (A : Around) (env : Env) (elts : List Expr) (G : Array Value → (Str → Option Value) → Prop) (Pt : Nat → Array Value → Prop) : Prop :=
  ∀ (i T : Nat) (vals : Array Value) (s : Shared) (m' : Str → Option Value) (Q : Unit → Shared → Prop) (E : Value → Shared → Prop), Pt i vals → IsTup s.heap T vals → s.heap.Ns env.locals m' →
    (∀ h' m'' tk', h'.Ns env.locals m'' → G vals m'' → (∀ b o, b ≠ env.locals → s.heap.get? b = some o → h'.get? b = some o) → Q () { s with heap := h', toks := tk' }) →
    ∀ x1 tp, wpAny (model prog w) A (assign (.Tuple elts x1 tp) env (.ref T)) Q E s
theorem puts2 {prog : Program} {w : World} {A : Around} {env : Env} {x x₂ : Str} {px px₂ : Pos} {Pt : Nat → Array Value → Prop} (hh : A.handled = none) (hPt : ∀ i vals, Pt i vals → ∃ a b, vals = #[a, b])
    (hx : env.kindOf x = some .local) (hx₂ : env.kindOf x₂ = some .local) (hxx : x ≠ x₂) (hp : (env.scope.kind == .class || (env.scope.kind == .module && env.locals != env.globals)) = false) :
    Puts prog w A env [.Name x px, .Name x₂ px₂] (fun vals m => ∃ a b, vals = #[a, b] ∧ m x = some a ∧ m x₂ = some b) Pt := by
  intro i T vals s m' Q E hv ht hn hQ x1 tp
  obtain ⟨a, b, rfl⟩ := hPt _ _ hv
  refine assign_Tuple_tuple hh ht rfl rfl fun h₁ he => ?_
  have he' : ∀ b o, s.heap.get? b = some o → h₁.get? b = some o := fun b o e => he b o (Nat.ne_of_lt (Heap.lt_size e)) e
  refine assignInOrder_cons (wpAny_assign_Name (wpAny_storeName_local hx (hn.at' fun o e => he' _ o e) (fun h₂ hn₂ hs₂ => ?_) hp))
  refine assignInOrder_cons (wpAny_assign_Name (wpAny_storeName_local hx₂ hn₂ (fun h₃ hn₃ hs₃ => ?_) hp))
  refine assignInOrder_nil (hQ h₃ _ _ hn₃ ⟨a, b, rfl, by simp [hxx], by simp⟩ fun c o hc e => hs₃.extBut c o hc (hs₂.extBut c o hc (he' c o e)))
theorem puts3 {prog : Program} {w : World} {A : Around} {env : Env} {x x₂ x₃ : Str} {px px₂ px₃ : Pos} {Pt : Nat → Array Value → Prop} (hh : A.handled = none) (hPt : ∀ i vals, Pt i vals → ∃ a b c, vals = #[a, b, c])
    (hx : env.kindOf x = some .local) (hx₂ : env.kindOf x₂ = some .local) (hx₃ : env.kindOf x₃ = some .local) (hxx : x ≠ x₂) (hx13 : x ≠ x₃) (hx23 : x₂ ≠ x₃) (hp : (env.scope.kind == .class || (env.scope.kind == .module && env.locals != env.globals)) = false) :
    Puts prog w A env [.Name x px, .Name x₂ px₂, .Name x₃ px₃] (fun vals m => ∃ a b c, vals = #[a, b, c] ∧ m x = some a ∧ m x₂ = some b ∧ m x₃ = some c) Pt := by
  intro i T vals s m' Q E hv ht hn hQ x1 tp
  obtain ⟨a, b, c, rfl⟩ := hPt _ _ hv
  refine assign_Tuple_tuple hh ht rfl rfl fun h₁ he => ?_
  have he' : ∀ b o, s.heap.get? b = some o → h₁.get? b = some o := fun b o e => he b o (Nat.ne_of_lt (Heap.lt_size e)) e
  refine assignInOrder_cons (wpAny_assign_Name (wpAny_storeName_local hx (hn.at' fun o e => he' _ o e) (fun h₂ hn₂ hs₂ => ?_) hp))
  refine assignInOrder_cons (wpAny_assign_Name (wpAny_storeName_local hx₂ hn₂ (fun h₃ hn₃ hs₃ => ?_) hp))
  refine assignInOrder_cons (wpAny_assign_Name (wpAny_storeName_local hx₃ hn₃ (fun h₄ hn₄ hs₄ => ?_) hp))
  refine assignInOrder_nil (hQ h₄ _ _ hn₄ ⟨a, b, c, rfl, by simp [hxx, hx13], by simp [hx23], by simp⟩ fun c o hc e => hs₄.extBut c o hc (hs₃.extBut c o hc (hs₂.extBut c o hc (he' c o e))))
section
variable {prog : Program} {w : World} {A : Around} {E : Value → Shared → Prop} {s : Shared} {h₀ : Heap} {L : Addr} {m : Str → Option Value} {env : Env}
/- the element of a turn: it changes nothing -/
noncomputable def EltOk (prog : Program) (w : World) (A : Around) (h₀ : Heap) (L : Addr) (m : Str → Option Value) (env : Env) (elt : Expr) (scope : Scope) (cl : List (Str × Addr)) (s₂ : Shared) (I : Addr) (news : List (Addr × Obj)) (n : Nat) (Pt : Nat → Array Value → Prop)
    (G : Array Value → (Str → Option Value) → Prop) (R : Nat → Value → Prop) : Prop :=
  ∀ i vals ys oI C oC D m₂ h tk led (E' : Value → Shared → Prop), i < n → Pt i vals → NsObj oC m₂ → G vals m₂ → Fr h₀ L h m → News h₀ L h ((I, oI) :: (C, oC) :: (D, lst ys) :: led) → Off3 I C D led → (∀ p ∈ news, p ∈ led) → ((@Ne Nat I C) ∧ (@Ne Nat I D) ∧ (@Ne Nat C D)) →
    wpAny (model prog w) A (eval elt (compEnvC scope cl C env)) (CompEnd h₀ L m { s₂ with heap := h, toks := tk } I oI C oC D (lst ys) (fun nw => nw = led) (fun y _ => R i y)) E' { s₂ with heap := h, toks := tk }
inductive LZJ (h₀ : Heap) (L : Addr) (s₂ : Shared) (n : Nat) (St : Nat → Heap → Prop) (m : Str → Option Value) (C D : Addr) (news : List (Addr × Obj)) (R : Nat → Value → Prop) (k : Nat) (s' : Shared) : Prop
  | mk (h' : Heap) (tk i : Nat) (ys : List Value) (m' : Str → Option Value) (e : s' = { s₂ with heap := h', toks := tk }) (q1 : i ≤ n) (q2 : k = n + 1 - i) (q3 : ys.length = i) (q4 : St i h') (q5 : Fr h₀ L h' m) (q6 : h'.Ns C m') (q7 : News h₀ L h' ((D, lst ys) :: news)) (q8 : ∀ j y, ys[j]? = some y → R j y)
end
namespace lz_block
noncomputable def S (prog : Program) (w : World) (A : Around) (E : Value → Shared → Prop) (h₀ : Heap) (L : Addr) (m : Str → Option Value) (env : Env) (elt : Expr) (iter : Expr) (elts : List Expr) (x1 : Nat) (tp : Pos) (scope : Scope) (cl : List (Str × Addr)) (pos : Pos) (s₂ : Shared) (I : Addr) (fp : List Addr) (wr : List Addr) (n : Nat) (Pt : Nat → Array Value → Prop) (St : Nat → Heap → Prop) (Mid : Nat → Addr → Heap → Prop) (news : List (Addr × Obj)) (R : Nat → Value → Prop) (G : Array Value → (Str → Option Value) → Prop) (RR : Value → Addr → Result → Shared → Prop) : Prop :=
  ∀ (W : WalksU prog w A I (I :: fp) wr n Pt St Mid)  (hsz : n ≤ sizeLine)  (hIo : ∀ i h, St i h → ∀ b ∈ I :: fp, ∃ o, h.get? b = some o)  (hIfp : I ∉ fp)  (hputs : ∀ C, Puts prog w A (compEnvC scope cl C env) elts G Pt)  (hcell : ∀ y ∈ scope.names, y.2 ≠ .cell)  (hkind : scope.kind = .function)  (hst : St 0 s₂.heap)  (hfp : ∀ b ∈ I :: fp, b < s₂.heap.objs.size)  (F : Fr h₀ L s₂.heap m)  (N : News h₀ L s₂.heap news)  (hfL : ∀ b ∈ I :: fp, b ≠ L)  (hf₀ : ∀ b ∈ I :: fp, h₀.get? b = none)  (off : ∀ p ∈ news, p.1 ∉ wr)  (hwI : ∀ b ∈ wr, b ∈ I :: fp)  (offI : ∀ p ∈ news, p.1 ≠ I)  (hel : EltOk prog w A h₀ L m env elt scope cl s₂ I news n Pt G R)  (hRR : ∀ D C h tk m' ys, Fr h₀ L h m → News h₀ L h ((D, lst ys) :: news) → (∀ p ∈ news, p.1 < D) → h.Ns C m' → h₀.get? C = none → C ≠ L → C ≠ D → (∀ p ∈ news, p.1 ≠ C) → ys.length = n → (∀ j y, ys[j]? = some y → R j y) → RR (.ref D) C (.ok .next) { s₂ with heap := h, toks := tk }),
    wpAny (model prog w) A (newList []) (fun acc s₃ => wpAny (model prog w) A (newFunctionEnv scope env.globals cl [] env.qual none .none (some env)) (fun cenv s₄ =>
      codeAny (model prog w) A (.compStart (.ListComp elt [⟨.Tuple elts x1 tp, iter, [], 0⟩] scope pos) 0 (.ref I) acc { cenv with scope := relabel scope env }) (RR acc cenv.locals) s₄) E s₃) E s₂
theorem c₁ : Nonempty {t : Program × World × Around × (Value → Shared → Prop) × Heap × Addr × (Str → Option Value) × Env × Expr × Expr × (List Expr) × Nat × Pos × Scope × (List (Str × Addr)) × Pos × Shared × Addr × (List Addr) × (List Addr) × Nat × (Nat → Array Value → Prop) × (Nat → Heap → Prop) × (Nat → Addr → Heap → Prop) × (List (Addr × Obj)) × (Nat → Value → Prop) × (Array Value → (Str → Option Value) → Prop) × (Value → Addr → Result → Shared → Prop) // S t.1 t.2.1 t.2.2.1 t.2.2.2.1 t.2.2.2.2.1 t.2.2.2.2.2.1 t.2.2.2.2.2.2.1 t.2.2.2.2.2.2.2.1 t.2.2.2.2.2.2.2.2.1 t.2.2.2.2.2.2.2.2.2.1 t.2.2.2.2.2.2.2.2.2.2.1 t.2.2.2.2.2.2.2.2.2.2.2.1 t.2.2.2.2.2.2.2.2.2.2.2.2.1 t.2.2.2.2.2.2.2.2.2.2.2.2.2.1 t.2.2.2.2.2.2.2.2.2.2.2.2.2.2.1 t.2.2.2.2.2.2.2.2.2.2.2.2.2.2.2.1 t.2.2.2.2.2.2.2.2.2.2.2.2.2.2.2.2.1 t.2.2.2.2.2.2.2.2.2.2.2.2.2.2.2.2.2.1 t.2.2.2.2.2.2.2.2.2.2.2.2.2.2.2.2.2.2.1 t.2.2.2.2.2.2.2.2.2.2.2.2.2.2.2.2.2.2.2.1 t.2.2.2.2.2.2.2.2.2.2.2.2.2.2.2.2.2.2.2.2.1 t.2.2.2.2.2.2.2.2.2.2.2.2.2.2.2.2.2.2.2.2.2.1 t.2.2.2.2.2.2.2.2.2.2.2.2.2.2.2.2.2.2.2.2.2.2.1 t.2.2.2.2.2.2.2.2.2.2.2.2.2.2.2.2.2.2.2.2.2.2.2.1 t.2.2.2.2.2.2.2.2.2.2.2.2.2.2.2.2.2.2.2.2.2.2.2.2.1 t.2.2.2.2.2.2.2.2.2.2.2.2.2.2.2.2.2.2.2.2.2.2.2.2.2.1 t.2.2.2.2.2.2.2.2.2.2.2.2.2.2.2.2.2.2.2.2.2.2.2.2.2.2.1 t.2.2.2.2.2.2.2.2.2.2.2.2.2.2.2.2.2.2.2.2.2.2.2.2.2.2.2 → ∀ t : Program × World × Around × (Value → Shared → Prop) × Heap × Addr × (Str → Option Value) × Env × Expr × Expr × (List Expr) × Nat × Pos × Scope × (List (Str × Addr)) × Pos × Shared × Addr × (List Addr) × (List Addr) × Nat × (Nat → Array Value → Prop) × (Nat → Heap → Prop) × (Nat → Addr → Heap → Prop) × (List (Addr × Obj)) × (Nat → Value → Prop) × (Array Value → (Str → Option Value) → Prop) × (Value → Addr → Result → Shared → Prop), S t.1 t.2.1 t.2.2.1 t.2.2.2.1 t.2.2.2.2.1 t.2.2.2.2.2.1 t.2.2.2.2.2.2.1 t.2.2.2.2.2.2.2.1 t.2.2.2.2.2.2.2.2.1 t.2.2.2.2.2.2.2.2.2.1 t.2.2.2.2.2.2.2.2.2.2.1 t.2.2.2.2.2.2.2.2.2.2.2.1 t.2.2.2.2.2.2.2.2.2.2.2.2.1 t.2.2.2.2.2.2.2.2.2.2.2.2.2.1 t.2.2.2.2.2.2.2.2.2.2.2.2.2.2.1 t.2.2.2.2.2.2.2.2.2.2.2.2.2.2.2.1 t.2.2.2.2.2.2.2.2.2.2.2.2.2.2.2.2.1 t.2.2.2.2.2.2.2.2.2.2.2.2.2.2.2.2.2.1 t.2.2.2.2.2.2.2.2.2.2.2.2.2.2.2.2.2.2.1 t.2.2.2.2.2.2.2.2.2.2.2.2.2.2.2.2.2.2.2.1 t.2.2.2.2.2.2.2.2.2.2.2.2.2.2.2.2.2.2.2.2.1 t.2.2.2.2.2.2.2.2.2.2.2.2.2.2.2.2.2.2.2.2.2.1 t.2.2.2.2.2.2.2.2.2.2.2.2.2.2.2.2.2.2.2.2.2.2.1 t.2.2.2.2.2.2.2.2.2.2.2.2.2.2.2.2.2.2.2.2.2.2.2.1 t.2.2.2.2.2.2.2.2.2.2.2.2.2.2.2.2.2.2.2.2.2.2.2.2.1 t.2.2.2.2.2.2.2.2.2.2.2.2.2.2.2.2.2.2.2.2.2.2.2.2.2.1 t.2.2.2.2.2.2.2.2.2.2.2.2.2.2.2.2.2.2.2.2.2.2.2.2.2.2.1 t.2.2.2.2.2.2.2.2.2.2.2.2.2.2.2.2.2.2.2.2.2.2.2.2.2.2.2} := eps_ex ⟨(default, ⟨fun _ _ => 0, { strHash := fun _ => 0, shareClass := fun _ => 0, mergeTok := fun _ => default, idOf := fun _ => 0, idOfShared := fun _ _ => 0, followText := fun _ => true, idOfImm := fun _ => 0 }⟩, {}, default, default, default, default, default, default, default, default, default, default, default, default, default, {}, default, default, default, default, default, default, default, default, default, default, default)⟩ fun t => S t.1 t.2.1 t.2.2.1 t.2.2.2.1 t.2.2.2.2.1 t.2.2.2.2.2.1 t.2.2.2.2.2.2.1 t.2.2.2.2.2.2.2.1 t.2.2.2.2.2.2.2.2.1 t.2.2.2.2.2.2.2.2.2.1 t.2.2.2.2.2.2.2.2.2.2.1 t.2.2.2.2.2.2.2.2.2.2.2.1 t.2.2.2.2.2.2.2.2.2.2.2.2.1 t.2.2.2.2.2.2.2.2.2.2.2.2.2.1 t.2.2.2.2.2.2.2.2.2.2.2.2.2.2.1 t.2.2.2.2.2.2.2.2.2.2.2.2.2.2.2.1 t.2.2.2.2.2.2.2.2.2.2.2.2.2.2.2.2.1 t.2.2.2.2.2.2.2.2.2.2.2.2.2.2.2.2.2.1 t.2.2.2.2.2.2.2.2.2.2.2.2.2.2.2.2.2.2.1 t.2.2.2.2.2.2.2.2.2.2.2.2.2.2.2.2.2.2.2.1 t.2.2.2.2.2.2.2.2.2.2.2.2.2.2.2.2.2.2.2.2.1 t.2.2.2.2.2.2.2.2.2.2.2.2.2.2.2.2.2.2.2.2.2.1 t.2.2.2.2.2.2.2.2.2.2.2.2.2.2.2.2.2.2.2.2.2.2.1 t.2.2.2.2.2.2.2.2.2.2.2.2.2.2.2.2.2.2.2.2.2.2.2.1 t.2.2.2.2.2.2.2.2.2.2.2.2.2.2.2.2.2.2.2.2.2.2.2.2.1 t.2.2.2.2.2.2.2.2.2.2.2.2.2.2.2.2.2.2.2.2.2.2.2.2.2.1 t.2.2.2.2.2.2.2.2.2.2.2.2.2.2.2.2.2.2.2.2.2.2.2.2.2.2.1 t.2.2.2.2.2.2.2.2.2.2.2.2.2.2.2.2.2.2.2.2.2.2.2.2.2.2.2
noncomputable def c₀ : Program × World × Around × (Value → Shared → Prop) × Heap × Addr × (Str → Option Value) × Env × Expr × Expr × (List Expr) × Nat × Pos × Scope × (List (Str × Addr)) × Pos × Shared × Addr × (List Addr) × (List Addr) × Nat × (Nat → Array Value → Prop) × (Nat → Heap → Prop) × (Nat → Addr → Heap → Prop) × (List (Addr × Obj)) × (Nat → Value → Prop) × (Array Value → (Str → Option Value) → Prop) × (Value → Addr → Result → Shared → Prop) := (Classical.choice c₁).val
noncomputable def prog : Program := c₀.1
noncomputable def w : World := c₀.2.1
noncomputable def A : Around := c₀.2.2.1
noncomputable def E : Value → Shared → Prop := c₀.2.2.2.1
noncomputable def h₀ : Heap := c₀.2.2.2.2.1
noncomputable def L : Addr := c₀.2.2.2.2.2.1
noncomputable def m : Str → Option Value := c₀.2.2.2.2.2.2.1
noncomputable def env : Env := c₀.2.2.2.2.2.2.2.1
noncomputable def elt : Expr := c₀.2.2.2.2.2.2.2.2.1
noncomputable def iter : Expr := c₀.2.2.2.2.2.2.2.2.2.1
noncomputable def elts : List Expr := c₀.2.2.2.2.2.2.2.2.2.2.1
noncomputable def x1 : Nat := c₀.2.2.2.2.2.2.2.2.2.2.2.1
noncomputable def tp : Pos := c₀.2.2.2.2.2.2.2.2.2.2.2.2.1
noncomputable def scope : Scope := c₀.2.2.2.2.2.2.2.2.2.2.2.2.2.1
noncomputable def cl : List (Str × Addr) := c₀.2.2.2.2.2.2.2.2.2.2.2.2.2.2.1
noncomputable def pos : Pos := c₀.2.2.2.2.2.2.2.2.2.2.2.2.2.2.2.1
noncomputable def s₂ : Shared := c₀.2.2.2.2.2.2.2.2.2.2.2.2.2.2.2.2.1
noncomputable def I : Addr := c₀.2.2.2.2.2.2.2.2.2.2.2.2.2.2.2.2.2.1
noncomputable def fp : List Addr := c₀.2.2.2.2.2.2.2.2.2.2.2.2.2.2.2.2.2.2.1
noncomputable def wr : List Addr := c₀.2.2.2.2.2.2.2.2.2.2.2.2.2.2.2.2.2.2.2.1
noncomputable def n : Nat := c₀.2.2.2.2.2.2.2.2.2.2.2.2.2.2.2.2.2.2.2.2.1
noncomputable def Pt : Nat → Array Value → Prop := c₀.2.2.2.2.2.2.2.2.2.2.2.2.2.2.2.2.2.2.2.2.2.1
noncomputable def St : Nat → Heap → Prop := c₀.2.2.2.2.2.2.2.2.2.2.2.2.2.2.2.2.2.2.2.2.2.2.1
noncomputable def Mid : Nat → Addr → Heap → Prop := c₀.2.2.2.2.2.2.2.2.2.2.2.2.2.2.2.2.2.2.2.2.2.2.2.1
noncomputable def news : List (Addr × Obj) := c₀.2.2.2.2.2.2.2.2.2.2.2.2.2.2.2.2.2.2.2.2.2.2.2.2.1
noncomputable def R : Nat → Value → Prop := c₀.2.2.2.2.2.2.2.2.2.2.2.2.2.2.2.2.2.2.2.2.2.2.2.2.2.1
noncomputable def G : Array Value → (Str → Option Value) → Prop := c₀.2.2.2.2.2.2.2.2.2.2.2.2.2.2.2.2.2.2.2.2.2.2.2.2.2.2.1
noncomputable def RR : Value → Addr → Result → Shared → Prop := c₀.2.2.2.2.2.2.2.2.2.2.2.2.2.2.2.2.2.2.2.2.2.2.2.2.2.2.2
theorem main : S prog w A E h₀ L m env elt iter elts x1 tp scope cl pos s₂ I fp wr n Pt St Mid news R G RR := by
  unfold S
  intro W hsz hIo hIfp hputs hcell hkind hst hfp F N hfL hf₀ off hwI offI hel hRR
  refine wpAny_newObj_type (wpAny_newFunctionEnv hcell (by intro y hy; simp at hy) (fun h₁ hns₁ hsb₁ => ?_) hkind)
  dsimp only at hns₁ hsb₁ ⊢
  generalize hH2 : s₂.heap.push { cls := .type "list", dict := none, data := .seq ([] : List Value).toArray } = H2 at hns₁ hsb₁ ⊢
  have hC : H2.objs.size = s₂.heap.objs.size + 1 := by rw [← hH2, Heap.size_push]
  have hDC : s₂.heap.objs.size ≠ H2.objs.size := by rw [hC]; exact Nat.ne_of_lt (Nat.lt_succ_self _)
  have below : ∀ b, b < s₂.heap.objs.size → b ≠ H2.objs.size ∧ b ≠ s₂.heap.objs.size := fun b hb => ⟨by rw [hC]; exact Nat.ne_of_lt (Nat.lt_succ_of_lt hb), Nat.ne_of_lt hb⟩
  have hDf : s₂.heap.objs.size ∉ I :: fp := fun hm => Nat.lt_irrefl _ (hfp _ hm)
  have hCf : H2.objs.size ∉ I :: fp := fun hm => by have := hfp _ hm; rw [hC] at this; exact Nat.lt_irrefl _ (Nat.lt_of_succ_lt this)
  have hIlt : I < s₂.heap.objs.size := hfp I (.head _)
  have old : ∀ b o, s₂.heap.get? b = some o → h₁.get? b = some o := fun b o e => hsb₁.extBut b o (below b (Heap.lt_size e)).1 (Heap.get?_push_of_some _ (hH2 ▸ Heap.get?_push_of_some _ e))
  have hacc : h₁.get? s₂.heap.objs.size = some (lst []) := hsb₁.extBut _ _ hDC (Heap.get?_push_of_some _ (hH2 ▸ Heap.get?_push_size _ rfl))
  have hst₁ : St 0 h₁ := W.frame _ _ _ hst fun b _ o e => old b o e
  have fresh₀ : ∀ a, s₂.heap.objs.size ≤ a → h₀.get? a = none := fun a ha => by
    cases e : h₀.get? a with
    | none => rfl
    | some o' => exact absurd (Heap.lt_size (F.keep a o' e)) (Nat.not_lt.mpr ha)
  have hD₀ : h₀.get? s₂.heap.objs.size = none := fresh₀ _ (Nat.le_refl _)
  have hC₀ : h₀.get? H2.objs.size = none := fresh₀ _ (by rw [hC]; exact Nat.le_succ _)
  have hLlt : L < s₂.heap.objs.size := F.ns.lt
  have hDL : s₂.heap.objs.size ≠ L := Ne.symm (below L hLlt).2
  have hCL : H2.objs.size ≠ L := Ne.symm (below L hLlt).1
  have hCI : I ≠ H2.objs.size := (below I hIlt).1
  have hDI : I ≠ s₂.heap.objs.size := (below I hIlt).2
  have hLw : L ∉ wr := fun h => hfL L (hwI L h) rfl
  have nlt : ∀ p ∈ news, p.1 < s₂.heap.objs.size := fun p hp => Heap.lt_size (N p hp).1
  have fr_w : ∀ {h h' : Heap}, Fr h₀ L h m → (∀ b o, b ∉ wr → h.get? b = some o → h'.get? b = some o) → Fr h₀ L h' m := fun F' hk =>
    ⟨F'.ns.at' fun o e => hk L o hLw e, fun b o e => hk b o (fun hb => by rw [hf₀ b (hwI b hb)] at e; cases e) (F'.keep b o e), F'.above⟩
  have news_w : ∀ {h h' : Heap} {ys : List Value}, News h₀ L h ((s₂.heap.objs.size, lst ys) :: news) → (∀ b o, b ∉ wr → h.get? b = some o → h'.get? b = some o) → News h₀ L h' ((s₂.heap.objs.size, lst ys) :: news) := fun N' hk p hp =>
    ⟨hk _ _ (by
      rcases List.mem_cons.mp hp with rfl | hp
      · exact fun h => hDf (hwI _ h)
      · exact off p hp) (N' p hp).1, (N' p hp).2⟩
  have loop : ∀ s₃ : Shared, s₃ = { s₂ with heap := h₁, toks := s₂.toks + ([] : List (Str × Value)).length } →
      codeAny (model prog w) A (.compLoop (.ListComp elt [⟨.Tuple elts x1 tp, iter, [], 0⟩] scope pos) 0 (.ref I) (.ref s₂.heap.objs.size) (compEnvC scope cl H2.objs.size env))
        (RR (.ref s₂.heap.objs.size) H2.objs.size) s₃ := by
    rintro s₃ rfl
    refine comp_loop_tup
      (LZJ h₀ L s₂ n St m H2.objs.size s₂.heap.objs.size news R) ?_ (n + 1)
      ⟨h₁, _, 0, [], _, rfl, Nat.zero_le _, rfl, rfl, hst₁, F.keeps old, hns₁, fun p hp => ?_, fun j y h => by simp at h⟩
    · rintro k s' ⟨h', tk, i, ys, m', rfl, hi, rfl, hyl, hst', F', hn', N', hR'⟩
      by_cases hlt : i < n
      · refine W.item i _ _ _ hlt hst' fun T vals h₂ tk₂ hPv hT hMid hk₂ => ?_
        refine W.go _ _ _ i T _ _ _ hMid fun h₃ hst₃ hk₃ => ?_
        have hTw := W.apart _ _ _ hMid
        have hk23 : ∀ b o, b ∉ wr → h'.get? b = some o → h₃.get? b = some o := fun b o hb e => hk₃ b o hb (hk₂ b o hb e)
        have hT₃ : IsTup h₃ T vals := by obtain ⟨o, e, r⟩ := hT; exact ⟨o, hk₃ _ _ hTw e, r⟩
        have hCw : H2.objs.size ∉ wr := fun h => hCf (hwI _ h)
        have hn₃ : h₃.Ns H2.objs.size m' := hn'.at' fun o e => hk23 _ o hCw e
        refine hputs H2.objs.size i T vals _ m' _ _ hPv hT₃ hn₃ (fun h₄ m₄ tk₄ hn₄ hG hk₄ => ?_) _ _
        have hk₄ : ∀ b o, b ≠ H2.objs.size → h₃.get? b = some o → h₄.get? b = some o := hk₄
        have hn₄ : h₄.Ns H2.objs.size m₄ := hn₄
        have F₄ : Fr h₀ L h₄ m := by
          have F₃ := fr_w F' hk23
          exact ⟨F₃.ns.at' fun o e => hk₄ L o (Ne.symm hCL) e, fun b o e => hk₄ b o (fun q => by rw [q, hC₀] at e; cases e) (F₃.keep b o e), F₃.above⟩
        have N₄ : News h₀ L h₄ ((s₂.heap.objs.size, lst ys) :: news) := fun p hp => ⟨hk₄ _ _ (by
          rcases List.mem_cons.mp hp with rfl | hp
          · exact hDC
          · exact (below _ (nlt p hp)).1) (news_w N' hk23 p hp).1, (N' p hp).2⟩
        have hst₄ : St (i + 1) h₄ := W.frame _ _ _ hst₃ fun b hb o e => hk₄ b o (fun q => hCf (by rw [← q]; exact hb)) e
        have hobs := hIo _ _ hst₄
        obtain ⟨oI, heI⟩ := hobs I (.head _)
        obtain ⟨own, own1, own2⟩ := own_of fp fun b hb => hobs b (.tail _ hb)
        obtain ⟨oC, heC, hoC⟩ := ns_obj hn₄
        have ownfp : ∀ p ∈ own, p.1 ∈ fp := fun p hp => own1 ▸ List.mem_map.mpr ⟨p, hp, rfl⟩
        have N₅ : News h₀ L h₄ ((I, oI) :: (H2.objs.size, oC) :: (s₂.heap.objs.size, lst ys) :: (own ++ news)) := fun p hp => by
          rcases List.mem_cons.mp hp with rfl | hp
          · exact ⟨heI, hfL _ (.head _), hf₀ _ (.head _)⟩
          rcases List.mem_cons.mp hp with rfl | hp
          · exact ⟨heC, hCL, hC₀⟩
          rcases List.mem_cons.mp hp with rfl | hp
          · exact N₄ _ (.head _)
          rcases List.mem_append.mp hp with hp | hp
          · exact ⟨own2 p hp, hfL _ (.tail _ (ownfp p hp)), hf₀ _ (.tail _ (ownfp p hp))⟩
          · exact N₄ p (.tail _ hp)
        have offA : Off3 I H2.objs.size s₂.heap.objs.size (own ++ news) := Off3.of fun p hp => by
          rcases List.mem_append.mp hp with hp | hp
          · exact ⟨fun q => hIfp (q ▸ ownfp p hp), fun q => hCf (q ▸ .tail _ (ownfp p hp)), fun q => hDf (q ▸ .tail _ (ownfp p hp))⟩
          · exact ⟨offI p hp, (below _ (nlt p hp)).1, (below _ (nlt p hp)).2⟩
        refine wpAny_mono (hel i vals ys oI H2.objs.size oC s₂.heap.objs.size m₄ h₄ tk₄ (own ++ news) _ hlt hPv hoC hG F₄ N₅ offA (fun p hp => List.mem_append_right _ hp) ⟨hCI, hDI, Ne.symm hDC⟩) (fun y s₆ h₆ => ?_) fun _ _ e => e
        obtain ⟨h₆, tk₆, news₆, rfl, F₆, N₆, _, rfl, hy⟩ := h₆
        have zI := (N₆ (I, oI) List.mem_cons_self).1
        have zC := (N₆ (H2.objs.size, oC) (List.mem_cons_of_mem _ List.mem_cons_self)).1
        have zD := (N₆ (s₂.heap.objs.size, lst ys) (List.mem_cons_of_mem _ (List.mem_cons_of_mem _ List.mem_cons_self))).1
        have N₆' : News h₀ L h₆ (own ++ news) := fun p hp => N₆ p (List.mem_cons_of_mem _ (List.mem_cons_of_mem _ (List.mem_cons_of_mem _ hp)))
        have hst₆ : St (i + 1) h₆ := W.frame _ _ _ hst₄ fun b hb o e => by
          rcases List.mem_cons.mp hb with rfl | hb
          · rw [heI] at e; cases e; exact zI
          · rw [← own1] at hb
            obtain ⟨p, hp, rfl⟩ := List.mem_map.mp hb
            rw [own2 p hp] at e; cases e
            exact (N₆' p (List.mem_append_left _ hp)).1
        refine append_at (hsz := by show ys.toArray.size ≤ sizeLine; rw [List.size_toArray, hyl]; exact Nat.le_trans hi hsz) zD fun h₇ hs₇ hD₇ => ?_
        refine ⟨n + 1 - (i + 1), by omega, ⟨h₇, tk₆, i + 1, ys ++ [y], _, rfl, hlt, rfl, by rw [List.length_append, List.length_singleton, hyl], W.frame _ _ _ hst₆ fun b hb o e => hs₇.extBut b o (fun q => hDf (q ▸ hb)) e, F₆.change hs₇ hDL hD₀,
          (hoC.ns zC).sameBut hs₇ (Ne.symm hDC), fun p hp => ?_, fun j u hj => ?_⟩⟩
        · rcases List.mem_cons.mp hp with rfl | hp
          · exact ⟨hD₇.trans (congrArg some (lst_snoc ys y)), hDL, hD₀⟩
          · exact ⟨hs₇.extBut _ _ (below _ (nlt p hp)).2 (N₆' p (List.mem_append_right _ hp)).1, (N p hp).2⟩
        · rcases Nat.lt_trichotomy j ys.length with h | h | h
          · exact hR' j u (by rwa [List.getElem?_append_left h] at hj)
          · subst h; simp at hj; subst hj; rw [hyl]; exact hy
          · rw [List.getElem?_eq_none (by rw [List.length_append, List.length_singleton]; omega)] at hj; cases hj
      · obtain rfl : i = n := Nat.le_antisymm hi (Nat.not_lt.mp hlt)
        refine W.done _ _ _ hst' fun h₂ tk₂ hk₂ => ?_
        exact hRR _ _ h₂ tk₂ _ ys (fr_w F' hk₂) (news_w N' hk₂) nlt (hn'.at' fun o e => hk₂ _ o (fun h => hCf (hwI _ h)) e) hC₀ hCL (Ne.symm hDC) (fun p hp => (below _ (nlt p hp)).1) hyl hR'
    · rcases List.mem_cons.mp hp with rfl | hp
      · exact ⟨hacc, hDL, hD₀⟩
      · exact ⟨old _ _ (N p hp).1, (N p hp).2⟩
  exact codeAny_compStart_list (loop _ rfl) (W.self 0 _ _ _ hst₁ (loop _ rfl))
end lz_block
theorem lz_block {prog : Program} {w : World} {A : Around} {E : Value → Shared → Prop} {h₀ : Heap} {L : Addr} {m : Str → Option Value} {env : Env} {elt iter : Expr} {elts : List Expr} {x1 : Nat} {tp : Pos} {scope : Scope} {cl : List (Str × Addr)} {pos : Pos} {s₂ : Shared} {I : Addr} {fp wr : List Addr} {n : Nat} {Pt : Nat → Array Value → Prop} {St : Nat → Heap → Prop} {Mid : Nat → Addr → Heap → Prop} {news : List (Addr × Obj)}
    {R : Nat → Value → Prop} {G : Array Value → (Str → Option Value) → Prop} {RR : Value → Addr → Result → Shared → Prop}
    (W : WalksU prog w A I (I :: fp) wr n Pt St Mid) (hsz : n ≤ sizeLine) (hIo : ∀ i h, St i h → ∀ b ∈ I :: fp, ∃ o, h.get? b = some o) (hIfp : I ∉ fp)
    (hputs : ∀ C, Puts prog w A (compEnvC scope cl C env) elts G Pt)
    (hcell : ∀ y ∈ scope.names, y.2 ≠ .cell) (hkind : scope.kind = .function) (hst : St 0 s₂.heap) (hfp : ∀ b ∈ I :: fp, b < s₂.heap.objs.size)
    (F : Fr h₀ L s₂.heap m) (N : News h₀ L s₂.heap news) (hfL : ∀ b ∈ I :: fp, b ≠ L) (hf₀ : ∀ b ∈ I :: fp, h₀.get? b = none) (off : ∀ p ∈ news, p.1 ∉ wr) (hwI : ∀ b ∈ wr, b ∈ I :: fp) (offI : ∀ p ∈ news, p.1 ≠ I)
    (hel : EltOk prog w A h₀ L m env elt scope cl s₂ I news n Pt G R)
    (hRR : ∀ D C h tk m' ys, Fr h₀ L h m → News h₀ L h ((D, lst ys) :: news) → (∀ p ∈ news, p.1 < D) → h.Ns C m' → h₀.get? C = none → C ≠ L → C ≠ D → (∀ p ∈ news, p.1 ≠ C) → ys.length = n → (∀ j y, ys[j]? = some y → R j y) → RR (.ref D) C (.ok .next) { s₂ with heap := h, toks := tk }) :
    wpAny (model prog w) A (newList []) (fun acc s₃ => wpAny (model prog w) A (newFunctionEnv scope env.globals cl [] env.qual none .none (some env)) (fun cenv s₄ =>
      codeAny (model prog w) A (.compStart (.ListComp elt [⟨.Tuple elts x1 tp, iter, [], 0⟩] scope pos) 0 (.ref I) acc { cenv with scope := relabel scope env }) (RR acc cenv.locals) s₄) E s₃) E s₂ :=
  (Classical.choice lz_block.c₁).property lz_block.main (prog, w, A, E, h₀, L, m, env, elt, iter, elts, x1, tp, scope, cl, pos, s₂, I, fp, wr, n, Pt, St, Mid, news, R, G, RR) W hsz hIo hIfp hputs hcell hkind hst hfp F N hfL hf₀ off hwI offI hel hRR
section
variable {prog : Program} {w : World} {A : Around} {E : Value → Shared → Prop} {s : Shared} {h₀ : Heap} {L : Addr} {m : Str → Option Value} {env : Env}
/- the source of an unpacking block, its element and what follows it -/
inductive SrcZ (prog : Program) (w : World) (A : Around) (h₀ : Heap) (L : Addr) (m : Str → Option Value) (env : Env) (elt : Expr) (elts : List Expr) (scope : Scope) (cl : List (Str × Addr)) (Fin : Shared → Nat → (Nat → Value → Prop) → List (Addr × Obj) → Prop) (xv : Value) (s₁ : Shared) : Prop
  | mk (I : Addr) (fp : List Addr) (wr : List Addr) (n : Nat) (Pt) (St : Nat → Heap → Prop) (Mid) (news : List (Addr × Obj)) (R) (G) (q0 : xv = .ref I) (q1 : WalksU prog w A I (I :: fp) wr n Pt St Mid) (q2 : n ≤ sizeLine) (q3 : (∀ i h, St i h → ∀ b ∈ I :: fp, ∃ o, h.get? b = some o)) (q4 : I ∉ fp) (q5 : (∀ C, Puts prog w A (compEnvC scope cl C env) elts G Pt)) (q6 : St 0 s₁.heap) (q7 : (∀ b ∈ I :: fp, b < s₁.heap.objs.size)) (q8 : Fr h₀ L s₁.heap m) (q9 : News h₀ L s₁.heap news) (q10 : (∀ b ∈ I :: fp, b ≠ L)) (q11 : (∀ b ∈ I :: fp, h₀.get? b = none)) (q12 : (∀ p ∈ news, p.1 ∉ wr)) (q13 : (∀ b ∈ wr, b ∈ I :: fp)) (q14 : (∀ p ∈ news, p.1 ≠ I)) (q15 : EltOk prog w A h₀ L m env elt scope cl s₁ I news n Pt G R) (q16 : Fin s₁ n R news)
noncomputable def FinZE (h₀ : Heap) (L : Addr) (m : Str → Option Value) (Q : Value → Shared → Prop) (s : Shared) (n : Nat) (R : Nat → Value → Prop) (news : List (Addr × Obj)) : Prop :=
  ∀ D h tk ys, Fr h₀ L h m → News h₀ L h ((D, lst ys) :: news) → (∀ p ∈ news, p.1 < D) → ys.length = n → (∀ j y, ys[j]? = some y → R j y) → Q (.ref D) { s with heap := h, toks := tk }
noncomputable def FinZA (h₀ : Heap) (L : Addr) (m : Str → Option Value) (y : Str) (Q : Flow → Shared → Prop) (s : Shared) (n : Nat) (R : Nat → Value → Prop) (news : List (Addr × Obj)) : Prop :=
  ∀ D h tk ys, Fr h₀ L h (fun z => if z = y then some (.ref D) else m z) → News h₀ L h ((D, lst ys) :: news) → (∀ p ∈ news, p.1 < D) → ys.length = n → (∀ j y, ys[j]? = some y → R j y) → Q .next { s with heap := h, toks := tk }
theorem ListComp_Z {elt iter : Expr} {elts : List Expr} {x1} {tp : Pos} {scope : Scope} {cl : List (Str × Addr)} {pos : Pos} {Q : Value → Shared → Prop} (_F₀ : Fr h₀ L s.heap m)
    (hclos : closureFor scope env = pure cl) (hcell : ∀ y ∈ scope.names, y.2 ≠ .cell) (hkind : scope.kind = .function)
    (hnames : ∀ y ∈ scope.names, y.2 = .local → scope.names.lookup y.1 = some .local)
    (h : wpAny (model prog w) A (eval iter env) (SrcZ prog w A h₀ L m env elt elts scope cl (FinZE h₀ L m Q)) E s)
    (hs : ∀ x, foldedSetIterable iter env x = pure x := by intro _; rfl) :
    wpAny (model prog w) A (eval (.ListComp elt [⟨.Tuple elts x1 tp, iter, [], 0⟩] scope pos) env) Q E s := by
  rw [eval_ListComp]
  refine wpAny_comprehension_free (use := none) rfl hs hclos hkind hnames (wpAny_mono h (fun xv s₁ h₁ => ?_) fun _ _ e => e)
  obtain ⟨I, fp, wr, n, Pt, St, Mid, news, R, G, rfl, W, hsz, hIo, hIfp, hputs, hst, hfp, F, N, hfL, hf₀, off, hwI, offI, hel, fin⟩ := h₁
  refine W.self 0 _ _ _ hst ?_
  refine lz_block W hsz hIo hIfp hputs hcell hkind hst hfp F N hfL hf₀ off hwI offI hel ?_
  intro D C h tk m' ys F' N' hlt hn hC₀ hCL hCD offC hyl hR
  refine ⟨m', hn, fun h'' hs'' => fin D h'' tk ys (F'.change hs'' hCL hC₀) (fun p hp => ?_) hlt hyl hR⟩
  refine ⟨hs''.extBut _ _ ?_ (N' p hp).1, (N' p hp).2⟩
  rcases List.mem_cons.mp hp with rfl | hp
  · exact Ne.symm hCD
  · exact offC p hp
theorem Assign_ListComp_Z {elt iter : Expr} {elts : List Expr} {x1} {y : Str} {tp py : Pos} {scope : Scope} {cl : List (Str × Addr)} {pos spos : Pos} {Q : Flow → Shared → Prop} (_F₀ : Fr h₀ L s.heap m) (hLe : env.locals = L)
    (hsw : swapsWith (.ListComp elt [⟨.Tuple elts x1 tp, iter, [], 0⟩] scope pos) (some (.Name y py)) spos.line env = pure true)
    (hclos : closureFor scope env = pure cl) (hcell : ∀ z ∈ scope.names, z.2 ≠ .cell) (hkind : scope.kind = .function)
    (hnames : ∀ z ∈ scope.names, z.2 = .local → scope.names.lookup z.1 = some .local)
    (hy : env.kindOf y = some .local) (hp : (env.scope.kind == .class || (env.scope.kind == .module && env.locals != env.globals)) = false)
    (h : wpAny (model prog w) A (eval iter env) (SrcZ prog w A h₀ L m env elt elts scope cl (FinZA h₀ L m y Q)) E s)
    (hs : ∀ x, foldedSetIterable iter env x = pure x := by intro _; rfl) :
    wpAny (model prog w) A (exec (.Assign [.Name y py] (.ListComp elt [⟨.Tuple elts x1 tp, iter, [], 0⟩] scope pos) spos) env) Q E s := by
  subst hLe
  rw [exec_Assign_Name_used _ _ _ _ hsw]
  refine wpAny_bind (wpAny_standAt (wpAny_bind ?_))
  show wpAny _ A (do let _ ← comprehension (.ListComp elt [⟨.Tuple elts x1 tp, iter, [], 0⟩] scope pos) scope env _ (newList []) false (eval iter env) (some (assign (.Name y py) env))) _ _ s
  refine wpAny_bind (wpAny_mono (wpAny_comprehension_free (use := some (assign (.Name y py) env)) (Q := fun _ s' => Q .next s') rfl hs hclos hkind hnames
    (wpAny_mono h (fun xv s₁ h₁ => ?_) fun _ _ e => e)) (fun _ s' hq => wpAny_pure (wpAny_pure hq)) fun _ _ e => e)
  obtain ⟨I, fp, wr, n, Pt, St, Mid, news, R, G, rfl, W, hsz, hIo, hIfp, hputs, hst, hfp, F, N, hfL, hf₀, off, hwI, offI, hel, fin⟩ := h₁
  refine W.self 0 _ _ _ hst ?_
  refine lz_block W hsz hIo hIfp hputs hcell hkind hst hfp F N hfL hf₀ off hwI offI hel ?_
  intro D C h' tk m' ys F' N' hlt hn hC₀ hCL hCD offC hyl hR
  show wpAny _ A (assign (.Name y py) env (.ref D)) _ _ _
  refine wpAny_assign_Name (wpAny_storeName_local hy F'.ns (fun h₂ hn₂ hs₂ => ?_) hp)
  have hL₀ : h₀.get? env.locals = none := Heap.get?_none_of_le F'.above
  have F₂ : Fr h₀ env.locals h₂ (fun z => if z = y then some (.ref D) else m z) := ⟨hn₂, fun b o e => hs₂.extBut b o (fun q => by rw [q, hL₀] at e; cases e) (F'.keep b o e), F'.above⟩
  refine ⟨m', hn.sameBut hs₂ hCL, fun h'' hs'' => fin D h'' _ ys (F₂.change hs'' hCL hC₀) (fun p hp => ?_) hlt hyl hR⟩
  have z : h₂.get? p.1 = some p.2 := hs₂.extBut _ _ (N' p hp).2.1 (N' p hp).1
  refine ⟨hs''.extBut _ _ ?_ z, (N' p hp).2⟩
  rcases List.mem_cons.mp hp with rfl | hp
  · exact Ne.symm hCD
  · exact offC p hp
theorem isList_of {l : Addr} {xs : Array Value} {k : Nat} {news : List (Addr × Obj)} {h : Heap} (N : News h₀ L h news) (hm : (l, listOf xs k) ∈ news) : h.IsList l xs := ⟨_, (N _ hm).1, rfl, ⟨_, rfl⟩⟩
theorem all4 {P : Addr → Prop} {a1 a2 a3 a4 : Addr} (h1 : P a1) (h2 : P a2) (h3 : P a3) (h4 : P a4) : ∀ x ∈ [a1, a2, a3, a4], P x := by
  intro x hx
  simp only [List.mem_cons, List.not_mem_nil, or_false] at hx
  rcases hx with rfl | rfl | rfl | rfl <;> assumption
theorem all5 {P : Addr → Prop} {a1 a2 a3 a4 a5 : Addr} (h1 : P a1) (h2 : P a2) (h3 : P a3) (h4 : P a4) (h5 : P a5) : ∀ x ∈ [a1, a2, a3, a4, a5], P x := by
  intro x hx
  simp only [List.mem_cons, List.not_mem_nil, or_false] at hx
  rcases hx with rfl | rfl | rfl | rfl | rfl <;> assumption
theorem all7 {P : Addr → Prop} {a1 a2 a3 a4 a5 a6 a7 : Addr} (h1 : P a1) (h2 : P a2) (h3 : P a3) (h4 : P a4) (h5 : P a5) (h6 : P a6) (h7 : P a7) : ∀ x ∈ [a1, a2, a3, a4, a5, a6, a7], P x := by
  intro x hx
  simp only [List.mem_cons, List.not_mem_nil, or_false] at hx
  rcases hx with rfl | rfl | rfl | rfl | rfl | rfl | rfl <;> assumption
theorem all9 {P : Addr → Prop} {a1 a2 a3 a4 a5 a6 a7 a8 a9 : Addr} (h1 : P a1) (h2 : P a2) (h3 : P a3) (h4 : P a4) (h5 : P a5) (h6 : P a6) (h7 : P a7) (h8 : P a8) (h9 : P a9) : ∀ x ∈ [a1, a2, a3, a4, a5, a6, a7, a8, a9], P x := by
  intro x hx
  simp only [List.mem_cons, List.not_mem_nil, or_false] at hx
  rcases hx with rfl | rfl | rfl | rfl | rfl | rfl | rfl | rfl | rfl <;> assumption
theorem nin4 {x a1 a2 a3 a4 : Addr} (h1 : x ≠ a1) (h2 : x ≠ a2) (h3 : x ≠ a3) (h4 : x ≠ a4) : x ∉ [a1, a2, a3, a4] := by
  simp only [List.mem_cons, List.not_mem_nil, or_false, not_or]
  exact ⟨h1, h2, h3, h4⟩
theorem nin5 {x a1 a2 a3 a4 a5 : Addr} (h1 : x ≠ a1) (h2 : x ≠ a2) (h3 : x ≠ a3) (h4 : x ≠ a4) (h5 : x ≠ a5) : x ∉ [a1, a2, a3, a4, a5] := by
  simp only [List.mem_cons, List.not_mem_nil, or_false, not_or]
  exact ⟨h1, h2, h3, h4, h5⟩
theorem nin6 {x a1 a2 a3 a4 a5 a6 : Addr} (h1 : x ≠ a1) (h2 : x ≠ a2) (h3 : x ≠ a3) (h4 : x ≠ a4) (h5 : x ≠ a5) (h6 : x ≠ a6) : x ∉ [a1, a2, a3, a4, a5, a6] := by
  simp only [List.mem_cons, List.not_mem_nil, or_false, not_or]
  exact ⟨h1, h2, h3, h4, h5, h6⟩
theorem nin8 {x a1 a2 a3 a4 a5 a6 a7 a8 : Addr} (h1 : x ≠ a1) (h2 : x ≠ a2) (h3 : x ≠ a3) (h4 : x ≠ a4) (h5 : x ≠ a5) (h6 : x ≠ a6) (h7 : x ≠ a7) (h8 : x ≠ a8) : x ∉ [a1, a2, a3, a4, a5, a6, a7, a8] := by
  simp only [List.mem_cons, List.not_mem_nil, or_false, not_or]
  exact ⟨h1, h2, h3, h4, h5, h6, h7, h8⟩
end
namespace zip2_src
noncomputable def S (prog : Program) (w : World) (A : Around) (E : Value → Shared → Prop) (s : Shared) (h₀ : Heap) (L : Addr) (m : Str → Option Value) (env : Env) (elt : Expr) (x : Str) (x₂ : Str) (px : Pos) (px₂ : Pos) (scope : Scope) (cl : List (Str × Addr)) (Fin : Shared → Nat → (Nat → Value → Prop) → List (Addr × Obj) → Prop) (l1 : Addr) (l2 : Addr) (xs : Array Value) (ys : Array Value) (k1 : Nat) (k2 : Nat) (news : List (Addr × Obj)) (R : Nat → Value → Prop) : Prop :=
  ∀ (hh : A.handled = none)  (F : Fr h₀ L s.heap m)  (N : News h₀ L s.heap news)  (hm1 : (l1, listOf xs k1) ∈ news)  (hm2 : (l2, listOf ys k2) ∈ news)  (hsz : xs.size ≤ 1000)  (hx : ∀ C, (compEnvC scope cl C env).kindOf x = some .local)  (hx₂ : ∀ C, (compEnvC scope cl C env).kindOf x₂ = some .local)  (hxx : x ≠ x₂)  (hp : ∀ C, ((compEnvC scope cl C env).scope.kind == .class || ((compEnvC scope cl C env).scope.kind == .module && (compEnvC scope cl C env).locals != (compEnvC scope cl C env).globals)) = false)  (hel : ∀ I i a b ls oI C oC D m₂ h tk led (E' : Value → Shared → Prop), xs[i]? = some a → ys[i]? = some b → NsObj oC m₂ → m₂ x = some a → m₂ x₂ = some b → Fr h₀ L h m → News h₀ L h ((I, oI) :: (C, oC) :: (D, lst ls) :: led) → Off3 I C D led → (∀ p ∈ news, p ∈ led) → ((@Ne Nat I C) ∧ (@Ne Nat I D) ∧ (@Ne Nat C D)) →
      wpAny (model prog w) A (eval elt (compEnvC scope cl C env)) (CompEnd h₀ L m { s with heap := h, toks := tk } I oI C oC D (lst ls) (fun nw => nw = led) (fun y _ => R i y)) E' { s with heap := h, toks := tk })  (fin : ∀ h, Fin { s with heap := h } (min xs.size ys.size) R news),
    wpAny (model prog w) A (call (.type "zip") [.ref l1, .ref l2]) (SrcZ prog w A h₀ L m env elt [.Name x px, .Name x₂ px₂] scope cl Fin) E s
theorem c₁ : Nonempty {t : Program × World × Around × (Value → Shared → Prop) × Shared × Heap × Addr × (Str → Option Value) × Env × Expr × Str × Str × Pos × Pos × Scope × (List (Str × Addr)) × (Shared → Nat → (Nat → Value → Prop) → List (Addr × Obj) → Prop) × Addr × Addr × (Array Value) × (Array Value) × Nat × Nat × (List (Addr × Obj)) × (Nat → Value → Prop) // S t.1 t.2.1 t.2.2.1 t.2.2.2.1 t.2.2.2.2.1 t.2.2.2.2.2.1 t.2.2.2.2.2.2.1 t.2.2.2.2.2.2.2.1 t.2.2.2.2.2.2.2.2.1 t.2.2.2.2.2.2.2.2.2.1 t.2.2.2.2.2.2.2.2.2.2.1 t.2.2.2.2.2.2.2.2.2.2.2.1 t.2.2.2.2.2.2.2.2.2.2.2.2.1 t.2.2.2.2.2.2.2.2.2.2.2.2.2.1 t.2.2.2.2.2.2.2.2.2.2.2.2.2.2.1 t.2.2.2.2.2.2.2.2.2.2.2.2.2.2.2.1 t.2.2.2.2.2.2.2.2.2.2.2.2.2.2.2.2.1 t.2.2.2.2.2.2.2.2.2.2.2.2.2.2.2.2.2.1 t.2.2.2.2.2.2.2.2.2.2.2.2.2.2.2.2.2.2.1 t.2.2.2.2.2.2.2.2.2.2.2.2.2.2.2.2.2.2.2.1 t.2.2.2.2.2.2.2.2.2.2.2.2.2.2.2.2.2.2.2.2.1 t.2.2.2.2.2.2.2.2.2.2.2.2.2.2.2.2.2.2.2.2.2.1 t.2.2.2.2.2.2.2.2.2.2.2.2.2.2.2.2.2.2.2.2.2.2.1 t.2.2.2.2.2.2.2.2.2.2.2.2.2.2.2.2.2.2.2.2.2.2.2.1 t.2.2.2.2.2.2.2.2.2.2.2.2.2.2.2.2.2.2.2.2.2.2.2.2 → ∀ t : Program × World × Around × (Value → Shared → Prop) × Shared × Heap × Addr × (Str → Option Value) × Env × Expr × Str × Str × Pos × Pos × Scope × (List (Str × Addr)) × (Shared → Nat → (Nat → Value → Prop) → List (Addr × Obj) → Prop) × Addr × Addr × (Array Value) × (Array Value) × Nat × Nat × (List (Addr × Obj)) × (Nat → Value → Prop), S t.1 t.2.1 t.2.2.1 t.2.2.2.1 t.2.2.2.2.1 t.2.2.2.2.2.1 t.2.2.2.2.2.2.1 t.2.2.2.2.2.2.2.1 t.2.2.2.2.2.2.2.2.1 t.2.2.2.2.2.2.2.2.2.1 t.2.2.2.2.2.2.2.2.2.2.1 t.2.2.2.2.2.2.2.2.2.2.2.1 t.2.2.2.2.2.2.2.2.2.2.2.2.1 t.2.2.2.2.2.2.2.2.2.2.2.2.2.1 t.2.2.2.2.2.2.2.2.2.2.2.2.2.2.1 t.2.2.2.2.2.2.2.2.2.2.2.2.2.2.2.1 t.2.2.2.2.2.2.2.2.2.2.2.2.2.2.2.2.1 t.2.2.2.2.2.2.2.2.2.2.2.2.2.2.2.2.2.1 t.2.2.2.2.2.2.2.2.2.2.2.2.2.2.2.2.2.2.1 t.2.2.2.2.2.2.2.2.2.2.2.2.2.2.2.2.2.2.2.1 t.2.2.2.2.2.2.2.2.2.2.2.2.2.2.2.2.2.2.2.2.1 t.2.2.2.2.2.2.2.2.2.2.2.2.2.2.2.2.2.2.2.2.2.1 t.2.2.2.2.2.2.2.2.2.2.2.2.2.2.2.2.2.2.2.2.2.2.1 t.2.2.2.2.2.2.2.2.2.2.2.2.2.2.2.2.2.2.2.2.2.2.2.1 t.2.2.2.2.2.2.2.2.2.2.2.2.2.2.2.2.2.2.2.2.2.2.2.2} := eps_ex ⟨(default, ⟨fun _ _ => 0, { strHash := fun _ => 0, shareClass := fun _ => 0, mergeTok := fun _ => default, idOf := fun _ => 0, idOfShared := fun _ _ => 0, followText := fun _ => true, idOfImm := fun _ => 0 }⟩, {}, default, {}, default, default, default, default, default, default, default, default, default, default, default, default, default, default, default, default, default, default, default, default)⟩ fun t => S t.1 t.2.1 t.2.2.1 t.2.2.2.1 t.2.2.2.2.1 t.2.2.2.2.2.1 t.2.2.2.2.2.2.1 t.2.2.2.2.2.2.2.1 t.2.2.2.2.2.2.2.2.1 t.2.2.2.2.2.2.2.2.2.1 t.2.2.2.2.2.2.2.2.2.2.1 t.2.2.2.2.2.2.2.2.2.2.2.1 t.2.2.2.2.2.2.2.2.2.2.2.2.1 t.2.2.2.2.2.2.2.2.2.2.2.2.2.1 t.2.2.2.2.2.2.2.2.2.2.2.2.2.2.1 t.2.2.2.2.2.2.2.2.2.2.2.2.2.2.2.1 t.2.2.2.2.2.2.2.2.2.2.2.2.2.2.2.2.1 t.2.2.2.2.2.2.2.2.2.2.2.2.2.2.2.2.2.1 t.2.2.2.2.2.2.2.2.2.2.2.2.2.2.2.2.2.2.1 t.2.2.2.2.2.2.2.2.2.2.2.2.2.2.2.2.2.2.2.1 t.2.2.2.2.2.2.2.2.2.2.2.2.2.2.2.2.2.2.2.2.1 t.2.2.2.2.2.2.2.2.2.2.2.2.2.2.2.2.2.2.2.2.2.1 t.2.2.2.2.2.2.2.2.2.2.2.2.2.2.2.2.2.2.2.2.2.2.1 t.2.2.2.2.2.2.2.2.2.2.2.2.2.2.2.2.2.2.2.2.2.2.2.1 t.2.2.2.2.2.2.2.2.2.2.2.2.2.2.2.2.2.2.2.2.2.2.2.2
noncomputable def c₀ : Program × World × Around × (Value → Shared → Prop) × Shared × Heap × Addr × (Str → Option Value) × Env × Expr × Str × Str × Pos × Pos × Scope × (List (Str × Addr)) × (Shared → Nat → (Nat → Value → Prop) → List (Addr × Obj) → Prop) × Addr × Addr × (Array Value) × (Array Value) × Nat × Nat × (List (Addr × Obj)) × (Nat → Value → Prop) := (Classical.choice c₁).val
noncomputable def prog : Program := c₀.1
noncomputable def w : World := c₀.2.1
noncomputable def A : Around := c₀.2.2.1
noncomputable def E : Value → Shared → Prop := c₀.2.2.2.1
noncomputable def s : Shared := c₀.2.2.2.2.1
noncomputable def h₀ : Heap := c₀.2.2.2.2.2.1
noncomputable def L : Addr := c₀.2.2.2.2.2.2.1
noncomputable def m : Str → Option Value := c₀.2.2.2.2.2.2.2.1
noncomputable def env : Env := c₀.2.2.2.2.2.2.2.2.1
noncomputable def elt : Expr := c₀.2.2.2.2.2.2.2.2.2.1
noncomputable def x : Str := c₀.2.2.2.2.2.2.2.2.2.2.1
noncomputable def x₂ : Str := c₀.2.2.2.2.2.2.2.2.2.2.2.1
noncomputable def px : Pos := c₀.2.2.2.2.2.2.2.2.2.2.2.2.1
noncomputable def px₂ : Pos := c₀.2.2.2.2.2.2.2.2.2.2.2.2.2.1
noncomputable def scope : Scope := c₀.2.2.2.2.2.2.2.2.2.2.2.2.2.2.1
noncomputable def cl : List (Str × Addr) := c₀.2.2.2.2.2.2.2.2.2.2.2.2.2.2.2.1
noncomputable def Fin : Shared → Nat → (Nat → Value → Prop) → List (Addr × Obj) → Prop := c₀.2.2.2.2.2.2.2.2.2.2.2.2.2.2.2.2.1
noncomputable def l1 : Addr := c₀.2.2.2.2.2.2.2.2.2.2.2.2.2.2.2.2.2.1
noncomputable def l2 : Addr := c₀.2.2.2.2.2.2.2.2.2.2.2.2.2.2.2.2.2.2.1
noncomputable def xs : Array Value := c₀.2.2.2.2.2.2.2.2.2.2.2.2.2.2.2.2.2.2.2.1
noncomputable def ys : Array Value := c₀.2.2.2.2.2.2.2.2.2.2.2.2.2.2.2.2.2.2.2.2.1
noncomputable def k1 : Nat := c₀.2.2.2.2.2.2.2.2.2.2.2.2.2.2.2.2.2.2.2.2.2.1
noncomputable def k2 : Nat := c₀.2.2.2.2.2.2.2.2.2.2.2.2.2.2.2.2.2.2.2.2.2.2.1
noncomputable def news : List (Addr × Obj) := c₀.2.2.2.2.2.2.2.2.2.2.2.2.2.2.2.2.2.2.2.2.2.2.2.1
noncomputable def R : Nat → Value → Prop := c₀.2.2.2.2.2.2.2.2.2.2.2.2.2.2.2.2.2.2.2.2.2.2.2.2
theorem main : S prog w A E s h₀ L m env elt x x₂ px px₂ scope cl Fin l1 l2 xs ys k1 k2 news R := by
  unfold S
  intro hh F N hm1 hm2 hsz hx hx₂ hxx hp hel fin
  refine call_zip_2 (isList_of N hm1) (isList_of N hm2) fun h' a1 a2 a3 a4 a5 a6 a7 => ?_
  have b1 : @LT.lt Nat _ l1 s.heap.objs.size := Heap.lt_size (N _ hm1).1
  have b2 : @LT.lt Nat _ l2 s.heap.objs.size := Heap.lt_size (N _ hm2).1
  generalize hS : s.heap.objs.size = S at *
  have D : ZipApart (S + 4) (S + 2) (S + 3) S (S + 1) l1 l2 := by
    constructor <;> (show @Ne Nat _ _) <;> omega
  have nlt : ∀ p ∈ news, @LT.lt Nat _ p.1 S := fun p hp => hS ▸ Heap.lt_size (N p hp).1
  have hL : @LT.lt Nat _ L S := hS ▸ F.ns.lt
  have new₀ : ∀ a, @LE.le Nat _ S a → h₀.get? a = none := fun a ha => by
    cases e : h₀.get? a with
    | none => rfl
    | some o' => exact absurd (Heap.lt_size (F.keep a o' e)) (Nat.not_lt.mpr (hS ▸ ha))
  have WW := (WalksT.zip2 (prog := prog) (w := w) (A := A) hh (S + 4) (S + 2) (S + 3) S (S + 1) l1 l2 D xs ys).toU
  have ho1 := (N _ hm1)
  have ho2 := (N _ hm2)
  refine ⟨S + 4, [S + 2, S + 3, S, S + 1, l1, l2], _, _, _, _, _, news, R, _, rfl, WW, ?_, ?_, ?_, fun C => puts2 hh (fun i vals h => by obtain ⟨a, b, _, _, e⟩ := h; exact ⟨a, b, e⟩) (hx C) (hx₂ C) hxx (hp C), ⟨a1, a2, ⟨_, _, a3⟩, a4, a5, ?_, ?_⟩, ?_, F.keeps a7, N.grown a7, ?_, ?_, ?_, ?_, ?_, ?_, fin _⟩
  · exact Nat.le_trans (Nat.min_le_left _ _) (by rw [sizeLine_eq]; omega)
  · rintro i h ⟨c1, c2, ⟨_, _, c3⟩, ⟨_, c4, _⟩, ⟨_, c5, _⟩, ⟨_, c6, _⟩, ⟨_, c7, _⟩⟩
    exact all7 (P := fun b => ∃ o, h.get? b = some o) ⟨_, c1⟩ ⟨_, c2⟩ ⟨_, c3⟩ ⟨_, c4⟩ ⟨_, c5⟩ ⟨_, c6⟩ ⟨_, c7⟩
  · refine nin6 ?_ ?_ ?_ ?_ ?_ ?_ <;> (show @Ne Nat _ _) <;> omega
  · exact (isList_of N hm1).at fun o e => a7 _ o e
  · exact (isList_of N hm2).at fun o e => a7 _ o e
  · have a6' : h'.objs.size = S + 5 := a6
    intro b hb
    show @LT.lt Nat _ b h'.objs.size
    rw [a6']
    revert b hb
    refine all7 ?_ ?_ ?_ ?_ ?_ ?_ ?_ <;> first | exact Nat.lt_of_lt_of_le b1 (Nat.le_add_right _ _) | exact Nat.lt_of_lt_of_le b2 (Nat.le_add_right _ _) | (show @LT.lt Nat _ _ _; omega)
  · refine all7 ?_ ?_ ?_ ?_ ?_ ?_ ?_ <;> first | exact ho1.2.1 | exact ho2.2.1 | (show @Ne Nat _ _; omega)
  · refine all7 ?_ ?_ ?_ ?_ ?_ ?_ ?_ <;> first | exact ho1.2.2 | exact ho2.2.2 | exact new₀ _ (by omega)
  · intro p hp
    have q := nlt p hp
    refine nin4 ?_ ?_ ?_ ?_ <;> (show @Ne Nat _ _) <;> omega
  · refine all4 ?_ ?_ ?_ ?_ <;> simp
  · intro p hp
    have q := nlt p hp
    show @Ne Nat _ _
    omega
  · intro i vals ls oI C oC D m₂ h tk led E' hi hv hC hG F' N' off sub ne
    obtain ⟨a, b, e1, e2, rfl⟩ := hv
    obtain ⟨a', b', e, g1, g2⟩ := hG
    obtain ⟨rfl, rfl⟩ : a = a' ∧ b = b' := by simpa using e
    exact hel _ i a b ls oI C oC D m₂ h tk led E' e1 e2 hC g1 g2 F' N' off sub ne
end zip2_src
theorem zip2_src {prog : Program} {w : World} {A : Around} {E : Value → Shared → Prop} {s : Shared} {h₀ : Heap} {L : Addr} {m : Str → Option Value} {env : Env} {elt : Expr} {x x₂ : Str} {px px₂ : Pos} {scope : Scope} {cl : List (Str × Addr)} {Fin : Shared → Nat → (Nat → Value → Prop) → List (Addr × Obj) → Prop} {l1 l2 : Addr} {xs ys : Array Value} {k1 k2 : Nat} {news : List (Addr × Obj)} (hh : A.handled = none) (F : Fr h₀ L s.heap m) (N : News h₀ L s.heap news)
    (hm1 : (l1, listOf xs k1) ∈ news) (hm2 : (l2, listOf ys k2) ∈ news) (hsz : xs.size ≤ 1000)
    (hx : ∀ C, (compEnvC scope cl C env).kindOf x = some .local) (hx₂ : ∀ C, (compEnvC scope cl C env).kindOf x₂ = some .local) (hxx : x ≠ x₂) (hp : ∀ C, ((compEnvC scope cl C env).scope.kind == .class || ((compEnvC scope cl C env).scope.kind == .module && (compEnvC scope cl C env).locals != (compEnvC scope cl C env).globals)) = false)
    (R : Nat → Value → Prop)
    (hel : ∀ I i a b ls oI C oC D m₂ h tk led (E' : Value → Shared → Prop), xs[i]? = some a → ys[i]? = some b → NsObj oC m₂ → m₂ x = some a → m₂ x₂ = some b → Fr h₀ L h m → News h₀ L h ((I, oI) :: (C, oC) :: (D, lst ls) :: led) → Off3 I C D led → (∀ p ∈ news, p ∈ led) → ((@Ne Nat I C) ∧ (@Ne Nat I D) ∧ (@Ne Nat C D)) →
      wpAny (model prog w) A (eval elt (compEnvC scope cl C env)) (CompEnd h₀ L m { s with heap := h, toks := tk } I oI C oC D (lst ls) (fun nw => nw = led) (fun y _ => R i y)) E' { s with heap := h, toks := tk })
    (fin : ∀ h, Fin { s with heap := h } (min xs.size ys.size) R news) :
    wpAny (model prog w) A (call (.type "zip") [.ref l1, .ref l2]) (SrcZ prog w A h₀ L m env elt [.Name x px, .Name x₂ px₂] scope cl Fin) E s :=
  (Classical.choice zip2_src.c₁).property zip2_src.main (prog, w, A, E, s, h₀, L, m, env, elt, x, x₂, px, px₂, scope, cl, Fin, l1, l2, xs, ys, k1, k2, news, R) hh F N hm1 hm2 hsz hx hx₂ hxx hp hel fin
section
variable {prog : Program} {w : World} {A : Around} {E : Value → Shared → Prop} {s : Shared} {h₀ : Heap} {L : Addr} {m : Str → Option Value} {env : Env}
end
namespace zip3_src
noncomputable def S (prog : Program) (w : World) (A : Around) (E : Value → Shared → Prop) (s : Shared) (h₀ : Heap) (L : Addr) (m : Str → Option Value) (env : Env) (elt : Expr) (x : Str) (x₂ : Str) (x₃ : Str) (px : Pos) (px₂ : Pos) (px₃ : Pos) (scope : Scope) (cl : List (Str × Addr)) (Fin : Shared → Nat → (Nat → Value → Prop) → List (Addr × Obj) → Prop) (l1 : Addr) (l2 : Addr) (l3 : Addr) (xs : Array Value) (ys : Array Value) (zs : Array Value) (k1 : Nat) (k2 : Nat) (k3 : Nat) (news : List (Addr × Obj)) (R : Nat → Value → Prop) : Prop :=
  ∀ (hh : A.handled = none)  (F : Fr h₀ L s.heap m)  (N : News h₀ L s.heap news)  (hm1 : (l1, listOf xs k1) ∈ news)  (hm2 : (l2, listOf ys k2) ∈ news)  (hm3 : (l3, listOf zs k3) ∈ news)  (hsz : xs.size ≤ 1000)  (hzs : min xs.size ys.size ≤ zs.size)  (hx : ∀ C, (compEnvC scope cl C env).kindOf x = some .local)  (hx₂ : ∀ C, (compEnvC scope cl C env).kindOf x₂ = some .local)  (hx₃ : ∀ C, (compEnvC scope cl C env).kindOf x₃ = some .local)  (hxx : x ≠ x₂)  (hx13 : x ≠ x₃)  (hx23 : x₂ ≠ x₃)  (hp : ∀ C, ((compEnvC scope cl C env).scope.kind == .class || ((compEnvC scope cl C env).scope.kind == .module && (compEnvC scope cl C env).locals != (compEnvC scope cl C env).globals)) = false)  (hel : ∀ I i a b c ls oI C oC D m₂ h tk led (E' : Value → Shared → Prop), xs[i]? = some a → ys[i]? = some b → zs[i]? = some c → NsObj oC m₂ → m₂ x = some a → m₂ x₂ = some b → m₂ x₃ = some c → Fr h₀ L h m → News h₀ L h ((I, oI) :: (C, oC) :: (D, lst ls) :: led) → Off3 I C D led → (∀ p ∈ news, p ∈ led) → ((@Ne Nat I C) ∧ (@Ne Nat I D) ∧ (@Ne Nat C D)) →
      wpAny (model prog w) A (eval elt (compEnvC scope cl C env)) (CompEnd h₀ L m { s with heap := h, toks := tk } I oI C oC D (lst ls) (fun nw => nw = led) (fun y _ => R i y)) E' { s with heap := h, toks := tk })  (fin : ∀ h, Fin { s with heap := h } (min xs.size ys.size) R news),
    wpAny (model prog w) A (call (.type "zip") [.ref l1, .ref l2, .ref l3]) (SrcZ prog w A h₀ L m env elt [.Name x px, .Name x₂ px₂, .Name x₃ px₃] scope cl Fin) E s
theorem c₁ : Nonempty {t : Program × World × Around × (Value → Shared → Prop) × Shared × Heap × Addr × (Str → Option Value) × Env × Expr × Str × Str × Str × Pos × Pos × Pos × Scope × (List (Str × Addr)) × (Shared → Nat → (Nat → Value → Prop) → List (Addr × Obj) → Prop) × Addr × Addr × Addr × (Array Value) × (Array Value) × (Array Value) × Nat × Nat × Nat × (List (Addr × Obj)) × (Nat → Value → Prop) // S t.1 t.2.1 t.2.2.1 t.2.2.2.1 t.2.2.2.2.1 t.2.2.2.2.2.1 t.2.2.2.2.2.2.1 t.2.2.2.2.2.2.2.1 t.2.2.2.2.2.2.2.2.1 t.2.2.2.2.2.2.2.2.2.1 t.2.2.2.2.2.2.2.2.2.2.1 t.2.2.2.2.2.2.2.2.2.2.2.1 t.2.2.2.2.2.2.2.2.2.2.2.2.1 t.2.2.2.2.2.2.2.2.2.2.2.2.2.1 t.2.2.2.2.2.2.2.2.2.2.2.2.2.2.1 t.2.2.2.2.2.2.2.2.2.2.2.2.2.2.2.1 t.2.2.2.2.2.2.2.2.2.2.2.2.2.2.2.2.1 t.2.2.2.2.2.2.2.2.2.2.2.2.2.2.2.2.2.1 t.2.2.2.2.2.2.2.2.2.2.2.2.2.2.2.2.2.2.1 t.2.2.2.2.2.2.2.2.2.2.2.2.2.2.2.2.2.2.2.1 t.2.2.2.2.2.2.2.2.2.2.2.2.2.2.2.2.2.2.2.2.1 t.2.2.2.2.2.2.2.2.2.2.2.2.2.2.2.2.2.2.2.2.2.1 t.2.2.2.2.2.2.2.2.2.2.2.2.2.2.2.2.2.2.2.2.2.2.1 t.2.2.2.2.2.2.2.2.2.2.2.2.2.2.2.2.2.2.2.2.2.2.2.1 t.2.2.2.2.2.2.2.2.2.2.2.2.2.2.2.2.2.2.2.2.2.2.2.2.1 t.2.2.2.2.2.2.2.2.2.2.2.2.2.2.2.2.2.2.2.2.2.2.2.2.2.1 t.2.2.2.2.2.2.2.2.2.2.2.2.2.2.2.2.2.2.2.2.2.2.2.2.2.2.1 t.2.2.2.2.2.2.2.2.2.2.2.2.2.2.2.2.2.2.2.2.2.2.2.2.2.2.2.1 t.2.2.2.2.2.2.2.2.2.2.2.2.2.2.2.2.2.2.2.2.2.2.2.2.2.2.2.2.1 t.2.2.2.2.2.2.2.2.2.2.2.2.2.2.2.2.2.2.2.2.2.2.2.2.2.2.2.2.2 → ∀ t : Program × World × Around × (Value → Shared → Prop) × Shared × Heap × Addr × (Str → Option Value) × Env × Expr × Str × Str × Str × Pos × Pos × Pos × Scope × (List (Str × Addr)) × (Shared → Nat → (Nat → Value → Prop) → List (Addr × Obj) → Prop) × Addr × Addr × Addr × (Array Value) × (Array Value) × (Array Value) × Nat × Nat × Nat × (List (Addr × Obj)) × (Nat → Value → Prop), S t.1 t.2.1 t.2.2.1 t.2.2.2.1 t.2.2.2.2.1 t.2.2.2.2.2.1 t.2.2.2.2.2.2.1 t.2.2.2.2.2.2.2.1 t.2.2.2.2.2.2.2.2.1 t.2.2.2.2.2.2.2.2.2.1 t.2.2.2.2.2.2.2.2.2.2.1 t.2.2.2.2.2.2.2.2.2.2.2.1 t.2.2.2.2.2.2.2.2.2.2.2.2.1 t.2.2.2.2.2.2.2.2.2.2.2.2.2.1 t.2.2.2.2.2.2.2.2.2.2.2.2.2.2.1 t.2.2.2.2.2.2.2.2.2.2.2.2.2.2.2.1 t.2.2.2.2.2.2.2.2.2.2.2.2.2.2.2.2.1 t.2.2.2.2.2.2.2.2.2.2.2.2.2.2.2.2.2.1 t.2.2.2.2.2.2.2.2.2.2.2.2.2.2.2.2.2.2.1 t.2.2.2.2.2.2.2.2.2.2.2.2.2.2.2.2.2.2.2.1 t.2.2.2.2.2.2.2.2.2.2.2.2.2.2.2.2.2.2.2.2.1 t.2.2.2.2.2.2.2.2.2.2.2.2.2.2.2.2.2.2.2.2.2.1 t.2.2.2.2.2.2.2.2.2.2.2.2.2.2.2.2.2.2.2.2.2.2.1 t.2.2.2.2.2.2.2.2.2.2.2.2.2.2.2.2.2.2.2.2.2.2.2.1 t.2.2.2.2.2.2.2.2.2.2.2.2.2.2.2.2.2.2.2.2.2.2.2.2.1 t.2.2.2.2.2.2.2.2.2.2.2.2.2.2.2.2.2.2.2.2.2.2.2.2.2.1 t.2.2.2.2.2.2.2.2.2.2.2.2.2.2.2.2.2.2.2.2.2.2.2.2.2.2.1 t.2.2.2.2.2.2.2.2.2.2.2.2.2.2.2.2.2.2.2.2.2.2.2.2.2.2.2.1 t.2.2.2.2.2.2.2.2.2.2.2.2.2.2.2.2.2.2.2.2.2.2.2.2.2.2.2.2.1 t.2.2.2.2.2.2.2.2.2.2.2.2.2.2.2.2.2.2.2.2.2.2.2.2.2.2.2.2.2} := eps_ex ⟨(default, ⟨fun _ _ => 0, { strHash := fun _ => 0, shareClass := fun _ => 0, mergeTok := fun _ => default, idOf := fun _ => 0, idOfShared := fun _ _ => 0, followText := fun _ => true, idOfImm := fun _ => 0 }⟩, {}, default, {}, default, default, default, default, default, default, default, default, default, default, default, default, default, default, default, default, default, default, default, default, default, default, default, default, default)⟩ fun t => S t.1 t.2.1 t.2.2.1 t.2.2.2.1 t.2.2.2.2.1 t.2.2.2.2.2.1 t.2.2.2.2.2.2.1 t.2.2.2.2.2.2.2.1 t.2.2.2.2.2.2.2.2.1 t.2.2.2.2.2.2.2.2.2.1 t.2.2.2.2.2.2.2.2.2.2.1 t.2.2.2.2.2.2.2.2.2.2.2.1 t.2.2.2.2.2.2.2.2.2.2.2.2.1 t.2.2.2.2.2.2.2.2.2.2.2.2.2.1 t.2.2.2.2.2.2.2.2.2.2.2.2.2.2.1 t.2.2.2.2.2.2.2.2.2.2.2.2.2.2.2.1 t.2.2.2.2.2.2.2.2.2.2.2.2.2.2.2.2.1 t.2.2.2.2.2.2.2.2.2.2.2.2.2.2.2.2.2.1 t.2.2.2.2.2.2.2.2.2.2.2.2.2.2.2.2.2.2.1 t.2.2.2.2.2.2.2.2.2.2.2.2.2.2.2.2.2.2.2.1 t.2.2.2.2.2.2.2.2.2.2.2.2.2.2.2.2.2.2.2.2.1 t.2.2.2.2.2.2.2.2.2.2.2.2.2.2.2.2.2.2.2.2.2.1 t.2.2.2.2.2.2.2.2.2.2.2.2.2.2.2.2.2.2.2.2.2.2.1 t.2.2.2.2.2.2.2.2.2.2.2.2.2.2.2.2.2.2.2.2.2.2.2.1 t.2.2.2.2.2.2.2.2.2.2.2.2.2.2.2.2.2.2.2.2.2.2.2.2.1 t.2.2.2.2.2.2.2.2.2.2.2.2.2.2.2.2.2.2.2.2.2.2.2.2.2.1 t.2.2.2.2.2.2.2.2.2.2.2.2.2.2.2.2.2.2.2.2.2.2.2.2.2.2.1 t.2.2.2.2.2.2.2.2.2.2.2.2.2.2.2.2.2.2.2.2.2.2.2.2.2.2.2.1 t.2.2.2.2.2.2.2.2.2.2.2.2.2.2.2.2.2.2.2.2.2.2.2.2.2.2.2.2.1 t.2.2.2.2.2.2.2.2.2.2.2.2.2.2.2.2.2.2.2.2.2.2.2.2.2.2.2.2.2
noncomputable def c₀ : Program × World × Around × (Value → Shared → Prop) × Shared × Heap × Addr × (Str → Option Value) × Env × Expr × Str × Str × Str × Pos × Pos × Pos × Scope × (List (Str × Addr)) × (Shared → Nat → (Nat → Value → Prop) → List (Addr × Obj) → Prop) × Addr × Addr × Addr × (Array Value) × (Array Value) × (Array Value) × Nat × Nat × Nat × (List (Addr × Obj)) × (Nat → Value → Prop) := (Classical.choice c₁).val
noncomputable def prog : Program := c₀.1
noncomputable def w : World := c₀.2.1
noncomputable def A : Around := c₀.2.2.1
noncomputable def E : Value → Shared → Prop := c₀.2.2.2.1
noncomputable def s : Shared := c₀.2.2.2.2.1
noncomputable def h₀ : Heap := c₀.2.2.2.2.2.1
noncomputable def L : Addr := c₀.2.2.2.2.2.2.1
noncomputable def m : Str → Option Value := c₀.2.2.2.2.2.2.2.1
noncomputable def env : Env := c₀.2.2.2.2.2.2.2.2.1
noncomputable def elt : Expr := c₀.2.2.2.2.2.2.2.2.2.1
noncomputable def x : Str := c₀.2.2.2.2.2.2.2.2.2.2.1
noncomputable def x₂ : Str := c₀.2.2.2.2.2.2.2.2.2.2.2.1
noncomputable def x₃ : Str := c₀.2.2.2.2.2.2.2.2.2.2.2.2.1
noncomputable def px : Pos := c₀.2.2.2.2.2.2.2.2.2.2.2.2.2.1
noncomputable def px₂ : Pos := c₀.2.2.2.2.2.2.2.2.2.2.2.2.2.2.1
noncomputable def px₃ : Pos := c₀.2.2.2.2.2.2.2.2.2.2.2.2.2.2.2.1
noncomputable def scope : Scope := c₀.2.2.2.2.2.2.2.2.2.2.2.2.2.2.2.2.1
noncomputable def cl : List (Str × Addr) := c₀.2.2.2.2.2.2.2.2.2.2.2.2.2.2.2.2.2.1
noncomputable def Fin : Shared → Nat → (Nat → Value → Prop) → List (Addr × Obj) → Prop := c₀.2.2.2.2.2.2.2.2.2.2.2.2.2.2.2.2.2.2.1
noncomputable def l1 : Addr := c₀.2.2.2.2.2.2.2.2.2.2.2.2.2.2.2.2.2.2.2.1
noncomputable def l2 : Addr := c₀.2.2.2.2.2.2.2.2.2.2.2.2.2.2.2.2.2.2.2.2.1
noncomputable def l3 : Addr := c₀.2.2.2.2.2.2.2.2.2.2.2.2.2.2.2.2.2.2.2.2.2.1
noncomputable def xs : Array Value := c₀.2.2.2.2.2.2.2.2.2.2.2.2.2.2.2.2.2.2.2.2.2.2.1
noncomputable def ys : Array Value := c₀.2.2.2.2.2.2.2.2.2.2.2.2.2.2.2.2.2.2.2.2.2.2.2.1
noncomputable def zs : Array Value := c₀.2.2.2.2.2.2.2.2.2.2.2.2.2.2.2.2.2.2.2.2.2.2.2.2.1
noncomputable def k1 : Nat := c₀.2.2.2.2.2.2.2.2.2.2.2.2.2.2.2.2.2.2.2.2.2.2.2.2.2.1
noncomputable def k2 : Nat := c₀.2.2.2.2.2.2.2.2.2.2.2.2.2.2.2.2.2.2.2.2.2.2.2.2.2.2.1
noncomputable def k3 : Nat := c₀.2.2.2.2.2.2.2.2.2.2.2.2.2.2.2.2.2.2.2.2.2.2.2.2.2.2.2.1
noncomputable def news : List (Addr × Obj) := c₀.2.2.2.2.2.2.2.2.2.2.2.2.2.2.2.2.2.2.2.2.2.2.2.2.2.2.2.2.1
noncomputable def R : Nat → Value → Prop := c₀.2.2.2.2.2.2.2.2.2.2.2.2.2.2.2.2.2.2.2.2.2.2.2.2.2.2.2.2.2
theorem main : S prog w A E s h₀ L m env elt x x₂ x₃ px px₂ px₃ scope cl Fin l1 l2 l3 xs ys zs k1 k2 k3 news R := by
  unfold S
  intro hh F N hm1 hm2 hm3 hsz hzs hx hx₂ hx₃ hxx hx13 hx23 hp hel fin
  refine call_zip3 (isList_of N hm1) (isList_of N hm2) (isList_of N hm3) fun h' a1 a2 a3 a4 a5 a5b a6 a7 => ?_
  have b1 : @LT.lt Nat _ l1 s.heap.objs.size := Heap.lt_size (N _ hm1).1
  have b2 : @LT.lt Nat _ l2 s.heap.objs.size := Heap.lt_size (N _ hm2).1
  have b3 : @LT.lt Nat _ l3 s.heap.objs.size := Heap.lt_size (N _ hm3).1
  generalize hS : s.heap.objs.size = S at *
  have D : Z3 (S + 5) (S + 3) (S + 4) S (S + 1) (S + 2) := by
    constructor <;> (show @Ne Nat _ _) <;> omega
  have D1 : Z3L (S + 5) (S + 4) S (S + 1) (S + 2) l1 := by
    constructor <;> (show @Ne Nat _ _) <;> omega
  have D2 : Z3L (S + 5) (S + 4) S (S + 1) (S + 2) l2 := by
    constructor <;> (show @Ne Nat _ _) <;> omega
  have D3 : Z3L (S + 5) (S + 4) S (S + 1) (S + 2) l3 := by
    constructor <;> (show @Ne Nat _ _) <;> omega
  have nlt : ∀ p ∈ news, @LT.lt Nat _ p.1 S := fun p hp => hS ▸ Heap.lt_size (N p hp).1
  have hL : @LT.lt Nat _ L S := hS ▸ F.ns.lt
  have new₀ : ∀ a, @LE.le Nat _ S a → h₀.get? a = none := fun a ha => by
    cases e : h₀.get? a with
    | none => rfl
    | some o' => exact absurd (Heap.lt_size (F.keep a o' e)) (Nat.not_lt.mpr (hS ▸ ha))
  have WW := walks_zip3 (prog := prog) (w := w) (A := A) hh (S + 5) (S + 3) (S + 4) S (S + 1) (S + 2) l1 l2 l3 D D1 D2 D3 xs ys zs hzs
  have ho1 := (N _ hm1)
  have ho2 := (N _ hm2)
  have ho3 := (N _ hm3)
  refine ⟨S + 5, [S + 3, S + 4, S, S + 1, S + 2, l1, l2, l3], _, _, _, _, _, news, R, _, rfl, WW, ?_, ?_, ?_, fun C => puts3 hh (fun i vals h => by obtain ⟨a, b, c, _, _, _, e⟩ := h; exact ⟨a, b, c, e⟩) (hx C) (hx₂ C) (hx₃ C) hxx hx13 hx23 (hp C), ⟨a1, a2, ⟨_, _, _, a3⟩, a4, a5, a5b, ?_, ?_, ?_⟩, ?_, F.keeps a7, N.grown a7, ?_, ?_, ?_, ?_, ?_, ?_, fin _⟩
  · exact Nat.le_trans (Nat.min_le_left _ _) (by rw [sizeLine_eq]; omega)
  · rintro i h ⟨c1, c2, ⟨_, _, _, c3⟩, ⟨_, c4, _⟩, ⟨_, c5, _⟩, ⟨_, c5b, _⟩, ⟨_, c6, _⟩, ⟨_, c7, _⟩, ⟨_, c8, _⟩⟩
    exact all9 (P := fun b => ∃ o, h.get? b = some o) ⟨_, c1⟩ ⟨_, c2⟩ ⟨_, c3⟩ ⟨_, c4⟩ ⟨_, c5⟩ ⟨_, c5b⟩ ⟨_, c6⟩ ⟨_, c7⟩ ⟨_, c8⟩
  · refine nin8 ?_ ?_ ?_ ?_ ?_ ?_ ?_ ?_ <;> (show @Ne Nat _ _) <;> omega
  · exact (isList_of N hm1).at fun o e => a7 _ o e
  · exact (isList_of N hm2).at fun o e => a7 _ o e
  · exact (isList_of N hm3).at fun o e => a7 _ o e
  · have a6' : h'.objs.size = S + 6 := a6
    intro b hb
    show @LT.lt Nat _ b h'.objs.size
    rw [a6']
    revert b hb
    refine all9 ?_ ?_ ?_ ?_ ?_ ?_ ?_ ?_ ?_ <;> first | exact Nat.lt_of_lt_of_le b1 (Nat.le_add_right _ _) | exact Nat.lt_of_lt_of_le b2 (Nat.le_add_right _ _) | exact Nat.lt_of_lt_of_le b3 (Nat.le_add_right _ _) | (show @LT.lt Nat _ _ _; omega)
  · refine all9 ?_ ?_ ?_ ?_ ?_ ?_ ?_ ?_ ?_ <;> first | exact ho1.2.1 | exact ho2.2.1 | exact ho3.2.1 | (show @Ne Nat _ _; omega)
  · refine all9 ?_ ?_ ?_ ?_ ?_ ?_ ?_ ?_ ?_ <;> first | exact ho1.2.2 | exact ho2.2.2 | exact ho3.2.2 | exact new₀ _ (by omega)
  · intro p hp
    have q := nlt p hp
    refine nin5 ?_ ?_ ?_ ?_ ?_ <;> (show @Ne Nat _ _) <;> omega
  · refine all5 ?_ ?_ ?_ ?_ ?_ <;> simp
  · intro p hp
    have q := nlt p hp
    show @Ne Nat _ _
    omega
  · intro i vals ls oI C oC D m₂ h tk led E' hi hv hC hG F' N' off sub ne
    obtain ⟨a, b, c, e1, e2, e3, rfl⟩ := hv
    obtain ⟨a', b', c', e, g1, g2, g3⟩ := hG
    obtain ⟨rfl, rfl, rfl⟩ : a = a' ∧ b = b' ∧ c = c' := by simpa using e
    exact hel _ i a b c ls oI C oC D m₂ h tk led E' e1 e2 e3 hC g1 g2 g3 F' N' off sub ne
end zip3_src
theorem zip3_src {prog : Program} {w : World} {A : Around} {E : Value → Shared → Prop} {s : Shared} {h₀ : Heap} {L : Addr} {m : Str → Option Value} {env : Env} {elt : Expr} {x x₂ x₃ : Str} {px px₂ px₃ : Pos} {scope : Scope} {cl : List (Str × Addr)} {Fin : Shared → Nat → (Nat → Value → Prop) → List (Addr × Obj) → Prop} {l1 l2 l3 : Addr} {xs ys zs : Array Value} {k1 k2 k3 : Nat} {news : List (Addr × Obj)} (hh : A.handled = none) (F : Fr h₀ L s.heap m) (N : News h₀ L s.heap news)
    (hm1 : (l1, listOf xs k1) ∈ news) (hm2 : (l2, listOf ys k2) ∈ news) (hm3 : (l3, listOf zs k3) ∈ news) (hsz : xs.size ≤ 1000) (hzs : min xs.size ys.size ≤ zs.size)
    (hx : ∀ C, (compEnvC scope cl C env).kindOf x = some .local) (hx₂ : ∀ C, (compEnvC scope cl C env).kindOf x₂ = some .local) (hx₃ : ∀ C, (compEnvC scope cl C env).kindOf x₃ = some .local) (hxx : x ≠ x₂) (hx13 : x ≠ x₃) (hx23 : x₂ ≠ x₃) (hp : ∀ C, ((compEnvC scope cl C env).scope.kind == .class || ((compEnvC scope cl C env).scope.kind == .module && (compEnvC scope cl C env).locals != (compEnvC scope cl C env).globals)) = false)
    (R : Nat → Value → Prop)
    (hel : ∀ I i a b c ls oI C oC D m₂ h tk led (E' : Value → Shared → Prop), xs[i]? = some a → ys[i]? = some b → zs[i]? = some c → NsObj oC m₂ → m₂ x = some a → m₂ x₂ = some b → m₂ x₃ = some c → Fr h₀ L h m → News h₀ L h ((I, oI) :: (C, oC) :: (D, lst ls) :: led) → Off3 I C D led → (∀ p ∈ news, p ∈ led) → ((@Ne Nat I C) ∧ (@Ne Nat I D) ∧ (@Ne Nat C D)) →
      wpAny (model prog w) A (eval elt (compEnvC scope cl C env)) (CompEnd h₀ L m { s with heap := h, toks := tk } I oI C oC D (lst ls) (fun nw => nw = led) (fun y _ => R i y)) E' { s with heap := h, toks := tk })
    (fin : ∀ h, Fin { s with heap := h } (min xs.size ys.size) R news) :
    wpAny (model prog w) A (call (.type "zip") [.ref l1, .ref l2, .ref l3]) (SrcZ prog w A h₀ L m env elt [.Name x px, .Name x₂ px₂, .Name x₃ px₃] scope cl Fin) E s :=
  (Classical.choice zip3_src.c₁).property zip3_src.main (prog, w, A, E, s, h₀, L, m, env, elt, x, x₂, x₃, px, px₂, px₃, scope, cl, Fin, l1, l2, l3, xs, ys, zs, k1, k2, k3, news, R) hh F N hm1 hm2 hm3 hsz hzs hx hx₂ hx₃ hxx hx13 hx23 hp hel fin
section
variable {prog : Program} {w : World} {A : Around} {E : Value → Shared → Prop} {s : Shared} {h₀ : Heap} {L : Addr} {m : Str → Option Value} {env : Env}
end
end
section
set_option maxRecDepth 100000
set_option maxHeartbeats 2000000
open PySem.Spec PySem.Calls PyProof.Rows.LCg
theorem ints_at {vs : List Value} {ns : List Int} (h : IntsAre vs ns) : ∀ {i : Nat} {v : Value}, vs.toArray[i]? = some v → ∃ n t, ns[i]? = some n ∧ v = .int n t := by
  induction h with
  | nil => intro i v h; simp at h
  | cons n t _ ih =>
    intro i v h
    rw [List.getElem?_toArray] at h
    cases i with
    | zero =>
      rw [List.getElem?_cons_zero] at h
      cases h
      exact ⟨n, t, rfl, rfl⟩
    | succ i =>
      rw [List.getElem?_cons_succ] at h
      rw [List.getElem?_cons_succ]
      exact ih (by rw [List.getElem?_toArray]; exact h)
/- a list of ints, read off item by item -/
theorem ints_of : ∀ {ys : List Value} {ns : List Int}, ys.length = ns.length → (∀ (j : Nat) (y : Value), ys[j]? = some y → ∃ n t, ns[j]? = some n ∧ y = Value.int n t) → IntsAre ys ns
  | [], [], _, _ => .nil
  | [], _ :: _, h, _ => by simp at h
  | _ :: _, [], h, _ => by simp at h
  | y :: ys, n :: ns, h, hs => by
    obtain ⟨n', t, e, rfl⟩ := hs 0 y rfl
    simp only [List.getElem?_cons_zero, Option.some.injEq] at e
    subst e
    exact .cons _ t (ints_of (by simpa using h) fun j y e => by simpa using hs (j + 1) y (by simpa using e))
theorem strs_of : ∀ {ys : List Value} {ns : List Str}, ys.length = ns.length → (∀ (j : Nat) (y : Value), ys[j]? = some y → ∃ n t, ns[j]? = some n ∧ y = Value.str n t) → StrsAre ys ns
  | [], [], _, _ => .nil
  | [], _ :: _, h, _ => by simp at h
  | _ :: _, [], h, _ => by simp at h
  | y :: ys, n :: ns, h, hs => by
    obtain ⟨n', t, e, rfl⟩ := hs 0 y rfl
    simp only [List.getElem?_cons_zero, Option.some.injEq] at e
    subst e
    exact .cons _ t (strs_of (by simpa using h) fun j y e => by simpa using hs (j + 1) y (by simpa using e))
theorem elt_end {h₀ h h' : Heap} {L I C D : Addr} {oI oC : Obj} {ls : List Value} {m : Str → Option Value} {led all : List (Addr × Obj)} {s : Shared} {P : Value → List (Addr × Obj) → Prop} {S : List (Addr × Obj) → Prop} {y : Value} {tk tk' : Nat}
    (F : Fr h₀ L h' m) (N : News h₀ L h' all) (sub : ∀ p ∈ (I, oI) :: (C, oC) :: (D, lst ls) :: led, p ∈ all) (off : Off3 I C D led) (hS : S led) (hR : P y led) :
    CompEnd h₀ L m { s with heap := h, toks := tk } I oI C oC D (lst ls) S P y { s with heap := h', toks := tk' } := ⟨h', tk', led, rfl, F, news_sub N sub, off, hS, hR⟩
section
variable {prog : Program} {w : World} {A : Around} {E : Value → Shared → Prop} {s : Shared} {h₀ : Heap} {L : Addr} {m : Str → Option Value} {env : Env}
/- the turns of a block over a list or a range, by an invariant of what is built and the ledger -/
theorem rest_J {elt : Expr} {x : Str} {scope : Scope} {cl : List (Str × Addr)} {S : List (Addr × Obj) → Prop} {P : Nat → Value → Prop} {Fin : List Value → List (Addr × Obj) → Prop} {n : Nat} (J : Nat → List Value → List (Addr × Obj) → Prop)
    (hel : ∀ i v ys news I oI C oC D m₂ h tk (E' : Value → Shared → Prop), i < n → P i v → J i ys news → NsObj oC m₂ → m₂ x = some v → Fr h₀ L h m → News h₀ L h ((I, oI) :: (C, oC) :: (D, lst ys) :: news) → Off3 I C D news → ((@Ne Nat I C) ∧ (@Ne Nat I D) ∧ (@Ne Nat C D)) →
      wpAny (model prog w) A (eval elt (compEnvC scope cl C env)) (CompEnd h₀ L m { s with heap := h, toks := tk } I oI C oC D (lst ys) S (fun y nw => J (i + 1) (ys ++ [y]) nw)) E' { s with heap := h, toks := tk })
    (fin : ∀ ys news, J n ys news → Fin ys news) : ∀ k i ys news, J i ys news → i + k = n → CompRest prog w A h₀ L m env elt x scope cl s S P Fin k i ys news := by
  intro k
  induction k with
  | zero => intro i ys news hJ hi; obtain rfl : i = n := by omega
            exact fin _ _ hJ
  | succ k ih =>
    intro i ys news hJ hi v I oI C oC D m₂ h tk E' hv hC hx F N off ne
    refine wpAny_mono (hel i v ys news I oI C oC D m₂ h tk E' (by omega) hv hJ hC hx F N off ne) (fun y s' q => ?_) fun _ _ e => e
    obtain ⟨h', tk', nw, e, F', N', off', hS, hJ'⟩ := q
    exact ⟨h', tk', nw, e, F', N', off', hS, ih _ _ _ hJ' (by omega)⟩
theorem rest_fix {elt : Expr} {x : Str} {scope : Scope} {cl : List (Str × Addr)} {S : List (Addr × Obj) → Prop} {P : Nat → Value → Prop} {Fin : List Value → List (Addr × Obj) → Prop} {n : Nat} {news : List (Addr × Obj)} (R : Nat → Value → Prop)
    (hel : ∀ i v ys I oI C oC D m₂ h tk (E' : Value → Shared → Prop), i < n → P i v → NsObj oC m₂ → m₂ x = some v → Fr h₀ L h m → News h₀ L h ((I, oI) :: (C, oC) :: (D, lst ys) :: news) → Off3 I C D news → ((@Ne Nat I C) ∧ (@Ne Nat I D) ∧ (@Ne Nat C D)) →
      wpAny (model prog w) A (eval elt (compEnvC scope cl C env)) (CompEnd h₀ L m { s with heap := h, toks := tk } I oI C oC D (lst ys) S (fun y nw => nw = news ∧ R i y)) E' { s with heap := h, toks := tk })
    (fin : ∀ ys, ys.length = n → (∀ j y, ys[j]? = some y → R j y) → Fin ys news) : CompRest prog w A h₀ L m env elt x scope cl s S P Fin n 0 [] news := by
  refine rest_J (n := n) (fun i ys nw => nw = news ∧ ys.length = i ∧ ∀ j y, ys[j]? = some y → R j y) ?_ ?_ n 0 [] news ⟨rfl, rfl, fun j y h => by simp at h⟩ (Nat.zero_add n)
  · rintro i v ys nw I oI C oC D m₂ h tk E' hi hv ⟨rfl, hyl, hR⟩ hC hx F N off ne
    refine wpAny_mono (hel i v ys I oI C oC D m₂ h tk E' hi hv hC hx F N off ne) (fun y s' q => ?_) fun _ _ e => e
    obtain ⟨h', tk', nw', e, F', N', off', hS, rfl, hy⟩ := q
    refine ⟨h', tk', _, e, F', N', off', hS, rfl, by rw [List.length_append, List.length_singleton, hyl], fun j u hj => ?_⟩
    rcases Nat.lt_trichotomy j ys.length with h | h | h
    · exact hR j u (by rwa [List.getElem?_append_left h] at hj)
    · subst h; simp at hj; subst hj; rw [hyl]; exact hy
    · rw [List.getElem?_eq_none (by rw [List.length_append, List.length_singleton]; omega)] at hj; cases hj
  · rintro ys nw ⟨rfl, hyl, hR⟩
    exact fin ys hyl hR
open LCt in
/- the same with a test; the ledger stays -/
theorem rest_T {ct elt : Expr} {x : Str} {scope : Scope} {cl : List (Str × Addr)} {S : List (Addr × Obj) → Prop} {P : Nat → Value → Prop} {Fin : List Value → List (Addr × Obj) → Prop} {n : Nat} {news : List (Addr × Obj)} (J : Nat → List Value → Prop)
    (hel : ∀ i v ys I oI C oC D m₂ h tk (E' : Value → Shared → Prop), i < n → P i v → J i ys → NsObj oC m₂ → m₂ x = some v → Fr h₀ L h m → News h₀ L h ((I, oI) :: (C, oC) :: (D, lst ys) :: news) → Off3 I C D news → ((@Ne Nat I C) ∧ (@Ne Nat I D) ∧ (@Ne Nat C D)) →
      wpAny (model prog w) A (isTrue ct (compEnvC scope cl C env) (eval ct (compEnvC scope cl C env))) (fun ok s' => if ok = true then
        wpAny (model prog w) A (eval elt (compEnvC scope cl C env)) (CompEnd h₀ L m { s with heap := h, toks := tk } I oI C oC D (lst ys) S (fun y nw => nw = news ∧ J (i + 1) (ys ++ [y]))) E' s'
        else CompEnd h₀ L m { s with heap := h, toks := tk } I oI C oC D (lst ys) S (fun _ nw => nw = news ∧ J (i + 1) ys) Value.none s') E' { s with heap := h, toks := tk })
    (fin : ∀ ys, J n ys → Fin ys news) : ∀ k i ys, J i ys → i + k = n → CompRestT prog w A h₀ L m env ct elt x scope cl s S P Fin k i ys news := by
  intro k
  induction k with
  | zero => intro i ys hJ hi; obtain rfl : i = n := by omega
            exact fin _ hJ
  | succ k ih =>
    intro i ys hJ hi v I oI C oC D m₂ h tk E' hv hC hx F N off ne
    refine wpAny_mono (hel i v ys I oI C oC D m₂ h tk E' (by omega) hv hJ hC hx F N off ne) (fun ok s' q => ?_) fun _ _ e => e
    cases ok with
    | true =>
      simp only [if_true] at q ⊢
      refine wpAny_mono q (fun y s' q => ?_) fun _ _ e => e
      obtain ⟨h', tk', nw, e, F', N', off', hS, rfl, hJ'⟩ := q
      exact ⟨h', tk', _, e, F', N', off', hS, ih _ _ hJ' (by omega)⟩
    | false =>
      simp only [Bool.false_eq_true, if_false] at q ⊢
      obtain ⟨h', tk', nw, e, F', N', off', hS, rfl, hJ'⟩ := q
      exact ⟨h', tk', _, e, F', N', off', hS, ih _ _ hJ' (by omega)⟩
/- an item of a written list of texts -/
theorem item_strs {value slice : Expr} {l : Addr} {vs : List Value} {ys : List Str} {k : Int} {u : Tok} {n : Nat} {news : List (Addr × Obj)} {Q : Value → Shared → Prop} (N : News h₀ L s.heap news) (hm : (l, listOf vs.toArray n) ∈ news) (hS : StrsAre vs ys)
    (h0 : 0 ≤ k) (hk : k < ys.length) (h60 : k < 1000) (h : ∀ y t, ys[k.toNat]? = some y → Q (.str y t) s)
    (hs : subscripted slice false (.ref l) (.int k u) = operate [.ref l, .int k u] (getItem (.ref l) (.int k u)) := by with_unfolding_all rfl) :
    wpAny (model prog w) A (subscriptTail value slice (.ref l) (.int k u)) Q E s := by
  have hl := isList_of N hm
  have hy : ys[k.toNat]? = some (ys[k.toNat]'(by omega)) := List.getElem?_eq_getElem (by omega)
  obtain ⟨t, ht⟩ := hS.at hy
  exact tail_any hl.typeIs slot_list_getitem.lookup (wpAny_getItem_list hl h0 (by omega) (by rw [List.getElem?_toArray]; exact ht) (h _ _ hy)) hs
end
/- the twelve cells -/
noncomputable def cellsF (ns : List Int) : List Int := List.zipWith (· + ·) [2, 4, 4, 0, 0, 0, 0, 0, 0, 0, 0, 0] (ns.take 12 ++ (List.replicate (Int.toNat 12) [(0 : Int)]).flatten)
theorem pad_length (ns : List Int) : 12 ≤ (ns.take 12 ++ (List.replicate (Int.toNat 12) [(0 : Int)]).flatten).length := by
  rw [List.length_append, show ((List.replicate (Int.toNat 12) [(0 : Int)]).flatten).length = 12 by decide]; omega
theorem cellsF_length (ns : List Int) : (cellsF ns).length = 12 := by
  have := pad_length ns
  unfold cellsF
  rw [List.length_zipWith]
  simp only [List.length_cons, List.length_nil]
  omega
noncomputable def cellR (ns : List Int) (i : Nat) (y : Value) : Prop := ∃ a b t, ([2, 4, 4, 0, 0, 0, 0, 0, 0, 0, 0, 0] : List Int)[i]? = some a ∧ (ns.take 12 ++ (List.replicate (Int.toNat 12) [(0 : Int)]).flatten)[i]? = some b ∧ y = Value.int (a + b) t
theorem cells_end {ns : List Int} {ys : List Value} (hl : ys.length = 12) (h : ∀ j y, ys[j]? = some y → cellR ns j y) : IntsAre ys (cellsF ns) := by
  refine ints_of (by rw [hl, cellsF_length]) fun j y hj => ?_
  obtain ⟨a, b, t, ha, hb, rfl⟩ := h j y hj
  refine ⟨a + b, t, ?_, rfl⟩
  unfold cellsF
  rw [List.getElem?_zipWith, ha, hb]
/- a chord by its cell -/
noncomputable def chordMenu : List Str := [Str.ofString "ac", Str.ofString "ad", Str.ofString "ae", Str.ofString "bd", Str.ofString "be", Str.ofString "ce"]
noncomputable def endMenu : List Str := [Str.ofString "\n", Str.ofString "\r", Str.ofString "\r\n"]
noncomputable def chordF (c : Int) : Str := chordMenu.getD (c.fmod 6).toNat Str.empty
noncomputable def endF (c : Int) : Str := endMenu.getD ((c.fdiv 3).fmod 3).toNat Str.empty
theorem drop2 {h₀ h : Heap} {L : Addr} {a b : Addr × Obj} {r : List (Addr × Obj)} (N : News h₀ L h (a :: b :: r)) : News h₀ L h (a :: r) := fun p hp => by
  rcases List.mem_cons.mp hp with rfl | hp
  · exact N _ (.head _)
  · exact N _ (.tail _ (.tail _ hp))
theorem fmod_in (c : Int) {k : Int} (hk : 0 < k) : 0 ≤ c.fmod k ∧ c.fmod k < k := ⟨Int.fmod_nonneg_of_pos _ hk, Int.fmod_lt_of_pos _ hk⟩
theorem getD_of {l : List Str} {i : Nat} {y d : Str} (h : l[i]? = some y) : l.getD i d = y := by
  rw [List.getD_eq_getElem?_getD, h]; rfl
/- the chords that no earlier one is -/
noncomputable def dedupF (chs : List Str) : Nat → List Str
  | 0 => []
  | i + 1 => match chs[i]? with
    | some c => if c ∈ chs.take i then dedupF chs i else dedupF chs i ++ [c]
    | none => dedupF chs i
theorem dedupF_z {chs : List Str} : dedupF chs 0 = [] := rfl
theorem dedupF_s {chs : List Str} {i : Nat} : dedupF chs (i + 1) = match chs[i]? with
    | some c => if c ∈ chs.take i then dedupF chs i else dedupF chs i ++ [c]
    | none => dedupF chs i := rfl
section
variable {prog : Program} {w : World} {A : Around} {E : Value → Shared → Prop} {s : Shared} {h₀ : Heap} {L : Addr}
theorem chord_item {value slice : Expr} {l : Addr} {t1 t2 t3 t4 t5 t6 : Tok} {c : Int} {u : Tok} {n : Nat} {news : List (Addr × Obj)} {Q : Value → Shared → Prop} (N : News h₀ L s.heap news)
    (hm : (l, listOf [Value.str (Str.ofString "ac") t1, .str (Str.ofString "ad") t2, .str (Str.ofString "ae") t3, .str (Str.ofString "bd") t4, .str (Str.ofString "be") t5, .str (Str.ofString "ce") t6].toArray n) ∈ news)
    (h : ∀ t, Q (.str (chordF c) t) s)
    (hs : subscripted slice false (.ref l) (.int (c.fmod 6) u) = operate [.ref l, .int (c.fmod 6) u] (getItem (.ref l) (.int (c.fmod 6) u)) := by with_unfolding_all rfl) :
    wpAny (model prog w) A (subscriptTail value slice (.ref l) (.int (c.fmod 6) u)) Q E s := by
  have b := fmod_in c (k := 6) (by decide)
  refine item_strs (ys := chordMenu) N hm (.cons _ _ (.cons _ _ (.cons _ _ (.cons _ _ (.cons _ _ (.cons _ _ .nil)))))) b.1 b.2 (by omega) (fun y t e => ?_) hs
  have := h t
  unfold chordF at this
  rw [getD_of e] at this
  exact this
theorem end_item {value slice : Expr} {l : Addr} {t1 t2 t3 : Tok} {c : Int} {u : Tok} {n : Nat} {news : List (Addr × Obj)} {Q : Value → Shared → Prop} (N : News h₀ L s.heap news)
    (hm : (l, listOf [Value.str (Str.ofString "\n") t1, .str (Str.ofString "\r") t2, .str (Str.ofString "\r\n") t3].toArray n) ∈ news)
    (h : ∀ t, Q (.str (endF c) t) s)
    (hs : subscripted slice false (.ref l) (.int ((c.fdiv 3).fmod 3) u) = operate [.ref l, .int ((c.fdiv 3).fmod 3) u] (getItem (.ref l) (.int ((c.fdiv 3).fmod 3) u)) := by with_unfolding_all rfl) :
    wpAny (model prog w) A (subscriptTail value slice (.ref l) (.int ((c.fdiv 3).fmod 3) u)) Q E s := by
  have b := fmod_in (c.fdiv 3) (k := 3) (by decide)
  refine item_strs (ys := endMenu) N hm (.cons _ _ (.cons _ _ (.cons _ _ .nil))) b.1 b.2 (by omega) (fun y t e => ?_) hs
  have := h t
  unfold endF at this
  rw [getD_of e] at this
  exact this
end
section
variable {prog : Program} {w : World} {A : Around} {E : Value → Shared → Prop} {s : Shared} {h₀ : Heap} {L l : Addr} {m : Str → Option Value} {news : List (Addr × Obj)} {value slice : Expr} {vs : List Value} {ss : List Str} {Q : Value → Shared → Prop}
theorem slice_upto {y : Int} {t : Tok} {n : Nat} (F : Fr h₀ L s.heap m) (N : News h₀ L s.heap news) (hm : (l, listOf vs.toArray n) ∈ news) (hS : StrsAre vs ss) (h0 : 0 ≤ y) (hsz : vs.length ≤ 1000)
    (h : ∀ D ws h', Fr h₀ L h' m → News h₀ L h' ((D, listOf (List.toArray ws) 0) :: news) → (∀ p ∈ news, p.1 < D) → StrsAre ws (ss.take y.toNat) → Q (.ref D) { s with heap := h' })
    (hs : subscripted slice false (.ref l) (.ref s.heap.objs.size) = operate [.ref s.heap.objs.size, .ref l] (getItem (.ref l) (.ref s.heap.objs.size)) := by with_unfolding_all rfl) (ht : ∀ r, letTemporaryGo value (.ref l) r = pure () := by intro _; with_unfolding_all rfl) :
    wpAny (model prog w) A (subscriptTail value slice (.ref l) (.ref s.heap.objs.size)) Q E { s with heap := s.heap.push { cls := .type "slice", data := .fields #[.none, .int y t, .none] } } := by
  refine kmk_slice F N (isList_of N hm) (.none) (.int _ _) (fun D h' F' N' l1 => h D (vs.take y.toNat) h' F' ?_ l1 (hS.take' _)) hs ht (by rw [List.size_toArray, sizeLine_eq]; omega)
  have e : slicePick vs.toArray none (some y) none = (vs.take y.toNat).toArray := by
    rw [kms_pick_eq]
    unfold kms_pick kms_lo kms_hi
    simp only [Int.not_lt.mpr h0, if_false, List.drop_zero, Nat.sub_zero]
    congr 1
    rw [← List.take_take, List.take_length]
  rw [e] at N'
  exact N'
end
theorem any_mem {c : Str} {l : List Str} : l.any (· == c) = true ↔ c ∈ l := by
  rw [List.any_eq_true]
  constructor
  · rintro ⟨x, hx, he⟩; rw [beq_iff_eq] at he; exact he ▸ hx
  · intro h; exact ⟨c, h, by simp⟩
theorem dedup_new {chs : List Str} {i : Nat} {c : Str} {ys : List Value} {t : Tok} (h : StrsAre ys (dedupF chs i)) (hc : chs[i]? = some c) (hn : ((chs.take i).any (· == c)) = false) : StrsAre (ys ++ [.str c t]) (dedupF chs (i + 1)) := by
  have e : dedupF chs (i + 1) = dedupF chs i ++ [c] := by
    rewrite [dedupF_s]
    rw [hc]
    simp only []
    rw [if_neg]
    intro hm
    rw [any_mem.mpr hm] at hn
    cases hn
  rw [e]
  exact h.append' (.cons _ _ .nil)
theorem dedup_old {chs : List Str} {i : Nat} {c : Str} {ys : List Value} (h : StrsAre ys (dedupF chs i)) (hc : chs[i]? = some c) (hn : ((chs.take i).any (· == c)) = true) : StrsAre ys (dedupF chs (i + 1)) := by
  have e : dedupF chs (i + 1) = dedupF chs i := by
    rewrite [dedupF_s]
    rw [hc]
    simp only []
    rw [if_pos]
    rw [← any_mem]
    exact hn
  rw [e]
  exact h
theorem add_strs {prog : Program} {w : World} {A : Around} {E : Value → Shared → Prop} {s : Shared} {h₀ : Heap} {L a b : Addr} {m : Str → Option Value} {news : List (Addr × Obj)} {vs ws : List Value} {ss ts : List Str} {n1 n2 : Nat} {Q : Value → Shared → Prop}
    (F : Fr h₀ L s.heap m) (N : News h₀ L s.heap news) (ha : (a, listOf vs.toArray n1) ∈ news) (hb : (b, listOf ws.toArray n2) ∈ news) (hi : StrsAre vs ss) (hj : StrsAre ws ts)
    (h : ∀ D us h', Fr h₀ L h' m → News h₀ L h' ((D, listOf (List.toArray us) 0) :: news) → (∀ p ∈ news, p.1 < D) → StrsAre us (ss ++ ts) → Q (.ref D) { s with heap := h' })
    (hz : vs.length + ws.length ≤ 1000) : wpAny (model prog w) A (binaryOp .Add (.ref a) (.ref b)) Q E s :=
  kmk_add_lit (zs := vs ++ ws) F N (isList_of N ha) (isList_of N hb) rfl (fun D h' F' N' l1 => h D _ h' F' N' l1 (hi.append' hj)) (by show vs.length + ws.length ≤ sizeLine; rw [sizeLine_eq]; omega)
noncomputable def baseNames : List Str := [Str.ofString "ab", Str.ofString "bc", Str.ofString "cd", Str.ofString "de"]
theorem dedup_len (chs : List Str) : ∀ i, (dedupF chs i).length ≤ i
  | 0 => Nat.le_refl _
  | i + 1 => by
    rewrite [dedupF_s]
    have := dedup_len chs i
    split
    · split
      · omega
      · rw [List.length_append, List.length_singleton]; omega
    · omega
theorem drop3 {h₀ h : Heap} {L : Addr} {a b c : Addr × Obj} {r : List (Addr × Obj)} (N : News h₀ L h (a :: b :: c :: r)) : News h₀ L h (a :: b :: r) := fun p hp => by
  rcases List.mem_cons.mp hp with rfl | hp
  · exact N _ (.head _)
  rcases List.mem_cons.mp hp with rfl | hp
  · exact N _ (.tail _ (.head _))
  · exact N _ (.tail _ (.tail _ (.tail _ hp)))
theorem chordF_len (c : Int) : (chordF c).length = 2 := by
  have b := fmod_in c (k := 6) (by decide)
  have h : ∀ k, k < 6 → (chordMenu.getD k Str.empty).length = 2 := by decide +kernel
  exact h _ (by omega)
theorem endF_len (c : Int) : (endF c).length ≤ 2 := by
  have b := fmod_in (c.fdiv 3) (k := 3) (by decide)
  have h : ∀ k, k < 3 → (endMenu.getD k Str.empty).length ≤ 2 := by decide +kernel
  exact h _ (by omega)
theorem dedup_sub {chs : List Str} : ∀ i, ∀ y ∈ dedupF chs i, y ∈ chs
  | 0, y, h => by rewrite [dedupF_z] at h; cases h
  | i + 1, y, h => by
    rewrite [dedupF_s] at h
    split at h
    · rename_i c hc
      split at h
      · exact dedup_sub i y h
      · rcases List.mem_append.mp h with h | h
        · exact dedup_sub i y h
        · rw [List.mem_singleton.mp h]; exact List.mem_of_getElem? hc
    · exact dedup_sub i y h
theorem names_len {cs : List Int} {chs : List Str} (h : (cs.take 3).map chordF = chs) : ∀ y ∈ baseNames ++ dedupF chs 3, y.length = 2 := by
  intro y hy
  rcases List.mem_append.mp hy with hy | hy
  · have : ∀ y ∈ baseNames, y.length = 2 := by decide +kernel
    exact this y hy
  · have := dedup_sub 3 y hy
    rw [← h] at this
    obtain ⟨c, _, rfl⟩ := List.mem_map.mp this
    exact chordF_len c
theorem dot_at {c7 : List Int} {i : Nat} {a : Int} (h : (c7.map fun c => 1 + c.fmod 3)[i]? = some a) : 1 ≤ a ∧ a ≤ 3 := by
  rw [List.getElem?_map] at h
  cases e : c7[i]? with
  | none => rw [e] at h; cases h
  | some c =>
    rw [e] at h
    cases h
    have b := fmod_in c (k := 3) (by decide)
    show 1 ≤ 1 + c.fmod 3 ∧ 1 + c.fmod 3 ≤ 3
    omega
theorem end_at {c7 : List Int} {i : Nat} {a : Str} (h : (c7.map endF)[i]? = some a) : a.length ≤ 2 := by
  rw [List.getElem?_map] at h
  cases e : c7[i]? with
  | none => rw [e] at h; cases h
  | some c =>
    rw [e] at h
    cases h
    exact endF_len c
/- a line of the mail -/
noncomputable def lineF (c : Int) (b : Str) : Str := Txt.mul (Str.ofString ".") (1 + c.fmod 3) ++ b ++ endF c
noncomputable def linesF (c7 : List Int) (nm : List Str) : List Str := List.zipWith lineF c7 nm
noncomputable def lineR (c7 : List Int) (nm : List Str) (i : Nat) (y : Value) : Prop := ∃ c b t, c7[i]? = some c ∧ nm[i]? = some b ∧ y = Value.str (lineF c b) t
theorem map_at {α β : Type} {f : α → β} {l : List α} {i : Nat} {a : β} (h : (l.map f)[i]? = some a) : ∃ c, l[i]? = some c ∧ a = f c := by
  rw [List.getElem?_map] at h
  cases e : l[i]? with
  | none => rw [e] at h; cases h
  | some c => rw [e] at h; cases h; exact ⟨c, rfl, rfl⟩
theorem line_R {c7 : List Int} {nm : List Str} {i : Nat} {a : Int} {b c : Str} {t : Tok} (ha : (c7.map fun c => 1 + c.fmod 3)[i]? = some a) (hb : nm[i]? = some b) (hc : (c7.map endF)[i]? = some c) : lineR c7 nm i (Value.str (Txt.mul (Str.ofString ".") a ++ b ++ c) t) := by
  obtain ⟨k, hk, rfl⟩ := map_at ha
  obtain ⟨k', hk', rfl⟩ := map_at hc
  rw [hk] at hk'
  cases hk'
  exact ⟨k, b, t, hk, hb, rfl⟩
theorem lines_end {c7 : List Int} {nm : List Str} {ys : List Value} (hl : ys.length = min c7.length nm.length) (h : ∀ j y, ys[j]? = some y → lineR c7 nm j y) : StrsAre ys (linesF c7 nm) := by
  unfold linesF
  refine strs_of (by rw [hl, List.length_zipWith]) fun j y hj => ?_
  obtain ⟨c, b, t, hc, hb, rfl⟩ := h j y hj
  exact ⟨_, t, by rw [List.getElem?_zipWith, hc, hb], rfl⟩
theorem mul_dot_len (c : Int) : (Txt.mul (Str.ofString ".") (1 + c.fmod 3)).length ≤ 3 := by
  have b := fmod_in c (k := 3) (by decide)
  have h : ∀ k ∈ [(1 : Int), 2, 3], (Txt.mul (Str.ofString ".") k).length ≤ 3 := by decide +kernel
  refine h _ ?_
  have : 1 + c.fmod 3 = 1 ∨ 1 + c.fmod 3 = 2 ∨ 1 + c.fmod 3 = 3 := by omega
  simpa using this
theorem str_append_len (x y : Str) : (x ++ y).length = x.length + y.length := by
  show (x.cps ++ y.cps).size = x.cps.size + y.cps.size
  exact Array.size_append
theorem line_len (c : Int) {b : Str} (hb : b.length = 2) : (lineF c b).length ≤ 7 := by
  unfold lineF
  rw [str_append_len, str_append_len]
  have := mul_dot_len c
  have := endF_len c
  omega
theorem lines_weight : ∀ (c7 : List Int) (nm : List Str), (∀ y ∈ nm, y.length = 2) → ((linesF c7 nm).map (·.length)).sum ≤ 7 * nm.length
  | [], nm, _ => by unfold linesF; simp
  | c :: c7, [], _ => by unfold linesF; simp
  | c :: c7, b :: nm, h => by
    have ih := lines_weight c7 nm fun y hy => h y (.tail _ hy)
    have h1 := line_len c (h b (.head _))
    unfold linesF at ih ⊢
    rw [List.zipWith_cons_cons, List.map_cons, List.sum_cons, List.length_cons]
    omega
end
section
set_option maxRecDepth 100000
set_option maxHeartbeats 400000
theorem join_flat : ∀ l : List Str, (Txt.join Str.empty l).cps.toList = (l.map (·.cps.toList)).flatten := by
  have h : ∀ (l : List Str) (a : Array Nat), (l.foldl (fun acc p => acc ++ Str.empty.cps ++ p.cps) a).toList = a.toList ++ (l.map (·.cps.toList)).flatten := by
    intro l
    induction l with
    | nil => intro a; simp
    | cons x l ih =>
      intro a
      rw [List.foldl_cons, ih, List.map_cons, List.flatten_cons]
      have e : (a ++ Str.empty.cps ++ x.cps).toList = a.toList ++ x.cps.toList := by
        rw [Array.toList_append, Array.toList_append]
        show a.toList ++ [] ++ x.cps.toList = _
        rw [List.append_nil]
      rw [e, List.append_assoc]
  intro l
  cases l with
  | nil => rfl
  | cons x l =>
    show (List.foldl _ x.cps l).toList = _
    rw [h, List.map_cons, List.flatten_cons]
namespace Rx
noncomputable def nxtF (hit : Nat → Bool) (len : Nat → Nat) (size d : Nat) : Option (Nat × Nat) := ((List.range' d (size - d)).find? hit).map fun p => (p, p + len p)
theorem nxtF_some {hit : Nat → Bool} {len : Nat → Nat} {size d p e : Nat} (h : nxtF hit len size d = some (p, e)) : d ≤ p ∧ p < size ∧ hit p = true ∧ e = p + len p ∧ ∀ q, d ≤ q → q < p → hit q = false := by
  unfold nxtF at h
  rw [Option.map_eq_some_iff] at h
  obtain ⟨p', h1, h2⟩ := h
  cases h2
  have hm := List.mem_of_find?_eq_some h1
  rw [List.mem_range'_1] at hm
  have hp := List.find?_some h1
  refine ⟨hm.1, by omega, hp, rfl, fun q h2 h3 => ?_⟩
  rw [List.find?_range'_eq_some] at h1
  have := h1.2.2 q h2 h3
  simpa using this
theorem nxtF_none {hit : Nat → Bool} {len : Nat → Nat} {size d : Nat} (h : nxtF hit len size d = none) : ∀ q, d ≤ q → q < size → hit q = false := by
  unfold nxtF at h
  rw [Option.map_eq_none_iff, List.find?_eq_none] at h
  intro q h1 h2
  have := h q (by rw [List.mem_range'_1]; omega)
  simpa using this
theorem len2_bound {text : Array Nat} {p : Nat} (h : p < text.size) : 1 ≤ len2 text p ∧ p + len2 text p ≤ text.size := by
  by_cases hh : text.getD p 0 = 13 ∧ p + 1 < text.size ∧ text.getD (p + 1) 0 = 10
  · have e : len2 text p = 2 := by unfold len2; rw [if_pos hh]
    have := hh.2.1
    omega
  · have e : len2 text p = 1 := by unfold len2; rw [if_neg hh]
    omega
theorem finds1 {text : Array Nat} (hs : text.size ≤ 300) : Finds code1 text (nxtF (hit1 text) (fun _ => 1) text.size) where
  ok := fun d p e h => by
    obtain ⟨h1, h2, h3, h4, h5⟩ := nxtF_some h
    omega
  run := fun d must hd => by
    cases h : nxtF (hit1 text) (fun _ => 1) text.size d with
    | some pe =>
      obtain ⟨p, e⟩ := pe
      obtain ⟨h1, h2, h3, h4, h5⟩ := nxtF_some h
      obtain ⟨k, m, hk, hm, a, b, c⟩ := search1_yes (must := must) h1 h5 h3
      exact ⟨k, m, by omega, hm, c, a, by rw [b, h4]⟩
    | none =>
      obtain ⟨k, m, hk, hm, c⟩ := search1_no (text := text) (must := must) (s := d) (nxtF_none h)
      exact ⟨k, m, by omega, hm, c⟩
theorem finds2 {text : Array Nat} : Finds code2 text (nxtF (fun p => in2 (text.getD p 0)) (len2 text) text.size) where
  ok := fun d p e h => by
    obtain ⟨h1, h2, h3, h4, h5⟩ := nxtF_some h
    have := len2_bound h2
    omega
  run := fun d must hd => by
    cases h : nxtF (fun p => in2 (text.getD p 0)) (len2 text) text.size d with
    | some pe =>
      obtain ⟨p, e⟩ := pe
      obtain ⟨h1, h2, h3, h4, h5⟩ := nxtF_some h
      obtain ⟨k, m, hk, hm, a, b, c⟩ := search2_yes (must := must) h1 h2 h5 h3
      exact ⟨k, m, by omega, hm, c, a, by rw [b, h4]⟩
    | none =>
      obtain ⟨k, m, hk, hm, c⟩ := search2_no (text := text) (must := must) (s := d) (nxtF_none h)
      exact ⟨k, m, by omega, hm, c⟩
/- line ends made whole -/
noncomputable def rep2 : Bool → List Nat → List Nat
  | _, [] => []
  | b, c :: l => if c = 13 then 13 :: 10 :: rep2 true l else if c = 10 then (if b = true then rep2 false l else 13 :: 10 :: rep2 false l) else c :: rep2 false l
theorem rep2_13 {b : Bool} {l : List Nat} : rep2 b (13 :: l) = 13 :: 10 :: rep2 true l := rfl
theorem rep2_10 {l : List Nat} : rep2 false (10 :: l) = 13 :: 10 :: rep2 false l := rfl
theorem rep2_10t {l : List Nat} : rep2 true (10 :: l) = rep2 false l := rfl
theorem rep2_other {b : Bool} {c : Nat} {l : List Nat} (h13 : c ≠ 13) (h10 : c ≠ 10) : rep2 b (c :: l) = c :: rep2 false l := by
  show (if c = 13 then _ else _) = _
  rw [if_neg h13, if_neg h10]
theorem rep2_flag {l : List Nat} (h : l.head? ≠ some 10) : rep2 true l = rep2 false l := by
  cases l with
  | nil => rfl
  | cons c l =>
    by_cases h13 : c = 13
    · subst h13; rfl
    · have h10 : c ≠ 10 := fun e => h (by rw [e]; rfl)
      rw [rep2_other h13 h10, rep2_other h13 h10]
/- the dot at a line's start doubled -/
noncomputable def rep1 : Bool → List Nat → List Nat
  | _, [] => []
  | b, c :: l => if b = true ∧ c = 46 then 46 :: 46 :: rep1 false l else c :: rep1 (c == 10) l
theorem rep1_s {b : Bool} {c : Nat} {l : List Nat} : rep1 b (c :: l) = if b = true ∧ c = 46 then 46 :: 46 :: rep1 false l else c :: rep1 (c == 10) l := rfl
theorem rep2_skip : ∀ (a b : List Nat), (∀ c ∈ a, in2 c = false) → rep2 false (a ++ b) = a ++ rep2 false b
  | [], _, _ => rfl
  | c :: a, b, h => by
    have hc := h c (.head _)
    unfold in2 at hc
    rw [Bool.or_eq_false_iff] at hc
    have h13 : c ≠ 13 := by simpa using hc.2
    have h10 : c ≠ 10 := by simpa using hc.1
    rw [List.cons_append, rep2_other h13 h10, rep2_skip a b fun d hd => h d (.tail _ hd)]
    rfl
noncomputable def plain1 : Bool → List Nat → Prop
  | _, [] => True
  | b, c :: l => ¬ (b = true ∧ c = 46) ∧ plain1 (c == 10) l
noncomputable def after1 : Bool → List Nat → Bool
  | b, [] => b
  | _, c :: l => after1 (c == 10) l
theorem rep1_skip : ∀ (b : Bool) (a r : List Nat), plain1 b a → rep1 b (a ++ r) = a ++ rep1 (after1 b a) r
  | _, [], _, _ => rfl
  | b, c :: a, r, h => by
    rw [List.cons_append]
    conv => lhs; rewrite [rep1_s]
    rw [if_neg h.1, rep1_skip _ a r h.2]
    rfl
theorem drop_extract {x : Array Nat} {d p : Nat} (h : d ≤ p) (_hp : p ≤ x.size) : x.toList.drop d = (x.extract d p).toList ++ x.toList.drop p := by
  have e : (x.extract d p).toList = (x.toList.drop d).take (p - d) := by
    rw [Array.toList_extract, List.extract_eq_take_drop]
  rw [e]
  have e2 : x.toList.drop p = (x.toList.drop d).drop (p - d) := by
    rw [List.drop_drop]; congr 1; omega
  rw [e2, List.take_append_drop]
theorem mem_extract {x : Array Nat} {d p c : Nat} (h : c ∈ (x.extract d p).toList) (hp : p ≤ x.size) : ∃ q, d ≤ q ∧ q < p ∧ x.getD q 0 = c := by
  rw [List.mem_iff_getElem] at h
  obtain ⟨i, hi, e⟩ := h
  have hi' : i < (x.extract d p).size := hi
  rw [Array.size_extract] at hi'
  refine ⟨d + i, by omega, by omega, ?_⟩
  rw [Array.getElem_toList, Array.getElem_extract] at e
  rw [Array.getD_eq_getD_getElem?, Array.getElem?_eq_getElem (by omega)]
  exact e
theorem cons_drop {x : Array Nat} {p : Nat} (h : p < x.size) : x.toList.drop p = x.getD p 0 :: x.toList.drop (p + 1) := by
  rw [List.drop_eq_getElem_cons (by rw [Array.length_toList]; exact h)]
  congr 1
  rw [Array.getD_eq_getD_getElem?, Array.getElem?_eq_getElem h]
  rfl
theorem opt_piece {x : Str} {d p : Nat} (h : d ≤ p) : ((if d < p then [(⟨x.cps.extract d p⟩ : Str)] else []).map (·.cps.toList)).flatten = (x.cps.extract d p).toList := by
  by_cases hlt : d < p
  · rw [if_pos hlt]; simp
  · rw [if_neg hlt, show d = p by omega]
    simp
theorem pcs2_eq {x r : Str} (hr : r.cps.toList = [13, 10]) : ∀ f d, d ≤ x.cps.size → x.cps.size - d < f →
    ((pcs x r (nxtF (fun p => in2 (x.cps.getD p 0)) (len2 x.cps) x.cps.size) f d).map (·.cps.toList)).flatten = rep2 false (x.cps.toList.drop d)
  | 0, d, hd, hf => by omega
  | f + 1, d, hd, hf => by
    cases h : nxtF (fun p => in2 (x.cps.getD p 0)) (len2 x.cps) x.cps.size d with
    | some pe =>
      obtain ⟨p, e⟩ := pe
      obtain ⟨h1, h2, h3, h4, h5⟩ := nxtF_some h
      have hle := len2_bound h2
      rw [pcs_some h, List.map_append, List.flatten_append, List.map_cons, List.flatten_cons, opt_piece h1, pcs2_eq hr f e (by omega) (by omega), hr, drop_extract h1 (Nat.le_of_lt h2)]
      rw [rep2_skip _ _ (fun c hc => by obtain ⟨q, q1, q2, rfl⟩ := mem_extract hc (Nat.le_of_lt h2); exact h5 q q1 q2)]
      congr 1
      rw [cons_drop h2, h4]
      unfold in2 at h3
      rw [Bool.or_eq_true] at h3
      by_cases h13 : x.cps.getD p 0 = 13
      · rw [h13, rep2_13]
        by_cases hn : p + 1 < x.cps.size ∧ x.cps.getD (p + 1) 0 = 10
        · have el : len2 x.cps p = 2 := by unfold len2; rw [if_pos ⟨h13, hn⟩]
          rw [el, cons_drop hn.1, hn.2, rep2_10t]
          rfl
        · have el : len2 x.cps p = 1 := by unfold len2; rw [if_neg fun q => hn q.2]
          rw [el, rep2_flag]
          · rfl
          · by_cases hs : p + 1 < x.cps.size
            · rw [cons_drop hs]
              exact fun q => hn ⟨hs, Option.some.inj q⟩
            · rw [List.drop_eq_nil_of_le (by rw [Array.length_toList]; omega)]
              exact fun q => by cases q
      · have h10 : x.cps.getD p 0 = 10 := by
          rcases h3 with h3 | h3
          · simpa using h3
          · exact absurd (by simpa using h3) h13
        have el : len2 x.cps p = 1 := by unfold len2; rw [if_neg fun q => h13 q.1]
        rw [h10, el, rep2_10]
        rfl
    | none =>
      rw [pcs_none h, opt_piece hd]
      have hno := nxtF_none h
      have e : x.cps.toList.drop d = (x.cps.extract d x.cps.size).toList := by
        rw [drop_extract hd (Nat.le_refl _), List.drop_eq_nil_of_le (by rw [Array.length_toList]; exact Nat.le_refl _), List.append_nil]
      rw [e]
      have hh := rep2_skip (x.cps.extract d x.cps.size).toList [] (fun c hc => by obtain ⟨q, q1, q2, rfl⟩ := mem_extract hc (Nat.le_refl _); exact hno q q1 q2)
      rw [List.append_nil] at hh
      rw [hh]
      exact (List.append_nil _).symm
end Rx
end
section
set_option maxRecDepth 100000
set_option maxHeartbeats 400000
namespace Rx
noncomputable def bol (x : Array Nat) (d : Nat) : Bool := d == 0 || x.getD (d - 1) 0 == 10
theorem bol_succ (x : Array Nat) (d : Nat) : bol x (d + 1) = (x.getD d 0 == 10) := by
  unfold bol
  rw [show (d + 1 == 0) = false by rfl, Bool.false_or, Nat.add_sub_cancel]
theorem run1 {x : Array Nat} : ∀ (n d : Nat), d + n ≤ x.size → (∀ q, d ≤ q → q < d + n → hit1 x q = false) → plain1 (bol x d) ((x.toList.drop d).take n) ∧ after1 (bol x d) ((x.toList.drop d).take n) = bol x (d + n)
  | 0, d, _, _ => by rw [List.take_zero]; exact ⟨trivial, rfl⟩
  | n + 1, d, hs, h => by
    rw [cons_drop (by omega), List.take_succ_cons]
    have ih := run1 n (d + 1) (by omega) (fun q h1 h2 => h q (by omega) (by omega))
    rw [bol_succ] at ih
    refine ⟨⟨fun hh => ?_, ih.1⟩, ih.2.trans (by rw [show d + 1 + n = d + (n + 1) by omega])⟩
    have h0 := h d (Nat.le_refl _) (by omega)
    unfold hit1 at h0
    have hb : (d == 0 || x.getD (d - 1) 0 == 10) = true := hh.1
    rw [hb, decide_eq_true (show d < x.size by omega), hh.2] at h0
    cases h0
theorem pcs1_eq {x r : Str} (hr : r.cps.toList = [46, 46]) : ∀ f d, d ≤ x.cps.size → x.cps.size - d < f →
    ((pcs x r (nxtF (hit1 x.cps) (fun _ => 1) x.cps.size) f d).map (·.cps.toList)).flatten = rep1 (bol x.cps d) (x.cps.toList.drop d)
  | 0, d, hd, hf => by omega
  | f + 1, d, hd, hf => by
    cases h : nxtF (hit1 x.cps) (fun _ => 1) x.cps.size d with
    | some pe =>
      obtain ⟨p, e⟩ := pe
      obtain ⟨h1, h2, h3, h4, h5⟩ := nxtF_some h
      have h4 : e = p + 1 := h4
      have hx : (x.cps.extract d p).toList = (x.cps.toList.drop d).take (p - d) := by rw [Array.toList_extract, List.extract_eq_take_drop]
      have hrun := run1 (x := x.cps) (p - d) d (by omega) (fun q q1 q2 => h5 q q1 (by omega))
      rw [show d + (p - d) = p by omega] at hrun
      rw [pcs_some h, List.map_append, List.flatten_append, List.map_cons, List.flatten_cons, opt_piece h1, pcs1_eq hr f e (by omega) (by omega), hr, drop_extract h1 (Nat.le_of_lt h2)]
      rw [hx, rep1_skip _ _ _ hrun.1, hrun.2]
      congr 1
      unfold hit1 at h3
      rw [Bool.and_eq_true, Bool.and_eq_true] at h3
      have hb : bol x.cps p = true := h3.1.1
      have h46 : x.cps.getD p 0 = 46 := by simpa using h3.2
      rw [cons_drop h2, hb, h46, h4, bol_succ, h46]
      rfl
    | none =>
      rw [pcs_none h, opt_piece hd]
      have hno := nxtF_none h
      have hrun := run1 (x := x.cps) (x.cps.size - d) d (by omega) (fun q q1 q2 => hno q q1 (by omega))
      have e : x.cps.toList.drop d = (x.cps.extract d x.cps.size).toList := by
        rw [drop_extract hd (Nat.le_refl _), List.drop_eq_nil_of_le (by rw [Array.length_toList]; exact Nat.le_refl _), List.append_nil]
      have hx : (x.cps.extract d x.cps.size).toList = (x.cps.toList.drop d).take (x.cps.size - d) := by rw [Array.toList_extract, List.extract_eq_take_drop]
      have hh := rep1_skip (bol x.cps d) ((x.cps.toList.drop d).take (x.cps.size - d)) [] hrun.1
      rw [List.append_nil, ← hx] at hh
      rw [e, hh]
      have en : ∀ b, rep1 b [] = [] := fun _ => rfl
      rw [en, List.append_nil]
/- a line: its dots, its letters, its end -/
structure Ln where
  k : Nat
  a : List Nat
  e : List Nat
structure LnOk (l : Ln) : Prop where
  k1 : 1 ≤ l.k
  ne : ∀ c ∈ l.a, c ≠ 10 ∧ c ≠ 13 ∧ c ≠ 46
  en : l.e = [10] ∨ l.e = [13] ∨ l.e = [13, 10]
noncomputable def rawL (L : List Ln) : List Nat := (L.map fun l => List.replicate l.k 46 ++ l.a ++ l.e).flatten
noncomputable def crL (L : List Ln) : List Nat := (L.map fun l => List.replicate l.k 46 ++ l.a ++ [13, 10]).flatten
noncomputable def dblL (L : List Ln) : List Nat := (L.map fun l => List.replicate (l.k + 1) 46 ++ l.a ++ [13, 10]).flatten
theorem raw_head {L : List Ln} (h : ∀ l ∈ L, LnOk l) : (rawL L).head? ≠ some 10 := by
  cases L with
  | nil => exact fun e => by cases e
  | cons l L =>
    have hk := (h l (.head _)).k1
    obtain ⟨j, hj⟩ : ∃ j, l.k = j + 1 := ⟨l.k - 1, by omega⟩
    unfold rawL
    rw [List.map_cons, List.flatten_cons, hj]
    show some 46 ≠ some 10
    decide
theorem rep2_raw : ∀ L : List Ln, (∀ l ∈ L, LnOk l) → rep2 false (rawL L) = crL L
  | [], _ => rfl
  | l :: L, h => by
    have ih := rep2_raw L fun m hm => h m (.tail _ hm)
    have hl := h l (.head _)
    have hr := raw_head fun m hm => h m (.tail _ hm)
    have e1 : rawL (l :: L) = (List.replicate l.k 46 ++ l.a) ++ (l.e ++ rawL L) := by
      unfold rawL; rw [List.map_cons, List.flatten_cons]; simp only [List.append_assoc]
    have e2 : crL (l :: L) = (List.replicate l.k 46 ++ l.a) ++ (13 :: 10 :: crL L) := by
      unfold crL; rw [List.map_cons, List.flatten_cons]; simp only [List.append_assoc, List.cons_append, List.nil_append]
    rw [e1, e2, rep2_skip _ _ (fun c hc => by
      rcases List.mem_append.mp hc with hc | hc
      · rw [List.eq_of_mem_replicate hc]; rfl
      · have := hl.ne c hc
        unfold in2
        rw [beq_eq_false_iff_ne.mpr this.1, beq_eq_false_iff_ne.mpr this.2.1]; rfl)]
    congr 1
    rcases hl.en with e | e | e <;> rw [e]
    · show rep2 false (10 :: rawL L) = _
      rw [rep2_10, ih]
    · show rep2 false (13 :: rawL L) = _
      rw [rep2_13, rep2_flag hr, ih]
    · show rep2 false (13 :: 10 :: rawL L) = _
      rw [rep2_13, rep2_10t, ih]
theorem plain_no10 : ∀ a : List Nat, (∀ c ∈ a, c ≠ 10) → plain1 false a ∧ after1 false a = false
  | [], _ => ⟨trivial, rfl⟩
  | c :: a, h => by
    have ih := plain_no10 a fun d hd => h d (.tail _ hd)
    have hc : (c == 10) = false := beq_eq_false_iff_ne.mpr (h c (.head _))
    refine ⟨⟨fun q => Bool.false_ne_true q.1, ?_⟩, ?_⟩
    · rw [hc]; exact ih.1
    · show after1 (c == 10) a = false
      rw [hc]; exact ih.2
theorem rep1_cr : ∀ L : List Ln, (∀ l ∈ L, LnOk l) → rep1 true (crL L) = dblL L
  | [], _ => rfl
  | l :: L, h => by
    have ih := rep1_cr L fun m hm => h m (.tail _ hm)
    have hl := h l (.head _)
    obtain ⟨j, hj⟩ : ∃ j, l.k = j + 1 := ⟨l.k - 1, by have := hl.k1; omega⟩
    have e1 : crL (l :: L) = 46 :: ((List.replicate j 46 ++ l.a) ++ (13 :: 10 :: crL L)) := by
      unfold crL; rw [List.map_cons, List.flatten_cons, hj, List.replicate_succ]; simp only [List.append_assoc, List.cons_append, List.nil_append]
    have e2 : dblL (l :: L) = 46 :: 46 :: ((List.replicate j 46 ++ l.a) ++ (13 :: 10 :: dblL L)) := by
      unfold dblL; rw [List.map_cons, List.flatten_cons, hj, List.replicate_succ, List.replicate_succ]; simp only [List.append_assoc, List.cons_append, List.nil_append]
    rw [e1, e2]
    have hp := plain_no10 (List.replicate j 46 ++ l.a) (fun c hc => by
      rcases List.mem_append.mp hc with hc | hc
      · rw [List.eq_of_mem_replicate hc]; decide
      · exact (hl.ne c hc).1)
    show 46 :: 46 :: rep1 false _ = _
    rw [rep1_skip _ _ _ hp.1, hp.2, ← ih]
    rfl
end Rx
end
section
theorem off_Machine : True := by (w_top off; first | walk1 | trivial)
set_option maxRecDepth 100000
set_option maxHeartbeats 2000000
open PySem.Calls
set_option hygiene false in
local macro_rules | `(tactic| k_all) => `(tactic| assumption)
set_option hygiene false in
local macro_rules | `(tactic| k_all) => `(tactic| walk_at "MY h1")
set_option hygiene false in
local macro_rules | `(tactic| walk_at "setAttr ref") => `(tactic| (k_here; (with_reducible show wpAny _ _ (setAttr _ "read" _) _ _ _); refine Stop.get ?_))
set_option hygiene false in
local macro_rules | `(tactic| walk_at "call ref") => `(tactic| (k_here; refine Stop.get ?_))
theorem allLt_up {d e : Nat} (h : d ≤ e) : ∀ {l : List (Addr × Obj)}, AllLt d l → AllLt e l
  | [], _ => trivial
  | _ :: _, x => ⟨Nat.lt_of_lt_of_le x.1 h, allLt_up h x.2⟩
/- what a call of the reader's closure does: f with its code cf, over the place la; the cells of at and text -/
noncomputable def ReadOn (prog : Program) (w : World) (K : Frag) (p : Program) (loose : List Str) (mean : ExcName → Option Value) (mg mb : Str → Option Value) (text : Str) (f cf la cA cT : Addr) (fobj ocf oA oT : Obj) : Prop :=
  ∀ (dp un : Nat) (gd : Option (List Code)) (cn : Str) (cs : Scope) (a : Addr) (ccd : Value) (cl : List (Str × Addr)) (outer : List Env) (A₀ : Around) (base h₀ : Heap) (L : Addr) (m : Str → Option Value) (rest : List (Addr × Obj)) (s : Shared)
    (Q E : Value → Shared → Prop) (i : Int) (k : Nat) (t1 t2 : Tok),
    Below A₀ base outer h₀ → Fr h₀ L s.heap m → K.In h₀ → News h₀ L s.heap ((la, listOf #[.int i t1] k) :: (f, fobj) :: (cf, ocf) :: (cA, oA) :: (cT, oT) :: rest) → (∀ q ∈ rest, @Ne Nat q.1 la) → Top p loose mean mg mb h₀ → cs.kind = .function → dp + 3 < recursionLimit → un + 30 < cLine →
    0 ≤ i → i ≤ 1000 →
    (∀ h' tk' t t', Fr h₀ L h' m → News h₀ L h' ((la, listOf #[.int (i + ((Txt.slice text (some i) (some (i + 1))).length : Int)) t'] k) :: (f, fobj) :: (cf, ocf) :: (cA, oA) :: (cT, oT) :: rest) → Q (.str (Txt.slice text (some i) (some (i + 1))) t) { s with heap := h', toks := tk' }) →
    wpAny (model prog w) (ktrTop dp un gd cn cs L a ccd cl outer) (call (.ref f) [.int 1 t2]) Q E s
/- the lexer over its stream: what stays -/
structure Mach (w : World) (p : Program) (loose : List Str) (mean : ExcName → Option Value) (mg mb : Str → Option Value) (text : Str) (pb x d sd st f cf la cA cT : Addr) (oD fo fobj ocf oA oT : Obj) : Prop where
  q1 : @LT.lt Nat _ cT cA
  q2 : @LT.lt Nat _ cA la
  q3 : @LT.lt Nat _ la cf
  q4 : @LT.lt Nat _ cf f
  q5 : @LT.lt Nat _ f st
  q6 : @LT.lt Nat _ st sd
  q7 : @LT.lt Nat _ sd d
  q8 : @LT.lt Nat _ d x
  q9 : @LT.lt Nat _ x pb
  ns : IsNsO oD (fun y => if y = Str.ofString "read" then some (.ref f) else none)
  c : fo.cls = .type "function"
  dd : fo.dict = some sd
  fd : ∃ fd, fo.data = .func fd
  ro : ReadOn prg w (hd.heap_39 w.params) p loose mean mg mb text f cf la cA cT fobj ocf oA oT
  fn : ∃ oc od fd sl, fobj = ⟨oc, od, .func fd, sl⟩
namespace mach_t
noncomputable def S (w : World) (p : Program) (loose : List Str) (mean : ExcName → Option Value) (mg : Str → Option Value) (mb : Str → Option Value) (text : Str) (tk : Tok) (dp : Nat) (un : Nat) (gd : Option (List Code)) (cn : Str) (cs : Scope) (a : Addr) (ccd : Value) (cl : List (Str × Addr)) (outer : List Env) (A₀ : Around) (base : Heap) (h₀ : Heap) (L : Addr) (m : Str → Option Value) (rest : List (Addr × Obj)) (s : Shared) (Q : Value → Shared → Prop) (E : Value → Shared → Prop) : Prop :=
  ∀ (hlen : text.length ≤ 300)  (B : Below A₀ base outer h₀)  (F : Fr h₀ L s.heap m)  (X : (hd.heap_39 w.params).In h₀)  (C : CodeHd base 152 148)  (N : News h₀ L s.heap ((148, tabObj #[]) :: rest))  (hoff : ∀ p ∈ rest, p.1 ≠ 148)  (T : Top p loose mean mg mb h₀)  (hk : cs.kind = .function)  (hd : dp + 100 < recursionLimit)  (hu : un + 1000 < cLine)  (hret : ∀ (pb x d sd st f cf la cA cT : Addr) (k n : Nat) (t1 t2 t3 t4 u1 u3 u4 : Tok) (oD fo fobj ocf oA oT : Obj) (ps : Array Value) h' tk', Fr h₀ L h' m →
      News h₀ L h' ((pb, listOf #[] k) :: (x, instObj 125 d) :: (d, dictOf [mcEnt w "lineno" t1 (.int 1 u1), mcEnt w "instream" t2 (.ref st), mcEnt w "whitespace" t3 (.str (Str.ofString "\n\t\r ") u3), mcEnt w "pushback" t4 (.ref pb)] 4) :: (sd, oD) :: (st, fo) :: (f, fobj) :: (cf, ocf) :: (la, listOf #[.int 0 u4] n) :: (cA, oA) :: (cT, oT) :: (148, tabObj ps) :: rest) →
      @LT.lt Nat _ 148 cT → AllLt cT rest → Mach w p loose mean mg mb text pb x d sd st f cf la cA cT oD fo fobj ocf oA oT →
      Q (.ref x) { s with heap := h', toks := tk' }),
    wpAny (model prg w) (ktrTop dp un gd cn cs L a ccd cl outer) (call (.ref 153) [.str text tk]) Q E s
theorem c₁ : Nonempty {t : World × Program × (List Str) × (ExcName → Option Value) × (Str → Option Value) × (Str → Option Value) × Str × Tok × Nat × Nat × (Option (List Code)) × Str × Scope × Addr × Value × (List (Str × Addr)) × (List Env) × Around × Heap × Heap × Addr × (Str → Option Value) × (List (Addr × Obj)) × Shared × (Value → Shared → Prop) × (Value → Shared → Prop) // S t.1 t.2.1 t.2.2.1 t.2.2.2.1 t.2.2.2.2.1 t.2.2.2.2.2.1 t.2.2.2.2.2.2.1 t.2.2.2.2.2.2.2.1 t.2.2.2.2.2.2.2.2.1 t.2.2.2.2.2.2.2.2.2.1 t.2.2.2.2.2.2.2.2.2.2.1 t.2.2.2.2.2.2.2.2.2.2.2.1 t.2.2.2.2.2.2.2.2.2.2.2.2.1 t.2.2.2.2.2.2.2.2.2.2.2.2.2.1 t.2.2.2.2.2.2.2.2.2.2.2.2.2.2.1 t.2.2.2.2.2.2.2.2.2.2.2.2.2.2.2.1 t.2.2.2.2.2.2.2.2.2.2.2.2.2.2.2.2.1 t.2.2.2.2.2.2.2.2.2.2.2.2.2.2.2.2.2.1 t.2.2.2.2.2.2.2.2.2.2.2.2.2.2.2.2.2.2.1 t.2.2.2.2.2.2.2.2.2.2.2.2.2.2.2.2.2.2.2.1 t.2.2.2.2.2.2.2.2.2.2.2.2.2.2.2.2.2.2.2.2.1 t.2.2.2.2.2.2.2.2.2.2.2.2.2.2.2.2.2.2.2.2.2.1 t.2.2.2.2.2.2.2.2.2.2.2.2.2.2.2.2.2.2.2.2.2.2.1 t.2.2.2.2.2.2.2.2.2.2.2.2.2.2.2.2.2.2.2.2.2.2.2.1 t.2.2.2.2.2.2.2.2.2.2.2.2.2.2.2.2.2.2.2.2.2.2.2.2.1 t.2.2.2.2.2.2.2.2.2.2.2.2.2.2.2.2.2.2.2.2.2.2.2.2.2 → ∀ t : World × Program × (List Str) × (ExcName → Option Value) × (Str → Option Value) × (Str → Option Value) × Str × Tok × Nat × Nat × (Option (List Code)) × Str × Scope × Addr × Value × (List (Str × Addr)) × (List Env) × Around × Heap × Heap × Addr × (Str → Option Value) × (List (Addr × Obj)) × Shared × (Value → Shared → Prop) × (Value → Shared → Prop), S t.1 t.2.1 t.2.2.1 t.2.2.2.1 t.2.2.2.2.1 t.2.2.2.2.2.1 t.2.2.2.2.2.2.1 t.2.2.2.2.2.2.2.1 t.2.2.2.2.2.2.2.2.1 t.2.2.2.2.2.2.2.2.2.1 t.2.2.2.2.2.2.2.2.2.2.1 t.2.2.2.2.2.2.2.2.2.2.2.1 t.2.2.2.2.2.2.2.2.2.2.2.2.1 t.2.2.2.2.2.2.2.2.2.2.2.2.2.1 t.2.2.2.2.2.2.2.2.2.2.2.2.2.2.1 t.2.2.2.2.2.2.2.2.2.2.2.2.2.2.2.1 t.2.2.2.2.2.2.2.2.2.2.2.2.2.2.2.2.1 t.2.2.2.2.2.2.2.2.2.2.2.2.2.2.2.2.2.1 t.2.2.2.2.2.2.2.2.2.2.2.2.2.2.2.2.2.2.1 t.2.2.2.2.2.2.2.2.2.2.2.2.2.2.2.2.2.2.2.1 t.2.2.2.2.2.2.2.2.2.2.2.2.2.2.2.2.2.2.2.2.1 t.2.2.2.2.2.2.2.2.2.2.2.2.2.2.2.2.2.2.2.2.2.1 t.2.2.2.2.2.2.2.2.2.2.2.2.2.2.2.2.2.2.2.2.2.2.1 t.2.2.2.2.2.2.2.2.2.2.2.2.2.2.2.2.2.2.2.2.2.2.2.1 t.2.2.2.2.2.2.2.2.2.2.2.2.2.2.2.2.2.2.2.2.2.2.2.2.1 t.2.2.2.2.2.2.2.2.2.2.2.2.2.2.2.2.2.2.2.2.2.2.2.2.2} := eps_ex ⟨(⟨fun _ _ => 0, { strHash := fun _ => 0, shareClass := fun _ => 0, mergeTok := fun _ => default, idOf := fun _ => 0, idOfShared := fun _ _ => 0, followText := fun _ => true, idOfImm := fun _ => 0 }⟩, default, default, default, default, default, default, default, default, default, default, default, default, default, default, default, default, {}, default, default, default, default, default, {}, default, default)⟩ fun t => S t.1 t.2.1 t.2.2.1 t.2.2.2.1 t.2.2.2.2.1 t.2.2.2.2.2.1 t.2.2.2.2.2.2.1 t.2.2.2.2.2.2.2.1 t.2.2.2.2.2.2.2.2.1 t.2.2.2.2.2.2.2.2.2.1 t.2.2.2.2.2.2.2.2.2.2.1 t.2.2.2.2.2.2.2.2.2.2.2.1 t.2.2.2.2.2.2.2.2.2.2.2.2.1 t.2.2.2.2.2.2.2.2.2.2.2.2.2.1 t.2.2.2.2.2.2.2.2.2.2.2.2.2.2.1 t.2.2.2.2.2.2.2.2.2.2.2.2.2.2.2.1 t.2.2.2.2.2.2.2.2.2.2.2.2.2.2.2.2.1 t.2.2.2.2.2.2.2.2.2.2.2.2.2.2.2.2.2.1 t.2.2.2.2.2.2.2.2.2.2.2.2.2.2.2.2.2.2.1 t.2.2.2.2.2.2.2.2.2.2.2.2.2.2.2.2.2.2.2.1 t.2.2.2.2.2.2.2.2.2.2.2.2.2.2.2.2.2.2.2.2.1 t.2.2.2.2.2.2.2.2.2.2.2.2.2.2.2.2.2.2.2.2.2.1 t.2.2.2.2.2.2.2.2.2.2.2.2.2.2.2.2.2.2.2.2.2.2.1 t.2.2.2.2.2.2.2.2.2.2.2.2.2.2.2.2.2.2.2.2.2.2.2.1 t.2.2.2.2.2.2.2.2.2.2.2.2.2.2.2.2.2.2.2.2.2.2.2.2.1 t.2.2.2.2.2.2.2.2.2.2.2.2.2.2.2.2.2.2.2.2.2.2.2.2.2
noncomputable def c₀ : World × Program × (List Str) × (ExcName → Option Value) × (Str → Option Value) × (Str → Option Value) × Str × Tok × Nat × Nat × (Option (List Code)) × Str × Scope × Addr × Value × (List (Str × Addr)) × (List Env) × Around × Heap × Heap × Addr × (Str → Option Value) × (List (Addr × Obj)) × Shared × (Value → Shared → Prop) × (Value → Shared → Prop) := (Classical.choice c₁).val
noncomputable def w : World := c₀.1
noncomputable def p : Program := c₀.2.1
noncomputable def loose : List Str := c₀.2.2.1
noncomputable def mean : ExcName → Option Value := c₀.2.2.2.1
noncomputable def mg : Str → Option Value := c₀.2.2.2.2.1
noncomputable def mb : Str → Option Value := c₀.2.2.2.2.2.1
noncomputable def text : Str := c₀.2.2.2.2.2.2.1
noncomputable def tk : Tok := c₀.2.2.2.2.2.2.2.1
noncomputable def dp : Nat := c₀.2.2.2.2.2.2.2.2.1
noncomputable def un : Nat := c₀.2.2.2.2.2.2.2.2.2.1
noncomputable def gd : Option (List Code) := c₀.2.2.2.2.2.2.2.2.2.2.1
noncomputable def cn : Str := c₀.2.2.2.2.2.2.2.2.2.2.2.1
noncomputable def cs : Scope := c₀.2.2.2.2.2.2.2.2.2.2.2.2.1
noncomputable def a : Addr := c₀.2.2.2.2.2.2.2.2.2.2.2.2.2.1
noncomputable def ccd : Value := c₀.2.2.2.2.2.2.2.2.2.2.2.2.2.2.1
noncomputable def cl : List (Str × Addr) := c₀.2.2.2.2.2.2.2.2.2.2.2.2.2.2.2.1
noncomputable def outer : List Env := c₀.2.2.2.2.2.2.2.2.2.2.2.2.2.2.2.2.1
noncomputable def A₀ : Around := c₀.2.2.2.2.2.2.2.2.2.2.2.2.2.2.2.2.2.1
noncomputable def base : Heap := c₀.2.2.2.2.2.2.2.2.2.2.2.2.2.2.2.2.2.2.1
noncomputable def h₀ : Heap := c₀.2.2.2.2.2.2.2.2.2.2.2.2.2.2.2.2.2.2.2.1
noncomputable def L : Addr := c₀.2.2.2.2.2.2.2.2.2.2.2.2.2.2.2.2.2.2.2.2.1
noncomputable def m : Str → Option Value := c₀.2.2.2.2.2.2.2.2.2.2.2.2.2.2.2.2.2.2.2.2.2.1
noncomputable def rest : List (Addr × Obj) := c₀.2.2.2.2.2.2.2.2.2.2.2.2.2.2.2.2.2.2.2.2.2.2.1
noncomputable def s : Shared := c₀.2.2.2.2.2.2.2.2.2.2.2.2.2.2.2.2.2.2.2.2.2.2.2.1
noncomputable def Q : Value → Shared → Prop := c₀.2.2.2.2.2.2.2.2.2.2.2.2.2.2.2.2.2.2.2.2.2.2.2.2.1
noncomputable def E : Value → Shared → Prop := c₀.2.2.2.2.2.2.2.2.2.2.2.2.2.2.2.2.2.2.2.2.2.2.2.2.2
theorem main : S w p loose mean mg mb text tk dp un gd cn cs a ccd cl outer A₀ base h₀ L m rest s Q E := by
  unfold S
  intro hlen B F X C N hoff T hk hd hu hret
  unfold prg
  revert X; k_fill; intro X
  refine wpAny_call ?_
  k_dflt ((refine' code_defC ?k1_u1 ?k2_u1 ?k3_u1 ?k4_u1 ?k5_u1 ?kA_u1 ?kF_u1 ?kK_u1 ?k6_u1 ?k7_u1 ?k8_u1 ?k9_u1 ?kB_u1 ?kD_u1 ?_ ?c2_u1 ?c3_u1 ?c4_u1; (case kA_u1 => exact rfl); (case kF_u1 => exact rfl); (case kK_u1 => assumption); (case k1_u1 => k_asm); (case k2_u1 => k_asm); (case k3_u1 => k_asm); (case k4_u1 => k_asm); (case k5_u1 => k_asm); (case k6_u1 => k_is); (case k7_u1 => k_is); (case k8_u1 => ktr_room); (case k9_u1 => exact BindsTo.of_eq rfl); (case kB_u1 => exact rfl); (case kD_u1 => decide +kernel); (case c2_u1 => exact rfl); (case c3_u1 => exact rfl); (case c4_u1 => exact rfl); k_whole; intro g' L' h' tk' cells' FG' F' N' Y' B' X' T' l1; have l0' := l1; (try k_lt l1); k_cells Y'; (try simp only [List.cons_append, List.nil_append] at N'); (try dsimp only); (try k_lift B'); (try k_fold)))
  k_steps
  refine Stop.mk ?_
  k_dflt (refine' fn_setAttr ?F ?N ?m ?U ?c ?d ?f ?_; (case F | N => k_asm); (case m => k_mem); (case U => k_updF); (case c | d | f => rfl))
  intro _ _ _ _ _ N' l1 _
  (try k_lt l1)
  (try dsimp only at N')
  k_steps
  refine Stop.mk ?_
  k_dflt (refine' call_cls ?k1 ?k2 ?k3 ?k4 ?k5 ?k6 ?_; (case k1 => k_asm); (case k2 => k_asm); (case k3 => k_asm); (case k4 => k_is); (case k5 => k_is); (case k6 => k_is); k_whole; intro x' d' h' F' N' l1 l2; (try k_lt l1); (try k_lt2 l2); (try k_sweep))
  k_dflt ((refine' code_def ?k1_u2 ?k2_u2 ?k3_u2 ?k4_u2 ?k5_u2 ?kA_u2 ?kF_u2 ?kK_u2 ?k6_u2 ?k7_u2 ?k8_u2 ?k9_u2 ?kB_u2 ?_ ?c2_u2 ?c3_u2 ?c4_u2 ?c5_u2; (case kA_u2 => exact rfl); (case kF_u2 => exact rfl); (case kK_u2 => exact rfl); (case k1_u2 => k_asm); (case k2_u2 => k_asm); (case k3_u2 => k_asm); (case k4_u2 => k_asm); (case k5_u2 => k_asm); (case k6_u2 => k_is); (case k7_u2 => k_is); (case k8_u2 => ktr_room); (case k9_u2 => exact BindsTo.of_eq rfl); (case c5_u2 => decide); (case kB_u2 => exact locs rfl); (case c2_u2 => exact rfl); (case c3_u2 => exact rfl); (case c4_u2 => exact rfl); k_whole; intro g' L' h' FG' F' N' B' X' T'; (try dsimp only); (try k_fold)))
  k_steps
  refine' hret _ _ _ _ _ _ _ _ _ _ _ _ _ _ _ _ _ _ _ _ _ _ _ _ _ _ _ _ ?F ?N ?lt1 ?lt2 { q1 := ?q1, q2 := ?q2, q3 := ?q3, q4 := ?q4, q5 := ?q5, q6 := ?q6, q7 := ?q7, q8 := ?q8, q9 := ?q9, ns := ?ns, c := ?c, dd := ?dd, fd := ?fd, fn := ?fn, ro := ?RO }
  case F => k_asm
  case ns => assumption
  case N =>
    unfold mcEnt
    exact news_sub (by k_asm) (by (repeat (first | with_reducible exact sub_refl _ | with_reducible refine sub_cons ?_ | with_reducible refine sub_tail ?_)))
  case c => rfl
  case dd => rfl
  case fd => exact ⟨_, rfl⟩
  case fn => exact ⟨_, _, _, _, rfl⟩
  case q1 => exact Nat.lt_succ_self _
  case lt1 => omega
  case lt2 =>
    (rename (@LT.lt Nat _ 148 _ ∧ AllLt _ rest) => zl)
    exact allLt_up (Nat.le_succ _) zl.2
  case q2 => omega
  case q3 => omega
  case q4 => omega
  case q5 => omega
  case q6 => omega
  case q7 => omega
  case q8 => omega
  case q9 => omega
  case RO =>
    clear hret
    unfold ReadOn prg
    intro dp un gd cn cs a ccd cl outer A₀ base h₀ L m rest s Q E i k t1 t2 B F X N hoff T hk hd hu hi0 hi1 hret
    refine wpAny_call ?_
    k_dflt ((refine' code_nest ?k1_u3 ?k2_u3 ?k3_u3 ?k4_u3 ?k5_u3 ?kA_u3 ?kF_u3 ?kK_u3 ?k6_u3 ?k7_u3 ?k8_u3 ?k9_u3 ?kB_u3 ?_ ?c2_u3 ?c3_u3 ?c4_u3 ?c5_u3; (case kA_u3 => exact rfl); (case kF_u3 => exact rfl); (case kK_u3 => assumption); (case k1_u3 => k_asm); (case k2_u3 => k_asm); (case k3_u3 => k_asm); (case k4_u3 => k_asm); (case k5_u3 => k_asm); (case k6_u3 => k_mem); (case k7_u3 => exact codeRec_news (by k_asm) (by k_mem) (by assumption) (by assumption)); (case k8_u3 => ktr_room); (case k9_u3 => exact BindsTo.of_eq rfl); (case c5_u3 => decide); (case kB_u3 => exact locs rfl); (case c2_u3 => exact rfl); (case c3_u3 => exact rfl); (case c4_u3 => exact rfl); k_whole; intro g' L' h' FG' F' N' B' X' T'; (try dsimp only); (try k_lift B'); (try k_fold)))
    k_steps
    exact hret _ _ _ _ (by k_asm) (by k_asm)
end mach_t
theorem mach_t {w : World} {p : Program} {loose : List Str} {mean : ExcName → Option Value} {mg mb : Str → Option Value} {text : Str} {tk : Tok} (hlen : text.length ≤ 300)
  {dp un : Nat} {gd : Option (List Code)} {cn : Str} {cs : Scope} {a : Addr} {ccd : Value} {cl : List (Str × Addr)} {outer : List Env} {A₀ : Around} {base h₀ : Heap} {L : Addr} {m : Str → Option Value} {rest : List (Addr × Obj)} {s : Shared}
    {Q E : Value → Shared → Prop}
    (B : Below A₀ base outer h₀) (F : Fr h₀ L s.heap m) (X : (hd.heap_39 w.params).In h₀) (C : CodeHd base 152 148) (N : News h₀ L s.heap ((148, tabObj #[]) :: rest)) (hoff : ∀ p ∈ rest, p.1 ≠ 148) (T : Top p loose mean mg mb h₀) (hk : cs.kind = .function) (hd : dp + 100 < recursionLimit) (hu : un + 1000 < cLine)
    (hret : ∀ (pb x d sd st f cf la cA cT : Addr) (k n : Nat) (t1 t2 t3 t4 u1 u3 u4 : Tok) (oD fo fobj ocf oA oT : Obj) (ps : Array Value) h' tk', Fr h₀ L h' m →
      News h₀ L h' ((pb, listOf #[] k) :: (x, instObj 125 d) :: (d, dictOf [mcEnt w "lineno" t1 (.int 1 u1), mcEnt w "instream" t2 (.ref st), mcEnt w "whitespace" t3 (.str (Str.ofString "\n\t\r ") u3), mcEnt w "pushback" t4 (.ref pb)] 4) :: (sd, oD) :: (st, fo) :: (f, fobj) :: (cf, ocf) :: (la, listOf #[.int 0 u4] n) :: (cA, oA) :: (cT, oT) :: (148, tabObj ps) :: rest) →
      @LT.lt Nat _ 148 cT → AllLt cT rest → Mach w p loose mean mg mb text pb x d sd st f cf la cA cT oD fo fobj ocf oA oT →
      Q (.ref x) { s with heap := h', toks := tk' }) :
    wpAny (model prg w) (ktrTop dp un gd cn cs L a ccd cl outer) (call (.ref 153) [.str text tk]) Q E s :=
  (Classical.choice mach_t.c₁).property mach_t.main (w, p, loose, mean, mg, mb, text, tk, dp, un, gd, cn, cs, a, ccd, cl, outer, A₀, base, h₀, L, m, rest, s, Q, E) hlen B F X C N hoff T hk hd hu hret
end
section
set_option maxRecDepth 100000
set_option maxHeartbeats 2000000
open PySem.Spec PySem.Calls PyProof.Rows.LCg
theorem comp_loop_dict {prog : Program} {w : World} {A : Around} {s : Shared} {kx vx iter : Expr} {elts : List Expr} {x1} {tp : Pos} {scope : Scope} {pos : Pos} {it : Value} {D : Addr} {env : Env} {R : Result → Shared → Prop} (I : Nat → Shared → Prop)
    (turn : ∀ n s, I n s → wpAny (model prog w) A (pyNext it) (fun r s₁ => match r with
      | none => R (.ok .next) s₁
      | some v => wpAny (model prog w) A (letOwnedTupleGo (.Tuple elts x1 tp) it v) (fun _ s₁' => wpAny (model prog w) A (assign (.Tuple elts x1 tp) env v) (fun _ s₂ =>
          wpAny (model prog w) A (eval kx env) (fun kv s₄ => wpAny (model prog w) A (eval vx env) (fun vv s₅ =>
              wpAny (model prog w) A (dictSet D kv vv) (fun _ s₆ => ∃ m, m < n ∧ I m s₆) (notedBy (model prog w) A env fun e s' => R (.error e) s') s₅) (notedBy (model prog w) A env fun e s' => R (.error e) s') s₄) (notedBy (model prog w) A env fun e s' => R (.error e) s') s₂)
          (notedBy (model prog w) A env fun e s' => R (.error e) s') s₁') (notedBy (model prog w) A env fun e s' => R (.error e) s') s₁) (notedBy (model prog w) A env fun e s' => R (.error e) s') s)
    (n : Nat) (h : I n s) : codeAny (model prog w) A (.compLoop (.DictComp kx vx [⟨.Tuple elts x1 tp, iter, [], 0⟩] scope pos) 0 it (.ref D) env) R s := by
  refine codeAny_loop rfl I (fun n s hI => ?_) n h
  show wpAny _ A ((compTurn (.DictComp kx vx [⟨.Tuple elts x1 tp, iter, [], 0⟩] scope pos) 0 it (.ref D) env).onRaise (fun x => do noteFrame x env; theTreesLotGoes x)) _ _ s
  refine wpAny_noted ?_
  rw [compTurn_dict]
  refine wpAny_bind (wpAny_standAt (wpAny_bind (wpAny_mono (turn n s hI) (fun r s₁ h₁ => ?_) fun _ _ h' => h')))
  cases r with
  | none => exact wpAny_pure h₁
  | some v =>
    refine wpAny_bind (wpAny_mono h₁ (fun _ s₁' h₁' => ?_) fun _ _ h' => h')
    refine wpAny_bind (wpAny_mono h₁' (fun _ s₂ h₂ => wpAny_bind (wpAny_mono (wpAny_tests_nil (Q := fun ok s₃ => ok = true ∧ s₃ = s₂) ⟨rfl, rfl⟩) (fun ok s₃ h₃ => ?_) fun _ _ h' => h')) fun _ _ h' => h')
    obtain ⟨rfl, rfl⟩ := h₃
    exact wpAny_bind (wpAny_bind (wpAny_mono h₂ (fun kv s₄ h₄ => wpAny_bind (wpAny_holding (wpAny_mono h₄ (fun vv s₅ h₅ => wpAny_bind (wpAny_standAt (wpAny_holding (wpAny_mono h₅ (fun _ s₆ h₆ => wpAny_pure ⟨rfl, h₆⟩) fun _ _ h' => h')))) fun _ _ h' => h'))) fun _ _ h' => h'))
section
variable {prog : Program} {w : World} {A : Around} {E : Value → Shared → Prop} {s : Shared} {h₀ : Heap} {L : Addr} {m : Str → Option Value} {env : Env}
/- key and value of a turn: they change nothing -/
noncomputable def EltOkD (prog : Program) (w : World) (A : Around) (h₀ : Heap) (L : Addr) (m : Str → Option Value) (env : Env) (kx vx : Expr) (scope : Scope) (cl : List (Str × Addr)) (s₂ : Shared) (I : Addr) (news : List (Addr × Obj)) (n : Nat) (Pt : Nat → Array Value → Prop)
    (G : Array Value → (Str → Option Value) → Prop) (fF : Nat → Str → Option Int) : Prop :=
  ∀ i vals oD oI C oC D m₂ h tk led (E' : Value → Shared → Prop), i < n → Pt i vals → NsObj oC m₂ → G vals m₂ → Fr h₀ L h m → News h₀ L h ((I, oI) :: (C, oC) :: (D, oD) :: led) → Off3 I C D led → (∀ p ∈ news, p ∈ led) → ((@Ne Nat I C) ∧ (@Ne Nat I D) ∧ (@Ne Nat C D)) →
    wpAny (model prog w) A (eval kx (compEnvC scope cl C env)) (fun kv s' => wpAny (model prog w) A (eval vx (compEnvC scope cl C env)) (fun vv s'' => ∃ y t k u h' tk', kv = .str y t ∧ vv = .int k u ∧ fF (i + 1) = upd (fF i) y k ∧ s'' = { s₂ with heap := h', toks := tk' } ∧ Fr h₀ L h' m ∧ News h₀ L h' ((I, oI) :: (C, oC) :: (D, oD) :: led)) E' s') E' { s₂ with heap := h, toks := tk }
inductive LZDJ (prog : Program) (w : World) (h₀ : Heap) (L : Addr) (s₂ : Shared) (n : Nat) (St : Nat → Heap → Prop) (m : Str → Option Value) (C D : Addr) (news : List (Addr × Obj)) (fF : Nat → Str → Option Int) (k : Nat) (s' : Shared) : Prop
  | mk (h' : Heap) (tk i : Nat) (oD : Obj) (kvs : List (Str × Value)) (m' : Str → Option Value) (e : s' = { s₂ with heap := h', toks := tk }) (q1 : i ≤ n) (q2 : k = n + 1 - i) (q3 : oD.IsDictOf (PySem.strKind prog w) kvs) (q4 : DF kvs (fF i)) (q5 : kvs.length ≤ i) (q6 : St i h') (q7 : Fr h₀ L h' m) (q8 : h'.Ns C m') (q9 : News h₀ L h' ((D, oD) :: news))
end
namespace lzd_block
noncomputable def S (prog : Program) (w : World) (A : Around) (E : Value → Shared → Prop) (h₀ : Heap) (L : Addr) (m : Str → Option Value) (env : Env) (kx : Expr) (vx : Expr) (iter : Expr) (elts : List Expr) (x1 : Nat) (tp : Pos) (scope : Scope) (cl : List (Str × Addr)) (pos : Pos) (s₂ : Shared) (I : Addr) (fp : List Addr) (wr : List Addr) (n : Nat) (Pt : Nat → Array Value → Prop) (St : Nat → Heap → Prop) (Mid : Nat → Addr → Heap → Prop) (news : List (Addr × Obj)) (fF : Nat → Str → Option Int) (G : Array Value → (Str → Option Value) → Prop) (RR : Value → Addr → Result → Shared → Prop) : Prop :=
  ∀ (W : WalksU prog w A I (I :: fp) wr n Pt St Mid)  (hsz : n ≤ sizeLine)  (hIo : ∀ i h, St i h → ∀ b ∈ I :: fp, ∃ o, h.get? b = some o)  (hIfp : I ∉ fp)  (hputs : ∀ C, Puts prog w A (compEnvC scope cl C env) elts G Pt)  (hcell : ∀ y ∈ scope.names, y.2 ≠ .cell)  (hkind : scope.kind = .function)  (hst : St 0 s₂.heap)  (hfp : ∀ b ∈ I :: fp, b < s₂.heap.objs.size)  (F : Fr h₀ L s₂.heap m)  (N : News h₀ L s₂.heap news)  (hfL : ∀ b ∈ I :: fp, b ≠ L)  (hf₀ : ∀ b ∈ I :: fp, h₀.get? b = none)  (off : ∀ p ∈ news, p.1 ∉ wr)  (hwI : ∀ b ∈ wr, b ∈ I :: fp)  (offI : ∀ p ∈ news, p.1 ≠ I)  (hel : EltOkD prog w A h₀ L m env kx vx scope cl s₂ I news n Pt G fF)  (hf0 : fF 0 = fun _ => none)  (hRR : ∀ D C h tk m' oD kvs, Fr h₀ L h m → News h₀ L h ((D, oD) :: news) → (∀ p ∈ news, p.1 < D) → h.Ns C m' → h₀.get? C = none → C ≠ L → C ≠ D → (∀ p ∈ news, p.1 ≠ C) → oD.IsDictOf (PySem.strKind prog w) kvs → DF kvs (fF n) → kvs.length ≤ n → RR (.ref D) C (.ok .next) { s₂ with heap := h, toks := tk }),
    wpAny (model prog w) A newDict (fun acc s₃ => wpAny (model prog w) A (newFunctionEnv scope env.globals cl [] env.qual none .none (some env)) (fun cenv s₄ =>
      codeAny (model prog w) A (.compStart (.DictComp kx vx [⟨.Tuple elts x1 tp, iter, [], 0⟩] scope pos) 0 (.ref I) acc { cenv with scope := relabel scope env }) (RR acc cenv.locals) s₄) E s₃) E s₂
theorem c₁ : Nonempty {t : Program × World × Around × (Value → Shared → Prop) × Heap × Addr × (Str → Option Value) × Env × Expr × Expr × Expr × (List Expr) × Nat × Pos × Scope × (List (Str × Addr)) × Pos × Shared × Addr × (List Addr) × (List Addr) × Nat × (Nat → Array Value → Prop) × (Nat → Heap → Prop) × (Nat → Addr → Heap → Prop) × (List (Addr × Obj)) × (Nat → Str → Option Int) × (Array Value → (Str → Option Value) → Prop) × (Value → Addr → Result → Shared → Prop) // S t.1 t.2.1 t.2.2.1 t.2.2.2.1 t.2.2.2.2.1 t.2.2.2.2.2.1 t.2.2.2.2.2.2.1 t.2.2.2.2.2.2.2.1 t.2.2.2.2.2.2.2.2.1 t.2.2.2.2.2.2.2.2.2.1 t.2.2.2.2.2.2.2.2.2.2.1 t.2.2.2.2.2.2.2.2.2.2.2.1 t.2.2.2.2.2.2.2.2.2.2.2.2.1 t.2.2.2.2.2.2.2.2.2.2.2.2.2.1 t.2.2.2.2.2.2.2.2.2.2.2.2.2.2.1 t.2.2.2.2.2.2.2.2.2.2.2.2.2.2.2.1 t.2.2.2.2.2.2.2.2.2.2.2.2.2.2.2.2.1 t.2.2.2.2.2.2.2.2.2.2.2.2.2.2.2.2.2.1 t.2.2.2.2.2.2.2.2.2.2.2.2.2.2.2.2.2.2.1 t.2.2.2.2.2.2.2.2.2.2.2.2.2.2.2.2.2.2.2.1 t.2.2.2.2.2.2.2.2.2.2.2.2.2.2.2.2.2.2.2.2.1 t.2.2.2.2.2.2.2.2.2.2.2.2.2.2.2.2.2.2.2.2.2.1 t.2.2.2.2.2.2.2.2.2.2.2.2.2.2.2.2.2.2.2.2.2.2.1 t.2.2.2.2.2.2.2.2.2.2.2.2.2.2.2.2.2.2.2.2.2.2.2.1 t.2.2.2.2.2.2.2.2.2.2.2.2.2.2.2.2.2.2.2.2.2.2.2.2.1 t.2.2.2.2.2.2.2.2.2.2.2.2.2.2.2.2.2.2.2.2.2.2.2.2.2.1 t.2.2.2.2.2.2.2.2.2.2.2.2.2.2.2.2.2.2.2.2.2.2.2.2.2.2.1 t.2.2.2.2.2.2.2.2.2.2.2.2.2.2.2.2.2.2.2.2.2.2.2.2.2.2.2.1 t.2.2.2.2.2.2.2.2.2.2.2.2.2.2.2.2.2.2.2.2.2.2.2.2.2.2.2.2 → ∀ t : Program × World × Around × (Value → Shared → Prop) × Heap × Addr × (Str → Option Value) × Env × Expr × Expr × Expr × (List Expr) × Nat × Pos × Scope × (List (Str × Addr)) × Pos × Shared × Addr × (List Addr) × (List Addr) × Nat × (Nat → Array Value → Prop) × (Nat → Heap → Prop) × (Nat → Addr → Heap → Prop) × (List (Addr × Obj)) × (Nat → Str → Option Int) × (Array Value → (Str → Option Value) → Prop) × (Value → Addr → Result → Shared → Prop), S t.1 t.2.1 t.2.2.1 t.2.2.2.1 t.2.2.2.2.1 t.2.2.2.2.2.1 t.2.2.2.2.2.2.1 t.2.2.2.2.2.2.2.1 t.2.2.2.2.2.2.2.2.1 t.2.2.2.2.2.2.2.2.2.1 t.2.2.2.2.2.2.2.2.2.2.1 t.2.2.2.2.2.2.2.2.2.2.2.1 t.2.2.2.2.2.2.2.2.2.2.2.2.1 t.2.2.2.2.2.2.2.2.2.2.2.2.2.1 t.2.2.2.2.2.2.2.2.2.2.2.2.2.2.1 t.2.2.2.2.2.2.2.2.2.2.2.2.2.2.2.1 t.2.2.2.2.2.2.2.2.2.2.2.2.2.2.2.2.1 t.2.2.2.2.2.2.2.2.2.2.2.2.2.2.2.2.2.1 t.2.2.2.2.2.2.2.2.2.2.2.2.2.2.2.2.2.2.1 t.2.2.2.2.2.2.2.2.2.2.2.2.2.2.2.2.2.2.2.1 t.2.2.2.2.2.2.2.2.2.2.2.2.2.2.2.2.2.2.2.2.1 t.2.2.2.2.2.2.2.2.2.2.2.2.2.2.2.2.2.2.2.2.2.1 t.2.2.2.2.2.2.2.2.2.2.2.2.2.2.2.2.2.2.2.2.2.2.1 t.2.2.2.2.2.2.2.2.2.2.2.2.2.2.2.2.2.2.2.2.2.2.2.1 t.2.2.2.2.2.2.2.2.2.2.2.2.2.2.2.2.2.2.2.2.2.2.2.2.1 t.2.2.2.2.2.2.2.2.2.2.2.2.2.2.2.2.2.2.2.2.2.2.2.2.2.1 t.2.2.2.2.2.2.2.2.2.2.2.2.2.2.2.2.2.2.2.2.2.2.2.2.2.2.1 t.2.2.2.2.2.2.2.2.2.2.2.2.2.2.2.2.2.2.2.2.2.2.2.2.2.2.2.1 t.2.2.2.2.2.2.2.2.2.2.2.2.2.2.2.2.2.2.2.2.2.2.2.2.2.2.2.2} := eps_ex ⟨(default, ⟨fun _ _ => 0, { strHash := fun _ => 0, shareClass := fun _ => 0, mergeTok := fun _ => default, idOf := fun _ => 0, idOfShared := fun _ _ => 0, followText := fun _ => true, idOfImm := fun _ => 0 }⟩, {}, default, default, default, default, default, default, default, default, default, default, default, default, default, default, {}, default, default, default, default, default, default, default, default, default, default, default)⟩ fun t => S t.1 t.2.1 t.2.2.1 t.2.2.2.1 t.2.2.2.2.1 t.2.2.2.2.2.1 t.2.2.2.2.2.2.1 t.2.2.2.2.2.2.2.1 t.2.2.2.2.2.2.2.2.1 t.2.2.2.2.2.2.2.2.2.1 t.2.2.2.2.2.2.2.2.2.2.1 t.2.2.2.2.2.2.2.2.2.2.2.1 t.2.2.2.2.2.2.2.2.2.2.2.2.1 t.2.2.2.2.2.2.2.2.2.2.2.2.2.1 t.2.2.2.2.2.2.2.2.2.2.2.2.2.2.1 t.2.2.2.2.2.2.2.2.2.2.2.2.2.2.2.1 t.2.2.2.2.2.2.2.2.2.2.2.2.2.2.2.2.1 t.2.2.2.2.2.2.2.2.2.2.2.2.2.2.2.2.2.1 t.2.2.2.2.2.2.2.2.2.2.2.2.2.2.2.2.2.2.1 t.2.2.2.2.2.2.2.2.2.2.2.2.2.2.2.2.2.2.2.1 t.2.2.2.2.2.2.2.2.2.2.2.2.2.2.2.2.2.2.2.2.1 t.2.2.2.2.2.2.2.2.2.2.2.2.2.2.2.2.2.2.2.2.2.1 t.2.2.2.2.2.2.2.2.2.2.2.2.2.2.2.2.2.2.2.2.2.2.1 t.2.2.2.2.2.2.2.2.2.2.2.2.2.2.2.2.2.2.2.2.2.2.2.1 t.2.2.2.2.2.2.2.2.2.2.2.2.2.2.2.2.2.2.2.2.2.2.2.2.1 t.2.2.2.2.2.2.2.2.2.2.2.2.2.2.2.2.2.2.2.2.2.2.2.2.2.1 t.2.2.2.2.2.2.2.2.2.2.2.2.2.2.2.2.2.2.2.2.2.2.2.2.2.2.1 t.2.2.2.2.2.2.2.2.2.2.2.2.2.2.2.2.2.2.2.2.2.2.2.2.2.2.2.1 t.2.2.2.2.2.2.2.2.2.2.2.2.2.2.2.2.2.2.2.2.2.2.2.2.2.2.2.2
noncomputable def c₀ : Program × World × Around × (Value → Shared → Prop) × Heap × Addr × (Str → Option Value) × Env × Expr × Expr × Expr × (List Expr) × Nat × Pos × Scope × (List (Str × Addr)) × Pos × Shared × Addr × (List Addr) × (List Addr) × Nat × (Nat → Array Value → Prop) × (Nat → Heap → Prop) × (Nat → Addr → Heap → Prop) × (List (Addr × Obj)) × (Nat → Str → Option Int) × (Array Value → (Str → Option Value) → Prop) × (Value → Addr → Result → Shared → Prop) := (Classical.choice c₁).val
noncomputable def prog : Program := c₀.1
noncomputable def w : World := c₀.2.1
noncomputable def A : Around := c₀.2.2.1
noncomputable def E : Value → Shared → Prop := c₀.2.2.2.1
noncomputable def h₀ : Heap := c₀.2.2.2.2.1
noncomputable def L : Addr := c₀.2.2.2.2.2.1
noncomputable def m : Str → Option Value := c₀.2.2.2.2.2.2.1
noncomputable def env : Env := c₀.2.2.2.2.2.2.2.1
noncomputable def kx : Expr := c₀.2.2.2.2.2.2.2.2.1
noncomputable def vx : Expr := c₀.2.2.2.2.2.2.2.2.2.1
noncomputable def iter : Expr := c₀.2.2.2.2.2.2.2.2.2.2.1
noncomputable def elts : List Expr := c₀.2.2.2.2.2.2.2.2.2.2.2.1
noncomputable def x1 : Nat := c₀.2.2.2.2.2.2.2.2.2.2.2.2.1
noncomputable def tp : Pos := c₀.2.2.2.2.2.2.2.2.2.2.2.2.2.1
noncomputable def scope : Scope := c₀.2.2.2.2.2.2.2.2.2.2.2.2.2.2.1
noncomputable def cl : List (Str × Addr) := c₀.2.2.2.2.2.2.2.2.2.2.2.2.2.2.2.1
noncomputable def pos : Pos := c₀.2.2.2.2.2.2.2.2.2.2.2.2.2.2.2.2.1
noncomputable def s₂ : Shared := c₀.2.2.2.2.2.2.2.2.2.2.2.2.2.2.2.2.2.1
noncomputable def I : Addr := c₀.2.2.2.2.2.2.2.2.2.2.2.2.2.2.2.2.2.2.1
noncomputable def fp : List Addr := c₀.2.2.2.2.2.2.2.2.2.2.2.2.2.2.2.2.2.2.2.1
noncomputable def wr : List Addr := c₀.2.2.2.2.2.2.2.2.2.2.2.2.2.2.2.2.2.2.2.2.1
noncomputable def n : Nat := c₀.2.2.2.2.2.2.2.2.2.2.2.2.2.2.2.2.2.2.2.2.2.1
noncomputable def Pt : Nat → Array Value → Prop := c₀.2.2.2.2.2.2.2.2.2.2.2.2.2.2.2.2.2.2.2.2.2.2.1
noncomputable def St : Nat → Heap → Prop := c₀.2.2.2.2.2.2.2.2.2.2.2.2.2.2.2.2.2.2.2.2.2.2.2.1
noncomputable def Mid : Nat → Addr → Heap → Prop := c₀.2.2.2.2.2.2.2.2.2.2.2.2.2.2.2.2.2.2.2.2.2.2.2.2.1
noncomputable def news : List (Addr × Obj) := c₀.2.2.2.2.2.2.2.2.2.2.2.2.2.2.2.2.2.2.2.2.2.2.2.2.2.1
noncomputable def fF : Nat → Str → Option Int := c₀.2.2.2.2.2.2.2.2.2.2.2.2.2.2.2.2.2.2.2.2.2.2.2.2.2.2.1
noncomputable def G : Array Value → (Str → Option Value) → Prop := c₀.2.2.2.2.2.2.2.2.2.2.2.2.2.2.2.2.2.2.2.2.2.2.2.2.2.2.2.1
noncomputable def RR : Value → Addr → Result → Shared → Prop := c₀.2.2.2.2.2.2.2.2.2.2.2.2.2.2.2.2.2.2.2.2.2.2.2.2.2.2.2.2
theorem main : S prog w A E h₀ L m env kx vx iter elts x1 tp scope cl pos s₂ I fp wr n Pt St Mid news fF G RR := by
  unfold S
  intro W hsz hIo hIfp hputs hcell hkind hst hfp F N hfL hf₀ off hwI offI hel hf0 hRR
  refine wpAny_newObj_type (wpAny_newFunctionEnv hcell (by intro y hy; simp at hy) (fun h₁ hns₁ hsb₁ => ?_) hkind)
  dsimp only at hns₁ hsb₁ ⊢
  have hnew : (s₂.heap.push { cls := .type "dict", dict := none, data := .dict #[] }).DictOf (PySem.strKind prog w) s₂.heap.objs.size [] := Heap.DictOf.new s₂.heap
  generalize hH2 : s₂.heap.push { cls := .type "dict", dict := none, data := .dict #[] } = H2 at hns₁ hsb₁ hnew ⊢
  have hC : H2.objs.size = s₂.heap.objs.size + 1 := by rw [← hH2, Heap.size_push]
  have hDC : s₂.heap.objs.size ≠ H2.objs.size := by rw [hC]; exact Nat.ne_of_lt (Nat.lt_succ_self _)
  have below : ∀ b, b < s₂.heap.objs.size → b ≠ H2.objs.size ∧ b ≠ s₂.heap.objs.size := fun b hb => ⟨by rw [hC]; exact Nat.ne_of_lt (Nat.lt_succ_of_lt hb), Nat.ne_of_lt hb⟩
  have hDf : s₂.heap.objs.size ∉ I :: fp := fun hm => Nat.lt_irrefl _ (hfp _ hm)
  have hCf : H2.objs.size ∉ I :: fp := fun hm => by have := hfp _ hm; rw [hC] at this; exact Nat.lt_irrefl _ (Nat.lt_of_succ_lt this)
  have hIlt : I < s₂.heap.objs.size := hfp I (.head _)
  have old : ∀ b o, s₂.heap.get? b = some o → h₁.get? b = some o := fun b o e => hsb₁.extBut b o (below b (Heap.lt_size e)).1 (Heap.get?_push_of_some _ (hH2 ▸ Heap.get?_push_of_some _ e))
  have hacc : h₁.DictOf (PySem.strKind prog w) s₂.heap.objs.size [] := hnew.at fun o e => hsb₁.extBut _ _ hDC (Heap.get?_push_of_some _ e)
  obtain ⟨oD0, hoD0, hdD0⟩ := Heap.dictOf_iff.mp hacc
  have hst₁ : St 0 h₁ := W.frame _ _ _ hst fun b _ o e => old b o e
  have fresh₀ : ∀ a, s₂.heap.objs.size ≤ a → h₀.get? a = none := fun a ha => by
    cases e : h₀.get? a with
    | none => rfl
    | some o' => exact absurd (Heap.lt_size (F.keep a o' e)) (Nat.not_lt.mpr ha)
  have hD₀ : h₀.get? s₂.heap.objs.size = none := fresh₀ _ (Nat.le_refl _)
  have hC₀ : h₀.get? H2.objs.size = none := fresh₀ _ (by rw [hC]; exact Nat.le_succ _)
  have hLlt : L < s₂.heap.objs.size := F.ns.lt
  have hDL : s₂.heap.objs.size ≠ L := Ne.symm (below L hLlt).2
  have hCL : H2.objs.size ≠ L := Ne.symm (below L hLlt).1
  have hCI : I ≠ H2.objs.size := (below I hIlt).1
  have hDI : I ≠ s₂.heap.objs.size := (below I hIlt).2
  have hLw : L ∉ wr := fun h => hfL L (hwI L h) rfl
  have nlt : ∀ p ∈ news, p.1 < s₂.heap.objs.size := fun p hp => Heap.lt_size (N p hp).1
  have fr_w : ∀ {h h' : Heap}, Fr h₀ L h m → (∀ b o, b ∉ wr → h.get? b = some o → h'.get? b = some o) → Fr h₀ L h' m := fun F' hk =>
    ⟨F'.ns.at' fun o e => hk L o hLw e, fun b o e => hk b o (fun hb => by rw [hf₀ b (hwI b hb)] at e; cases e) (F'.keep b o e), F'.above⟩
  have news_w : ∀ {h h' : Heap} {oD : Obj}, News h₀ L h ((s₂.heap.objs.size, oD) :: news) → (∀ b o, b ∉ wr → h.get? b = some o → h'.get? b = some o) → News h₀ L h' ((s₂.heap.objs.size, oD) :: news) := fun N' hk p hp =>
    ⟨hk _ _ (by
      rcases List.mem_cons.mp hp with rfl | hp
      · exact fun h => hDf (hwI _ h)
      · exact off p hp) (N' p hp).1, (N' p hp).2⟩
  have loop : ∀ s₃ : Shared, s₃ = { s₂ with heap := h₁, toks := s₂.toks + ([] : List (Str × Value)).length } →
      codeAny (model prog w) A (.compLoop (.DictComp kx vx [⟨.Tuple elts x1 tp, iter, [], 0⟩] scope pos) 0 (.ref I) (.ref s₂.heap.objs.size) (compEnvC scope cl H2.objs.size env))
        (RR (.ref s₂.heap.objs.size) H2.objs.size) s₃ := by
    rintro s₃ rfl
    refine comp_loop_dict
      (LZDJ prog w h₀ L s₂ n St m H2.objs.size s₂.heap.objs.size news fF) ?_ (n + 1)
      ⟨h₁, _, 0, oD0, [], _, rfl, Nat.zero_le _, rfl, hdD0, hf0 ▸ DF.nil, Nat.le_refl _, hst₁, F.keeps old, hns₁, fun p hp => ?_⟩
    · rintro k s' ⟨h', tk, i, oD, kvs, m', rfl, hi, rfl, hdD, hfD, hzD, hst', F', hn', N'⟩
      by_cases hlt : i < n
      · refine W.item i _ _ _ hlt hst' fun T vals h₂ tk₂ hPv hT hMid hk₂ => ?_
        refine W.go _ _ _ i T _ _ _ hMid fun h₃ hst₃ hk₃ => ?_
        have hTw := W.apart _ _ _ hMid
        have hk23 : ∀ b o, b ∉ wr → h'.get? b = some o → h₃.get? b = some o := fun b o hb e => hk₃ b o hb (hk₂ b o hb e)
        have hT₃ : IsTup h₃ T vals := by obtain ⟨o, e, r⟩ := hT; exact ⟨o, hk₃ _ _ hTw e, r⟩
        have hCw : H2.objs.size ∉ wr := fun h => hCf (hwI _ h)
        have hn₃ : h₃.Ns H2.objs.size m' := hn'.at' fun o e => hk23 _ o hCw e
        refine hputs H2.objs.size i T vals _ m' _ _ hPv hT₃ hn₃ (fun h₄ m₄ tk₄ hn₄ hG hk₄ => ?_) _ _
        have hk₄ : ∀ b o, b ≠ H2.objs.size → h₃.get? b = some o → h₄.get? b = some o := hk₄
        have hn₄ : h₄.Ns H2.objs.size m₄ := hn₄
        have F₄ : Fr h₀ L h₄ m := by
          have F₃ := fr_w F' hk23
          exact ⟨F₃.ns.at' fun o e => hk₄ L o (Ne.symm hCL) e, fun b o e => hk₄ b o (fun q => by rw [q, hC₀] at e; cases e) (F₃.keep b o e), F₃.above⟩
        have N₄ : News h₀ L h₄ ((s₂.heap.objs.size, oD) :: news) := fun p hp => ⟨hk₄ _ _ (by
          rcases List.mem_cons.mp hp with rfl | hp
          · exact hDC
          · exact (below _ (nlt p hp)).1) (news_w N' hk23 p hp).1, (N' p hp).2⟩
        have hst₄ : St (i + 1) h₄ := W.frame _ _ _ hst₃ fun b hb o e => hk₄ b o (fun q => hCf (by rw [← q]; exact hb)) e
        have hobs := hIo _ _ hst₄
        obtain ⟨oI, heI⟩ := hobs I (.head _)
        obtain ⟨own, own1, own2⟩ := own_of fp fun b hb => hobs b (.tail _ hb)
        obtain ⟨oC, heC, hoC⟩ := ns_obj hn₄
        have ownfp : ∀ p ∈ own, p.1 ∈ fp := fun p hp => own1 ▸ List.mem_map.mpr ⟨p, hp, rfl⟩
        have N₅ : News h₀ L h₄ ((I, oI) :: (H2.objs.size, oC) :: (s₂.heap.objs.size, oD) :: (own ++ news)) := fun p hp => by
          rcases List.mem_cons.mp hp with rfl | hp
          · exact ⟨heI, hfL _ (.head _), hf₀ _ (.head _)⟩
          rcases List.mem_cons.mp hp with rfl | hp
          · exact ⟨heC, hCL, hC₀⟩
          rcases List.mem_cons.mp hp with rfl | hp
          · exact N₄ _ (.head _)
          rcases List.mem_append.mp hp with hp | hp
          · exact ⟨own2 p hp, hfL _ (.tail _ (ownfp p hp)), hf₀ _ (.tail _ (ownfp p hp))⟩
          · exact N₄ p (.tail _ hp)
        have offA : Off3 I H2.objs.size s₂.heap.objs.size (own ++ news) := Off3.of fun p hp => by
          rcases List.mem_append.mp hp with hp | hp
          · exact ⟨fun q => hIfp (q ▸ ownfp p hp), fun q => hCf (q ▸ .tail _ (ownfp p hp)), fun q => hDf (q ▸ .tail _ (ownfp p hp))⟩
          · exact ⟨offI p hp, (below _ (nlt p hp)).1, (below _ (nlt p hp)).2⟩
        refine wpAny_mono (hel i vals oD oI H2.objs.size oC s₂.heap.objs.size m₄ h₄ tk₄ (own ++ news) _ hlt hPv hoC hG F₄ N₅ offA (fun p hp => List.mem_append_right _ hp) ⟨hCI, hDI, Ne.symm hDC⟩) (fun kv s₅ h₅ => wpAny_mono h₅ (fun vv s₆ h₆ => ?_) fun _ _ e => e) fun _ _ e => e
        obtain ⟨y, t, k, u, h₆, tk₆, rfl, rfl, hfF, rfl, F₆, N₆⟩ := h₆
        have zI := (N₆ (I, oI) List.mem_cons_self).1
        have zC := (N₆ (H2.objs.size, oC) (List.mem_cons_of_mem _ List.mem_cons_self)).1
        have zD := (N₆ (s₂.heap.objs.size, oD) (List.mem_cons_of_mem _ (List.mem_cons_of_mem _ List.mem_cons_self))).1
        have N₆' : News h₀ L h₆ (own ++ news) := fun p hp => N₆ p (List.mem_cons_of_mem _ (List.mem_cons_of_mem _ (List.mem_cons_of_mem _ hp)))
        have hst₆ : St (i + 1) h₆ := W.frame _ _ _ hst₄ fun b hb o e => by
          rcases List.mem_cons.mp hb with rfl | hb
          · rw [heI] at e; cases e; exact zI
          · rw [← own1] at hb
            obtain ⟨p, hp, rfl⟩ := List.mem_map.mp hb
            rw [own2 p hp] at e; cases e
            exact (N₆' p (List.mem_append_left _ hp)).1
        refine wpAny_dictSet_pairs (hsz := by omega) (strKind_is _ _ _ _) (Heap.dictOf_iff.mpr ⟨oD, zD, hdD⟩) fun h₇ hd₇ hs₇ => ?_
        obtain ⟨oD₇, hoD₇, hdD₇⟩ := Heap.dictOf_iff.mp hd₇
        refine ⟨n + 1 - (i + 1), by omega, ⟨h₇, _, i + 1, oD₇, _, _, rfl, hlt, rfl, hdD₇, by rw [hfF]; exact hfD.set y k u, Nat.le_trans (stored_length_le _ _ _) (by omega), W.frame _ _ _ hst₆ fun b hb o e => hs₇.extBut b o (fun q => hDf (q ▸ hb)) e, F₆.change hs₇ hDL hD₀,
          (hoC.ns zC).sameBut hs₇ (Ne.symm hDC), fun p hp => ?_⟩⟩
        rcases List.mem_cons.mp hp with rfl | hp
        · exact ⟨hoD₇, hDL, hD₀⟩
        · exact ⟨hs₇.extBut _ _ (below _ (nlt p hp)).2 (N₆' p (List.mem_append_right _ hp)).1, (N p hp).2⟩
      · obtain rfl : i = n := Nat.le_antisymm hi (Nat.not_lt.mp hlt)
        refine W.done _ _ _ hst' fun h₂ tk₂ hk₂ => ?_
        exact hRR _ _ h₂ tk₂ _ oD kvs (fr_w F' hk₂) (news_w N' hk₂) nlt (hn'.at' fun o e => hk₂ _ o (fun h => hCf (hwI _ h)) e) hC₀ hCL (Ne.symm hDC) (fun p hp => (below _ (nlt p hp)).1) hdD hfD hzD
    · rcases List.mem_cons.mp hp with rfl | hp
      · exact ⟨hoD0, hDL, hD₀⟩
      · exact ⟨old _ _ (N p hp).1, (N p hp).2⟩
  exact codeAny_compStart_dict (loop _ rfl) (W.self 0 _ _ _ hst₁ (loop _ rfl))
end lzd_block
theorem lzd_block {prog : Program} {w : World} {A : Around} {E : Value → Shared → Prop} {h₀ : Heap} {L : Addr} {m : Str → Option Value} {env : Env} {kx vx iter : Expr} {elts : List Expr} {x1 : Nat} {tp : Pos} {scope : Scope} {cl : List (Str × Addr)} {pos : Pos} {s₂ : Shared} {I : Addr} {fp wr : List Addr} {n : Nat} {Pt : Nat → Array Value → Prop} {St : Nat → Heap → Prop} {Mid : Nat → Addr → Heap → Prop} {news : List (Addr × Obj)}
    {fF : Nat → Str → Option Int} {G : Array Value → (Str → Option Value) → Prop} {RR : Value → Addr → Result → Shared → Prop}
    (W : WalksU prog w A I (I :: fp) wr n Pt St Mid) (hsz : n ≤ sizeLine) (hIo : ∀ i h, St i h → ∀ b ∈ I :: fp, ∃ o, h.get? b = some o) (hIfp : I ∉ fp)
    (hputs : ∀ C, Puts prog w A (compEnvC scope cl C env) elts G Pt)
    (hcell : ∀ y ∈ scope.names, y.2 ≠ .cell) (hkind : scope.kind = .function) (hst : St 0 s₂.heap) (hfp : ∀ b ∈ I :: fp, b < s₂.heap.objs.size)
    (F : Fr h₀ L s₂.heap m) (N : News h₀ L s₂.heap news) (hfL : ∀ b ∈ I :: fp, b ≠ L) (hf₀ : ∀ b ∈ I :: fp, h₀.get? b = none) (off : ∀ p ∈ news, p.1 ∉ wr) (hwI : ∀ b ∈ wr, b ∈ I :: fp) (offI : ∀ p ∈ news, p.1 ≠ I)
    (hel : EltOkD prog w A h₀ L m env kx vx scope cl s₂ I news n Pt G fF) (hf0 : fF 0 = fun _ => none)
    (hRR : ∀ D C h tk m' oD kvs, Fr h₀ L h m → News h₀ L h ((D, oD) :: news) → (∀ p ∈ news, p.1 < D) → h.Ns C m' → h₀.get? C = none → C ≠ L → C ≠ D → (∀ p ∈ news, p.1 ≠ C) → oD.IsDictOf (PySem.strKind prog w) kvs → DF kvs (fF n) → kvs.length ≤ n → RR (.ref D) C (.ok .next) { s₂ with heap := h, toks := tk }) :
    wpAny (model prog w) A newDict (fun acc s₃ => wpAny (model prog w) A (newFunctionEnv scope env.globals cl [] env.qual none .none (some env)) (fun cenv s₄ =>
      codeAny (model prog w) A (.compStart (.DictComp kx vx [⟨.Tuple elts x1 tp, iter, [], 0⟩] scope pos) 0 (.ref I) acc { cenv with scope := relabel scope env }) (RR acc cenv.locals) s₄) E s₃) E s₂ :=
  (Classical.choice lzd_block.c₁).property lzd_block.main (prog, w, A, E, h₀, L, m, env, kx, vx, iter, elts, x1, tp, scope, cl, pos, s₂, I, fp, wr, n, Pt, St, Mid, news, fF, G, RR) W hsz hIo hIfp hputs hcell hkind hst hfp F N hfL hf₀ off hwI offI hel hf0 hRR
section
variable {prog : Program} {w : World} {A : Around} {E : Value → Shared → Prop} {s : Shared} {h₀ : Heap} {L : Addr} {m : Str → Option Value} {env : Env}
/- the source of an unpacking dict block, its key and value and what follows it -/
inductive SrcZD (prog : Program) (w : World) (A : Around) (h₀ : Heap) (L : Addr) (m : Str → Option Value) (env : Env) (kx vx : Expr) (elts : List Expr) (scope : Scope) (cl : List (Str × Addr)) (Fin : Shared → Nat → (Nat → Str → Option Int) → List (Addr × Obj) → Prop) (xv : Value) (s₁ : Shared) : Prop
  | mk (I : Addr) (fp : List Addr) (wr : List Addr) (n : Nat) (Pt) (St : Nat → Heap → Prop) (Mid) (news : List (Addr × Obj)) (fF) (G) (q0 : xv = .ref I) (q1 : WalksU prog w A I (I :: fp) wr n Pt St Mid) (q2 : n ≤ sizeLine) (q3 : (∀ i h, St i h → ∀ b ∈ I :: fp, ∃ o, h.get? b = some o)) (q4 : I ∉ fp) (q5 : (∀ C, Puts prog w A (compEnvC scope cl C env) elts G Pt)) (q6 : St 0 s₁.heap) (q7 : (∀ b ∈ I :: fp, b < s₁.heap.objs.size)) (q8 : Fr h₀ L s₁.heap m) (q9 : News h₀ L s₁.heap news) (q10 : (∀ b ∈ I :: fp, b ≠ L)) (q11 : (∀ b ∈ I :: fp, h₀.get? b = none)) (q12 : (∀ p ∈ news, p.1 ∉ wr)) (q13 : (∀ b ∈ wr, b ∈ I :: fp)) (q14 : (∀ p ∈ news, p.1 ≠ I)) (q15 : EltOkD prog w A h₀ L m env kx vx scope cl s₁ I news n Pt G fF) (q16 : fF 0 = (fun _ => none)) (q17 : Fin s₁ n fF news)
noncomputable def FinZAD (prog : Program) (w : World) (h₀ : Heap) (L : Addr) (m : Str → Option Value) (y : Str) (Q : Flow → Shared → Prop) (s : Shared) (n : Nat) (fF : Nat → Str → Option Int) (news : List (Addr × Obj)) : Prop :=
  ∀ D oD kvs h tk, Fr h₀ L h (fun z => if z = y then some (.ref D) else m z) → News h₀ L h ((D, oD) :: news) → (∀ p ∈ news, p.1 < D) → oD.IsDictOf (PySem.strKind prog w) kvs → DF kvs (fF n) → kvs.length ≤ n → Q .next { s with heap := h, toks := tk }
theorem Assign_DictComp_Z {kx vx iter : Expr} {elts : List Expr} {x1} {y : Str} {tp py : Pos} {scope : Scope} {cl : List (Str × Addr)} {pos spos : Pos} {Q : Flow → Shared → Prop} (_F₀ : Fr h₀ L s.heap m) (hLe : env.locals = L)
    (hsw : swapsWith (.DictComp kx vx [⟨.Tuple elts x1 tp, iter, [], 0⟩] scope pos) (some (.Name y py)) spos.line env = pure true)
    (hclos : closureFor scope env = pure cl) (hcell : ∀ z ∈ scope.names, z.2 ≠ .cell) (hkind : scope.kind = .function)
    (hnames : ∀ z ∈ scope.names, z.2 = .local → scope.names.lookup z.1 = some .local)
    (hy : env.kindOf y = some .local) (hp : (env.scope.kind == .class || (env.scope.kind == .module && env.locals != env.globals)) = false)
    (h : wpAny (model prog w) A (eval iter env) (SrcZD prog w A h₀ L m env kx vx elts scope cl (FinZAD prog w h₀ L m y Q)) E s)
    (hs : ∀ x, foldedSetIterable iter env x = pure x := by intro _; rfl) :
    wpAny (model prog w) A (exec (.Assign [.Name y py] (.DictComp kx vx [⟨.Tuple elts x1 tp, iter, [], 0⟩] scope pos) spos) env) Q E s := by
  subst hLe
  rw [exec_Assign_Name_used _ _ _ _ hsw]
  refine wpAny_bind (wpAny_standAt (wpAny_bind ?_))
  show wpAny _ A (do let _ ← comprehension (.DictComp kx vx [⟨.Tuple elts x1 tp, iter, [], 0⟩] scope pos) scope env _ newDict false (eval iter env) (some (assign (.Name y py) env))) _ _ s
  refine wpAny_bind (wpAny_mono (wpAny_comprehension_free (use := some (assign (.Name y py) env)) (Q := fun _ s' => Q .next s') rfl hs hclos hkind hnames
    (wpAny_mono h (fun xv s₁ h₁ => ?_) fun _ _ e => e)) (fun _ s' hq => wpAny_pure (wpAny_pure hq)) fun _ _ e => e)
  obtain ⟨I, fp, wr, n, Pt, St, Mid, news, fF, G, rfl, W, hsz, hIo, hIfp, hputs, hst, hfp, F, N, hfL, hf₀, off, hwI, offI, hel, hf0, fin⟩ := h₁
  refine W.self 0 _ _ _ hst ?_
  refine lzd_block W hsz hIo hIfp hputs hcell hkind hst hfp F N hfL hf₀ off hwI offI hel hf0 ?_
  intro D C h' tk m' oD kvs F' N' hlt hn hC₀ hCL hCD offC hdD hfD hzD
  show wpAny _ A (assign (.Name y py) env (.ref D)) _ _ _
  refine wpAny_assign_Name (wpAny_storeName_local hy F'.ns (fun h₂ hn₂ hs₂ => ?_) hp)
  have hL₀ : h₀.get? env.locals = none := Heap.get?_none_of_le F'.above
  have F₂ : Fr h₀ env.locals h₂ (fun z => if z = y then some (.ref D) else m z) := ⟨hn₂, fun b o e => hs₂.extBut b o (fun q => by rw [q, hL₀] at e; cases e) (F'.keep b o e), F'.above⟩
  refine ⟨m', hn.sameBut hs₂ hCL, fun h'' hs'' => fin D oD kvs h'' _ (F₂.change hs'' hCL hC₀) (fun p hp => ?_) hlt hdD hfD hzD⟩
  have z : h₂.get? p.1 = some p.2 := hs₂.extBut _ _ (N' p hp).2.1 (N' p hp).1
  refine ⟨hs''.extBut _ _ ?_ z, (N' p hp).2⟩
  rcases List.mem_cons.mp hp with rfl | hp
  · exact Ne.symm hCD
  · exact offC p hp
end
namespace zip2_srcD
noncomputable def S (prog : Program) (w : World) (A : Around) (E : Value → Shared → Prop) (s : Shared) (h₀ : Heap) (L : Addr) (m : Str → Option Value) (env : Env) (kx : Expr) (vx : Expr) (x : Str) (x₂ : Str) (px : Pos) (px₂ : Pos) (scope : Scope) (cl : List (Str × Addr)) (Fin : Shared → Nat → (Nat → Str → Option Int) → List (Addr × Obj) → Prop) (l1 : Addr) (l2 : Addr) (xs : Array Value) (ys : Array Value) (k1 : Nat) (k2 : Nat) (news : List (Addr × Obj)) (fF : Nat → Str → Option Int) : Prop :=
  ∀ (hh : A.handled = none)  (F : Fr h₀ L s.heap m)  (N : News h₀ L s.heap news)  (hm1 : (l1, listOf xs k1) ∈ news)  (hm2 : (l2, listOf ys k2) ∈ news)  (hsz : xs.size ≤ 1000)  (hx : ∀ C, (compEnvC scope cl C env).kindOf x = some .local)  (hx₂ : ∀ C, (compEnvC scope cl C env).kindOf x₂ = some .local)  (hxx : x ≠ x₂)  (hp : ∀ C, ((compEnvC scope cl C env).scope.kind == .class || ((compEnvC scope cl C env).scope.kind == .module && (compEnvC scope cl C env).locals != (compEnvC scope cl C env).globals)) = false)  (hf0 : fF 0 = fun _ => none)  (hel : ∀ I i a b oD oI C oC D m₂ h tk led (E' : Value → Shared → Prop), xs[i]? = some a → ys[i]? = some b → NsObj oC m₂ → m₂ x = some a → m₂ x₂ = some b → Fr h₀ L h m → News h₀ L h ((I, oI) :: (C, oC) :: (D, oD) :: led) → Off3 I C D led → (∀ p ∈ news, p ∈ led) → ((@Ne Nat I C) ∧ (@Ne Nat I D) ∧ (@Ne Nat C D)) →
      wpAny (model prog w) A (eval kx (compEnvC scope cl C env)) (fun kv s' => wpAny (model prog w) A (eval vx (compEnvC scope cl C env)) (fun vv s'' => ∃ y t k u h' tk', kv = .str y t ∧ vv = .int k u ∧ fF (i + 1) = upd (fF i) y k ∧ s'' = { s with heap := h', toks := tk' } ∧ Fr h₀ L h' m ∧ News h₀ L h' ((I, oI) :: (C, oC) :: (D, oD) :: led)) E' s') E' { s with heap := h, toks := tk })  (fin : ∀ h, Fin { s with heap := h } (min xs.size ys.size) fF news),
    wpAny (model prog w) A (call (.type "zip") [.ref l1, .ref l2]) (SrcZD prog w A h₀ L m env kx vx [.Name x px, .Name x₂ px₂] scope cl Fin) E s
theorem c₁ : Nonempty {t : Program × World × Around × (Value → Shared → Prop) × Shared × Heap × Addr × (Str → Option Value) × Env × Expr × Expr × Str × Str × Pos × Pos × Scope × (List (Str × Addr)) × (Shared → Nat → (Nat → Str → Option Int) → List (Addr × Obj) → Prop) × Addr × Addr × (Array Value) × (Array Value) × Nat × Nat × (List (Addr × Obj)) × (Nat → Str → Option Int) // S t.1 t.2.1 t.2.2.1 t.2.2.2.1 t.2.2.2.2.1 t.2.2.2.2.2.1 t.2.2.2.2.2.2.1 t.2.2.2.2.2.2.2.1 t.2.2.2.2.2.2.2.2.1 t.2.2.2.2.2.2.2.2.2.1 t.2.2.2.2.2.2.2.2.2.2.1 t.2.2.2.2.2.2.2.2.2.2.2.1 t.2.2.2.2.2.2.2.2.2.2.2.2.1 t.2.2.2.2.2.2.2.2.2.2.2.2.2.1 t.2.2.2.2.2.2.2.2.2.2.2.2.2.2.1 t.2.2.2.2.2.2.2.2.2.2.2.2.2.2.2.1 t.2.2.2.2.2.2.2.2.2.2.2.2.2.2.2.2.1 t.2.2.2.2.2.2.2.2.2.2.2.2.2.2.2.2.2.1 t.2.2.2.2.2.2.2.2.2.2.2.2.2.2.2.2.2.2.1 t.2.2.2.2.2.2.2.2.2.2.2.2.2.2.2.2.2.2.2.1 t.2.2.2.2.2.2.2.2.2.2.2.2.2.2.2.2.2.2.2.2.1 t.2.2.2.2.2.2.2.2.2.2.2.2.2.2.2.2.2.2.2.2.2.1 t.2.2.2.2.2.2.2.2.2.2.2.2.2.2.2.2.2.2.2.2.2.2.1 t.2.2.2.2.2.2.2.2.2.2.2.2.2.2.2.2.2.2.2.2.2.2.2.1 t.2.2.2.2.2.2.2.2.2.2.2.2.2.2.2.2.2.2.2.2.2.2.2.2.1 t.2.2.2.2.2.2.2.2.2.2.2.2.2.2.2.2.2.2.2.2.2.2.2.2.2 → ∀ t : Program × World × Around × (Value → Shared → Prop) × Shared × Heap × Addr × (Str → Option Value) × Env × Expr × Expr × Str × Str × Pos × Pos × Scope × (List (Str × Addr)) × (Shared → Nat → (Nat → Str → Option Int) → List (Addr × Obj) → Prop) × Addr × Addr × (Array Value) × (Array Value) × Nat × Nat × (List (Addr × Obj)) × (Nat → Str → Option Int), S t.1 t.2.1 t.2.2.1 t.2.2.2.1 t.2.2.2.2.1 t.2.2.2.2.2.1 t.2.2.2.2.2.2.1 t.2.2.2.2.2.2.2.1 t.2.2.2.2.2.2.2.2.1 t.2.2.2.2.2.2.2.2.2.1 t.2.2.2.2.2.2.2.2.2.2.1 t.2.2.2.2.2.2.2.2.2.2.2.1 t.2.2.2.2.2.2.2.2.2.2.2.2.1 t.2.2.2.2.2.2.2.2.2.2.2.2.2.1 t.2.2.2.2.2.2.2.2.2.2.2.2.2.2.1 t.2.2.2.2.2.2.2.2.2.2.2.2.2.2.2.1 t.2.2.2.2.2.2.2.2.2.2.2.2.2.2.2.2.1 t.2.2.2.2.2.2.2.2.2.2.2.2.2.2.2.2.2.1 t.2.2.2.2.2.2.2.2.2.2.2.2.2.2.2.2.2.2.1 t.2.2.2.2.2.2.2.2.2.2.2.2.2.2.2.2.2.2.2.1 t.2.2.2.2.2.2.2.2.2.2.2.2.2.2.2.2.2.2.2.2.1 t.2.2.2.2.2.2.2.2.2.2.2.2.2.2.2.2.2.2.2.2.2.1 t.2.2.2.2.2.2.2.2.2.2.2.2.2.2.2.2.2.2.2.2.2.2.1 t.2.2.2.2.2.2.2.2.2.2.2.2.2.2.2.2.2.2.2.2.2.2.2.1 t.2.2.2.2.2.2.2.2.2.2.2.2.2.2.2.2.2.2.2.2.2.2.2.2.1 t.2.2.2.2.2.2.2.2.2.2.2.2.2.2.2.2.2.2.2.2.2.2.2.2.2} := eps_ex ⟨(default, ⟨fun _ _ => 0, { strHash := fun _ => 0, shareClass := fun _ => 0, mergeTok := fun _ => default, idOf := fun _ => 0, idOfShared := fun _ _ => 0, followText := fun _ => true, idOfImm := fun _ => 0 }⟩, {}, default, {}, default, default, default, default, default, default, default, default, default, default, default, default, default, default, default, default, default, default, default, default, default)⟩ fun t => S t.1 t.2.1 t.2.2.1 t.2.2.2.1 t.2.2.2.2.1 t.2.2.2.2.2.1 t.2.2.2.2.2.2.1 t.2.2.2.2.2.2.2.1 t.2.2.2.2.2.2.2.2.1 t.2.2.2.2.2.2.2.2.2.1 t.2.2.2.2.2.2.2.2.2.2.1 t.2.2.2.2.2.2.2.2.2.2.2.1 t.2.2.2.2.2.2.2.2.2.2.2.2.1 t.2.2.2.2.2.2.2.2.2.2.2.2.2.1 t.2.2.2.2.2.2.2.2.2.2.2.2.2.2.1 t.2.2.2.2.2.2.2.2.2.2.2.2.2.2.2.1 t.2.2.2.2.2.2.2.2.2.2.2.2.2.2.2.2.1 t.2.2.2.2.2.2.2.2.2.2.2.2.2.2.2.2.2.1 t.2.2.2.2.2.2.2.2.2.2.2.2.2.2.2.2.2.2.1 t.2.2.2.2.2.2.2.2.2.2.2.2.2.2.2.2.2.2.2.1 t.2.2.2.2.2.2.2.2.2.2.2.2.2.2.2.2.2.2.2.2.1 t.2.2.2.2.2.2.2.2.2.2.2.2.2.2.2.2.2.2.2.2.2.1 t.2.2.2.2.2.2.2.2.2.2.2.2.2.2.2.2.2.2.2.2.2.2.1 t.2.2.2.2.2.2.2.2.2.2.2.2.2.2.2.2.2.2.2.2.2.2.2.1 t.2.2.2.2.2.2.2.2.2.2.2.2.2.2.2.2.2.2.2.2.2.2.2.2.1 t.2.2.2.2.2.2.2.2.2.2.2.2.2.2.2.2.2.2.2.2.2.2.2.2.2
noncomputable def c₀ : Program × World × Around × (Value → Shared → Prop) × Shared × Heap × Addr × (Str → Option Value) × Env × Expr × Expr × Str × Str × Pos × Pos × Scope × (List (Str × Addr)) × (Shared → Nat → (Nat → Str → Option Int) → List (Addr × Obj) → Prop) × Addr × Addr × (Array Value) × (Array Value) × Nat × Nat × (List (Addr × Obj)) × (Nat → Str → Option Int) := (Classical.choice c₁).val
noncomputable def prog : Program := c₀.1
noncomputable def w : World := c₀.2.1
noncomputable def A : Around := c₀.2.2.1
noncomputable def E : Value → Shared → Prop := c₀.2.2.2.1
noncomputable def s : Shared := c₀.2.2.2.2.1
noncomputable def h₀ : Heap := c₀.2.2.2.2.2.1
noncomputable def L : Addr := c₀.2.2.2.2.2.2.1
noncomputable def m : Str → Option Value := c₀.2.2.2.2.2.2.2.1
noncomputable def env : Env := c₀.2.2.2.2.2.2.2.2.1
noncomputable def kx : Expr := c₀.2.2.2.2.2.2.2.2.2.1
noncomputable def vx : Expr := c₀.2.2.2.2.2.2.2.2.2.2.1
noncomputable def x : Str := c₀.2.2.2.2.2.2.2.2.2.2.2.1
noncomputable def x₂ : Str := c₀.2.2.2.2.2.2.2.2.2.2.2.2.1
noncomputable def px : Pos := c₀.2.2.2.2.2.2.2.2.2.2.2.2.2.1
noncomputable def px₂ : Pos := c₀.2.2.2.2.2.2.2.2.2.2.2.2.2.2.1
noncomputable def scope : Scope := c₀.2.2.2.2.2.2.2.2.2.2.2.2.2.2.2.1
noncomputable def cl : List (Str × Addr) := c₀.2.2.2.2.2.2.2.2.2.2.2.2.2.2.2.2.1
noncomputable def Fin : Shared → Nat → (Nat → Str → Option Int) → List (Addr × Obj) → Prop := c₀.2.2.2.2.2.2.2.2.2.2.2.2.2.2.2.2.2.1
noncomputable def l1 : Addr := c₀.2.2.2.2.2.2.2.2.2.2.2.2.2.2.2.2.2.2.1
noncomputable def l2 : Addr := c₀.2.2.2.2.2.2.2.2.2.2.2.2.2.2.2.2.2.2.2.1
noncomputable def xs : Array Value := c₀.2.2.2.2.2.2.2.2.2.2.2.2.2.2.2.2.2.2.2.2.1
noncomputable def ys : Array Value := c₀.2.2.2.2.2.2.2.2.2.2.2.2.2.2.2.2.2.2.2.2.2.1
noncomputable def k1 : Nat := c₀.2.2.2.2.2.2.2.2.2.2.2.2.2.2.2.2.2.2.2.2.2.2.1
noncomputable def k2 : Nat := c₀.2.2.2.2.2.2.2.2.2.2.2.2.2.2.2.2.2.2.2.2.2.2.2.1
noncomputable def news : List (Addr × Obj) := c₀.2.2.2.2.2.2.2.2.2.2.2.2.2.2.2.2.2.2.2.2.2.2.2.2.1
noncomputable def fF : Nat → Str → Option Int := c₀.2.2.2.2.2.2.2.2.2.2.2.2.2.2.2.2.2.2.2.2.2.2.2.2.2
theorem main : S prog w A E s h₀ L m env kx vx x x₂ px px₂ scope cl Fin l1 l2 xs ys k1 k2 news fF := by
  unfold S
  intro hh F N hm1 hm2 hsz hx hx₂ hxx hp hf0 hel fin
  refine call_zip_2 (isList_of N hm1) (isList_of N hm2) fun h' a1 a2 a3 a4 a5 a6 a7 => ?_
  have b1 : @LT.lt Nat _ l1 s.heap.objs.size := Heap.lt_size (N _ hm1).1
  have b2 : @LT.lt Nat _ l2 s.heap.objs.size := Heap.lt_size (N _ hm2).1
  generalize hS : s.heap.objs.size = S at *
  have D : ZipApart (S + 4) (S + 2) (S + 3) S (S + 1) l1 l2 := by
    constructor <;> (show @Ne Nat _ _) <;> omega
  have nlt : ∀ p ∈ news, @LT.lt Nat _ p.1 S := fun p hp => hS ▸ Heap.lt_size (N p hp).1
  have hL : @LT.lt Nat _ L S := hS ▸ F.ns.lt
  have new₀ : ∀ a, @LE.le Nat _ S a → h₀.get? a = none := fun a ha => by
    cases e : h₀.get? a with
    | none => rfl
    | some o' => exact absurd (Heap.lt_size (F.keep a o' e)) (Nat.not_lt.mpr (hS ▸ ha))
  have WW := (WalksT.zip2 (prog := prog) (w := w) (A := A) hh (S + 4) (S + 2) (S + 3) S (S + 1) l1 l2 D xs ys).toU
  have ho1 := (N _ hm1)
  have ho2 := (N _ hm2)
  refine ⟨S + 4, [S + 2, S + 3, S, S + 1, l1, l2], _, _, _, _, _, news, fF, _, rfl, WW, ?_, ?_, ?_, fun C => puts2 hh (fun i vals h => by obtain ⟨a, b, _, _, e⟩ := h; exact ⟨a, b, e⟩) (hx C) (hx₂ C) hxx (hp C), ⟨a1, a2, ⟨_, _, a3⟩, a4, a5, ?_, ?_⟩, ?_, F.keeps a7, N.grown a7, ?_, ?_, ?_, ?_, ?_, ?_, hf0, fin _⟩
  · exact Nat.le_trans (Nat.min_le_left _ _) (by rw [sizeLine_eq]; omega)
  · rintro i h ⟨c1, c2, ⟨_, _, c3⟩, ⟨_, c4, _⟩, ⟨_, c5, _⟩, ⟨_, c6, _⟩, ⟨_, c7, _⟩⟩
    exact all7 (P := fun b => ∃ o, h.get? b = some o) ⟨_, c1⟩ ⟨_, c2⟩ ⟨_, c3⟩ ⟨_, c4⟩ ⟨_, c5⟩ ⟨_, c6⟩ ⟨_, c7⟩
  · refine nin6 ?_ ?_ ?_ ?_ ?_ ?_ <;> (show @Ne Nat _ _) <;> omega
  · exact (isList_of N hm1).at fun o e => a7 _ o e
  · exact (isList_of N hm2).at fun o e => a7 _ o e
  · have a6' : h'.objs.size = S + 5 := a6
    intro b hb
    show @LT.lt Nat _ b h'.objs.size
    rw [a6']
    revert b hb
    refine all7 ?_ ?_ ?_ ?_ ?_ ?_ ?_ <;> first | exact Nat.lt_of_lt_of_le b1 (Nat.le_add_right _ _) | exact Nat.lt_of_lt_of_le b2 (Nat.le_add_right _ _) | (show @LT.lt Nat _ _ _; omega)
  · refine all7 ?_ ?_ ?_ ?_ ?_ ?_ ?_ <;> first | exact ho1.2.1 | exact ho2.2.1 | (show @Ne Nat _ _; omega)
  · refine all7 ?_ ?_ ?_ ?_ ?_ ?_ ?_ <;> first | exact ho1.2.2 | exact ho2.2.2 | exact new₀ _ (by omega)
  · intro p hp
    have q := nlt p hp
    refine nin4 ?_ ?_ ?_ ?_ <;> (show @Ne Nat _ _) <;> omega
  · refine all4 ?_ ?_ ?_ ?_ <;> simp
  · intro p hp
    have q := nlt p hp
    show @Ne Nat _ _
    omega
  · intro i vals oD oI C oC D m₂ h tk led E' hi hv hC hG F' N' off sub ne
    obtain ⟨a, b, e1, e2, rfl⟩ := hv
    obtain ⟨a', b', e, g1, g2⟩ := hG
    obtain ⟨rfl, rfl⟩ : a = a' ∧ b = b' := by simpa using e
    exact hel _ i a b oD oI C oC D m₂ h tk led E' e1 e2 hC g1 g2 F' N' off sub ne
end zip2_srcD
theorem zip2_srcD {prog : Program} {w : World} {A : Around} {E : Value → Shared → Prop} {s : Shared} {h₀ : Heap} {L : Addr} {m : Str → Option Value} {env : Env} {kx vx : Expr} {x x₂ : Str} {px px₂ : Pos} {scope : Scope} {cl : List (Str × Addr)} {Fin : Shared → Nat → (Nat → Str → Option Int) → List (Addr × Obj) → Prop} {l1 l2 : Addr} {xs ys : Array Value} {k1 k2 : Nat} {news : List (Addr × Obj)} (hh : A.handled = none) (F : Fr h₀ L s.heap m) (N : News h₀ L s.heap news)
    (hm1 : (l1, listOf xs k1) ∈ news) (hm2 : (l2, listOf ys k2) ∈ news) (hsz : xs.size ≤ 1000)
    (hx : ∀ C, (compEnvC scope cl C env).kindOf x = some .local) (hx₂ : ∀ C, (compEnvC scope cl C env).kindOf x₂ = some .local) (hxx : x ≠ x₂) (hp : ∀ C, ((compEnvC scope cl C env).scope.kind == .class || ((compEnvC scope cl C env).scope.kind == .module && (compEnvC scope cl C env).locals != (compEnvC scope cl C env).globals)) = false)
    (fF : Nat → Str → Option Int) (hf0 : fF 0 = fun _ => none)
    (hel : ∀ I i a b oD oI C oC D m₂ h tk led (E' : Value → Shared → Prop), xs[i]? = some a → ys[i]? = some b → NsObj oC m₂ → m₂ x = some a → m₂ x₂ = some b → Fr h₀ L h m → News h₀ L h ((I, oI) :: (C, oC) :: (D, oD) :: led) → Off3 I C D led → (∀ p ∈ news, p ∈ led) → ((@Ne Nat I C) ∧ (@Ne Nat I D) ∧ (@Ne Nat C D)) →
      wpAny (model prog w) A (eval kx (compEnvC scope cl C env)) (fun kv s' => wpAny (model prog w) A (eval vx (compEnvC scope cl C env)) (fun vv s'' => ∃ y t k u h' tk', kv = .str y t ∧ vv = .int k u ∧ fF (i + 1) = upd (fF i) y k ∧ s'' = { s with heap := h', toks := tk' } ∧ Fr h₀ L h' m ∧ News h₀ L h' ((I, oI) :: (C, oC) :: (D, oD) :: led)) E' s') E' { s with heap := h, toks := tk })
    (fin : ∀ h, Fin { s with heap := h } (min xs.size ys.size) fF news) :
    wpAny (model prog w) A (call (.type "zip") [.ref l1, .ref l2]) (SrcZD prog w A h₀ L m env kx vx [.Name x px, .Name x₂ px₂] scope cl Fin) E s :=
  (Classical.choice zip2_srcD.c₁).property zip2_srcD.main (prog, w, A, E, s, h₀, L, m, env, kx, vx, x, x₂, px, px₂, scope, cl, Fin, l1, l2, xs, ys, k1, k2, news, fF) hh F N hm1 hm2 hsz hx hx₂ hxx hp hf0 hel fin
section
variable {prog : Program} {w : World} {A : Around} {E : Value → Shared → Prop} {s : Shared} {h₀ : Heap} {L : Addr} {m : Str → Option Value} {env : Env}
end
end
end
section
set_option maxRecDepth 100000
set_option maxHeartbeats 4000000
noncomputable def lnOf (c : Int) (b : Str) : Rx.Ln := ⟨(1 + c.fmod 3).toNat, b.cps.toList, (endF c).cps.toList⟩
noncomputable def lnsOf (c7 : List Int) (nm : List Str) : List Rx.Ln := List.zipWith lnOf c7 nm
theorem mul_dot (c : Int) : (Txt.mul (Str.ofString ".") (1 + c.fmod 3)).cps.toList = List.replicate (1 + c.fmod 3).toNat 46 := by
  have b := fmod_in c (k := 3) (by decide)
  have h : c.fmod 3 = 0 ∨ c.fmod 3 = 1 ∨ c.fmod 3 = 2 := by omega
  rcases h with h | h | h <;> rw [h] <;> decide +kernel
theorem line_raw (c : Int) (b : Str) : (lineF c b).cps.toList = List.replicate (lnOf c b).k 46 ++ (lnOf c b).a ++ (lnOf c b).e := by
  show ((Txt.mul (Str.ofString ".") (1 + c.fmod 3)).cps ++ b.cps ++ (endF c).cps).toList = _
  rw [Array.toList_append, Array.toList_append, mul_dot]
  rfl
theorem end_ok (c : Int) : (endF c).cps.toList = [10] ∨ (endF c).cps.toList = [13] ∨ (endF c).cps.toList = [13, 10] := by
  have b := fmod_in (c.fdiv 3) (k := 3) (by decide)
  unfold endF
  have h : (c.fdiv 3).fmod 3 = 0 ∨ (c.fdiv 3).fmod 3 = 1 ∨ (c.fdiv 3).fmod 3 = 2 := by omega
  rcases h with h | h | h <;> rw [h] <;> decide +kernel
theorem ln_ok (c : Int) (b : Str) (hb : ∀ x ∈ b.cps.toList, x ≠ 10 ∧ x ≠ 13 ∧ x ≠ 46) : Rx.LnOk (lnOf c b) := by
  have h := fmod_in c (k := 3) (by decide)
  refine ⟨?_, hb, end_ok c⟩
  show 1 ≤ (1 + c.fmod 3).toNat
  omega
theorem lns_ok (nm : List Str) (hb : ∀ b ∈ nm, ∀ x ∈ b.cps.toList, x ≠ 10 ∧ x ≠ 13 ∧ x ≠ 46) : ∀ (c7 : List Int), ∀ l ∈ lnsOf c7 nm, Rx.LnOk l := by
  induction nm with
  | nil => intro c7 l h; unfold lnsOf at h; simp at h
  | cons b nm ih =>
    intro c7 l h
    cases c7 with
    | nil => unfold lnsOf at h; simp at h
    | cons c c7 =>
      rcases List.mem_cons.mp (show l ∈ lnOf c b :: lnsOf c7 nm from h) with rfl | h
      · exact ln_ok c b (hb b (.head _))
      · exact ih (fun b' h' => hb b' (.tail _ h')) c7 l h
theorem raw_lines (nm : List Str) : ∀ c7 : List Int, ((linesF c7 nm).map fun y => y.cps.toList).flatten = Rx.rawL (lnsOf c7 nm) := by
  induction nm with
  | nil => intro c7; unfold linesF lnsOf; simp; rfl
  | cons b nm ih =>
    intro c7
    cases c7 with
    | nil => rfl
    | cons c c7 =>
      show (lineF c b).cps.toList ++ ((linesF c7 nm).map fun y => y.cps.toList).flatten = (List.replicate (lnOf c b).k 46 ++ (lnOf c b).a ++ (lnOf c b).e) ++ Rx.rawL (lnsOf c7 nm)
      rw [ih, line_raw]
theorem glue_acc : ∀ (l : List Str) (acc : Array Nat), (l.foldl (fun acc p => acc ++ (Str.ofString "").cps ++ p.cps) acc).toList = acc.toList ++ (l.map fun y => y.cps.toList).flatten
  | [], acc => by simp
  | y :: l, acc => by
    have e : (Str.ofString "").cps = #[] := by decide +kernel
    rw [List.foldl_cons, glue_acc l, e]
    simp
theorem join_cps (l : List Str) : (Txt.join (Str.ofString "") l).cps.toList = (l.map fun y => y.cps.toList).flatten := by
  show (((l.drop 1).foldl (fun acc p => acc ++ (Str.ofString "").cps ++ p.cps) (l.headD Str.empty).cps)).toList = _
  cases l with
  | nil => rfl
  | cons y l => exact glue_acc l y.cps
theorem mail_raw (c7 : List Int) (nm : List Str) : (Txt.join (Str.ofString "") (linesF c7 nm)).cps.toList = Rx.rawL (lnsOf c7 nm) := by
  rw [join_cps, raw_lines]
theorem names_letters {cs : List Int} {chs : List Str} (h : (cs.take 3).map chordF = chs) : ∀ y ∈ baseNames ++ dedupF chs 3, ∀ x ∈ y.cps.toList, 97 ≤ x ∧ x ≤ 101 := by
  intro y hy
  rcases List.mem_append.mp hy with hy | hy
  · have : ∀ y ∈ baseNames, ∀ x ∈ y.cps.toList, 97 ≤ x ∧ x ≤ 101 := by decide +kernel
    exact this y hy
  · have := dedup_sub 3 y hy
    rw [← h] at this
    obtain ⟨c, _, rfl⟩ := List.mem_map.mp this
    have b := fmod_in c (k := 6) (by decide)
    have h6 : c.fmod 6 = 0 ∨ c.fmod 6 = 1 ∨ c.fmod 6 = 2 ∨ c.fmod 6 = 3 ∨ c.fmod 6 = 4 ∨ c.fmod 6 = 5 := by omega
    unfold chordF
    rcases h6 with h | h | h | h | h | h <;> rw [h] <;> decide +kernel
theorem join_len (l : List Str) : (Txt.join (Str.ofString "") l).length = (l.map (·.length)).sum := by
  show (Txt.join (Str.ofString "") l).cps.size = _
  rw [← Array.length_toList, join_cps, List.length_flatten, List.map_map]
  rfl
end
section
set_option maxRecDepth 100000
set_option maxHeartbeats 400000
open PySem.Calls
theorem borrowed_any {M : Model} {A : Around} {E : Value → Shared → Prop} {s : Shared} {f : Value} {pos : List Value} {Q : Value → Shared → Prop}
    (hc : codeAny M A (.call f ⟨pos, []⟩) (fun r s' => match r with | .ok (.ret v) => Q v s' | .ok _ => False | .error e => E e s') s) : wpAny M A (callBorrowed f pos) Q E s := fun Γ p hΓ => by
  have h0 := hc _ p rfl (hΓ.enter (.call f ⟨pos, []⟩) none p (by intro x; cases x))
  obtain ⟨r, s', hr, h⟩ := h0
  refine ⟨r, s', hr, ?_⟩
  cases r with
  | error e => exact h
  | ok fl =>
    cases fl with
    | ret v => exact h
    | _ => exact h.elim
end
section
theorem off_Quote : True := by (w_top off; first | walk1 | trivial)
set_option maxRecDepth 100000
set_option maxHeartbeats 2000000
open PySem.Calls
set_option hygiene false in
local macro_rules | `(tactic| walk_at "execs cons") => `(tactic| walk_at "MY h0")
theorem pat1 {w : World} {h : Heap} (X : (hd.heap_39 w.params).In h) : Rx.Pat h 134 133 Rx.code1 := by
  refine ⟨⟨_, _, _, X 134 _ (by with_unfolding_all rfl), rfl, rfl⟩, ⟨_, _, _, X 133 _ (by with_unfolding_all rfl), rfl, ?_⟩⟩
  decide +kernel
theorem pat2 {w : World} {h : Heap} (X : (hd.heap_39 w.params).In h) : Rx.Pat h 139 138 Rx.code2 := by
  refine ⟨⟨_, _, _, X 139 _ (by with_unfolding_all rfl), rfl, rfl⟩, ⟨_, _, _, X 138 _ (by with_unfolding_all rfl), rfl, ?_⟩⟩
  decide +kernel
section
variable {prog : Program} {w : World} {A : Around} {E : Value → Shared → Prop} {s : Shared} {h₀ : Heap} {L : Addr} {m : Str → Option Value} {news : List (Addr × Obj)} {x : Str} {tx tr : Tok} {Q : Value → Shared → Prop}
theorem sub2_any (F : Fr h₀ L s.heap m) (N : News h₀ L s.heap news) (P : Rx.Pat h₀ 139 138 Rx.code2) (hx : x.length ≤ 300)
    (h : ∀ y t' h' tk, y.cps.toList = Rx.rep2 false x.cps.toList → Fr h₀ L h' m → News h₀ L h' news → Q (.str y t') { s with heap := h', toks := tk }) :
    wpAny (model prog w) A (call (.builtin "re.Pattern.sub") [.ref 139, .str (Str.ofString "\r\n") tr, .str x tx]) Q E s := by
  refine Rx.call_sub (C := 138) Rx.finds2 hx (by decide) (by decide +kernel) (P.keep F.keep) fun h' tk t' hk => h _ t' h' tk ?_ (F.keeps hk) (N.grown hk)
  rw [join_flat, Rx.pcs2_eq (by decide +kernel) _ 0 (Nat.zero_le _) (by omega)]
  rfl
theorem sub1_any (F : Fr h₀ L s.heap m) (N : News h₀ L s.heap news) (P : Rx.Pat h₀ 134 133 Rx.code1) (hx : x.length ≤ 300)
    (h : ∀ y t' h' tk, y.cps.toList = Rx.rep1 true x.cps.toList → Fr h₀ L h' m → News h₀ L h' news → Q (.str y t') { s with heap := h', toks := tk }) :
    wpAny (model prog w) A (call (.builtin "re.Pattern.sub") [.ref 134, .str (Str.ofString "..") tr, .str x tx]) Q E s := by
  refine Rx.call_sub (C := 133) (Rx.finds1 hx) hx (by decide) (by decide +kernel) (P.keep F.keep) fun h' tk t' hk => h _ t' h' tk ?_ (F.keeps hk) (N.grown hk)
  rw [join_flat, Rx.pcs1_eq (by decide +kernel) _ 0 (Nat.zero_le _) (by omega)]
  rfl
end
theorem plain_pat : PlainAttrs "re.Pattern" :=
  ⟨⟨"object.__getattribute__", by rw [typeLookup_type, builtinLookup_eq_fast]; kernel_rfl, by decide +kernel⟩, by rw [typeLookup_type, builtinLookup_eq_fast]; kernel_rfl⟩
theorem type_sub : typeOf (.builtin "re.Pattern.sub") = pure (.type "method_descriptor") := by kernel_rfl
noncomputable def IsPat (h : Heap) (P : Addr) : Prop := ∃ o, h.get? P = some o ∧ o.cls = .type "re.Pattern" ∧ o.dict = none
theorem pat_method {M : Model} {A : Around} {E : Value → Shared → Prop} {s : Shared} {h₀ : Heap} {L P : Addr} {m : Str → Option Value} {pl : Sem Bool} {Q : Value × List Value → Shared → Prop} (F : Fr h₀ L s.heap m) (hP : IsPat h₀ P) (h : Q (.builtin "re.Pattern.sub", [.ref P]) s) :
    wpAny M A (getMethod (.ref P) "sub" pl) Q E s := by
  obtain ⟨o, e, c, d⟩ := hP
  refine getMethod_builtin ⟨o, F.keep _ _ e, c⟩ plain_pat Rx.slot_sub type_sub (fun a ha => ?_) h
  cases ha
  exact ⟨o, F.keep _ _ e, d⟩
theorem isPat1 {w : World} {h : Heap} (X : (hd.heap_39 w.params).In h) : IsPat h 134 := ⟨_, X 134 _ (by with_unfolding_all rfl), rfl, rfl⟩
theorem isPat2 {w : World} {h : Heap} (X : (hd.heap_39 w.params).In h) : IsPat h 139 := ⟨_, X 139 _ (by with_unfolding_all rfl), rfl, rfl⟩
set_option hygiene false in
local macro_rules | `(tactic| walk_at "getMethod ref") => `(tactic| (k_here; refine Stop.get ?_))
set_option hygiene false in
local macro_rules | `(tactic| walk_at "call builtin:re.Pattern.sub") => `(tactic| (k_here; refine Stop.get ?_))
theorem len_cps {x : Str} : x.length = x.cps.toList.length := (Array.length_toList).symm
theorem cr_len : ∀ Ls : List Rx.Ln, (∀ l ∈ Ls, Rx.LnOk l) → (Rx.crL Ls).length ≤ 2 * (Rx.rawL Ls).length
  | [], _ => Nat.le_refl _
  | l :: Ls, h => by
    have ih := cr_len Ls fun m hm => h m (.tail _ hm)
    have hl := h l (.head _)
    unfold Rx.crL Rx.rawL at *
    rw [List.map_cons, List.map_cons, List.flatten_cons, List.flatten_cons, List.length_append, List.length_append]
    simp only [List.length_append, List.length_replicate, List.length_cons, List.length_nil]
    have := hl.k1
    have : 1 ≤ l.e.length := by rcases hl.en with e | e | e <;> rw [e] <;> decide
    omega
theorem quote_end {x y z : Str} {Ls : List Rx.Ln} (hL : ∀ l ∈ Ls, Rx.LnOk l) (hx : x.cps.toList = Rx.rawL Ls) (e2 : y.cps.toList = Rx.rep2 false x.cps.toList) (e1 : z.cps.toList = Rx.rep1 true y.cps.toList) : z.cps.toList = Rx.dblL Ls := by
  rw [e1, e2, hx, Rx.rep2_raw Ls hL, Rx.rep1_cr Ls hL]
theorem quote_mid {x y : Str} {Ls : List Rx.Ln} (hL : ∀ l ∈ Ls, Rx.LnOk l) (hx : x.cps.toList = Rx.rawL Ls) (hlen : x.length ≤ 150) (e2 : y.cps.toList = Rx.rep2 false x.cps.toList) : y.length ≤ 300 := by
  rw [len_cps] at hlen ⊢
  rw [e2, hx, Rx.rep2_raw Ls hL]
  rw [hx] at hlen
  have := cr_len Ls hL
  omega
theorem quote_pure (w : World) (p : Program) (loose : List Str) (mean : ExcName → Option Value) (mg mb : Str → Option Value) (x : Str) (tk : Tok) (Ls : List Rx.Ln) (hL : ∀ l ∈ Ls, Rx.LnOk l) (hx : x.cps.toList = Rx.rawL Ls) (hlen : x.length ≤ 150) :
    Pure prg w (hd.heap_39 w.params) p loose mean mg mb 146 [.str x tk] 2 20 (fun r => ∃ t y, r = .str y t ∧ y.cps.toList = Rx.dblL Ls) := by
  unfold prg
  unfold Pure
  intro dp un gd cn cs a ccd cl outer A₀ base h₀ L m news s Q E B F X N T hk hd hu hret
  revert X
  k_fill
  intro X
  refine wpAny_call ?_
  k_dflt ktr_enter
  k_steps
  all_goals try (refine Stop.mk ?_; k_dflt (first | refine pat_method (P := 134) (by k_asm) (isPat1 (by k_asm)) ?_ | refine pat_method (P := 139) (by k_asm) (isPat2 (by k_asm)) ?_); k_steps)
  all_goals try (refine Stop.mk ?_; k_dflt (first | refine pat_method (P := 134) (by k_asm) (isPat1 (by k_asm)) ?_ | refine pat_method (P := 139) (by k_asm) (isPat2 (by k_asm)) ?_); k_steps)
  all_goals try (refine Stop.mk ?_; (first | (refine sub2_any (by k_asm) (by k_asm) (pat2 (by k_asm)) (by omega) ?_; intro y2 t2 h2 k2 e2 F' N') | (refine sub1_any (by k_asm) (by k_asm) (pat1 (by k_asm)) ?_ ?_; rotate_left; intro y1 t1 h1 k1 e1 F' N')); k_steps)
  all_goals try (refine Stop.mk ?_; (first | (refine sub2_any (by k_asm) (by k_asm) (pat2 (by k_asm)) (by omega) ?_; intro y2 t2 h2 k2 e2 F' N') | (refine sub1_any (by k_asm) (by k_asm) (pat1 (by k_asm)) ?_ ?_; rotate_left; intro y1 t1 h1 k1 e1 F' N')); k_steps)
  all_goals first
    | exact quote_mid hL hx hlen (by assumption)
    | exact hret _ _ _ (by k_asm) (by k_asm) ⟨_, _, rfl, quote_end hL hx (by assumption) (by assumption)⟩
end
section
set_option hygiene false in
local macro_rules | `(tactic| omega) => `(tactic| walk_at "MY om")
section
theorem off_Reader : True := by (w_top off; first | walk1 | trivial)
set_option maxRecDepth 100000
set_option maxHeartbeats 4000000
open PySem.Calls

theorem read_method {prog : Program} {w : World} {A : Around} {E : Value → Shared → Prop} {s : Shared} {h₀ : Heap} {L st sd f : Addr} {fo oD : Obj} {news : List (Addr × Obj)} {pl : Sem Bool} {Q : Value × List Value → Shared → Prop}
    (N : News h₀ L s.heap news) (h1 : (st, fo) ∈ news) (h2 : (sd, oD) ∈ news) (hc : fo.cls = .type "function") (hdict : fo.dict = some sd) (hfd : ∃ fd, fo.data = .func fd) (hns : IsNsO oD (fun y => if y = Str.ofString "read" then some (.ref f) else none))
    (h : ∀ tk, Q (.ref f, []) { s with toks := tk }) : wpAny (model prog w) A (getMethod (.ref st) "read" pl) Q E s := by
  obtain ⟨fd, hfd⟩ := hfd
  exact fn_getMethod (N _ h1).1 hc hdict (hns _ _ (N _ h2).1) rfl hfd h
set_option hygiene false in
local macro_rules | `(tactic| walk_at "getMethod ref") => `(tactic| (k_here; refine Stop.get ?_))
set_option hygiene false in
local macro_rules | `(tactic| walk_at "call ref") => `(tactic| (k_here; refine Stop.get ?_))
theorem ne_of_allLt {l : List (Addr × Obj)} {b c : Nat} (h : AllLt b l) (hb : b ≤ c) : ∀ q ∈ l, @Ne Nat q.1 c := fun q hq => Nat.ne_of_lt (Nat.lt_of_lt_of_le (allLt_to h q hq) hb)
theorem fnAt_of {h₀ h : Heap} {L q : Addr} {o : Obj} {news : List (Addr × Obj)} (N : News h₀ L h news) (hm : (q, o) ∈ news) (hf : ∃ oc od fd sl, o = ⟨oc, od, .func fd, sl⟩) : FnAt q h := by
  obtain ⟨oc, od, fd, sl, rfl⟩ := hf
  exact ⟨oc, od, fd, sl, (N _ hm).1⟩
set_option hygiene false in
local macro_rules | `(tactic| k_all) => `(tactic| assumption)
set_option hygiene false in
local macro_rules | `(tactic| walk_at "FnAt") => `(tactic| exact fnAt_of (by k_asm) (by k_mem) (by assumption))
set_option hygiene false in
local macro_rules | `(tactic| walk_at "callWith ref") => `(tactic| (k_here; k_dflt (refine callWith_F (by walk_at "FnAt") ?_)))
theorem ro_use {prog : Program} {w : World} {K : Frag} {p : Program} {loose : List Str} {mean : ExcName → Option Value} {mg mb : Str → Option Value} {text : Str} {f cf la cA cT : Addr} {fobj ocf oA oT : Obj} (ro : ReadOn prog w K p loose mean mg mb text f cf la cA cT fobj ocf oA oT)
    {dp un : Nat} {gd : Option (List Code)} {cn : Str} {cs : Scope} {a : Addr} {ccd : Value} {cl : List (Str × Addr)} {outer : List Env} {A₀ : Around} {base h₀ : Heap} {L : Addr} {m : Str → Option Value} {news : List (Addr × Obj)} {g : Obj → List (Addr × Obj)} {s : Shared}
    {Q E : Value → Shared → Prop} {i : Int} {k : Nat} {t1 t2 : Tok}
    (B : Below A₀ base outer h₀) (F : Fr h₀ L s.heap m) (X : K.In h₀) (N : News h₀ L s.heap news) (_hm : (la, listOf #[.int i t1] k) ∈ news) (U : UpdF la (listOf #[.int i t1] k) news g) (hf : (f, fobj) ∈ news) (hcf : (cf, ocf) ∈ news) (hcA : (cA, oA) ∈ news) (hcT : (cT, oT) ∈ news)
    (T : Top p loose mean mg mb h₀) (hk : cs.kind = .function) (hd : dp + 3 < recursionLimit) (hu : un + 30 < cLine) (hi0 : 0 ≤ i) (hi1 : i ≤ 1000)
    (h : ∀ h' tk' t t', Fr h₀ L h' m → News h₀ L h' (g (listOf #[.int (i + ((Txt.slice text (some i) (some (i + 1))).length : Int)) t'] k)) → Q (.str (Txt.slice text (some i) (some (i + 1))) t) { s with heap := h', toks := tk' }) :
    wpAny (model prog w) (ktrTop dp un gd cn cs L a ccd cl outer) (call (.ref f) [.int 1 t2]) Q E s := by
  obtain ⟨pre, post, rfl, hg, ha, hb⟩ := U.split
  refine ro dp un gd cn cs a ccd cl outer A₀ base h₀ L m (pre ++ post) s Q E i k t1 t2 B F X ?_ ?_ T hk hd hu hi0 hi1 ?_
  · intro q hq
    simp only [List.mem_cons, List.mem_append] at hq
    rcases hq with rfl | rfl | rfl | rfl | rfl | hq | hq
    · exact N _ (List.mem_append_right _ (.head _))
    · exact N _ hf
    · exact N _ hcf
    · exact N _ hcA
    · exact N _ hcT
    · exact N _ (List.mem_append_left _ hq)
    · exact N _ (List.mem_append_right _ (.tail _ hq))
  · intro q hq
    rcases List.mem_append.mp hq with hq | hq
    · exact fun e => ha q hq e
    · exact fun e => hb q hq e
  · intro h' tk' t t' F' N'
    refine h h' tk' t t' F' ?_
    rw [hg]
    intro q hq
    rcases List.mem_append.mp hq with hq | hq
    · exact N' q (.tail _ (.tail _ (.tail _ (.tail _ (.tail _ (List.mem_append_left _ hq))))))
    · rcases List.mem_cons.mp hq with rfl | hq
      · exact N' _ (.head _)
      · exact N' q (.tail _ (.tail _ (.tail _ (.tail _ (.tail _ (List.mem_append_right _ hq))))))
noncomputable def lnF (ln : Int) (ch : Str) : Int := if ch == Str.ofString "\n" then ln + 1 else ln
theorem lnF_no {ln : Int} {ch : Str} (h : (ch == Str.ofString "\n") = false) : lnF ln ch = ln := by unfold lnF; rw [if_neg (by rw [h]; exact Bool.false_ne_true)]
theorem lnF_yes {ln : Int} {ch : Str} (h : (ch == Str.ofString "\n") = true) : lnF ln ch = ln + 1 := by unfold lnF; rw [if_pos h]
theorem readc_code {w : World} {p : Program} {loose : List Str} {mean : ExcName → Option Value} {mg mb : Str → Option Value} {text : Str} {pb x d sd st f cf la cA cT : Addr} {oD fo fobj ocf oA oT : Obj}
    (Mx : Mach w p loose mean mg mb text pb x d sd st f cf la cA cT oD fo fobj ocf oA oT)
    {dp un : Nat} {gd : Option (List Code)} {cn : Str} {cs : Scope} {a : Addr} {ccd : Value} {cl : List (Str × Addr)} {outer : List Env} {A₀ : Around} {base h₀ : Heap} {L : Addr} {m : Str → Option Value} {rest : List (Addr × Obj)} {s : Shared}
    {Q E : Value → Shared → Prop} {k n : Nat} {t1 t2 t3 t4 u1 u3 u4 : Tok} {ln i : Int} {vs : List Value} (zne : ∀ q ∈ rest, @Ne Nat q.1 la) (zne2 : ∀ q ∈ rest, @Ne Nat q.1 d) (hi0 : 0 ≤ i) (hi1 : i ≤ 1000)
    (B : Below A₀ base outer h₀) (F : Fr h₀ L s.heap m) (X : (hd.heap_39 w.params).In h₀) (N : News h₀ L s.heap ((pb, listOf vs.toArray k) :: (x, instObj 125 d) :: (d, dictOf [mcEnt w "lineno" t1 (.int ln u1), mcEnt w "instream" t2 (.ref st), mcEnt w "whitespace" t3 (.str (Str.ofString "\n\t\r ") u3), mcEnt w "pushback" t4 (.ref pb)] 4) :: (sd, oD) :: (st, fo) :: (f, fobj) :: (cf, ocf) :: (la, listOf #[.int i u4] n) :: (cA, oA) :: (cT, oT) :: rest)) (T : Top p loose mean mg mb h₀) (hk : cs.kind = .function) (hd : dp + 10 < recursionLimit) (hu : un + 100 < cLine)
    (hret : ∀ h' tk' t u1 u4, Fr h₀ L h' m → News h₀ L h' ((pb, listOf vs.toArray k) :: (x, instObj 125 d) :: (d, dictOf [mcEnt w "lineno" t1 (.int (lnF ln (Txt.slice text (some i) (some (i + 1)))) u1), mcEnt w "instream" t2 (.ref st), mcEnt w "whitespace" t3 (.str (Str.ofString "\n\t\r ") u3), mcEnt w "pushback" t4 (.ref pb)] 4) :: (sd, oD) :: (st, fo) :: (f, fobj) :: (cf, ocf) :: (la, listOf #[.int (i + ((Txt.slice text (some i) (some (i + 1))).length : Int)) u4] n) :: (cA, oA) :: (cT, oT) :: rest) → Q (.str (Txt.slice text (some i) (some (i + 1))) t) { s with heap := h', toks := tk' }) :
    codeAny (model prg w) (ktrTop dp un gd cn cs L a ccd cl outer) (.call (.ref 108) ⟨[.ref x], []⟩) (fun r s' => match r with | .ok (.ret v) => Q v s' | .ok _ => False | .error e => E e s') s := by
  obtain ⟨q1, q2, q3, q4, q5, q6, q7, q8, q9, zns, zc, zdd, zfd, ro, zfn⟩ := Mx
  unfold prg at *
  revert X ro; k_fill; intro X ro
  k_dflt ktr_enter
  k_steps
  refine Stop.mk ?_
  refine' read_method ?kN ?k1 ?k2 ?k3 ?k4 ?k5 ?k6 ?_
  case kN => k_asm
  case k1 => k_mem
  case k3 => assumption
  case k4 => assumption
  case k2 => k_mem
  case k5 => assumption
  case k6 => assumption
  intro tk'
  dsimp only
  k_steps
  refine Stop.mk ?_
  k_dflt (refine' ro_use ro ?B ?F ?X ?N ?m ?U ?k1 ?k2 ?k3 ?k4 ?T rfl ?kd ?ku hi0 hi1 ?_)
  case B => k_asm
  case F => k_asm
  case X => k_asm
  case N => k_asm
  case m => k_mem
  case U => k_updF
  case k1 => k_mem
  case k2 => k_mem
  case k3 => k_mem
  case k4 => k_mem
  case T => k_asm
  case kd => ktr_room
  case ku => ktr_units
  intro h' tk' t t' F' N'
  (try dsimp only at N')
  k_steps
  all_goals first
    | exact hret _ _ _ _ _ (by k_asm) (by rw [lnF_no (by assumption)]; k_asm)
    | exact hret _ _ _ _ _ (by k_asm) (by rw [lnF_yes (by assumption)]; k_asm)
end
section
set_option maxRecDepth 100000
set_option maxHeartbeats 4000000
open PySem.Calls

theorem slot_cit_iter : Slot "callable_iterator" "__iter__" "callable_iterator.__iter__" :=
  .of (owner := "callable_iterator") (n := "__iter__") (by rw [typeLookup_type, builtinLookup_eq_fast]; kernel_rfl) (by decide +kernel) (by decide +kernel) (by decide +kernel)
    (by first | exact .inl (by decide +kernel) | exact .inr (by decide +kernel)) (by rw [isSubtype_type]; kernel_rfl)
theorem entry_cit_iter : entryFor table "callable_iterator.__iter__" = some Builtin.«dict_keyiterator.__iter__» :=
  entryFor_alias (id' := "dict_keyiterator.__iter__") (by kernel_rfl) (by first | rfl | decide +kernel | (unfold String.splitOn; simp +decide [String.splitOnAux])) (by decide +kernel) (by kernel_rfl)
theorem args_cit_iter (a : Value) : argsOk "callable_iterator.__iter__" ⟨[a], []⟩ := by unfold argsOk; kernel_rfl
theorem pyIter_cit {prog : Program} {w : World} {A : Around} {E : Value → Shared → Prop} {s : Shared} {I : Addr} {f e : Value} {b : Bool} {Q : Value → Shared → Prop} (hI : s.heap.get? I = some (citObj f e b)) (h : Q (.ref I) s) : wpAny (model prog w) A (pyIter (.ref I)) Q E s := by
  have hT : s.TypeIs (.ref I) "callable_iterator" := ⟨_, hI, rfl⟩
  refine wpAny_pyIter_slot hT slot_cit_iter (wpAny_call_entry slot_cit_iter hT entry_cit_iter ?_ (args_cit_iter _))
  show wpAny _ _ (ret (.ref I)) _ _ s
  exact wpAny_pure ⟨_, rfl, "callable_iterator", _, hT, slot_cit_next.lookup, h⟩
theorem slice_one {text : Str} {i c : Nat} (h : text.cps[i]? = some c) : Txt.slice text (some (i : Int)) (some ((i : Int) + 1)) = ⟨#[c]⟩ := by
  have hi : i < text.cps.size := (Array.getElem?_eq_some_iff.mp h).1
  have e := StrLaws.sliceText_nat text (a := i) (b := i + 1) (by omega) hi
  rw [show (((i + 1 : Nat)) : Int) = (i : Int) + 1 by omega] at e
  refine Eq.trans (show _ = StrLaws.sliceText text (some (i : Int)) (some ((i : Int) + 1)) from rfl) (e.trans ?_)
  rw [show i + 1 - i = 1 by omega]
  have hc : text.cps.toList.drop i = c :: text.cps.toList.drop (i + 1) := by
    rw [List.drop_eq_getElem_cons (by rw [Array.length_toList]; exact hi)]
    congr 1
    rw [Array.getElem_toList]
    exact (Array.getElem?_eq_some_iff.mp h).2
  rw [hc]
  rfl
theorem slice_none {text : Str} {i : Nat} (h : text.cps[i]? = none) : Txt.slice text (some (i : Int)) (some ((i : Int) + 1)) = Str.empty := by
  have hi : text.length ≤ i := Array.getElem?_eq_none_iff.mp h
  have e : Builtin.Str.strSliceIndices (some (i : Int)) (some ((i : Int) + 1)) 1 text.length = [] := by
    unfold Builtin.Str.strSliceIndices sliceRange
    have h1 : ¬ ((i : Int) < 0) := by omega
    have h2 : ¬ ((i : Int) + 1 < 0) := by omega
    have e1 : max (0 : Int) (min (i : Int) (text.length : Int)) = text.length := by omega
    have e2 : max (0 : Int) (min ((i : Int) + 1) (text.length : Int)) = text.length := by omega
    simp only [h1, h2, if_false, show (1 : Int) > 0 by decide, if_true, e1, e2, Int.lt_irrefl]
    rfl
  unfold Txt.slice
  rw [e]
  by_cases h0 : text.length = 0
  · rw [if_pos (by rw [h0]; rfl)]
    have : text.cps = #[] := Array.eq_empty_of_size_eq_zero h0
    cases text
    cases this
    rfl
  · rw [if_neg (by simp; omega)]
    rfl
theorem news_rot {h₀ h : Heap} {L : Addr} {a b : Addr × Obj} (l r : List (Addr × Obj)) (N : News h₀ L h (a :: b :: (l ++ r))) : News h₀ L h (l ++ (a :: b :: r)) := fun z hz => by
  rcases List.mem_append.mp hz with hz | hz
  · exact N z (.tail _ (.tail _ (List.mem_append_left _ hz)))
  rcases List.mem_cons.mp hz with rfl | hz
  · exact N _ (.head _)
  rcases List.mem_cons.mp hz with rfl | hz
  · exact N _ (.tail _ (.head _))
  · exact N z (.tail _ (.tail _ (List.mem_append_right _ hz)))
theorem news_rot' {h₀ h : Heap} {L : Addr} {a b : Addr × Obj} (l r : List (Addr × Obj)) (N : News h₀ L h (l ++ (a :: b :: r))) : News h₀ L h (a :: b :: (l ++ r)) := fun z hz => by
  rcases List.mem_cons.mp hz with rfl | hz
  · exact N _ (List.mem_append_right _ (.head _))
  rcases List.mem_cons.mp hz with rfl | hz
  · exact N _ (List.mem_append_right _ (.tail _ (.head _)))
  rcases List.mem_append.mp hz with hz | hz
  · exact N z (List.mem_append_left _ hz)
  · exact N z (List.mem_append_right _ (.tail _ (.tail _ hz)))
theorem isMeth_of {w : World} {h₀ h : Heap} {L q x : Addr} {m : Str → Option Value} {news : List (Addr × Obj)} (X : (hd.heap_39 w.params).In h₀) (F : Fr h₀ L h m) (N : News h₀ L h news) (hq : (q, methodObj (.ref 108) (.ref x)) ∈ news) : IsMeth h q := by
  have e := X 108 _ (by with_unfolding_all rfl)
  exact ⟨_, _, 108, _, _, (N _ hq).1, rfl, rfl, rfl, F.keep _ _ e, rfl⟩

/- the state of a loop over the stream: the line ln, the place li, the frame m -/
inductive CitS (w : World) (h₀ : Heap) (L : Addr) (s : Shared) (I q pb x d sd st f cf la cA cT : Addr) (oD fo fobj ocf oA oT : Obj) (te t1 t2 t3 t4 u3 : Tok) (k n : Nat) (rest : List (Addr × Obj)) (ln : Int) (li : Nat) (m : Str → Option Value) (s' : Shared) : Prop
  | mk (h' : Heap) (tk' : Nat) (u1 u4 : Tok) (e : s' = { s with heap := h', toks := tk' }) (F : Fr h₀ L h' m)
    (N : News h₀ L h' ((I, citObj (.ref q) (.str Str.empty te) false) :: (q, methodObj (.ref 108) (.ref x)) :: (pb, listOf #[] k) :: (x, instObj 125 d) :: (d, dictOf [mcEnt w "lineno" t1 (.int ln u1), mcEnt w "instream" t2 (.ref st), mcEnt w "whitespace" t3 (.str (Str.ofString "\n\t\r ") u3), mcEnt w "pushback" t4 (.ref pb)] 4) :: (sd, oD) :: (st, fo) :: (f, fobj) :: (cf, ocf) :: (la, listOf #[.int (li : Nat) u4] n) :: (cA, oA) :: (cT, oT) :: rest))
namespace For_cit
noncomputable def S (w : World) (p : Program) (loose : List Str) (mean : ExcName → Option Value) (mg : Str → Option Value) (mb : Str → Option Value) (text : Str) (pb : Addr) (x : Addr) (d : Addr) (sd : Addr) (st : Addr) (f : Addr) (cf : Addr) (la : Addr) (cA : Addr) (cT : Addr) (oD : Obj) (fo : Obj) (fobj : Obj) (ocf : Obj) (oA : Obj) (oT : Obj) (dp : Nat) (un : Nat) (gd : Option (List Code)) (cn : Str) (cs : Scope) (a : Addr) (ccd : Value) (cl : List (Str × Addr)) (outer : List Env) (A₀ : Around) (base : Heap) (h₀ : Heap) (env : Env) (m₀ : Str → Option Value) (rest : List (Addr × Obj)) (s : Shared) (xn : Str) (px : Pos) (pos : Pos) (iter : Expr) (body : List Stmt) (Q : Flow → Shared → Prop) (E : Value → Shared → Prop) (I : Addr) (q : Addr) (k : Nat) (n : Nat) (t1 : Tok) (t2 : Tok) (t3 : Tok) (t4 : Tok) (te : Tok) (u3 : Tok) (i0 : Nat) (lnAt : Nat → Int) (J : Nat → (Str → Option Value) → Prop) : Prop :=
  ∀ (Mx : Mach w p loose mean mg mb text pb x d sd st f cf la cA cT oD fo fobj ocf oA oT)  (zne : ∀ q ∈ rest, @Ne Nat q.1 la)  (zne2 : ∀ q ∈ rest, @Ne Nat q.1 d)  (zI : ∀ q ∈ rest, @Ne Nat q.1 I)  (hq1 : @LT.lt Nat _ pb q)  (hq2 : @LT.lt Nat _ q I)  (hsz : text.length ≤ 900)  (hi0 : i0 ≤ text.length)  (hx : env.kindOf xn = some .local)  (hp : (env.scope.kind == .class || (env.scope.kind == .module && env.locals != env.globals)) = false)  (B : Below A₀ base outer h₀)  (X : (hd.heap_39 w.params).In h₀)  (T : Top p loose mean mg mb h₀)  (hk : cs.kind = .function)  (hd : dp + 10 < recursionLimit)  (hu : un + 200 < cLine)  (hln : ∀ j c, text.cps[i0 + j]? = some c → lnAt (j + 1) = lnF (lnAt j) ⟨#[c]⟩)  (h : wpAny (model prg w) (ktrTop dp un gd cn cs env.locals a ccd cl outer) (eval iter env) (fun xv s₁ => xv = .ref I ∧ CitS w h₀ env.locals s I q pb x d sd st f cf la cA cT oD fo fobj ocf oA oT te t1 t2 t3 t4 u3 k n rest (lnAt 0) i0 m₀ s₁ ∧ J 0 m₀) E s)  (turn : ∀ j c m₁ u1 u4 u h tk, J j m₁ → text.cps[i0 + j]? = some c → Fr h₀ env.locals h (fun z => if z = xn then some (.str ⟨#[c]⟩ u) else m₁ z) → News h₀ env.locals h ((I, citObj (.ref q) (.str Str.empty te) false) :: (q, methodObj (.ref 108) (.ref x)) :: (pb, listOf #[] k) :: (x, instObj 125 d) :: (d, dictOf [mcEnt w "lineno" t1 (.int (lnAt (j + 1)) u1), mcEnt w "instream" t2 (.ref st), mcEnt w "whitespace" t3 (.str (Str.ofString "\n\t\r ") u3), mcEnt w "pushback" t4 (.ref pb)] 4) :: (sd, oD) :: (st, fo) :: (f, fobj) :: (cf, ocf) :: (la, listOf #[.int (i0 + (j + 1) : Nat) u4] n) :: (cA, oA) :: (cT, oT) :: rest) →
      wpAny (model prg w) (ktrTop dp un gd cn cs env.locals a ccd cl outer) (execs body env) (fun fl s₂ => match fl with
        | .ret v => Q (.ret v) s₂
        | .brk => False
        | _ => ∃ m', CitS w h₀ env.locals s I q pb x d sd st f cf la cA cT oD fo fobj ocf oA oT te t1 t2 t3 t4 u3 k n rest (lnAt (j + 1)) (i0 + (j + 1)) m' s₂ ∧ J (j + 1) m') E { s with heap := h, toks := tk })  (done : ∀ j m₁ u1 u4 h tk, J j m₁ → text.cps[i0 + j]? = none → Fr h₀ env.locals h m₁ → News h₀ env.locals h ((I, citObj .none .none true) :: (q, methodObj (.ref 108) (.ref x)) :: (pb, listOf #[] k) :: (x, instObj 125 d) :: (d, dictOf [mcEnt w "lineno" t1 (.int (lnAt j) u1), mcEnt w "instream" t2 (.ref st), mcEnt w "whitespace" t3 (.str (Str.ofString "\n\t\r ") u3), mcEnt w "pushback" t4 (.ref pb)] 4) :: (sd, oD) :: (st, fo) :: (f, fobj) :: (cf, ocf) :: (la, listOf #[.int (i0 + j : Nat) u4] n) :: (cA, oA) :: (cT, oT) :: rest) → Q .next { s with heap := h, toks := tk })  (hs : ∀ x, foldedSetIterable iter env x = pure x)  (hE : PassesOwn (model prg w) (ktrTop dp un gd cn cs env.locals a ccd cl outer) env E),
    wpAny (model prg w) (ktrTop dp un gd cn cs env.locals a ccd cl outer) (exec (.For (.Name xn px) iter body [] pos) env) Q E s
theorem c₁ : Nonempty {t : World × Program × (List Str) × (ExcName → Option Value) × (Str → Option Value) × (Str → Option Value) × Str × Addr × Addr × Addr × Addr × Addr × Addr × Addr × Addr × Addr × Addr × Obj × Obj × Obj × Obj × Obj × Obj × Nat × Nat × (Option (List Code)) × Str × Scope × Addr × Value × (List (Str × Addr)) × (List Env) × Around × Heap × Heap × Env × (Str → Option Value) × (List (Addr × Obj)) × Shared × Str × Pos × Pos × Expr × (List Stmt) × (Flow → Shared → Prop) × (Value → Shared → Prop) × Addr × Addr × Nat × Nat × Tok × Tok × Tok × Tok × Tok × Tok × Nat × (Nat → Int) × (Nat → (Str → Option Value) → Prop) // S t.1 t.2.1 t.2.2.1 t.2.2.2.1 t.2.2.2.2.1 t.2.2.2.2.2.1 t.2.2.2.2.2.2.1 t.2.2.2.2.2.2.2.1 t.2.2.2.2.2.2.2.2.1 t.2.2.2.2.2.2.2.2.2.1 t.2.2.2.2.2.2.2.2.2.2.1 t.2.2.2.2.2.2.2.2.2.2.2.1 t.2.2.2.2.2.2.2.2.2.2.2.2.1 t.2.2.2.2.2.2.2.2.2.2.2.2.2.1 t.2.2.2.2.2.2.2.2.2.2.2.2.2.2.1 t.2.2.2.2.2.2.2.2.2.2.2.2.2.2.2.1 t.2.2.2.2.2.2.2.2.2.2.2.2.2.2.2.2.1 t.2.2.2.2.2.2.2.2.2.2.2.2.2.2.2.2.2.1 t.2.2.2.2.2.2.2.2.2.2.2.2.2.2.2.2.2.2.1 t.2.2.2.2.2.2.2.2.2.2.2.2.2.2.2.2.2.2.2.1 t.2.2.2.2.2.2.2.2.2.2.2.2.2.2.2.2.2.2.2.2.1 t.2.2.2.2.2.2.2.2.2.2.2.2.2.2.2.2.2.2.2.2.2.1 t.2.2.2.2.2.2.2.2.2.2.2.2.2.2.2.2.2.2.2.2.2.2.1 t.2.2.2.2.2.2.2.2.2.2.2.2.2.2.2.2.2.2.2.2.2.2.2.1 t.2.2.2.2.2.2.2.2.2.2.2.2.2.2.2.2.2.2.2.2.2.2.2.2.1 t.2.2.2.2.2.2.2.2.2.2.2.2.2.2.2.2.2.2.2.2.2.2.2.2.2.1 t.2.2.2.2.2.2.2.2.2.2.2.2.2.2.2.2.2.2.2.2.2.2.2.2.2.2.1 t.2.2.2.2.2.2.2.2.2.2.2.2.2.2.2.2.2.2.2.2.2.2.2.2.2.2.2.1 t.2.2.2.2.2.2.2.2.2.2.2.2.2.2.2.2.2.2.2.2.2.2.2.2.2.2.2.2.1 t.2.2.2.2.2.2.2.2.2.2.2.2.2.2.2.2.2.2.2.2.2.2.2.2.2.2.2.2.2.1 t.2.2.2.2.2.2.2.2.2.2.2.2.2.2.2.2.2.2.2.2.2.2.2.2.2.2.2.2.2.2.1 t.2.2.2.2.2.2.2.2.2.2.2.2.2.2.2.2.2.2.2.2.2.2.2.2.2.2.2.2.2.2.2.1 t.2.2.2.2.2.2.2.2.2.2.2.2.2.2.2.2.2.2.2.2.2.2.2.2.2.2.2.2.2.2.2.2.1 t.2.2.2.2.2.2.2.2.2.2.2.2.2.2.2.2.2.2.2.2.2.2.2.2.2.2.2.2.2.2.2.2.2.1 t.2.2.2.2.2.2.2.2.2.2.2.2.2.2.2.2.2.2.2.2.2.2.2.2.2.2.2.2.2.2.2.2.2.2.1 t.2.2.2.2.2.2.2.2.2.2.2.2.2.2.2.2.2.2.2.2.2.2.2.2.2.2.2.2.2.2.2.2.2.2.2.1 t.2.2.2.2.2.2.2.2.2.2.2.2.2.2.2.2.2.2.2.2.2.2.2.2.2.2.2.2.2.2.2.2.2.2.2.2.1 t.2.2.2.2.2.2.2.2.2.2.2.2.2.2.2.2.2.2.2.2.2.2.2.2.2.2.2.2.2.2.2.2.2.2.2.2.2.1 t.2.2.2.2.2.2.2.2.2.2.2.2.2.2.2.2.2.2.2.2.2.2.2.2.2.2.2.2.2.2.2.2.2.2.2.2.2.2.1 t.2.2.2.2.2.2.2.2.2.2.2.2.2.2.2.2.2.2.2.2.2.2.2.2.2.2.2.2.2.2.2.2.2.2.2.2.2.2.2.1 t.2.2.2.2.2.2.2.2.2.2.2.2.2.2.2.2.2.2.2.2.2.2.2.2.2.2.2.2.2.2.2.2.2.2.2.2.2.2.2.2.1 t.2.2.2.2.2.2.2.2.2.2.2.2.2.2.2.2.2.2.2.2.2.2.2.2.2.2.2.2.2.2.2.2.2.2.2.2.2.2.2.2.2.1 t.2.2.2.2.2.2.2.2.2.2.2.2.2.2.2.2.2.2.2.2.2.2.2.2.2.2.2.2.2.2.2.2.2.2.2.2.2.2.2.2.2.2.1 t.2.2.2.2.2.2.2.2.2.2.2.2.2.2.2.2.2.2.2.2.2.2.2.2.2.2.2.2.2.2.2.2.2.2.2.2.2.2.2.2.2.2.2.1 t.2.2.2.2.2.2.2.2.2.2.2.2.2.2.2.2.2.2.2.2.2.2.2.2.2.2.2.2.2.2.2.2.2.2.2.2.2.2.2.2.2.2.2.2.1 t.2.2.2.2.2.2.2.2.2.2.2.2.2.2.2.2.2.2.2.2.2.2.2.2.2.2.2.2.2.2.2.2.2.2.2.2.2.2.2.2.2.2.2.2.2.1 t.2.2.2.2.2.2.2.2.2.2.2.2.2.2.2.2.2.2.2.2.2.2.2.2.2.2.2.2.2.2.2.2.2.2.2.2.2.2.2.2.2.2.2.2.2.2.1 t.2.2.2.2.2.2.2.2.2.2.2.2.2.2.2.2.2.2.2.2.2.2.2.2.2.2.2.2.2.2.2.2.2.2.2.2.2.2.2.2.2.2.2.2.2.2.2.1 t.2.2.2.2.2.2.2.2.2.2.2.2.2.2.2.2.2.2.2.2.2.2.2.2.2.2.2.2.2.2.2.2.2.2.2.2.2.2.2.2.2.2.2.2.2.2.2.2.1 t.2.2.2.2.2.2.2.2.2.2.2.2.2.2.2.2.2.2.2.2.2.2.2.2.2.2.2.2.2.2.2.2.2.2.2.2.2.2.2.2.2.2.2.2.2.2.2.2.2.1 t.2.2.2.2.2.2.2.2.2.2.2.2.2.2.2.2.2.2.2.2.2.2.2.2.2.2.2.2.2.2.2.2.2.2.2.2.2.2.2.2.2.2.2.2.2.2.2.2.2.2.1 t.2.2.2.2.2.2.2.2.2.2.2.2.2.2.2.2.2.2.2.2.2.2.2.2.2.2.2.2.2.2.2.2.2.2.2.2.2.2.2.2.2.2.2.2.2.2.2.2.2.2.2.1 t.2.2.2.2.2.2.2.2.2.2.2.2.2.2.2.2.2.2.2.2.2.2.2.2.2.2.2.2.2.2.2.2.2.2.2.2.2.2.2.2.2.2.2.2.2.2.2.2.2.2.2.2.1 t.2.2.2.2.2.2.2.2.2.2.2.2.2.2.2.2.2.2.2.2.2.2.2.2.2.2.2.2.2.2.2.2.2.2.2.2.2.2.2.2.2.2.2.2.2.2.2.2.2.2.2.2.2.1 t.2.2.2.2.2.2.2.2.2.2.2.2.2.2.2.2.2.2.2.2.2.2.2.2.2.2.2.2.2.2.2.2.2.2.2.2.2.2.2.2.2.2.2.2.2.2.2.2.2.2.2.2.2.2.1 t.2.2.2.2.2.2.2.2.2.2.2.2.2.2.2.2.2.2.2.2.2.2.2.2.2.2.2.2.2.2.2.2.2.2.2.2.2.2.2.2.2.2.2.2.2.2.2.2.2.2.2.2.2.2.2.1 t.2.2.2.2.2.2.2.2.2.2.2.2.2.2.2.2.2.2.2.2.2.2.2.2.2.2.2.2.2.2.2.2.2.2.2.2.2.2.2.2.2.2.2.2.2.2.2.2.2.2.2.2.2.2.2.2.1 t.2.2.2.2.2.2.2.2.2.2.2.2.2.2.2.2.2.2.2.2.2.2.2.2.2.2.2.2.2.2.2.2.2.2.2.2.2.2.2.2.2.2.2.2.2.2.2.2.2.2.2.2.2.2.2.2.2.1 t.2.2.2.2.2.2.2.2.2.2.2.2.2.2.2.2.2.2.2.2.2.2.2.2.2.2.2.2.2.2.2.2.2.2.2.2.2.2.2.2.2.2.2.2.2.2.2.2.2.2.2.2.2.2.2.2.2.2 → ∀ t : World × Program × (List Str) × (ExcName → Option Value) × (Str → Option Value) × (Str → Option Value) × Str × Addr × Addr × Addr × Addr × Addr × Addr × Addr × Addr × Addr × Addr × Obj × Obj × Obj × Obj × Obj × Obj × Nat × Nat × (Option (List Code)) × Str × Scope × Addr × Value × (List (Str × Addr)) × (List Env) × Around × Heap × Heap × Env × (Str → Option Value) × (List (Addr × Obj)) × Shared × Str × Pos × Pos × Expr × (List Stmt) × (Flow → Shared → Prop) × (Value → Shared → Prop) × Addr × Addr × Nat × Nat × Tok × Tok × Tok × Tok × Tok × Tok × Nat × (Nat → Int) × (Nat → (Str → Option Value) → Prop), S t.1 t.2.1 t.2.2.1 t.2.2.2.1 t.2.2.2.2.1 t.2.2.2.2.2.1 t.2.2.2.2.2.2.1 t.2.2.2.2.2.2.2.1 t.2.2.2.2.2.2.2.2.1 t.2.2.2.2.2.2.2.2.2.1 t.2.2.2.2.2.2.2.2.2.2.1 t.2.2.2.2.2.2.2.2.2.2.2.1 t.2.2.2.2.2.2.2.2.2.2.2.2.1 t.2.2.2.2.2.2.2.2.2.2.2.2.2.1 t.2.2.2.2.2.2.2.2.2.2.2.2.2.2.1 t.2.2.2.2.2.2.2.2.2.2.2.2.2.2.2.1 t.2.2.2.2.2.2.2.2.2.2.2.2.2.2.2.2.1 t.2.2.2.2.2.2.2.2.2.2.2.2.2.2.2.2.2.1 t.2.2.2.2.2.2.2.2.2.2.2.2.2.2.2.2.2.2.1 t.2.2.2.2.2.2.2.2.2.2.2.2.2.2.2.2.2.2.2.1 t.2.2.2.2.2.2.2.2.2.2.2.2.2.2.2.2.2.2.2.2.1 t.2.2.2.2.2.2.2.2.2.2.2.2.2.2.2.2.2.2.2.2.2.1 t.2.2.2.2.2.2.2.2.2.2.2.2.2.2.2.2.2.2.2.2.2.2.1 t.2.2.2.2.2.2.2.2.2.2.2.2.2.2.2.2.2.2.2.2.2.2.2.1 t.2.2.2.2.2.2.2.2.2.2.2.2.2.2.2.2.2.2.2.2.2.2.2.2.1 t.2.2.2.2.2.2.2.2.2.2.2.2.2.2.2.2.2.2.2.2.2.2.2.2.2.1 t.2.2.2.2.2.2.2.2.2.2.2.2.2.2.2.2.2.2.2.2.2.2.2.2.2.2.1 t.2.2.2.2.2.2.2.2.2.2.2.2.2.2.2.2.2.2.2.2.2.2.2.2.2.2.2.1 t.2.2.2.2.2.2.2.2.2.2.2.2.2.2.2.2.2.2.2.2.2.2.2.2.2.2.2.2.1 t.2.2.2.2.2.2.2.2.2.2.2.2.2.2.2.2.2.2.2.2.2.2.2.2.2.2.2.2.2.1 t.2.2.2.2.2.2.2.2.2.2.2.2.2.2.2.2.2.2.2.2.2.2.2.2.2.2.2.2.2.2.1 t.2.2.2.2.2.2.2.2.2.2.2.2.2.2.2.2.2.2.2.2.2.2.2.2.2.2.2.2.2.2.2.1 t.2.2.2.2.2.2.2.2.2.2.2.2.2.2.2.2.2.2.2.2.2.2.2.2.2.2.2.2.2.2.2.2.1 t.2.2.2.2.2.2.2.2.2.2.2.2.2.2.2.2.2.2.2.2.2.2.2.2.2.2.2.2.2.2.2.2.2.1 t.2.2.2.2.2.2.2.2.2.2.2.2.2.2.2.2.2.2.2.2.2.2.2.2.2.2.2.2.2.2.2.2.2.2.1 t.2.2.2.2.2.2.2.2.2.2.2.2.2.2.2.2.2.2.2.2.2.2.2.2.2.2.2.2.2.2.2.2.2.2.2.1 t.2.2.2.2.2.2.2.2.2.2.2.2.2.2.2.2.2.2.2.2.2.2.2.2.2.2.2.2.2.2.2.2.2.2.2.2.1 t.2.2.2.2.2.2.2.2.2.2.2.2.2.2.2.2.2.2.2.2.2.2.2.2.2.2.2.2.2.2.2.2.2.2.2.2.2.1 t.2.2.2.2.2.2.2.2.2.2.2.2.2.2.2.2.2.2.2.2.2.2.2.2.2.2.2.2.2.2.2.2.2.2.2.2.2.2.1 t.2.2.2.2.2.2.2.2.2.2.2.2.2.2.2.2.2.2.2.2.2.2.2.2.2.2.2.2.2.2.2.2.2.2.2.2.2.2.2.1 t.2.2.2.2.2.2.2.2.2.2.2.2.2.2.2.2.2.2.2.2.2.2.2.2.2.2.2.2.2.2.2.2.2.2.2.2.2.2.2.2.1 t.2.2.2.2.2.2.2.2.2.2.2.2.2.2.2.2.2.2.2.2.2.2.2.2.2.2.2.2.2.2.2.2.2.2.2.2.2.2.2.2.2.1 t.2.2.2.2.2.2.2.2.2.2.2.2.2.2.2.2.2.2.2.2.2.2.2.2.2.2.2.2.2.2.2.2.2.2.2.2.2.2.2.2.2.2.1 t.2.2.2.2.2.2.2.2.2.2.2.2.2.2.2.2.2.2.2.2.2.2.2.2.2.2.2.2.2.2.2.2.2.2.2.2.2.2.2.2.2.2.2.1 t.2.2.2.2.2.2.2.2.2.2.2.2.2.2.2.2.2.2.2.2.2.2.2.2.2.2.2.2.2.2.2.2.2.2.2.2.2.2.2.2.2.2.2.2.1 t.2.2.2.2.2.2.2.2.2.2.2.2.2.2.2.2.2.2.2.2.2.2.2.2.2.2.2.2.2.2.2.2.2.2.2.2.2.2.2.2.2.2.2.2.2.1 t.2.2.2.2.2.2.2.2.2.2.2.2.2.2.2.2.2.2.2.2.2.2.2.2.2.2.2.2.2.2.2.2.2.2.2.2.2.2.2.2.2.2.2.2.2.2.1 t.2.2.2.2.2.2.2.2.2.2.2.2.2.2.2.2.2.2.2.2.2.2.2.2.2.2.2.2.2.2.2.2.2.2.2.2.2.2.2.2.2.2.2.2.2.2.2.1 t.2.2.2.2.2.2.2.2.2.2.2.2.2.2.2.2.2.2.2.2.2.2.2.2.2.2.2.2.2.2.2.2.2.2.2.2.2.2.2.2.2.2.2.2.2.2.2.2.1 t.2.2.2.2.2.2.2.2.2.2.2.2.2.2.2.2.2.2.2.2.2.2.2.2.2.2.2.2.2.2.2.2.2.2.2.2.2.2.2.2.2.2.2.2.2.2.2.2.2.1 t.2.2.2.2.2.2.2.2.2.2.2.2.2.2.2.2.2.2.2.2.2.2.2.2.2.2.2.2.2.2.2.2.2.2.2.2.2.2.2.2.2.2.2.2.2.2.2.2.2.2.1 t.2.2.2.2.2.2.2.2.2.2.2.2.2.2.2.2.2.2.2.2.2.2.2.2.2.2.2.2.2.2.2.2.2.2.2.2.2.2.2.2.2.2.2.2.2.2.2.2.2.2.2.1 t.2.2.2.2.2.2.2.2.2.2.2.2.2.2.2.2.2.2.2.2.2.2.2.2.2.2.2.2.2.2.2.2.2.2.2.2.2.2.2.2.2.2.2.2.2.2.2.2.2.2.2.2.1 t.2.2.2.2.2.2.2.2.2.2.2.2.2.2.2.2.2.2.2.2.2.2.2.2.2.2.2.2.2.2.2.2.2.2.2.2.2.2.2.2.2.2.2.2.2.2.2.2.2.2.2.2.2.1 t.2.2.2.2.2.2.2.2.2.2.2.2.2.2.2.2.2.2.2.2.2.2.2.2.2.2.2.2.2.2.2.2.2.2.2.2.2.2.2.2.2.2.2.2.2.2.2.2.2.2.2.2.2.2.1 t.2.2.2.2.2.2.2.2.2.2.2.2.2.2.2.2.2.2.2.2.2.2.2.2.2.2.2.2.2.2.2.2.2.2.2.2.2.2.2.2.2.2.2.2.2.2.2.2.2.2.2.2.2.2.2.1 t.2.2.2.2.2.2.2.2.2.2.2.2.2.2.2.2.2.2.2.2.2.2.2.2.2.2.2.2.2.2.2.2.2.2.2.2.2.2.2.2.2.2.2.2.2.2.2.2.2.2.2.2.2.2.2.2.1 t.2.2.2.2.2.2.2.2.2.2.2.2.2.2.2.2.2.2.2.2.2.2.2.2.2.2.2.2.2.2.2.2.2.2.2.2.2.2.2.2.2.2.2.2.2.2.2.2.2.2.2.2.2.2.2.2.2.1 t.2.2.2.2.2.2.2.2.2.2.2.2.2.2.2.2.2.2.2.2.2.2.2.2.2.2.2.2.2.2.2.2.2.2.2.2.2.2.2.2.2.2.2.2.2.2.2.2.2.2.2.2.2.2.2.2.2.2} := eps_ex ⟨(⟨fun _ _ => 0, { strHash := fun _ => 0, shareClass := fun _ => 0, mergeTok := fun _ => default, idOf := fun _ => 0, idOfShared := fun _ _ => 0, followText := fun _ => true, idOfImm := fun _ => 0 }⟩, default, default, default, default, default, default, default, default, default, default, default, default, default, default, default, default, default, default, default, default, default, default, default, default, default, default, default, default, default, default, default, {}, default, default, default, default, default, {}, default, default, default, default, default, default, default, default, default, default, default, default, default, default, default, default, default, default, default, default)⟩ fun t => S t.1 t.2.1 t.2.2.1 t.2.2.2.1 t.2.2.2.2.1 t.2.2.2.2.2.1 t.2.2.2.2.2.2.1 t.2.2.2.2.2.2.2.1 t.2.2.2.2.2.2.2.2.1 t.2.2.2.2.2.2.2.2.2.1 t.2.2.2.2.2.2.2.2.2.2.1 t.2.2.2.2.2.2.2.2.2.2.2.1 t.2.2.2.2.2.2.2.2.2.2.2.2.1 t.2.2.2.2.2.2.2.2.2.2.2.2.2.1 t.2.2.2.2.2.2.2.2.2.2.2.2.2.2.1 t.2.2.2.2.2.2.2.2.2.2.2.2.2.2.2.1 t.2.2.2.2.2.2.2.2.2.2.2.2.2.2.2.2.1 t.2.2.2.2.2.2.2.2.2.2.2.2.2.2.2.2.2.1 t.2.2.2.2.2.2.2.2.2.2.2.2.2.2.2.2.2.2.1 t.2.2.2.2.2.2.2.2.2.2.2.2.2.2.2.2.2.2.2.1 t.2.2.2.2.2.2.2.2.2.2.2.2.2.2.2.2.2.2.2.2.1 t.2.2.2.2.2.2.2.2.2.2.2.2.2.2.2.2.2.2.2.2.2.1 t.2.2.2.2.2.2.2.2.2.2.2.2.2.2.2.2.2.2.2.2.2.2.1 t.2.2.2.2.2.2.2.2.2.2.2.2.2.2.2.2.2.2.2.2.2.2.2.1 t.2.2.2.2.2.2.2.2.2.2.2.2.2.2.2.2.2.2.2.2.2.2.2.2.1 t.2.2.2.2.2.2.2.2.2.2.2.2.2.2.2.2.2.2.2.2.2.2.2.2.2.1 t.2.2.2.2.2.2.2.2.2.2.2.2.2.2.2.2.2.2.2.2.2.2.2.2.2.2.1 t.2.2.2.2.2.2.2.2.2.2.2.2.2.2.2.2.2.2.2.2.2.2.2.2.2.2.2.1 t.2.2.2.2.2.2.2.2.2.2.2.2.2.2.2.2.2.2.2.2.2.2.2.2.2.2.2.2.1 t.2.2.2.2.2.2.2.2.2.2.2.2.2.2.2.2.2.2.2.2.2.2.2.2.2.2.2.2.2.1 t.2.2.2.2.2.2.2.2.2.2.2.2.2.2.2.2.2.2.2.2.2.2.2.2.2.2.2.2.2.2.1 t.2.2.2.2.2.2.2.2.2.2.2.2.2.2.2.2.2.2.2.2.2.2.2.2.2.2.2.2.2.2.2.1 t.2.2.2.2.2.2.2.2.2.2.2.2.2.2.2.2.2.2.2.2.2.2.2.2.2.2.2.2.2.2.2.2.1 t.2.2.2.2.2.2.2.2.2.2.2.2.2.2.2.2.2.2.2.2.2.2.2.2.2.2.2.2.2.2.2.2.2.1 t.2.2.2.2.2.2.2.2.2.2.2.2.2.2.2.2.2.2.2.2.2.2.2.2.2.2.2.2.2.2.2.2.2.2.1 t.2.2.2.2.2.2.2.2.2.2.2.2.2.2.2.2.2.2.2.2.2.2.2.2.2.2.2.2.2.2.2.2.2.2.2.1 t.2.2.2.2.2.2.2.2.2.2.2.2.2.2.2.2.2.2.2.2.2.2.2.2.2.2.2.2.2.2.2.2.2.2.2.2.1 t.2.2.2.2.2.2.2.2.2.2.2.2.2.2.2.2.2.2.2.2.2.2.2.2.2.2.2.2.2.2.2.2.2.2.2.2.2.1 t.2.2.2.2.2.2.2.2.2.2.2.2.2.2.2.2.2.2.2.2.2.2.2.2.2.2.2.2.2.2.2.2.2.2.2.2.2.2.1 t.2.2.2.2.2.2.2.2.2.2.2.2.2.2.2.2.2.2.2.2.2.2.2.2.2.2.2.2.2.2.2.2.2.2.2.2.2.2.2.1 t.2.2.2.2.2.2.2.2.2.2.2.2.2.2.2.2.2.2.2.2.2.2.2.2.2.2.2.2.2.2.2.2.2.2.2.2.2.2.2.2.1 t.2.2.2.2.2.2.2.2.2.2.2.2.2.2.2.2.2.2.2.2.2.2.2.2.2.2.2.2.2.2.2.2.2.2.2.2.2.2.2.2.2.1 t.2.2.2.2.2.2.2.2.2.2.2.2.2.2.2.2.2.2.2.2.2.2.2.2.2.2.2.2.2.2.2.2.2.2.2.2.2.2.2.2.2.2.1 t.2.2.2.2.2.2.2.2.2.2.2.2.2.2.2.2.2.2.2.2.2.2.2.2.2.2.2.2.2.2.2.2.2.2.2.2.2.2.2.2.2.2.2.1 t.2.2.2.2.2.2.2.2.2.2.2.2.2.2.2.2.2.2.2.2.2.2.2.2.2.2.2.2.2.2.2.2.2.2.2.2.2.2.2.2.2.2.2.2.1 t.2.2.2.2.2.2.2.2.2.2.2.2.2.2.2.2.2.2.2.2.2.2.2.2.2.2.2.2.2.2.2.2.2.2.2.2.2.2.2.2.2.2.2.2.2.1 t.2.2.2.2.2.2.2.2.2.2.2.2.2.2.2.2.2.2.2.2.2.2.2.2.2.2.2.2.2.2.2.2.2.2.2.2.2.2.2.2.2.2.2.2.2.2.1 t.2.2.2.2.2.2.2.2.2.2.2.2.2.2.2.2.2.2.2.2.2.2.2.2.2.2.2.2.2.2.2.2.2.2.2.2.2.2.2.2.2.2.2.2.2.2.2.1 t.2.2.2.2.2.2.2.2.2.2.2.2.2.2.2.2.2.2.2.2.2.2.2.2.2.2.2.2.2.2.2.2.2.2.2.2.2.2.2.2.2.2.2.2.2.2.2.2.1 t.2.2.2.2.2.2.2.2.2.2.2.2.2.2.2.2.2.2.2.2.2.2.2.2.2.2.2.2.2.2.2.2.2.2.2.2.2.2.2.2.2.2.2.2.2.2.2.2.2.1 t.2.2.2.2.2.2.2.2.2.2.2.2.2.2.2.2.2.2.2.2.2.2.2.2.2.2.2.2.2.2.2.2.2.2.2.2.2.2.2.2.2.2.2.2.2.2.2.2.2.2.1 t.2.2.2.2.2.2.2.2.2.2.2.2.2.2.2.2.2.2.2.2.2.2.2.2.2.2.2.2.2.2.2.2.2.2.2.2.2.2.2.2.2.2.2.2.2.2.2.2.2.2.2.1 t.2.2.2.2.2.2.2.2.2.2.2.2.2.2.2.2.2.2.2.2.2.2.2.2.2.2.2.2.2.2.2.2.2.2.2.2.2.2.2.2.2.2.2.2.2.2.2.2.2.2.2.2.1 t.2.2.2.2.2.2.2.2.2.2.2.2.2.2.2.2.2.2.2.2.2.2.2.2.2.2.2.2.2.2.2.2.2.2.2.2.2.2.2.2.2.2.2.2.2.2.2.2.2.2.2.2.2.1 t.2.2.2.2.2.2.2.2.2.2.2.2.2.2.2.2.2.2.2.2.2.2.2.2.2.2.2.2.2.2.2.2.2.2.2.2.2.2.2.2.2.2.2.2.2.2.2.2.2.2.2.2.2.2.1 t.2.2.2.2.2.2.2.2.2.2.2.2.2.2.2.2.2.2.2.2.2.2.2.2.2.2.2.2.2.2.2.2.2.2.2.2.2.2.2.2.2.2.2.2.2.2.2.2.2.2.2.2.2.2.2.1 t.2.2.2.2.2.2.2.2.2.2.2.2.2.2.2.2.2.2.2.2.2.2.2.2.2.2.2.2.2.2.2.2.2.2.2.2.2.2.2.2.2.2.2.2.2.2.2.2.2.2.2.2.2.2.2.2.1 t.2.2.2.2.2.2.2.2.2.2.2.2.2.2.2.2.2.2.2.2.2.2.2.2.2.2.2.2.2.2.2.2.2.2.2.2.2.2.2.2.2.2.2.2.2.2.2.2.2.2.2.2.2.2.2.2.2.1 t.2.2.2.2.2.2.2.2.2.2.2.2.2.2.2.2.2.2.2.2.2.2.2.2.2.2.2.2.2.2.2.2.2.2.2.2.2.2.2.2.2.2.2.2.2.2.2.2.2.2.2.2.2.2.2.2.2.2
noncomputable def c₀ : World × Program × (List Str) × (ExcName → Option Value) × (Str → Option Value) × (Str → Option Value) × Str × Addr × Addr × Addr × Addr × Addr × Addr × Addr × Addr × Addr × Addr × Obj × Obj × Obj × Obj × Obj × Obj × Nat × Nat × (Option (List Code)) × Str × Scope × Addr × Value × (List (Str × Addr)) × (List Env) × Around × Heap × Heap × Env × (Str → Option Value) × (List (Addr × Obj)) × Shared × Str × Pos × Pos × Expr × (List Stmt) × (Flow → Shared → Prop) × (Value → Shared → Prop) × Addr × Addr × Nat × Nat × Tok × Tok × Tok × Tok × Tok × Tok × Nat × (Nat → Int) × (Nat → (Str → Option Value) → Prop) := (Classical.choice c₁).val
noncomputable def w : World := c₀.1
noncomputable def p : Program := c₀.2.1
noncomputable def loose : List Str := c₀.2.2.1
noncomputable def mean : ExcName → Option Value := c₀.2.2.2.1
noncomputable def mg : Str → Option Value := c₀.2.2.2.2.1
noncomputable def mb : Str → Option Value := c₀.2.2.2.2.2.1
noncomputable def text : Str := c₀.2.2.2.2.2.2.1
noncomputable def pb : Addr := c₀.2.2.2.2.2.2.2.1
noncomputable def x : Addr := c₀.2.2.2.2.2.2.2.2.1
noncomputable def d : Addr := c₀.2.2.2.2.2.2.2.2.2.1
noncomputable def sd : Addr := c₀.2.2.2.2.2.2.2.2.2.2.1
noncomputable def st : Addr := c₀.2.2.2.2.2.2.2.2.2.2.2.1
noncomputable def f : Addr := c₀.2.2.2.2.2.2.2.2.2.2.2.2.1
noncomputable def cf : Addr := c₀.2.2.2.2.2.2.2.2.2.2.2.2.2.1
noncomputable def la : Addr := c₀.2.2.2.2.2.2.2.2.2.2.2.2.2.2.1
noncomputable def cA : Addr := c₀.2.2.2.2.2.2.2.2.2.2.2.2.2.2.2.1
noncomputable def cT : Addr := c₀.2.2.2.2.2.2.2.2.2.2.2.2.2.2.2.2.1
noncomputable def oD : Obj := c₀.2.2.2.2.2.2.2.2.2.2.2.2.2.2.2.2.2.1
noncomputable def fo : Obj := c₀.2.2.2.2.2.2.2.2.2.2.2.2.2.2.2.2.2.2.1
noncomputable def fobj : Obj := c₀.2.2.2.2.2.2.2.2.2.2.2.2.2.2.2.2.2.2.2.1
noncomputable def ocf : Obj := c₀.2.2.2.2.2.2.2.2.2.2.2.2.2.2.2.2.2.2.2.2.1
noncomputable def oA : Obj := c₀.2.2.2.2.2.2.2.2.2.2.2.2.2.2.2.2.2.2.2.2.2.1
noncomputable def oT : Obj := c₀.2.2.2.2.2.2.2.2.2.2.2.2.2.2.2.2.2.2.2.2.2.2.1
noncomputable def dp : Nat := c₀.2.2.2.2.2.2.2.2.2.2.2.2.2.2.2.2.2.2.2.2.2.2.2.1
noncomputable def un : Nat := c₀.2.2.2.2.2.2.2.2.2.2.2.2.2.2.2.2.2.2.2.2.2.2.2.2.1
noncomputable def gd : Option (List Code) := c₀.2.2.2.2.2.2.2.2.2.2.2.2.2.2.2.2.2.2.2.2.2.2.2.2.2.1
noncomputable def cn : Str := c₀.2.2.2.2.2.2.2.2.2.2.2.2.2.2.2.2.2.2.2.2.2.2.2.2.2.2.1
noncomputable def cs : Scope := c₀.2.2.2.2.2.2.2.2.2.2.2.2.2.2.2.2.2.2.2.2.2.2.2.2.2.2.2.1
noncomputable def a : Addr := c₀.2.2.2.2.2.2.2.2.2.2.2.2.2.2.2.2.2.2.2.2.2.2.2.2.2.2.2.2.1
noncomputable def ccd : Value := c₀.2.2.2.2.2.2.2.2.2.2.2.2.2.2.2.2.2.2.2.2.2.2.2.2.2.2.2.2.2.1
noncomputable def cl : List (Str × Addr) := c₀.2.2.2.2.2.2.2.2.2.2.2.2.2.2.2.2.2.2.2.2.2.2.2.2.2.2.2.2.2.2.1
noncomputable def outer : List Env := c₀.2.2.2.2.2.2.2.2.2.2.2.2.2.2.2.2.2.2.2.2.2.2.2.2.2.2.2.2.2.2.2.1
noncomputable def A₀ : Around := c₀.2.2.2.2.2.2.2.2.2.2.2.2.2.2.2.2.2.2.2.2.2.2.2.2.2.2.2.2.2.2.2.2.1
noncomputable def base : Heap := c₀.2.2.2.2.2.2.2.2.2.2.2.2.2.2.2.2.2.2.2.2.2.2.2.2.2.2.2.2.2.2.2.2.2.1
noncomputable def h₀ : Heap := c₀.2.2.2.2.2.2.2.2.2.2.2.2.2.2.2.2.2.2.2.2.2.2.2.2.2.2.2.2.2.2.2.2.2.2.1
noncomputable def env : Env := c₀.2.2.2.2.2.2.2.2.2.2.2.2.2.2.2.2.2.2.2.2.2.2.2.2.2.2.2.2.2.2.2.2.2.2.2.1
noncomputable def m₀ : Str → Option Value := c₀.2.2.2.2.2.2.2.2.2.2.2.2.2.2.2.2.2.2.2.2.2.2.2.2.2.2.2.2.2.2.2.2.2.2.2.2.1
noncomputable def rest : List (Addr × Obj) := c₀.2.2.2.2.2.2.2.2.2.2.2.2.2.2.2.2.2.2.2.2.2.2.2.2.2.2.2.2.2.2.2.2.2.2.2.2.2.1
noncomputable def s : Shared := c₀.2.2.2.2.2.2.2.2.2.2.2.2.2.2.2.2.2.2.2.2.2.2.2.2.2.2.2.2.2.2.2.2.2.2.2.2.2.2.1
noncomputable def xn : Str := c₀.2.2.2.2.2.2.2.2.2.2.2.2.2.2.2.2.2.2.2.2.2.2.2.2.2.2.2.2.2.2.2.2.2.2.2.2.2.2.2.1
noncomputable def px : Pos := c₀.2.2.2.2.2.2.2.2.2.2.2.2.2.2.2.2.2.2.2.2.2.2.2.2.2.2.2.2.2.2.2.2.2.2.2.2.2.2.2.2.1
noncomputable def pos : Pos := c₀.2.2.2.2.2.2.2.2.2.2.2.2.2.2.2.2.2.2.2.2.2.2.2.2.2.2.2.2.2.2.2.2.2.2.2.2.2.2.2.2.2.1
noncomputable def iter : Expr := c₀.2.2.2.2.2.2.2.2.2.2.2.2.2.2.2.2.2.2.2.2.2.2.2.2.2.2.2.2.2.2.2.2.2.2.2.2.2.2.2.2.2.2.1
noncomputable def body : List Stmt := c₀.2.2.2.2.2.2.2.2.2.2.2.2.2.2.2.2.2.2.2.2.2.2.2.2.2.2.2.2.2.2.2.2.2.2.2.2.2.2.2.2.2.2.2.1
noncomputable def Q : Flow → Shared → Prop := c₀.2.2.2.2.2.2.2.2.2.2.2.2.2.2.2.2.2.2.2.2.2.2.2.2.2.2.2.2.2.2.2.2.2.2.2.2.2.2.2.2.2.2.2.2.1
noncomputable def E : Value → Shared → Prop := c₀.2.2.2.2.2.2.2.2.2.2.2.2.2.2.2.2.2.2.2.2.2.2.2.2.2.2.2.2.2.2.2.2.2.2.2.2.2.2.2.2.2.2.2.2.2.1
noncomputable def I : Addr := c₀.2.2.2.2.2.2.2.2.2.2.2.2.2.2.2.2.2.2.2.2.2.2.2.2.2.2.2.2.2.2.2.2.2.2.2.2.2.2.2.2.2.2.2.2.2.2.1
noncomputable def q : Addr := c₀.2.2.2.2.2.2.2.2.2.2.2.2.2.2.2.2.2.2.2.2.2.2.2.2.2.2.2.2.2.2.2.2.2.2.2.2.2.2.2.2.2.2.2.2.2.2.2.1
noncomputable def k : Nat := c₀.2.2.2.2.2.2.2.2.2.2.2.2.2.2.2.2.2.2.2.2.2.2.2.2.2.2.2.2.2.2.2.2.2.2.2.2.2.2.2.2.2.2.2.2.2.2.2.2.1
noncomputable def n : Nat := c₀.2.2.2.2.2.2.2.2.2.2.2.2.2.2.2.2.2.2.2.2.2.2.2.2.2.2.2.2.2.2.2.2.2.2.2.2.2.2.2.2.2.2.2.2.2.2.2.2.2.1
noncomputable def t1 : Tok := c₀.2.2.2.2.2.2.2.2.2.2.2.2.2.2.2.2.2.2.2.2.2.2.2.2.2.2.2.2.2.2.2.2.2.2.2.2.2.2.2.2.2.2.2.2.2.2.2.2.2.2.1
noncomputable def t2 : Tok := c₀.2.2.2.2.2.2.2.2.2.2.2.2.2.2.2.2.2.2.2.2.2.2.2.2.2.2.2.2.2.2.2.2.2.2.2.2.2.2.2.2.2.2.2.2.2.2.2.2.2.2.2.1
noncomputable def t3 : Tok := c₀.2.2.2.2.2.2.2.2.2.2.2.2.2.2.2.2.2.2.2.2.2.2.2.2.2.2.2.2.2.2.2.2.2.2.2.2.2.2.2.2.2.2.2.2.2.2.2.2.2.2.2.2.1
noncomputable def t4 : Tok := c₀.2.2.2.2.2.2.2.2.2.2.2.2.2.2.2.2.2.2.2.2.2.2.2.2.2.2.2.2.2.2.2.2.2.2.2.2.2.2.2.2.2.2.2.2.2.2.2.2.2.2.2.2.2.1
noncomputable def te : Tok := c₀.2.2.2.2.2.2.2.2.2.2.2.2.2.2.2.2.2.2.2.2.2.2.2.2.2.2.2.2.2.2.2.2.2.2.2.2.2.2.2.2.2.2.2.2.2.2.2.2.2.2.2.2.2.2.1
noncomputable def u3 : Tok := c₀.2.2.2.2.2.2.2.2.2.2.2.2.2.2.2.2.2.2.2.2.2.2.2.2.2.2.2.2.2.2.2.2.2.2.2.2.2.2.2.2.2.2.2.2.2.2.2.2.2.2.2.2.2.2.2.1
noncomputable def i0 : Nat := c₀.2.2.2.2.2.2.2.2.2.2.2.2.2.2.2.2.2.2.2.2.2.2.2.2.2.2.2.2.2.2.2.2.2.2.2.2.2.2.2.2.2.2.2.2.2.2.2.2.2.2.2.2.2.2.2.2.1
noncomputable def lnAt : Nat → Int := c₀.2.2.2.2.2.2.2.2.2.2.2.2.2.2.2.2.2.2.2.2.2.2.2.2.2.2.2.2.2.2.2.2.2.2.2.2.2.2.2.2.2.2.2.2.2.2.2.2.2.2.2.2.2.2.2.2.2.1
noncomputable def J : Nat → (Str → Option Value) → Prop := c₀.2.2.2.2.2.2.2.2.2.2.2.2.2.2.2.2.2.2.2.2.2.2.2.2.2.2.2.2.2.2.2.2.2.2.2.2.2.2.2.2.2.2.2.2.2.2.2.2.2.2.2.2.2.2.2.2.2.2
theorem main : S w p loose mean mg mb text pb x d sd st f cf la cA cT oD fo fobj ocf oA oT dp un gd cn cs a ccd cl outer A₀ base h₀ env m₀ rest s xn px pos iter body Q E I q k n t1 t2 t3 t4 te u3 i0 lnAt J := by
  unfold S
  intro Mx zne zne2 zI hq1 hq2 hsz hi0 hx hp B X T hk hd hu hln h turn done hs hE
  refine wpAny_For (wpAny_mono h (fun xv s₁ h₁ => ?_) fun _ _ e => e) hs
  obtain ⟨rfl, ⟨h, tk, u1, u4, rfl, F, N⟩, hJ⟩ := h₁
  refine pyIter_cit (N _ (.head _)).1 ?_
  refine codeAny_forLoop (fun kk s' => ∃ m' j, CitS w h₀ env.locals s I q pb x d sd st f cf la cA cT oD fo fobj ocf oA oT te t1 t2 t3 t4 u3 k n rest (lnAt j) (i0 + j) m' s' ∧ J j m' ∧ i0 + j ≤ text.length ∧ kk = text.length + 1 - (i0 + j)) ?_ (text.length + 1 - i0)
    ⟨m₀, 0, .mk h tk u1 u4 rfl F N, hJ, hi0, rfl⟩
  clear N F hJ h tk u1 u4
  rintro kk s' ⟨m', j, ⟨h, tk, u1, u4, rfl, F, N⟩, hJ, hij, rfl⟩
  have q1 := Mx.q1; have q2 := Mx.q2; have q3 := Mx.q3; have q4 := Mx.q4; have q5 := Mx.q5; have q6 := Mx.q6; have q7 := Mx.q7; have q8 := Mx.q8; have q9 := Mx.q9
  have hM := isMeth_of X F N (.tail _ (.head _))
  have hI := (N _ (.head _)).1
  have zneR : ∀ z ∈ (I, citObj (.ref q) (.str Str.empty te) false) :: (q, methodObj (.ref 108) (.ref x)) :: rest, @Ne Nat z.1 la := by
    intro z hz
    rcases List.mem_cons.mp hz with rfl | hz
    · show @Ne Nat I la; omega
    rcases List.mem_cons.mp hz with rfl | hz
    · show @Ne Nat q la; omega
    · exact zne z hz
  have zneR2 : ∀ z ∈ (I, citObj (.ref q) (.str Str.empty te) false) :: (q, methodObj (.ref 108) (.ref x)) :: rest, @Ne Nat z.1 d := by
    intro z hz
    rcases List.mem_cons.mp hz with rfl | hz
    · show @Ne Nat I d; omega
    rcases List.mem_cons.mp hz with rfl | hz
    · show @Ne Nat q d; omega
    · exact zne2 z hz
  have Nr := news_rot [_, _, _, _, _, _, _, _, _, _] rest N
  have hlen : text.length = text.cps.size := rfl
  cases hc : text.cps[i0 + j]? with
  | none =>
    have hend : i0 + j = text.length := by
      have := Array.getElem?_eq_none_iff.mp hc
      omega
    refine next_cit_end rfl hI hM ?_
    refine borrowed_any (method_call (N _ (.tail _ (.head _))).1 ?_)
    refine readc_code (un := un + 1) (vs := []) Mx zneR zneR2 (by omega) (by omega) B F X Nr T hk (by omega) (by omega) ?_
    intro h' tk' t u1' u4' F' N'
    rw [slice_none hc] at N' ⊢
    have N2 := news_rot' [_, _, _, _, _, _, _, _, _, _] rest N'
    refine ⟨t, rfl, (N2 _ (.head _)).1, isMeth_of X F' N2 (.tail _ (.head _)), fun h₂ e1 e2 => ?_⟩
    have hl0 : lnF (lnAt j) Str.empty = lnAt j := lnF_no (by decide +kernel)
    rw [hl0] at N2
    rw [show ((i0 + j : Nat) : Int) + (Str.empty.length : Int) = ((i0 + j : Nat) : Int) from Int.add_zero _] at N2
    have hne : ∀ z ∈ (q, methodObj (.ref 108) (.ref x)) :: ((pb, listOf #[] k) :: (x, instObj 125 d) :: (d, dictOf [mcEnt w "lineno" t1 (.int (lnAt j) u1'), mcEnt w "instream" t2 (.ref st), mcEnt w "whitespace" t3 (.str (Str.ofString "\n\t\r ") u3), mcEnt w "pushback" t4 (.ref pb)] 4) :: (sd, oD) :: (st, fo) :: (f, fobj) :: (cf, ocf) :: (la, listOf #[.int ((i0 + j : Nat) : Int) u4'] n) :: (cA, oA) :: (cT, oT) :: rest), @Ne Nat z.1 I := by
      intro z hz
      simp only [List.mem_cons] at hz
      rcases hz with rfl | rfl | rfl | rfl | rfl | rfl | rfl | rfl | rfl | rfl | rfl | hz
      · show @Ne Nat q I; omega
      · show @Ne Nat pb I; omega
      · show @Ne Nat x I; omega
      · show @Ne Nat d I; omega
      · show @Ne Nat sd I; omega
      · show @Ne Nat st I; omega
      · show @Ne Nat f I; omega
      · show @Ne Nat cf I; omega
      · show @Ne Nat la I; omega
      · show @Ne Nat cA I; omega
      · show @Ne Nat cT I; omega
      · exact zI z hz
    have hIp := N2 _ (.head _)
    refine wpAny_execs_nil (done j m' u1' u4' h₂ tk' hJ hc ?_ fun z hz => ?_)
    · exact ⟨F'.ns.at' fun o e => e2 _ o (fun hh => hIp.2.1 hh.symm) e, fun b o e => e2 b o (fun hh => by rw [hh, hIp.2.2] at e; cases e) (F'.keep b o e), F'.above⟩
    · rcases List.mem_cons.mp hz with rfl | hz
      · exact ⟨e1, hIp.2⟩
      · have zz := N2 z (.tail _ hz)
        exact ⟨e2 _ _ (hne z hz) zz.1, zz.2⟩
  | some c =>
    have hlt : i0 + j < text.length := (Array.getElem?_eq_some_iff.mp hc).1
    refine next_cit hI hM ?_
    refine borrowed_any (method_call (N _ (.tail _ (.head _))).1 ?_)
    refine readc_code (un := un + 1) (vs := []) Mx zneR zneR2 (by omega) (by omega) B F X Nr T hk (by omega) (by omega) ?_
    intro h' tk' t u1' u4' F' N'
    rw [slice_one hc] at N' ⊢
    have N2 := news_rot' [_, _, _, _, _, _, _, _, _, _] rest N'
    rw [← hln j c hc] at N2
    rw [show ((i0 + j : Nat) : Int) + (((⟨#[c]⟩ : Str).length : Nat) : Int) = ((i0 + (j + 1) : Nat) : Int) by show ((i0 + j : Nat) : Int) + 1 = _; omega] at N2
    refine ⟨_, t, rfl, (fun e => by have := congrArg (fun z : Str => z.cps.size) e; cases this), (N2 _ (.head _)).1, ?_⟩
    refine wpAny_assign_Name (wpAny_storeName_local hx F'.ns (fun h₂ hn₂ hs₂ => ?_) hp)
    refine wpAny_passesOwn hE (wpAny_mono (turn j c m' u1' u4' t h₂ (tk' + 1) hJ hc (F'.set hn₂ hs₂) (N2.set hs₂)) (fun fl s₃ h₃ => ?_) fun _ _ e => e)
    cases fl with
    | ret v => exact h₃
    | brk => exact h₃.elim
    | next =>
      obtain ⟨m₄, hC₄, hJ₄⟩ := h₃
      exact ⟨text.length + 1 - (i0 + (j + 1)), by omega, m₄, j + 1, hC₄, hJ₄, hlt, rfl⟩
    | cont =>
      obtain ⟨m₄, hC₄, hJ₄⟩ := h₃
      exact ⟨text.length + 1 - (i0 + (j + 1)), by omega, m₄, j + 1, hC₄, hJ₄, hlt, rfl⟩
end For_cit
theorem For_cit {w : World} {p : Program} {loose : List Str} {mean : ExcName → Option Value} {mg mb : Str → Option Value} {text : Str} {pb x d sd st f cf la cA cT : Addr} {oD fo fobj ocf oA oT : Obj}
    (Mx : Mach w p loose mean mg mb text pb x d sd st f cf la cA cT oD fo fobj ocf oA oT)
    {dp un : Nat} {gd : Option (List Code)} {cn : Str} {cs : Scope} {a : Addr} {ccd : Value} {cl : List (Str × Addr)} {outer : List Env} {A₀ : Around} {base h₀ : Heap} {env : Env} {m₀ : Str → Option Value} {rest : List (Addr × Obj)} {s : Shared}
    {xn : Str} {px pos : Pos} {iter : Expr} {body : List Stmt} {Q : Flow → Shared → Prop} {E : Value → Shared → Prop} {I q : Addr} {k n : Nat} {t1 t2 t3 t4 te u3 : Tok} {i0 : Nat} {lnAt : Nat → Int} (J : Nat → (Str → Option Value) → Prop)
    (zne : ∀ q ∈ rest, @Ne Nat q.1 la) (zne2 : ∀ q ∈ rest, @Ne Nat q.1 d) (zI : ∀ q ∈ rest, @Ne Nat q.1 I) (hq1 : @LT.lt Nat _ pb q) (hq2 : @LT.lt Nat _ q I) (hsz : text.length ≤ 900) (hi0 : i0 ≤ text.length)
    (hx : env.kindOf xn = some .local) (hp : (env.scope.kind == .class || (env.scope.kind == .module && env.locals != env.globals)) = false)
    (B : Below A₀ base outer h₀) (X : (hd.heap_39 w.params).In h₀) (T : Top p loose mean mg mb h₀) (hk : cs.kind = .function) (hd : dp + 10 < recursionLimit) (hu : un + 200 < cLine)
    (hln : ∀ j c, text.cps[i0 + j]? = some c → lnAt (j + 1) = lnF (lnAt j) ⟨#[c]⟩)
    (h : wpAny (model prg w) (ktrTop dp un gd cn cs env.locals a ccd cl outer) (eval iter env) (fun xv s₁ => xv = .ref I ∧ CitS w h₀ env.locals s I q pb x d sd st f cf la cA cT oD fo fobj ocf oA oT te t1 t2 t3 t4 u3 k n rest (lnAt 0) i0 m₀ s₁ ∧ J 0 m₀) E s)
    (turn : ∀ j c m₁ u1 u4 u h tk, J j m₁ → text.cps[i0 + j]? = some c → Fr h₀ env.locals h (fun z => if z = xn then some (.str ⟨#[c]⟩ u) else m₁ z) → News h₀ env.locals h ((I, citObj (.ref q) (.str Str.empty te) false) :: (q, methodObj (.ref 108) (.ref x)) :: (pb, listOf #[] k) :: (x, instObj 125 d) :: (d, dictOf [mcEnt w "lineno" t1 (.int (lnAt (j + 1)) u1), mcEnt w "instream" t2 (.ref st), mcEnt w "whitespace" t3 (.str (Str.ofString "\n\t\r ") u3), mcEnt w "pushback" t4 (.ref pb)] 4) :: (sd, oD) :: (st, fo) :: (f, fobj) :: (cf, ocf) :: (la, listOf #[.int (i0 + (j + 1) : Nat) u4] n) :: (cA, oA) :: (cT, oT) :: rest) →
      wpAny (model prg w) (ktrTop dp un gd cn cs env.locals a ccd cl outer) (execs body env) (fun fl s₂ => match fl with
        | .ret v => Q (.ret v) s₂
        | .brk => False
        | _ => ∃ m', CitS w h₀ env.locals s I q pb x d sd st f cf la cA cT oD fo fobj ocf oA oT te t1 t2 t3 t4 u3 k n rest (lnAt (j + 1)) (i0 + (j + 1)) m' s₂ ∧ J (j + 1) m') E { s with heap := h, toks := tk })
    (done : ∀ j m₁ u1 u4 h tk, J j m₁ → text.cps[i0 + j]? = none → Fr h₀ env.locals h m₁ → News h₀ env.locals h ((I, citObj .none .none true) :: (q, methodObj (.ref 108) (.ref x)) :: (pb, listOf #[] k) :: (x, instObj 125 d) :: (d, dictOf [mcEnt w "lineno" t1 (.int (lnAt j) u1), mcEnt w "instream" t2 (.ref st), mcEnt w "whitespace" t3 (.str (Str.ofString "\n\t\r ") u3), mcEnt w "pushback" t4 (.ref pb)] 4) :: (sd, oD) :: (st, fo) :: (f, fobj) :: (cf, ocf) :: (la, listOf #[.int (i0 + j : Nat) u4] n) :: (cA, oA) :: (cT, oT) :: rest) → Q .next { s with heap := h, toks := tk })
    (hs : ∀ x, foldedSetIterable iter env x = pure x := by intro _; rfl)
    (hE : PassesOwn (model prg w) (ktrTop dp un gd cn cs env.locals a ccd cl outer) env E := by passes_own) :
    wpAny (model prg w) (ktrTop dp un gd cn cs env.locals a ccd cl outer) (exec (.For (.Name xn px) iter body [] pos) env) Q E s :=
  (Classical.choice For_cit.c₁).property For_cit.main (w, p, loose, mean, mg, mb, text, pb, x, d, sd, st, f, cf, la, cA, cT, oD, fo, fobj, ocf, oA, oT, dp, un, gd, cn, cs, a, ccd, cl, outer, A₀, base, h₀, env, m₀, rest, s, xn, px, pos, iter, body, Q, E, I, q, k, n, t1, t2, t3, t4, te, u3, i0, lnAt, J) Mx zne zne2 zI hq1 hq2 hsz hi0 hx hp B X T hk hd hu hln h turn done hs hE
end
section
theorem off_GetTok : True := by (w_top off; first | walk1 | trivial)
set_option maxRecDepth 100000
set_option maxHeartbeats 4000000
open PySem.Calls
set_option hygiene false in
local macro_rules | `(tactic| walk_at "execs cons") => `(tactic| walk_at "MY h0")

set_option hygiene false in
local macro_rules | `(tactic| k_all) => `(tactic| assumption)
set_option hygiene false in
local macro_rules | `(tactic| walk_at "exec For") => `(tactic| (k_here; refine Stop.get ?_))
set_option hygiene false in
local macro_rules | `(tactic| walk_at "exec For Name Name cons nil") => `(tactic| (k_here; refine Stop.get ?_))
set_option hygiene false in
local macro_rules | `(tactic| walk_at "call builtin:iter") => `(tactic| (k_here; refine Stop.get ?_))
noncomputable def isWs (c : Nat) : Bool := c == 10 || c == 9 || c == 13 || c == 32
noncomputable def wsStr : Str := Str.ofString "\n\t\r "
theorem ws_occ (c : Nat) : (!(Builtin.Str.occurrences wsStr ⟨#[c]⟩ 0 wsStr.length 1).isEmpty) = isWs c := by
  unfold isWs
  by_cases h1 : c = 10
  · subst h1; decide +kernel
  by_cases h2 : c = 9
  · subst h2; decide +kernel
  by_cases h3 : c = 13
  · subst h3; decide +kernel
  by_cases h4 : c = 32
  · subst h4; decide +kernel
  rw [beq_eq_false_iff_ne.mpr h1, beq_eq_false_iff_ne.mpr h2, beq_eq_false_iff_ne.mpr h3, beq_eq_false_iff_ne.mpr h4]
  have hn : Builtin.Str.occurrences wsStr ⟨#[c]⟩ 0 wsStr.length 1 = [] := by
    refine PySem.W.occ_nil_of_no _ _ 1 fun i hi => ?_
    have hl : wsStr.length = 4 := by decide +kernel
    rw [hl] at hi
    have hi4 : i < 4 := hi
    have e0 : wsStr.cps.extract 0 1 = #[10] := by decide +kernel
    have e1 : wsStr.cps.extract 1 2 = #[9] := by decide +kernel
    have e2 : wsStr.cps.extract 2 3 = #[13] := by decide +kernel
    have e3 : wsStr.cps.extract 3 4 = #[32] := by decide +kernel
    show (wsStr.cps.extract i (i + 1) == #[c]) = false
    apply beq_eq_false_iff_ne.mpr
    have h5 : i = 0 ∨ i = 1 ∨ i = 2 ∨ i = 3 := by omega
    rcases h5 with rfl | rfl | rfl | rfl
    · rw [e0]; intro e; simp at e; exact h1 e.symm
    · rw [e1]; intro e; simp at e; exact h2 e.symm
    · rw [e2]; intro e; simp at e; exact h3 e.symm
    · rw [e3]; intro e; simp at e; exact h4 e.symm
  rw [hn]
  rfl
theorem in_ws {prog : Program} {w : World} {A : Around} {E : Value → Shared → Prop} {s : Shared} {c : Nat} {t u : Tok} {b : Bool} {Q : Value → Shared → Prop} (hb : isWs c = b) (h : Q (.bool b) s) : wpAny (model prog w) A (compareOp .In (.str ⟨#[c]⟩ u) (.str (Str.ofString "\n\t\r ") t)) Q E s :=
  in_str (by show Q (.bool (!(Builtin.Str.occurrences wsStr ⟨#[c]⟩ 0 wsStr.length 1).isEmpty)) s; rw [ws_occ, hb]; exact h)
set_option hygiene false in
local macro_rules | `(tactic| walk_at "compareOp In str str") => `(tactic| (refine in_ws (by assumption) ?_))
/- the line ends among the first j of l -/
noncomputable def lnC (ln : Int) (l : List Nat) (j : Nat) : Int := ln + ((l.take j).count 10 : Nat)
theorem lnC_succ {ln : Int} {l : List Nat} {j c : Nat} (h : l[j]? = some c) : lnC ln l (j + 1) = lnF (lnC ln l j) ⟨#[c]⟩ := by
  unfold lnC
  rw [List.take_add_one, h, List.count_append]
  by_cases hc : c = 10
  · subst hc
    rw [lnF_yes (by decide +kernel)]
    show ln + (((l.take j).count 10 + 1 : Nat) : Int) = _
    omega
  · rw [lnF_no]
    · have e : List.count 10 (some c).toList = 0 := by
        show List.count 10 [c] = 0
        rw [List.count_singleton, if_neg]
        simpa using fun hh => hc hh
      rw [e]; rfl
    · apply beq_eq_false_iff_ne.mpr
      intro e
      have := congrArg (fun z : Str => z.cps.toList) e
      have e2 : (Str.ofString "\n").cps.toList = [10] := by decide +kernel
      rw [e2] at this
      simp at this
      exact hc this
theorem fr_name {h₀ h : Heap} {L : Addr} {m : Str → Option Value} (F : Fr h₀ L h m) {P : Prop} (k : ∀ m₀, m = m₀ → Fr h₀ L h m₀ → P) : P := k m rfl F
theorem map_eq {xn : Str} {v : Option Value} {m₁ m₀ : Str → Option Value} (h : ∀ z, z ≠ xn → m₁ z = m₀ z) : (fun z => if z = xn then v else m₁ z) = fun z => if z = xn then v else m₀ z := funext fun z => by
  by_cases e : z = xn
  · rw [if_pos e, if_pos e]
  · rw [if_neg e, if_neg e]; exact h z e
theorem tok_room {text : Str} {D W C R : List Nat} {w0 i0 : Nat} (h0 : text.cps.toList.drop i0 = D) (h : D = W ++ (C ++ w0 :: R)) : i0 + (W.length + 1) ≤ text.length := by
  have e := congrArg List.length h0
  rw [h, List.length_drop, Array.length_toList] at e
  simp only [List.length_append, List.length_cons] at e
  show _ ≤ text.cps.size
  omega
theorem drop_some2 {D W C R : List Nat} {w0 j : Nat} (h : D = W ++ (C ++ w0 :: R)) (hj : j + 1 ≤ C.length) : D[W.length + 1 + j]? ≠ none := by
  intro e
  have := List.getElem?_eq_none_iff.mp e
  rw [h] at this
  simp at this
  omega
theorem char_at2 {D W C R : List Nat} {w0 j c : Nat} (h : D = W ++ (C ++ w0 :: R)) (hc : D[W.length + 1 + j]? = some c) (hj : j + 1 ≤ C.length) : (j + 1 + 1 ≤ C.length ∧ C[j + 1]? = some c) ∨ (j + 1 = C.length ∧ c = w0) := by
  rw [h, List.getElem?_append_right (by omega), show W.length + 1 + j - W.length = j + 1 by omega] at hc
  by_cases hlt : j + 1 < C.length
  · rw [List.getElem?_append_left hlt] at hc
    exact .inl ⟨hlt, hc⟩
  · have e : j + 1 = C.length := by omega
    rw [e, List.getElem?_append_right (Nat.le_refl _), Nat.sub_self] at hc
    simp at hc
    exact .inr ⟨e, hc.symm⟩
theorem tok_map {tn ch : Str} {m : Str → Option Value} {v : Value} (h : m tn = some v) : ∀ z, z ≠ ch → m z = if z = tn then some v else m z := fun z _ => by
  by_cases e : z = tn
  · rw [if_pos e, e, h]
  · rw [if_neg e]
theorem tok_map2 {tn ch : Str} {m : Str → Option Value} {v v' w : Value} {c : Option Value} (h : v' = w) : ∀ z, z ≠ ch → (if z = tn then some v' else if z = ch then c else if z = tn then some v else m z) = if z = tn then some w else m z := fun z hz => by
  by_cases e : z = tn
  · rw [if_pos e, if_pos e, h]
  · rw [if_neg e, if_neg hz, if_neg e, if_neg e]
theorem take_more {C : List Nat} {j c : Nat} {t : Tok} (h : C[j]? = some c) : Value.str ((⟨(C.take j).toArray⟩ : Str) ++ ⟨#[c]⟩) t = .str ⟨(C.take (j + 1)).toArray⟩ t := by
  congr 1
  rw [List.take_add_one, h]
  show (⟨(C.take j).toArray ++ #[c]⟩ : Str) = _
  congr 1
  simp
theorem take_fits {text : Str} {D W C R : List Nat} {w0 i0 j : Nat} (h0 : text.cps.toList.drop i0 = D) (h : D = W ++ (C ++ w0 :: R)) (hs : text.length ≤ 900) : (⟨(C.take j).toArray⟩ : Str).length ≤ 900 := by
  have e := congrArg List.length h0
  rw [h, List.length_drop, Array.length_toList] at e
  simp only [List.length_append, List.length_cons] at e
  have e2 : (⟨(C.take j).toArray⟩ : Str).length = min j C.length := by show (C.take j).toArray.size = _; simp
  have : text.cps.size ≤ 900 := hs
  omega
theorem tok_fits {x : Str} {c : Nat} (h : x.length ≤ 900) : x.length + (⟨#[c]⟩ : Str).length ≤ sizeLine := by
  have : (⟨#[c]⟩ : Str).length = 1 := rfl
  have : 901 ≤ sizeLine := by decide +kernel
  omega
set_option hygiene false in
local macro_rules | `(tactic| walk_at "inplaceOp Add str str") => `(tactic| (refine iadd_str ?_ (tok_fits (by assumption)); intro _ _))
/- a map known but for one name -/
theorem fr_split {h₀ h : Heap} {L : Addr} {ch : Str} {m m₀ : Str → Option Value} (hm : ∀ z, z ≠ ch → m z = m₀ z) (F : Fr h₀ L h m) {P : Prop} (k : ∀ o, Fr h₀ L h (fun z => if z = ch then o else m₀ z) → P) : P :=
  k (m ch) (by
    have e : m = fun z => if z = ch then m ch else m₀ z := funext fun z => by
      by_cases e : z = ch
      · rw [if_pos e, e]
      · rw [if_neg e]; exact hm z e
    rw [← e]
    exact F)
theorem stop_post {α : Type} {M : Model} {A : Around} {c : Sem α} {Q : α → Shared → Prop} {E : Value → Shared → Prop} {s : Shared} (h : wpAny M A c (fun v s => Stop (Q v s)) E s) : wpAny M A c Q E s :=
  wpAny_mono h (fun _ _ e => e.get) fun _ _ e => e
theorem lnC_zero {ln : Int} {l : List Nat} : lnC ln l 0 = ln := by unfold lnC; exact Int.add_zero _
theorem drop_some {D W C R : List Nat} {w0 j : Nat} (h : D = W ++ (C ++ w0 :: R)) (hj : j ≤ W.length) : D[j]? ≠ none := by
  intro e
  have := List.getElem?_eq_none_iff.mp e
  rw [h] at this
  simp at this
  omega
theorem char_at {D W C R : List Nat} {w0 j c : Nat} (h : D = W ++ (C ++ w0 :: R)) (hc : D[j]? = some c) (hj : j ≤ W.length) (hW : ∀ c ∈ W, isWs c = true) (hC : C ≠ []) : (j + 1 ≤ W.length ∧ isWs c = true) ∨ (j = W.length ∧ ∃ C', C = c :: C') := by
  rw [h] at hc
  by_cases hlt : j < W.length
  · rw [List.getElem?_append_left hlt] at hc
    exact .inl ⟨hlt, hW c (List.mem_of_getElem? hc)⟩
  · have e : j = W.length := by omega
    refine .inr ⟨e, ?_⟩
    rw [e, List.getElem?_append_right (Nat.le_refl _), Nat.sub_self] at hc
    cases C with
    | nil => exact absurd rfl hC
    | cons a C' =>
      simp at hc
      exact ⟨C', by rw [hc]⟩
theorem drop_at {text : Str} {i j : Nat} : (text.cps.toList.drop i)[j]? = text.cps[i + j]? := by
  rw [List.getElem?_drop, Array.getElem?_toList]
theorem quo_ne {c : Nat} (h : c ≠ 34) : ((⟨#[c]⟩ : Str) == Str.ofString "\"") = false := by
  apply beq_eq_false_iff_ne.mpr
  intro e
  have := congrArg (fun z : Str => z.cps.toList) e
  have e2 : (Str.ofString "\"").cps.toList = [34] := by decide +kernel
  rw [e2] at this
  simp at this
  exact h this
theorem bsl_ne {c : Nat} (h : c ≠ 92) : ((⟨#[c]⟩ : Str) == Str.ofString "\\") = false := by
  apply beq_eq_false_iff_ne.mpr
  intro e
  have := congrArg (fun z : Str => z.cps.toList) e
  have e2 : (Str.ofString "\\").cps.toList = [92] := by decide +kernel
  rw [e2] at this
  simp at this
  exact h this
namespace tok_t
noncomputable def S (w : World) (p : Program) (loose : List Str) (mean : ExcName → Option Value) (mg : Str → Option Value) (mb : Str → Option Value) (text : Str) (pb : Addr) (x : Addr) (d : Addr) (sd : Addr) (st : Addr) (f : Addr) (cf : Addr) (la : Addr) (cA : Addr) (cT : Addr) (oD : Obj) (fo : Obj) (fobj : Obj) (ocf : Obj) (oA : Obj) (oT : Obj) (dp : Nat) (un : Nat) (gd : Option (List Code)) (cn : Str) (cs : Scope) (a : Addr) (ccd : Value) (cl : List (Str × Addr)) (outer : List Env) (A₀ : Around) (base : Heap) (h₀ : Heap) (L : Addr) (m : Str → Option Value) (rest : List (Addr × Obj)) (s : Shared) (Q : Value → Shared → Prop) (E : Value → Shared → Prop) (k : Nat) (n : Nat) (t1 : Tok) (t2 : Tok) (t3 : Tok) (t4 : Tok) (u1 : Tok) (u3 : Tok) (u4 : Tok) (ln : Int) (i0 : Nat) (D : List Nat) (W : List Nat) (C : List Nat) (R : List Nat) (w0 : Nat) : Prop :=
  ∀ (Mx : Mach w p loose mean mg mb text pb x d sd st f cf la cA cT oD fo fobj ocf oA oT)  (zne : ∀ q ∈ rest, @Ne Nat q.1 la)  (zne2 : ∀ q ∈ rest, @Ne Nat q.1 d)  (hsz : text.length ≤ 900)  (hD : text.cps.toList.drop i0 = D)  (hDe : D = W ++ (C ++ w0 :: R))  (hW : ∀ c ∈ W, isWs c = true)  (hC : ∀ c ∈ C, isWs c = false ∧ c ≠ 34 ∧ c ≠ 92)  (hCn : C ≠ [])  (hw0 : isWs w0 = true)  (B : Below A₀ base outer h₀)  (F : Fr h₀ L s.heap m)  (X : (hd.heap_39 w.params).In h₀)  (N : News h₀ L s.heap ((pb, listOf #[] k) :: (x, instObj 125 d) :: (d, dictOf [mcEnt w "lineno" t1 (.int ln u1), mcEnt w "instream" t2 (.ref st), mcEnt w "whitespace" t3 (.str (Str.ofString "\n\t\r ") u3), mcEnt w "pushback" t4 (.ref pb)] 4) :: (sd, oD) :: (st, fo) :: (f, fobj) :: (cf, ocf) :: (la, listOf #[.int (i0 : Nat) u4] n) :: (cA, oA) :: (cT, oT) :: rest))  (T : Top p loose mean mg mb h₀)  (hk : cs.kind = .function)  (hd : dp + 20 < recursionLimit)  (hu : un + 400 < cLine)  (hret : ∀ h' tk' t u1 u4, Fr h₀ L h' m → News h₀ L h' ((pb, listOf #[] k) :: (x, instObj 125 d) :: (d, dictOf [mcEnt w "lineno" t1 (.int (lnC ln D (W.length + C.length + 1)) u1), mcEnt w "instream" t2 (.ref st), mcEnt w "whitespace" t3 (.str (Str.ofString "\n\t\r ") u3), mcEnt w "pushback" t4 (.ref pb)] 4) :: (sd, oD) :: (st, fo) :: (f, fobj) :: (cf, ocf) :: (la, listOf #[.int ((i0 + (W.length + C.length + 1) : Nat) : Int) u4] n) :: (cA, oA) :: (cT, oT) :: rest) → Q (.str ⟨C.toArray⟩ t) { s with heap := h', toks := tk' }),
    wpAny (model prg w) (ktrTop dp un gd cn cs L a ccd cl outer) (call (.ref 115) [.ref x]) Q E s
theorem c₁ : Nonempty {t : World × Program × (List Str) × (ExcName → Option Value) × (Str → Option Value) × (Str → Option Value) × Str × Addr × Addr × Addr × Addr × Addr × Addr × Addr × Addr × Addr × Addr × Obj × Obj × Obj × Obj × Obj × Obj × Nat × Nat × (Option (List Code)) × Str × Scope × Addr × Value × (List (Str × Addr)) × (List Env) × Around × Heap × Heap × Addr × (Str → Option Value) × (List (Addr × Obj)) × Shared × (Value → Shared → Prop) × (Value → Shared → Prop) × Nat × Nat × Tok × Tok × Tok × Tok × Tok × Tok × Tok × Int × Nat × (List Nat) × (List Nat) × (List Nat) × (List Nat) × Nat // S t.1 t.2.1 t.2.2.1 t.2.2.2.1 t.2.2.2.2.1 t.2.2.2.2.2.1 t.2.2.2.2.2.2.1 t.2.2.2.2.2.2.2.1 t.2.2.2.2.2.2.2.2.1 t.2.2.2.2.2.2.2.2.2.1 t.2.2.2.2.2.2.2.2.2.2.1 t.2.2.2.2.2.2.2.2.2.2.2.1 t.2.2.2.2.2.2.2.2.2.2.2.2.1 t.2.2.2.2.2.2.2.2.2.2.2.2.2.1 t.2.2.2.2.2.2.2.2.2.2.2.2.2.2.1 t.2.2.2.2.2.2.2.2.2.2.2.2.2.2.2.1 t.2.2.2.2.2.2.2.2.2.2.2.2.2.2.2.2.1 t.2.2.2.2.2.2.2.2.2.2.2.2.2.2.2.2.2.1 t.2.2.2.2.2.2.2.2.2.2.2.2.2.2.2.2.2.2.1 t.2.2.2.2.2.2.2.2.2.2.2.2.2.2.2.2.2.2.2.1 t.2.2.2.2.2.2.2.2.2.2.2.2.2.2.2.2.2.2.2.2.1 t.2.2.2.2.2.2.2.2.2.2.2.2.2.2.2.2.2.2.2.2.2.1 t.2.2.2.2.2.2.2.2.2.2.2.2.2.2.2.2.2.2.2.2.2.2.1 t.2.2.2.2.2.2.2.2.2.2.2.2.2.2.2.2.2.2.2.2.2.2.2.1 t.2.2.2.2.2.2.2.2.2.2.2.2.2.2.2.2.2.2.2.2.2.2.2.2.1 t.2.2.2.2.2.2.2.2.2.2.2.2.2.2.2.2.2.2.2.2.2.2.2.2.2.1 t.2.2.2.2.2.2.2.2.2.2.2.2.2.2.2.2.2.2.2.2.2.2.2.2.2.2.1 t.2.2.2.2.2.2.2.2.2.2.2.2.2.2.2.2.2.2.2.2.2.2.2.2.2.2.2.1 t.2.2.2.2.2.2.2.2.2.2.2.2.2.2.2.2.2.2.2.2.2.2.2.2.2.2.2.2.1 t.2.2.2.2.2.2.2.2.2.2.2.2.2.2.2.2.2.2.2.2.2.2.2.2.2.2.2.2.2.1 t.2.2.2.2.2.2.2.2.2.2.2.2.2.2.2.2.2.2.2.2.2.2.2.2.2.2.2.2.2.2.1 t.2.2.2.2.2.2.2.2.2.2.2.2.2.2.2.2.2.2.2.2.2.2.2.2.2.2.2.2.2.2.2.1 t.2.2.2.2.2.2.2.2.2.2.2.2.2.2.2.2.2.2.2.2.2.2.2.2.2.2.2.2.2.2.2.2.1 t.2.2.2.2.2.2.2.2.2.2.2.2.2.2.2.2.2.2.2.2.2.2.2.2.2.2.2.2.2.2.2.2.2.1 t.2.2.2.2.2.2.2.2.2.2.2.2.2.2.2.2.2.2.2.2.2.2.2.2.2.2.2.2.2.2.2.2.2.2.1 t.2.2.2.2.2.2.2.2.2.2.2.2.2.2.2.2.2.2.2.2.2.2.2.2.2.2.2.2.2.2.2.2.2.2.2.1 t.2.2.2.2.2.2.2.2.2.2.2.2.2.2.2.2.2.2.2.2.2.2.2.2.2.2.2.2.2.2.2.2.2.2.2.2.1 t.2.2.2.2.2.2.2.2.2.2.2.2.2.2.2.2.2.2.2.2.2.2.2.2.2.2.2.2.2.2.2.2.2.2.2.2.2.1 t.2.2.2.2.2.2.2.2.2.2.2.2.2.2.2.2.2.2.2.2.2.2.2.2.2.2.2.2.2.2.2.2.2.2.2.2.2.2.1 t.2.2.2.2.2.2.2.2.2.2.2.2.2.2.2.2.2.2.2.2.2.2.2.2.2.2.2.2.2.2.2.2.2.2.2.2.2.2.2.1 t.2.2.2.2.2.2.2.2.2.2.2.2.2.2.2.2.2.2.2.2.2.2.2.2.2.2.2.2.2.2.2.2.2.2.2.2.2.2.2.2.1 t.2.2.2.2.2.2.2.2.2.2.2.2.2.2.2.2.2.2.2.2.2.2.2.2.2.2.2.2.2.2.2.2.2.2.2.2.2.2.2.2.2.1 t.2.2.2.2.2.2.2.2.2.2.2.2.2.2.2.2.2.2.2.2.2.2.2.2.2.2.2.2.2.2.2.2.2.2.2.2.2.2.2.2.2.2.1 t.2.2.2.2.2.2.2.2.2.2.2.2.2.2.2.2.2.2.2.2.2.2.2.2.2.2.2.2.2.2.2.2.2.2.2.2.2.2.2.2.2.2.2.1 t.2.2.2.2.2.2.2.2.2.2.2.2.2.2.2.2.2.2.2.2.2.2.2.2.2.2.2.2.2.2.2.2.2.2.2.2.2.2.2.2.2.2.2.2.1 t.2.2.2.2.2.2.2.2.2.2.2.2.2.2.2.2.2.2.2.2.2.2.2.2.2.2.2.2.2.2.2.2.2.2.2.2.2.2.2.2.2.2.2.2.2.1 t.2.2.2.2.2.2.2.2.2.2.2.2.2.2.2.2.2.2.2.2.2.2.2.2.2.2.2.2.2.2.2.2.2.2.2.2.2.2.2.2.2.2.2.2.2.2.1 t.2.2.2.2.2.2.2.2.2.2.2.2.2.2.2.2.2.2.2.2.2.2.2.2.2.2.2.2.2.2.2.2.2.2.2.2.2.2.2.2.2.2.2.2.2.2.2.1 t.2.2.2.2.2.2.2.2.2.2.2.2.2.2.2.2.2.2.2.2.2.2.2.2.2.2.2.2.2.2.2.2.2.2.2.2.2.2.2.2.2.2.2.2.2.2.2.2.1 t.2.2.2.2.2.2.2.2.2.2.2.2.2.2.2.2.2.2.2.2.2.2.2.2.2.2.2.2.2.2.2.2.2.2.2.2.2.2.2.2.2.2.2.2.2.2.2.2.2.1 t.2.2.2.2.2.2.2.2.2.2.2.2.2.2.2.2.2.2.2.2.2.2.2.2.2.2.2.2.2.2.2.2.2.2.2.2.2.2.2.2.2.2.2.2.2.2.2.2.2.2.1 t.2.2.2.2.2.2.2.2.2.2.2.2.2.2.2.2.2.2.2.2.2.2.2.2.2.2.2.2.2.2.2.2.2.2.2.2.2.2.2.2.2.2.2.2.2.2.2.2.2.2.2.1 t.2.2.2.2.2.2.2.2.2.2.2.2.2.2.2.2.2.2.2.2.2.2.2.2.2.2.2.2.2.2.2.2.2.2.2.2.2.2.2.2.2.2.2.2.2.2.2.2.2.2.2.2.1 t.2.2.2.2.2.2.2.2.2.2.2.2.2.2.2.2.2.2.2.2.2.2.2.2.2.2.2.2.2.2.2.2.2.2.2.2.2.2.2.2.2.2.2.2.2.2.2.2.2.2.2.2.2.1 t.2.2.2.2.2.2.2.2.2.2.2.2.2.2.2.2.2.2.2.2.2.2.2.2.2.2.2.2.2.2.2.2.2.2.2.2.2.2.2.2.2.2.2.2.2.2.2.2.2.2.2.2.2.2.1 t.2.2.2.2.2.2.2.2.2.2.2.2.2.2.2.2.2.2.2.2.2.2.2.2.2.2.2.2.2.2.2.2.2.2.2.2.2.2.2.2.2.2.2.2.2.2.2.2.2.2.2.2.2.2.2.1 t.2.2.2.2.2.2.2.2.2.2.2.2.2.2.2.2.2.2.2.2.2.2.2.2.2.2.2.2.2.2.2.2.2.2.2.2.2.2.2.2.2.2.2.2.2.2.2.2.2.2.2.2.2.2.2.2 → ∀ t : World × Program × (List Str) × (ExcName → Option Value) × (Str → Option Value) × (Str → Option Value) × Str × Addr × Addr × Addr × Addr × Addr × Addr × Addr × Addr × Addr × Addr × Obj × Obj × Obj × Obj × Obj × Obj × Nat × Nat × (Option (List Code)) × Str × Scope × Addr × Value × (List (Str × Addr)) × (List Env) × Around × Heap × Heap × Addr × (Str → Option Value) × (List (Addr × Obj)) × Shared × (Value → Shared → Prop) × (Value → Shared → Prop) × Nat × Nat × Tok × Tok × Tok × Tok × Tok × Tok × Tok × Int × Nat × (List Nat) × (List Nat) × (List Nat) × (List Nat) × Nat, S t.1 t.2.1 t.2.2.1 t.2.2.2.1 t.2.2.2.2.1 t.2.2.2.2.2.1 t.2.2.2.2.2.2.1 t.2.2.2.2.2.2.2.1 t.2.2.2.2.2.2.2.2.1 t.2.2.2.2.2.2.2.2.2.1 t.2.2.2.2.2.2.2.2.2.2.1 t.2.2.2.2.2.2.2.2.2.2.2.1 t.2.2.2.2.2.2.2.2.2.2.2.2.1 t.2.2.2.2.2.2.2.2.2.2.2.2.2.1 t.2.2.2.2.2.2.2.2.2.2.2.2.2.2.1 t.2.2.2.2.2.2.2.2.2.2.2.2.2.2.2.1 t.2.2.2.2.2.2.2.2.2.2.2.2.2.2.2.2.1 t.2.2.2.2.2.2.2.2.2.2.2.2.2.2.2.2.2.1 t.2.2.2.2.2.2.2.2.2.2.2.2.2.2.2.2.2.2.1 t.2.2.2.2.2.2.2.2.2.2.2.2.2.2.2.2.2.2.2.1 t.2.2.2.2.2.2.2.2.2.2.2.2.2.2.2.2.2.2.2.2.1 t.2.2.2.2.2.2.2.2.2.2.2.2.2.2.2.2.2.2.2.2.2.1 t.2.2.2.2.2.2.2.2.2.2.2.2.2.2.2.2.2.2.2.2.2.2.1 t.2.2.2.2.2.2.2.2.2.2.2.2.2.2.2.2.2.2.2.2.2.2.2.1 t.2.2.2.2.2.2.2.2.2.2.2.2.2.2.2.2.2.2.2.2.2.2.2.2.1 t.2.2.2.2.2.2.2.2.2.2.2.2.2.2.2.2.2.2.2.2.2.2.2.2.2.1 t.2.2.2.2.2.2.2.2.2.2.2.2.2.2.2.2.2.2.2.2.2.2.2.2.2.2.1 t.2.2.2.2.2.2.2.2.2.2.2.2.2.2.2.2.2.2.2.2.2.2.2.2.2.2.2.1 t.2.2.2.2.2.2.2.2.2.2.2.2.2.2.2.2.2.2.2.2.2.2.2.2.2.2.2.2.1 t.2.2.2.2.2.2.2.2.2.2.2.2.2.2.2.2.2.2.2.2.2.2.2.2.2.2.2.2.2.1 t.2.2.2.2.2.2.2.2.2.2.2.2.2.2.2.2.2.2.2.2.2.2.2.2.2.2.2.2.2.2.1 t.2.2.2.2.2.2.2.2.2.2.2.2.2.2.2.2.2.2.2.2.2.2.2.2.2.2.2.2.2.2.2.1 t.2.2.2.2.2.2.2.2.2.2.2.2.2.2.2.2.2.2.2.2.2.2.2.2.2.2.2.2.2.2.2.2.1 t.2.2.2.2.2.2.2.2.2.2.2.2.2.2.2.2.2.2.2.2.2.2.2.2.2.2.2.2.2.2.2.2.2.1 t.2.2.2.2.2.2.2.2.2.2.2.2.2.2.2.2.2.2.2.2.2.2.2.2.2.2.2.2.2.2.2.2.2.2.1 t.2.2.2.2.2.2.2.2.2.2.2.2.2.2.2.2.2.2.2.2.2.2.2.2.2.2.2.2.2.2.2.2.2.2.2.1 t.2.2.2.2.2.2.2.2.2.2.2.2.2.2.2.2.2.2.2.2.2.2.2.2.2.2.2.2.2.2.2.2.2.2.2.2.1 t.2.2.2.2.2.2.2.2.2.2.2.2.2.2.2.2.2.2.2.2.2.2.2.2.2.2.2.2.2.2.2.2.2.2.2.2.2.1 t.2.2.2.2.2.2.2.2.2.2.2.2.2.2.2.2.2.2.2.2.2.2.2.2.2.2.2.2.2.2.2.2.2.2.2.2.2.2.1 t.2.2.2.2.2.2.2.2.2.2.2.2.2.2.2.2.2.2.2.2.2.2.2.2.2.2.2.2.2.2.2.2.2.2.2.2.2.2.2.1 t.2.2.2.2.2.2.2.2.2.2.2.2.2.2.2.2.2.2.2.2.2.2.2.2.2.2.2.2.2.2.2.2.2.2.2.2.2.2.2.2.1 t.2.2.2.2.2.2.2.2.2.2.2.2.2.2.2.2.2.2.2.2.2.2.2.2.2.2.2.2.2.2.2.2.2.2.2.2.2.2.2.2.2.1 t.2.2.2.2.2.2.2.2.2.2.2.2.2.2.2.2.2.2.2.2.2.2.2.2.2.2.2.2.2.2.2.2.2.2.2.2.2.2.2.2.2.2.1 t.2.2.2.2.2.2.2.2.2.2.2.2.2.2.2.2.2.2.2.2.2.2.2.2.2.2.2.2.2.2.2.2.2.2.2.2.2.2.2.2.2.2.2.1 t.2.2.2.2.2.2.2.2.2.2.2.2.2.2.2.2.2.2.2.2.2.2.2.2.2.2.2.2.2.2.2.2.2.2.2.2.2.2.2.2.2.2.2.2.1 t.2.2.2.2.2.2.2.2.2.2.2.2.2.2.2.2.2.2.2.2.2.2.2.2.2.2.2.2.2.2.2.2.2.2.2.2.2.2.2.2.2.2.2.2.2.1 t.2.2.2.2.2.2.2.2.2.2.2.2.2.2.2.2.2.2.2.2.2.2.2.2.2.2.2.2.2.2.2.2.2.2.2.2.2.2.2.2.2.2.2.2.2.2.1 t.2.2.2.2.2.2.2.2.2.2.2.2.2.2.2.2.2.2.2.2.2.2.2.2.2.2.2.2.2.2.2.2.2.2.2.2.2.2.2.2.2.2.2.2.2.2.2.1 t.2.2.2.2.2.2.2.2.2.2.2.2.2.2.2.2.2.2.2.2.2.2.2.2.2.2.2.2.2.2.2.2.2.2.2.2.2.2.2.2.2.2.2.2.2.2.2.2.1 t.2.2.2.2.2.2.2.2.2.2.2.2.2.2.2.2.2.2.2.2.2.2.2.2.2.2.2.2.2.2.2.2.2.2.2.2.2.2.2.2.2.2.2.2.2.2.2.2.2.1 t.2.2.2.2.2.2.2.2.2.2.2.2.2.2.2.2.2.2.2.2.2.2.2.2.2.2.2.2.2.2.2.2.2.2.2.2.2.2.2.2.2.2.2.2.2.2.2.2.2.2.1 t.2.2.2.2.2.2.2.2.2.2.2.2.2.2.2.2.2.2.2.2.2.2.2.2.2.2.2.2.2.2.2.2.2.2.2.2.2.2.2.2.2.2.2.2.2.2.2.2.2.2.2.1 t.2.2.2.2.2.2.2.2.2.2.2.2.2.2.2.2.2.2.2.2.2.2.2.2.2.2.2.2.2.2.2.2.2.2.2.2.2.2.2.2.2.2.2.2.2.2.2.2.2.2.2.2.1 t.2.2.2.2.2.2.2.2.2.2.2.2.2.2.2.2.2.2.2.2.2.2.2.2.2.2.2.2.2.2.2.2.2.2.2.2.2.2.2.2.2.2.2.2.2.2.2.2.2.2.2.2.2.1 t.2.2.2.2.2.2.2.2.2.2.2.2.2.2.2.2.2.2.2.2.2.2.2.2.2.2.2.2.2.2.2.2.2.2.2.2.2.2.2.2.2.2.2.2.2.2.2.2.2.2.2.2.2.2.1 t.2.2.2.2.2.2.2.2.2.2.2.2.2.2.2.2.2.2.2.2.2.2.2.2.2.2.2.2.2.2.2.2.2.2.2.2.2.2.2.2.2.2.2.2.2.2.2.2.2.2.2.2.2.2.2.1 t.2.2.2.2.2.2.2.2.2.2.2.2.2.2.2.2.2.2.2.2.2.2.2.2.2.2.2.2.2.2.2.2.2.2.2.2.2.2.2.2.2.2.2.2.2.2.2.2.2.2.2.2.2.2.2.2} := eps_ex ⟨(⟨fun _ _ => 0, { strHash := fun _ => 0, shareClass := fun _ => 0, mergeTok := fun _ => default, idOf := fun _ => 0, idOfShared := fun _ _ => 0, followText := fun _ => true, idOfImm := fun _ => 0 }⟩, default, default, default, default, default, default, default, default, default, default, default, default, default, default, default, default, default, default, default, default, default, default, default, default, default, default, default, default, default, default, default, {}, default, default, default, default, default, {}, default, default, default, default, default, default, default, default, default, default, default, default, default, default, default, default, default, default)⟩ fun t => S t.1 t.2.1 t.2.2.1 t.2.2.2.1 t.2.2.2.2.1 t.2.2.2.2.2.1 t.2.2.2.2.2.2.1 t.2.2.2.2.2.2.2.1 t.2.2.2.2.2.2.2.2.1 t.2.2.2.2.2.2.2.2.2.1 t.2.2.2.2.2.2.2.2.2.2.1 t.2.2.2.2.2.2.2.2.2.2.2.1 t.2.2.2.2.2.2.2.2.2.2.2.2.1 t.2.2.2.2.2.2.2.2.2.2.2.2.2.1 t.2.2.2.2.2.2.2.2.2.2.2.2.2.2.1 t.2.2.2.2.2.2.2.2.2.2.2.2.2.2.2.1 t.2.2.2.2.2.2.2.2.2.2.2.2.2.2.2.2.1 t.2.2.2.2.2.2.2.2.2.2.2.2.2.2.2.2.2.1 t.2.2.2.2.2.2.2.2.2.2.2.2.2.2.2.2.2.2.1 t.2.2.2.2.2.2.2.2.2.2.2.2.2.2.2.2.2.2.2.1 t.2.2.2.2.2.2.2.2.2.2.2.2.2.2.2.2.2.2.2.2.1 t.2.2.2.2.2.2.2.2.2.2.2.2.2.2.2.2.2.2.2.2.2.1 t.2.2.2.2.2.2.2.2.2.2.2.2.2.2.2.2.2.2.2.2.2.2.1 t.2.2.2.2.2.2.2.2.2.2.2.2.2.2.2.2.2.2.2.2.2.2.2.1 t.2.2.2.2.2.2.2.2.2.2.2.2.2.2.2.2.2.2.2.2.2.2.2.2.1 t.2.2.2.2.2.2.2.2.2.2.2.2.2.2.2.2.2.2.2.2.2.2.2.2.2.1 t.2.2.2.2.2.2.2.2.2.2.2.2.2.2.2.2.2.2.2.2.2.2.2.2.2.2.1 t.2.2.2.2.2.2.2.2.2.2.2.2.2.2.2.2.2.2.2.2.2.2.2.2.2.2.2.1 t.2.2.2.2.2.2.2.2.2.2.2.2.2.2.2.2.2.2.2.2.2.2.2.2.2.2.2.2.1 t.2.2.2.2.2.2.2.2.2.2.2.2.2.2.2.2.2.2.2.2.2.2.2.2.2.2.2.2.2.1 t.2.2.2.2.2.2.2.2.2.2.2.2.2.2.2.2.2.2.2.2.2.2.2.2.2.2.2.2.2.2.1 t.2.2.2.2.2.2.2.2.2.2.2.2.2.2.2.2.2.2.2.2.2.2.2.2.2.2.2.2.2.2.2.1 t.2.2.2.2.2.2.2.2.2.2.2.2.2.2.2.2.2.2.2.2.2.2.2.2.2.2.2.2.2.2.2.2.1 t.2.2.2.2.2.2.2.2.2.2.2.2.2.2.2.2.2.2.2.2.2.2.2.2.2.2.2.2.2.2.2.2.2.1 t.2.2.2.2.2.2.2.2.2.2.2.2.2.2.2.2.2.2.2.2.2.2.2.2.2.2.2.2.2.2.2.2.2.2.1 t.2.2.2.2.2.2.2.2.2.2.2.2.2.2.2.2.2.2.2.2.2.2.2.2.2.2.2.2.2.2.2.2.2.2.2.1 t.2.2.2.2.2.2.2.2.2.2.2.2.2.2.2.2.2.2.2.2.2.2.2.2.2.2.2.2.2.2.2.2.2.2.2.2.1 t.2.2.2.2.2.2.2.2.2.2.2.2.2.2.2.2.2.2.2.2.2.2.2.2.2.2.2.2.2.2.2.2.2.2.2.2.2.1 t.2.2.2.2.2.2.2.2.2.2.2.2.2.2.2.2.2.2.2.2.2.2.2.2.2.2.2.2.2.2.2.2.2.2.2.2.2.2.1 t.2.2.2.2.2.2.2.2.2.2.2.2.2.2.2.2.2.2.2.2.2.2.2.2.2.2.2.2.2.2.2.2.2.2.2.2.2.2.2.1 t.2.2.2.2.2.2.2.2.2.2.2.2.2.2.2.2.2.2.2.2.2.2.2.2.2.2.2.2.2.2.2.2.2.2.2.2.2.2.2.2.1 t.2.2.2.2.2.2.2.2.2.2.2.2.2.2.2.2.2.2.2.2.2.2.2.2.2.2.2.2.2.2.2.2.2.2.2.2.2.2.2.2.2.1 t.2.2.2.2.2.2.2.2.2.2.2.2.2.2.2.2.2.2.2.2.2.2.2.2.2.2.2.2.2.2.2.2.2.2.2.2.2.2.2.2.2.2.1 t.2.2.2.2.2.2.2.2.2.2.2.2.2.2.2.2.2.2.2.2.2.2.2.2.2.2.2.2.2.2.2.2.2.2.2.2.2.2.2.2.2.2.2.1 t.2.2.2.2.2.2.2.2.2.2.2.2.2.2.2.2.2.2.2.2.2.2.2.2.2.2.2.2.2.2.2.2.2.2.2.2.2.2.2.2.2.2.2.2.1 t.2.2.2.2.2.2.2.2.2.2.2.2.2.2.2.2.2.2.2.2.2.2.2.2.2.2.2.2.2.2.2.2.2.2.2.2.2.2.2.2.2.2.2.2.2.1 t.2.2.2.2.2.2.2.2.2.2.2.2.2.2.2.2.2.2.2.2.2.2.2.2.2.2.2.2.2.2.2.2.2.2.2.2.2.2.2.2.2.2.2.2.2.2.1 t.2.2.2.2.2.2.2.2.2.2.2.2.2.2.2.2.2.2.2.2.2.2.2.2.2.2.2.2.2.2.2.2.2.2.2.2.2.2.2.2.2.2.2.2.2.2.2.1 t.2.2.2.2.2.2.2.2.2.2.2.2.2.2.2.2.2.2.2.2.2.2.2.2.2.2.2.2.2.2.2.2.2.2.2.2.2.2.2.2.2.2.2.2.2.2.2.2.1 t.2.2.2.2.2.2.2.2.2.2.2.2.2.2.2.2.2.2.2.2.2.2.2.2.2.2.2.2.2.2.2.2.2.2.2.2.2.2.2.2.2.2.2.2.2.2.2.2.2.1 t.2.2.2.2.2.2.2.2.2.2.2.2.2.2.2.2.2.2.2.2.2.2.2.2.2.2.2.2.2.2.2.2.2.2.2.2.2.2.2.2.2.2.2.2.2.2.2.2.2.2.1 t.2.2.2.2.2.2.2.2.2.2.2.2.2.2.2.2.2.2.2.2.2.2.2.2.2.2.2.2.2.2.2.2.2.2.2.2.2.2.2.2.2.2.2.2.2.2.2.2.2.2.2.1 t.2.2.2.2.2.2.2.2.2.2.2.2.2.2.2.2.2.2.2.2.2.2.2.2.2.2.2.2.2.2.2.2.2.2.2.2.2.2.2.2.2.2.2.2.2.2.2.2.2.2.2.2.1 t.2.2.2.2.2.2.2.2.2.2.2.2.2.2.2.2.2.2.2.2.2.2.2.2.2.2.2.2.2.2.2.2.2.2.2.2.2.2.2.2.2.2.2.2.2.2.2.2.2.2.2.2.2.1 t.2.2.2.2.2.2.2.2.2.2.2.2.2.2.2.2.2.2.2.2.2.2.2.2.2.2.2.2.2.2.2.2.2.2.2.2.2.2.2.2.2.2.2.2.2.2.2.2.2.2.2.2.2.2.1 t.2.2.2.2.2.2.2.2.2.2.2.2.2.2.2.2.2.2.2.2.2.2.2.2.2.2.2.2.2.2.2.2.2.2.2.2.2.2.2.2.2.2.2.2.2.2.2.2.2.2.2.2.2.2.2.1 t.2.2.2.2.2.2.2.2.2.2.2.2.2.2.2.2.2.2.2.2.2.2.2.2.2.2.2.2.2.2.2.2.2.2.2.2.2.2.2.2.2.2.2.2.2.2.2.2.2.2.2.2.2.2.2.2
noncomputable def c₀ : World × Program × (List Str) × (ExcName → Option Value) × (Str → Option Value) × (Str → Option Value) × Str × Addr × Addr × Addr × Addr × Addr × Addr × Addr × Addr × Addr × Addr × Obj × Obj × Obj × Obj × Obj × Obj × Nat × Nat × (Option (List Code)) × Str × Scope × Addr × Value × (List (Str × Addr)) × (List Env) × Around × Heap × Heap × Addr × (Str → Option Value) × (List (Addr × Obj)) × Shared × (Value → Shared → Prop) × (Value → Shared → Prop) × Nat × Nat × Tok × Tok × Tok × Tok × Tok × Tok × Tok × Int × Nat × (List Nat) × (List Nat) × (List Nat) × (List Nat) × Nat := (Classical.choice c₁).val
noncomputable def w : World := c₀.1
noncomputable def p : Program := c₀.2.1
noncomputable def loose : List Str := c₀.2.2.1
noncomputable def mean : ExcName → Option Value := c₀.2.2.2.1
noncomputable def mg : Str → Option Value := c₀.2.2.2.2.1
noncomputable def mb : Str → Option Value := c₀.2.2.2.2.2.1
noncomputable def text : Str := c₀.2.2.2.2.2.2.1
noncomputable def pb : Addr := c₀.2.2.2.2.2.2.2.1
noncomputable def x : Addr := c₀.2.2.2.2.2.2.2.2.1
noncomputable def d : Addr := c₀.2.2.2.2.2.2.2.2.2.1
noncomputable def sd : Addr := c₀.2.2.2.2.2.2.2.2.2.2.1
noncomputable def st : Addr := c₀.2.2.2.2.2.2.2.2.2.2.2.1
noncomputable def f : Addr := c₀.2.2.2.2.2.2.2.2.2.2.2.2.1
noncomputable def cf : Addr := c₀.2.2.2.2.2.2.2.2.2.2.2.2.2.1
noncomputable def la : Addr := c₀.2.2.2.2.2.2.2.2.2.2.2.2.2.2.1
noncomputable def cA : Addr := c₀.2.2.2.2.2.2.2.2.2.2.2.2.2.2.2.1
noncomputable def cT : Addr := c₀.2.2.2.2.2.2.2.2.2.2.2.2.2.2.2.2.1
noncomputable def oD : Obj := c₀.2.2.2.2.2.2.2.2.2.2.2.2.2.2.2.2.2.1
noncomputable def fo : Obj := c₀.2.2.2.2.2.2.2.2.2.2.2.2.2.2.2.2.2.2.1
noncomputable def fobj : Obj := c₀.2.2.2.2.2.2.2.2.2.2.2.2.2.2.2.2.2.2.2.1
noncomputable def ocf : Obj := c₀.2.2.2.2.2.2.2.2.2.2.2.2.2.2.2.2.2.2.2.2.1
noncomputable def oA : Obj := c₀.2.2.2.2.2.2.2.2.2.2.2.2.2.2.2.2.2.2.2.2.2.1
noncomputable def oT : Obj := c₀.2.2.2.2.2.2.2.2.2.2.2.2.2.2.2.2.2.2.2.2.2.2.1
noncomputable def dp : Nat := c₀.2.2.2.2.2.2.2.2.2.2.2.2.2.2.2.2.2.2.2.2.2.2.2.1
noncomputable def un : Nat := c₀.2.2.2.2.2.2.2.2.2.2.2.2.2.2.2.2.2.2.2.2.2.2.2.2.1
noncomputable def gd : Option (List Code) := c₀.2.2.2.2.2.2.2.2.2.2.2.2.2.2.2.2.2.2.2.2.2.2.2.2.2.1
noncomputable def cn : Str := c₀.2.2.2.2.2.2.2.2.2.2.2.2.2.2.2.2.2.2.2.2.2.2.2.2.2.2.1
noncomputable def cs : Scope := c₀.2.2.2.2.2.2.2.2.2.2.2.2.2.2.2.2.2.2.2.2.2.2.2.2.2.2.2.1
noncomputable def a : Addr := c₀.2.2.2.2.2.2.2.2.2.2.2.2.2.2.2.2.2.2.2.2.2.2.2.2.2.2.2.2.1
noncomputable def ccd : Value := c₀.2.2.2.2.2.2.2.2.2.2.2.2.2.2.2.2.2.2.2.2.2.2.2.2.2.2.2.2.2.1
noncomputable def cl : List (Str × Addr) := c₀.2.2.2.2.2.2.2.2.2.2.2.2.2.2.2.2.2.2.2.2.2.2.2.2.2.2.2.2.2.2.1
noncomputable def outer : List Env := c₀.2.2.2.2.2.2.2.2.2.2.2.2.2.2.2.2.2.2.2.2.2.2.2.2.2.2.2.2.2.2.2.1
noncomputable def A₀ : Around := c₀.2.2.2.2.2.2.2.2.2.2.2.2.2.2.2.2.2.2.2.2.2.2.2.2.2.2.2.2.2.2.2.2.1
noncomputable def base : Heap := c₀.2.2.2.2.2.2.2.2.2.2.2.2.2.2.2.2.2.2.2.2.2.2.2.2.2.2.2.2.2.2.2.2.2.1
noncomputable def h₀ : Heap := c₀.2.2.2.2.2.2.2.2.2.2.2.2.2.2.2.2.2.2.2.2.2.2.2.2.2.2.2.2.2.2.2.2.2.2.1
noncomputable def L : Addr := c₀.2.2.2.2.2.2.2.2.2.2.2.2.2.2.2.2.2.2.2.2.2.2.2.2.2.2.2.2.2.2.2.2.2.2.2.1
noncomputable def m : Str → Option Value := c₀.2.2.2.2.2.2.2.2.2.2.2.2.2.2.2.2.2.2.2.2.2.2.2.2.2.2.2.2.2.2.2.2.2.2.2.2.1
noncomputable def rest : List (Addr × Obj) := c₀.2.2.2.2.2.2.2.2.2.2.2.2.2.2.2.2.2.2.2.2.2.2.2.2.2.2.2.2.2.2.2.2.2.2.2.2.2.1
noncomputable def s : Shared := c₀.2.2.2.2.2.2.2.2.2.2.2.2.2.2.2.2.2.2.2.2.2.2.2.2.2.2.2.2.2.2.2.2.2.2.2.2.2.2.1
noncomputable def Q : Value → Shared → Prop := c₀.2.2.2.2.2.2.2.2.2.2.2.2.2.2.2.2.2.2.2.2.2.2.2.2.2.2.2.2.2.2.2.2.2.2.2.2.2.2.2.1
noncomputable def E : Value → Shared → Prop := c₀.2.2.2.2.2.2.2.2.2.2.2.2.2.2.2.2.2.2.2.2.2.2.2.2.2.2.2.2.2.2.2.2.2.2.2.2.2.2.2.2.1
noncomputable def k : Nat := c₀.2.2.2.2.2.2.2.2.2.2.2.2.2.2.2.2.2.2.2.2.2.2.2.2.2.2.2.2.2.2.2.2.2.2.2.2.2.2.2.2.2.1
noncomputable def n : Nat := c₀.2.2.2.2.2.2.2.2.2.2.2.2.2.2.2.2.2.2.2.2.2.2.2.2.2.2.2.2.2.2.2.2.2.2.2.2.2.2.2.2.2.2.1
noncomputable def t1 : Tok := c₀.2.2.2.2.2.2.2.2.2.2.2.2.2.2.2.2.2.2.2.2.2.2.2.2.2.2.2.2.2.2.2.2.2.2.2.2.2.2.2.2.2.2.2.1
noncomputable def t2 : Tok := c₀.2.2.2.2.2.2.2.2.2.2.2.2.2.2.2.2.2.2.2.2.2.2.2.2.2.2.2.2.2.2.2.2.2.2.2.2.2.2.2.2.2.2.2.2.1
noncomputable def t3 : Tok := c₀.2.2.2.2.2.2.2.2.2.2.2.2.2.2.2.2.2.2.2.2.2.2.2.2.2.2.2.2.2.2.2.2.2.2.2.2.2.2.2.2.2.2.2.2.2.1
noncomputable def t4 : Tok := c₀.2.2.2.2.2.2.2.2.2.2.2.2.2.2.2.2.2.2.2.2.2.2.2.2.2.2.2.2.2.2.2.2.2.2.2.2.2.2.2.2.2.2.2.2.2.2.1
noncomputable def u1 : Tok := c₀.2.2.2.2.2.2.2.2.2.2.2.2.2.2.2.2.2.2.2.2.2.2.2.2.2.2.2.2.2.2.2.2.2.2.2.2.2.2.2.2.2.2.2.2.2.2.2.1
noncomputable def u3 : Tok := c₀.2.2.2.2.2.2.2.2.2.2.2.2.2.2.2.2.2.2.2.2.2.2.2.2.2.2.2.2.2.2.2.2.2.2.2.2.2.2.2.2.2.2.2.2.2.2.2.2.1
noncomputable def u4 : Tok := c₀.2.2.2.2.2.2.2.2.2.2.2.2.2.2.2.2.2.2.2.2.2.2.2.2.2.2.2.2.2.2.2.2.2.2.2.2.2.2.2.2.2.2.2.2.2.2.2.2.2.1
noncomputable def ln : Int := c₀.2.2.2.2.2.2.2.2.2.2.2.2.2.2.2.2.2.2.2.2.2.2.2.2.2.2.2.2.2.2.2.2.2.2.2.2.2.2.2.2.2.2.2.2.2.2.2.2.2.2.1
noncomputable def i0 : Nat := c₀.2.2.2.2.2.2.2.2.2.2.2.2.2.2.2.2.2.2.2.2.2.2.2.2.2.2.2.2.2.2.2.2.2.2.2.2.2.2.2.2.2.2.2.2.2.2.2.2.2.2.2.1
noncomputable def D : List Nat := c₀.2.2.2.2.2.2.2.2.2.2.2.2.2.2.2.2.2.2.2.2.2.2.2.2.2.2.2.2.2.2.2.2.2.2.2.2.2.2.2.2.2.2.2.2.2.2.2.2.2.2.2.2.1
noncomputable def W : List Nat := c₀.2.2.2.2.2.2.2.2.2.2.2.2.2.2.2.2.2.2.2.2.2.2.2.2.2.2.2.2.2.2.2.2.2.2.2.2.2.2.2.2.2.2.2.2.2.2.2.2.2.2.2.2.2.1
noncomputable def C : List Nat := c₀.2.2.2.2.2.2.2.2.2.2.2.2.2.2.2.2.2.2.2.2.2.2.2.2.2.2.2.2.2.2.2.2.2.2.2.2.2.2.2.2.2.2.2.2.2.2.2.2.2.2.2.2.2.2.1
noncomputable def R : List Nat := c₀.2.2.2.2.2.2.2.2.2.2.2.2.2.2.2.2.2.2.2.2.2.2.2.2.2.2.2.2.2.2.2.2.2.2.2.2.2.2.2.2.2.2.2.2.2.2.2.2.2.2.2.2.2.2.2.1
noncomputable def w0 : Nat := c₀.2.2.2.2.2.2.2.2.2.2.2.2.2.2.2.2.2.2.2.2.2.2.2.2.2.2.2.2.2.2.2.2.2.2.2.2.2.2.2.2.2.2.2.2.2.2.2.2.2.2.2.2.2.2.2.2
theorem main : S w p loose mean mg mb text pb x d sd st f cf la cA cT oD fo fobj ocf oA oT dp un gd cn cs a ccd cl outer A₀ base h₀ L m rest s Q E k n t1 t2 t3 t4 u1 u3 u4 ln i0 D W C R w0 := by
  unfold S
  intro Mx zne zne2 hsz hD hDe hW hC hCn hw0 B F X N T hk hd hu hret
  have q1 := Mx.q1; have q2 := Mx.q2; have q3 := Mx.q3; have q4 := Mx.q4; have q5 := Mx.q5; have q6 := Mx.q6; have q7 := Mx.q7; have q8 := Mx.q8; have q9 := Mx.q9
  have hi0 : i0 ≤ text.length := by
    apply Nat.le_of_not_lt
    intro hh
    have : text.cps.toList.drop i0 = [] := List.drop_eq_nil_of_le (by rw [Array.length_toList]; exact Nat.le_of_lt hh)
    rw [hD, hDe] at this
    simp at this
  have hat : ∀ j, text.cps[i0 + j]? = D[j]? := fun j => by rw [← hD]; exact drop_at.symm
  unfold prg at *
  revert X Mx; k_fill; intro Mx X
  refine wpAny_call ?_
  k_dflt ktr_enter
  k_steps
  all_goals try (refine Stop.mk ?_; (k_dflt (refine' call_iter2 ?kF_u400 ?kN_u400 ?kT_u400 ?_; (case kF_u400 => k_asm); (case kN_u400 => k_asm); (case kT_u400 => exact ⟨_, (News.get (by k_asm) (by k_mem)), rfl⟩)); intro I' h' F' N' l1; (try k_lt l1)); k_steps)
  refine Stop.mk ?_
  rename_i g L4 h4 FG BG XG TG q1' e1' q2' e2' q3' e3' h3 q4' e4' q' h2 lq h' F' N'
  have lI := l1
  clear l1
  have zI : ∀ q ∈ rest, @Ne Nat q.1 I' := ne_of_allLt lI.2.2.2.2.2.2.2.2.2.2.2 (Nat.le_refl _)
  refine fr_name F' fun m₀ hm _ => ?_
  k_dflt (refine' For_cit (env := envX (Str.ofString "_netrclex.get_token") _ L4 115 (.ref 114) []) Mx (m₀ := m₀) (base := base) (h₀ := g) (lnAt := lnC ln D) (i0 := i0) (fun j m₁ => j ≤ W.length ∧ ∀ z, z ≠ Str.ofString "ch" → m₁ z = m₀ z) zne zne2 zI lq.1 lI.1 hsz hi0 ?kx ?kp BG XG TG ?kk ?kd ?ku ?kl ?k1 ?k2 ?k3 ?ks ?kE)
  case kx => exact rfl
  case kp => exact rfl
  case kk => exact rfl
  case ks => intro _; exact rfl
  case kE => passes_own
  case kd => first | ktr_room | (show dp + 1 + 10 < _; omega)
  case ku => first | ktr_units | (show _ < _; omega)
  case kl =>
    intro j c hc
    exact lnC_succ (by rw [← hat]; exact hc)
  case k1 =>

    subst hm
    refine stop_post ?_
    k_steps
    all_goals try (refine Stop.mk ?_; (k_dflt (refine' call_iter2 ?kF_u401 ?kN_u401 ?kT_u401 ?_; (case kF_u401 => k_asm); (case kN_u401 => k_asm); (case kT_u401 => exact ⟨_, (News.get (by k_asm) (by k_mem)), rfl⟩)); intro I' h' F' N' l1; (try k_lt l1)); k_steps)
    refine Stop.mk ⟨rfl, ⟨_, _, _, _, rfl, by k_asm, by rw [lnC_zero]; k_asm⟩, Nat.zero_le _, fun _ _ => rfl⟩
  case k3 =>
    intro j m₁ a1 a4 h₃ tk₃ hJ hc _ _
    rw [hat] at hc
    exact absurd hc (drop_some hDe hJ.1)
  case k2 =>

    intro j c m₁ a1 a4 a5 h₃ tk₃ hJ hc F1 N1
    rw [map_eq hJ.2] at F1
    rw [hat] at hc
    have hj := hJ.1
    clear hJ F' N'
    subst hm
    rcases char_at hDe hc hj hW hCn with ⟨hlt, hcw⟩ | ⟨hje, C', hCe⟩
    · refine stop_post ?_
      k_steps
      all_goals try (refine Stop.mk ?_; (k_dflt (refine' call_iter2 ?kF_u402 ?kN_u402 ?kT_u402 ?_; (case kF_u402 => k_asm); (case kN_u402 => k_asm); (case kT_u402 => exact ⟨_, (News.get (by k_asm) (by k_mem)), rfl⟩)); intro I' h' F' N' l1; (try k_lt l1)); k_steps)
      try dsimp only
      refine Stop.mk ⟨_, ⟨_, _, _, _, rfl, by k_asm, by k_asm⟩, hlt, fun z hz => if_neg hz⟩
    · obtain ⟨hcw, hcq, hcb⟩ := hC c (by rw [hCe]; exact .head _)
      have hcq := quo_ne hcq
      have hcb := bsl_ne hcb
      subst hje
      refine stop_post ?_
      k_steps
      all_goals try (refine Stop.mk ?_; (k_dflt (refine' call_iter2 ?kF_u403 ?kN_u403 ?kT_u403 ?_; (case kF_u403 => k_asm); (case kN_u403 => k_asm); (case kT_u403 => exact ⟨_, (News.get (by k_asm) (by k_mem)), rfl⟩)); intro I' h' F' N' l1; (try k_lt l1)); k_steps)
      refine Stop.mk ?_
      clear F1 N1 h₃ tk₃
      rename_i F2 N2
      refine fr_name F2 fun m₂ hm2 _ => ?_
      k_dflt (refine' For_cit (env := envX (Str.ofString "_netrclex.get_token") _ L4 115 (.ref 114) []) Mx (m₀ := m₂) (base := base) (h₀ := g) (lnAt := fun jj => lnC ln D (W.length + 1 + jj)) (i0 := i0 + (W.length + 1)) (fun jj m₁ => jj + 1 ≤ C.length ∧ ∃ t, ∀ z, z ≠ Str.ofString "ch" → m₁ z = if z = Str.ofString "token" then some (.str ⟨(C.take (jj + 1)).toArray⟩ t) else m₂ z) zne zne2 zI lq.1 lI.1 hsz ?kz ?kx ?kp BG XG TG ?kk ?kd ?ku ?kl ?k1 ?k2 ?k3 ?ks ?kE)
      case kx => exact rfl
      case kp => exact rfl
      case kk => exact rfl
      case ks => intro _; exact rfl
      case kE => passes_own
      case kz => exact tok_room hD hDe
      case kd => first | ktr_room | (show dp + 1 + 10 < _; omega)
      case ku => first | ktr_units | (show _ < _; omega)
      case kl =>
        intro jj c hc
        exact lnC_succ (by rw [← hat]; show text.cps[i0 + (W.length + 1 + jj)]? = _; rw [← Nat.add_assoc]; exact hc)
      case k1 =>
        subst hm2
        refine stop_post ?_
        k_steps
        all_goals try (refine Stop.mk ?_; (k_dflt (refine' call_iter2 ?kF_u404 ?kN_u404 ?kT_u404 ?_; (case kF_u404 => k_asm); (case kN_u404 => k_asm); (case kT_u404 => exact ⟨_, (News.get (by k_asm) (by k_mem)), rfl⟩)); intro I' h' F' N' l1; (try k_lt l1)); k_steps)
        refine Stop.mk ⟨rfl, ⟨_, _, _, _, rfl, by k_asm, by k_asm⟩, by rw [hCe]; exact Nat.succ_le_succ (Nat.zero_le _), _, tok_map ((if_pos rfl).trans (by rw [hCe]; rfl))⟩
      case k3 =>
        intro jj m₁ b1 b4 h₃ tk₃ hJ hc _ _
        rw [Nat.add_assoc, hat] at hc
        exact absurd hc (drop_some2 hDe hJ.1)
      case k2 =>
        intro jj c₁ m₁ b1 b4 b5 h₃ tk₃ hJ hc F1 N1
        obtain ⟨hjj, tt, hJ⟩ := hJ
        rw [map_eq hJ] at F1
        rw [Nat.add_assoc, hat] at hc
        subst hm2
        rcases char_at2 hDe hc hjj with ⟨hlt, hct⟩ | ⟨hje, rfl⟩
        · obtain ⟨hcw, hcq, hcb⟩ := hC c₁ (List.mem_of_getElem? hct)
          have hcb := bsl_ne hcb
          have hz := take_fits (j := jj + 1) hD hDe hsz
          refine stop_post ?_
          k_steps
          all_goals try (refine Stop.mk ?_; (k_dflt (refine' call_iter2 ?kF_u405 ?kN_u405 ?kT_u405 ?_; (case kF_u405 => k_asm); (case kN_u405 => k_asm); (case kT_u405 => exact ⟨_, (News.get (by k_asm) (by k_mem)), rfl⟩)); intro I' h' F' N' l1; (try k_lt l1)); k_steps)
          try dsimp only
          refine Stop.mk ⟨_, ⟨_, _, _, _, rfl, by k_asm, by k_asm⟩, hlt, _, tok_map2 (take_more hct)⟩
        · have e1 : W.length + 1 + (jj + 1) = W.length + C.length + 1 := by omega
          have e2 : i0 + (W.length + 1) + (jj + 1) = i0 + (W.length + C.length + 1) := by omega
          have e3 : C.take (jj + 1) = C := List.take_of_length_le (by omega)
          dsimp only at N1
          rw [e1, e2] at N1
          rw [e3] at F1
          refine stop_post ?_
          k_steps
          all_goals try (refine Stop.mk ?_; (k_dflt (refine' call_iter2 ?kF_u406 ?kN_u406 ?kT_u406 ?_; (case kF_u406 => k_asm); (case kN_u406 => k_asm); (case kT_u406 => exact ⟨_, (News.get (by k_asm) (by k_mem)), rfl⟩)); intro I' h' F' N' l1; (try k_lt l1)); k_steps)
          try dsimp only
          refine Stop.mk ?_
          k_steps
          all_goals try (refine Stop.mk ?_; (k_dflt (refine' call_iter2 ?kF_u407 ?kN_u407 ?kT_u407 ?_; (case kF_u407 => k_asm); (case kN_u407 => k_asm); (case kT_u407 => exact ⟨_, (News.get (by k_asm) (by k_mem)), rfl⟩)); intro I' h' F' N' l1; (try k_lt l1)); k_steps)
          refine Stop.mk ?_
          try dsimp only [qk]
          k_steps
          all_goals try (refine Stop.mk ?_; (k_dflt (refine' call_iter2 ?kF_u408 ?kN_u408 ?kT_u408 ?_; (case kF_u408 => k_asm); (case kN_u408 => k_asm); (case kT_u408 => exact ⟨_, (News.get (by k_asm) (by k_mem)), rfl⟩)); intro I' h' F' N' l1; (try k_lt l1)); k_steps)
          rename_i kF kN _ _
          exact hret _ _ _ _ _ kF (News.tail' (News.tail' kN))
end tok_t
theorem tok_t {w : World} {p : Program} {loose : List Str} {mean : ExcName → Option Value} {mg mb : Str → Option Value} {text : Str} {pb x d sd st f cf la cA cT : Addr} {oD fo fobj ocf oA oT : Obj}
    (Mx : Mach w p loose mean mg mb text pb x d sd st f cf la cA cT oD fo fobj ocf oA oT)
    {dp un : Nat} {gd : Option (List Code)} {cn : Str} {cs : Scope} {a : Addr} {ccd : Value} {cl : List (Str × Addr)} {outer : List Env} {A₀ : Around} {base h₀ : Heap} {L : Addr} {m : Str → Option Value} {rest : List (Addr × Obj)} {s : Shared}
    {Q E : Value → Shared → Prop} {k n : Nat} {t1 t2 t3 t4 u1 u3 u4 : Tok} {ln : Int} {i0 : Nat} (zne : ∀ q ∈ rest, @Ne Nat q.1 la) (zne2 : ∀ q ∈ rest, @Ne Nat q.1 d) (hsz : text.length ≤ 900)
    {D W C R : List Nat} {w0 : Nat} (hD : text.cps.toList.drop i0 = D) (hDe : D = W ++ (C ++ w0 :: R)) (hW : ∀ c ∈ W, isWs c = true) (hC : ∀ c ∈ C, isWs c = false ∧ c ≠ 34 ∧ c ≠ 92) (hCn : C ≠ []) (hw0 : isWs w0 = true)
    (B : Below A₀ base outer h₀) (F : Fr h₀ L s.heap m) (X : (hd.heap_39 w.params).In h₀) (N : News h₀ L s.heap ((pb, listOf #[] k) :: (x, instObj 125 d) :: (d, dictOf [mcEnt w "lineno" t1 (.int ln u1), mcEnt w "instream" t2 (.ref st), mcEnt w "whitespace" t3 (.str (Str.ofString "\n\t\r ") u3), mcEnt w "pushback" t4 (.ref pb)] 4) :: (sd, oD) :: (st, fo) :: (f, fobj) :: (cf, ocf) :: (la, listOf #[.int (i0 : Nat) u4] n) :: (cA, oA) :: (cT, oT) :: rest)) (T : Top p loose mean mg mb h₀) (hk : cs.kind = .function) (hd : dp + 20 < recursionLimit) (hu : un + 400 < cLine)
    (hret : ∀ h' tk' t u1 u4, Fr h₀ L h' m → News h₀ L h' ((pb, listOf #[] k) :: (x, instObj 125 d) :: (d, dictOf [mcEnt w "lineno" t1 (.int (lnC ln D (W.length + C.length + 1)) u1), mcEnt w "instream" t2 (.ref st), mcEnt w "whitespace" t3 (.str (Str.ofString "\n\t\r ") u3), mcEnt w "pushback" t4 (.ref pb)] 4) :: (sd, oD) :: (st, fo) :: (f, fobj) :: (cf, ocf) :: (la, listOf #[.int ((i0 + (W.length + C.length + 1) : Nat) : Int) u4] n) :: (cA, oA) :: (cT, oT) :: rest) → Q (.str ⟨C.toArray⟩ t) { s with heap := h', toks := tk' }) :
    wpAny (model prg w) (ktrTop dp un gd cn cs L a ccd cl outer) (call (.ref 115) [.ref x]) Q E s :=
  (Classical.choice tok_t.c₁).property tok_t.main (w, p, loose, mean, mg, mb, text, pb, x, d, sd, st, f, cf, la, cA, cT, oD, fo, fobj, ocf, oA, oT, dp, un, gd, cn, cs, a, ccd, cl, outer, A₀, base, h₀, L, m, rest, s, Q, E, k, n, t1, t2, t3, t4, u1, u3, u4, ln, i0, D, W, C, R, w0) Mx zne zne2 hsz hD hDe hW hC hCn hw0 B F X N T hk hd hu hret
namespace eof_t
noncomputable def S (w : World) (p : Program) (loose : List Str) (mean : ExcName → Option Value) (mg : Str → Option Value) (mb : Str → Option Value) (text : Str) (pb : Addr) (x : Addr) (d : Addr) (sd : Addr) (st : Addr) (f : Addr) (cf : Addr) (la : Addr) (cA : Addr) (cT : Addr) (oD : Obj) (fo : Obj) (fobj : Obj) (ocf : Obj) (oA : Obj) (oT : Obj) (dp : Nat) (un : Nat) (gd : Option (List Code)) (cn : Str) (cs : Scope) (a : Addr) (ccd : Value) (cl : List (Str × Addr)) (outer : List Env) (A₀ : Around) (base : Heap) (h₀ : Heap) (L : Addr) (m : Str → Option Value) (rest : List (Addr × Obj)) (s : Shared) (Q : Value → Shared → Prop) (E : Value → Shared → Prop) (k : Nat) (n : Nat) (t1 : Tok) (t2 : Tok) (t3 : Tok) (t4 : Tok) (u1 : Tok) (u3 : Tok) (u4 : Tok) (ln : Int) (i0 : Nat) (D : List Nat) : Prop :=
  ∀ (Mx : Mach w p loose mean mg mb text pb x d sd st f cf la cA cT oD fo fobj ocf oA oT)  (zne : ∀ q ∈ rest, @Ne Nat q.1 la)  (zne2 : ∀ q ∈ rest, @Ne Nat q.1 d)  (hsz : text.length ≤ 900)  (hD : text.cps.toList.drop i0 = D)  (hi0 : i0 ≤ text.length)  (hW : ∀ c ∈ D, isWs c = true)  (B : Below A₀ base outer h₀)  (F : Fr h₀ L s.heap m)  (X : (hd.heap_39 w.params).In h₀)  (N : News h₀ L s.heap ((pb, listOf #[] k) :: (x, instObj 125 d) :: (d, dictOf [mcEnt w "lineno" t1 (.int ln u1), mcEnt w "instream" t2 (.ref st), mcEnt w "whitespace" t3 (.str (Str.ofString "\n\t\r ") u3), mcEnt w "pushback" t4 (.ref pb)] 4) :: (sd, oD) :: (st, fo) :: (f, fobj) :: (cf, ocf) :: (la, listOf #[.int (i0 : Nat) u4] n) :: (cA, oA) :: (cT, oT) :: rest))  (T : Top p loose mean mg mb h₀)  (hk : cs.kind = .function)  (hd : dp + 20 < recursionLimit)  (hu : un + 400 < cLine)  (hret : ∀ h' tk' t u1 u4, Fr h₀ L h' m → News h₀ L h' ((pb, listOf #[] k) :: (x, instObj 125 d) :: (d, dictOf [mcEnt w "lineno" t1 (.int (lnC ln D D.length) u1), mcEnt w "instream" t2 (.ref st), mcEnt w "whitespace" t3 (.str (Str.ofString "\n\t\r ") u3), mcEnt w "pushback" t4 (.ref pb)] 4) :: (sd, oD) :: (st, fo) :: (f, fobj) :: (cf, ocf) :: (la, listOf #[.int ((i0 + D.length : Nat) : Int) u4] n) :: (cA, oA) :: (cT, oT) :: rest) → Q (.str Str.empty t) { s with heap := h', toks := tk' }),
    wpAny (model prg w) (ktrTop dp un gd cn cs L a ccd cl outer) (call (.ref 115) [.ref x]) Q E s
theorem c₁ : Nonempty {t : World × Program × (List Str) × (ExcName → Option Value) × (Str → Option Value) × (Str → Option Value) × Str × Addr × Addr × Addr × Addr × Addr × Addr × Addr × Addr × Addr × Addr × Obj × Obj × Obj × Obj × Obj × Obj × Nat × Nat × (Option (List Code)) × Str × Scope × Addr × Value × (List (Str × Addr)) × (List Env) × Around × Heap × Heap × Addr × (Str → Option Value) × (List (Addr × Obj)) × Shared × (Value → Shared → Prop) × (Value → Shared → Prop) × Nat × Nat × Tok × Tok × Tok × Tok × Tok × Tok × Tok × Int × Nat × (List Nat) // S t.1 t.2.1 t.2.2.1 t.2.2.2.1 t.2.2.2.2.1 t.2.2.2.2.2.1 t.2.2.2.2.2.2.1 t.2.2.2.2.2.2.2.1 t.2.2.2.2.2.2.2.2.1 t.2.2.2.2.2.2.2.2.2.1 t.2.2.2.2.2.2.2.2.2.2.1 t.2.2.2.2.2.2.2.2.2.2.2.1 t.2.2.2.2.2.2.2.2.2.2.2.2.1 t.2.2.2.2.2.2.2.2.2.2.2.2.2.1 t.2.2.2.2.2.2.2.2.2.2.2.2.2.2.1 t.2.2.2.2.2.2.2.2.2.2.2.2.2.2.2.1 t.2.2.2.2.2.2.2.2.2.2.2.2.2.2.2.2.1 t.2.2.2.2.2.2.2.2.2.2.2.2.2.2.2.2.2.1 t.2.2.2.2.2.2.2.2.2.2.2.2.2.2.2.2.2.2.1 t.2.2.2.2.2.2.2.2.2.2.2.2.2.2.2.2.2.2.2.1 t.2.2.2.2.2.2.2.2.2.2.2.2.2.2.2.2.2.2.2.2.1 t.2.2.2.2.2.2.2.2.2.2.2.2.2.2.2.2.2.2.2.2.2.1 t.2.2.2.2.2.2.2.2.2.2.2.2.2.2.2.2.2.2.2.2.2.2.1 t.2.2.2.2.2.2.2.2.2.2.2.2.2.2.2.2.2.2.2.2.2.2.2.1 t.2.2.2.2.2.2.2.2.2.2.2.2.2.2.2.2.2.2.2.2.2.2.2.2.1 t.2.2.2.2.2.2.2.2.2.2.2.2.2.2.2.2.2.2.2.2.2.2.2.2.2.1 t.2.2.2.2.2.2.2.2.2.2.2.2.2.2.2.2.2.2.2.2.2.2.2.2.2.2.1 t.2.2.2.2.2.2.2.2.2.2.2.2.2.2.2.2.2.2.2.2.2.2.2.2.2.2.2.1 t.2.2.2.2.2.2.2.2.2.2.2.2.2.2.2.2.2.2.2.2.2.2.2.2.2.2.2.2.1 t.2.2.2.2.2.2.2.2.2.2.2.2.2.2.2.2.2.2.2.2.2.2.2.2.2.2.2.2.2.1 t.2.2.2.2.2.2.2.2.2.2.2.2.2.2.2.2.2.2.2.2.2.2.2.2.2.2.2.2.2.2.1 t.2.2.2.2.2.2.2.2.2.2.2.2.2.2.2.2.2.2.2.2.2.2.2.2.2.2.2.2.2.2.2.1 t.2.2.2.2.2.2.2.2.2.2.2.2.2.2.2.2.2.2.2.2.2.2.2.2.2.2.2.2.2.2.2.2.1 t.2.2.2.2.2.2.2.2.2.2.2.2.2.2.2.2.2.2.2.2.2.2.2.2.2.2.2.2.2.2.2.2.2.1 t.2.2.2.2.2.2.2.2.2.2.2.2.2.2.2.2.2.2.2.2.2.2.2.2.2.2.2.2.2.2.2.2.2.2.1 t.2.2.2.2.2.2.2.2.2.2.2.2.2.2.2.2.2.2.2.2.2.2.2.2.2.2.2.2.2.2.2.2.2.2.2.1 t.2.2.2.2.2.2.2.2.2.2.2.2.2.2.2.2.2.2.2.2.2.2.2.2.2.2.2.2.2.2.2.2.2.2.2.2.1 t.2.2.2.2.2.2.2.2.2.2.2.2.2.2.2.2.2.2.2.2.2.2.2.2.2.2.2.2.2.2.2.2.2.2.2.2.2.1 t.2.2.2.2.2.2.2.2.2.2.2.2.2.2.2.2.2.2.2.2.2.2.2.2.2.2.2.2.2.2.2.2.2.2.2.2.2.2.1 t.2.2.2.2.2.2.2.2.2.2.2.2.2.2.2.2.2.2.2.2.2.2.2.2.2.2.2.2.2.2.2.2.2.2.2.2.2.2.2.1 t.2.2.2.2.2.2.2.2.2.2.2.2.2.2.2.2.2.2.2.2.2.2.2.2.2.2.2.2.2.2.2.2.2.2.2.2.2.2.2.2.1 t.2.2.2.2.2.2.2.2.2.2.2.2.2.2.2.2.2.2.2.2.2.2.2.2.2.2.2.2.2.2.2.2.2.2.2.2.2.2.2.2.2.1 t.2.2.2.2.2.2.2.2.2.2.2.2.2.2.2.2.2.2.2.2.2.2.2.2.2.2.2.2.2.2.2.2.2.2.2.2.2.2.2.2.2.2.1 t.2.2.2.2.2.2.2.2.2.2.2.2.2.2.2.2.2.2.2.2.2.2.2.2.2.2.2.2.2.2.2.2.2.2.2.2.2.2.2.2.2.2.2.1 t.2.2.2.2.2.2.2.2.2.2.2.2.2.2.2.2.2.2.2.2.2.2.2.2.2.2.2.2.2.2.2.2.2.2.2.2.2.2.2.2.2.2.2.2.1 t.2.2.2.2.2.2.2.2.2.2.2.2.2.2.2.2.2.2.2.2.2.2.2.2.2.2.2.2.2.2.2.2.2.2.2.2.2.2.2.2.2.2.2.2.2.1 t.2.2.2.2.2.2.2.2.2.2.2.2.2.2.2.2.2.2.2.2.2.2.2.2.2.2.2.2.2.2.2.2.2.2.2.2.2.2.2.2.2.2.2.2.2.2.1 t.2.2.2.2.2.2.2.2.2.2.2.2.2.2.2.2.2.2.2.2.2.2.2.2.2.2.2.2.2.2.2.2.2.2.2.2.2.2.2.2.2.2.2.2.2.2.2.1 t.2.2.2.2.2.2.2.2.2.2.2.2.2.2.2.2.2.2.2.2.2.2.2.2.2.2.2.2.2.2.2.2.2.2.2.2.2.2.2.2.2.2.2.2.2.2.2.2.1 t.2.2.2.2.2.2.2.2.2.2.2.2.2.2.2.2.2.2.2.2.2.2.2.2.2.2.2.2.2.2.2.2.2.2.2.2.2.2.2.2.2.2.2.2.2.2.2.2.2.1 t.2.2.2.2.2.2.2.2.2.2.2.2.2.2.2.2.2.2.2.2.2.2.2.2.2.2.2.2.2.2.2.2.2.2.2.2.2.2.2.2.2.2.2.2.2.2.2.2.2.2.1 t.2.2.2.2.2.2.2.2.2.2.2.2.2.2.2.2.2.2.2.2.2.2.2.2.2.2.2.2.2.2.2.2.2.2.2.2.2.2.2.2.2.2.2.2.2.2.2.2.2.2.2.1 t.2.2.2.2.2.2.2.2.2.2.2.2.2.2.2.2.2.2.2.2.2.2.2.2.2.2.2.2.2.2.2.2.2.2.2.2.2.2.2.2.2.2.2.2.2.2.2.2.2.2.2.2 → ∀ t : World × Program × (List Str) × (ExcName → Option Value) × (Str → Option Value) × (Str → Option Value) × Str × Addr × Addr × Addr × Addr × Addr × Addr × Addr × Addr × Addr × Addr × Obj × Obj × Obj × Obj × Obj × Obj × Nat × Nat × (Option (List Code)) × Str × Scope × Addr × Value × (List (Str × Addr)) × (List Env) × Around × Heap × Heap × Addr × (Str → Option Value) × (List (Addr × Obj)) × Shared × (Value → Shared → Prop) × (Value → Shared → Prop) × Nat × Nat × Tok × Tok × Tok × Tok × Tok × Tok × Tok × Int × Nat × (List Nat), S t.1 t.2.1 t.2.2.1 t.2.2.2.1 t.2.2.2.2.1 t.2.2.2.2.2.1 t.2.2.2.2.2.2.1 t.2.2.2.2.2.2.2.1 t.2.2.2.2.2.2.2.2.1 t.2.2.2.2.2.2.2.2.2.1 t.2.2.2.2.2.2.2.2.2.2.1 t.2.2.2.2.2.2.2.2.2.2.2.1 t.2.2.2.2.2.2.2.2.2.2.2.2.1 t.2.2.2.2.2.2.2.2.2.2.2.2.2.1 t.2.2.2.2.2.2.2.2.2.2.2.2.2.2.1 t.2.2.2.2.2.2.2.2.2.2.2.2.2.2.2.1 t.2.2.2.2.2.2.2.2.2.2.2.2.2.2.2.2.1 t.2.2.2.2.2.2.2.2.2.2.2.2.2.2.2.2.2.1 t.2.2.2.2.2.2.2.2.2.2.2.2.2.2.2.2.2.2.1 t.2.2.2.2.2.2.2.2.2.2.2.2.2.2.2.2.2.2.2.1 t.2.2.2.2.2.2.2.2.2.2.2.2.2.2.2.2.2.2.2.2.1 t.2.2.2.2.2.2.2.2.2.2.2.2.2.2.2.2.2.2.2.2.2.1 t.2.2.2.2.2.2.2.2.2.2.2.2.2.2.2.2.2.2.2.2.2.2.1 t.2.2.2.2.2.2.2.2.2.2.2.2.2.2.2.2.2.2.2.2.2.2.2.1 t.2.2.2.2.2.2.2.2.2.2.2.2.2.2.2.2.2.2.2.2.2.2.2.2.1 t.2.2.2.2.2.2.2.2.2.2.2.2.2.2.2.2.2.2.2.2.2.2.2.2.2.1 t.2.2.2.2.2.2.2.2.2.2.2.2.2.2.2.2.2.2.2.2.2.2.2.2.2.2.1 t.2.2.2.2.2.2.2.2.2.2.2.2.2.2.2.2.2.2.2.2.2.2.2.2.2.2.2.1 t.2.2.2.2.2.2.2.2.2.2.2.2.2.2.2.2.2.2.2.2.2.2.2.2.2.2.2.2.1 t.2.2.2.2.2.2.2.2.2.2.2.2.2.2.2.2.2.2.2.2.2.2.2.2.2.2.2.2.2.1 t.2.2.2.2.2.2.2.2.2.2.2.2.2.2.2.2.2.2.2.2.2.2.2.2.2.2.2.2.2.2.1 t.2.2.2.2.2.2.2.2.2.2.2.2.2.2.2.2.2.2.2.2.2.2.2.2.2.2.2.2.2.2.2.1 t.2.2.2.2.2.2.2.2.2.2.2.2.2.2.2.2.2.2.2.2.2.2.2.2.2.2.2.2.2.2.2.2.1 t.2.2.2.2.2.2.2.2.2.2.2.2.2.2.2.2.2.2.2.2.2.2.2.2.2.2.2.2.2.2.2.2.2.1 t.2.2.2.2.2.2.2.2.2.2.2.2.2.2.2.2.2.2.2.2.2.2.2.2.2.2.2.2.2.2.2.2.2.2.1 t.2.2.2.2.2.2.2.2.2.2.2.2.2.2.2.2.2.2.2.2.2.2.2.2.2.2.2.2.2.2.2.2.2.2.2.1 t.2.2.2.2.2.2.2.2.2.2.2.2.2.2.2.2.2.2.2.2.2.2.2.2.2.2.2.2.2.2.2.2.2.2.2.2.1 t.2.2.2.2.2.2.2.2.2.2.2.2.2.2.2.2.2.2.2.2.2.2.2.2.2.2.2.2.2.2.2.2.2.2.2.2.2.1 t.2.2.2.2.2.2.2.2.2.2.2.2.2.2.2.2.2.2.2.2.2.2.2.2.2.2.2.2.2.2.2.2.2.2.2.2.2.2.1 t.2.2.2.2.2.2.2.2.2.2.2.2.2.2.2.2.2.2.2.2.2.2.2.2.2.2.2.2.2.2.2.2.2.2.2.2.2.2.2.1 t.2.2.2.2.2.2.2.2.2.2.2.2.2.2.2.2.2.2.2.2.2.2.2.2.2.2.2.2.2.2.2.2.2.2.2.2.2.2.2.2.1 t.2.2.2.2.2.2.2.2.2.2.2.2.2.2.2.2.2.2.2.2.2.2.2.2.2.2.2.2.2.2.2.2.2.2.2.2.2.2.2.2.2.1 t.2.2.2.2.2.2.2.2.2.2.2.2.2.2.2.2.2.2.2.2.2.2.2.2.2.2.2.2.2.2.2.2.2.2.2.2.2.2.2.2.2.2.1 t.2.2.2.2.2.2.2.2.2.2.2.2.2.2.2.2.2.2.2.2.2.2.2.2.2.2.2.2.2.2.2.2.2.2.2.2.2.2.2.2.2.2.2.1 t.2.2.2.2.2.2.2.2.2.2.2.2.2.2.2.2.2.2.2.2.2.2.2.2.2.2.2.2.2.2.2.2.2.2.2.2.2.2.2.2.2.2.2.2.1 t.2.2.2.2.2.2.2.2.2.2.2.2.2.2.2.2.2.2.2.2.2.2.2.2.2.2.2.2.2.2.2.2.2.2.2.2.2.2.2.2.2.2.2.2.2.1 t.2.2.2.2.2.2.2.2.2.2.2.2.2.2.2.2.2.2.2.2.2.2.2.2.2.2.2.2.2.2.2.2.2.2.2.2.2.2.2.2.2.2.2.2.2.2.1 t.2.2.2.2.2.2.2.2.2.2.2.2.2.2.2.2.2.2.2.2.2.2.2.2.2.2.2.2.2.2.2.2.2.2.2.2.2.2.2.2.2.2.2.2.2.2.2.1 t.2.2.2.2.2.2.2.2.2.2.2.2.2.2.2.2.2.2.2.2.2.2.2.2.2.2.2.2.2.2.2.2.2.2.2.2.2.2.2.2.2.2.2.2.2.2.2.2.1 t.2.2.2.2.2.2.2.2.2.2.2.2.2.2.2.2.2.2.2.2.2.2.2.2.2.2.2.2.2.2.2.2.2.2.2.2.2.2.2.2.2.2.2.2.2.2.2.2.2.1 t.2.2.2.2.2.2.2.2.2.2.2.2.2.2.2.2.2.2.2.2.2.2.2.2.2.2.2.2.2.2.2.2.2.2.2.2.2.2.2.2.2.2.2.2.2.2.2.2.2.2.1 t.2.2.2.2.2.2.2.2.2.2.2.2.2.2.2.2.2.2.2.2.2.2.2.2.2.2.2.2.2.2.2.2.2.2.2.2.2.2.2.2.2.2.2.2.2.2.2.2.2.2.2.1 t.2.2.2.2.2.2.2.2.2.2.2.2.2.2.2.2.2.2.2.2.2.2.2.2.2.2.2.2.2.2.2.2.2.2.2.2.2.2.2.2.2.2.2.2.2.2.2.2.2.2.2.2} := eps_ex ⟨(⟨fun _ _ => 0, { strHash := fun _ => 0, shareClass := fun _ => 0, mergeTok := fun _ => default, idOf := fun _ => 0, idOfShared := fun _ _ => 0, followText := fun _ => true, idOfImm := fun _ => 0 }⟩, default, default, default, default, default, default, default, default, default, default, default, default, default, default, default, default, default, default, default, default, default, default, default, default, default, default, default, default, default, default, default, {}, default, default, default, default, default, {}, default, default, default, default, default, default, default, default, default, default, default, default, default, default)⟩ fun t => S t.1 t.2.1 t.2.2.1 t.2.2.2.1 t.2.2.2.2.1 t.2.2.2.2.2.1 t.2.2.2.2.2.2.1 t.2.2.2.2.2.2.2.1 t.2.2.2.2.2.2.2.2.1 t.2.2.2.2.2.2.2.2.2.1 t.2.2.2.2.2.2.2.2.2.2.1 t.2.2.2.2.2.2.2.2.2.2.2.1 t.2.2.2.2.2.2.2.2.2.2.2.2.1 t.2.2.2.2.2.2.2.2.2.2.2.2.2.1 t.2.2.2.2.2.2.2.2.2.2.2.2.2.2.1 t.2.2.2.2.2.2.2.2.2.2.2.2.2.2.2.1 t.2.2.2.2.2.2.2.2.2.2.2.2.2.2.2.2.1 t.2.2.2.2.2.2.2.2.2.2.2.2.2.2.2.2.2.1 t.2.2.2.2.2.2.2.2.2.2.2.2.2.2.2.2.2.2.1 t.2.2.2.2.2.2.2.2.2.2.2.2.2.2.2.2.2.2.2.1 t.2.2.2.2.2.2.2.2.2.2.2.2.2.2.2.2.2.2.2.2.1 t.2.2.2.2.2.2.2.2.2.2.2.2.2.2.2.2.2.2.2.2.2.1 t.2.2.2.2.2.2.2.2.2.2.2.2.2.2.2.2.2.2.2.2.2.2.1 t.2.2.2.2.2.2.2.2.2.2.2.2.2.2.2.2.2.2.2.2.2.2.2.1 t.2.2.2.2.2.2.2.2.2.2.2.2.2.2.2.2.2.2.2.2.2.2.2.2.1 t.2.2.2.2.2.2.2.2.2.2.2.2.2.2.2.2.2.2.2.2.2.2.2.2.2.1 t.2.2.2.2.2.2.2.2.2.2.2.2.2.2.2.2.2.2.2.2.2.2.2.2.2.2.1 t.2.2.2.2.2.2.2.2.2.2.2.2.2.2.2.2.2.2.2.2.2.2.2.2.2.2.2.1 t.2.2.2.2.2.2.2.2.2.2.2.2.2.2.2.2.2.2.2.2.2.2.2.2.2.2.2.2.1 t.2.2.2.2.2.2.2.2.2.2.2.2.2.2.2.2.2.2.2.2.2.2.2.2.2.2.2.2.2.1 t.2.2.2.2.2.2.2.2.2.2.2.2.2.2.2.2.2.2.2.2.2.2.2.2.2.2.2.2.2.2.1 t.2.2.2.2.2.2.2.2.2.2.2.2.2.2.2.2.2.2.2.2.2.2.2.2.2.2.2.2.2.2.2.1 t.2.2.2.2.2.2.2.2.2.2.2.2.2.2.2.2.2.2.2.2.2.2.2.2.2.2.2.2.2.2.2.2.1 t.2.2.2.2.2.2.2.2.2.2.2.2.2.2.2.2.2.2.2.2.2.2.2.2.2.2.2.2.2.2.2.2.2.1 t.2.2.2.2.2.2.2.2.2.2.2.2.2.2.2.2.2.2.2.2.2.2.2.2.2.2.2.2.2.2.2.2.2.2.1 t.2.2.2.2.2.2.2.2.2.2.2.2.2.2.2.2.2.2.2.2.2.2.2.2.2.2.2.2.2.2.2.2.2.2.2.1 t.2.2.2.2.2.2.2.2.2.2.2.2.2.2.2.2.2.2.2.2.2.2.2.2.2.2.2.2.2.2.2.2.2.2.2.2.1 t.2.2.2.2.2.2.2.2.2.2.2.2.2.2.2.2.2.2.2.2.2.2.2.2.2.2.2.2.2.2.2.2.2.2.2.2.2.1 t.2.2.2.2.2.2.2.2.2.2.2.2.2.2.2.2.2.2.2.2.2.2.2.2.2.2.2.2.2.2.2.2.2.2.2.2.2.2.1 t.2.2.2.2.2.2.2.2.2.2.2.2.2.2.2.2.2.2.2.2.2.2.2.2.2.2.2.2.2.2.2.2.2.2.2.2.2.2.2.1 t.2.2.2.2.2.2.2.2.2.2.2.2.2.2.2.2.2.2.2.2.2.2.2.2.2.2.2.2.2.2.2.2.2.2.2.2.2.2.2.2.1 t.2.2.2.2.2.2.2.2.2.2.2.2.2.2.2.2.2.2.2.2.2.2.2.2.2.2.2.2.2.2.2.2.2.2.2.2.2.2.2.2.2.1 t.2.2.2.2.2.2.2.2.2.2.2.2.2.2.2.2.2.2.2.2.2.2.2.2.2.2.2.2.2.2.2.2.2.2.2.2.2.2.2.2.2.2.1 t.2.2.2.2.2.2.2.2.2.2.2.2.2.2.2.2.2.2.2.2.2.2.2.2.2.2.2.2.2.2.2.2.2.2.2.2.2.2.2.2.2.2.2.1 t.2.2.2.2.2.2.2.2.2.2.2.2.2.2.2.2.2.2.2.2.2.2.2.2.2.2.2.2.2.2.2.2.2.2.2.2.2.2.2.2.2.2.2.2.1 t.2.2.2.2.2.2.2.2.2.2.2.2.2.2.2.2.2.2.2.2.2.2.2.2.2.2.2.2.2.2.2.2.2.2.2.2.2.2.2.2.2.2.2.2.2.1 t.2.2.2.2.2.2.2.2.2.2.2.2.2.2.2.2.2.2.2.2.2.2.2.2.2.2.2.2.2.2.2.2.2.2.2.2.2.2.2.2.2.2.2.2.2.2.1 t.2.2.2.2.2.2.2.2.2.2.2.2.2.2.2.2.2.2.2.2.2.2.2.2.2.2.2.2.2.2.2.2.2.2.2.2.2.2.2.2.2.2.2.2.2.2.2.1 t.2.2.2.2.2.2.2.2.2.2.2.2.2.2.2.2.2.2.2.2.2.2.2.2.2.2.2.2.2.2.2.2.2.2.2.2.2.2.2.2.2.2.2.2.2.2.2.2.1 t.2.2.2.2.2.2.2.2.2.2.2.2.2.2.2.2.2.2.2.2.2.2.2.2.2.2.2.2.2.2.2.2.2.2.2.2.2.2.2.2.2.2.2.2.2.2.2.2.2.1 t.2.2.2.2.2.2.2.2.2.2.2.2.2.2.2.2.2.2.2.2.2.2.2.2.2.2.2.2.2.2.2.2.2.2.2.2.2.2.2.2.2.2.2.2.2.2.2.2.2.2.1 t.2.2.2.2.2.2.2.2.2.2.2.2.2.2.2.2.2.2.2.2.2.2.2.2.2.2.2.2.2.2.2.2.2.2.2.2.2.2.2.2.2.2.2.2.2.2.2.2.2.2.2.1 t.2.2.2.2.2.2.2.2.2.2.2.2.2.2.2.2.2.2.2.2.2.2.2.2.2.2.2.2.2.2.2.2.2.2.2.2.2.2.2.2.2.2.2.2.2.2.2.2.2.2.2.2
noncomputable def c₀ : World × Program × (List Str) × (ExcName → Option Value) × (Str → Option Value) × (Str → Option Value) × Str × Addr × Addr × Addr × Addr × Addr × Addr × Addr × Addr × Addr × Addr × Obj × Obj × Obj × Obj × Obj × Obj × Nat × Nat × (Option (List Code)) × Str × Scope × Addr × Value × (List (Str × Addr)) × (List Env) × Around × Heap × Heap × Addr × (Str → Option Value) × (List (Addr × Obj)) × Shared × (Value → Shared → Prop) × (Value → Shared → Prop) × Nat × Nat × Tok × Tok × Tok × Tok × Tok × Tok × Tok × Int × Nat × (List Nat) := (Classical.choice c₁).val
noncomputable def w : World := c₀.1
noncomputable def p : Program := c₀.2.1
noncomputable def loose : List Str := c₀.2.2.1
noncomputable def mean : ExcName → Option Value := c₀.2.2.2.1
noncomputable def mg : Str → Option Value := c₀.2.2.2.2.1
noncomputable def mb : Str → Option Value := c₀.2.2.2.2.2.1
noncomputable def text : Str := c₀.2.2.2.2.2.2.1
noncomputable def pb : Addr := c₀.2.2.2.2.2.2.2.1
noncomputable def x : Addr := c₀.2.2.2.2.2.2.2.2.1
noncomputable def d : Addr := c₀.2.2.2.2.2.2.2.2.2.1
noncomputable def sd : Addr := c₀.2.2.2.2.2.2.2.2.2.2.1
noncomputable def st : Addr := c₀.2.2.2.2.2.2.2.2.2.2.2.1
noncomputable def f : Addr := c₀.2.2.2.2.2.2.2.2.2.2.2.2.1
noncomputable def cf : Addr := c₀.2.2.2.2.2.2.2.2.2.2.2.2.2.1
noncomputable def la : Addr := c₀.2.2.2.2.2.2.2.2.2.2.2.2.2.2.1
noncomputable def cA : Addr := c₀.2.2.2.2.2.2.2.2.2.2.2.2.2.2.2.1
noncomputable def cT : Addr := c₀.2.2.2.2.2.2.2.2.2.2.2.2.2.2.2.2.1
noncomputable def oD : Obj := c₀.2.2.2.2.2.2.2.2.2.2.2.2.2.2.2.2.2.1
noncomputable def fo : Obj := c₀.2.2.2.2.2.2.2.2.2.2.2.2.2.2.2.2.2.2.1
noncomputable def fobj : Obj := c₀.2.2.2.2.2.2.2.2.2.2.2.2.2.2.2.2.2.2.2.1
noncomputable def ocf : Obj := c₀.2.2.2.2.2.2.2.2.2.2.2.2.2.2.2.2.2.2.2.2.1
noncomputable def oA : Obj := c₀.2.2.2.2.2.2.2.2.2.2.2.2.2.2.2.2.2.2.2.2.2.1
noncomputable def oT : Obj := c₀.2.2.2.2.2.2.2.2.2.2.2.2.2.2.2.2.2.2.2.2.2.2.1
noncomputable def dp : Nat := c₀.2.2.2.2.2.2.2.2.2.2.2.2.2.2.2.2.2.2.2.2.2.2.2.1
noncomputable def un : Nat := c₀.2.2.2.2.2.2.2.2.2.2.2.2.2.2.2.2.2.2.2.2.2.2.2.2.1
noncomputable def gd : Option (List Code) := c₀.2.2.2.2.2.2.2.2.2.2.2.2.2.2.2.2.2.2.2.2.2.2.2.2.2.1
noncomputable def cn : Str := c₀.2.2.2.2.2.2.2.2.2.2.2.2.2.2.2.2.2.2.2.2.2.2.2.2.2.2.1
noncomputable def cs : Scope := c₀.2.2.2.2.2.2.2.2.2.2.2.2.2.2.2.2.2.2.2.2.2.2.2.2.2.2.2.1
noncomputable def a : Addr := c₀.2.2.2.2.2.2.2.2.2.2.2.2.2.2.2.2.2.2.2.2.2.2.2.2.2.2.2.2.1
noncomputable def ccd : Value := c₀.2.2.2.2.2.2.2.2.2.2.2.2.2.2.2.2.2.2.2.2.2.2.2.2.2.2.2.2.2.1
noncomputable def cl : List (Str × Addr) := c₀.2.2.2.2.2.2.2.2.2.2.2.2.2.2.2.2.2.2.2.2.2.2.2.2.2.2.2.2.2.2.1
noncomputable def outer : List Env := c₀.2.2.2.2.2.2.2.2.2.2.2.2.2.2.2.2.2.2.2.2.2.2.2.2.2.2.2.2.2.2.2.1
noncomputable def A₀ : Around := c₀.2.2.2.2.2.2.2.2.2.2.2.2.2.2.2.2.2.2.2.2.2.2.2.2.2.2.2.2.2.2.2.2.1
noncomputable def base : Heap := c₀.2.2.2.2.2.2.2.2.2.2.2.2.2.2.2.2.2.2.2.2.2.2.2.2.2.2.2.2.2.2.2.2.2.1
noncomputable def h₀ : Heap := c₀.2.2.2.2.2.2.2.2.2.2.2.2.2.2.2.2.2.2.2.2.2.2.2.2.2.2.2.2.2.2.2.2.2.2.1
noncomputable def L : Addr := c₀.2.2.2.2.2.2.2.2.2.2.2.2.2.2.2.2.2.2.2.2.2.2.2.2.2.2.2.2.2.2.2.2.2.2.2.1
noncomputable def m : Str → Option Value := c₀.2.2.2.2.2.2.2.2.2.2.2.2.2.2.2.2.2.2.2.2.2.2.2.2.2.2.2.2.2.2.2.2.2.2.2.2.1
noncomputable def rest : List (Addr × Obj) := c₀.2.2.2.2.2.2.2.2.2.2.2.2.2.2.2.2.2.2.2.2.2.2.2.2.2.2.2.2.2.2.2.2.2.2.2.2.2.1
noncomputable def s : Shared := c₀.2.2.2.2.2.2.2.2.2.2.2.2.2.2.2.2.2.2.2.2.2.2.2.2.2.2.2.2.2.2.2.2.2.2.2.2.2.2.1
noncomputable def Q : Value → Shared → Prop := c₀.2.2.2.2.2.2.2.2.2.2.2.2.2.2.2.2.2.2.2.2.2.2.2.2.2.2.2.2.2.2.2.2.2.2.2.2.2.2.2.1
noncomputable def E : Value → Shared → Prop := c₀.2.2.2.2.2.2.2.2.2.2.2.2.2.2.2.2.2.2.2.2.2.2.2.2.2.2.2.2.2.2.2.2.2.2.2.2.2.2.2.2.1
noncomputable def k : Nat := c₀.2.2.2.2.2.2.2.2.2.2.2.2.2.2.2.2.2.2.2.2.2.2.2.2.2.2.2.2.2.2.2.2.2.2.2.2.2.2.2.2.2.1
noncomputable def n : Nat := c₀.2.2.2.2.2.2.2.2.2.2.2.2.2.2.2.2.2.2.2.2.2.2.2.2.2.2.2.2.2.2.2.2.2.2.2.2.2.2.2.2.2.2.1
noncomputable def t1 : Tok := c₀.2.2.2.2.2.2.2.2.2.2.2.2.2.2.2.2.2.2.2.2.2.2.2.2.2.2.2.2.2.2.2.2.2.2.2.2.2.2.2.2.2.2.2.1
noncomputable def t2 : Tok := c₀.2.2.2.2.2.2.2.2.2.2.2.2.2.2.2.2.2.2.2.2.2.2.2.2.2.2.2.2.2.2.2.2.2.2.2.2.2.2.2.2.2.2.2.2.1
noncomputable def t3 : Tok := c₀.2.2.2.2.2.2.2.2.2.2.2.2.2.2.2.2.2.2.2.2.2.2.2.2.2.2.2.2.2.2.2.2.2.2.2.2.2.2.2.2.2.2.2.2.2.1
noncomputable def t4 : Tok := c₀.2.2.2.2.2.2.2.2.2.2.2.2.2.2.2.2.2.2.2.2.2.2.2.2.2.2.2.2.2.2.2.2.2.2.2.2.2.2.2.2.2.2.2.2.2.2.1
noncomputable def u1 : Tok := c₀.2.2.2.2.2.2.2.2.2.2.2.2.2.2.2.2.2.2.2.2.2.2.2.2.2.2.2.2.2.2.2.2.2.2.2.2.2.2.2.2.2.2.2.2.2.2.2.1
noncomputable def u3 : Tok := c₀.2.2.2.2.2.2.2.2.2.2.2.2.2.2.2.2.2.2.2.2.2.2.2.2.2.2.2.2.2.2.2.2.2.2.2.2.2.2.2.2.2.2.2.2.2.2.2.2.1
noncomputable def u4 : Tok := c₀.2.2.2.2.2.2.2.2.2.2.2.2.2.2.2.2.2.2.2.2.2.2.2.2.2.2.2.2.2.2.2.2.2.2.2.2.2.2.2.2.2.2.2.2.2.2.2.2.2.1
noncomputable def ln : Int := c₀.2.2.2.2.2.2.2.2.2.2.2.2.2.2.2.2.2.2.2.2.2.2.2.2.2.2.2.2.2.2.2.2.2.2.2.2.2.2.2.2.2.2.2.2.2.2.2.2.2.2.1
noncomputable def i0 : Nat := c₀.2.2.2.2.2.2.2.2.2.2.2.2.2.2.2.2.2.2.2.2.2.2.2.2.2.2.2.2.2.2.2.2.2.2.2.2.2.2.2.2.2.2.2.2.2.2.2.2.2.2.2.1
noncomputable def D : List Nat := c₀.2.2.2.2.2.2.2.2.2.2.2.2.2.2.2.2.2.2.2.2.2.2.2.2.2.2.2.2.2.2.2.2.2.2.2.2.2.2.2.2.2.2.2.2.2.2.2.2.2.2.2.2
theorem main : S w p loose mean mg mb text pb x d sd st f cf la cA cT oD fo fobj ocf oA oT dp un gd cn cs a ccd cl outer A₀ base h₀ L m rest s Q E k n t1 t2 t3 t4 u1 u3 u4 ln i0 D := by
  unfold S
  intro Mx zne zne2 hsz hD hi0 hW B F X N T hk hd hu hret
  have q1 := Mx.q1; have q2 := Mx.q2; have q3 := Mx.q3; have q4 := Mx.q4; have q5 := Mx.q5; have q6 := Mx.q6; have q7 := Mx.q7; have q8 := Mx.q8; have q9 := Mx.q9
  have hat : ∀ j, text.cps[i0 + j]? = D[j]? := fun j => by rw [← hD]; exact drop_at.symm
  unfold prg at *
  revert X Mx; k_fill; intro Mx X
  refine wpAny_call ?_
  k_dflt ktr_enter
  k_steps
  all_goals try (refine Stop.mk ?_; (k_dflt (refine' call_iter2 ?kF_u409 ?kN_u409 ?kT_u409 ?_; (case kF_u409 => k_asm); (case kN_u409 => k_asm); (case kT_u409 => exact ⟨_, (News.get (by k_asm) (by k_mem)), rfl⟩)); intro I' h' F' N' l1; (try k_lt l1)); k_steps)
  refine Stop.mk ?_
  rename_i g L4 h4 FG BG XG TG q1' e1' q2' e2' q3' e3' h3 q4' e4' q' h2 lq h' F' N'
  have lI := l1
  clear l1
  have zI : ∀ q ∈ rest, @Ne Nat q.1 I' := ne_of_allLt lI.2.2.2.2.2.2.2.2.2.2.2 (Nat.le_refl _)
  refine fr_name F' fun m₀ hm _ => ?_
  k_dflt (refine' For_cit (env := envX (Str.ofString "_netrclex.get_token") _ L4 115 (.ref 114) []) Mx (m₀ := m₀) (base := base) (h₀ := g) (lnAt := lnC ln D) (i0 := i0) (fun j m₁ => j ≤ D.length ∧ ∀ z, z ≠ Str.ofString "ch" → m₁ z = m₀ z) zne zne2 zI lq.1 lI.1 hsz hi0 ?kx ?kp BG XG TG ?kk ?kd ?ku ?kl ?k1 ?k2 ?k3 ?ks ?kE)
  case kx => exact rfl
  case kp => exact rfl
  case kk => exact rfl
  case ks => intro _; exact rfl
  case kE => passes_own
  case kd => first | ktr_room | (show dp + 1 + 10 < _; omega)
  case ku => first | ktr_units | (show _ < _; omega)
  case kl =>
    intro j c hc
    exact lnC_succ (by rw [← hat]; exact hc)
  case k1 =>

    subst hm
    refine stop_post ?_
    k_steps
    all_goals try (refine Stop.mk ?_; (k_dflt (refine' call_iter2 ?kF_u410 ?kN_u410 ?kT_u410 ?_; (case kF_u410 => k_asm); (case kN_u410 => k_asm); (case kT_u410 => exact ⟨_, (News.get (by k_asm) (by k_mem)), rfl⟩)); intro I' h' F' N' l1; (try k_lt l1)); k_steps)
    refine Stop.mk ⟨rfl, ⟨_, _, _, _, rfl, by k_asm, by rw [lnC_zero]; k_asm⟩, Nat.zero_le _, fun _ _ => rfl⟩
  case k3 =>
    intro j m₁ a1 a4 h₃ tk₃ hJ hc F1 N1
    rw [hat] at hc
    have hj : j = D.length := Nat.le_antisymm hJ.1 (List.getElem?_eq_none_iff.mp hc)
    subst hj
    refine fr_split hJ.2 F1 fun o F1 => ?_
    clear F' N' hJ
    subst hm
    k_steps
    all_goals try (refine Stop.mk ?_; (k_dflt (refine' call_iter2 ?kF_u411 ?kN_u411 ?kT_u411 ?_; (case kF_u411 => k_asm); (case kN_u411 => k_asm); (case kT_u411 => exact ⟨_, (News.get (by k_asm) (by k_mem)), rfl⟩)); intro I' h' F' N' l1; (try k_lt l1)); k_steps)
    rename_i kF kN _ _
    exact hret _ _ _ _ _ kF (News.tail' (News.tail' kN))
  case k2 =>
    intro j c m₁ a1 a4 a5 h₃ tk₃ hJ hc F1 N1
    rw [map_eq hJ.2] at F1
    rw [hat] at hc
    have hj := hJ.1
    clear hJ F' N'
    subst hm
    have hcw := hW c (List.mem_of_getElem? hc)
    have hlt : j + 1 ≤ D.length := (List.getElem?_eq_some_iff.mp hc).1
    refine stop_post ?_
    k_steps
    all_goals try (refine Stop.mk ?_; (k_dflt (refine' call_iter2 ?kF_u412 ?kN_u412 ?kT_u412 ?_; (case kF_u412 => k_asm); (case kN_u412 => k_asm); (case kT_u412 => exact ⟨_, (News.get (by k_asm) (by k_mem)), rfl⟩)); intro I' h' F' N' l1; (try k_lt l1)); k_steps)
    try dsimp only
    refine Stop.mk ⟨_, ⟨_, _, _, _, rfl, by k_asm, by k_asm⟩, hlt, fun z hz => if_neg hz⟩
end eof_t
theorem eof_t {w : World} {p : Program} {loose : List Str} {mean : ExcName → Option Value} {mg mb : Str → Option Value} {text : Str} {pb x d sd st f cf la cA cT : Addr} {oD fo fobj ocf oA oT : Obj}
    (Mx : Mach w p loose mean mg mb text pb x d sd st f cf la cA cT oD fo fobj ocf oA oT)
    {dp un : Nat} {gd : Option (List Code)} {cn : Str} {cs : Scope} {a : Addr} {ccd : Value} {cl : List (Str × Addr)} {outer : List Env} {A₀ : Around} {base h₀ : Heap} {L : Addr} {m : Str → Option Value} {rest : List (Addr × Obj)} {s : Shared}
    {Q E : Value → Shared → Prop} {k n : Nat} {t1 t2 t3 t4 u1 u3 u4 : Tok} {ln : Int} {i0 : Nat} (zne : ∀ q ∈ rest, @Ne Nat q.1 la) (zne2 : ∀ q ∈ rest, @Ne Nat q.1 d) (hsz : text.length ≤ 900)
    {D : List Nat} (hD : text.cps.toList.drop i0 = D) (hi0 : i0 ≤ text.length) (hW : ∀ c ∈ D, isWs c = true)
    (B : Below A₀ base outer h₀) (F : Fr h₀ L s.heap m) (X : (hd.heap_39 w.params).In h₀) (N : News h₀ L s.heap ((pb, listOf #[] k) :: (x, instObj 125 d) :: (d, dictOf [mcEnt w "lineno" t1 (.int ln u1), mcEnt w "instream" t2 (.ref st), mcEnt w "whitespace" t3 (.str (Str.ofString "\n\t\r ") u3), mcEnt w "pushback" t4 (.ref pb)] 4) :: (sd, oD) :: (st, fo) :: (f, fobj) :: (cf, ocf) :: (la, listOf #[.int (i0 : Nat) u4] n) :: (cA, oA) :: (cT, oT) :: rest)) (T : Top p loose mean mg mb h₀) (hk : cs.kind = .function) (hd : dp + 20 < recursionLimit) (hu : un + 400 < cLine)
    (hret : ∀ h' tk' t u1 u4, Fr h₀ L h' m → News h₀ L h' ((pb, listOf #[] k) :: (x, instObj 125 d) :: (d, dictOf [mcEnt w "lineno" t1 (.int (lnC ln D D.length) u1), mcEnt w "instream" t2 (.ref st), mcEnt w "whitespace" t3 (.str (Str.ofString "\n\t\r ") u3), mcEnt w "pushback" t4 (.ref pb)] 4) :: (sd, oD) :: (st, fo) :: (f, fobj) :: (cf, ocf) :: (la, listOf #[.int ((i0 + D.length : Nat) : Int) u4] n) :: (cA, oA) :: (cT, oT) :: rest) → Q (.str Str.empty t) { s with heap := h', toks := tk' }) :
    wpAny (model prg w) (ktrTop dp un gd cn cs L a ccd cl outer) (call (.ref 115) [.ref x]) Q E s :=
  (Classical.choice eof_t.c₁).property eof_t.main (w, p, loose, mean, mg, mb, text, pb, x, d, sd, st, f, cf, la, cA, cT, oD, fo, fobj, ocf, oA, oT, dp, un, gd, cn, cs, a, ccd, cl, outer, A₀, base, h₀, L, m, rest, s, Q, E, k, n, t1, t2, t3, t4, u1, u3, u4, ln, i0, D) Mx zne zne2 hsz hD hi0 hW B F X N T hk hd hu hret
end
section
theorem off_Queue2 : True := by (w_top off; first | walk1 | trivial)
set_option maxRecDepth 100000
set_option maxHeartbeats 2000000
open PySem.Spec PySem.Calls PyProof.V
set_option hygiene false in
local macro_rules | `(tactic| k_all) => `(tactic| assumption)
set_option hygiene false in
local macro_rules | `(tactic| walk_at "call builtin:list.append") => `(tactic| (k_here; refine Stop.get ?_))
set_option hygiene false in
local macro_rules | `(tactic| walk_at "call builtin:list.pop") => `(tactic| (k_here; refine Stop.get ?_))
theorem push_q {w : World} {p : Program} {loose : List Str} {mean : ExcName → Option Value} {mg mb : Str → Option Value}
    {dp un : Nat} {gd : Option (List Code)} {cn : Str} {cs : Scope} {a : Addr} {ccd : Value} {cl : List (Str × Addr)} {outer : List Env} {A₀ : Around} {base h₀ : Heap} {L : Addr} {m : Str → Option Value} {rest : List (Addr × Obj)} {s : Shared}
    {Q E : Value → Shared → Prop} {pb x d : Addr} {vs : List Value} {k : Nat} {t1 t2 t3 t4 : Tok} {v1 v2 v3 : Value} {tok : Str} {tk : Tok} (hl : vs.length ≤ 100) (h1 : @LT.lt Nat _ x pb) (h2 : @LT.lt Nat _ d x) (h3 : ∀ q ∈ rest, @Ne Nat q.1 pb)
    (B : Below A₀ base outer h₀) (F : Fr h₀ L s.heap m) (X : (hd.heap_39 w.params).In h₀) (N : News h₀ L s.heap ((pb, listOf vs.toArray k) :: (x, instObj 125 d) :: (d, dictOf [mcEnt w "lineno" t1 v1, mcEnt w "instream" t2 v2, mcEnt w "whitespace" t3 v3, mcEnt w "pushback" t4 (.ref pb)] 4) :: rest)) (T : Top p loose mean mg mb h₀) (hk : cs.kind = .function) (hd : dp + 10 < recursionLimit) (hu : un + 100 < cLine)
    (hret : ∀ h' tk', Fr h₀ L h' m → News h₀ L h' ((pb, listOf (vs ++ [Value.str tok tk]).toArray (k + 1)) :: (x, instObj 125 d) :: (d, dictOf [mcEnt w "lineno" t1 v1, mcEnt w "instream" t2 v2, mcEnt w "whitespace" t3 v3, mcEnt w "pushback" t4 (.ref pb)] 4) :: rest) → Q .none { s with heap := h', toks := tk' }) :
    wpAny (model prg w) (ktrTop dp un gd cn cs L a ccd cl outer) (call (.ref 122) [.ref x, .str tok tk]) Q E s := by
  unfold prg
  revert X; k_fill; intro X
  refine wpAny_call ?_
  k_dflt ktr_enter
  k_steps
  all_goals try (refine Stop.mk ?_; (k_dflt (refine' pop0_L ?k1_u122 ?k2_u122 ?k3_u122 ?z_u122 ?_; (case k1_u122 => k_asm); (case k2_u122 => k_asm); (case k3_u122 => k_upd); (case z_u122 => omega); k_whole); intro h' F' N'; (try dsimp only at N')); k_steps)
  all_goals try (refine Stop.mk ?_; (k_dflt (refine' append_L ?k1_u120 ?k2_u120 ?k3_u120 ?_ ?z_u120; (case k1_u120 => k_asm); (case k2_u120 => k_asm); (case k3_u120 => k_upd); (case z_u120 => omega); k_whole); intro h' F' N'; (try dsimp only at N')); k_steps)
  exact hret _ _ (by k_asm) (by k_asm)
theorem get_q {w : World} {p : Program} {loose : List Str} {mean : ExcName → Option Value} {mg mb : Str → Option Value}
    {dp un : Nat} {gd : Option (List Code)} {cn : Str} {cs : Scope} {a : Addr} {ccd : Value} {cl : List (Str × Addr)} {outer : List Env} {A₀ : Around} {base h₀ : Heap} {L : Addr} {m : Str → Option Value} {rest : List (Addr × Obj)} {s : Shared}
    {Q E : Value → Shared → Prop} {pb x d : Addr} {vs : List Value} {v : Value} {k : Nat} {t1 t2 t3 t4 : Tok} {v1 v2 v3 : Value} (hl : vs.length ≤ 100) (h1 : @LT.lt Nat _ x pb) (h2 : @LT.lt Nat _ d x) (h3 : ∀ q ∈ rest, @Ne Nat q.1 pb)
    (B : Below A₀ base outer h₀) (F : Fr h₀ L s.heap m) (X : (hd.heap_39 w.params).In h₀) (N : News h₀ L s.heap ((pb, listOf (v :: vs).toArray k) :: (x, instObj 125 d) :: (d, dictOf [mcEnt w "lineno" t1 v1, mcEnt w "instream" t2 v2, mcEnt w "whitespace" t3 v3, mcEnt w "pushback" t4 (.ref pb)] 4) :: rest)) (T : Top p loose mean mg mb h₀) (hk : cs.kind = .function) (hd : dp + 10 < recursionLimit) (hu : un + 100 < cLine)
    (hret : ∀ k' h' tk', Fr h₀ L h' m → News h₀ L h' ((pb, listOf vs.toArray k') :: (x, instObj 125 d) :: (d, dictOf [mcEnt w "lineno" t1 v1, mcEnt w "instream" t2 v2, mcEnt w "whitespace" t3 v3, mcEnt w "pushback" t4 (.ref pb)] 4) :: rest) → Q v { s with heap := h', toks := tk' }) :
    wpAny (model prg w) (ktrTop dp un gd cn cs L a ccd cl outer) (call (.ref 115) [.ref x]) Q E s := by
  unfold prg
  revert X; k_fill; intro X
  refine wpAny_call ?_
  k_dflt ktr_enter
  k_steps
  all_goals try (refine Stop.mk ?_; (k_dflt (refine' pop0_L ?k1_u123 ?k2_u123 ?k3_u123 ?z_u123 ?_; (case k1_u123 => k_asm); (case k2_u123 => k_asm); (case k3_u123 => k_upd); (case z_u123 => omega); k_whole); intro h' F' N'; (try dsimp only at N')); k_steps)
  all_goals try (refine Stop.mk ?_; (k_dflt (refine' append_L ?k1_u121 ?k2_u121 ?k3_u121 ?_ ?z_u121; (case k1_u121 => k_asm); (case k2_u121 => k_asm); (case k3_u121 => k_upd); (case z_u121 => omega); k_whole); intro h' F' N'; (try dsimp only at N')); k_steps)
  exact hret _ _ _ (by k_asm) (by k_asm)
end
section
theorem off_Walks : True := by (w_top off; first | walk1 | trivial)
set_option maxRecDepth 100000
set_option maxHeartbeats 4000000
open PySem.Calls
set_option hygiene false in
local macro_rules | `(tactic| walk_at "execs cons") => `(tactic| walk_at "MY h0")

noncomputable def okP (kvs : List (Str × Value)) (y : Str) (c : Nat) : Bool := (valueAt kvs (stripF y ++ ⟨#[c]⟩)).isSome && !emF y ⟨#[c]⟩
noncomputable def longer (y : Str) (c : Nat) : Str := y ++ Str.ofString "." ++ ⟨#[c]⟩
noncomputable def nxt (kvs : List (Str × Value)) (y : Str) (l : List Nat) : List Str := (l.filter (okP kvs y)).map (longer y)
set_option hygiene false in
local macro_rules | `(tactic| k_all) => `(tactic| assumption)
set_option hygiene false in
local macro_rules | `(tactic| walk_at "last pyIter str") => `(tactic| (k_here; refine Stop.get ?_))
set_option hygiene false in
local macro_rules | `(tactic| walk_at "pyIter str") => `(tactic| (k_here; refine Stop.get ?_))
set_option hygiene false in
local macro_rules | `(tactic| walk_at "exec While") => `(tactic| (k_here; refine Stop.get ?_))
set_option hygiene false in
local macro_rules | `(tactic| walk_at "TurnX") => `(tactic| (dsimp only [TurnX]))
set_option hygiene false in
local macro_rules | `(tactic| walk_at "exec For Name Constant cons nil") => `(tactic| (k_here; refine Stop.get ?_))
set_option hygiene false in
local macro_rules | `(tactic| walk_at "compareOp In str ref") => `(tactic| (k_here; refine Stop.get ?_))
set_option hygiene false in
local macro_rules | `(tactic| walk_at "call ref") => `(tactic| (k_here; refine Stop.get ?_))
theorem map3_init {p h w : Str} {m : Str → Option Value} {v : Value} (e : m w = some v) : m = fun z => if z = p then m p else if z = h then m h else if z = w then some v else m z := funext fun z => by
  by_cases a : z = p
  · rw [if_pos a, a]
  rw [if_neg a]
  by_cases b : z = h
  · rw [if_pos b, b]
  rw [if_neg b]
  by_cases c : z = w
  · rw [if_pos c, c, e]
  rw [if_neg c]
theorem map3_next {p h w : Str} (h2 : p ≠ w) (h3 : h ≠ w) {m : Str → Option Value} {u o1 o2 v0 v H : Option Value} : (fun z => if z = w then v else if z = p then u else if z = h then H else if z = p then o1 else if z = h then o2 else if z = w then v0 else m z) = fun z => if z = p then u else if z = h then H else if z = w then v else m z := funext fun z => by
  by_cases a : z = p
  · subst a; rw [if_neg h2, if_pos rfl, if_pos rfl]
  rw [if_neg a, if_neg a, if_neg a]
  by_cases b : z = h
  · subst b; rw [if_neg h3, if_pos rfl, if_pos rfl]
  rw [if_neg b, if_neg b, if_neg b]
  by_cases c : z = w
  · rw [if_pos c, if_pos c]
  rw [if_neg c, if_neg c, if_neg c]
theorem strs_cons {vs : List Value} {y : Str} {ys : List Str} (h : StrsAre vs (y :: ys)) : ∃ vs' t, vs = .str y t :: vs' ∧ StrsAre vs' ys := by
  cases h with
  | cons _ t h2 => exact ⟨_, t, rfl, h2⟩
theorem strs_app {vs : List Value} {ys : List Str} {z : Str} {t : Tok} (h : StrsAre vs ys) : StrsAre (vs ++ [.str z t]) (ys ++ [z]) := by
  induction h with
  | nil => exact .cons _ _ .nil
  | cons _ _ _ ih => exact .cons _ _ ih
theorem strs_snoc {vs : List Value} {ws : List Str} {i : Nat} {y : Str} {t : Tok} (h : StrsAre vs (ws.take i)) (hy : ws[i]? = some y) : StrsAre (vs ++ [.str y t]) (ws.take (i + 1)) := by
  rw [List.take_add_one, hy]
  exact strs_app h
theorem nxt_step (kvs : List (Str × Value)) (y : Str) {l : List Nat} {j c : Nat} (h : l[j]? = some c) : nxt kvs y (l.take (j + 1)) = nxt kvs y (l.take j) ++ if okP kvs y c = true then [longer y c] else [] := by
  unfold nxt
  rw [List.take_add_one, h, List.filter_append, List.map_append]
  congr 1
  show ([c].filter (okP kvs y)).map (longer y) = _
  cases hb : okP kvs y c <;> simp [List.filter_cons, hb]
theorem nxt_len (kvs : List (Str × Value)) (y : Str) (l : List Nat) : (nxt kvs y l).length ≤ l.length := by
  unfold nxt
  rw [List.length_map]
  exact List.length_filter_le _ _
theorem okP_no2 {kvs : List (Str × Value)} {y : Str} {c : Nat} (h : emF y ⟨#[c]⟩ = true) : okP kvs y c = false := by unfold okP; rw [h]; exact Bool.and_false _
theorem okP_no1 {kvs : List (Str × Value)} {y : Str} {c : Nat} (h : (valueAt kvs (stripF y ++ ⟨#[c]⟩)).isSome = false) : okP kvs y c = false := by unfold okP; rw [h]; rfl
theorem okP_yes {kvs : List (Str × Value)} {y : Str} {c : Nat} (h : (valueAt kvs (stripF y ++ ⟨#[c]⟩)).isSome = true) (h2 : emF y ⟨#[c]⟩ = false) : okP kvs y c = true := by unfold okP; rw [h, h2]; rfl
theorem news_one {h₀ h : Heap} {L : Addr} {a : Addr × Obj} (l r : List (Addr × Obj)) (N : News h₀ L h (l ++ (a :: r))) : News h₀ L h (a :: (l ++ r)) := fun z hz => by
  rcases List.mem_cons.mp hz with rfl | hz
  · exact N _ (List.mem_append_right _ (.head _))
  rcases List.mem_append.mp hz with hz | hz
  · exact N z (List.mem_append_left _ hz)
  · exact N z (List.mem_append_right _ (.tail _ hz))
theorem news_one' {h₀ h : Heap} {L : Addr} {a : Addr × Obj} (l r : List (Addr × Obj)) (N : News h₀ L h (a :: (l ++ r))) : News h₀ L h (l ++ (a :: r)) := fun z hz => by
  rcases List.mem_append.mp hz with hz | hz
  · exact N z (.tail _ (List.mem_append_left _ hz))
  rcases List.mem_cons.mp hz with rfl | hz
  · exact N _ (.head _)
  · exact N z (.tail _ (List.mem_append_right _ hz))
theorem ne_addrs {as : List Addr} {b : Addr} (h : ∀ a ∈ as, @Ne Nat a b) (l : List (Addr × Obj)) (e : l.map (·.1) = as) : ∀ q ∈ l, @Ne Nat q.1 b := fun q hq => h _ (e ▸ List.mem_map.mpr ⟨q, hq, rfl⟩)
set_option hygiene false in
local macro_rules | `(tactic| walk_at "call builtin:list.append") => `(tactic| (k_here; refine Stop.get ?_))
/- what holds ahead of a turn of the while: a walk is in hand, or none is left -/
inductive WJ (w : World) (ws : List Str) (qs : Nat → List Str) (m₀ : Str → Option Value) (pb x d sd st f cf la cA cT W : Addr) (oD fo fobj ocf oA oT : Obj) (t1 t2 t3 t4 u1 u3 u4 : Tok) (ln : Int) (i0 n : Nat) (D : List Nat) (rest : List (Addr × Obj)) (nn : Nat) (m₁ : Str → Option Value) (nw : List (Addr × Obj)) : Prop
  | on (i : Nat) (vals : List Value) (kW kq : Nat) (t : Tok) (o1 o2 : Option Value) (y : Str) (qv : List Value) (e : nn = ws.length - i) (hS : StrsAre vals (ws.take i)) (hy : ws[i]? = some y) (hq : StrsAre qv (qs i))
    (em : m₁ = (fun z => if z = Str.ofString "place" then o1 else if z = Str.ofString "here" then o2 else if z = Str.ofString "walk" then some (.str y t) else m₀ z))
    (en : nw = (pb, listOf qv.toArray kq) :: (x, instObj 125 d) :: (d, dictOf [mcEnt w "lineno" t1 (.int ln u1), mcEnt w "instream" t2 (.ref st), mcEnt w "whitespace" t3 (.str (Str.ofString "\n\t\r ") u3), mcEnt w "pushback" t4 (.ref pb)] 4) :: (sd, oD) :: (st, fo) :: (f, fobj) :: (cf, ocf) :: (la, listOf #[.int (i0 : Nat) u4] n) :: (cA, oA) :: (cT, oT) :: (W, listOf vals.toArray kW) :: rest)
  | off (i : Nat) (vals : List Value) (kW kq : Nat) (t : Tok) (o1 o2 : Option Value) (b1 b4 : Tok) (e : nn = ws.length - i) (hS : StrsAre vals (ws.take i)) (hi : i = ws.length)
    (em : m₁ = (fun z => if z = Str.ofString "place" then o1 else if z = Str.ofString "here" then o2 else if z = Str.ofString "walk" then some (.str Str.empty t) else m₀ z))
    (en : nw = (pb, listOf #[] kq) :: (x, instObj 125 d) :: (d, dictOf [mcEnt w "lineno" t1 (.int (lnC ln D D.length) b1), mcEnt w "instream" t2 (.ref st), mcEnt w "whitespace" t3 (.str (Str.ofString "\n\t\r ") u3), mcEnt w "pushback" t4 (.ref pb)] 4) :: (sd, oD) :: (st, fo) :: (f, fobj) :: (cf, ocf) :: (la, listOf #[.int ((i0 + D.length : Nat) : Int) b4] n) :: (cA, oA) :: (cT, oT) :: (W, listOf vals.toArray kW) :: rest)
inductive WL (pb : Addr) (tail : List (Addr × Obj)) (ss : List Str) (nw : List (Addr × Obj)) : Prop
  | mk (qv : List Value) (kq : Nat) (e : nw = (pb, listOf qv.toArray kq) :: tail) (q : StrsAre qv ss)
namespace walks_t
noncomputable def S (w : World) (p : Program) (loose : List Str) (mean : ExcName → Option Value) (mg : Str → Option Value) (mb : Str → Option Value) (text : Str) (pb : Addr) (x : Addr) (d : Addr) (sd : Addr) (st : Addr) (f : Addr) (cf : Addr) (la : Addr) (cA : Addr) (cT : Addr) (oD : Obj) (fo : Obj) (fobj : Obj) (ocf : Obj) (oA : Obj) (oT : Obj) (dp : Nat) (un : Nat) (gd : Option (List Code)) (cn : Str) (cs : Scope) (a : Addr) (ccd : Value) (cl : List (Str × Addr)) (outer : List Env) (A₀ : Around) (base : Heap) (h₀ : Heap) (L : Addr) (m : Str → Option Value) (rest : List (Addr × Obj)) (s : Shared) (Q : Value → Shared → Prop) (E : Value → Shared → Prop) (k : Nat) (n : Nat) (t1 : Tok) (t2 : Tok) (t3 : Tok) (t4 : Tok) (u1 : Tok) (u3 : Tok) (u4 : Tok) (tst : Tok) (ln : Int) (i0 : Nat) (D : List Nat) (dd : Addr) (o : Obj) (kvs : List (Str × Value)) (ws : List Str) (qs : Nat → List Str) : Prop :=
  ∀ (start : Str) (Mx : Mach w p loose mean mg mb text pb x d sd st f cf la cA cT oD fo fobj ocf oA oT)  (zne : ∀ q ∈ rest, @Ne Nat q.1 la)  (zne2 : ∀ q ∈ rest, @Ne Nat q.1 d)  (zne3 : ∀ q ∈ rest, @Ne Nat q.1 pb)  (hsz : text.length ≤ 900)  (hD : text.cps.toList.drop i0 = D)  (hi0 : i0 ≤ text.length)  (hW : ∀ c ∈ D, isWs c = true)  (hdd : (dd, o) ∈ rest)  (hdo : o.IsDictOf (PySem.strKind prg w) kvs)  (hdm : (dd == sysModules) = false)  (hw0 : ws[0]? = some start)  (hq0 : qs 0 = [])  (hqs : ∀ i y, ws[i]? = some y → match ws[i + 1]? with | some z => qs i ++ nxt kvs y [97, 98, 99, 100, 101] = z :: qs (i + 1) | none => qs i ++ nxt kvs y [97, 98, 99, 100, 101] = [])  (hql : ∀ i, (qs i).length ≤ 64)  (hwl : ∀ y ∈ ws, y.length ≤ 20 ∧ (stripF y).length ≤ 20 ∧ (y == Str.ofString "") = false)  (hwn : ws.length ≤ 64)  (B : Below A₀ base outer h₀)  (F : Fr h₀ L s.heap m)  (X : (hd.heap_39 w.params).In h₀)  (N : News h₀ L s.heap ((pb, listOf #[] k) :: (x, instObj 125 d) :: (d, dictOf [mcEnt w "lineno" t1 (.int ln u1), mcEnt w "instream" t2 (.ref st), mcEnt w "whitespace" t3 (.str (Str.ofString "\n\t\r ") u3), mcEnt w "pushback" t4 (.ref pb)] 4) :: (sd, oD) :: (st, fo) :: (f, fobj) :: (cf, ocf) :: (la, listOf #[.int (i0 : Nat) u4] n) :: (cA, oA) :: (cT, oT) :: rest))  (T : Top p loose mean mg mb h₀)  (hk : cs.kind = .function)  (hd : dp + 40 < recursionLimit)  (hu : un + 600 < cLine)  (hret : ∀ W kW vals h' tk', Fr h₀ L h' m → News h₀ L h' ((W, listOf vals.toArray kW) :: rest) → StrsAre vals ws → (∀ q ∈ rest, @LT.lt Nat _ q.1 W) → Q (.ref W) { s with heap := h', toks := tk' }),
    wpAny (model prg w) (ktrTop dp un gd cn cs L a ccd cl outer) (call (.ref 167) [.ref x, .str start tst, .ref dd]) Q E s
theorem c₁ : Nonempty {t : World × Program × (List Str) × (ExcName → Option Value) × (Str → Option Value) × (Str → Option Value) × Str × Addr × Addr × Addr × Addr × Addr × Addr × Addr × Addr × Addr × Addr × Obj × Obj × Obj × Obj × Obj × Obj × Nat × Nat × (Option (List Code)) × Str × Scope × Addr × Value × (List (Str × Addr)) × (List Env) × Around × Heap × Heap × Addr × (Str → Option Value) × (List (Addr × Obj)) × Shared × (Value → Shared → Prop) × (Value → Shared → Prop) × Nat × Nat × Tok × Tok × Tok × Tok × Tok × Tok × Tok × Tok × Int × Nat × (List Nat) × Addr × Obj × (List (Str × Value)) × (List Str) × (Nat → List Str) // S t.1 t.2.1 t.2.2.1 t.2.2.2.1 t.2.2.2.2.1 t.2.2.2.2.2.1 t.2.2.2.2.2.2.1 t.2.2.2.2.2.2.2.1 t.2.2.2.2.2.2.2.2.1 t.2.2.2.2.2.2.2.2.2.1 t.2.2.2.2.2.2.2.2.2.2.1 t.2.2.2.2.2.2.2.2.2.2.2.1 t.2.2.2.2.2.2.2.2.2.2.2.2.1 t.2.2.2.2.2.2.2.2.2.2.2.2.2.1 t.2.2.2.2.2.2.2.2.2.2.2.2.2.2.1 t.2.2.2.2.2.2.2.2.2.2.2.2.2.2.2.1 t.2.2.2.2.2.2.2.2.2.2.2.2.2.2.2.2.1 t.2.2.2.2.2.2.2.2.2.2.2.2.2.2.2.2.2.1 t.2.2.2.2.2.2.2.2.2.2.2.2.2.2.2.2.2.2.1 t.2.2.2.2.2.2.2.2.2.2.2.2.2.2.2.2.2.2.2.1 t.2.2.2.2.2.2.2.2.2.2.2.2.2.2.2.2.2.2.2.2.1 t.2.2.2.2.2.2.2.2.2.2.2.2.2.2.2.2.2.2.2.2.2.1 t.2.2.2.2.2.2.2.2.2.2.2.2.2.2.2.2.2.2.2.2.2.2.1 t.2.2.2.2.2.2.2.2.2.2.2.2.2.2.2.2.2.2.2.2.2.2.2.1 t.2.2.2.2.2.2.2.2.2.2.2.2.2.2.2.2.2.2.2.2.2.2.2.2.1 t.2.2.2.2.2.2.2.2.2.2.2.2.2.2.2.2.2.2.2.2.2.2.2.2.2.1 t.2.2.2.2.2.2.2.2.2.2.2.2.2.2.2.2.2.2.2.2.2.2.2.2.2.2.1 t.2.2.2.2.2.2.2.2.2.2.2.2.2.2.2.2.2.2.2.2.2.2.2.2.2.2.2.1 t.2.2.2.2.2.2.2.2.2.2.2.2.2.2.2.2.2.2.2.2.2.2.2.2.2.2.2.2.1 t.2.2.2.2.2.2.2.2.2.2.2.2.2.2.2.2.2.2.2.2.2.2.2.2.2.2.2.2.2.1 t.2.2.2.2.2.2.2.2.2.2.2.2.2.2.2.2.2.2.2.2.2.2.2.2.2.2.2.2.2.2.1 t.2.2.2.2.2.2.2.2.2.2.2.2.2.2.2.2.2.2.2.2.2.2.2.2.2.2.2.2.2.2.2.1 t.2.2.2.2.2.2.2.2.2.2.2.2.2.2.2.2.2.2.2.2.2.2.2.2.2.2.2.2.2.2.2.2.1 t.2.2.2.2.2.2.2.2.2.2.2.2.2.2.2.2.2.2.2.2.2.2.2.2.2.2.2.2.2.2.2.2.2.1 t.2.2.2.2.2.2.2.2.2.2.2.2.2.2.2.2.2.2.2.2.2.2.2.2.2.2.2.2.2.2.2.2.2.2.1 t.2.2.2.2.2.2.2.2.2.2.2.2.2.2.2.2.2.2.2.2.2.2.2.2.2.2.2.2.2.2.2.2.2.2.2.1 t.2.2.2.2.2.2.2.2.2.2.2.2.2.2.2.2.2.2.2.2.2.2.2.2.2.2.2.2.2.2.2.2.2.2.2.2.1 t.2.2.2.2.2.2.2.2.2.2.2.2.2.2.2.2.2.2.2.2.2.2.2.2.2.2.2.2.2.2.2.2.2.2.2.2.2.1 t.2.2.2.2.2.2.2.2.2.2.2.2.2.2.2.2.2.2.2.2.2.2.2.2.2.2.2.2.2.2.2.2.2.2.2.2.2.2.1 t.2.2.2.2.2.2.2.2.2.2.2.2.2.2.2.2.2.2.2.2.2.2.2.2.2.2.2.2.2.2.2.2.2.2.2.2.2.2.2.1 t.2.2.2.2.2.2.2.2.2.2.2.2.2.2.2.2.2.2.2.2.2.2.2.2.2.2.2.2.2.2.2.2.2.2.2.2.2.2.2.2.1 t.2.2.2.2.2.2.2.2.2.2.2.2.2.2.2.2.2.2.2.2.2.2.2.2.2.2.2.2.2.2.2.2.2.2.2.2.2.2.2.2.2.1 t.2.2.2.2.2.2.2.2.2.2.2.2.2.2.2.2.2.2.2.2.2.2.2.2.2.2.2.2.2.2.2.2.2.2.2.2.2.2.2.2.2.2.1 t.2.2.2.2.2.2.2.2.2.2.2.2.2.2.2.2.2.2.2.2.2.2.2.2.2.2.2.2.2.2.2.2.2.2.2.2.2.2.2.2.2.2.2.1 t.2.2.2.2.2.2.2.2.2.2.2.2.2.2.2.2.2.2.2.2.2.2.2.2.2.2.2.2.2.2.2.2.2.2.2.2.2.2.2.2.2.2.2.2.1 t.2.2.2.2.2.2.2.2.2.2.2.2.2.2.2.2.2.2.2.2.2.2.2.2.2.2.2.2.2.2.2.2.2.2.2.2.2.2.2.2.2.2.2.2.2.1 t.2.2.2.2.2.2.2.2.2.2.2.2.2.2.2.2.2.2.2.2.2.2.2.2.2.2.2.2.2.2.2.2.2.2.2.2.2.2.2.2.2.2.2.2.2.2.1 t.2.2.2.2.2.2.2.2.2.2.2.2.2.2.2.2.2.2.2.2.2.2.2.2.2.2.2.2.2.2.2.2.2.2.2.2.2.2.2.2.2.2.2.2.2.2.2.1 t.2.2.2.2.2.2.2.2.2.2.2.2.2.2.2.2.2.2.2.2.2.2.2.2.2.2.2.2.2.2.2.2.2.2.2.2.2.2.2.2.2.2.2.2.2.2.2.2.1 t.2.2.2.2.2.2.2.2.2.2.2.2.2.2.2.2.2.2.2.2.2.2.2.2.2.2.2.2.2.2.2.2.2.2.2.2.2.2.2.2.2.2.2.2.2.2.2.2.2.1 t.2.2.2.2.2.2.2.2.2.2.2.2.2.2.2.2.2.2.2.2.2.2.2.2.2.2.2.2.2.2.2.2.2.2.2.2.2.2.2.2.2.2.2.2.2.2.2.2.2.2.1 t.2.2.2.2.2.2.2.2.2.2.2.2.2.2.2.2.2.2.2.2.2.2.2.2.2.2.2.2.2.2.2.2.2.2.2.2.2.2.2.2.2.2.2.2.2.2.2.2.2.2.2.1 t.2.2.2.2.2.2.2.2.2.2.2.2.2.2.2.2.2.2.2.2.2.2.2.2.2.2.2.2.2.2.2.2.2.2.2.2.2.2.2.2.2.2.2.2.2.2.2.2.2.2.2.2.1 t.2.2.2.2.2.2.2.2.2.2.2.2.2.2.2.2.2.2.2.2.2.2.2.2.2.2.2.2.2.2.2.2.2.2.2.2.2.2.2.2.2.2.2.2.2.2.2.2.2.2.2.2.2.1 t.2.2.2.2.2.2.2.2.2.2.2.2.2.2.2.2.2.2.2.2.2.2.2.2.2.2.2.2.2.2.2.2.2.2.2.2.2.2.2.2.2.2.2.2.2.2.2.2.2.2.2.2.2.2.1 t.2.2.2.2.2.2.2.2.2.2.2.2.2.2.2.2.2.2.2.2.2.2.2.2.2.2.2.2.2.2.2.2.2.2.2.2.2.2.2.2.2.2.2.2.2.2.2.2.2.2.2.2.2.2.2.1 t.2.2.2.2.2.2.2.2.2.2.2.2.2.2.2.2.2.2.2.2.2.2.2.2.2.2.2.2.2.2.2.2.2.2.2.2.2.2.2.2.2.2.2.2.2.2.2.2.2.2.2.2.2.2.2.2.1 t.2.2.2.2.2.2.2.2.2.2.2.2.2.2.2.2.2.2.2.2.2.2.2.2.2.2.2.2.2.2.2.2.2.2.2.2.2.2.2.2.2.2.2.2.2.2.2.2.2.2.2.2.2.2.2.2.2.1 t.2.2.2.2.2.2.2.2.2.2.2.2.2.2.2.2.2.2.2.2.2.2.2.2.2.2.2.2.2.2.2.2.2.2.2.2.2.2.2.2.2.2.2.2.2.2.2.2.2.2.2.2.2.2.2.2.2.2 → ∀ t : World × Program × (List Str) × (ExcName → Option Value) × (Str → Option Value) × (Str → Option Value) × Str × Addr × Addr × Addr × Addr × Addr × Addr × Addr × Addr × Addr × Addr × Obj × Obj × Obj × Obj × Obj × Obj × Nat × Nat × (Option (List Code)) × Str × Scope × Addr × Value × (List (Str × Addr)) × (List Env) × Around × Heap × Heap × Addr × (Str → Option Value) × (List (Addr × Obj)) × Shared × (Value → Shared → Prop) × (Value → Shared → Prop) × Nat × Nat × Tok × Tok × Tok × Tok × Tok × Tok × Tok × Tok × Int × Nat × (List Nat) × Addr × Obj × (List (Str × Value)) × (List Str) × (Nat → List Str), S t.1 t.2.1 t.2.2.1 t.2.2.2.1 t.2.2.2.2.1 t.2.2.2.2.2.1 t.2.2.2.2.2.2.1 t.2.2.2.2.2.2.2.1 t.2.2.2.2.2.2.2.2.1 t.2.2.2.2.2.2.2.2.2.1 t.2.2.2.2.2.2.2.2.2.2.1 t.2.2.2.2.2.2.2.2.2.2.2.1 t.2.2.2.2.2.2.2.2.2.2.2.2.1 t.2.2.2.2.2.2.2.2.2.2.2.2.2.1 t.2.2.2.2.2.2.2.2.2.2.2.2.2.2.1 t.2.2.2.2.2.2.2.2.2.2.2.2.2.2.2.1 t.2.2.2.2.2.2.2.2.2.2.2.2.2.2.2.2.1 t.2.2.2.2.2.2.2.2.2.2.2.2.2.2.2.2.2.1 t.2.2.2.2.2.2.2.2.2.2.2.2.2.2.2.2.2.2.1 t.2.2.2.2.2.2.2.2.2.2.2.2.2.2.2.2.2.2.2.1 t.2.2.2.2.2.2.2.2.2.2.2.2.2.2.2.2.2.2.2.2.1 t.2.2.2.2.2.2.2.2.2.2.2.2.2.2.2.2.2.2.2.2.2.1 t.2.2.2.2.2.2.2.2.2.2.2.2.2.2.2.2.2.2.2.2.2.2.1 t.2.2.2.2.2.2.2.2.2.2.2.2.2.2.2.2.2.2.2.2.2.2.2.1 t.2.2.2.2.2.2.2.2.2.2.2.2.2.2.2.2.2.2.2.2.2.2.2.2.1 t.2.2.2.2.2.2.2.2.2.2.2.2.2.2.2.2.2.2.2.2.2.2.2.2.2.1 t.2.2.2.2.2.2.2.2.2.2.2.2.2.2.2.2.2.2.2.2.2.2.2.2.2.2.1 t.2.2.2.2.2.2.2.2.2.2.2.2.2.2.2.2.2.2.2.2.2.2.2.2.2.2.2.1 t.2.2.2.2.2.2.2.2.2.2.2.2.2.2.2.2.2.2.2.2.2.2.2.2.2.2.2.2.1 t.2.2.2.2.2.2.2.2.2.2.2.2.2.2.2.2.2.2.2.2.2.2.2.2.2.2.2.2.2.1 t.2.2.2.2.2.2.2.2.2.2.2.2.2.2.2.2.2.2.2.2.2.2.2.2.2.2.2.2.2.2.1 t.2.2.2.2.2.2.2.2.2.2.2.2.2.2.2.2.2.2.2.2.2.2.2.2.2.2.2.2.2.2.2.1 t.2.2.2.2.2.2.2.2.2.2.2.2.2.2.2.2.2.2.2.2.2.2.2.2.2.2.2.2.2.2.2.2.1 t.2.2.2.2.2.2.2.2.2.2.2.2.2.2.2.2.2.2.2.2.2.2.2.2.2.2.2.2.2.2.2.2.2.1 t.2.2.2.2.2.2.2.2.2.2.2.2.2.2.2.2.2.2.2.2.2.2.2.2.2.2.2.2.2.2.2.2.2.2.1 t.2.2.2.2.2.2.2.2.2.2.2.2.2.2.2.2.2.2.2.2.2.2.2.2.2.2.2.2.2.2.2.2.2.2.2.1 t.2.2.2.2.2.2.2.2.2.2.2.2.2.2.2.2.2.2.2.2.2.2.2.2.2.2.2.2.2.2.2.2.2.2.2.2.1 t.2.2.2.2.2.2.2.2.2.2.2.2.2.2.2.2.2.2.2.2.2.2.2.2.2.2.2.2.2.2.2.2.2.2.2.2.2.1 t.2.2.2.2.2.2.2.2.2.2.2.2.2.2.2.2.2.2.2.2.2.2.2.2.2.2.2.2.2.2.2.2.2.2.2.2.2.2.1 t.2.2.2.2.2.2.2.2.2.2.2.2.2.2.2.2.2.2.2.2.2.2.2.2.2.2.2.2.2.2.2.2.2.2.2.2.2.2.2.1 t.2.2.2.2.2.2.2.2.2.2.2.2.2.2.2.2.2.2.2.2.2.2.2.2.2.2.2.2.2.2.2.2.2.2.2.2.2.2.2.2.1 t.2.2.2.2.2.2.2.2.2.2.2.2.2.2.2.2.2.2.2.2.2.2.2.2.2.2.2.2.2.2.2.2.2.2.2.2.2.2.2.2.2.1 t.2.2.2.2.2.2.2.2.2.2.2.2.2.2.2.2.2.2.2.2.2.2.2.2.2.2.2.2.2.2.2.2.2.2.2.2.2.2.2.2.2.2.1 t.2.2.2.2.2.2.2.2.2.2.2.2.2.2.2.2.2.2.2.2.2.2.2.2.2.2.2.2.2.2.2.2.2.2.2.2.2.2.2.2.2.2.2.1 t.2.2.2.2.2.2.2.2.2.2.2.2.2.2.2.2.2.2.2.2.2.2.2.2.2.2.2.2.2.2.2.2.2.2.2.2.2.2.2.2.2.2.2.2.1 t.2.2.2.2.2.2.2.2.2.2.2.2.2.2.2.2.2.2.2.2.2.2.2.2.2.2.2.2.2.2.2.2.2.2.2.2.2.2.2.2.2.2.2.2.2.1 t.2.2.2.2.2.2.2.2.2.2.2.2.2.2.2.2.2.2.2.2.2.2.2.2.2.2.2.2.2.2.2.2.2.2.2.2.2.2.2.2.2.2.2.2.2.2.1 t.2.2.2.2.2.2.2.2.2.2.2.2.2.2.2.2.2.2.2.2.2.2.2.2.2.2.2.2.2.2.2.2.2.2.2.2.2.2.2.2.2.2.2.2.2.2.2.1 t.2.2.2.2.2.2.2.2.2.2.2.2.2.2.2.2.2.2.2.2.2.2.2.2.2.2.2.2.2.2.2.2.2.2.2.2.2.2.2.2.2.2.2.2.2.2.2.2.1 t.2.2.2.2.2.2.2.2.2.2.2.2.2.2.2.2.2.2.2.2.2.2.2.2.2.2.2.2.2.2.2.2.2.2.2.2.2.2.2.2.2.2.2.2.2.2.2.2.2.1 t.2.2.2.2.2.2.2.2.2.2.2.2.2.2.2.2.2.2.2.2.2.2.2.2.2.2.2.2.2.2.2.2.2.2.2.2.2.2.2.2.2.2.2.2.2.2.2.2.2.2.1 t.2.2.2.2.2.2.2.2.2.2.2.2.2.2.2.2.2.2.2.2.2.2.2.2.2.2.2.2.2.2.2.2.2.2.2.2.2.2.2.2.2.2.2.2.2.2.2.2.2.2.2.1 t.2.2.2.2.2.2.2.2.2.2.2.2.2.2.2.2.2.2.2.2.2.2.2.2.2.2.2.2.2.2.2.2.2.2.2.2.2.2.2.2.2.2.2.2.2.2.2.2.2.2.2.2.1 t.2.2.2.2.2.2.2.2.2.2.2.2.2.2.2.2.2.2.2.2.2.2.2.2.2.2.2.2.2.2.2.2.2.2.2.2.2.2.2.2.2.2.2.2.2.2.2.2.2.2.2.2.2.1 t.2.2.2.2.2.2.2.2.2.2.2.2.2.2.2.2.2.2.2.2.2.2.2.2.2.2.2.2.2.2.2.2.2.2.2.2.2.2.2.2.2.2.2.2.2.2.2.2.2.2.2.2.2.2.1 t.2.2.2.2.2.2.2.2.2.2.2.2.2.2.2.2.2.2.2.2.2.2.2.2.2.2.2.2.2.2.2.2.2.2.2.2.2.2.2.2.2.2.2.2.2.2.2.2.2.2.2.2.2.2.2.1 t.2.2.2.2.2.2.2.2.2.2.2.2.2.2.2.2.2.2.2.2.2.2.2.2.2.2.2.2.2.2.2.2.2.2.2.2.2.2.2.2.2.2.2.2.2.2.2.2.2.2.2.2.2.2.2.2.1 t.2.2.2.2.2.2.2.2.2.2.2.2.2.2.2.2.2.2.2.2.2.2.2.2.2.2.2.2.2.2.2.2.2.2.2.2.2.2.2.2.2.2.2.2.2.2.2.2.2.2.2.2.2.2.2.2.2.1 t.2.2.2.2.2.2.2.2.2.2.2.2.2.2.2.2.2.2.2.2.2.2.2.2.2.2.2.2.2.2.2.2.2.2.2.2.2.2.2.2.2.2.2.2.2.2.2.2.2.2.2.2.2.2.2.2.2.2} := eps_ex ⟨(⟨fun _ _ => 0, { strHash := fun _ => 0, shareClass := fun _ => 0, mergeTok := fun _ => default, idOf := fun _ => 0, idOfShared := fun _ _ => 0, followText := fun _ => true, idOfImm := fun _ => 0 }⟩, default, default, default, default, default, default, default, default, default, default, default, default, default, default, default, default, default, default, default, default, default, default, default, default, default, default, default, default, default, default, default, {}, default, default, default, default, default, {}, default, default, default, default, default, default, default, default, default, default, default, default, default, default, default, default, default, default, default, default)⟩ fun t => S t.1 t.2.1 t.2.2.1 t.2.2.2.1 t.2.2.2.2.1 t.2.2.2.2.2.1 t.2.2.2.2.2.2.1 t.2.2.2.2.2.2.2.1 t.2.2.2.2.2.2.2.2.1 t.2.2.2.2.2.2.2.2.2.1 t.2.2.2.2.2.2.2.2.2.2.1 t.2.2.2.2.2.2.2.2.2.2.2.1 t.2.2.2.2.2.2.2.2.2.2.2.2.1 t.2.2.2.2.2.2.2.2.2.2.2.2.2.1 t.2.2.2.2.2.2.2.2.2.2.2.2.2.2.1 t.2.2.2.2.2.2.2.2.2.2.2.2.2.2.2.1 t.2.2.2.2.2.2.2.2.2.2.2.2.2.2.2.2.1 t.2.2.2.2.2.2.2.2.2.2.2.2.2.2.2.2.2.1 t.2.2.2.2.2.2.2.2.2.2.2.2.2.2.2.2.2.2.1 t.2.2.2.2.2.2.2.2.2.2.2.2.2.2.2.2.2.2.2.1 t.2.2.2.2.2.2.2.2.2.2.2.2.2.2.2.2.2.2.2.2.1 t.2.2.2.2.2.2.2.2.2.2.2.2.2.2.2.2.2.2.2.2.2.1 t.2.2.2.2.2.2.2.2.2.2.2.2.2.2.2.2.2.2.2.2.2.2.1 t.2.2.2.2.2.2.2.2.2.2.2.2.2.2.2.2.2.2.2.2.2.2.2.1 t.2.2.2.2.2.2.2.2.2.2.2.2.2.2.2.2.2.2.2.2.2.2.2.2.1 t.2.2.2.2.2.2.2.2.2.2.2.2.2.2.2.2.2.2.2.2.2.2.2.2.2.1 t.2.2.2.2.2.2.2.2.2.2.2.2.2.2.2.2.2.2.2.2.2.2.2.2.2.2.1 t.2.2.2.2.2.2.2.2.2.2.2.2.2.2.2.2.2.2.2.2.2.2.2.2.2.2.2.1 t.2.2.2.2.2.2.2.2.2.2.2.2.2.2.2.2.2.2.2.2.2.2.2.2.2.2.2.2.1 t.2.2.2.2.2.2.2.2.2.2.2.2.2.2.2.2.2.2.2.2.2.2.2.2.2.2.2.2.2.1 t.2.2.2.2.2.2.2.2.2.2.2.2.2.2.2.2.2.2.2.2.2.2.2.2.2.2.2.2.2.2.1 t.2.2.2.2.2.2.2.2.2.2.2.2.2.2.2.2.2.2.2.2.2.2.2.2.2.2.2.2.2.2.2.1 t.2.2.2.2.2.2.2.2.2.2.2.2.2.2.2.2.2.2.2.2.2.2.2.2.2.2.2.2.2.2.2.2.1 t.2.2.2.2.2.2.2.2.2.2.2.2.2.2.2.2.2.2.2.2.2.2.2.2.2.2.2.2.2.2.2.2.2.1 t.2.2.2.2.2.2.2.2.2.2.2.2.2.2.2.2.2.2.2.2.2.2.2.2.2.2.2.2.2.2.2.2.2.2.1 t.2.2.2.2.2.2.2.2.2.2.2.2.2.2.2.2.2.2.2.2.2.2.2.2.2.2.2.2.2.2.2.2.2.2.2.1 t.2.2.2.2.2.2.2.2.2.2.2.2.2.2.2.2.2.2.2.2.2.2.2.2.2.2.2.2.2.2.2.2.2.2.2.2.1 t.2.2.2.2.2.2.2.2.2.2.2.2.2.2.2.2.2.2.2.2.2.2.2.2.2.2.2.2.2.2.2.2.2.2.2.2.2.1 t.2.2.2.2.2.2.2.2.2.2.2.2.2.2.2.2.2.2.2.2.2.2.2.2.2.2.2.2.2.2.2.2.2.2.2.2.2.2.1 t.2.2.2.2.2.2.2.2.2.2.2.2.2.2.2.2.2.2.2.2.2.2.2.2.2.2.2.2.2.2.2.2.2.2.2.2.2.2.2.1 t.2.2.2.2.2.2.2.2.2.2.2.2.2.2.2.2.2.2.2.2.2.2.2.2.2.2.2.2.2.2.2.2.2.2.2.2.2.2.2.2.1 t.2.2.2.2.2.2.2.2.2.2.2.2.2.2.2.2.2.2.2.2.2.2.2.2.2.2.2.2.2.2.2.2.2.2.2.2.2.2.2.2.2.1 t.2.2.2.2.2.2.2.2.2.2.2.2.2.2.2.2.2.2.2.2.2.2.2.2.2.2.2.2.2.2.2.2.2.2.2.2.2.2.2.2.2.2.1 t.2.2.2.2.2.2.2.2.2.2.2.2.2.2.2.2.2.2.2.2.2.2.2.2.2.2.2.2.2.2.2.2.2.2.2.2.2.2.2.2.2.2.2.1 t.2.2.2.2.2.2.2.2.2.2.2.2.2.2.2.2.2.2.2.2.2.2.2.2.2.2.2.2.2.2.2.2.2.2.2.2.2.2.2.2.2.2.2.2.1 t.2.2.2.2.2.2.2.2.2.2.2.2.2.2.2.2.2.2.2.2.2.2.2.2.2.2.2.2.2.2.2.2.2.2.2.2.2.2.2.2.2.2.2.2.2.1 t.2.2.2.2.2.2.2.2.2.2.2.2.2.2.2.2.2.2.2.2.2.2.2.2.2.2.2.2.2.2.2.2.2.2.2.2.2.2.2.2.2.2.2.2.2.2.1 t.2.2.2.2.2.2.2.2.2.2.2.2.2.2.2.2.2.2.2.2.2.2.2.2.2.2.2.2.2.2.2.2.2.2.2.2.2.2.2.2.2.2.2.2.2.2.2.1 t.2.2.2.2.2.2.2.2.2.2.2.2.2.2.2.2.2.2.2.2.2.2.2.2.2.2.2.2.2.2.2.2.2.2.2.2.2.2.2.2.2.2.2.2.2.2.2.2.1 t.2.2.2.2.2.2.2.2.2.2.2.2.2.2.2.2.2.2.2.2.2.2.2.2.2.2.2.2.2.2.2.2.2.2.2.2.2.2.2.2.2.2.2.2.2.2.2.2.2.1 t.2.2.2.2.2.2.2.2.2.2.2.2.2.2.2.2.2.2.2.2.2.2.2.2.2.2.2.2.2.2.2.2.2.2.2.2.2.2.2.2.2.2.2.2.2.2.2.2.2.2.1 t.2.2.2.2.2.2.2.2.2.2.2.2.2.2.2.2.2.2.2.2.2.2.2.2.2.2.2.2.2.2.2.2.2.2.2.2.2.2.2.2.2.2.2.2.2.2.2.2.2.2.2.1 t.2.2.2.2.2.2.2.2.2.2.2.2.2.2.2.2.2.2.2.2.2.2.2.2.2.2.2.2.2.2.2.2.2.2.2.2.2.2.2.2.2.2.2.2.2.2.2.2.2.2.2.2.1 t.2.2.2.2.2.2.2.2.2.2.2.2.2.2.2.2.2.2.2.2.2.2.2.2.2.2.2.2.2.2.2.2.2.2.2.2.2.2.2.2.2.2.2.2.2.2.2.2.2.2.2.2.2.1 t.2.2.2.2.2.2.2.2.2.2.2.2.2.2.2.2.2.2.2.2.2.2.2.2.2.2.2.2.2.2.2.2.2.2.2.2.2.2.2.2.2.2.2.2.2.2.2.2.2.2.2.2.2.2.1 t.2.2.2.2.2.2.2.2.2.2.2.2.2.2.2.2.2.2.2.2.2.2.2.2.2.2.2.2.2.2.2.2.2.2.2.2.2.2.2.2.2.2.2.2.2.2.2.2.2.2.2.2.2.2.2.1 t.2.2.2.2.2.2.2.2.2.2.2.2.2.2.2.2.2.2.2.2.2.2.2.2.2.2.2.2.2.2.2.2.2.2.2.2.2.2.2.2.2.2.2.2.2.2.2.2.2.2.2.2.2.2.2.2.1 t.2.2.2.2.2.2.2.2.2.2.2.2.2.2.2.2.2.2.2.2.2.2.2.2.2.2.2.2.2.2.2.2.2.2.2.2.2.2.2.2.2.2.2.2.2.2.2.2.2.2.2.2.2.2.2.2.2.1 t.2.2.2.2.2.2.2.2.2.2.2.2.2.2.2.2.2.2.2.2.2.2.2.2.2.2.2.2.2.2.2.2.2.2.2.2.2.2.2.2.2.2.2.2.2.2.2.2.2.2.2.2.2.2.2.2.2.2
noncomputable def c₀ : World × Program × (List Str) × (ExcName → Option Value) × (Str → Option Value) × (Str → Option Value) × Str × Addr × Addr × Addr × Addr × Addr × Addr × Addr × Addr × Addr × Addr × Obj × Obj × Obj × Obj × Obj × Obj × Nat × Nat × (Option (List Code)) × Str × Scope × Addr × Value × (List (Str × Addr)) × (List Env) × Around × Heap × Heap × Addr × (Str → Option Value) × (List (Addr × Obj)) × Shared × (Value → Shared → Prop) × (Value → Shared → Prop) × Nat × Nat × Tok × Tok × Tok × Tok × Tok × Tok × Tok × Tok × Int × Nat × (List Nat) × Addr × Obj × (List (Str × Value)) × (List Str) × (Nat → List Str) := (Classical.choice c₁).val
noncomputable def w : World := c₀.1
noncomputable def p : Program := c₀.2.1
noncomputable def loose : List Str := c₀.2.2.1
noncomputable def mean : ExcName → Option Value := c₀.2.2.2.1
noncomputable def mg : Str → Option Value := c₀.2.2.2.2.1
noncomputable def mb : Str → Option Value := c₀.2.2.2.2.2.1
noncomputable def text : Str := c₀.2.2.2.2.2.2.1
noncomputable def pb : Addr := c₀.2.2.2.2.2.2.2.1
noncomputable def x : Addr := c₀.2.2.2.2.2.2.2.2.1
noncomputable def d : Addr := c₀.2.2.2.2.2.2.2.2.2.1
noncomputable def sd : Addr := c₀.2.2.2.2.2.2.2.2.2.2.1
noncomputable def st : Addr := c₀.2.2.2.2.2.2.2.2.2.2.2.1
noncomputable def f : Addr := c₀.2.2.2.2.2.2.2.2.2.2.2.2.1
noncomputable def cf : Addr := c₀.2.2.2.2.2.2.2.2.2.2.2.2.2.1
noncomputable def la : Addr := c₀.2.2.2.2.2.2.2.2.2.2.2.2.2.2.1
noncomputable def cA : Addr := c₀.2.2.2.2.2.2.2.2.2.2.2.2.2.2.2.1
noncomputable def cT : Addr := c₀.2.2.2.2.2.2.2.2.2.2.2.2.2.2.2.2.1
noncomputable def oD : Obj := c₀.2.2.2.2.2.2.2.2.2.2.2.2.2.2.2.2.2.1
noncomputable def fo : Obj := c₀.2.2.2.2.2.2.2.2.2.2.2.2.2.2.2.2.2.2.1
noncomputable def fobj : Obj := c₀.2.2.2.2.2.2.2.2.2.2.2.2.2.2.2.2.2.2.2.1
noncomputable def ocf : Obj := c₀.2.2.2.2.2.2.2.2.2.2.2.2.2.2.2.2.2.2.2.2.1
noncomputable def oA : Obj := c₀.2.2.2.2.2.2.2.2.2.2.2.2.2.2.2.2.2.2.2.2.2.1
noncomputable def oT : Obj := c₀.2.2.2.2.2.2.2.2.2.2.2.2.2.2.2.2.2.2.2.2.2.2.1
noncomputable def dp : Nat := c₀.2.2.2.2.2.2.2.2.2.2.2.2.2.2.2.2.2.2.2.2.2.2.2.1
noncomputable def un : Nat := c₀.2.2.2.2.2.2.2.2.2.2.2.2.2.2.2.2.2.2.2.2.2.2.2.2.1
noncomputable def gd : Option (List Code) := c₀.2.2.2.2.2.2.2.2.2.2.2.2.2.2.2.2.2.2.2.2.2.2.2.2.2.1
noncomputable def cn : Str := c₀.2.2.2.2.2.2.2.2.2.2.2.2.2.2.2.2.2.2.2.2.2.2.2.2.2.2.1
noncomputable def cs : Scope := c₀.2.2.2.2.2.2.2.2.2.2.2.2.2.2.2.2.2.2.2.2.2.2.2.2.2.2.2.1
noncomputable def a : Addr := c₀.2.2.2.2.2.2.2.2.2.2.2.2.2.2.2.2.2.2.2.2.2.2.2.2.2.2.2.2.1
noncomputable def ccd : Value := c₀.2.2.2.2.2.2.2.2.2.2.2.2.2.2.2.2.2.2.2.2.2.2.2.2.2.2.2.2.2.1
noncomputable def cl : List (Str × Addr) := c₀.2.2.2.2.2.2.2.2.2.2.2.2.2.2.2.2.2.2.2.2.2.2.2.2.2.2.2.2.2.2.1
noncomputable def outer : List Env := c₀.2.2.2.2.2.2.2.2.2.2.2.2.2.2.2.2.2.2.2.2.2.2.2.2.2.2.2.2.2.2.2.1
noncomputable def A₀ : Around := c₀.2.2.2.2.2.2.2.2.2.2.2.2.2.2.2.2.2.2.2.2.2.2.2.2.2.2.2.2.2.2.2.2.1
noncomputable def base : Heap := c₀.2.2.2.2.2.2.2.2.2.2.2.2.2.2.2.2.2.2.2.2.2.2.2.2.2.2.2.2.2.2.2.2.2.1
noncomputable def h₀ : Heap := c₀.2.2.2.2.2.2.2.2.2.2.2.2.2.2.2.2.2.2.2.2.2.2.2.2.2.2.2.2.2.2.2.2.2.2.1
noncomputable def L : Addr := c₀.2.2.2.2.2.2.2.2.2.2.2.2.2.2.2.2.2.2.2.2.2.2.2.2.2.2.2.2.2.2.2.2.2.2.2.1
noncomputable def m : Str → Option Value := c₀.2.2.2.2.2.2.2.2.2.2.2.2.2.2.2.2.2.2.2.2.2.2.2.2.2.2.2.2.2.2.2.2.2.2.2.2.1
noncomputable def rest : List (Addr × Obj) := c₀.2.2.2.2.2.2.2.2.2.2.2.2.2.2.2.2.2.2.2.2.2.2.2.2.2.2.2.2.2.2.2.2.2.2.2.2.2.1
noncomputable def s : Shared := c₀.2.2.2.2.2.2.2.2.2.2.2.2.2.2.2.2.2.2.2.2.2.2.2.2.2.2.2.2.2.2.2.2.2.2.2.2.2.2.1
noncomputable def Q : Value → Shared → Prop := c₀.2.2.2.2.2.2.2.2.2.2.2.2.2.2.2.2.2.2.2.2.2.2.2.2.2.2.2.2.2.2.2.2.2.2.2.2.2.2.2.1
noncomputable def E : Value → Shared → Prop := c₀.2.2.2.2.2.2.2.2.2.2.2.2.2.2.2.2.2.2.2.2.2.2.2.2.2.2.2.2.2.2.2.2.2.2.2.2.2.2.2.2.1
noncomputable def k : Nat := c₀.2.2.2.2.2.2.2.2.2.2.2.2.2.2.2.2.2.2.2.2.2.2.2.2.2.2.2.2.2.2.2.2.2.2.2.2.2.2.2.2.2.1
noncomputable def n : Nat := c₀.2.2.2.2.2.2.2.2.2.2.2.2.2.2.2.2.2.2.2.2.2.2.2.2.2.2.2.2.2.2.2.2.2.2.2.2.2.2.2.2.2.2.1
noncomputable def t1 : Tok := c₀.2.2.2.2.2.2.2.2.2.2.2.2.2.2.2.2.2.2.2.2.2.2.2.2.2.2.2.2.2.2.2.2.2.2.2.2.2.2.2.2.2.2.2.1
noncomputable def t2 : Tok := c₀.2.2.2.2.2.2.2.2.2.2.2.2.2.2.2.2.2.2.2.2.2.2.2.2.2.2.2.2.2.2.2.2.2.2.2.2.2.2.2.2.2.2.2.2.1
noncomputable def t3 : Tok := c₀.2.2.2.2.2.2.2.2.2.2.2.2.2.2.2.2.2.2.2.2.2.2.2.2.2.2.2.2.2.2.2.2.2.2.2.2.2.2.2.2.2.2.2.2.2.1
noncomputable def t4 : Tok := c₀.2.2.2.2.2.2.2.2.2.2.2.2.2.2.2.2.2.2.2.2.2.2.2.2.2.2.2.2.2.2.2.2.2.2.2.2.2.2.2.2.2.2.2.2.2.2.1
noncomputable def u1 : Tok := c₀.2.2.2.2.2.2.2.2.2.2.2.2.2.2.2.2.2.2.2.2.2.2.2.2.2.2.2.2.2.2.2.2.2.2.2.2.2.2.2.2.2.2.2.2.2.2.2.1
noncomputable def u3 : Tok := c₀.2.2.2.2.2.2.2.2.2.2.2.2.2.2.2.2.2.2.2.2.2.2.2.2.2.2.2.2.2.2.2.2.2.2.2.2.2.2.2.2.2.2.2.2.2.2.2.2.1
noncomputable def u4 : Tok := c₀.2.2.2.2.2.2.2.2.2.2.2.2.2.2.2.2.2.2.2.2.2.2.2.2.2.2.2.2.2.2.2.2.2.2.2.2.2.2.2.2.2.2.2.2.2.2.2.2.2.1
noncomputable def tst : Tok := c₀.2.2.2.2.2.2.2.2.2.2.2.2.2.2.2.2.2.2.2.2.2.2.2.2.2.2.2.2.2.2.2.2.2.2.2.2.2.2.2.2.2.2.2.2.2.2.2.2.2.2.1
noncomputable def ln : Int := c₀.2.2.2.2.2.2.2.2.2.2.2.2.2.2.2.2.2.2.2.2.2.2.2.2.2.2.2.2.2.2.2.2.2.2.2.2.2.2.2.2.2.2.2.2.2.2.2.2.2.2.2.1
noncomputable def i0 : Nat := c₀.2.2.2.2.2.2.2.2.2.2.2.2.2.2.2.2.2.2.2.2.2.2.2.2.2.2.2.2.2.2.2.2.2.2.2.2.2.2.2.2.2.2.2.2.2.2.2.2.2.2.2.2.1
noncomputable def D : List Nat := c₀.2.2.2.2.2.2.2.2.2.2.2.2.2.2.2.2.2.2.2.2.2.2.2.2.2.2.2.2.2.2.2.2.2.2.2.2.2.2.2.2.2.2.2.2.2.2.2.2.2.2.2.2.2.1
noncomputable def dd : Addr := c₀.2.2.2.2.2.2.2.2.2.2.2.2.2.2.2.2.2.2.2.2.2.2.2.2.2.2.2.2.2.2.2.2.2.2.2.2.2.2.2.2.2.2.2.2.2.2.2.2.2.2.2.2.2.2.1
noncomputable def o : Obj := c₀.2.2.2.2.2.2.2.2.2.2.2.2.2.2.2.2.2.2.2.2.2.2.2.2.2.2.2.2.2.2.2.2.2.2.2.2.2.2.2.2.2.2.2.2.2.2.2.2.2.2.2.2.2.2.2.1
noncomputable def kvs : List (Str × Value) := c₀.2.2.2.2.2.2.2.2.2.2.2.2.2.2.2.2.2.2.2.2.2.2.2.2.2.2.2.2.2.2.2.2.2.2.2.2.2.2.2.2.2.2.2.2.2.2.2.2.2.2.2.2.2.2.2.2.1
noncomputable def ws : List Str := c₀.2.2.2.2.2.2.2.2.2.2.2.2.2.2.2.2.2.2.2.2.2.2.2.2.2.2.2.2.2.2.2.2.2.2.2.2.2.2.2.2.2.2.2.2.2.2.2.2.2.2.2.2.2.2.2.2.2.1
noncomputable def qs : Nat → List Str := c₀.2.2.2.2.2.2.2.2.2.2.2.2.2.2.2.2.2.2.2.2.2.2.2.2.2.2.2.2.2.2.2.2.2.2.2.2.2.2.2.2.2.2.2.2.2.2.2.2.2.2.2.2.2.2.2.2.2.2
theorem main : S w p loose mean mg mb text pb x d sd st f cf la cA cT oD fo fobj ocf oA oT dp un gd cn cs a ccd cl outer A₀ base h₀ L m rest s Q E k n t1 t2 t3 t4 u1 u3 u4 tst ln i0 D dd o kvs ws qs := by
  unfold S
  intro start Mx zne zne2 zne3 hsz hD hi0 hW hdd hdo hdm hw0 hq0 hqs hql hwl hwn B F X N T hk hd hu hret
  have q1 := Mx.q1; have q2 := Mx.q2; have q3 := Mx.q3; have q4 := Mx.q4; have q5 := Mx.q5; have q6 := Mx.q6; have q7 := Mx.q7; have q8 := Mx.q8; have q9 := Mx.q9
  unfold prg at *
  revert X Mx; k_fill; intro Mx X
  refine wpAny_call ?_
  k_dflt ktr_enter
  k_steps
  refine Stop.mk ?_
  rename_i g L4 h4 FG BG XG TG q1' e1' q2' e2' W h2 lW h' F' N'

  replace N' := news_one' [_, _, _, _, _, _, _, _, _, _] rest N'
  have zW : ∀ q ∈ rest, @Ne Nat q.1 W := ne_of_allLt lW.2.2.2.2.2.2.2.2.2.2 (Nat.le_refl _)
  have lW1 : @LT.lt Nat _ pb W := lW.1
  have zpb : ∀ l : List (Addr × Obj), l.map (·.1) = [sd, st, f, cf, la, cA, cT, W] ++ rest.map (·.1) → ∀ q ∈ l, @Ne Nat q.1 pb := ne_addrs (by
    intro b hb
    rcases List.mem_append.mp hb with hb | hb
    · simp only [List.mem_cons, List.not_mem_nil, or_false] at hb
      show @Ne Nat b pb
      rcases hb with rfl | rfl | rfl | rfl | rfl | rfl | rfl | rfl <;> omega
    · obtain ⟨q, hq, rfl⟩ := List.mem_map.mp hb
      exact zne3 q hq)
  k_dflt (refine' push_q (vs := []) (rest := (sd, oD) :: (st, fo) :: (f, fobj) :: (cf, ocf) :: (la, _) :: (cA, oA) :: (cT, oT) :: (W, _) :: rest) ?kl q9 q8 (zpb _ rfl) BG F' XG N' TG rfl ?kd ?ku ?_)

  case kl => exact Nat.zero_le _
  case kd => first | ktr_room | (show dp + 1 + 10 < _; omega)
  case ku => first | ktr_units | (show un + 3 + 100 < _; omega)

  intro h' tka F' N'
  k_steps
  refine Stop.mk ?_
  k_dflt (refine' get_q (vs := []) (rest := (sd, oD) :: (st, fo) :: (f, fobj) :: (cf, ocf) :: (la, _) :: (cA, oA) :: (cT, oT) :: (W, _) :: rest) ?kl q9 q8 (zpb _ rfl) BG F' XG N' TG rfl ?kd ?ku ?_)
  case kl => exact Nat.zero_le _
  case kd => first | ktr_room | (show dp + 1 + 10 < _; omega)
  case ku => first | ktr_units | (show un + 3 + 100 < _; omega)

  intro k1 h' tka F' N'
  k_steps
  refine Stop.mk ?_
  rename_i F' N'
  refine fr_name F' fun m₀ hm F0 => ?_
  have hmw : m₀ (Str.ofString "walk") = some (.str start tst) := by rw [← hm]; rfl
  refine While_inv (J := WJ w ws qs m₀ pb x d sd st f cf la cA cT W oD fo fobj ocf oA oT t1 t2 t3 t4 u1 u3 u4 ln i0 n D rest) (h₀ := g) (L := L4) (n₀ := ws.length) F0 N' (.on 0 [] 0 k1 tst (m₀ (Str.ofString "place")) (m₀ (Str.ofString "here")) start [] rfl .nil hw0 (by rw [hq0]; exact .nil) (map3_init hmw) rfl) ?_ (hE := by passes_own)
  clear N' F' F0
  rintro n₁ m₁ nw h₁ tk₁ F₁ N₁ hJ
  have zla : ∀ wo : Obj, ∀ q ∈ (W, wo) :: rest, @Ne Nat q.1 la := fun wo q hq => by
    rcases List.mem_cons.mp hq with rfl | hq
    · show @Ne Nat W la; omega
    · exact zne q hq
  have zdd : ∀ wo : Obj, ∀ q ∈ (W, wo) :: rest, @Ne Nat q.1 d := fun wo q hq => by
    rcases List.mem_cons.mp hq with rfl | hq
    · show @Ne Nat W d; omega
    · exact zne2 q hq
  rcases hJ with ⟨i, vals, kW, kq, t, o1, o2, y, qv, rfl, hS, hy, hq, rfl, rfl⟩ | ⟨i, vals, kW, kq, t, o1, o2, b1, b4, rfl, hS, rfl, rfl, rfl⟩
  · have hyw := hwl y (List.mem_of_getElem? hy)
    obtain ⟨hy1, hy2, hy3⟩ := hyw
    subst hm
    refine stop_post ?_
    k_steps
    refine Stop.mk ?_
    rw [if_pos (by show (!(y == Str.ofString "")) = true; rw [hy3]; rfl)]
    have hvl : vals.length ≤ 64 := by
      have e1 := hS.length
      rw [List.length_take] at e1
      omega
    k_steps
    refine Stop.mk ?_
    k_dflt (refine' append_L ?k1 ?k2 ?k3 ?_ ?z; (case k1 | k2 => k_asm); (case k3 => k_upd); (case z => omega); k_whole)
    intro _ _ N'
    (try dsimp only at N')
    k_steps
    all_goals try (refine Stop.mk ?_; (k_dflt (refine' pure_use (strip_pure _ _ _ _ _ _ _ _ ?o1_u502) ?B_u502 ?F_u502 ?X_u502 ?N_u502 ?T_u502 ?hk_u502 ?hd_u502 ?hu_u502 ?_; (case B_u502 => k_asm); (case F_u502 => k_asm); (case X_u502 => k_asm); (case T_u502 => k_asm); (case N_u502 => k_asm); (case o1_u502 => exact Nat.le_trans (by assumption) (by decide)); (case hk_u502 => exact rfl); (case hd_u502 => ktr_room); (case hu_u502 => ktr_units)); rintro r' h' tk' F' N' ⟨t', e'⟩; subst e'); k_steps)
    all_goals try (refine Stop.mk ?_; (k_dflt (refine' pure_use (ell_pure _ _ _ _ _ _ _ _ _ (wantF_ok _ ?o0_u503) _ _ ?o1_u503) ?B_u503 ?F_u503 ?X_u503 ?N_u503 ?T_u503 ?hk_u503 ?hd_u503 ?hu_u503 ?_; (case B_u503 => k_asm); (case F_u503 => k_asm); (case X_u503 => k_asm); (case T_u503 => k_asm); (case N_u503 => k_asm); (case o0_u503 => assumption); (case o1_u503 => exact Nat.le_trans (by assumption) (by decide)); (case hk_u503 => exact rfl); (case hd_u503 => ktr_room); (case hu_u503 => ktr_units)); rintro r' h' tk' F' N' e'; subst e'); k_steps)
    refine Stop.mk ?_
    (rename Fr _ _ _ _ => lF')
    (with_unfolding_all refine' For_invVF lF' ?k1 ?k2 ?_; (case k1 | k2 => exact rfl))
    k_steps
    refine Stop.mk ?_
    (rename Fr _ _ _ _ => hF)
    (rename News _ _ _ _ => hN)
    refine loop_led0 (by_str rfl (by k_asm) hN) (fun j nw => WL pb ((x, instObj 125 d) :: (d, dictOf [mcEnt w "lineno" t1 (.int ln u1), mcEnt w "instream" t2 (.ref st), mcEnt w "whitespace" t3 (.str (Str.ofString "\n\t\r ") u3), mcEnt w "pushback" t4 (.ref pb)] 4) :: (sd, oD) :: (st, fo) :: (f, fobj) :: (cf, ocf) :: (la, listOf #[.int (i0 : Nat) u4] n) :: (cA, oA) :: (cT, oT) :: (W, listOf (vals ++ [Value.str y t]).toArray (kW + 1)) :: rest) (qs i ++ nxt kvs y ([97, 98, 99, 100, 101].take j)) nw) ?hl ?hadr ⟨_, _, rfl, by rw [show nxt kvs y ([97, 98, 99, 100, 101].take 0) = [] from rfl, List.append_nil]; exact hq⟩ ?turn ?done
    case hl => intro _ _ _; trivial
    case hadr => rintro j nw ⟨qv', kq', rfl, _⟩; rfl
    case turn =>
      rintro j v nw I ito h tk hin ⟨c, uc, hcj, rfl⟩ ⟨qv', kq', rfl, hq'⟩ hlow F' N'
      have habc : (Str.ofString "abcde").cps = #[97, 98, 99, 100, 101] := by decide +kernel
      rw [habc] at hcj
      have hcj' : ([97, 98, 99, 100, 101] : List Nat)[j]? = some c := by rw [← hcj]; simp
      have hcm : c ∈ [97, 98, 99, 100, 101] := List.mem_of_getElem? hcj'
      have hst := nxt_step kvs y hcj'
      have hcl : (⟨#[c]⟩ : Str).length ≤ 1 := Nat.le_refl _
      have hcl1 : 1 ≤ (⟨#[c]⟩ : Str).length := Nat.le_refl _
      have lI : @LT.lt Nat _ pb I := hlow _ (.head _)
      have hq'l : qv'.length ≤ 100 := by
        have e1 := hq'.length
        have e2 := hql i
        have e3 := nxt_len kvs y ([97, 98, 99, 100, 101].take j)
        rw [List.length_append] at e1
        have e4 : ([97, 98, 99, 100, 101].take j).length ≤ 5 := by rw [List.length_take]; exact Nat.min_le_right _ _
        omega
      k_lt hlow
      k_steps
      refine Stop.mk ?_
      k_dflt (refine' kv_in ?N ?m ?d ?l ?_; (case d => assumption); (case N => k_asm); (case m => repeat (first | assumption | apply List.Mem.tail)); (case l => assumption))
      k_steps
      all_goals try (refine Stop.mk ?_; (k_dflt (refine' pure_use (strip_pure _ _ _ _ _ _ _ _ ?o1_u500) ?B_u500 ?F_u500 ?X_u500 ?N_u500 ?T_u500 ?hk_u500 ?hd_u500 ?hu_u500 ?_; (case B_u500 => k_asm); (case F_u500 => k_asm); (case X_u500 => k_asm); (case T_u500 => k_asm); (case N_u500 => k_asm); (case o1_u500 => exact Nat.le_trans (by assumption) (by decide)); (case hk_u500 => exact rfl); (case hd_u500 => ktr_room); (case hu_u500 => ktr_units)); rintro r' h' tk' F' N' ⟨t', e'⟩; subst e'); k_steps)
      all_goals try (refine Stop.mk ?_; (k_dflt (refine' pure_use (ell_pure _ _ _ _ _ _ _ _ _ (wantF_ok _ ?o0_u501) _ _ ?o1_u501) ?B_u501 ?F_u501 ?X_u501 ?N_u501 ?T_u501 ?hk_u501 ?hd_u501 ?hu_u501 ?_; (case B_u501 => k_asm); (case F_u501 => k_asm); (case X_u501 => k_asm); (case T_u501 => k_asm); (case N_u501 => k_asm); (case o0_u501 => assumption); (case o1_u501 => exact Nat.le_trans (by assumption) (by decide)); (case hk_u501 => exact rfl); (case hd_u501 => ktr_room); (case hu_u501 => ktr_units)); rintro r' h' tk' F' N' e'; subst e'); k_steps)
      · (rename Fr _ _ _ _ => F5)
        (rename News _ _ _ _ => N5)
        rename_i e5
        have hk0 : okP kvs y c = false := okP_no2 e5
        rw [hk0, if_neg (by decide), List.append_nil] at hst
        exact TurnE.intro F5 N5 (sub_refl _) ⟨⟨_, _, rfl, by rw [hst]; exact hq'⟩, fun z hz => if_neg hz⟩
      · refine Stop.mk ?_
        have hk1 : okP kvs y c = true := okP_yes (by assumption) (by assumption)
        rw [hk1, if_pos rfl] at hst
        (rename Fr _ _ _ _ => F5)
        (rename News _ _ _ _ => N5)
        k_dflt (refine' push_q (rest := (I, ito) :: (sd, oD) :: (st, fo) :: (f, fobj) :: (cf, ocf) :: (la, _) :: (cA, oA) :: (cT, oT) :: (W, _) :: rest) hq'l q9 q8 ?kz BG F5 XG (news_one' [_, _, _] _ N5) TG rfl ?kd ?ku ?_)
        case kz =>
          intro q hq
          rcases List.mem_cons.mp hq with rfl | hq
          · show @Ne Nat I pb; omega
          · exact zpb _ rfl q hq
        case kd => first | ktr_room | (show dp + 1 + 10 < _; omega)
        case ku => first | ktr_units | (show un + 3 + 100 < _; omega)
        intro h9 tk9 F9 N9
        have N9 := news_one [_, _, _] _ N9
        k_steps
        exact TurnE.intro F9 N9 (sub_refl _) ⟨⟨_, _, rfl, by rw [hst, ← List.append_assoc]; exact strs_app hq'⟩, fun z hz => if_neg hz⟩
      · have hk0 : okP kvs y c = false := okP_no1 (by assumption)
        rw [hk0, if_neg (by decide), List.append_nil] at hst
        exact TurnE.intro (by k_asm) (by k_asm) (sub_refl _) ⟨⟨_, _, rfl, by rw [hst]; exact hq'⟩, fun z hz => if_neg hz⟩
    case done =>
      rintro u nw h tk ⟨qv', kq', rfl, hq'⟩ F' N'
      have e5 : (Str.ofString "abcde").cps.size = 5 := by decide +kernel
      rw [e5, show List.take 5 [97, 98, 99, 100, 101] = [97, 98, 99, 100, 101] from rfl] at hq'
      have hs := hqs i y hy
      have hS' := strs_snoc hS hy (t := t)
      have hil : i < ws.length := (List.getElem?_eq_some_iff.mp hy).1
      dsimp only
      k_steps
      refine Stop.mk ?_
      cases hz : ws[i + 1]? with
      | none =>
        rw [hz] at hs
        dsimp only at hs
        rw [hs] at hq'
        cases hq'
        have hend : i + 1 = ws.length := by
          have := List.getElem?_eq_none_iff.mp hz
          omega
        k_dflt (refine' eof_t (rest := (W, _) :: rest) Mx ?kz1 ?kz2 hsz hD hi0 hW BG F' XG N' TG rfl ?kd ?ku ?_)
        case kz1 => exact zla _
        case kz2 => exact zdd _
        case kd => first | ktr_room | (show dp + 1 + 20 < _; omega)
        case ku => first | ktr_units | (show un + 3 + 400 < _; omega)
        intro h' tka t0 b1 b4 F' N'
        k_steps
        rename_i F5 N5
        rw [map3_next (by decide +kernel) (by decide +kernel)] at F5
        exact WhileStep.intro F5 N5 (by omega) (.off (i + 1) _ _ _ _ _ _ _ _ rfl hS' hend rfl rfl)
      | some z =>
        rw [hz] at hs
        dsimp only at hs
        rw [hs] at hq'
        obtain ⟨qv2, tz, rfl, hq2⟩ := strs_cons hq'
        have hq2l : qv2.length ≤ 100 := by
          have := hql (i + 1)
          have := hq2.length
          omega
        k_dflt (refine' get_q (rest := (sd, oD) :: (st, fo) :: (f, fobj) :: (cf, ocf) :: (la, _) :: (cA, oA) :: (cT, oT) :: (W, _) :: rest) hq2l q9 q8 (zpb _ rfl) BG F' XG N' TG rfl ?kd ?ku ?_)
        case kd => first | ktr_room | (show dp + 1 + 10 < _; omega)
        case ku => first | ktr_units | (show un + 3 + 100 < _; omega)
        intro k1 h' tka F' N'
        k_steps
        rename_i F5 N5
        rw [map3_next (by decide +kernel) (by decide +kernel)] at F5
        exact WhileStep.intro F5 N5 (by omega) (.on (i + 1) _ _ _ _ _ _ _ _ rfl hS' hz hq2 rfl rfl)
  · subst hm
    refine stop_post ?_
    k_steps
    refine Stop.mk ?_
    rw [if_neg (by decide +kernel)]
    k_steps
    rename_i kF kN _ _
    rw [List.take_length] at hS
    exact hret W _ vals _ _ kF (news_sub kN fun p hp => .tail _ (.tail _ (.tail _ (.tail _ (.tail _ (.tail _ (.tail _ (.tail _ (.tail _ (.tail _ hp)))))))))) hS (allLt_to lW.2.2.2.2.2.2.2.2.2.2)
end walks_t
theorem walks_t {w : World} {p : Program} {loose : List Str} {mean : ExcName → Option Value} {mg mb : Str → Option Value} {text : Str} {pb x d sd st f cf la cA cT : Addr} {oD fo fobj ocf oA oT : Obj}
    (Mx : Mach w p loose mean mg mb text pb x d sd st f cf la cA cT oD fo fobj ocf oA oT)
    {dp un : Nat} {gd : Option (List Code)} {cn : Str} {cs : Scope} {a : Addr} {ccd : Value} {cl : List (Str × Addr)} {outer : List Env} {A₀ : Around} {base h₀ : Heap} {L : Addr} {m : Str → Option Value} {rest : List (Addr × Obj)} {s : Shared}
    {Q E : Value → Shared → Prop} {k n : Nat} {t1 t2 t3 t4 u1 u3 u4 tst : Tok} {ln : Int} {i0 : Nat} (zne : ∀ q ∈ rest, @Ne Nat q.1 la) (zne2 : ∀ q ∈ rest, @Ne Nat q.1 d) (zne3 : ∀ q ∈ rest, @Ne Nat q.1 pb) (hsz : text.length ≤ 900)
    {D : List Nat} (hD : text.cps.toList.drop i0 = D) (hi0 : i0 ≤ text.length) (hW : ∀ c ∈ D, isWs c = true)
    {dd : Addr} {o : Obj} {kvs : List (Str × Value)} (hdd : (dd, o) ∈ rest) (hdo : o.IsDictOf (PySem.strKind prg w) kvs) (hdm : (dd == sysModules) = false)
    {start : Str} {ws : List Str} {qs : Nat → List Str} (hw0 : ws[0]? = some start) (hq0 : qs 0 = []) (hqs : ∀ i y, ws[i]? = some y → match ws[i + 1]? with | some z => qs i ++ nxt kvs y [97, 98, 99, 100, 101] = z :: qs (i + 1) | none => qs i ++ nxt kvs y [97, 98, 99, 100, 101] = []) (hql : ∀ i, (qs i).length ≤ 64) (hwl : ∀ y ∈ ws, y.length ≤ 20 ∧ (stripF y).length ≤ 20 ∧ (y == Str.ofString "") = false) (hwn : ws.length ≤ 64)
    (B : Below A₀ base outer h₀) (F : Fr h₀ L s.heap m) (X : (hd.heap_39 w.params).In h₀) (N : News h₀ L s.heap ((pb, listOf #[] k) :: (x, instObj 125 d) :: (d, dictOf [mcEnt w "lineno" t1 (.int ln u1), mcEnt w "instream" t2 (.ref st), mcEnt w "whitespace" t3 (.str (Str.ofString "\n\t\r ") u3), mcEnt w "pushback" t4 (.ref pb)] 4) :: (sd, oD) :: (st, fo) :: (f, fobj) :: (cf, ocf) :: (la, listOf #[.int (i0 : Nat) u4] n) :: (cA, oA) :: (cT, oT) :: rest)) (T : Top p loose mean mg mb h₀) (hk : cs.kind = .function) (hd : dp + 40 < recursionLimit) (hu : un + 600 < cLine)
    (hret : ∀ W kW vals h' tk', Fr h₀ L h' m → News h₀ L h' ((W, listOf vals.toArray kW) :: rest) → StrsAre vals ws → (∀ q ∈ rest, @LT.lt Nat _ q.1 W) → Q (.ref W) { s with heap := h', toks := tk' }) :
    wpAny (model prg w) (ktrTop dp un gd cn cs L a ccd cl outer) (call (.ref 167) [.ref x, .str start tst, .ref dd]) Q E s :=
  (Classical.choice walks_t.c₁).property walks_t.main (w, p, loose, mean, mg, mb, text, pb, x, d, sd, st, f, cf, la, cA, cT, oD, fo, fobj, ocf, oA, oT, dp, un, gd, cn, cs, a, ccd, cl, outer, A₀, base, h₀, L, m, rest, s, Q, E, k, n, t1, t2, t3, t4, u1, u3, u4, tst, ln, i0, D, dd, o, kvs, ws, qs) start Mx zne zne2 zne3 hsz hD hi0 hW hdd hdo hdm hw0 hq0 hqs hql hwl hwn B F X N T hk hd hu hret
end
end
section
set_option maxRecDepth 100000
set_option maxHeartbeats 4000000
/- the word of a line, as the lexer reads it -/
noncomputable def wordOf (l : Rx.Ln) : List Nat := List.replicate (l.k + 1) 46 ++ l.a
theorem dbl_cons (l : Rx.Ln) (L : List Rx.Ln) : Rx.dblL (l :: L) = wordOf l ++ 13 :: (10 :: Rx.dblL L) := by
  show (List.replicate (l.k + 1) 46 ++ l.a ++ [13, 10]) ++ Rx.dblL L = _
  unfold wordOf
  simp
theorem word_plain (l : Rx.Ln) (ha : ∀ c ∈ l.a, 97 ≤ c ∧ c ≤ 101) : ∀ c ∈ wordOf l, isWs c = false ∧ c ≠ 34 ∧ c ≠ 92 := by
  intro c hc
  unfold wordOf at hc
  rcases List.mem_append.mp hc with hc | hc
  · rw [List.eq_of_mem_replicate hc]; decide
  · have := ha c hc
    refine ⟨?_, by omega, by omega⟩
    unfold isWs
    rw [beq_eq_false_iff_ne.mpr (by omega : c ≠ 10), beq_eq_false_iff_ne.mpr (by omega : c ≠ 9), beq_eq_false_iff_ne.mpr (by omega : c ≠ 13), beq_eq_false_iff_ne.mpr (by omega : c ≠ 32)]
    rfl
end
section
set_option maxRecDepth 100000
set_option maxHeartbeats 4000000
theorem dbl_len : ∀ (L : List Rx.Ln), (∀ l ∈ L, l.k ≤ 3 ∧ l.a.length = 2) → (Rx.dblL L).length ≤ 8 * L.length
  | [], _ => Nat.le_refl _
  | l :: L, h => by
    have ih := dbl_len L fun b hb => h b (.tail _ hb)
    have hl := h l (.head _)
    rw [dbl_cons, List.length_append, List.length_cons, List.length_cons, List.length_cons]
    unfold wordOf
    rw [List.length_append, List.length_replicate]
    omega
theorem lns_small (nm : List Str) (hb : ∀ b ∈ nm, b.length = 2) : ∀ (c7 : List Int), ∀ l ∈ lnsOf c7 nm, l.k ≤ 3 ∧ l.a.length = 2 := by
  induction nm with
  | nil => intro c7 l h; unfold lnsOf at h; simp at h
  | cons b nm ih =>
    intro c7 l h
    cases c7 with
    | nil => unfold lnsOf at h; simp at h
    | cons c c7 =>
      rcases List.mem_cons.mp (show l ∈ lnOf c b :: lnsOf c7 nm from h) with rfl | h
      · have := fmod_in c (k := 3) (by decide)
        refine ⟨?_, ?_⟩
        · show (1 + c.fmod 3).toNat ≤ 3
          omega
        · show b.cps.toList.length = 2
          rw [Array.length_toList]; exact hb b (.head _)
      · exact ih (fun b' h' => hb b' (.tail _ h')) c7 l h
theorem lns_len (nm : List Str) (c7 : List Int) : (lnsOf c7 nm).length = min c7.length nm.length := List.length_zipWith
/- the text from the i-th word on -/
noncomputable def txtD (Ls : List Rx.Ln) : Nat → List Nat
  | 0 => Rx.dblL Ls
  | i + 1 => 10 :: Rx.dblL (Ls.drop (i + 1))
noncomputable def wsp : Nat → List Nat
  | 0 => []
  | _ + 1 => [10]
noncomputable def lnI : Nat → Int
  | 0 => 1
  | i + 1 => ((i + 1 : Nat) : Int)
noncomputable def wordS (l : Rx.Ln) : Str := ⟨(wordOf l).toArray⟩
theorem wsp_ws (i : Nat) : ∀ c ∈ wsp i, isWs c = true := by
  intro c hc
  cases i with
  | zero => cases hc
  | succ i => rw [List.mem_singleton.mp hc]; rfl
theorem txt_at {Ls : List Rx.Ln} {i : Nat} {l : Rx.Ln} (h : Ls[i]? = some l) : txtD Ls i = wsp i ++ (wordOf l ++ 13 :: txtD Ls (i + 1)) := by
  have hi : i < Ls.length := (List.getElem?_eq_some_iff.mp h).1
  have e : Ls.drop i = l :: Ls.drop (i + 1) := by
    rw [List.drop_eq_getElem_cons hi]
    congr 1
    exact (List.getElem?_eq_some_iff.mp h).2
  cases i with
  | zero =>
    rw [List.drop_zero] at e
    show Rx.dblL Ls = [] ++ _
    rw [List.nil_append]
    conv => lhs; rw [e]
    rw [dbl_cons]; rfl
  | succ i =>
    show 10 :: Rx.dblL (Ls.drop (i + 1)) = [10] ++ _
    rw [e, dbl_cons]; rfl
theorem txt_drop {Ls : List Rx.Ln} {i : Nat} {l : Rx.Ln} (h : Ls[i]? = some l) : (txtD Ls i).drop ((wsp i).length + (wordOf l).length + 1) = txtD Ls (i + 1) := by
  rw [txt_at h, ← List.append_assoc, List.drop_append, List.drop_eq_nil_of_le (by rw [List.length_append]; omega), List.nil_append, List.length_append]
  rw [show (wsp i).length + (wordOf l).length + 1 - ((wsp i).length + (wordOf l).length) = 1 by omega]
  rfl
theorem txt_line {Ls : List Rx.Ln} {i : Nat} {l : Rx.Ln} (h : Ls[i]? = some l) (hw : ∀ c ∈ wordOf l, c ≠ 10) : lnC (lnI i) (txtD Ls i) ((wsp i).length + (wordOf l).length + 1) = lnI (i + 1) := by
  unfold lnC
  have e : (txtD Ls i).take ((wsp i).length + (wordOf l).length + 1) = wsp i ++ wordOf l ++ [13] := by
    rw [txt_at h, ← List.append_assoc, List.take_append, List.take_of_length_le (by rw [List.length_append]; omega), List.length_append,
      show (wsp i).length + (wordOf l).length + 1 - ((wsp i).length + (wordOf l).length) = 1 by omega]
    rfl
  rw [e, List.count_append, List.count_append, List.count_eq_zero.mpr (fun hc => hw 10 hc rfl)]
  cases i with
  | zero => rfl
  | succ i =>
    show ((i + 1 : Nat) : Int) + ((1 + 0 + 0 : Nat) : Int) = ((i + 1 + 1 : Nat) : Int)
    omega
theorem txt_end {Ls : List Rx.Ln} {n : Nat} (h : Ls.length = n + 1) : txtD Ls (n + 1) = [10] := by
  show 10 :: Rx.dblL (Ls.drop (n + 1)) = _
  rw [List.drop_eq_nil_of_le (by omega)]; rfl
theorem ln_end (n : Nat) : lnC (lnI (n + 1)) [10] 1 = ((n + 2 : Nat) : Int) := by
  show ((n + 1 : Nat) : Int) + ((1 : Nat) : Int) = _
  omega
theorem txt_next {x : List Nat} {p k : Nat} {D D' : List Nat} (h : x.drop p = D) (hd : D.drop k = D') : x.drop (p + k) = D' := by
  rw [← List.drop_drop, h, hd]
theorem word_ne (l : Rx.Ln) : wordOf l ≠ [] := by unfold wordOf; simp [List.replicate_succ]
theorem word_no10 {l : Rx.Ln} (h : ∀ c ∈ wordOf l, isWs c = false ∧ c ≠ 34 ∧ c ≠ 92) : ∀ c ∈ wordOf l, c ≠ 10 := by
  rintro c hc rfl
  have := (h 10 hc).1
  cases this
theorem lns_letters (nm : List Str) (hb : ∀ b ∈ nm, ∀ x ∈ b.cps.toList, 97 ≤ x ∧ x ≤ 101) : ∀ (c7 : List Int), ∀ l ∈ lnsOf c7 nm, ∀ c ∈ l.a, 97 ≤ c ∧ c ≤ 101 := by
  induction nm with
  | nil => intro c7 l h; unfold lnsOf at h; simp at h
  | cons b nm ih =>
    intro c7 l h
    cases c7 with
    | nil => unfold lnsOf at h; simp at h
    | cons c c7 =>
      rcases List.mem_cons.mp (show l ∈ lnOf c b :: lnsOf c7 nm from h) with rfl | h
      · exact fun c hc => hb b (.head _) c hc
      · exact ih (fun b' h' => hb b' (.tail _ h')) c7 l h
theorem news_drop {h₀ h : Heap} {L : Addr} {a : Addr × Obj} (l r : List (Addr × Obj)) (N : News h₀ L h (l ++ (a :: r))) : News h₀ L h (l ++ r) := fun z hz => by
  rcases List.mem_append.mp hz with hz | hz
  · exact N z (List.mem_append_left _ hz)
  · exact N z (List.mem_append_right _ (.tail _ hz))
theorem range_small (k : Nat) (h : k ≤ 100) : Builtin.Range.small 0 ((k : Int) + 1) 1 = true ∧ Builtin.Range.rangeSize 0 ((k : Int) + 1) 1 = ((k + 1 : Nat) : Int) := by
  have : ∀ j : Nat, j < 101 → Builtin.Range.small 0 ((j : Int) + 1) 1 = true ∧ Builtin.Range.rangeSize 0 ((j : Int) + 1) 1 = ((j + 1 : Nat) : Int) := by decide +kernel
  exact this k (by omega)
theorem news_3 {h₀ h : Heap} {L : Addr} {a b c : Addr × Obj} (l r : List (Addr × Obj)) (N : News h₀ L h (a :: b :: c :: (l ++ r))) : News h₀ L h (l ++ (a :: b :: c :: r)) := fun z hz => by
  rcases List.mem_append.mp hz with hz | hz
  · exact N z (.tail _ (.tail _ (.tail _ (List.mem_append_left _ hz))))
  · rcases List.mem_cons.mp hz with rfl | hz
    · exact N _ (.head _)
    rcases List.mem_cons.mp hz with rfl | hz
    · exact N _ (.tail _ (.head _))
    rcases List.mem_cons.mp hz with rfl | hz
    · exact N _ (.tail _ (.tail _ (.head _)))
    exact N z (.tail _ (.tail _ (.tail _ (List.mem_append_right _ hz))))
theorem news_3' {h₀ h : Heap} {L : Addr} {a b c : Addr × Obj} (l r : List (Addr × Obj)) (N : News h₀ L h (l ++ (a :: b :: c :: r))) : News h₀ L h (a :: b :: c :: (l ++ r)) := fun z hz => by
  rcases List.mem_cons.mp hz with rfl | hz
  · exact N _ (List.mem_append_right _ (.head _))
  rcases List.mem_cons.mp hz with rfl | hz
  · exact N _ (List.mem_append_right _ (.tail _ (.head _)))
  rcases List.mem_cons.mp hz with rfl | hz
  · exact N _ (List.mem_append_right _ (.tail _ (.tail _ (.head _))))
  rcases List.mem_append.mp hz with hz | hz
  · exact N z (List.mem_append_left _ hz)
  · exact N z (List.mem_append_right _ (.tail _ (.tail _ (.tail _ hz))))
theorem words_at {Ls : List Rx.Ln} {i : Nat} {l : Rx.Ln} (h : Ls[i]? = some l) : (Ls.map wordS ++ [Str.empty])[i]? = some (wordS l) := by
  have hi : i < Ls.length := (List.getElem?_eq_some_iff.mp h).1
  rw [List.getElem?_append_left (by rw [List.length_map]; exact hi), List.getElem?_map, h]; rfl
theorem words_end {Ls : List Rx.Ln} : (Ls.map wordS ++ [Str.empty])[Ls.length]? = some Str.empty := by
  rw [List.getElem?_append_right (by rw [List.length_map]; exact Nat.le_refl _), List.length_map, Nat.sub_self]; rfl
/- a due word -/
noncomputable def dueF (c : Int) (b : Str) : Str := Txt.mul (Str.ofString ".") (1 + (1 + c.fmod 3)) ++ b
noncomputable def dueR (c7 : List Int) (nm : List Str) (i : Nat) (y : Value) : Prop := ∃ c b t, c7[i]? = some c ∧ nm[i]? = some b ∧ y = Value.str (dueF c b) t
theorem due_R {c7 : List Int} {nm : List Str} {i : Nat} {a : Int} {b : Str} {t : Tok} (ha : (c7.map fun c => 1 + c.fmod 3)[i]? = some a) (hb : nm[i]? = some b) : dueR c7 nm i (Value.str (Txt.mul (Str.ofString ".") (1 + a) ++ b) t) := by
  obtain ⟨k, hk, rfl⟩ := map_at ha
  exact ⟨k, b, t, hk, hb, rfl⟩
theorem due_word (c : Int) (b : Str) : dueF c b = wordS (lnOf c b) := by
  have h := fmod_in c (k := 3) (by decide)
  have h3 : c.fmod 3 = 0 ∨ c.fmod 3 = 1 ∨ c.fmod 3 = 2 := by omega
  have e : (Txt.mul (Str.ofString ".") (1 + (1 + c.fmod 3))).cps.toList = List.replicate ((1 + c.fmod 3).toNat + 1) 46 := by
    rcases h3 with h | h | h <;> rw [h] <;> decide +kernel
  have e2 : (dueF c b).cps = (wordOf (lnOf c b)).toArray := by
    apply Array.ext'
    show ((Txt.mul (Str.ofString ".") (1 + (1 + c.fmod 3))).cps ++ b.cps).toList = _
    rw [Array.toList_append, e]
    rfl
  show dueF c b = ⟨(wordOf (lnOf c b)).toArray⟩
  rw [← e2]
theorem due_end {c7 : List Int} {nm : List Str} {ys : List Value} (hl : ys.length = min c7.length nm.length) (h : ∀ j y, ys[j]? = some y → dueR c7 nm j y) : StrsAre ys ((lnsOf c7 nm).map wordS) := by
  refine strs_of (by rw [hl, List.length_map, lns_len]) fun j y hj => ?_
  obtain ⟨c, b, t, hc, hb, rfl⟩ := h j y hj
  refine ⟨_, t, ?_, rfl⟩
  rw [List.getElem?_map]
  unfold lnsOf
  rw [List.getElem?_zipWith, hc, hb, due_word]
  rfl
section
open PySem.Calls PyProof.V PySem.Spec
theorem st_lay : ∀ ns : List Str, (∀ y ∈ ns, PyData.strOk y = true) → PyData.canLayAll0 (ns.map PyData.str) = true
  | [], _ => rfl
  | y :: r, h => by simp [PyData.canLayAll0, PyData.canLay0, h y (.head _), st_lay r fun z hz => h z (.tail _ hz)]
theorem st_depth : ∀ ns : List Str, PyData.depthAll (ns.map PyData.str) = 0
  | [] => rfl
  | _ :: r => by simp [PyData.depthAll, PyData.depth, st_depth r]
theorem st_shaped (ns : List Str) (h : ∀ y ∈ ns, PyData.strOk y = true) : SeqAt.shaped (.list (ns.map PyData.str)) = true := by
  simp [SeqAt.shaped, PyData.canLay0, PyData.depth, st_lay ns h, st_depth]
theorem st_sameAll : ∀ ns ms : List Str, PySem.Spec.sameAll (ns.map PyData.str) (ms.map PyData.str) = decide (ns = ms)
  | [], [] => by simp [PySem.Spec.sameAll]
  | [], _ :: _ => by simp [PySem.Spec.sameAll]
  | _ :: _, [] => by simp [PySem.Spec.sameAll]
  | a :: r, b :: t => by
    simp only [List.map_cons, PySem.Spec.sameAll, PySem.Spec.same, st_sameAll r t]
    by_cases h : a = b <;> by_cases h' : r = t <;> simp [h, h']
theorem st_carried : ∀ {vs : List Value} {ns : List Str}, StrsAre vs ns → CarriedAll vs (ns.map PyData.str)
  | _, _, .nil => .nil
  | _, _, .cons _ t r => .cons (.str _ t) (st_carried r)
theorem ne_strs {prog : Program} {w : World} {A : Around} {E : Value → Shared → Prop} {s : Shared} {a b : Addr} {xs ys : List Value} {ns ms : List Str} {Q : Value → Shared → Prop} (ha : s.heap.IsList a xs.toArray) (hb : s.heap.IsList b ys.toArray) (hi : StrsAre xs ns) (hj : StrsAre ys ms) (oi : ∀ y ∈ ns, PyData.strOk y = true) (oj : ∀ y ∈ ms, PyData.strOk y = true) (hu : A.units + 64 < cLine) (h : Q (.bool (!decide (ns = ms))) s) :
    wpAny (model prog w) A (compareOp .NotEq (.ref a) (.ref b)) Q E s :=
  ne_dataH_same (reads_newData ha (st_carried hi)) (reads_newData hb (st_carried hj)) (st_shaped _ oi) (st_shaped _ oj) hu (SeqAt.noMix_of_shape (.list .str) rfl _ _ (list_map_has fun _ => rfl) (list_map_has fun _ => rfl)) (by
    rw [show PySem.Spec.same (.list (ns.map PyData.str)) (.list (ms.map PyData.str)) = decide (ns = ms) by simp only [PySem.Spec.same]; exact st_sameAll ns ms]; exact h)
end
theorem words_ok {Ls : List Rx.Ln} (h : ∀ l ∈ Ls, ∀ c ∈ l.a, 97 ≤ c ∧ c ≤ 101) : ∀ y ∈ Ls.map wordS ++ [Str.empty], PyData.strOk y = true := by
  intro y hy
  rcases List.mem_append.mp hy with hy | hy
  · obtain ⟨l, hl, rfl⟩ := List.mem_map.mp hy
    unfold PyData.strOk wordS
    rw [Array.all_eq_true_iff_forall_mem]
    intro c hc
    rw [decide_eq_true_eq]
    have hc : c ∈ wordOf l := by simpa using hc
    unfold wordOf at hc
    rcases List.mem_append.mp hc with hc | hc
    · rw [List.eq_of_mem_replicate hc]; decide
    · have := h l hl c hc; omega
  · rw [List.mem_singleton.mp hy]; decide +kernel
theorem empty_str : Str.ofString "" = Str.empty := by decide +kernel
/- the weights: the first i names -/
noncomputable def wF (c7 : List Int) (nm : List Str) : Nat → Str → Option Int
  | 0 => fun _ => none
  | i + 1 => match c7[i]?, nm[i]? with
    | some c, some b => upd (wF c7 nm i) b (1 + (1 + c.fmod 3))
    | _, _ => wF c7 nm i
theorem wF_z {c7 : List Int} {nm : List Str} : wF c7 nm 0 = fun _ => none := rfl
theorem wF_s {c7 : List Int} {nm : List Str} {i : Nat} : wF c7 nm (i + 1) = match c7[i]?, nm[i]? with
    | some c, some b => upd (wF c7 nm i) b (1 + (1 + c.fmod 3))
    | _, _ => wF c7 nm i := rfl
theorem wF_step {c7 : List Int} {nm : List Str} {i : Nat} {a : Int} {b : Str} (ha : (c7.map fun c => 1 + c.fmod 3)[i]? = some a) (hb : nm[i]? = some b) : wF c7 nm (i + 1) = upd (wF c7 nm i) b (1 + a) := by
  obtain ⟨k, hk, rfl⟩ := map_at ha
  rewrite [wF_s]
  rw [hk, hb]
theorem pick_less1 {vs : List Value} : slicePick vs.toArray none (some (-1)) none = (vs.take (vs.length - 1)).toArray := by
  rw [kms_pick_eq]
  unfold kms_pick kms_lo kms_hi
  simp only [List.drop_zero, Nat.sub_zero]
  congr 1
/- a mark in the frame: from here on the tokens are told -/
structure Mark : Prop where
  intro ::
end
section
set_option maxRecDepth 100000
set_option maxHeartbeats 4000000
/- the text of a walk -/
noncomputable def enc : List Nat → Str
  | [] => Str.empty
  | [c] => ⟨#[c]⟩
  | c :: y => longer (enc y) c
theorem enc_o {c : Nat} : enc [c] = ⟨#[c]⟩ := rfl
theorem enc_cons (c : Nat) {y : List Nat} (h : y ≠ []) : enc (c :: y) = longer (enc y) c := by
  cases y with
  | nil => exact absurd rfl h
  | cons d y => rfl
theorem longer_cps (y : Str) (c : Nat) : (longer y c).cps.toList = y.cps.toList ++ [46, c] := by
  have e : (Str.ofString ".").cps = #[46] := by decide +kernel
  unfold longer
  show (y.cps ++ (Str.ofString ".").cps ++ #[c]).toList = _
  rw [e]; simp
noncomputable def ltr (y : Str) : List Nat := (y.cps.toList.filter fun c => c != 46).reverse
theorem ltr_enc : ∀ y : List Nat, (∀ c ∈ y, c ∈ LL) → ltr (enc y) = y
  | [], _ => rfl
  | [c], h => by
    have := h c (.head _)
    have hc : c ≠ 46 := by rintro rfl; revert this; decide
    unfold ltr
    rewrite [enc_o]
    simp [hc]
  | c :: d :: y, h => by
    have := h c (.head _)
    have hc : c ≠ 46 := by rintro rfl; revert this; decide
    have ih := ltr_enc (d :: y) fun a ha => h a (.tail _ ha)
    rw [enc_cons c (by simp)]
    unfold ltr at ih ⊢
    rw [longer_cps, List.filter_append, List.reverse_append, ih]
    simp [List.filter_cons, hc]
theorem enc_inj {y z : List Nat} (hy : ∀ c ∈ y, c ∈ LL) (hz : ∀ c ∈ z, c ∈ LL) (h : enc y = enc z) : y = z := by
  rw [← ltr_enc y hy, ← ltr_enc z hz, h]
theorem enc_len : ∀ y : List Nat, y ≠ [] → (enc y).length + 1 = 2 * y.length
  | [], h => absurd rfl h
  | [c], _ => rfl
  | c :: d :: y, _ => by
    have ih := enc_len (d :: y) (by simp)
    rw [enc_cons c (by simp), List.length_cons]
    have : (longer (enc (d :: y)) c).length = (enc (d :: y)).length + 2 := by
      show (longer (enc (d :: y)) c).cps.size = (enc (d :: y)).cps.size + 2
      rw [← Array.length_toList, longer_cps, List.length_append, Array.length_toList]; rfl
    omega
theorem enc_mem {c : Nat} (hc : c ≠ 46) : ∀ y : List Nat, y ≠ [] → (c ∈ (enc y).cps.toList ↔ c ∈ y)
  | [], h => absurd rfl h
  | [d], _ => by rewrite [enc_o]; simp
  | a :: d :: y, _ => by
    have ih := enc_mem hc (d :: y) (by simp)
    rw [enc_cons a (by simp), longer_cps, List.mem_append, ih, List.mem_cons (a := c) (b := a)]
    simp only [List.mem_cons, List.not_mem_nil, or_false, hc, false_or]
    constructor
    · rintro (h | h)
      · exact .inr h
      · exact .inl h
    · rintro (h | h)
      · exact .inr h
      · exact .inl h
noncomputable def allP : Nat → List (List Nat)
  | 0 => [[]]
  | k + 1 => (allP k).flatMap fun y => (avail y).map fun c => c :: y
theorem allP_s {k : Nat} : allP (k + 1) = (allP k).flatMap fun y => (avail y).map fun c => c :: y := rfl
theorem good_mem : ∀ {y : List Nat}, y.Nodup → (∀ c ∈ y, c ∈ LL) → y ∈ allP y.length
  | [], _, _ => .head _
  | c :: y, hn, hl => by
    have hn' := List.nodup_cons.mp hn
    rw [List.length_cons]
    rewrite [allP_s]
    rw [List.mem_flatMap]
    exact ⟨y, good_mem hn'.2 fun a ha => hl a (.tail _ ha), List.mem_map.mpr ⟨c, mem_avail.mpr ⟨hl c (.head _), hn'.1⟩, rfl⟩⟩
noncomputable def stOk (y : List Nat) : Bool := decide (stripF (enc y) = ⟨#[y.headD 0]⟩)
noncomputable def abOk (y : List Nat) : Bool := decide (aboveF (enc y) = enc y.tail) && decide (tieF (enc y) = ⟨#[y.tail.headD 0, y.headD 0]⟩)
theorem chk_E1 : ((allP 1).all stOk) = true := by decide +kernel
theorem chk_E2 : ((allP 2).all stOk) = true := by decide +kernel
theorem chk_E3 : ((allP 3).all stOk) = true := by decide +kernel
theorem chk_E4 : ((allP 4).all stOk) = true := by decide +kernel
theorem chk_E5 : ((allP 5).all stOk) = true := by decide +kernel
theorem chk_F2 : ((allP 2).all abOk) = true := by decide +kernel
theorem chk_F3 : ((allP 3).all abOk) = true := by decide +kernel
theorem chk_F4 : ((allP 4).all abOk) = true := by decide +kernel
theorem chk_F5 : ((allP 5).all abOk) = true := by decide +kernel
theorem enc_strip {y : List Nat} (h : Good y) (h5 : y.length ≤ 5) : stripF (enc y) = ⟨#[y.headD 0]⟩ := by
  have hm := good_mem h.1 h.2.1
  have h0 : 0 < y.length := List.length_pos_iff.mpr h.2.2
  have : stOk y = true := by
    have e : y.length = 1 ∨ y.length = 2 ∨ y.length = 3 ∨ y.length = 4 ∨ y.length = 5 := by omega
    rcases e with e | e | e | e | e <;> rw [e] at hm
    · exact List.all_eq_true.mp chk_E1 y hm
    · exact List.all_eq_true.mp chk_E2 y hm
    · exact List.all_eq_true.mp chk_E3 y hm
    · exact List.all_eq_true.mp chk_E4 y hm
    · exact List.all_eq_true.mp chk_E5 y hm
  exact of_decide_eq_true this
theorem enc_above {y : List Nat} (h : Good y) (h5 : y.length ≤ 5) (h2 : 2 ≤ y.length) : aboveF (enc y) = enc y.tail ∧ tieF (enc y) = ⟨#[y.tail.headD 0, y.headD 0]⟩ := by
  have hm := good_mem h.1 h.2.1
  have : abOk y = true := by
    have e : y.length = 2 ∨ y.length = 3 ∨ y.length = 4 ∨ y.length = 5 := by omega
    rcases e with e | e | e | e <;> rw [e] at hm
    · exact List.all_eq_true.mp chk_F2 y hm
    · exact List.all_eq_true.mp chk_F3 y hm
    · exact List.all_eq_true.mp chk_F4 y hm
    · exact List.all_eq_true.mp chk_F5 y hm
  unfold abOk at this
  rw [Bool.and_eq_true] at this
  exact ⟨of_decide_eq_true this.1, of_decide_eq_true this.2⟩
theorem head_LL {y : List Nat} (h : Good y) : y.headD 0 ∈ LL := by
  cases y with
  | nil => exact absurd rfl h.2.2
  | cons c y => exact h.2.1 c (.head _)
section
variable {kvs : List (Str × Value)} {adj : Nat → Nat → Bool} (hadj : ∀ a ∈ LL, ∀ b ∈ LL, (valueAt kvs ⟨#[a, b]⟩).isSome = adj a b)
include hadj
theorem nxt_enc {y : List Nat} (h : Good y) (h5 : y.length ≤ 5) : nxt kvs (enc y) [97, 98, 99, 100, 101] = (kids adj y).map enc := by
  unfold nxt kids avail
  rw [List.map_map, List.filter_filter]
  have e1 : [97, 98, 99, 100, 101].filter (okP kvs (enc y)) = LL.filter fun a => adj (y.headD 0) a && !y.contains a := by
    refine List.filter_congr fun c hc => ?_
    have hc46 : c ≠ 46 := by rintro rfl; revert hc; decide
    unfold okP
    rw [enc_strip h h5, emF_mem]
    have e2 : (⟨#[y.headD 0]⟩ : Str) ++ ⟨#[c]⟩ = ⟨#[y.headD 0, c]⟩ := rfl
    rw [e2, hadj _ (head_LL h) _ hc]
    congr 2
    rw [Bool.eq_iff_iff]
    simp only [decide_eq_true_eq, List.contains_iff_mem]
    exact enc_mem hc46 y h.2.2
  rw [e1]
  refine List.map_congr_left fun c _ => ?_
  exact (enc_cons c h.2.2).symm
/- the walks, as texts -/
theorem walks_ok {s : Nat} (hs : s ∈ LL) (hlen : (bfs adj 64 [[s]]).length < 64) (h5 : ∀ y ∈ bfs adj 64 [[s]], y.length ≤ 5) :
    ∃ qs : Nat → List Str, qs 0 = [] ∧ (∀ i, (qs i).length ≤ 64) ∧ (∀ i y, ((bfs adj 64 [[s]]).map enc)[i]? = some y → match ((bfs adj 64 [[s]]).map enc)[i + 1]? with | some z => qs i ++ nxt kvs y [97, 98, 99, 100, 101] = z :: qs (i + 1) | none => qs i ++ nxt kvs y [97, 98, 99, 100, 101] = []) := by
  have hg := bfs_good (adj := adj) 64 [[s]] (fun y hy => by
    rw [List.mem_singleton.mp hy]
    exact ⟨List.nodup_cons.mpr ⟨by simp, List.nodup_nil⟩, fun c hc => by rw [List.mem_singleton.mp hc]; exact hs, by simp⟩)
  refine ⟨fun i => if i < 64 then ((bq adj i [[s]]).tail).map enc else [], rfl, fun i => ?_, fun i y hy => ?_⟩
  · dsimp only
    split
    · have := bq_len (adj := adj) (Q := [[s]]) (by assumption) hlen (Nat.le_refl _)
      rw [List.length_map, List.length_tail]; omega
    · exact Nat.zero_le _
  · rw [List.getElem?_map] at hy
    cases hp : (bfs adj 64 [[s]])[i]? with
    | none => rw [hp] at hy; cases hy
    | some p =>
      rw [hp] at hy
      cases hy
      have hi : i < (bfs adj 64 [[s]]).length := (List.getElem?_eq_some_iff.mp hp).1
      have hpm := List.mem_of_getElem? hp
      have hb := bfs_get (adj := adj) 64 i [[s]] (by omega)
      rw [hp] at hb
      have hb : ∃ q, bq adj i [[s]] = p :: q := by
        cases e : bq adj i [[s]] with
        | nil => rw [e] at hb; cases hb
        | cons a q => rw [e] at hb; cases hb; exact ⟨q, rfl⟩
      obtain ⟨q, hq⟩ := hb
      have hsu := bq_succ i _ _ _ hq
      have hb2 := bfs_get (adj := adj) 64 (i + 1) [[s]] (by omega)
      rw [nxt_enc hadj (hg p hpm) (h5 p hpm)]
      dsimp only
      rw [if_pos (by omega), hq, List.tail_cons, ← List.map_append, ← hsu]
      rw [List.getElem?_map]
      cases e2 : (bfs adj 64 [[s]])[i + 1]? with
      | none =>
        rw [e2] at hb2
        have : bq adj (i + 1) [[s]] = [] := by
          cases e : bq adj (i + 1) [[s]] with
          | nil => rfl
          | cons a q => rw [e] at hb2; cases hb2
        rw [this]; rfl
      | some z =>
        have : i + 1 < (bfs adj 64 [[s]]).length := (List.getElem?_eq_some_iff.mp e2).1
        rw [e2] at hb2
        have : bq adj (i + 1) [[s]] = z :: (bq adj (i + 1) [[s]]).tail := by
          cases e : bq adj (i + 1) [[s]] with
          | nil => rw [e] at hb2; cases hb2
          | cons a q => rw [e] at hb2; cases hb2; rfl
        show (bq adj (i + 1) [[s]]).map enc = enc z :: if i + 1 < 64 then ((bq adj (i + 1) [[s]]).tail).map enc else []
        rw [if_pos (by omega)]
        conv => lhs; rw [this]
        rfl
end
end
section
set_option hygiene false in
local macro_rules | `(tactic| omega) => `(tactic| walk_at "MY om")
section
set_option maxRecDepth 100000
set_option maxHeartbeats 4000000
theorem iniF_mem {c : Int} {ws : List Str} : ∀ {i : Nat} {k : Str}, k ∈ ws.take i → iniF c ws i k = some c
  | 0, k, h => by simp at h
  | i + 1, k, h => by
    rewrite [iniF_s]
    rw [List.take_add_one] at h
    cases e : ws[i]? with
    | none =>
      rw [e] at h
      simp only [Option.toList_none, List.append_nil] at h
      exact iniF_mem h
    | some y =>
      rw [e] at h
      simp only [Option.toList_some] at h
      unfold upd
      simp only []
      split
      · rfl
      · rename_i hne
        rcases List.mem_append.mp h with h | h
        · exact iniF_mem h
        · exact absurd (List.mem_singleton.mp h) hne
theorem mul_fits2 {a b : Int} (ha : 0 ≤ a ∧ a ≤ 2 ^ 1000000) (hb : 0 ≤ b ∧ b ≤ 2 ^ 1000000) : (0 ≤ a * b ∧ a * b ≤ 2 ^ 2000000) := by
  refine ⟨Int.mul_nonneg ha.1 hb.1, ?_⟩
  have h := Int.mul_le_mul ha.2 hb.2 hb.1 (Int.le_trans ha.1 ha.2)
  rw [← Int.pow_add] at h
  exact h
theorem bits_le2 {a : Int} {n : Nat} (h0 : 0 ≤ a) (h : a ≤ 2 ^ n) : Builtin.Int.intBits a ≤ n + 1 := by
  refine intBits_le_iff.mpr ?_
  have h1 : (a.natAbs : Int) ≤ ((2 ^ n : Nat) : Int) := by push_cast; omega
  have h2 : a.natAbs ≤ 2 ^ n := by exact_mod_cast h1
  have h3 : 0 < 2 ^ n := Nat.two_pow_pos n
  rw [Nat.pow_succ]; omega
theorem mulOk_of {a b : Int} (n m : Nat) (ha : 0 ≤ a ∧ a ≤ 2 ^ n) (hb : 0 ≤ b ∧ b ≤ 2 ^ m) (h : n + m ≤ 100000000) : IntMulOk a b :=
  IntMulOk.of_le (bits_le2 ha.1 ha.2) (bits_le2 hb.1 hb.2) (by omega)
theorem small_le {a : Int} (h0 : 0 ≤ a) (h4 : a ≤ 4) (n : Nat) (hn : 2 ≤ n) : 0 ≤ a ∧ a ≤ 2 ^ n := by
  refine ⟨h0, Int.le_trans h4 ?_⟩
  have : 2 ^ 2 ≤ 2 ^ n := Nat.pow_le_pow_right (by decide) hn
  exact_mod_cast this
section
variable {kvs : List (Str × Value)} {adj : Nat → Nat → Bool} {x : Int} {w : Nat → Nat → Int} {ws : List (List Nat)} {s : Nat}
/- what is known of the walks -/
structure WsOk (adj : Nat → Nat → Bool) (ws : List (List Nat)) (s : Nat) : Prop where
  hd : ∃ t, ws = [s] :: t
  len : ws.length < 64
  good : ∀ y ∈ ws, Good y
  l5 : ∀ y ∈ ws, y.length ≤ 5
  chk : chkW adj ws = true
  par : ∀ y ∈ ws.tail, adj (y.tail.headD 0) (y.headD 0) = true ∧ y.tail ∈ ws ∧ 2 ≤ y.length
/- the state after the last i walks -/
theorem tree_inv (O : WsOk adj ws s) (hw : ∀ a ∈ LL, ∀ b ∈ LL, adj a b = true → wt kvs ⟨#[a, b]⟩ = w a b) : ∀ i, i ≤ ws.tail.length →
    ∀ u ∈ ws, (treeAt kvs x ((ws.map enc).drop 1) (iniF 1 (ws.map enc) (ws.map enc).length, iniF 0 (ws.map enc) (ws.map enc).length) i).1 (enc u) = some (acc x w adj (ws.tail.drop (ws.tail.length - i)) u).2
      ∧ (treeAt kvs x ((ws.map enc).drop 1) (iniF 1 (ws.map enc) (ws.map enc).length, iniF 0 (ws.map enc) (ws.map enc).length) i).2 (enc u) = some (acc x w adj (ws.tail.drop (ws.tail.length - i)) u).1
  | 0, _, u, hu => by
    have hm : enc u ∈ (ws.map enc).take (ws.map enc).length := by rw [List.take_length]; exact List.mem_map.mpr ⟨u, hu, rfl⟩
    rw [Nat.sub_zero, List.drop_length, acc_nil]
    exact ⟨iniF_mem hm, iniF_mem hm⟩
  | i + 1, hi, u, hu => by
    have ih := tree_inv O hw i (by omega)
    obtain ⟨t, ht⟩ := O.hd
    have etl : (ws.map enc).drop 1 = ws.tail.map enc := by rw [ht]; rfl
    rw [etl] at ih ⊢
    have hlt : ws.tail.length - 1 - i < ws.tail.length := by omega
    obtain ⟨y, hy⟩ : ∃ y, y = ws.tail[ws.tail.length - 1 - i] := ⟨_, rfl⟩
    have hyt : y ∈ ws.tail := by rw [hy]; exact List.getElem_mem _
    have hyw : y ∈ ws := List.mem_of_mem_tail hyt
    obtain ⟨ha, hpw, h2⟩ := O.par y hyt
    have hgy := O.good y hyw
    have hgp := O.good _ hpw
    have hstep := treeAt_step (kvs := kvs) (x := x) (us := ws.tail.map enc) (S₀ := (iniF 1 (ws.map enc) (ws.map enc).length, iniF 0 (ws.map enc) (ws.map enc).length)) (i := i) (y := enc y) (by
      rw [List.getElem?_map, List.length_map, List.getElem?_eq_getElem hlt, ← hy]; rfl)
    rw [hstep]
    clear hstep
    have edr : ws.tail.drop (ws.tail.length - (i + 1)) = y :: ws.tail.drop (ws.tail.length - i) := by
      rw [show ws.tail.length - (i + 1) = ws.tail.length - 1 - i by omega, List.drop_eq_getElem_cons hlt, ← hy]
      congr 2
      omega
    have hsp : ws = (([s] :: ws.tail.take (ws.tail.length - (i + 1))) ++ y :: ws.tail.drop (ws.tail.length - i)) := by
      conv => lhs; rw [ht]
      rw [List.cons_append, ← edr, List.take_append_drop, ht]; rfl
    have hk := chkW_at O.chk hsp
    rw [edr]
    generalize treeAt kvs x (ws.tail.map enc) (iniF 1 (ws.map enc) (ws.map enc).length, iniF 0 (ws.map enc) (ws.map enc).length) i = S at *
    generalize ws.tail.drop (ws.tail.length - i) = l at *
    obtain ⟨fB, fT⟩ := S
    dsimp only at ih
    have hfull := acc_full (x := x) (w := w) hk
    obtain ⟨y1, y2⟩ := ih y hyw
    obtain ⟨p1, p2⟩ := ih _ hpw
    obtain ⟨u1, u2⟩ := ih u hu
    rw [hfull] at y1 y2
    have hab := enc_above hgy (O.l5 y hyw) h2
    unfold stepT wholeF gi upd
    rw [hab.1, hab.2]
    simp only [y1, y2, p1, p2, Option.getD_some]
    by_cases e : y.tail = u
    · subst e
      rw [if_pos rfl, if_pos rfl, acc_same, hw _ (head_LL hgp) _ (head_LL hgy) ha]
      exact ⟨rfl, rfl⟩
    · rw [acc_other e, if_neg (fun h => e (enc_inj (O.good u hu).2.1 hgp.2.1 h).symm), if_neg (fun h => e (enc_inj (O.good u hu).2.1 hgp.2.1 h).symm)]
      exact ⟨u1, u2⟩
theorem tree_end (O : WsOk adj ws s) (hw : ∀ a ∈ LL, ∀ b ∈ LL, adj a b = true → wt kvs ⟨#[a, b]⟩ = w a b) :
    (treeEnd kvs x (ws.map enc)).1 (enc [s]) = some (tr x w adj s (avail [s])).2 ∧ (treeEnd kvs x (ws.map enc)).2 (enc [s]) = some (tr x w adj s (avail [s])).1 := by
  obtain ⟨t, ht⟩ := O.hd
  have h := tree_inv (x := x) O hw ws.tail.length (Nat.le_refl _) [s] (by rw [ht]; exact .head _)
  rw [Nat.sub_self, List.drop_zero] at h
  have hk : (ws.tail.filter fun c => c.tail == [s]) = kids adj [s] := chkW_at O.chk (pre := []) (by rw [ht]; rfl)
  have hf := acc_full (x := x) (w := w) hk
  rw [hf] at h
  have e : ((ws.map enc).drop 1).length = ws.tail.length := by rw [ht]; simp
  unfold treeEnd
  rw [e]
  exact h
theorem tree_ok (O : WsOk adj ws s) (hw : ∀ a ∈ LL, ∀ b ∈ LL, adj a b = true → wt kvs ⟨#[a, b]⟩ = w a b) (hadj : ∀ a ∈ LL, ∀ b ∈ LL, (valueAt kvs ⟨#[a, b]⟩).isSome = adj a b) (hx : 1 ≤ x) (hx4 : x ≤ 4) (hw0 : ∀ a b, 0 ≤ w a b) (hw4 : ∀ a b, w a b ≤ 4) : TreeOk kvs x (ws.map enc) := by
  obtain ⟨t, ht⟩ := O.hd
  have etl : (ws.map enc).drop 1 = ws.tail.map enc := by rw [ht]; rfl
  have hlen := O.len
  have hbd : ∀ i u, (0 ≤ (acc x w adj (ws.tail.drop (ws.tail.length - i)) u).1 ∧ (acc x w adj (ws.tail.drop (ws.tail.length - i)) u).1 ≤ 2 ^ 1000000) ∧ 0 ≤ (acc x w adj (ws.tail.drop (ws.tail.length - i)) u).2 ∧ (acc x w adj (ws.tail.drop (ws.tail.length - i)) u).2 ≤ 2 ^ 1000000 := fun i u =>
    acc_bound hx hx4 hw0 hw4 (by rw [List.length_drop, List.length_tail]; omega) u
  have hend := tree_end (x := x) O hw
  have hr : (ws.map enc).getD 0 Str.empty = enc [s] := by rw [ht]; rfl
  have ht5 := tr_bound (adj := adj) hx hx4 hw0 hw4 5 s (avail [s]) (avail_len _)
  rw [trK_eq (avail_len _)] at ht5
  refine ⟨?_, by rw [hr, hend.1]; rfl, by rw [hr, hend.2]; rfl, ?_⟩
  · rw [etl]
    intro i Y hi hY
    rw [List.length_map] at hi hY
    have hlt : ws.tail.length - 1 - i < ws.tail.length := by omega
    rw [List.getElem?_map, List.getElem?_eq_getElem hlt] at hY
    cases hY
    have hyt : ws.tail[ws.tail.length - 1 - i] ∈ ws.tail := List.getElem_mem _
    generalize ws.tail[ws.tail.length - 1 - i] = y at hyt
    have hyw : y ∈ ws := List.mem_of_mem_tail hyt
    obtain ⟨ha, hpw, h2⟩ := O.par y hyt
    have hgy := O.good y hyw
    have hgp := O.good _ hpw
    have inv := tree_inv (x := x) O hw i (by omega)
    rw [etl] at inv
    have hab := enc_above hgy (O.l5 y hyw) h2
    obtain ⟨y1, y2⟩ := inv y hyw
    obtain ⟨p1, p2⟩ := inv _ hpw
    have by1 := hbd i y
    have bp1 := hbd i y.tail
    generalize treeAt kvs x (ws.tail.map enc) (iniF 1 (ws.map enc) (ws.map enc).length, iniF 0 (ws.map enc) (ws.map enc).length) i = S at *
    generalize acc x w adj (ws.tail.drop (ws.tail.length - i)) y = Y at *
    generalize acc x w adj (ws.tail.drop (ws.tail.length - i)) y.tail = P at *
    obtain ⟨fB, fT⟩ := S
    obtain ⟨yt, yb⟩ := Y
    obtain ⟨pt, p_b⟩ := P
    dsimp only at *
    have hl := enc_len y hgy.2.2
    have h5 := O.l5 y hyw
    have ewt := hw _ (head_LL hgp) _ (head_LL hgy) ha
    have hwhole : 0 ≤ x * yb + yt ∧ x * yb + yt ≤ 2 ^ 1000003 := by
      have m1 : x * yb ≤ 4 * 2 ^ 1000000 := Int.mul_le_mul hx4 by1.2.2 by1.2.1 (by omega)
      have m2 : 0 ≤ x * yb := Int.mul_nonneg (by omega) by1.2.1
      have e : (2 : Int) ^ 1000003 = 8 * 2 ^ 1000000 := by
        rw [show 1000003 = 3 + 1000000 from rfl, Int.pow_add]; rfl
      rw [e]
      have q1 := by1.1
      clear e
      generalize (2 : Int) ^ 1000000 = T at *
      omega
    have hwk := small_le (hw0 (y.tail.headD 0) (y.headD 0)) (hw4 (y.tail.headD 0) (y.headD 0)) 1000000 (by decide)
    refine ⟨by omega, by omega, ?_, ?_, ?_, ?_, ?_, ?_, ?_, ?_, ?_, ?_⟩ <;> (try unfold wholeF) <;> (try unfold gi) <;> (try rw [hab.1]) <;> (try rw [hab.2]) <;> (try simp only [y1, y2, p1, p2, Option.getD_some, Option.isSome_some])
    · rw [hadj _ (head_LL hgp) _ (head_LL hgy)]; exact ha
    · exact mulOk_of 1000000 1000000 (small_le (by omega) hx4 _ (by decide)) by1.2 (by decide)
    · exact mulOk_of 1000000 1000003 bp1.1 hwhole (by decide)
    · rw [ewt]; exact mulOk_of 1000000 1000000 hwk by1.2 (by decide)
    · rw [ewt]; exact mulOk_of 2000000 1000000 (mul_fits2 hwk by1.2) bp1.2 (by decide)
    · exact mulOk_of 1000000 1000003 bp1.2 hwhole (by decide)
  · rw [hr]
    unfold gi
    rw [hend.1, Option.getD_some]
    exact mulOk_of 1000000 (eB 5) (small_le (by omega) hx4 _ (by decide)) ht5.2 (by decide)
end
end
end
section
set_option maxRecDepth 100000
set_option maxHeartbeats 4000000
theorem sm_append (f : Nat → Int) : ∀ (l r : List Nat), sm f (l ++ r) = sm f l + sm f r
  | [], r => by rw [List.nil_append, sm_nil, Int.zero_add]
  | a :: l, r => by rw [List.cons_append, sm_cons, sm_cons, sm_append f l r, Int.add_assoc]
noncomputable def subsL : List (List Nat) := LL.foldr (fun c (l : List (List Nat)) => l.map (fun y => c :: y) ++ l) [[]]
noncomputable def strL (S : List Nat) : Str := ⟨S.toArray⟩
noncomputable def subOk (S : List Nat) : Bool := match S with
  | [] => true
  | a :: S' => decide (Txt.slice (strL S) (some 1) none = strL S') && decide (Txt.item (strL S) 0 = ⟨#[a]⟩) && subsL.contains S' && S'.all fun c => decide (Txt.replace (strL S') ⟨#[c]⟩ (Str.ofString "") = strL (del c S')) && subsL.contains (del c S') && decide (a < c) && LL.contains c && LL.contains a
theorem subs_ok : (subsL.all subOk) = true := by decide +kernel
theorem wt_none {kvs : List (Str × Value)} {k : Str} (h : (valueAt kvs k).isSome = false) : wt kvs k = 0 := by
  unfold wt
  cases e : valueAt kvs k with
  | none => rfl
  | some v => rw [e] at h; cases h
theorem netS_sm {g : Str → Int} {kvs : List (Str × Value)} {x : Int} {pl b : Str} : ∀ i, netS g kvs x pl b i = x * g b + sm (fun c => wt kvs (Txt.item pl 0 ++ ⟨#[c]⟩) * g (Txt.replace b ⟨#[c]⟩ (Str.ofString ""))) (b.cps.toList.take i)
  | 0 => by rw [List.take_zero, sm_nil, Int.add_zero]; rfl
  | i + 1 => by
    have ih := netS_sm (g := g) (kvs := kvs) (x := x) (pl := pl) (b := b) i
    rw [List.take_add_one]
    rewrite [netS_s]
    have e : b.cps.toList[i]? = b.cps[i]? := Array.getElem?_toList
    rw [e]
    cases hc : b.cps[i]? with
    | none => simp only [Option.toList_none, List.append_nil]; exact ih
    | some c =>
      simp only [Option.toList_some]
      rw [sm_append, sm_cons, sm_nil, Int.add_zero, ih]
      cases hs : (valueAt kvs (Txt.item pl 0 ++ ⟨#[c]⟩)).isSome with
      | true => rw [if_pos rfl, Int.add_assoc]
      | false => rw [if_neg (by decide), wt_none hs, Int.zero_mul, Int.add_zero]
theorem net_str {kvs : List (Str × Value)} {x : Int} {w : Nat → Nat → Int} (hw : ∀ a ∈ LL, ∀ b ∈ LL, a < b → wt kvs ⟨#[a, b]⟩ = w a b) : ∀ (d : Nat) (S : List Nat), S.length ≤ d → S ∈ subsL → netF kvs x d (strL S) = netN x w S
  | 0, S, hl, _ => by
    have : S = [] := List.length_eq_zero_iff.mp (by omega)
    subst this; rfl
  | d + 1, [], _, _ => by
    rewrite [netF_s]
    rw [if_pos (by decide +kernel)]; rfl
  | d + 1, a :: S, hl, hm => by
    have hne : ¬ ((strL (a :: S) == Str.ofString "") = true) := by
      rw [beq_iff_eq]
      intro h
      have := congrArg (fun y : Str => y.cps.size) h
      have e : (Str.ofString "").cps.size = 0 := by decide +kernel
      simp only [strL, e] at this
      simp at this
    rewrite [netF_s]
    rw [if_neg hne]
    have hok := List.all_eq_true.mp subs_ok _ hm
    unfold subOk at hok
    simp only [Bool.and_eq_true, decide_eq_true_eq, List.contains_iff_mem] at hok
    obtain ⟨⟨⟨h1, h2⟩, h3⟩, h4⟩ := hok
    rw [List.length_cons] at hl
    rw [h1, netS_sm, h2, netN_cons, net_str hw d S (by omega) h3]
    congr 1
    have e : (strL S).cps.toList.take (strL S).cps.size = S := by
      show (S.toArray.toList.take S.toArray.size) = S
      simp
    rw [e]
    refine sm_congr fun c hc => ?_
    have hc4 := List.all_eq_true.mp h4 c hc
    simp only [Bool.and_eq_true, decide_eq_true_eq, List.contains_iff_mem] at hc4
    obtain ⟨⟨⟨⟨k1, k2⟩, k3⟩, k4⟩, k5⟩ := hc4
    have := del_le c S
    rw [k1, net_str hw d (del c S) (by omega) k2]
    show wt kvs ⟨#[a, c]⟩ * _ = _
    rw [hw a k5 c k4 k3]
end
section
set_option maxRecDepth 100000
set_option maxHeartbeats 4000000
theorem str2_inj {a b p q : Nat} : ((⟨#[a, b]⟩ : Str) = ⟨#[p, q]⟩) ↔ a = p ∧ b = q := by
  constructor
  · intro h
    have := congrArg Str.cps h
    simpa using this
  · rintro ⟨rfl, rfl⟩; rfl
noncomputable def Nm2 (b : Str) (p q : Nat) : Prop := p ∈ LL ∧ q ∈ LL ∧ p < q ∧ b = ⟨#[p, q]⟩
theorem base_prs : baseNames = [⟨#[97, 98]⟩, ⟨#[98, 99]⟩, ⟨#[99, 100]⟩, ⟨#[100, 101]⟩] := by decide +kernel
theorem menu_prs : chordMenu = [⟨#[97, 99]⟩, ⟨#[97, 100]⟩, ⟨#[97, 101]⟩, ⟨#[98, 100]⟩, ⟨#[98, 101]⟩, ⟨#[99, 101]⟩] := by decide +kernel
theorem chordF_at (c : Int) : ∃ k : Nat, k < 6 ∧ (c.fmod 6).toNat = k ∧ chordMenu[k]? = some (chordF c) := by
  have b := fmod_in c (k := 6) (by decide)
  refine ⟨(c.fmod 6).toNat, by omega, rfl, ?_⟩
  have hl : (c.fmod 6).toNat < chordMenu.length := by show _ < 6; omega
  unfold chordF
  rw [List.getElem?_eq_getElem hl, List.getD_eq_getElem?_getD, List.getElem?_eq_getElem hl]
  rfl
theorem dedup_mem {chs : List Str} : ∀ i y, y ∈ dedupF chs i ↔ y ∈ chs.take i
  | 0, y => by rewrite [dedupF_z]; simp
  | i + 1, y => by
    have ih := dedup_mem (chs := chs) i
    rewrite [dedupF_s]
    rw [List.take_add_one]
    cases h : chs[i]? with
    | none => simp only [Option.toList_none, List.append_nil]; exact ih y
    | some c =>
      simp only [Option.toList_some]
      rw [List.mem_append, List.mem_singleton]
      split
      · rename_i hc
        rw [ih]
        constructor
        · exact .inl
        · rintro (h | rfl)
          · exact h
          · exact hc
      · rw [List.mem_append, List.mem_singleton, ih]
theorem name_cases {cs : List Int} {chs nm : List Str} (hC : (cs.take 3).map chordF = chs) (hN : baseNames ++ dedupF chs 3 = nm) {y : Str} (hy : y ∈ nm) : y ∈ baseNames ∨ ∃ k : Nat, k < 6 ∧ chordMenu[k]? = some y := by
  rw [← hN] at hy
  rcases List.mem_append.mp hy with h | h
  · exact .inl h
  · rw [dedup_mem] at h
    have h := List.mem_of_mem_take h
    rw [← hC] at h
    obtain ⟨c, _, rfl⟩ := List.mem_map.mp h
    obtain ⟨k, h1, _, h2⟩ := chordF_at c
    exact .inr ⟨k, h1, h2⟩
theorem name_nm2 {cs : List Int} {chs nm : List Str} (hC : (cs.take 3).map chordF = chs) (hN : baseNames ++ dedupF chs 3 = nm) {y : Str} (hy : y ∈ nm) : ∃ p q, Nm2 y p q := by
  have hall : ∀ z ∈ baseNames ++ chordMenu, ∃ p q, Nm2 z p q := by
    rw [base_prs, menu_prs]
    simp only [List.cons_append, List.nil_append, List.mem_cons, List.not_mem_nil, or_false]
    rintro z (rfl | rfl | rfl | rfl | rfl | rfl | rfl | rfl | rfl | rfl) <;> exact ⟨_, _, by decide, by decide, by decide, rfl⟩
  refine hall y ?_
  rcases name_cases hC hN hy with h | ⟨k, _, h⟩
  · exact List.mem_append_left _ h
  · exact List.mem_append_right _ (List.mem_of_getElem? h)
/- the tie's place in the mask -/
noncomputable def tIdx (p q : Nat) : Nat := tiesTbl.getD ((p - 97) * 5 + (q - 97)) 7
noncomputable def maskOf (cs : List Int) : Nat := 2 ^ ((cs.getD 0 0).fmod 6).toNat ||| 2 ^ ((cs.getD 1 0).fmod 6).toNat ||| 2 ^ ((cs.getD 2 0).fmod 6).toNat
theorem mask_mem : ∀ a < 6, ∀ b < 6, ∀ c < 6, (2 ^ a ||| 2 ^ b ||| 2 ^ c) ∈ masks := by decide +kernel
theorem mask_bit : ∀ a < 6, ∀ b < 6, ∀ c < 6, ∀ i < 8, Nat.testBit ((2 ^ a ||| 2 ^ b ||| 2 ^ c) + 64) i = (decide (i = 6) || decide (i = a) || decide (i = b) || decide (i = c)) := by decide +kernel
theorem tIdx_lt : ∀ p ∈ LL, ∀ q ∈ LL, tIdx p q < 8 := by decide +kernel
theorem tIdx_sym : ∀ p ∈ LL, ∀ q ∈ LL, tIdx p q = tIdx q p := by decide +kernel
theorem tIdx_self : ∀ p ∈ LL, tIdx p p = 7 := by decide +kernel
theorem tIdx_base : ∀ p ∈ LL, ∀ q ∈ LL, p < q → ((⟨#[p, q]⟩ : Str) ∈ baseNames ↔ tIdx p q = 6) := by decide +kernel
theorem tIdx_menu : ∀ p ∈ LL, ∀ q ∈ LL, p < q → ∀ k < 6, (chordMenu[k]? = some (⟨#[p, q]⟩ : Str) ↔ tIdx p q = k) := by decide +kernel
theorem take3 {cs : List Int} (hl : cs.length = 12) : cs.take 3 = [cs.getD 0 0, cs.getD 1 0, cs.getD 2 0] := by
  match cs, hl with
  | a :: b :: c :: r, _ => rfl
theorem mask_in (cs : List Int) : maskOf cs ∈ masks := by
  have b0 := fmod_in (cs.getD 0 0) (k := 6) (by decide)
  have b1 := fmod_in (cs.getD 1 0) (k := 6) (by decide)
  have b2 := fmod_in (cs.getD 2 0) (k := 6) (by decide)
  exact mask_mem _ (by omega) _ (by omega) _ (by omega)
theorem adj_name {cs : List Int} {chs nm : List Str} (hcl : cs.length = 12) (hC : (cs.take 3).map chordF = chs) (hN : baseNames ++ dedupF chs 3 = nm) {p q : Nat} (hp : p ∈ LL) (hq : q ∈ LL) (hpq : p < q) : adjM (maskOf cs) p q = true ↔ (⟨#[p, q]⟩ : Str) ∈ nm := by
  have b0 := fmod_in (cs.getD 0 0) (k := 6) (by decide)
  have b1 := fmod_in (cs.getD 1 0) (k := 6) (by decide)
  have b2 := fmod_in (cs.getD 2 0) (k := 6) (by decide)
  have hc3 : chs = [chordF (cs.getD 0 0), chordF (cs.getD 1 0), chordF (cs.getD 2 0)] := by rw [← hC, take3 hcl]; rfl
  have e : adjM (maskOf cs) p q = Nat.testBit (maskOf cs + 64) (tIdx p q) := rfl
  rw [e]
  unfold maskOf
  rw [mask_bit _ (by omega) _ (by omega) _ (by omega) _ (tIdx_lt p hp q hq)]
  simp only [Bool.or_eq_true, decide_eq_true_eq]
  have key : ∀ c : Int, chordF c = (⟨#[p, q]⟩ : Str) ↔ tIdx p q = (c.fmod 6).toNat := by
    intro c
    obtain ⟨k, h1, h2, h3⟩ := chordF_at c
    rw [h2, ← tIdx_menu p hp q hq hpq k h1, h3, Option.some.injEq]
  rw [← hN, List.mem_append, dedup_mem, tIdx_base p hp q hq hpq, hc3]
  simp only [List.take_succ_cons, List.take_zero, List.mem_cons, List.not_mem_nil, or_false]
  rw [eq_comm (a := (⟨#[p, q]⟩ : Str)) (b := chordF (cs.getD 0 0)), eq_comm (a := (⟨#[p, q]⟩ : Str)) (b := chordF (cs.getD 1 0)), eq_comm (a := (⟨#[p, q]⟩ : Str)) (b := chordF (cs.getD 2 0)), key, key, key]
  constructor
  · rintro (((h | h) | h) | h)
    · exact .inl h
    · exact .inr (.inl h)
    · exact .inr (.inr (.inl h))
    · exact .inr (.inr (.inr h))
  · rintro (h | h | h | h)
    · exact .inl (.inl (.inl h))
    · exact .inl (.inl (.inr h))
    · exact .inl (.inr h)
    · exact .inr h
theorem adj_sym (m : Nat) {p q : Nat} (hp : p ∈ LL) (hq : q ∈ LL) : adjM m p q = adjM m q p := by
  unfold adjM
  have := tIdx_sym p hp q hq
  unfold tIdx at this
  rw [this]
theorem adj_self {cs : List Int} {p : Nat} (hp : p ∈ LL) : adjM (maskOf cs) p p = false := by
  have b0 := fmod_in (cs.getD 0 0) (k := 6) (by decide)
  have b1 := fmod_in (cs.getD 1 0) (k := 6) (by decide)
  have b2 := fmod_in (cs.getD 2 0) (k := 6) (by decide)
  have e : adjM (maskOf cs) p p = Nat.testBit (maskOf cs + 64) (tIdx p p) := rfl
  rw [e, tIdx_self p hp]
  unfold maskOf
  rw [mask_bit _ (by omega) _ (by omega) _ (by omega) _ (by decide)]
  simp only [Bool.or_eq_false_iff, decide_eq_false_iff_not]
  refine ⟨⟨⟨by decide, ?_⟩, ?_⟩, ?_⟩ <;> omega
/- a word and its two names -/
noncomputable def wdOk (k p q : Nat) : Bool := decide (pairF ⟨(List.replicate (k + 1) 46 ++ [p, q]).toArray⟩ = ⟨#[p, q]⟩) && decide (Txt.item ⟨#[p, q]⟩ 1 ++ Txt.item ⟨#[p, q]⟩ 0 = ⟨#[q, p]⟩)
theorem wd_ok : ([1, 2, 3].all fun k => LL.all fun p => LL.all fun q => wdOk k p q) = true := by decide +kernel
theorem word_facts (c : Int) {b : Str} {p q : Nat} (h : Nm2 b p q) : pairF (wordS (lnOf c b)) = b ∧ Txt.item b 1 ++ Txt.item b 0 = ⟨#[q, p]⟩ ∧ ((wordS (lnOf c b)).length : Int) - 2 = 1 + (1 + c.fmod 3) ∧ (wordS (lnOf c b)).length ≤ 9 := by
  obtain ⟨hp, hq, _, rfl⟩ := h
  have hb := fmod_in c (k := 3) (by decide)
  have e : wordS (lnOf c ⟨#[p, q]⟩) = ⟨(List.replicate ((1 + c.fmod 3).toNat + 1) 46 ++ [p, q]).toArray⟩ := rfl
  have hk : (1 + c.fmod 3).toNat ∈ [1, 2, 3] := by
    have : c.fmod 3 = 0 ∨ c.fmod 3 = 1 ∨ c.fmod 3 = 2 := by omega
    rcases this with h | h | h <;> rw [h] <;> decide
  have hw := List.all_eq_true.mp (List.all_eq_true.mp (List.all_eq_true.mp wd_ok _ hk) p hp) q hq
  unfold wdOk at hw
  rw [Bool.and_eq_true, decide_eq_true_eq, decide_eq_true_eq] at hw
  have hl : (wordS (lnOf c ⟨#[p, q]⟩)).length = (1 + c.fmod 3).toNat + 1 + 2 := by
    rw [e]
    show (List.replicate ((1 + c.fmod 3).toNat + 1) 46 ++ [p, q]).toArray.size = _
    rw [List.size_toArray, List.length_append, List.length_replicate]; rfl
  refine ⟨by rw [e]; exact hw.1, hw.2, by rw [hl]; omega, by rw [hl]; omega⟩
end
section
set_option maxRecDepth 100000
set_option maxHeartbeats 4000000
theorem lns_at {c7 : List Int} {nm : List Str} {i : Nat} {c : Int} {b : Str} (hc : c7[i]? = some c) (hb : nm[i]? = some b) : ((lnsOf c7 nm).map wordS)[i]? = some (wordS (lnOf c b)) := by
  unfold lnsOf
  rw [List.getElem?_map, List.getElem?_zipWith, hc, hb]; rfl
section
variable {c7 : List Int} {nm : List Str} (h7 : c7.length = 7) (hnl : nm.length ≤ 7) (hn : ∀ b ∈ nm, ∃ p q, Nm2 b p q)
include h7 hnl hn
/- ties and weights tell the same -/
theorem ties_w : ∀ i, i ≤ nm.length → ∀ a ∈ LL, ∀ b ∈ LL, tiesF ((lnsOf c7 nm).map wordS) i ⟨#[a, b]⟩ = if a < b then wF c7 nm i ⟨#[a, b]⟩ else if b < a then wF c7 nm i ⟨#[b, a]⟩ else none
  | 0, _, a, _, b, _ => by
    rewrite [tiesF_z, wF_z]
    split
    · rfl
    · split <;> rfl
  | i + 1, hi, a, ha, b, hb => by
    have ih := ties_w i (by omega) a ha b hb
    have hc : c7[i]? = some (c7[i]'(by omega)) := List.getElem?_eq_getElem _
    have hbn : nm[i]? = some (nm[i]'(by omega)) := List.getElem?_eq_getElem _
    obtain ⟨p, q, hpq⟩ := hn _ (List.mem_of_getElem? hbn)
    generalize c7[i]'(by omega) = c at hc
    generalize nm[i]'(by omega) = nb at hbn hpq
    obtain ⟨f1, f2, f3, _⟩ := word_facts c hpq
    rw [tiesF_step (lns_at hc hbn), f1, f2, f3]
    have hs : wF c7 nm (i + 1) = upd (wF c7 nm i) nb (1 + (1 + c.fmod 3)) := by
      rewrite [wF_s]
      rw [hc, hbn]
    rw [hs]
    obtain ⟨_, _, hlt, rfl⟩ := hpq
    unfold upd
    simp only [str2_inj]
    rw [ih]
    by_cases h1 : a < b
    · rw [if_pos h1, if_pos h1, if_neg (show ¬ (a = q ∧ b = p) by omega)]
    · rw [if_neg h1, if_neg h1]
      by_cases h2 : b < a
      · rw [if_pos h2, if_pos h2, if_neg (show ¬ (a = p ∧ b = q) by omega)]
        by_cases h3 : b = p ∧ a = q
        · rw [if_pos ⟨h3.2, h3.1⟩, if_pos h3]
        · rw [if_neg (fun h => h3 ⟨h.2, h.1⟩), if_neg h3]
      · rw [if_neg h2, if_neg h2, if_neg (show ¬ (a = q ∧ b = p) by omega), if_neg (show ¬ (a = p ∧ b = q) by omega)]
theorem ties_val : ∀ i, i ≤ nm.length → ∀ k v, tiesF ((lnsOf c7 nm).map wordS) i k = some v → 0 < v ∧ v ≤ 4
  | 0, _, k, v, h => by rewrite [tiesF_z] at h; cases h
  | i + 1, hi, k, v, h => by
    have ih := ties_val i (by omega)
    have hc : c7[i]? = some (c7[i]'(by omega)) := List.getElem?_eq_getElem _
    have hbn : nm[i]? = some (nm[i]'(by omega)) := List.getElem?_eq_getElem _
    obtain ⟨p, q, hpq⟩ := hn _ (List.mem_of_getElem? hbn)
    generalize c7[i]'(by omega) = c at hc
    generalize nm[i]'(by omega) = nb at hbn hpq
    obtain ⟨_, _, f3, _⟩ := word_facts c hpq
    have hb := fmod_in c (k := 3) (by decide)
    rw [tiesF_step (lns_at hc hbn), f3] at h
    unfold upd at h
    split at h
    · cases h; omega
    · split at h
      · cases h; omega
      · exact ih k v h
theorem w_val : ∀ i, i ≤ nm.length → ∀ k v, wF c7 nm i k = some v → 0 < v ∧ v ≤ 4
  | 0, _, k, v, h => by rewrite [wF_z] at h; cases h
  | i + 1, hi, k, v, h => by
    have ih := w_val i (by omega)
    have hc : c7[i]? = some (c7[i]'(by omega)) := List.getElem?_eq_getElem _
    have hbn : nm[i]? = some (nm[i]'(by omega)) := List.getElem?_eq_getElem _
    generalize c7[i]'(by omega) = c at hc
    generalize nm[i]'(by omega) = nb at hbn
    have hb := fmod_in c (k := 3) (by decide)
    have hs : wF c7 nm (i + 1) = upd (wF c7 nm i) nb (1 + (1 + c.fmod 3)) := by
      rewrite [wF_s]
      rw [hc, hbn]
    rw [hs] at h
    unfold upd at h
    split at h
    · cases h; omega
    · exact ih k v h
theorem w_some : ∀ i, i ≤ nm.length → ∀ k, (wF c7 nm i k).isSome = true ↔ k ∈ nm.take i
  | 0, _, k => by rewrite [wF_z]; simp
  | i + 1, hi, k => by
    have ih := w_some i (by omega) k
    have hc : c7[i]? = some (c7[i]'(by omega)) := List.getElem?_eq_getElem _
    have hbn : nm[i]? = some (nm[i]'(by omega)) := List.getElem?_eq_getElem _
    generalize c7[i]'(by omega) = c at hc
    generalize nm[i]'(by omega) = nb at hbn
    have hs : wF c7 nm (i + 1) = upd (wF c7 nm i) nb (1 + (1 + c.fmod 3)) := by
      rewrite [wF_s]
      rw [hc, hbn]
    rw [hs, List.take_add_one, hbn]
    simp only [Option.toList_some]
    rw [List.mem_append, List.mem_singleton, ← ih]
    unfold upd
    split
    · rename_i h; exact ⟨fun _ => .inr h, fun _ => rfl⟩
    · rename_i h; exact ⟨.inl, fun h' => h'.resolve_right h⟩
end
theorem wt_df {kvs : List (Str × Value)} {f : Str → Option Int} (h : DF kvs f) (k : Str) : wt kvs k = (f k).getD 0 := by
  unfold wt
  rcases h k with ⟨e1, e2⟩ | ⟨i, t, e1, e2⟩
  · rw [e1, e2]; rfl
  · rw [e1, e2]; rfl
theorem some_df {kvs : List (Str × Value)} {f : Str → Option Int} (h : DF kvs f) (k : Str) : (valueAt kvs k).isSome = (f k).isSome := by
  rcases h k with ⟨e1, e2⟩ | ⟨i, t, e1, e2⟩
  · rw [e1, e2]; rfl
  · rw [e1, e2]; rfl
theorem ints_df {kvs : List (Str × Value)} {f : Str → Option Int} (h : DF kvs f) (hv : ∀ k v, f k = some v → 0 < v ∧ v ≤ 4) : IntVals kvs := by
  intro k v e
  rcases h k with ⟨e1, e2⟩ | ⟨i, t, e1, e2⟩
  · rw [e1] at e; cases e
  · rw [e1] at e; cases e
    exact ⟨i, t, rfl, hv k i e2⟩
/- the weight of a tie -/
noncomputable def wtF (f : Str → Option Int) (a b : Nat) : Int := if LL.contains a && LL.contains b then (f ⟨#[a, b]⟩).getD 0 else 0
theorem wtF_in {f : Str → Option Int} {a b : Nat} (ha : a ∈ LL) (hb : b ∈ LL) : wtF f a b = (f ⟨#[a, b]⟩).getD 0 := by
  unfold wtF
  rw [if_pos (by rw [Bool.and_eq_true]; exact ⟨List.contains_iff_mem.mpr ha, List.contains_iff_mem.mpr hb⟩)]
theorem wtF_out {f : Str → Option Int} {a b : Nat} (h : ¬ (a ∈ LL ∧ b ∈ LL)) : wtF f a b = 0 := by
  unfold wtF
  rw [if_neg]
  rw [Bool.and_eq_true]
  exact fun h' => h ⟨List.contains_iff_mem.mp h'.1, List.contains_iff_mem.mp h'.2⟩
/- all that the law's end wants of its numbers -/
structure EndOk (T B N L : Int) : Prop where
  t0 : 0 < T
  t1 : T < 2 ^ 60
  b0 : 0 < B
  b1 : B < 2 ^ 60
  n0 : 0 < N
  n1 : N < 1073741824
  l0 : 0 < L
  l1 : L < 1073741824
  q : ∃ k, T = k * N ∧ B = k * L
section
variable {cs c7 : List Int} {chs nm : List Str} {kvT kvW : List (Str × Value)} (hcl : cs.length = 12) (h7 : c7.length = 7) (hC : (cs.take 3).map chordF = chs) (hN : baseNames ++ dedupF chs 3 = nm) (hnl : nm.length ≤ 7)
  (hfT : DF kvT (tiesF ((lnsOf c7 nm).map wordS) ((lnsOf c7 nm).map wordS).length)) (hfW : DF kvW (wF c7 nm nm.length))
include hcl h7 hC hN hnl
theorem ties_len : ((lnsOf c7 nm).map wordS).length = nm.length := by rw [List.length_map, lns_len]; omega
theorem ties_adj {a b : Nat} (ha : a ∈ LL) (hb : b ∈ LL) : (tiesF ((lnsOf c7 nm).map wordS) ((lnsOf c7 nm).map wordS).length ⟨#[a, b]⟩).isSome = adjM (maskOf cs) a b := by
  have hn : ∀ y ∈ nm, ∃ p q, Nm2 y p q := fun y hy => name_nm2 hC hN hy
  rw [ties_len hcl h7 hC hN hnl, ties_w h7 hnl hn _ (Nat.le_refl _) a ha b hb]
  by_cases h1 : a < b
  · rw [if_pos h1, Bool.eq_iff_iff, w_some h7 hnl hn _ (Nat.le_refl _), List.take_length, adj_name hcl hC hN ha hb h1]
  · rw [if_neg h1]
    by_cases h2 : b < a
    · rw [if_pos h2, Bool.eq_iff_iff, w_some h7 hnl hn _ (Nat.le_refl _), List.take_length, adj_sym _ ha hb, adj_name hcl hC hN hb ha h2]
    · have : a = b := by omega
      subst this
      rw [if_neg h2, adj_self ha]; rfl
end
end
section
set_option maxRecDepth 100000
set_option maxHeartbeats 4000000
theorem chk_all {p : Nat → Nat → Bool} (h : (masks.all fun m => LL.all fun s => p m s) = true) {m s : Nat} (hm : m ∈ masks) (hs : s ∈ LL) : p m s = true :=
  List.all_eq_true.mp (List.all_eq_true.mp h m hm) s hs
theorem ws_of {m s : Nat} (hm : m ∈ masks) (hs : s ∈ LL) : WsOk (adjM m) (bfs (adjM m) 64 [[s]]) s := by
  have h := chk_all chk_A hm hs
  unfold chkA at h
  simp only [Bool.and_eq_true] at h
  obtain ⟨⟨⟨h1, h2⟩, h3⟩, h4⟩ := h
  have hg := bfs_good (adj := adjM m) 64 [[s]] (fun y hy => by
    rw [List.mem_singleton.mp hy]
    exact ⟨List.nodup_cons.mpr ⟨by simp, List.nodup_nil⟩, fun c hc => by rw [List.mem_singleton.mp hc]; exact hs, by simp⟩)
  have hlt : (bfs (adjM m) 64 [[s]]).length < 64 := by
    have : Nat.blt (bfs (adjM m) 64 [[s]]).length 64 = true := h1
    unfold Nat.blt at this
    exact Nat.le_of_ble_eq_true this
  refine ⟨⟨bfs (adjM m) 63 ([] ++ kids (adjM m) [s]), rfl⟩, hlt, hg, fun y hy => ?_, h2, fun y hy => ?_⟩
  · exact Nat.le_of_ble_eq_true (List.all_eq_true.mp h4 y hy)
  · have := List.all_eq_true.mp h3 y hy
    unfold chkY at this
    simp only [Bool.and_eq_true] at this
    refine ⟨this.1.1, List.contains_iff_mem.mp this.1.2, ?_⟩
    have hne := this.2
    cases y with
    | nil => cases hne
    | cons a y =>
      cases y with
      | nil => cases hne
      | cons b y => rw [List.length_cons, List.length_cons]; omega
theorem avail_one : ∀ s ∈ LL, avail [s] = del s LL := by decide +kernel
theorem LL_nodup : LL.Nodup := by decide
theorem del_len : ∀ s ∈ LL, (del s LL).length ≤ 5 := by decide +kernel
section
variable {cs c7 : List Int} {chs nm : List Str} (hcl : cs.length = 12) (h7 : c7.length = 7) (hC : (cs.take 3).map chordF = chs) (hN : baseNames ++ dedupF chs 3 = nm) (hnl : nm.length ≤ 7)
include hcl h7 hC hN hnl
theorem w_sym (a b : Nat) : wtF (tiesF ((lnsOf c7 nm).map wordS) ((lnsOf c7 nm).map wordS).length) a b = wtF (tiesF ((lnsOf c7 nm).map wordS) ((lnsOf c7 nm).map wordS).length) b a := by
  have hn : ∀ y ∈ nm, ∃ p q, Nm2 y p q := fun y hy => name_nm2 hC hN hy
  by_cases h : a ∈ LL ∧ b ∈ LL
  · rw [wtF_in h.1 h.2, wtF_in h.2 h.1, ties_len hcl h7 hC hN hnl, ties_w h7 hnl hn _ (Nat.le_refl _) a h.1 b h.2, ties_w h7 hnl hn _ (Nat.le_refl _) b h.2 a h.1]
    by_cases h1 : a < b
    · rw [if_pos h1, if_neg (by omega), if_pos h1]
    · by_cases h2 : b < a
      · rw [if_neg h1, if_pos h2, if_pos h2]
      · rw [if_neg h1, if_neg h2, if_neg h2, if_neg h1]
  · rw [wtF_out h, wtF_out fun h' => h ⟨h'.2, h'.1⟩]
theorem w_range (a b : Nat) : 0 ≤ wtF (tiesF ((lnsOf c7 nm).map wordS) ((lnsOf c7 nm).map wordS).length) a b ∧ wtF (tiesF ((lnsOf c7 nm).map wordS) ((lnsOf c7 nm).map wordS).length) a b ≤ 4 := by
  have hn : ∀ y ∈ nm, ∃ p q, Nm2 y p q := fun y hy => name_nm2 hC hN hy
  by_cases h : a ∈ LL ∧ b ∈ LL
  · rw [wtF_in h.1 h.2]
    have hv := ties_val h7 hnl hn _ (Nat.le_of_eq (ties_len hcl h7 hC hN hnl)) ⟨#[a, b]⟩
    cases e : tiesF ((lnsOf c7 nm).map wordS) ((lnsOf c7 nm).map wordS).length ⟨#[a, b]⟩ with
    | none => rw [Option.getD_none]; omega
    | some v => have := hv v e; rw [Option.getD_some]; omega
  · rw [wtF_out h]; omega
theorem w_adj (a b : Nat) (h0 : adjM (maskOf cs) a b = false) : wtF (tiesF ((lnsOf c7 nm).map wordS) ((lnsOf c7 nm).map wordS).length) a b = 0 := by
  by_cases h : a ∈ LL ∧ b ∈ LL
  · rw [wtF_in h.1 h.2]
    have := ties_adj hcl h7 hC hN hnl h.1 h.2
    rw [h0] at this
    cases e : tiesF ((lnsOf c7 nm).map wordS) ((lnsOf c7 nm).map wordS).length ⟨#[a, b]⟩ with
    | none => rfl
    | some v => rw [e] at this; cases this
  · exact wtF_out h
theorem end_nums {s : Nat} (hs : s ∈ LL) {x : Int} (hx : 1 ≤ x) (hx4 : x ≤ 4) :
    EndOk (x * (tr x (wtF (tiesF ((lnsOf c7 nm).map wordS) ((lnsOf c7 nm).map wordS).length)) (adjM (maskOf cs)) s (avail [s])).2 + (tr x (wtF (tiesF ((lnsOf c7 nm).map wordS) ((lnsOf c7 nm).map wordS).length)) (adjM (maskOf cs)) s (avail [s])).1)
      (tr x (wtF (tiesF ((lnsOf c7 nm).map wordS) ((lnsOf c7 nm).map wordS).length)) (adjM (maskOf cs)) s (avail [s])).2
      (netN x (wtF (tiesF ((lnsOf c7 nm).map wordS) ((lnsOf c7 nm).map wordS).length)) LL)
      (netN x (wtF (tiesF ((lnsOf c7 nm).map wordS) ((lnsOf c7 nm).map wordS).length)) (del s LL)) := by
  have hsym := w_sym hcl h7 hC hN hnl
  have hr := w_range hcl h7 hC hN hnl
  have ha := w_adj hcl h7 hC hN hnl
  have hm := mask_in cs
  generalize maskOf cs = m at *
  generalize wtF (tiesF ((lnsOf c7 nm).map wordS) ((lnsOf c7 nm).map wordS).length) = w at *
  have hw0 := fun a b => (hr a b).1
  have hw4 := fun a b => (hr a b).2
  rw [avail_one s hs]
  have hl5 := del_len s hs
  have hcov := chk_all chk_C hm hs
  unfold chkC at hcov
  have hB := chk_all chk_B hm hs
  unfold chkB at hB
  have hB := of_decide_eq_true hB
  have hnd := del_nodup (q := s) LL_nodup
  obtain ⟨k, hk⟩ := cov_dvd hsym hx hw0 ha 5 s (del s LL) hnd hcov
  have hf := full_dvd hsym hx hw0 ha hnd (k := k) (by rw [hk, Int.mul_comm])
  rw [net_front hsym LL_nodup hs] at hf
  have hpos := tr_pos (adj := adjM m) hx hw0 5 s (del s LL)
  have hmono := tr_mono (adj := adjM m) (y := 4) (u := fun _ _ => 4) hx hx4 hw0 hw4 5 s (del s LL)
  rw [trK_eq hl5] at hpos hmono
  unfold full at hf
  have hn0 := net_pos hx hw0 5 LL (by decide)
  have hn1 := net_bound hx hx4 hw0 hw4 5 (Nat.le_refl _) LL (by decide)
  have hl0 := net_pos hx hw0 5 (del s LL) hl5
  have hl1 := net_bound hx hx4 hw0 hw4 5 (Nat.le_refl _) (del s LL) hl5
  have e20 : (20 : Int) ^ 5 = 3200000 := by decide
  rw [e20] at hn1 hl1
  generalize tr x w (adjM m) s (del s LL) = P at *
  generalize trK 4 (fun _ _ => 4) (adjM m) 5 s (del s LL) = P4 at *
  obtain ⟨D, B⟩ := P
  obtain ⟨D4, B4⟩ := P4
  dsimp only at *
  have m1 : x * B ≤ 4 * B4 := Int.mul_le_mul hx4 hmono.2 (by omega) (by omega)
  have m2 : 1 * B ≤ x * B := Int.mul_le_mul_of_nonneg_right hx (by omega)
  refine ⟨by omega, by omega, by omega, by omega, hn0, by omega, hl0, by omega, k, hf, by rw [hk, Int.mul_comm]⟩
end
noncomputable def stF (c : Int) : Nat := 97 + (c.fmod 5).toNat
theorem st_LL (c : Int) : stF c ∈ LL := by
  have b := fmod_in c (k := 5) (by decide)
  have h : c.fmod 5 = 0 ∨ c.fmod 5 = 1 ∨ c.fmod 5 = 2 ∨ c.fmod 5 = 3 ∨ c.fmod 5 = 4 := by omega
  unfold stF
  rcases h with h | h | h | h | h <;> rw [h] <;> decide
theorem item_abcde (c : Int) : Txt.item (Str.ofString "abcde") (c.fmod 5) = enc [stF c] := by
  have b := fmod_in c (k := 5) (by decide)
  have h : c.fmod 5 = 0 ∨ c.fmod 5 = 1 ∨ c.fmod 5 = 2 ∨ c.fmod 5 = 3 ∨ c.fmod 5 = 4 := by omega
  unfold stF
  rcases h with h | h | h | h | h <;> rw [h] <;> decide +kernel
theorem walks_small {adj : Nat → Nat → Bool} {ws : List (List Nat)} {s : Nat} (O : WsOk adj ws s) : ∀ y ∈ ws.map enc, y.length ≤ 20 ∧ (stripF y).length ≤ 20 ∧ (y == Str.ofString "") = false := by
  intro y hy
  obtain ⟨u, hu, rfl⟩ := List.mem_map.mp hy
  have hg := O.good u hu
  have h5 := O.l5 u hu
  have hl := enc_len u hg.2.2
  have h0 : 0 < u.length := List.length_pos_iff.mpr hg.2.2
  refine ⟨by omega, by rw [enc_strip hg h5]; exact Nat.le_add_left _ _, ?_⟩
  rw [beq_eq_false_iff_ne]
  intro e
  rw [e] at hl
  have e0 : (Str.ofString "").length = 0 := by decide +kernel
  rw [e0] at hl
  omega
theorem walks_head {adj : Nat → Nat → Bool} {ws : List (List Nat)} {s : Nat} (O : WsOk adj ws s) : (ws.map enc)[0]? = some (enc [s]) := by
  obtain ⟨t, rfl⟩ := O.hd
  rfl
theorem ne_two {r : List (Addr × Obj)} {b cT D1 D2 : Nat} (h : AllLt cT r) (hb : cT ≤ b) (h1 : @LT.lt Nat _ b D1) (h2 : @LT.lt Nat _ b D2) {o1 o2 : Obj} : ∀ q ∈ (D1, o1) :: (D2, o2) :: r, @Ne Nat q.1 b := by
  intro q hq
  rcases List.mem_cons.mp hq with rfl | hq
  · exact Nat.ne_of_gt h1
  rcases List.mem_cons.mp hq with rfl | hq
  · exact Nat.ne_of_gt h2
  exact ne_of_allLt h hb q hq
theorem news_2 {h₀ h : Heap} {L : Addr} {a b : Addr × Obj} (l r : List (Addr × Obj)) (N : News h₀ L h (a :: b :: (l ++ r))) : News h₀ L h (l ++ (a :: b :: r)) := fun z hz => by
  rcases List.mem_append.mp hz with hz | hz
  · exact N z (.tail _ (.tail _ (List.mem_append_left _ hz)))
  · rcases List.mem_cons.mp hz with rfl | hz
    · exact N _ (.head _)
    rcases List.mem_cons.mp hz with rfl | hz
    · exact N _ (.tail _ (.head _))
    exact N z (.tail _ (.tail _ (List.mem_append_right _ hz)))
theorem words_hl {cs c7 : List Int} {chs nm : List Str} (hC : (cs.take 3).map chordF = chs) (hN : baseNames ++ dedupF chs 3 = nm) : ∀ y ∈ (lnsOf c7 nm).map wordS, y.length ≤ 9 ∧ (pairF y).length = 2 := by
  intro y hy
  obtain ⟨i, hi⟩ := List.getElem?_of_mem hy
  rw [List.getElem?_map] at hi
  unfold lnsOf at hi
  rw [List.getElem?_zipWith] at hi
  cases hc : c7[i]? with
  | none => rw [hc] at hi; cases hi
  | some c =>
    cases hb : nm[i]? with
    | none => rw [hc, hb] at hi; cases hi
    | some b =>
      rw [hc, hb] at hi
      cases hi
      obtain ⟨p, q, hpq⟩ := name_nm2 hC hN (List.mem_of_getElem? hb)
      obtain ⟨f1, _, _, f4⟩ := word_facts c hpq
      refine ⟨f4, ?_⟩
      rw [f1]
      obtain ⟨_, _, _, rfl⟩ := hpq
      rfl
theorem replace_st (c : Int) : Txt.replace (Str.ofString "abcde") (Txt.item (Str.ofString "abcde") (c.fmod 5)) (Str.ofString "") = strL (del (stF c) LL) := by
  have b := fmod_in c (k := 5) (by decide)
  have h : c.fmod 5 = 0 ∨ c.fmod 5 = 1 ∨ c.fmod 5 = 2 ∨ c.fmod 5 = 3 ∨ c.fmod 5 = 4 := by omega
  unfold stF
  rcases h with h | h | h | h | h <;> rw [h] <;> decide +kernel
theorem strL_LL : Str.ofString "abcde" = strL LL := by decide +kernel
theorem subs_LL : strL LL ∈ subs5 ∧ (strL LL).length < 6 := by decide +kernel
theorem subs_del : ∀ s ∈ LL, strL (del s LL) ∈ subs5 ∧ (strL (del s LL)).length < 6 := by decide +kernel
theorem subsL_LL : LL ∈ subsL := by decide +kernel
theorem subsL_del : ∀ s ∈ LL, del s LL ∈ subsL := by decide +kernel
theorem x_range (c : Int) : 1 ≤ 1 + c.fmod 4 ∧ 1 + c.fmod 4 ≤ 4 := by
  have b := fmod_in c (k := 4) (by decide)
  omega
section
variable {cs c7 : List Int} {chs nm : List Str} {kvT kvW : List (Str × Value)} (hcl : cs.length = 12) (h7 : c7.length = 7) (hC : (cs.take 3).map chordF = chs) (hN : baseNames ++ dedupF chs 3 = nm) (hnl : nm.length ≤ 7)
include hcl h7 hC hN hnl
theorem ties_ints (hfT : DF kvT (tiesF ((lnsOf c7 nm).map wordS) ((lnsOf c7 nm).map wordS).length)) : IntVals kvT :=
  ints_df hfT (ties_val h7 hnl (fun y hy => name_nm2 hC hN hy) _ (Nat.le_of_eq (ties_len hcl h7 hC hN hnl)))
theorem w_ints (hfW : DF kvW (wF c7 nm nm.length)) : IntVals kvW :=
  ints_df hfW (w_val h7 hnl (fun y hy => name_nm2 hC hN hy) _ (Nat.le_refl _))
theorem ties_wt (hfT : DF kvT (tiesF ((lnsOf c7 nm).map wordS) ((lnsOf c7 nm).map wordS).length)) : ∀ a ∈ LL, ∀ b ∈ LL, adjM (maskOf cs) a b = true → wt kvT ⟨#[a, b]⟩ = wtF (tiesF ((lnsOf c7 nm).map wordS) ((lnsOf c7 nm).map wordS).length) a b := by
  intro a ha b hb _
  rw [wt_df hfT, wtF_in ha hb]
theorem w_wt (hfW : DF kvW (wF c7 nm nm.length)) : ∀ a ∈ LL, ∀ b ∈ LL, a < b → wt kvW ⟨#[a, b]⟩ = wtF (tiesF ((lnsOf c7 nm).map wordS) ((lnsOf c7 nm).map wordS).length) a b := by
  intro a ha b hb hab
  rw [wt_df hfW, wtF_in ha hb, ties_len hcl h7 hC hN hnl, ties_w h7 hnl (fun y hy => name_nm2 hC hN hy) _ (Nat.le_refl _) a ha b hb, if_pos hab]
theorem law_tree_ok (hfT : DF kvT (tiesF ((lnsOf c7 nm).map wordS) ((lnsOf c7 nm).map wordS).length)) {ws : List (List Nat)} {s : Nat} (O : WsOk (adjM (maskOf cs)) ws s) {x : Int} (hx : 1 ≤ x ∧ x ≤ 4) : TreeOk kvT x (ws.map enc) :=
  tree_ok O (ties_wt hcl h7 hC hN hnl hfT) (fun a ha b hb => by rw [some_df hfT]; exact ties_adj hcl h7 hC hN hnl ha hb) hx.1 hx.2 (fun a b => (w_range hcl h7 hC hN hnl a b).1) (fun a b => (w_range hcl h7 hC hN hnl a b).2)
/- the numbers, as the walk tells them -/
theorem law_nums (hfT : DF kvT (tiesF ((lnsOf c7 nm).map wordS) ((lnsOf c7 nm).map wordS).length)) (hfW : DF kvW (wF c7 nm nm.length)) {s : Nat} (hs : s ∈ LL) {ws : List (List Nat)} (O : WsOk (adjM (maskOf cs)) ws s) {x : Int} (hx : 1 ≤ x ∧ x ≤ 4) :
    EndOk (x * gi (treeEnd kvT x (ws.map enc)).1 ((ws.map enc).getD 0 Str.empty) + gi (treeEnd kvT x (ws.map enc)).2 ((ws.map enc).getD 0 Str.empty)) (gi (treeEnd kvT x (ws.map enc)).1 ((ws.map enc).getD 0 Str.empty)) (netF kvW x 6 (strL LL)) (netF kvW x 6 (strL (del s LL))) := by
  have e := tree_end (x := x) O (ties_wt hcl h7 hC hN hnl hfT)
  have hr : (ws.map enc).getD 0 Str.empty = enc [s] := by obtain ⟨t, rfl⟩ := O.hd; rfl
  rw [hr]
  unfold gi
  rw [e.1, e.2, Option.getD_some, Option.getD_some, net_str (w_wt hcl h7 hC hN hnl hfW) 6 LL (by decide) subsL_LL, net_str (w_wt hcl h7 hC hN hnl hfW) 6 (del s LL) (by have := del_len s hs; omega) (subsL_del s hs)]
  exact end_nums hcl h7 hC hN hnl hs hx.1 hx.2
end
end
section
set_option maxRecDepth 100000
set_option maxHeartbeats 4000000
/- back to the old base -/
theorem carry_back {hb g h : Heap} {L : Addr} {m m' : Str → Option Value} {h0 : Heap} (F0 : Fr hb L h0 m') (sub : ∀ x o, hb.get? x = some o → g.get? x = some o) (F : Fr g L h m) : Fr hb L h m :=
  ⟨F.ns, fun x o e => F.keep x o (sub x o e), F0.above⟩
theorem news_back {hb g h : Heap} {L : Addr} {l : List (Addr × Obj)} (sub : ∀ x o, hb.get? x = some o → g.get? x = some o) (N : News g L h l) : News hb L h l := fun p hp => by
  refine ⟨(N p hp).1, (N p hp).2.1, ?_⟩
  cases e : hb.get? p.1 with
  | none => rfl
  | some o => exact absurd (N p hp).2.2 (by rw [sub _ _ e]; exact fun q => nomatch q)
theorem news_app {hb h : Heap} {L : Addr} {l r : List (Addr × Obj)} (N : News hb L h l) (M : News hb L h r) : News hb L h (l ++ r) := fun p hp => by
  rcases List.mem_append.mp hp with hp | hp
  · exact N p hp
  · exact M p hp
theorem mul60 {a b : Int} (ha : 0 ≤ a ∧ a < 2 ^ 60) (hb : 0 ≤ b ∧ b < 1073741824) : IntMulOk a b := mulOk_of 60 60 ⟨ha.1, by omega⟩ ⟨hb.1, by omega⟩ (by decide)
theorem quo_of {T N k : Int} (hN : 0 < N) (h : T = k * N) : T / N = k ∧ T % N = 0 := by
  subst h
  exact ⟨Int.mul_ediv_cancel _ (by omega), Int.mul_emod_left _ _⟩
theorem quo_rng {T N k : Int} (hT : 0 < T) (hT2 : T < 2 ^ 60) (hN : 0 < N) (h : T = k * N) : 0 ≤ k ∧ k < 2 ^ 60 := by
  have e := (quo_of hN h).1
  rw [← e]
  exact ⟨Int.ediv_nonneg (by omega) (by omega), Int.lt_of_le_of_lt (Int.ediv_le_self _ (by omega)) hT2⟩
/- a base that holds all of the frame's heap below L, but some places -/
theorem carryL {hb h : Heap} {L : Addr} {m : Str → Option Value} (F : Fr hb L h m) (gs : List Nat) (hgs : ∀ a ∈ gs, hb.get? a = none) :
    ∃ g : Heap, Fr g L h m ∧ (∀ x o, hb.get? x = some o → g.get? x = some o) ∧ (∀ a ∈ gs, g.get? a = none) ∧ (∀ x o, @LT.lt Nat _ x L → x ∉ gs → h.get? x = some o → g.get? x = some o) := by
  obtain ⟨fz, hfz⟩ : ∃ fz : Obj, fz = { cls := .none, data := .freed } := ⟨_, rfl⟩
  obtain ⟨ga, hga⟩ : ∃ ga : Array Obj, ga = (h.objs.extract 0 L).mapIdx fun i o => if i ∈ gs then fz else o := ⟨_, rfl⟩
  refine ⟨⟨ga, h.life⟩, ?_⟩
  have hget : ∀ x : Nat, ga[x]? = (h.objs.extract 0 L)[x]?.map fun o => if x ∈ gs then fz else o := by
    intro x
    rw [hga, Array.getElem?_mapIdx]
  have hnone : ∀ x ∈ gs, Heap.get? ⟨ga, h.life⟩ x = none := by
    intro x hx
    show (match ga[x]? with | some ⟨_, _, .freed, _⟩ => none | o => o) = none
    rw [hget x]
    cases (h.objs.extract 0 L)[x]? with
    | none => rfl
    | some o => rw [Option.map_some, if_pos hx, hfz]
  have hsame : ∀ x, x ∉ gs → ga[x]? = (h.objs.extract 0 L)[x]? := by
    intro x hx
    rw [hget x]
    cases (h.objs.extract 0 L)[x]? with
    | none => rfl
    | some o => rw [Option.map_some, if_neg hx]
  have hkeep : ∀ x o, @LT.lt Nat _ x L → x ∉ gs → h.get? x = some o → Heap.get? ⟨ga, h.life⟩ x = some o := by
    intro x o hx h1 e
    have hlt := Heap.lt_size e
    unfold Heap.get? at e
    have e2 : ga[x]? = h.objs[x]? := by
      rw [hsame x h1, Array.getElem?_extract]
      have hx' : x < min L h.objs.size - 0 := by
        exact Nat.lt_min.mpr ⟨hx, hlt⟩
      rw [if_pos hx', Nat.zero_add]
    show (match ga[x]? with | some ⟨_, _, .freed, _⟩ => none | o => o) = some o
    rw [e2]
    exact e
  have hsub : ∀ x o, hb.get? x = some o → Heap.get? ⟨ga, h.life⟩ x = some o := by
    intro x o e
    refine hkeep x o (Nat.lt_of_lt_of_le (Heap.lt_size e) F.above) (fun hm => ?_) (F.keep x o e)
    rw [hgs x hm] at e; cases e
  refine ⟨⟨F.ns, fun x o e => ?_, ?_⟩, hsub, hnone, hkeep⟩
  · by_cases hx : x ∈ gs
    · rw [hnone x hx] at e; cases e
    · unfold Heap.get?
      have e : (match ga[x]? with | some ⟨_, _, .freed, _⟩ => none | o => o) = some o := e
      rw [hsame x hx, Array.getElem?_extract] at e
      by_cases hs : x < min L h.objs.size - 0
      · rw [if_pos hs, Nat.zero_add] at e; exact e
      · rw [if_neg hs] at e; cases e
  · show @LE.le Nat _ ga.size L
    rw [hga, Array.size_mapIdx, Array.size_extract]
    show @LE.le Nat _ (min L h.objs.size - 0) L
    exact Nat.le_trans (Nat.sub_le _ _) (Nat.min_le_left _ _)
end
section
theorem off_Law : True := by (w_top off; first | walk1 | trivial)
set_option maxRecDepth 100000
set_option maxHeartbeats 8000000
open PySem.Calls PyProof.Rows.LCg
set_option hygiene false in
local macro_rules | `(tactic| walk_at "execs cons") => `(tactic| walk_at "MY h0")
set_option hygiene false in
local macro_rules | `(tactic| walk_at "exec Assign cons ListComp") => `(tactic| (k_here; refine Stop.get ?_))
set_option hygiene false in
local macro_rules | `(tactic| walk_at "eval ListComp") => `(tactic| (k_here; refine Stop.get ?_))
set_option hygiene false in
local macro_rules | `(tactic| walk_at "call ref") => `(tactic| (k_here; refine Stop.get ?_))
set_option hygiene false in
local macro_rules | `(tactic| k_in) => `(tactic| ((rename Fr _ _ _ _ => kiF); (rename Frag.In _ _ => kiX); exact Frag.In.keeps kiX (Fr.keep kiF)))
set_option hygiene false in
local macro_rules | `(tactic| walk_at "binaryOp Add ref ref") => `(tactic| (k_here; (have zzt : True := by ((rename (StrsAre _ _) => zz); trivial)); clear zzt; refine Stop.get ?_))
set_option hygiene false in
local macro_rules | `(tactic| walk_at "compareOp NotEq ref ref") => `(tactic| (k_here; refine Stop.get ?_))
set_option hygiene false in
local macro_rules | `(tactic| walk_at "exec Assign cons Call") => `(tactic| (k_here; (have zzt : Mark := by assumption); clear zzt; refine Stop.get ?_))
set_option hygiene false in
local macro_rules | `(tactic| walk_at "execs cons") => `(tactic| (k_here; (have zzt : Mark := by assumption); clear zzt; (with_reducible refine wpAny_execs_cons ?_); try dsimp only))
set_option hygiene false in
local macro_rules | `(tactic| walk_at "call builtin:len") => `(tactic| (k_here; refine Stop.get ?_))
set_option hygiene false in
local macro_rules | `(tactic| walk_at "CompSrc") => `(tactic| (k_here; refine Stop.get ?_))
set_option hygiene false in
local macro_rules | `(tactic| walk_at "CompSrcT") => `(tactic| (k_here; refine Stop.get ?_))
set_option hygiene false in
local macro_rules | `(tactic| walk_at "subscriptTail") => `(tactic| (k_here; (with_reducible show wpAny _ _ (subscriptTail _ _ (Value.ref _) (Value.int _ _)) _ _ _); refine Stop.get ?_))
set_option hygiene false in
local macro_rules | `(tactic| walk_at "subscriptTail Name Name ref int") => `(tactic| walk_at "subscriptTail")
set_option hygiene false in
local macro_rules | `(tactic| walk_at "compareOp NotIn str ref") => `(tactic| (k_here; refine Stop.get ?_))
set_option hygiene false in
local macro_rules | `(tactic| walk_at "subscriptTail Name Slice ref ref") => `(tactic| (k_here; (with_reducible show wpAny _ _ (subscriptTail _ (Expr.Slice none (some (Expr.Name _ _)) none _) _ _) _ _ _); refine Stop.get ?_))
set_option hygiene false in
local macro_rules | `(tactic| walk_at "CompEnd") => `(tactic| refine Stop.get ?_)
/- the law's end -/
inductive LawEnd (hb : Heap) (L : Addr) (s : Shared) (f : Flow) (s' : Shared) : Prop
  | mk (h' : Heap) (tk' : Nat) (m' : Str → Option Value) (p1 : Array Value) (p2 : Array Value) (p3 : Array Value) (q0 : s' = { s with heap := h', toks := tk' }) (q1 : Fr hb L h' m') (q2 : News hb L h' [(148, tabObj p1), (54, tabObj p2), (47, tabObj p3)]) (q3 : f = .ret (.bool true))
set_option hygiene false in
local macro_rules | `(tactic| k_ne) => `(tactic| (refine neN ?_; (try dsimp only); with_reducible first | walk_at "MY cj" | (refine Ne.symm ?_; walk_at "MY cj") | (refine Nat.ne_of_gt ?_; walk_at "MY cj") | (refine Nat.ne_of_lt ?_; walk_at "MY cj") | fail))
/- what holds ahead of a turn of the heard words: the lexer stands ahead of word i -/
inductive HJ (w : World) (pb x d sd st f cf la cA cT lM : Addr) (oD fo fobj ocf oA oT oL : Obj) (t1 t2 t3 t4 u3 : Tok) (kpb nla : Nat) (rest : List (Addr × Obj)) (yq : Str) (c7 : List Int) (nm : List Str) (i : Nat) (ys : List Value) (nw : List (Addr × Obj)) : Prop
  | mk (p : Nat) (b1 b4 : Tok)
    (en : nw = (pb, listOf #[] kpb) :: (x, instObj 125 d) :: (d, dictOf [mcEnt w "lineno" t1 (.int (lnI i) b1), mcEnt w "instream" t2 (.ref st), mcEnt w "whitespace" t3 (.str (Str.ofString "\n\t\r ") u3), mcEnt w "pushback" t4 (.ref pb)] 4) :: (sd, oD) :: (st, fo) :: (f, fobj) :: (cf, ocf) :: (la, listOf #[.int (p : Nat) b4] nla) :: (cA, oA) :: (cT, oT) :: (lM, oL) :: rest)
    (hp : yq.cps.toList.drop p = (if i ≤ nm.length then txtD (lnsOf c7 nm) i else [])) (hpl : p ≤ yq.length) (hS : StrsAre ys (((lnsOf c7 nm).map wordS ++ [Str.empty]).take i))
theorem lt54_ne {c d : Addr} {o p : Obj} {k : Nat} (hc : @LT.lt Nat _ 54 c) (hd : @LT.lt Nat _ 54 d) (hk : k ≤ 54) : ∀ q ∈ [(c, o), (d, p)], @Ne Nat q.1 k := fun q hq => by
  rcases List.mem_cons.mp hq with rfl | hq
  · exact Nat.ne_of_gt (Nat.lt_of_le_of_lt hk hc)
  · rw [List.mem_singleton.mp hq]; exact Nat.ne_of_gt (Nat.lt_of_le_of_lt hk hd)
noncomputable def cutA : {P : World → Shared → Shared → (Str → Option Value) → (Str → Option Value) → Addr → Value → List Int → Addr → List Value → Heap → Nat → Obj → Obj → Heap → Nat → Prop // (∀ w s₀ s₁ mg mb fa cd ns sl vals h₁ tk₁ oM oC hb L, P w s₀ s₁ mg mb fa cd ns sl vals h₁ tk₁ oM oC hb L) → PySem.Challenge.rw_sh0038_01.Holds} := by
  exact ⟨_, fun H => by
    refine hd ?_
    k_go0
    all_goals try k_fold
    rename_i w s₀ s₁ mg mb G Y fa o pm cd doc ho hcd hg X V T B TE TW ns hs hlay0 hL1 hr1 hl2 w6 w5 sl vals w2 hL ra w1 r0 hI hr hcond1 hcond hD h₁ tk₁ oM oC dM dC X0 X' T' K' F' codeHd1 codeHd0 N' l0
    refine wpAny_mono (Q := LawEnd (ghostOf s₁.heap [(152, 148), (58, 54), (51, 47)]) s₁.heap.objs.size { heap := h₁, gens := s₁.gens, drawn := s₁.drawn, toks := tk₁, os := s₁.os }) (E := fun _ _ => False) ?main ?last (fun _ _ e => e.elim)
    case last =>
      rintro f s' ⟨h', tk', m', p1, p2, p3, rfl, F', N', rfl⟩
      exact ⟨goodW_bool F' hg (raisesW_false (by intro ct h; exact nomatch h)) (postW_of (X := true) (by with_unfolding_all rfl) (by with_unfolding_all rfl) rfl), GrownAt.of N' (.head _), GrownAt.of N' (.tail _ (.head _)), GrownAt.of N' (.tail _ (.tail _ (.head _))), trivial⟩
    clear ho hcd hT8 X V T B TE TW hT9 hs hlay0 hL1 hr1 hl2 hL ra w1 r0 hr hcond hD X0 Y
    have dM' : oM.data = Data.cell none := dM
    have dC' : oC.data = Data.cell none := dC
    have F2 : Fr (ghostOf s₁.heap [(152, 148), (58, 54), (51, 47)]) s₁.heap.objs.size h₁ (fun z => if z = Str.ofString "script" then some (.ref sl) else none) := F'
    clear dM dC F' G hg
    have hns : ns.length ≤ 63 := by omega
    clear hcond1
    generalize ghostOf s₁.heap [(152, 148), (58, 54), (51, 47)] = hb at *
    generalize s₁.heap.objs.size = L at *
    revert hI dM' dC' hns X' T' K' lifted codeHd1 codeHd0 codeHd l0 N' F2
    clear o pm doc w6 w5 w2
    revert w s₀ s₁ mg mb fa cd ns sl vals h₁ tk₁ oM oC hb L
    exact H⟩
namespace LA
theorem cutAx : Nonempty {t : World × Shared × Shared × (Str → Option Value) × (Str → Option Value) × Addr × Value × (List Int) × Addr × (List Value) × Heap × Nat × Obj × Obj × Heap × Nat // cutA.val t.1 t.2.1 t.2.2.1 t.2.2.2.1 t.2.2.2.2.1 t.2.2.2.2.2.1 t.2.2.2.2.2.2.1 t.2.2.2.2.2.2.2.1 t.2.2.2.2.2.2.2.2.1 t.2.2.2.2.2.2.2.2.2.1 t.2.2.2.2.2.2.2.2.2.2.1 t.2.2.2.2.2.2.2.2.2.2.2.1 t.2.2.2.2.2.2.2.2.2.2.2.2.1 t.2.2.2.2.2.2.2.2.2.2.2.2.2.1 t.2.2.2.2.2.2.2.2.2.2.2.2.2.2.1 t.2.2.2.2.2.2.2.2.2.2.2.2.2.2.2 → ∀ t : World × Shared × Shared × (Str → Option Value) × (Str → Option Value) × Addr × Value × (List Int) × Addr × (List Value) × Heap × Nat × Obj × Obj × Heap × Nat, cutA.val t.1 t.2.1 t.2.2.1 t.2.2.2.1 t.2.2.2.2.1 t.2.2.2.2.2.1 t.2.2.2.2.2.2.1 t.2.2.2.2.2.2.2.1 t.2.2.2.2.2.2.2.2.1 t.2.2.2.2.2.2.2.2.2.1 t.2.2.2.2.2.2.2.2.2.2.1 t.2.2.2.2.2.2.2.2.2.2.2.1 t.2.2.2.2.2.2.2.2.2.2.2.2.1 t.2.2.2.2.2.2.2.2.2.2.2.2.2.1 t.2.2.2.2.2.2.2.2.2.2.2.2.2.2.1 t.2.2.2.2.2.2.2.2.2.2.2.2.2.2.2} := eps_ex ⟨(⟨fun _ _ => 0, { strHash := fun _ => 0, shareClass := fun _ => 0, mergeTok := fun _ => default, idOf := fun _ => 0, idOfShared := fun _ _ => 0, followText := fun _ => true, idOfImm := fun _ => 0 }⟩, {}, {}, default, default, default, default, default, default, default, default, default, default, default, default, default)⟩ fun t => cutA.val t.1 t.2.1 t.2.2.1 t.2.2.2.1 t.2.2.2.2.1 t.2.2.2.2.2.1 t.2.2.2.2.2.2.1 t.2.2.2.2.2.2.2.1 t.2.2.2.2.2.2.2.2.1 t.2.2.2.2.2.2.2.2.2.1 t.2.2.2.2.2.2.2.2.2.2.1 t.2.2.2.2.2.2.2.2.2.2.2.1 t.2.2.2.2.2.2.2.2.2.2.2.2.1 t.2.2.2.2.2.2.2.2.2.2.2.2.2.1 t.2.2.2.2.2.2.2.2.2.2.2.2.2.2.1 t.2.2.2.2.2.2.2.2.2.2.2.2.2.2.2
noncomputable def cutAc : World × Shared × Shared × (Str → Option Value) × (Str → Option Value) × Addr × Value × (List Int) × Addr × (List Value) × Heap × Nat × Obj × Obj × Heap × Nat := (Classical.choice cutAx).val
noncomputable def w : World := cutAc.1
noncomputable def s₀ : Shared := cutAc.2.1
noncomputable def s₁ : Shared := cutAc.2.2.1
noncomputable def mg : Str → Option Value := cutAc.2.2.2.1
noncomputable def mb : Str → Option Value := cutAc.2.2.2.2.1
noncomputable def fa : Addr := cutAc.2.2.2.2.2.1
noncomputable def cd : Value := cutAc.2.2.2.2.2.2.1
noncomputable def ns : List Int := cutAc.2.2.2.2.2.2.2.1
noncomputable def sl : Addr := cutAc.2.2.2.2.2.2.2.2.1
noncomputable def vals : List Value := cutAc.2.2.2.2.2.2.2.2.2.1
noncomputable def h₁ : Heap := cutAc.2.2.2.2.2.2.2.2.2.2.1
noncomputable def tk₁ : Nat := cutAc.2.2.2.2.2.2.2.2.2.2.2.1
noncomputable def oM : Obj := cutAc.2.2.2.2.2.2.2.2.2.2.2.2.1
noncomputable def oC : Obj := cutAc.2.2.2.2.2.2.2.2.2.2.2.2.2.1
noncomputable def hb : Heap := cutAc.2.2.2.2.2.2.2.2.2.2.2.2.2.2.1
noncomputable def L : Nat := cutAc.2.2.2.2.2.2.2.2.2.2.2.2.2.2.2
theorem main : cutA.val w s₀ s₁ mg mb fa cd ns sl vals h₁ tk₁ oM oC hb L := by
  unfold cutA
  intro hI dM' dC' hns X' T' K' lifted codeHd1 codeHd0 codeHd l0 N' F2
  k_steps
  (refine Stop.mk ?_; k_dflt (refine Assign_ListComp_Z (_F₀ := by k_asm) (by rfl) (by with_unfolding_all rfl) (by with_unfolding_all rfl) (by decide) (by rfl) (by decide) (by rfl) (by rfl) ?_))
  k_steps
  (rename News _ _ _ _ => zN)
  (rename Fr _ _ _ _ => zF)
  (rename (IntsAre _ (List.take 12 _ ++ _)) => zI)
  refine zip2_src (R := cellR ns) rfl zF zN (by k_mem) (by k_mem) (by simp) (fun _ => rfl) (fun _ => rfl) (by decide) (fun _ => rfl) ?hel ?fin
  case hel =>
    intro I i a b ls oI C oC D m₂ h tk led E' e1 e2 hC g1 g2 F' N' off sub ne
    have e3 := ints_at zI e2
    clear zN zF
    obtain ⟨b, tb, e3, rfl⟩ := e3
    have e4 : ∃ a' ta, ([2, 4, 4, 0, 0, 0, 0, 0, 0, 0, 0, 0] : List Int)[i]? = some a' ∧ a = Value.int a' ta := by
      exact ints_at (.cons _ _ (.cons _ _ (.cons _ _ (.cons _ _ (.cons _ _ (.cons _ _ (.cons _ _ (.cons _ _ (.cons _ _ (.cons _ _ (.cons _ _ (.cons _ _ .nil)))))))))))) e1
    obtain ⟨a, ta, e4, rfl⟩ := e4
    k_steps
    exact Stop.mk (elt_end (by k_asm) (by k_asm) (by (repeat (first | with_reducible exact sub_refl _ | with_reducible refine sub_tail ?_ | with_reducible refine sub_cons ?_))) off rfl ⟨_, _, _, e4, e3, rfl⟩)
  case fin =>
    intro g
    unfold FinZA
    intro D h tk ys F' N' hlt hlen hR
    have hlen' : ys.length = 12 := by
      have := pad_length ns
      have e := zI.length
      rw [hlen, List.size_toArray, List.size_toArray, e]
      simp only [List.length_cons, List.length_nil]
      omega
    have hcs := cells_end hlen' hR
    clear hR hlen zI zN zF
    k_lt hlt
    have hcl := cellsF_length ns
    generalize cellsF ns = cs at hcs hcl
    dsimp only
    k_steps
    refine Stop.mk ?_
    k_dflt (refine wpAny_Assign_Name ?_ (by with_unfolding_all rfl))
    k_dflt (refine LCg.ListComp_U (F₀ := by k_asm) (by with_unfolding_all rfl) (by decide) (by rfl) (by decide) (by rfl) ?_)
    k_steps
    (rename News _ _ _ _ => zN)
    (rename Fr _ _ _ _ => zF)
    refine Stop.mk (CompSrc.ledger rfl zF zN (by k_mem) ?_ ?_)
    · rw [List.size_toArray, (show IntsAre _ (List.take 3 cs) by assumption).length, List.length_take, sizeLine_eq]; omega
    intro g'
    refine rest_fix (fun i y => ∃ c t, (List.take 3 cs)[i]? = some c ∧ y = .str (chordF c) t) ?hel ?fin
    case hel =>
      intro i v ys I oI C oC D m₂ h tk E' hi hv hC hx F' N' off ne
      clear zN zF
      obtain ⟨c, tc, ec, rfl⟩ := ints_at (by assumption) hv
      k_steps
      refine Stop.mk ?_
      k_dflt (refine' chord_item ?N ?m ?_; (case N => k_asm); (case m => k_mem))
      intro t'
      k_steps
      exact Stop.mk (elt_end (by k_asm) (by k_asm) (by (repeat (first | with_reducible exact sub_refl _ | with_reducible refine sub_tail ?_ | with_reducible refine sub_cons ?_))) off (.inr ⟨_, by k_mem, rfl, _, rfl⟩) ⟨rfl, _, _, ec, rfl⟩)
    case fin =>
      intro ys hyl hR
      unfold FinE
      intro D h tk F' N' off
      dsimp only
      simp only [Off1, and_true] at off
      have hch : StrsAre ys ((cs.take 3).map chordF) := strs_of (by rw [List.length_map, hyl, List.size_toArray, (show IntsAre _ (List.take 3 cs) by assumption).length]) fun j y hj => by
        obtain ⟨c, t, e, rfl⟩ := hR j y hj
        exact ⟨_, t, by rw [List.getElem?_map, e]; rfl, rfl⟩
      clear hR hyl zF zN
      have hchl : ((cs.take 3).map chordF).length = 3 := by rw [List.length_map, List.length_take, hcl]; rfl
      generalize hChs : (cs.take 3).map chordF = chs at hch hchl
      k_steps
      refine Stop.mk ?_
      k_dflt (refine LCt.ListComp_T (F₀ := by k_asm) (by with_unfolding_all rfl) (by decide) (by rfl) (by decide) (by rfl) ?_)
      k_steps
      (rename News _ _ _ _ => zN)
      (rename Fr _ _ _ _ => zF)
      refine Stop.mk (LCt.CompSrcT.range rfl zF zN (by assumption) (by rfl) (n := 3) (by rfl) (by decide) ?_)
      intro g'
      refine rest_T (n := 3) (fun i ys => StrsAre ys (dedupF chs i)) ?hel ?fin 3 0 [] .nil rfl
      case hel =>
        intro i v yv I oI C oC D' m₂ h tk E' hi hv hJ hC hx F' N' off ne
        clear zN zF
        obtain ⟨ti, rfl⟩ := hv
        have off0 := off
        simp only [Off3, and_true] at off
        rw [Int.zero_add] at hx
        k_steps
        refine Stop.mk (item_strs (by k_asm) (by k_mem) hch (by omega) (by omega) (by omega) ?_)
        intro c tc ec
        rw [Int.toNat_natCast] at ec
        k_steps
        refine Stop.mk (slice_upto (by k_asm) (by k_asm) (by k_mem) hch (by omega) (by rw [hch.length]; omega) ?_)
        intro D'' ws'' h'' F'' N'' l1 hws
        rw [Int.toNat_natCast] at hws
        k_lt l1
        k_steps
        refine Stop.mk (notin_list_strs (News.isList (by k_asm) (by k_mem)) hws ?_)
        k_steps
        · exact Stop.mk (elt_end (by k_asm) (by k_asm) (by (repeat (first | with_reducible exact sub_refl _ | with_reducible refine sub_tail ?_ | with_reducible refine sub_cons ?_))) off0 trivial ⟨rfl, dedup_old hJ ec (by assumption)⟩)
        · refine Stop.mk (item_strs (by k_asm) (by k_mem) hch (by omega) (by omega) (by omega) ?_)
          intro c2 tc2 ec2
          rw [Int.toNat_natCast, ec] at ec2
          cases ec2
          k_steps
          exact Stop.mk (elt_end (by k_asm) (by k_asm) (by (repeat (first | with_reducible exact sub_refl _ | with_reducible refine sub_tail ?_ | with_reducible refine sub_cons ?_))) off0 trivial ⟨rfl, dedup_new hJ ec (by assumption)⟩)
      case fin =>
        intro ys2 hnm
        unfold FinE
        intro D2 h tk F' N' off
        dsimp only
        simp only [Off1, and_true] at off
        clear zF zN
        k_steps
        refine Stop.mk ?_
        refine add_strs (ss := baseNames) (by k_asm) (by k_asm) (by k_mem) (by k_mem) (.cons _ _ (.cons _ _ (.cons _ _ (.cons _ _ .nil)))) hnm ?_ ?_
        rotate_left
        · have := dedup_len chs 3
          have := hnm.length
          simp only [List.length_cons, List.length_nil]
          omega
        intro D3 us3 h3 F3 N3 l3 hN3
        clear hnm
        have hnl : (baseNames ++ dedupF chs 3).length ≤ 7 := by
          have := dedup_len chs 3
          rw [List.length_append]
          simp only [baseNames, List.length_cons, List.length_nil]
          omega
        have hn2 := names_len hChs
        have hn5 := names_letters hChs
        generalize hNm : baseNames ++ dedupF chs 3 = nm at hN3 hnl hn2 hn5
        k_lt l3
        replace N3 := drop2 (drop2 (drop2 (drop2 N3)))
        replace N3 := drop3 (drop3 (drop3 (drop3 (drop3 N3))))
        clear F' N'
        k_steps
        (refine Stop.mk ?_; k_dflt (refine LCg.Assign_ListComp_U (F₀ := by k_asm) (by rfl) (by with_unfolding_all rfl) (by with_unfolding_all rfl) (by decide) (by rfl) (by decide) (by rfl) (by rfl) (by rfl) ?_))
        k_steps
        (rename News _ _ _ _ => zN)
        (rename Fr _ _ _ _ => zF)
        (rename IntsAre _ (List.take (min 10 cs.length - 3) _) => zI)
        have zL := zI.length
        rw [hcl] at zI zL
        generalize hD7 : List.take (min 10 12 - 3) (List.drop 3 cs) = c7 at zI zL
        have c7l : c7.length = 7 := by rw [← hD7, List.length_take, List.length_drop, hcl]; decide
        refine Stop.mk (CompSrc.ledger rfl zF zN (by k_mem) (by rw [List.size_toArray, zL, sizeLine_eq, c7l]; decide) ?_)
        intro g'
        refine rest_fix (fun i y => ∃ c t, c7[i]? = some c ∧ y = .int (1 + c.fmod 3) t) ?hel ?fin
        case hel =>
          intro i v ys I oI C oC D m₂ h tk E' hi hv hC hx F' N' off ne
          clear zN zF
          obtain ⟨c, tc, ec, rfl⟩ := ints_at zI hv
          k_steps
          exact Stop.mk (elt_end (by k_asm) (by k_asm) (by (repeat (first | with_reducible exact sub_refl _ | with_reducible refine sub_tail ?_ | with_reducible refine sub_cons ?_))) off (.inr ⟨_, by k_mem, rfl, _, rfl⟩) ⟨rfl, _, _, ec, rfl⟩)
        case fin =>
        intro ysd hyl hR
        unfold FinA
        intro Dd h tk F' N' off
        simp only [Off1, and_true] at off
        rw [List.size_toArray, zL] at hyl
        have hdots : IntsAre ysd (c7.map fun c => 1 + c.fmod 3) := ints_of (by rw [List.length_map, hyl]) fun j y hj => by
          obtain ⟨c, t, e, rfl⟩ := hR j y hj
          exact ⟨_, t, by rw [List.getElem?_map, e]; rfl, rfl⟩
        have hysd : ysd.length = 7 := by omega
        clear hR hyl zF zN zI zL
        dsimp only
        k_steps
        (refine Stop.mk ?_; k_dflt (refine LCg.Assign_ListComp_U (F₀ := by k_asm) (by rfl) (by with_unfolding_all rfl) (by with_unfolding_all rfl) (by decide) (by rfl) (by decide) (by rfl) (by rfl) (by rfl) ?_))
        k_steps
        (rename News _ _ _ _ => zN)
        (rename Fr _ _ _ _ => zF)
        (rename IntsAre _ (List.take (min 10 cs.length - 3) _) => zI)
        have zL := zI.length
        rw [hcl, hD7] at zI zL
        refine Stop.mk (CompSrc.ledger rfl zF zN (by k_mem) (by rw [List.size_toArray, zL, sizeLine_eq, c7l]; decide) ?_)
        intro g'
        refine rest_fix (fun i y => ∃ c t, c7[i]? = some c ∧ y = .str (endF c) t) ?hel ?fin
        case hel =>
          intro i v ys I oI C oC D m₂ h tk E' hi hv hC hx F' N' off ne
          clear zN zF
          obtain ⟨c, tc, ec, rfl⟩ := ints_at zI hv
          k_steps
          refine Stop.mk ?_
          k_dflt (refine' end_item ?Ne ?me ?_; (case Ne => k_asm); (case me => k_mem))
          intro t'
          k_steps
          exact Stop.mk (elt_end (by k_asm) (by k_asm) (by (repeat (first | with_reducible exact sub_refl _ | with_reducible refine sub_tail ?_ | with_reducible refine sub_cons ?_))) off (.inr ⟨_, by k_mem, rfl, _, rfl⟩) ⟨rfl, _, _, ec, rfl⟩)
        case fin =>
        intro yse hyl hR
        unfold FinA
        intro De h tk F' N' off
        simp only [Off1, and_true] at off
        rw [List.size_toArray, zL] at hyl
        have hends : StrsAre yse (c7.map endF) := strs_of (by rw [List.length_map, hyl]) fun j y hj => by
          obtain ⟨c, t, e, rfl⟩ := hR j y hj
          exact ⟨_, t, by rw [List.getElem?_map, e]; rfl, rfl⟩
        have hyse : yse.length = 7 := by omega
        clear hR hyl zF zN zI zL
        dsimp only
        replace N' := drop3 (drop2 N')
        k_steps
        refine Stop.mk ?_
        k_dflt (refine ListComp_Z (_F₀ := by k_asm) (by with_unfolding_all rfl) (by decide) (by rfl) (by decide) ?_)
        k_steps
        (rename News _ _ _ _ => zN)
        (rename Fr _ _ _ _ => zF)
        have hnl' := hN3.length
        refine zip3_src (R := lineR c7 nm) rfl zF zN (by k_mem) (by k_mem) (by k_mem) (by rw [List.size_toArray, hysd]; decide) (by simp only [List.size_toArray]; omega) (fun _ => rfl) (fun _ => rfl) (fun _ => rfl) (by decide) (by decide) (by decide) (fun _ => rfl) ?hel ?fin
        case hel =>
          intro I i a b c ls oI C oC D m₂ h tk led E' e1 e2 e3 hC g1 g2 g3 F' N' off sub ne
          clear zN zF
          obtain ⟨a, ta, e1, rfl⟩ := ints_at hdots e1
          obtain ⟨b, tb, e2, rfl⟩ := strs_at hN3 e2
          obtain ⟨c, tc, e3, rfl⟩ := strs_at hends e3
          rename_i ea eb ec
          have ha := dot_at ea
          have hb2 := hn2 b (List.mem_of_getElem? eb)
          have hc2 := end_at ec
          k_steps
          exact Stop.mk (elt_end (by k_asm) (by k_asm) (by (repeat (first | with_reducible exact sub_refl _ | with_reducible refine sub_tail ?_ | with_reducible refine sub_cons ?_))) off rfl (line_R ea eb ec))
        case fin =>
        intro g
        unfold FinZE
        intro Dm h tk ys F' N' hlt hlen hR
        k_lt hlt
        have hlines := lines_end (by rw [hlen, List.size_toArray, List.size_toArray, hysd, hnl', c7l]) hR
        have hlw := lines_weight c7 nm hn2
        clear hR zF zN
        k_steps
        refine join_listW (isList_of N' (.head _)) hlines (by decide +kernel) (by have := hlines.length; rw [hlen, List.size_toArray, List.size_toArray, hysd, hnl'] at this; omega) ?_
        intro tm km
        replace N' := drop2 N'
        k_steps
        refine Stop.mk ?_
        k_dflt (refine' pure_use (quote_pure _ _ _ _ _ _ _ _ (lnsOf c7 nm) ?hL (mail_raw c7 nm) ?hlen) ?B ?F ?X ?N ?T ?hk ?hd ?hu ?_)
        case B => k_asm
        case F => k_asm
        case X => k_asm
        case N => k_asm
        case T => k_asm
        case hk => exact rfl
        case hd => decide +kernel
        case hu => decide +kernel
        case hL => exact lns_ok nm (fun b hb x hx => by have := hn5 b hb x hx; omega) c7
        case hlen => rw [join_len]; omega
        clear g hlen hlines hends
        (rename News _ _ _ _ => zN)
        (rename Fr _ _ _ _ => zF)
        clear zN zF
        intro r h tk F' N' hr
        obtain ⟨tq, yq, rfl, hyq⟩ := hr
        have hyl : yq.length ≤ 300 := by
          have e := dbl_len (lnsOf c7 nm) (lns_small nm hn2 c7)
          rw [← hyq, Array.length_toList, lns_len] at e
          show yq.cps.size ≤ 300
          omega
        k_steps
        refine Stop.mk ?_
        k_dflt (refine' mach_t hyl ?B ?F ?X ?C (news_one [_, _, _, _, _, _] _ N') ?hoff ?T ?hk ?hd ?hu ?_)
        case B => k_asm
        case F => k_asm
        case X => k_asm
        case C => assumption
        case T => k_asm
        case hk => exact rfl
        case hd => decide +kernel
        case hu => decide +kernel
        case hoff =>
          intro p hp
          simp only [List.cons_append, List.nil_append, List.mem_cons, List.not_mem_nil, or_false] at hp
          rcases hp with rfl | rfl | rfl | rfl | rfl | rfl | rfl | rfl <;> (show @Ne Nat _ _) <;> first | (refine Nat.ne_of_gt ?_; with_reducible walk_at "MY cj") | omega
        clear F' N'
        intro pb x d sd st f cf la cA cT kpb nla t1 t2 t3 t4 u1 u3 u4 oD fo fobj ocf oA oT ps h tk F' N' hT hLT Mx
        replace N' := news_drop [_, _, _, _, _, _, _, _, _, _, _] _ N'
        simp only [List.cons_append, List.nil_append] at N' hLT
        simp only [AllLt, and_true] at hLT
        have q1 := Mx.q1
        have q2 := Mx.q2
        have q3 := Mx.q3
        have q4 := Mx.q4
        have q5 := Mx.q5
        have q6 := Mx.q6
        have q7 := Mx.q7
        have q8 := Mx.q8
        have q9 := Mx.q9
        have gz : @LT.lt Nat _ (L + 1 + 1) cT := hLT.2.2.2.2.1
        have s1 : @LT.lt Nat _ cT la := Nat.lt_trans q1 q2
        have s2 : @LT.lt Nat _ cT cf := Nat.lt_trans s1 q3
        have s3 : @LT.lt Nat _ cT f := Nat.lt_trans s2 q4
        have s4 : @LT.lt Nat _ cT st := Nat.lt_trans s3 q5
        have s5 : @LT.lt Nat _ cT sd := Nat.lt_trans s4 q6
        have s6 : @LT.lt Nat _ cT d := Nat.lt_trans s5 q7
        have s7 : @LT.lt Nat _ cT x := Nat.lt_trans s6 q8
        have s8 : @LT.lt Nat _ cT pb := Nat.lt_trans s7 q9
        have r0 : @LT.lt Nat _ (L + 1 + 1) cA := Nat.lt_trans gz q1
        have r1 : @LT.lt Nat _ (L + 1 + 1) la := Nat.lt_trans gz s1
        have r2 : @LT.lt Nat _ (L + 1 + 1) cf := Nat.lt_trans gz s2
        have r3 : @LT.lt Nat _ (L + 1 + 1) f := Nat.lt_trans gz s3
        have r4 : @LT.lt Nat _ (L + 1 + 1) st := Nat.lt_trans gz s4
        have r5 : @LT.lt Nat _ (L + 1 + 1) sd := Nat.lt_trans gz s5
        have r6 : @LT.lt Nat _ (L + 1 + 1) d := Nat.lt_trans gz s6
        have r7 : @LT.lt Nat _ (L + 1 + 1) x := Nat.lt_trans gz s7
        have r8 : @LT.lt Nat _ (L + 1 + 1) pb := Nat.lt_trans gz s8
        k_steps
        (refine Stop.mk ?_; k_dflt (refine LCg.Assign_ListComp_U (F₀ := by k_asm) (by rfl) (by with_unfolding_all rfl) (by with_unfolding_all rfl) (by decide) (by rfl) (by decide) (by rfl) (by rfl) (by rfl) ?_))
        k_steps
        refine Stop.mk ?_
        (rename News _ _ _ _ => zN)
        refine PyProof.Rows.len_list (isList_of zN (by k_mem)) (by rw [List.size_toArray]; omega) ?_
        k_steps
        (rename News _ _ _ _ => zN)
        (rename Fr _ _ _ _ => zF)
        (rename (_ = Data.cell (some (Value.ref x))) => dMx)
        (rename (_ = Data.cell (some (Value.ref D))) => dCh)
        obtain ⟨_, gg2, gg3, gg4, gg5, gg6, gg7, gg8⟩ := hLT
        obtain ⟨l01, l02, l03⟩ := l0
        revert zN zF
        repeat ((rename News _ _ _ _ => zz); clear zz)
        repeat ((rename Fr _ _ _ _ => zz); clear zz)
        repeat ((rename (_ ∧ _) => zz); clear zz)
        intro zF zN
        replace zN := news_one [_, _, _, _, _, _, _, _, _, _, _, _, _, _] _ zN
        simp only [List.cons_append, List.nil_append] at zN
        replace zN := news_one' [_, _, _, _, _, _, _, _, _, _] _ zN
        simp only [List.cons_append, List.nil_append] at zN
        -- HEARD
        obtain ⟨rest0, hrest0, zN⟩ : ∃ rest0, rest0 = _ ∧ News hb L _ ((pb, listOf #[] kpb) :: (x, instObj 125 d) :: (d, dictOf [mcEnt w "lineno" t1 (.int 1 u1), mcEnt w "instream" t2 (.ref st), mcEnt w "whitespace" t3 (.str (Str.ofString "\n\t\r ") u3), mcEnt w "pushback" t4 (.ref pb)] 4) :: (sd, oD) :: (st, fo) :: (f, fobj) :: (cf, ocf) :: (la, listOf #[.int (0 : Nat) u4] nla) :: (cA, oA) :: (cT, oT) :: (L + 1 + 1, _) :: rest0) := ⟨_, rfl, zN⟩
        have hLT0 : AllLt cT rest0 := by rw [hrest0]; exact ⟨hT, gg2, gg3, gg4, gg6, gg7, gg8, trivial⟩
        have hLm : @LT.lt Nat _ (L + 1 + 1) cT := gg5
        have zla : ∀ q ∈ rest0, @Ne Nat q.1 la := ne_of_allLt hLT0 (Nat.le_of_lt s1)
        have zdd : ∀ q ∈ rest0, @Ne Nat q.1 d := ne_of_allLt hLT0 (Nat.le_of_lt s6)
        have hnl4 : 4 ≤ nm.length := by rw [← hNm, List.length_append]; exact Nat.le_add_right 4 _
        refine Stop.mk (CompSrc.range rfl zF zN (by assumption) (n := nm.length + 1) ?small ?size (by rw [sizeLine_eq]; omega) ?_)
        case small => rw [hnl']; exact (range_small _ (by omega)).1
        case size => rw [hnl']; exact (range_small _ (by omega)).2
        intro g'
        have hLl : (lnsOf c7 nm).length = nm.length := by rw [lns_len, c7l]; exact Nat.min_eq_right hnl
        refine rest_J (n := nm.length + 1) (HJ w pb x d sd st f cf la cA cT (L + 1 + 1) oD fo fobj ocf oA oT _ t1 t2 t3 t4 u3 kpb nla rest0 yq c7 nm) ?hel ?fin _ 0 [] _ ⟨0, _, _, rfl, by rw [List.drop_zero, if_pos (Nat.zero_le _)]; exact hyq, Nat.zero_le _, .nil⟩ (Nat.zero_add _)
        case hel =>
          intro i v ys nw I oI C oC D2 m₂ h tk E' hi hv hJ hC hx F' N' off ne
          obtain ⟨p, b1, b4, rfl, hp, hpl, hS⟩ := hJ
          clear zN zF
          have off0 := off
          simp only [Off3] at off
          obtain ⟨o1, o2, o3, o4, o5, o6, o7, o8, o9, o10, o11, o12⟩ := off
          rw [if_pos (Nat.le_of_lt_succ hi)] at hp
          k_steps
          refine Stop.mk ?_
          replace N' := news_3 [_, _, _, _, _, _, _, _, _, _] _ N'
          have z1 : ∀ wo, ∀ q ∈ (I, oI) :: (C, oC) :: (D2, lst ys) :: (L + 1 + 1, wo) :: rest0, @Ne Nat q.1 la := by
            intro wo q hq
            simp only [List.mem_cons] at hq
            rcases hq with rfl | rfl | rfl | rfl | hq
            · exact Ne.symm o8.1
            · exact Ne.symm o8.2.1
            · exact Ne.symm o8.2.2
            · exact Nat.ne_of_lt r1
            · exact zla q hq
          have z2 : ∀ wo, ∀ q ∈ (I, oI) :: (C, oC) :: (D2, lst ys) :: (L + 1 + 1, wo) :: rest0, @Ne Nat q.1 d := by
            intro wo q hq
            simp only [List.mem_cons] at hq
            rcases hq with rfl | rfl | rfl | rfl | hq
            · exact Ne.symm o3.1
            · exact Ne.symm o3.2.1
            · exact Ne.symm o3.2.2
            · exact Nat.ne_of_lt r6
            · exact zdd q hq
          by_cases hin : i < nm.length
          · obtain ⟨l, hli⟩ : ∃ l, (lnsOf c7 nm)[i]? = some l := ⟨_, List.getElem?_eq_getElem (by rw [hLl]; exact hin)⟩
            have hlm := List.mem_of_getElem? hli
            have hpl2 := word_plain l (lns_letters nm hn5 c7 l hlm)
            have hroom : p + ((wsp i).length + (wordOf l).length + 1) ≤ yq.length := by
              have e := congrArg List.length hp
              rw [List.length_drop, Array.length_toList, txt_at hli, List.length_append, List.length_append, List.length_cons] at e
              show p + _ ≤ yq.cps.size
              omega
            k_dflt (refine' tok_t Mx (z1 _) (z2 _) (Nat.le_trans hyl (by decide)) hp (txt_at hli) (wsp_ws i) hpl2 (word_ne l) rfl ?B F' ?X N' ?T ?hk ?hd ?hu ?_)
            case B => k_asm
            case X => k_asm
            case T => k_asm
            case hk => exact rfl
            case hd => decide +kernel
            case hu => decide +kernel
            intro h' tk' tq2 b1' b4' F' N'
            rw [txt_line hli (word_no10 hpl2)] at N'
            exact elt_end F' (news_3' [_, _, _, _, _, _, _, _, _, _] _ N') (sub_refl _) off0 trivial ⟨_, _, _, rfl, by rw [if_pos (Nat.succ_le_of_lt hin)]; exact txt_next hp (txt_drop hli), hroom, strs_snoc hS (words_at hli)⟩
          · have hie : i = nm.length := Nat.le_antisymm (Nat.le_of_lt_succ hi) (Nat.le_of_not_lt hin)
            obtain ⟨n1, hn1⟩ : ∃ n1, nm.length = n1 + 1 := ⟨nm.length - 1, (Nat.sub_add_cancel (Nat.le_trans (by decide) hnl4)).symm⟩
            have hD10 : txtD (lnsOf c7 nm) i = [10] := by rw [hie, hn1]; exact txt_end (hLl.trans hn1)
            rw [hD10] at hp
            have hroom : p + 1 ≤ yq.length := by
              have e := congrArg List.length hp
              rw [List.length_drop, Array.length_toList] at e
              show p + _ ≤ yq.cps.size
              have : [10].length = 1 := rfl
              omega
            k_dflt (refine' eof_t Mx (z1 _) (z2 _) (Nat.le_trans hyl (by decide)) hp hpl (fun c hc => by rw [List.mem_singleton.mp hc]; rfl) ?B F' ?X N' ?T ?hk ?hd ?hu ?_)
            case B => k_asm
            case X => k_asm
            case T => k_asm
            case hk => exact rfl
            case hd => decide +kernel
            case hu => decide +kernel
            intro h' tk' tq2 b1' b4' F' N'
            have hln : lnC (lnI i) [10] [10].length = lnI (i + 1) := by rw [hie, hn1]; exact ln_end n1
            rw [hln] at N'
            exact elt_end F' (news_3' [_, _, _, _, _, _, _, _, _, _] _ N') (sub_refl _) off0 trivial ⟨_, _, _, rfl, by rw [if_neg (by rw [hie]; exact Nat.not_succ_le_self _), ← List.drop_drop, hp]; rfl, hroom, strs_snoc hS (by rw [hie, ← hLl]; exact words_end)⟩
        case fin =>
        rintro ysh nw ⟨p, b1, b4, rfl, hp, hpl, hS⟩
        rw [if_neg (Nat.not_succ_le_self _)] at hp
        rw [List.take_of_length_le (by rw [List.length_append, List.length_map, hLl]; exact Nat.le_refl _)] at hS
        clear zN zF
        unfold FinA
        intro Dh h tk F' N' off
        dsimp only
        k_steps
        -- DUE
        subst hrest0
        simp only [List.cons_append, List.nil_append, List.append_eq] at N'
        (refine Stop.mk ?_; k_dflt (refine Assign_ListComp_Z (_F₀ := by k_asm) (by rfl) (by with_unfolding_all rfl) (by with_unfolding_all rfl) (by decide) (by rfl) (by decide) (by rfl) (by rfl) ?_))
        k_steps
        (rename News _ _ _ _ => zN)
        (rename Fr _ _ _ _ => zF)
        (rename (IntsAre _ (List.map _ _)) => hdots)
        refine zip2_src (R := dueR c7 nm) rfl zF zN (by k_mem) (by k_mem) (by rw [List.size_toArray, hysd]; decide) (fun _ => rfl) (fun _ => rfl) (by decide) (fun _ => rfl) ?hel ?fin
        case hel =>
          intro I i a b ls oI C oC D m₂ h tk led E' e1 e2 hC g1 g2 F' N' off sub ne
          clear zN zF
          obtain ⟨a, ta, e1, rfl⟩ := ints_at hdots e1
          obtain ⟨b, tb, e2, rfl⟩ := strs_at hN3 e2
          rename_i ea eb
          have ha := dot_at ea
          have hb2 := hn2 b (List.mem_of_getElem? eb)
          k_steps
          exact Stop.mk (elt_end (by k_asm) (by k_asm) (by (repeat (first | with_reducible exact sub_refl _ | with_reducible refine sub_tail ?_ | with_reducible refine sub_cons ?_))) off rfl (due_R ea eb))
        case fin =>
        intro g
        unfold FinZA
        intro Du h tk ysu F' N' hlt hlen hR
        k_lt hlt
        have hdue := due_end (by rw [hlen, List.size_toArray, List.size_toArray, hysd, hnl', c7l]) hR
        have hdul : ysu.length = nm.length := by rw [hdue.length, List.length_map, hLl]
        clear hR hlen zN zF
        dsimp only
        k_steps
        refine Stop.mk ?_
        (rename News _ _ _ _ => zN)
        (rename Fr _ _ _ _ => zF)
        refine add_strs (ss := (lnsOf c7 nm).map wordS) (ts := [Str.ofString ""]) zF zN (by k_mem) (by k_mem) hdue (.cons _ _ .nil) ?_ (by simp only [List.length_cons, List.length_nil]; omega)
        intro Dx usx hx Fx Nx lx hX
        rw [empty_str] at hX
        clear zF zN
        k_steps
        refine Stop.mk ?_
        have hwo := words_ok (lns_letters nm hn5 c7)
        refine ne_strs (isList_of Nx (by k_mem)) (isList_of Nx (.head _)) hS hX hwo hwo (by first | units_room | exact Nat.le_of_ble_eq_true rfl) ?_
        rw [show (!decide ((lnsOf c7 nm).map wordS ++ [Str.empty] = (lnsOf c7 nm).map wordS ++ [Str.empty])) = false by simp]
        replace Nx := news_drop [] _ (news_drop [] _ (news_drop [] _ Nx))
        simp only [List.cons_append, List.nil_append] at Nx
        k_steps
        refine Stop.mk ?_
        refine PyProof.Rows.len_list (isList_of Nx (by k_mem)) (by rw [List.size_toArray]; omega) ?_
        have hlnE : lnI (nm.length + 1) = ((nm.length + 1 : Nat) : Int) := rfl
        k_steps
        -- WEIGHTS
        k_dflt (refine Assign_DictComp_Z (_F₀ := Fx) (by rfl) (by with_unfolding_all rfl) (by with_unfolding_all rfl) (by decide) (by rfl) (by decide) (by rfl) (by rfl) ?_)
        k_steps
        refine zip2_srcD (fF := wF c7 nm) (hf0 := rfl) rfl Fx Nx (by k_mem) (by k_mem) (by rw [List.size_toArray, hysd]; decide) (fun _ => rfl) (fun _ => rfl) (by decide) (fun _ => rfl) ?hel ?fin
        case hel =>
          intro I i a b oD oI C oC D m₂ h tk led E' e1 e2 hC g1 g2 F' N' off sub ne
          clear Fx Nx
          obtain ⟨a, ta, e1, rfl⟩ := ints_at hdots e1
          obtain ⟨b, tb, e2, rfl⟩ := strs_at hN3 e2
          rename_i ea eb
          have ha := dot_at ea
          k_steps
          · exact wF_step ea eb
          · exact F'
          · exact N'
        case fin =>
        intro g
        unfold FinZAD
        intro Dw oW kvW h tk F' N' hlt hdW hfW hzW
        have hMark : Mark := ⟨⟩
        k_lt hlt
        rw [List.size_toArray, List.size_toArray, hysd, hnl'] at hfW hzW
        rw [show min 7 nm.length = nm.length from Nat.min_eq_right hnl] at hfW hzW
        clear Fx Nx
        dsimp only
        k_steps
        -- TIES
        refine Stop.mk ?_
        refine wpAny_toks ?_
        walk_at "exec Assign"
        k_steps
        refine Stop.mk ?_
        (rename News _ _ _ _ => zN)
        (rename Fr _ _ _ _ => zF)
        rw [pick_less1] at zN
        have hS7 : StrsAre (ysh.take (ysh.length - 1)) ((lnsOf c7 nm).map wordS) := by
          have e := hS.take' (ysh.length - 1)
          rw [hS.length, List.length_append, List.length_singleton, Nat.add_sub_cancel, List.take_left] at e
          rw [hS.length, List.length_append, List.length_singleton, Nat.add_sub_cancel]
          exact e
        k_dflt (refine' ties_t hS7 ?hws ?hwl ?B zF ?X zN ?T ?hk ?hd ?hu ?_)
        case hws => rw [List.length_map, hLl]; exact Nat.le_trans hnl (by decide)
        case hwl => exact words_hl hChs hNm
        case B => k_asm
        case X => k_asm
        case T => k_asm
        case hk => exact rfl
        case hd => decide +kernel
        case hu => decide +kernel
        clear zN zF
        intro Dt oT kvT h tk F' N' hdT hfT hmT hltT
        k_lt hltT
        k_steps
        refine ⟨fun hle1 => ?_⟩
        dsimp only at hle1
        k_steps
        -- WALKS
        refine Stop.mk ?_
        refine wpAny_toks ?_
        refine Assign_Tuple ?_
        k_steps
        refine Stop.mk ?_
        (rename News _ _ _ _ => zN)
        (rename Fr _ _ _ _ => zF)
        replace zN := news_drop [_, _, _] _ zN
        simp only [List.cons_append, List.nil_append] at zN
        replace zN := news_drop [_] _ zN
        simp only [List.cons_append, List.nil_append] at zN
        replace zN := news_2 [_, _, _, _, _, _, _, _, _, _] _ zN
        have hsL := st_LL (cs.getD (Int.toNat 11) 0)
        have hO := ws_of (mask_in cs) hsL
        have hadj : ∀ a ∈ LL, ∀ b ∈ LL, (valueAt kvT ⟨#[a, b]⟩).isSome = adjM (maskOf cs) a b := fun a ha b hb => by rw [some_df hfT]; exact ties_adj hcl c7l hChs hNm hnl ha hb
        obtain ⟨qs, hqs0, hqsl, hqs⟩ := walks_ok hadj hsL hO.len hO.l5
        have hLT1 : ∀ o9 : Obj, AllLt cT ((L + 1 + 1, o9) :: _) := fun _ => ⟨gg5, hLT0⟩
        have hdt1 : @LT.lt Nat _ pb Dt := hltT.2.2.2.1
        have hdw1 : @LT.lt Nat _ pb Dw := hlt.2.1
        k_dflt (refine' walks_t Mx (ne_two (hLT1 _) ?y1 ?y2 ?y3) (ne_two (hLT1 _) ?y4 ?y5 ?y6) (ne_two (hLT1 _) ?y7 hdt1 hdw1) (Nat.le_trans hyl (by decide)) hp hpl (fun c hc => nomatch hc) (.head _) hdT hmT (by rw [item_abcde]; exact walks_head hO) hqs0 hqs hqsl (walks_small hO) (by rw [List.length_map]; exact Nat.le_of_lt hO.len) ?B zF ?X zN ?T ?hk ?hd ?hu ?_)
        case y1 => exact Nat.le_of_lt s1
        case y2 => first | (with_reducible walk_at "MY cj") | omega
        case y3 => first | (with_reducible walk_at "MY cj") | omega
        case y4 => exact Nat.le_of_lt s6
        case y5 => first | (with_reducible walk_at "MY cj") | omega
        case y6 => first | (with_reducible walk_at "MY cj") | omega
        case y7 => exact Nat.le_of_lt s8
        case B => k_asm
        case X => k_asm
        case T => k_asm
        case hk => exact rfl
        case hd => decide +kernel
        case hu => decide +kernel
        clear zN zF
        intro Dv kDv valsW h tk F' N' hSW hltW
        k_steps
        -- TREE
        refine Stop.mk ?_
        have hxr := x_range (cs.getD (Int.toNat 10) 0)
        have hIT := ties_ints hcl c7l hChs hNm hnl hfT
        (rename News _ _ _ _ => zN)
        (rename Fr _ _ _ _ => zF)
        k_dflt (refine' tree_t hSW (by rw [List.length_map]; exact Nat.le_of_lt hO.len) ?l0 (law_tree_ok hcl c7l hChs hNm hnl hfT hO hxr) (.head _) hdT hIT hmT ?B zF ?X zN ?T ?hk ?hd ?hu ?_)
        case l0 => obtain ⟨t0, ht0⟩ := hO.hd; rw [ht0]; exact Nat.succ_pos _
        case B => k_asm
        case X => k_asm
        case T => k_asm
        case hk => exact rfl
        case hd => decide +kernel
        case hu => decide +kernel
        clear zN zF
        intro Dr tr1 tr2 h tk F' N'
        k_steps
        refine ⟨fun hle2 => ?_⟩
        dsimp only at hle2
        k_steps
        -- NET
        refine Stop.mk ?_
        refine wpAny_toks ?_
        walk_at "exec Assign"
        k_steps
        refine Stop.mk ?_
        have hNums := law_nums hcl c7l hChs hNm hnl hfT hfW hsL hO hxr
        rw [← strL_LL, ← replace_st] at hNums
        have hIW := w_ints hcl c7l hChs hNm hnl hfW
        have hmW : (Dw == sysModules) = false := by
          rw [beq_eq_false_iff_ne]
          show @Ne Nat Dw 1
          omega
        (rename News _ _ _ _ => zN)
        (rename Fr _ _ _ _ => zF)
        k_dflt (refine' netT_use ?B zF ?X zN ?T (net_t _ _ _ _ _ _ 6) ?hk ?hd ?hu (.tail _ (.tail _ (.head _))) hdW hIW hmW ⟨⟨by rw [strL_LL]; exact subs_LL.1, by rw [strL_LL]; exact subs_LL.2, hxr⟩⟩ ?_)
        case B => k_asm
        case X => k_asm
        case T => k_asm
        case hk => exact rfl
        case hd => decide +kernel
        case hu => decide +kernel
        clear zN zF
        intro tn h tk F' N'
        k_steps
        refine ⟨fun hle3 => ?_⟩
        dsimp only at hle3
        k_steps
        -- LEFT
        refine Stop.mk ?_
        walk_at "exec Assign"
        k_steps
        refine SC.replace ?ra ?rb ?rc ?rd (rep_room ?re) ?_
        case ra => show @Ne Nat _ _; omega
        case rb => show @Ne Nat _ _; omega
        case rc => show @Ne Nat _ _; omega
        case rd => rw [item_abcde]; exact one_ne_empty _
        case re => rw [show (Str.ofString "abcde").length = 5 by decide +kernel]; decide
        intro tq5 kq5
        k_steps
        refine Stop.mk ?_
        (rename News _ _ _ _ => zN)
        (rename Fr _ _ _ _ => zF)
        k_dflt (refine' netT_use ?B zF ?X zN ?T (net_t _ _ _ _ _ _ 6) ?hk ?hd ?hu (.tail _ (.tail _ (.head _))) hdW hIW hmW ⟨⟨by rw [replace_st]; exact (subs_del _ hsL).1, by rw [replace_st]; exact (subs_del _ hsL).2, hxr⟩⟩ ?_)
        case B => k_asm
        case X => k_asm
        case T => k_asm
        case hk => exact rfl
        case hd => decide +kernel
        case hu => decide +kernel
        clear zN zF
        intro tl h tk F' N'
        k_steps
        -- DIVMOD
        refine Stop.mk ?_
        refine Assign_Tuple ?_
        k_steps
        refine Stop.mk ?_
        (rename News _ _ _ _ => zN)
        (rename Fr _ _ _ _ => zF)
        have hDig := dig_ok hNums.t0 hNums.t1 hNums.n0 hNums.n1 rfl
        obtain ⟨kq, hTk, hBk⟩ := hNums.q
        have z148 := zN (148, tabObj ps) (by k_mem)
        have z54 := zN (54, tabObj #[]) (by k_mem)
        have z47 := zN (47, tabObj #[]) (by k_mem)
        obtain ⟨g, gF, gsub, gz, gk⟩ := carryL zF [47, 54] (fun a ha => by
          rcases List.mem_cons.mp ha with rfl | ha
          · exact z47.2.2
          · rw [List.mem_singleton.mp ha]; exact z54.2.2)
        have g47 := gz 47 (.head _)
        have g54 := gz 54 (.tail _ (.head _))
        have g148 : g.get? 148 = some (tabObj ps) := gk 148 _ l01 (by decide) z148.1
        have gN : News g L _ ((47, tabObj #[]) :: (54, tabObj #[]) :: []) := fun q hq => by
          rcases List.mem_cons.mp hq with rfl | hq
          · exact ⟨z47.1, z47.2.1, g47⟩
          · rw [List.mem_singleton.mp hq]; exact ⟨z54.1, z54.2.1, g54⟩
        k_dflt (refine' idm_any (rest := []) hNums.t0 hNums.t1 hNums.n0 hNums.n1 rfl hDig.n1 hDig.n2 hDig.hb hDig.hq0 hDig.hqv hDig.hdig hDig.hk0 hDig.hk1 ?B gF ?X ?C ?C2 (.inl rfl) (.inl rfl) (fun _ h => nomatch h) (fun _ h => nomatch h) gN ?T ?hk ?hd ?hu ?_)
        case B => exact ⟨K'.stack, fun b o e => gsub b o (K'.stays b o e), trivial⟩
        case X => exact Frag.In.keeps X' gsub
        case C => exact codeHd
        case C2 => exact codeHd0
        case T => exact Top.keeps T' gsub
        case hk => exact rfl
        case hd => decide +kernel
        case hu => decide +kernel
        intro D9 tq1 tq2 c1 oc1 vs1 tt1 c2 oc2 vs2 tt2 h tk gF' gN' e1 e2 e3 e4 e5 e6
        rw [hDig.quo, hDig.rem, (quo_of hNums.n0 hTk).1, (quo_of hNums.n0 hTk).2] at gN'
        have hc2 : c2 ≠ 148 := by
          rintro rfl
          have q := (gN' _ (.tail _ (.head _))).2.2
          rw [g148] at q; cases q
        have hc1 : c1 ≠ 148 := by
          rintro rfl
          have q := (gN' _ (.tail _ (.tail _ (.tail _ (.head _))))).2.2
          rw [g148] at q; cases q
        have F' := carry_back zF gsub gF'
        have N' := news_app (news_back gsub gN') (show News hb L h [(148, tabObj ps)] from fun q hq => by rw [List.mem_singleton.mp hq]; exact ⟨gF'.keep _ _ g148, z148.2⟩)
        simp only [List.cons_append, List.nil_append] at N'
        clear gF' gN' gF gN zF zN
        k_steps
        refine owe_mul ⟨mul60 (quo_rng hNums.t0 hNums.t1 hNums.n0 hTk) ⟨Int.le_of_lt hNums.n0, hNums.n1⟩⟩ ?_
        rw [← hTk]
        k_steps
        rotate_left
        · (rename (_ ≠ _) => hne)
          exact absurd rfl hne
        -- AGAIN
        refine Stop.mk ?_
        (rename News _ _ _ _ => zN)
        (rename Fr _ _ _ _ => zF)
        have hDig2 := dig_ok hNums.b0 hNums.b1 hNums.l0 hNums.l1 rfl
        have y148 := zN (148, tabObj ps) (by k_mem)
        have y54 := zN (54, _) (.tail _ (.tail _ (.head _)))
        have y47 := zN (47, _) (.tail _ (.tail _ (.tail _ (.tail _ (.head _)))))
        have yc2 := zN (c2, oc2) (.tail _ (.head _))
        have yc1 := zN (c1, oc1) (.tail _ (.tail _ (.tail _ (.head _))))
        obtain ⟨g, gF, gsub, gz, gk⟩ := carryL zF [47, 54, c1, c2] (fun a ha => by
          simp only [List.mem_cons, List.not_mem_nil, or_false] at ha
          rcases ha with rfl | rfl | rfl | rfl
          · exact y47.2.2
          · exact y54.2.2
          · exact yc1.2.2
          · exact yc2.2.2)
        have g148 : g.get? 148 = some (tabObj ps) := gk 148 _ l01 (by
          simp only [List.mem_cons, List.not_mem_nil, or_false, not_or]
          exact ⟨by decide, by decide, Ne.symm hc1, Ne.symm hc2⟩) y148.1
        have gN : News g L _ ((47, tabObj #[rawInt 33, rawInt 4, .ref c1]) :: (54, tabObj #[rawInt 48, rawInt 4, .ref c2]) :: (c1, oc1) :: (c2, oc2) :: []) := fun q hq => by
          simp only [List.mem_cons, List.not_mem_nil, or_false] at hq
          rcases hq with rfl | rfl | rfl | rfl
          · exact ⟨y47.1, y47.2.1, gz 47 (.head _)⟩
          · exact ⟨y54.1, y54.2.1, gz 54 (.tail _ (.head _))⟩
          · exact ⟨yc1.1, yc1.2.1, gz c1 (.tail _ (.tail _ (.head _)))⟩
          · exact ⟨yc2.1, yc2.2.1, gz c2 (.tail _ (.tail _ (.tail _ (.head _))))⟩
        k_dflt (refine' idm_any hNums.b0 hNums.b1 hNums.l0 hNums.l1 rfl hDig2.n1 hDig2.n2 hDig2.hb hDig2.hq0 hDig2.hqv hDig2.hdig hDig2.hk0 hDig2.hk1 ?B gF ?X ?C ?C2 (.inr ⟨c1, oc1, vs1, tt1, rfl, .head _, e1, e2, e5⟩) (.inr ⟨c2, oc2, vs2, tt2, rfl, .tail _ (.head _), e3, e4, e6⟩) (lt54_ne e5 e6 (by decide)) (lt54_ne e5 e6 (by decide)) gN ?T ?hk ?hd ?hu ?_)
        case B => exact ⟨K'.stack, fun b o e => gsub b o (K'.stays b o e), trivial⟩
        case X => exact Frag.In.keeps X' gsub
        case C => exact codeHd
        case C2 => exact codeHd0
        case T => exact Top.keeps T' gsub
        case hk => exact rfl
        case hd => decide +kernel
        case hu => decide +kernel
        intro D8 tq3 tq4 c3 oc3 vs3 tt3 c4 oc4 vs4 tt4 h tk gF' gN' _ _ _ _ _ _
        rw [hDig2.quo, hDig2.rem, (quo_of hNums.l0 hBk).1, (quo_of hNums.l0 hBk).2] at gN'
        have F' := carry_back zF gsub gF'
        have N' := news_app (news_back gsub gN') (show News hb L h [(148, tabObj ps)] from fun q hq => by rw [List.mem_singleton.mp hq]; exact ⟨gF'.keep _ _ g148, y148.2⟩)
        simp only [List.cons_append, List.nil_append] at N'
        clear gF' gN' gF gN zF zN
        k_steps
        (rename News _ _ _ _ => zN)
        (rename Fr _ _ _ _ => zF)
        refine ⟨_, _, _, ps, #[rawInt 48, rawInt 4, .ref c4], #[rawInt 33, rawInt 4, .ref c3], rfl, zF, fun p hp => ?_, rfl⟩
        rcases List.mem_cons.mp hp with rfl | hp
        · exact zN _ (.tail _ (.tail _ (.tail _ (.tail _ (.tail _ (.tail _ (.head _)))))))
        rcases List.mem_cons.mp hp with rfl | hp
        · exact zN _ (.tail _ (.tail _ (.tail _ (.head _))))
        rw [List.mem_singleton.mp hp]
        exact zN _ (.tail _ (.tail _ (.tail _ (.tail _ (.tail _ (.head _))))))
end LA
open LA in
theorem lawtry : PySem.Challenge.rw_sh0038_01.Holds :=
  cutA.property fun w s₀ s₁ mg mb fa cd ns sl vals h₁ tk₁ oM oC hb L => (Classical.choice LA.cutAx).property LA.main (w, s₀, s₁, mg, mb, fa, cd, ns, sl, vals, h₁, tk₁, oM, oC, hb, L)
end
end Mine
end
theorem PySem.Challenge.cw_sh0038_01_holds : PySem.Challenge.rw_sh0038_01.Holds := by
  exact Mine.lawtry
