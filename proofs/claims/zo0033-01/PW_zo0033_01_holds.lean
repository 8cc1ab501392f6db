import PyProof.Rows.All
import Wide.All
import OpenK.AllK
import Wide.FinOn
import Lean
import PySem.Challenge.RW_zo0033_01
set_option Elab.async false
set_option rowWalk.seconds 0
set_option compiler.extract_closed false
set_option linter.all false
theorem Mine.reset_Om : True := by
  w_top off
  k_with_none
  first | walk1 | trivial
section
set_option Elab.async false
namespace Mine
/-- short ways to what omega tells at length: see om.py -/
theorem o_pk {a b c : Nat} {P : Prop} (k : c < b ∧ P → a < b) (h : c < b ∧ P := by with_reducible assumption) : a < b := k h
theorem o_sk {P Q G : Prop} (k : Q → G) (h : P ∧ Q) : G := k h.2
theorem o_l {a b : Nat} (k : Nat) (h : a < b) : a < b + k := Nat.lt_add_right k h
theorem o_p1 {n : Nat} : n < n + 1 := Nat.lt_add_of_pos_right (by decide)
theorem o_p2 {n : Nat} : n < n + 2 := Nat.lt_add_of_pos_right (by decide)
theorem o_p3 {n : Nat} : n < n + 3 := Nat.lt_add_of_pos_right (by decide)
theorem o_p4 {n : Nat} : n < n + 4 := Nat.lt_add_of_pos_right (by decide)
theorem o_r {n c : Nat} (k : Nat) (h : n + k < c := by with_reducible assumption) : n < c := Nat.lt_of_le_of_lt (Nat.le_add_right _ k) h
theorem o_n {a b : Nat} (h : a < b) : ¬ b = a := Nat.ne_of_gt h
theorem o_1 {x a b : Int} {c : Int} (h : a ≤ x ∧ x ≤ b := by with_reducible assumption) (d : b < c := by decide) : x < c := Int.lt_of_le_of_lt h.2 d
theorem o_2 {x a b : Int} {c : Int} (h : a ≤ x ∧ x ≤ b := by with_reducible assumption) (d : b ≤ c := by decide) : x ≤ c := Int.le_trans h.2 d
theorem o_3 {x a b : Int} {c : Int} (h : a ≤ x ∧ x ≤ b := by with_reducible assumption) (d : c < a := by decide) : c < x := Int.lt_of_lt_of_le d h.1
theorem o_4 {x a b : Int} {c : Int} (h : a ≤ x ∧ x ≤ b := by with_reducible assumption) (d : c ≤ a := by decide) : c ≤ x := Int.le_trans d h.1
theorem o_5 {x a b : Int} {c : Nat} (h : a ≤ x ∧ x ≤ b := by with_reducible assumption) (d : -(c : Int) < a ∧ b < c := by decide) : x.natAbs < c := by omega
theorem o_6 {x a b : Int} {c : Nat} (h : a ≤ x ∧ x ≤ b := by with_reducible assumption) (d : -(c : Int) ≤ a ∧ b ≤ c := by decide) : x.natAbs ≤ c := by omega
theorem o_7 {x a b : Int} {c : Int} (h : a ≤ x ∧ x < b := by with_reducible assumption) (d : b ≤ c := by decide) : x < c := Int.lt_of_lt_of_le h.2 d
theorem o_8 {x a b : Int} {c : Int} (h : a ≤ x ∧ x < b := by with_reducible assumption) (d : b ≤ c + 1 := by decide) : x ≤ c := Int.le_of_lt_add_one (Int.lt_of_lt_of_le h.2 d)
theorem o_9 {x a b : Int} {c : Int} (h : a ≤ x ∧ x < b := by with_reducible assumption) (d : c < a := by decide) : c < x := Int.lt_of_lt_of_le d h.1
theorem o_10 {x a b : Int} {c : Int} (h : a ≤ x ∧ x < b := by with_reducible assumption) (d : c ≤ a := by decide) : c ≤ x := Int.le_trans d h.1
theorem o_11 {x a b : Int} {c : Nat} (h : a ≤ x ∧ x < b := by with_reducible assumption) (d : -(c : Int) < a ∧ b ≤ c := by decide) : x.natAbs < c := by omega
theorem o_12 {x a b : Int} {c : Nat} (h : a ≤ x ∧ x < b := by with_reducible assumption) (d : -(c : Int) ≤ a ∧ b ≤ c + 1 := by decide) : x.natAbs ≤ c := by omega
theorem o_13 {x a b : Int} {c : Int} (h : a < x ∧ x < b := by with_reducible assumption) (d : b ≤ c := by decide) : x < c := Int.lt_of_lt_of_le h.2 d
theorem o_14 {x a b : Int} {c : Int} (h : a < x ∧ x < b := by with_reducible assumption) (d : b ≤ c + 1 := by decide) : x ≤ c := Int.le_of_lt_add_one (Int.lt_of_lt_of_le h.2 d)
theorem o_15 {x a b : Int} {c : Int} (h : a < x ∧ x < b := by with_reducible assumption) (d : c ≤ a := by decide) : c < x := Int.lt_of_le_of_lt d h.1
theorem o_16 {x a b : Int} {c : Int} (h : a < x ∧ x < b := by with_reducible assumption) (d : c ≤ a + 1 := by decide) : c ≤ x := Int.le_trans d h.1
theorem o_17 {x a b : Int} {c : Nat} (h : a < x ∧ x < b := by with_reducible assumption) (d : -(c : Int) < a + 1 ∧ b ≤ c := by decide) : x.natAbs < c := by omega
theorem o_18 {x a b : Int} {c : Nat} (h : a < x ∧ x < b := by with_reducible assumption) (d : -(c : Int) ≤ a + 1 ∧ b ≤ c + 1 := by decide) : x.natAbs ≤ c := by omega
theorem o_s1 {x b c : Int} (h : x < b := by with_reducible assumption) (d : b ≤ c := by decide) : x < c := Int.lt_of_lt_of_le h d
theorem o_s2 {x b c : Int} (h : x ≤ b := by with_reducible assumption) (d : b < c := by decide) : x < c := Int.lt_of_le_of_lt h d
theorem o_s3 {x b c : Int} (h : x < b := by with_reducible assumption) (d : b ≤ c + 1 := by decide) : x ≤ c := Int.le_of_lt_add_one (Int.lt_of_lt_of_le h d)
theorem o_s4 {x b c : Int} (h : x ≤ b := by with_reducible assumption) (d : b ≤ c := by decide) : x ≤ c := Int.le_trans h d
theorem o_s5 {x b c : Int} (h : b < x := by with_reducible assumption) (d : c ≤ b := by decide) : c < x := Int.lt_of_le_of_lt d h
theorem o_s6 {x b c : Int} (h : b ≤ x := by with_reducible assumption) (d : c < b := by decide) : c < x := Int.lt_of_lt_of_le d h
theorem o_s7 {x b c : Int} (h : b < x := by with_reducible assumption) (d : c ≤ b + 1 := by decide) : c ≤ x := Int.le_trans d h
theorem o_s8 {x b c : Int} (h : b ≤ x := by with_reducible assumption) (d : c ≤ b := by decide) : c ≤ x := Int.le_trans d h
theorem o_s9 {x b c : Nat} (h : x < b := by with_reducible assumption) (d : b ≤ c := by decide) : x < c := Nat.lt_of_lt_of_le h d
theorem o_s10 {x b c : Nat} (h : x ≤ b := by with_reducible assumption) (d : b < c := by decide) : x < c := Nat.lt_of_le_of_lt h d
theorem o_s11 {x b c : Nat} (h : x < b := by with_reducible assumption) (d : b ≤ c + 1 := by decide) : x ≤ c := Nat.le_of_lt_succ (Nat.lt_of_lt_of_le h d)
theorem o_s12 {x b c : Nat} (h : x ≤ b := by with_reducible assumption) (d : b ≤ c := by decide) : x ≤ c := Nat.le_trans h d
theorem o_s13 {x b c : Nat} (h : b < x := by with_reducible assumption) (d : c ≤ b := by decide) : c < x := Nat.lt_of_le_of_lt d h
theorem o_s14 {x b c : Nat} (h : b ≤ x := by with_reducible assumption) (d : c < b := by decide) : c < x := Nat.lt_of_lt_of_le d h
theorem o_s15 {x b c : Nat} (h : b < x := by with_reducible assumption) (d : c ≤ b + 1 := by decide) : c ≤ x := Nat.le_trans d h
theorem o_s16 {x b c : Nat} (h : b ≤ x := by with_reducible assumption) (d : c ≤ b := by decide) : c ≤ x := Nat.le_trans d h
theorem o_u1 {un n c : Nat} (h : un + 8 * (n + 1) < c := by with_reducible assumption) : un + 3 + 8 * n < c := by omega
theorem o_u2 {un a b c : Nat} (h : un + 8 * a < c := by with_reducible assumption) (d : 3 + 8 * b ≤ 8 * a := by decide) : un + 3 + 8 * b < c := by omega
theorem o_u3 {dp n c : Nat} (h : dp + (n + 1) < c := by with_reducible assumption) : dp + 1 + n < c := by omega
theorem o_e1 {n b c : Nat} (h : n = b := by with_reducible assumption) (d : b ≤ c := by decide) : n ≤ c := h ▸ d
theorem o_e2 {n b c : Nat} (h : n = b := by with_reducible assumption) (d : b < c := by decide) : n < c := h ▸ d
theorem o_e3 {n b c : Nat} (h : n = b := by with_reducible assumption) (d : c ≤ b := by decide) : c ≤ n := h ▸ d
theorem o_e4 {n b c : Nat} (h : n = b := by with_reducible assumption) (d : c < b := by decide) : c < n := h ▸ d
theorem o_m1 {a b c : Nat} (d : a ≤ c := by decide) : min a b ≤ c := Nat.le_trans (Nat.min_le_left a b) d
theorem o_c1 {n b : Nat} {c : Int} (h : n ≤ b := by with_reducible assumption) (d : (b : Int) ≤ c := by decide) : (n : Int) ≤ c := Int.le_trans (Int.ofNat_le.mpr h) d
theorem o_c2 {n b : Nat} {c : Int} (h : n < b := by with_reducible assumption) (d : (b : Int) ≤ c := by decide) : (n : Int) < c := Int.lt_of_lt_of_le (Int.ofNat_lt.mpr h) d
theorem o_c3 {n b : Nat} {c : Int} (h : n ≤ b := by with_reducible assumption) (d : (b : Int) < c := by decide) : (n : Int) < c := Int.lt_of_le_of_lt (Int.ofNat_le.mpr h) d
theorem o_c4 {n : Nat} {c : Int} (d : c < 0 := by decide) : c < (n : Int) := Int.lt_of_lt_of_le d (Int.natCast_nonneg n)
theorem o_c5 {n : Nat} {c : Int} (d : c ≤ 0 := by decide) : c ≤ (n : Int) := Int.le_trans d (Int.natCast_nonneg n)
theorem o_n1 {a b : Nat} (h : b ≤ a := by with_reducible assumption) : ¬ a < b := Nat.not_lt.mpr h
theorem o_n2 {a b : Nat} (h : b < a := by with_reducible assumption) : ¬ a ≤ b := Nat.not_le.mpr h
theorem o_n3 {a b : Int} (h : b ≤ a := by with_reducible assumption) : ¬ a < b := Int.not_lt.mpr h
theorem o_n4 {a b : Int} (h : b < a := by with_reducible assumption) : ¬ a ≤ b := Int.not_le.mpr h
theorem o_d1 {a b : Nat} (h : a ≤ b := by with_reducible assumption) : a + (b - a) = b := Nat.add_sub_of_le h
end Mine
end
local macro_rules | `(tactic| omega) => `(tactic| k_extra "OM")
theorem Mine.reset_Ep : True := by
  w_top off
  k_with_none
  first | walk1 | trivial
section
open PySem PySem.W PyProof.Rows PySem.Calls
set_option Elab.async false
namespace Mine
set_option genSizeOf false
set_option genInjectivity false
/-- the data of a lemma, by kinds: a lemma for all data is shown at one closed datum (epsilon), so that its proof's terms are closed and shared -/
structure Sv where
  w : World
  p : Program
  loose : List Str
  mean : ExcName → Option Value
  hp : Nat → Heap
  nat : Nat → Nat
  int : Nat → Int
  ad : Nat → Addr
  tok : Nat → Tok
  val : Nat → Value
  ob : Nat → Obj
  vl : Nat → List Value
  va : Nat → Array Value
  il : Nat → List Int
  ol : Nat → List (Addr × Obj)
  mf : Nat → Str → Option Value
  sh : Nat → Shared
  str : Nat → Str
  sf : Nat → Nat → Str
  on : Nat → Option Nat
  ba : Nat → Array UInt8
  ov : Nat → Option Value
  sc : Nat → Scope
  oc : Nat → Option (List Code)
  cl : Nat → List (Str × Addr)
  env : Nat → List Env
  ar : Nat → Around
  bo : Nat → Bool
  qf : Flow → Shared → Prop
  qv : Nat → Value → Shared → Prop
theorem Sv.ne : Nonempty Sv :=
  ⟨⟨⟨fun _ _ => 0, ⟨fun _ => 0, fun _ => 0, fun t => t, fun _ => 0, fun _ _ => 0, fun _ => false, fun _ => 0, .refcount, .text, fun _ => 0, fun _ => none, fun _ => false, fun _ _ _ => true, fun _ _ _ => true, true, fun _ => false, fun _ => none, fun _ => none, fun _ _ _ => 0, fun _ _ => none, fun _ => none, fun _ => (0, false, ""), fun _ => none, fun d => d, fun _ => false⟩⟩,
    default, [], fun _ => none, fun _ => {}, fun _ => 0, fun _ => 0, fun _ => (0 : Nat), fun _ => default, fun _ => .none, fun _ => default, fun _ => [], fun _ => #[], fun _ => [], fun _ => [], fun _ _ => none, fun _ => {}, fun _ => "", fun _ _ => "", fun _ => none, fun _ => #[], fun _ => none, fun _ => default, fun _ => none, fun _ => [], fun _ => [], fun _ => {}, fun _ => true, fun _ _ => True, fun _ _ _ => True⟩⟩
/-- a datum for which p holds, where one is -/
noncomputable def Sv.e (p : Sv → Prop) : Sv := @Classical.epsilon Sv Sv.ne p
theorem eps_all (P : Sv → Prop) (h : P (Sv.e fun x => ¬ P x)) (x : Sv) : P x :=
  Classical.byContradiction fun hx => Classical.epsilon_spec (p := fun x => ¬ P x) ⟨x, hx⟩ h
/-- the tokens' count as a true variable (the kit's own turn is undone when the proof's term is closed) -/
theorem wp_toks {α : Type} {M : Model} {A : Around} {t : Sem α} {Q : α → Shared → Prop} {E : Value → Shared → Prop} {hp : Heap} {g : Array GenState} {d : Drawn} {k : Nat} {o : OsState} (h : ∀ k, wpAny M A t Q E ⟨hp, g, d, k, o⟩) : wpAny M A t Q E ⟨hp, g, d, k, o⟩ := h k
end Mine
end
theorem Mine.reset_Nn : True := by
  w_top off
  k_with_none
  (k_with "OM" => with_reducible first | assumption | decide | (refine Nat.ne_of_lt ?_; k_extra "OP") | (refine o_n ?_; k_extra "OP") | k_extra "OP" | exact o_1 | exact o_2 | exact o_3 | exact o_4 | exact o_5 | exact o_6 | exact o_7 | exact o_8 | exact o_9 | exact o_10 | exact o_11 | exact o_12 | exact o_13 | exact o_14 | exact o_15 | exact o_16 | exact o_17 | exact o_18 | exact o_s1 | exact o_s2 | exact o_s3 | exact o_s4 | exact o_s5 | exact o_s6 | exact o_s7 | exact o_s8 | exact o_s9 | exact o_s10 | exact o_s11 | exact o_s12 | exact o_s13 | exact o_s14 | exact o_s15 | exact o_s16 | exact o_r 1 | exact o_r 2 | exact o_r 3 | exact o_r 4 | exact o_r 5 | exact o_r 6 | exact o_r 7 | exact o_r 8 | exact o_r 9 | exact o_r 10 | exact o_r 11 | exact o_r 12 | exact o_r 13 | exact o_r 14 | exact o_r 15 | exact o_r 16 | exact o_u1 | exact o_u2 | exact o_u3 | exact o_e1 | exact o_e2 | exact o_e3 | exact o_e4 | exact o_m1 | exact o_c1 | exact o_c2 | exact o_c3 | exact o_c4 | exact o_c5 | exact o_n1 | exact o_n2 | exact o_n3 | exact o_n4 | exact o_d1 | fail)
  (k_with "OP" => first | k_extra "OB" | exact o_p1 | exact o_p2 | exact o_p3 | exact o_p4 | (refine o_l 1 ?_; k_extra "OB") | (refine o_l 2 ?_; k_extra "OB") | (refine o_l 3 ?_; k_extra "OB") | (refine o_l 4 ?_; k_extra "OB") | fail)
  (k_with "OB" => first | assumption | (refine o_pk ?_; k_extra "OK") | fail)
  (k_with "OK" => first | exact And.left | exact And.right | (refine o_sk ?_; k_extra "OK") | fail)
  first | walk1 | trivial
section
open PySem PySem.W PyProof.Rows PySem.Calls
set_option Elab.async false
set_option maxRecDepth 100000
namespace Mine
/-- a decoder, which may hold a bytearray while it runs -/
noncomputable def decCode : Code → Bool
  | .builtin id _ => PySem.Builtin.Bytes.decodersThatHold.contains id
  | _ => false
/-- no decoder stands on the stack -/
noncomputable def NoDec (Γ : Ctx) : Prop := decCode Γ.code = false ∧ ∀ c ∈ Γ.below, decCode c.1 = false
/-- the wp over all contexts of A where no decoder stands on the stack -/
noncomputable def wpN {α : Type} (M : Model) (A : Around) (t : Sem α) (Q : α → Shared → Prop) (E : Value → Shared → Prop) (s : Shared) : Prop :=
  ∀ Γ p, Γ.In A → NoDec Γ → Sem.wp M Γ t (fun a _ s' => Q a s') (fun e _ s' => E e s') p s
noncomputable def codeN (M : Model) (A : Around) (c : Code) (R : Result → Shared → Prop) (s : Shared) : Prop :=
  ∀ Γ p, Γ.code = c → Γ.Below A → NoDec Γ → wpCode M Γ R p s
section
variable {α β : Type} {M : Model} {A : Around} {E : Value → Shared → Prop} {s : Shared}
theorem wpN_of_any {t : Sem α} {Q : α → Shared → Prop} (h : wpAny M A t Q E s) : wpN M A t Q E s := fun Γ p hΓ _ => h Γ p hΓ
theorem wpN_pure {a : α} {Q : α → Shared → Prop} (h : Q a s) : wpN M A (pure a) Q E s := fun _ _ _ _ => h
theorem wpN_mono {t : Sem α} {Q Q' : α → Shared → Prop} {E' : Value → Shared → Prop} (h : wpN M A t Q E s)
    (hQ : ∀ a s, Q a s → Q' a s) (hE : ∀ e s, E e s → E' e s) : wpN M A t Q' E' s :=
  fun Γ p hΓ hc => Sem.wp_mono M Γ t (fun a _ s => hQ a s) (fun e _ s => hE e s) p s (h Γ p hΓ hc)
theorem wpN_bind {m : Sem α} {f : α → Sem β} {Q : β → Shared → Prop} (h : wpN M A m (fun a s' => wpN M A (f a) Q E s') E s) :
    wpN M A (m >>= f) Q E s := fun Γ p hΓ hc => by
  rw [Sem.wp_bind']
  exact Sem.wp_mono M Γ m (fun a p' s' h' => h' Γ p' hΓ hc) (fun _ _ _ h' => h') p s (h Γ p hΓ hc)
/-- a step that holds in every context, and then the rest -/
theorem wpN_any_bind {m : Sem α} {f : α → Sem β} {Q : β → Shared → Prop} (h : wpAny M A m (fun a s' => wpN M A (f a) Q E s') E s) :
    wpN M A (m >>= f) Q E s := wpN_bind (wpN_of_any h)
/-- a step that wants a stack without decoders, and then a rest that holds in every context -/
theorem wpN_bind_any {m : Sem α} {f : α → Sem β} {Q : β → Shared → Prop} (h : wpN M A m (fun a s' => wpAny M A (f a) Q E s') E s) :
    wpN M A (m >>= f) Q E s := wpN_bind (wpN_mono h (fun _ _ x => wpN_of_any x) fun _ _ x => x)
theorem wpN_onRaise {m : Sem α} {k : Value → Sem Unit} {Q : α → Shared → Prop}
    (h : wpN M A m Q (fun e s' => wpN M A (k e) (fun _ s'' => E e s'') E s') s) : wpN M A (m.onRaise k) Q E s := fun Γ p hΓ hc => by
  rw [Sem.wp_onRaise]
  exact Sem.wp_mono M Γ m (fun _ _ _ h' => h') (fun e p' s' h' => h' Γ p' hΓ hc) p s (h Γ p hΓ hc)
theorem wpN_holding {vs : List Value} {m : Sem α} {Q : α → Shared → Prop} (h : wpN M A m Q E s) : wpN M A (holding vs m) Q E s :=
  fun Γ p hΓ hc => by rw [Sem.wp_holding]; exact h Γ p hΓ hc
theorem dite_no {p : Prop} [Decidable p] {α : Type} {a : p → α} {b : ¬ p → α} {v : α} (h : p → False) (k : ∀ h, b h = v) : dite p a b = v := (dif_neg h).trans (k h)
theorem wpN_exported {self : Value} {Q : Bool → Shared → Prop} (hg : A.guards = some []) (h : Q false s) : wpN M A (PySem.Builtin.Bytes.exported self) Q E s := fun Γ p hΓ hc => by
  have hall : ∀ c ∈ (Γ.code, p) :: Γ.below, decCode c.1 = false ∧ c.1.isGuard = false := fun c hm => by
    refine ⟨?_, ?_⟩
    · rcases List.mem_cons.mp hm with rfl | hm
      · exact hc.1
      · exact hc.2 _ hm
    · have e : guardsOf ((Γ.code, p) :: Γ.below) = [] := by rw [guardsOf_cons]; exact hΓ.2.2.2.1 [] hg
      cases hgd : c.1.isGuard with
      | false => rfl
      | true =>
        have : c.1 ∈ guardsOf ((Γ.code, p) :: Γ.below) := List.mem_filter.mpr ⟨List.mem_map_of_mem hm, hgd⟩
        rw [e] at this
        cases this
  unfold PySem.Builtin.Bytes.exported
  show Q (List.any ((Γ.code, p) :: Γ.below) _) s
  rw [List.any_eq_false.mpr ?_]
  · exact h
  · rintro ⟨c, q⟩ hm
    obtain ⟨h1, h2⟩ := hall _ hm
    clear hm hall h hc hΓ hg
    refine ne_true_of_eq_false ?_
    cases c with
    | builtin id args =>
      have hg : ∀ l, guardIds.contains l = true → id = l → False := fun l e1 e2 => Bool.noConfusion (e1.symm.trans (e2 ▸ h2 : guardIds.contains l = false))
      delta PySem.Builtin.Bytes.exported.match_1 PySem.Builtin.Bytes.exported._sparseCasesOn_1
      refine dite_no (hg "bytearray.__contains__" (by decide +kernel)) fun _ => dite_no (hg "bytearray.__mod__" (by decide +kernel)) fun _ => dite_no (hg "bytearray.__rmod__" (by decide +kernel)) fun _ => dite_no (hg "_struct.pack_into.held" (by decide +kernel)) fun _ => dite_no (hg "bytearray.find.held" (by decide +kernel)) fun _ => ?_
      obtain ⟨pos, kw⟩ := args
      cases pos with
      | nil => rfl
      | cons v r => exact (congrArg _ (show PySem.Builtin.Bytes.decodersThatHold.contains id = false from h1)).trans (Bool.and_false _)
    | _ => rfl
theorem codeN_of_any {c : Code} {R : Result → Shared → Prop} (h : codeAny M A c R s) : codeN M A c R s := fun Γ p hc hΓ _ => h Γ p hc hΓ
theorem codeN_mono {c : Code} {R R' : Result → Shared → Prop} (h : codeN M A c R s) (hR : ∀ r s, R r s → R' r s) : codeN M A c R' s :=
  fun Γ p hc hΓ hn => wpCode_mono hR (h Γ p hc hΓ hn)
theorem NoDec.enter {Γ : Ctx} (h : NoDec Γ) {c : Code} (hc : decCode c = false) (hd : Option Value) (p : Pos) : NoDec (Γ.enter c hd p) :=
  ⟨hc, fun x hx => by
    rcases List.mem_cons.mp hx with rfl | hx
    · exact h.1
    · exact h.2 _ hx⟩
theorem wpN_runValue {c : Code} {Q : Value → Shared → Prop} (hd : decCode c = false)
    (hc : codeN M A c (fun r s' => match r with | .ok (.ret v) => Q v s' | .ok _ => False | .error e => E e s') s) :
    wpN M A (runValue c) Q E s := fun Γ p hΓ hn => by rw [Sem.wp_runValue]; exact hc _ p rfl (hΓ.enter c none p (by intro x; cases x)) (hn.enter hd none p)
theorem wpN_call {f : Value} {pos : List Value} {kw : List (Str × Value)} {Q : Value → Shared → Prop}
    (hc : codeN M A (.call f ⟨pos, kw⟩) (fun r s' => match r with | .ok (.ret v) => Q v s' | .ok _ => False | .error e => E e s') s) :
    wpN M A (call f pos kw) Q E s := wpN_runValue rfl hc
theorem codeN_of_tree {c : Code} {R : Result → Shared → Prop}
    (h : wpN M (A.under c) (M.den c) (fun fin s' => match fin with | .done f => R (.ok f) s' | .again c' => c'.quiet = true ∧ decCode c' = false ∧ codeN M A c' R s')
      (fun e s' => R (.error e) s') s) : codeN M A c R s := fun Γ p hc hΓ hn => by
  rw [wpCode_iff_wp, hc]
  refine Sem.wp_mono M Γ _ (fun fin p' s' h' => ?_) (fun _ _ _ h' => h') p s (h Γ p (hc ▸ hΓ.in) hn)
  cases fin with
  | done f => exact h'
  | again c' => exact ⟨h'.1, h'.2.2 (Γ.goto c') p' rfl (hΓ.goto c') ⟨h'.2.1, hn.2⟩⟩
end
section
variable {prog : Program} {w : World} {A : Around} {s : Shared} {R : Result → Shared → Prop}
theorem codeN_func {body env}
    (h : wpN (model prog w) (A.deeper env) (execs body env) (fun f s' => R (.ok (.ret (match f with | .ret v => v | _ => .none))) s')
      (fun e s' => wpAny (model prog w) (A.deeper env) (leaving env e) (fun _ s'' => R (.error e) s'') (fun e' s'' => R (.error e') s'') s') s) :
    codeN (model prog w) A (.func body env) R s := by
  refine codeN_of_tree ?_
  show wpN _ (A.deeper env) (do point; match ← (execs body env).onRaise (leaving env) with | .ret v => ret v | _ => ret .none) _ _ s
  refine wpN_any_bind (wpAny_point (wpN_bind_any (wpN_onRaise (wpN_mono h (fun f s' h' => ?_) fun _ _ h' => wpN_of_any h'))))
  cases f <;> exact wpAny_pure h'
theorem codeN_call_function {a : Addr} {args : Args} {o : Obj} {fd : FuncData} {body : List Stmt} (hroom : A.depth < recursionLimit)
    (ho : s.heap.get? a = some o)
    (hd' : o.data = .func fd) (hco : fd.scope.isCoroutine = false) (hgen : fd.scope.isGenerator = false) (hbody : fd.body = .stmts body) (hcd : s.heap.CodeRec fd.code fd.qualname)
    (h : wpAny (model prog w) A.in1 (bindArgs fd args) (fun binds s₁ =>
      wpAny (model prog w) A.in1 (newFunctionEnv fd.scope fd.globals fd.closure binds (fd.qualname ++ ".<locals>.") (some a) fd.code none fd.builtins)
        (fun env s₂ => s₂.heap.NoLimit ∧ codeN (model prog w) A (.func body env) R s₂) (fun e s' => R (.error e) s') s₁) (fun e s' => R (.error e) s') s) :
    codeN (model prog w) A (.call (.ref a) args) R s := by
  refine codeN_of_tree (wpN_of_any ?_)
  show wpAny _ A.in1 (callAny (.ref a) args) _ _ s
  simp only [callAny]
  refine wpAny_bind (wpAny_load ho ?_)
  obtain ⟨c, oc, vs, tq, hc, hoc, hdc, hq⟩ := hcd
  simp only [hd', callFunction, hco, hgen, hbody, hc]
  rw [hc] at h
  refine wpAny_bind (m := field (.ref c) 1) (wpAny_field hoc hdc hq (wpAny_bind (wpAny_pure ?_)))
  exact wpAny_bind (wpAny_mono h (fun binds s₁ h₁ => wpAny_bind (wpAny_mono h₁ (fun env s₂ h₂ => wpAny_bind (wpAny_enterFrame h₂.1 hroom
    (wpAny_pure ⟨rfl, rfl, h₂.2⟩))) fun _ _ h' => h')) fun _ _ h' => h')
end
theorem thread_endsN {prog : Program} {w : World} {t : Sem Fin} {s : Shared} {R : Result → Shared → Prop} (hreg : s.asleep)
    (h : wpN (model prog w) callerA t (fun fin s' => ∃ f, fin = .done f ∧ (R (.ok f) s' ∧ leftWithCleanup s'.gens = false)) (fun e s' => R (.error e) s' ∧ leftWithCleanup s'.gens = false) s) :
    ∃ n r s' s'', runN (denote table) prog w n s ⟨t, .builtin "claim.caller" {}, default, []⟩ = .halted (outcomeOf r) s' ∧
      schedN (denote table) prog w n (.single s ⟨t, .builtin "claim.caller" {}, default, []⟩) = .halted (outcomeOf r) s' ∧ s'.forget = s''.forget ∧ R r s'' := by
  have h' : Sem.wp (model prog w) ⟨.builtin "claim.caller" {}, none, none, [], none⟩ t (Sem.finPost (model prog w) ⟨.builtin "claim.caller" {}, none, none, [], none⟩ fun r s' => R r s' ∧ leftWithCleanup s'.gens = false)
      (fun e _ s' => R (.error e) s' ∧ leftWithCleanup s'.gens = false) default s := by
    refine Sem.wp_mono _ _ t (fun fin p' s' h' => ?_) (fun _ _ _ h' => h') default s (h _ default caller_in ⟨by decide +kernel, fun _ hx => nomatch hx⟩)
    obtain ⟨f, rfl, hf⟩ := h'
    exact hf
  obtain ⟨n, r, s₁, s₂, hs, hn, hfo, hR⟩ := wp_halts_full (M := model prog w) (R := R) hreg h'
  exact ⟨n, r, s₂, s₁, hn, hs, hfo, hR⟩
/-- a goal under a name, so that what is taken apart does not copy it -/
theorem fold {P : Prop} (k : ∀ Z : Prop, (P → Z) → Z) : P := k P id
theorem callFrom_of_specN {c : ClaimW} {tree : List Value → Sem Fin} {w : World} {s : Shared} {free : Addr → Prop} {gens : Prop} {kept : Heap → Prop} (hz : s.asleep) (hgens : s.gens = #[])
    (hspec : ∀ args, c.pre args = true → WData.layableAll args = true →
      ∀ ord : List DictEntry → List DictEntry, (∀ l, (ord l).Perm l) →
      ∃ vs s₁, layAllW c.records (classAt s.heap) w.params ord args s = some (vs, s₁) ∧
        wpN (model c.prog w) callerA (tree vs) (fun fin s' => ∃ f, fin = .done f ∧ (c.Ends s args vs s₁ (.ok f) s' ∧ s'.os = s.os ∧ AllBare s'.gens ∧ kept s'.heap))
          (fun e s' => c.Ends s args vs s₁ (.error e) s' ∧ s'.os = s.os ∧ AllBare s'.gens ∧ kept s'.heap) s₁) :
    c.CallFrom (fun vs => ⟨tree vs, .builtin "claim.caller" {}, default, []⟩) w free gens kept s := by
  intro args hpre hlay ord hord
  refine fold fun Z hZ => ?_
  obtain ⟨vs, s₁, hlaid, hcode⟩ := hspec args hpre hlay ord hord
  have hal := layAllW_rest _ _ _ hlaid
  obtain ⟨k, r, s', s'', hrun, hsched, hfo, hcase, hos, hkp⟩ := thread_endsN (prog := c.prog) (w := w) (t := tree vs) (s := s₁)
    (R := fun r s' => c.Ends s args vs s₁ r s' ∧ s'.os = s.os ∧ kept s'.heap)
    (Shared.asleep_of_life hal.2.2.2 hz)
    (wpN_mono hcode (by
      rintro fin s' ⟨f, e, h1, h2, h3, h4⟩
      exact ⟨f, e, ⟨h1, h2, h4⟩, leftWithCleanup_false_of_bare h3⟩) (by
      rintro e s' ⟨h1, h2, h3, h4⟩
      exact ⟨⟨h1, h2, h4⟩, leftWithCleanup_false_of_bare h3⟩))
  obtain ⟨eh, _, _, eo, _⟩ := Shared.forget_eq hfo
  have hcase := hcase.congr eh
  have hkp : kept s'.heap := by first | exact eh ▸ hkp | (rw [eh] at hkp; exact hkp) | (rw [← eh] at hkp; exact hkp)
  rw [← eo] at hos
  have hlife : s'.heap.life = s.heap.life := (runN_life _ _ _ hrun).trans hal.2.2.2
  refine hZ ⟨vs, s₁, hlaid, k, _, s', hsched, ?_, (fun _ i x hx => by rw [hgens] at hx; simp at hx), hkp, by rw [hlife], Shared.rest_eq hos⟩
  rcases hcase with ⟨v, rfl, d1, d2, d3, d4, d5⟩ | ⟨e, ob, cls, rfl, d1, d2, d3, d4, d5⟩
  · exact .inl ⟨v, rfl, d1, d2, d3, fun b o y _ => d4 b o y, d5⟩
  · exact .inr ⟨e, ob, cls, rfl, d1, d2, d3, d4, fun b o y _ => d5 b o y⟩
/-- the walk's premise, over the stacks without decoders -/
noncomputable abbrev WalkD (q : Program) (loose : List Str) (XP : (Str → Option Value) → Heap → Prop) (YP : World → Heap → Prop) (r : RowW) (d : DefRec) (kwd : List (Str × Expr)) : Prop :=
  ∀ (w : World) (s₀ s₁ : Shared) (mg mb : Str → Option Value), Ground q loose r.records XP w s₀ mg mb s₁.heap → YP w s₁.heap → ∀ (a : Addr) (o : Obj) (pm cd doc dV kV : Value), s₁.heap.get? a = some o →
    o.data = .func { docDef d.name d.params d.body d.scope pm cd doc with defaults := dV, kwdefaults := kV } → s₁.heap.CodeRec cd d.name → Dflts mg s₁.heap d.params kwd dV kV → mg d.name = some (.ref a) → s₁.gens = #[] →
    ∀ (args : List WData) (vals : List Value) (as : List Addr), r.claim.pre args = true → WData.layableAll args = true → ReadsAllW r.records (classAt s₀.heap) s₁.heap vals args as → WellAll w.params s₁.heap vals args → (∀ a ∈ as, (a == sysModules) = false) →
      wpN (model r.prog w) callerA (PySem.call (.ref a) vals) (fun v s' => GoodWG r.claim (classAt s₀.heap) (ExcName.means s₀.heap) args s₁ (.ok (.ret v)) s')
        (fun e s' => GoodWG r.claim (classAt s₀.heap) (ExcName.means s₀.heap) args s₁ (.error e) s') s₁
theorem open_anyD {r : RowW} {tree : List Value → Sem Fin} {q : Program} {loose defs kps : List Str} {writes : Bool} {Xt : Shared → Bool} {XP : (Str → Option Value) → Heap → Prop} {α : Type} {Yf : Shared → α} {Ya : World → α} {YP : World → Heap → Prop} {N : Nat}
    (left : LeftO r.prog q loose Xt Yf Ya N) (hY : ∀ w s, Yf s = Ya w → YP w s.heap) (hYk : ∀ w h h', YP w h → (∀ b o, h.get? b = some o → h'.get? b = some o) → YP w h') (hX : ∀ s, Xt s = true → XP (s.heap.nsMap mainGlobals) s.heap) (hXk : ∀ mg h h', XP mg h → (∀ b o, h.get? b = some o → h'.get? b = some o) → XP mg h')
    (hRf : ∀ s, Xt s = true → RecFacts r.records s.heap) (hwr : (!writes || r.records.isEmpty) = true) (ok : (chainsOk q && opensWell r.prog && (frees r && r.within.isEmpty)) = true) (hb : r.prog.bare) (hw : r.promised)
    (ht : ∀ vs (w : World) (s : Shared) mg f (Q : Fin → Shared → Prop) (E : Value → Shared → Prop), s.heap.Ns mainGlobals mg → mg r.name = some f → wpN (model r.prog w) callerA (PySem.call f vs) (fun v s' => Q (.done (.ret v)) s') E s → wpN (model r.prog w) callerA (tree vs) Q E s)
    (pin : ∀ w s, s.heap.isNs mainGlobals = true → Ground q loose [] XP w s (s.heap.nsMap mainGlobals) (s.heap.nsMap builtinsNs) s.heap → ∀ n ∈ defs, isTheDefsW r.prog s.heap n)
    (call : ∀ (w : World) (s₀ s₁ : Shared) (mg mb : Str → Option Value), Ground q loose r.records XP w s₀ mg mb s₁.heap → YP w s₁.heap → ∀ (args : List WData) (vs : List Value) (as : List Addr),
      r.claim.pre args = true → WData.layableAll args = true → Laid r.records w s₀ s₁ args vs as → sysModules < s₀.heap.objs.size → ∃ f, mg r.name = some f ∧
        wpN (model r.prog w) callerA (PySem.call f vs) (fun v s' => GoodWG r.claim (classAt s₀.heap) (ExcName.means s₀.heap) args s₁ (.ok (.ret v)) s')
          (fun e s' => GoodWG r.claim (classAt s₀.heap) (ExcName.means s₀.heap) args s₁ (.error e) s') s₁) : r.claim.HoldsOpenBy (fun vs => ⟨tree vs, .builtin "claim.caller" {}, default, []⟩) defs kps writes := by
  obtain ⟨ok, k5⟩ := Bool.and_eq_true_iff.mp ok
  obtain ⟨hch, o1⟩ := Bool.and_eq_true_iff.mp ok
  obtain ⟨k5, k6⟩ := Bool.and_eq_true_iff.mp k5
  obtain ⟨hsame, hu, ha, hap, hm⟩ := frees_parts k5
  refine ⟨⟨hb, o1, by show r.makers.map _ = []; rw [hm]; rfl⟩, hw.witness, fun w => ⟨(left.behind hX hch w).1, fun s' hs' => ?_⟩⟩
  obtain ⟨s₀, hf, hg0, s, hT, hz, hgens, hg, G00, y⟩ := (left.behind (XP := fun mg h => XP mg h ∧ RecFacts r.records h) (fun s hs => ⟨hX s hs, hRf s hs⟩) hch w).2 s' hs'
  have G0 : Ground q loose [] XP w s (s.heap.nsMap mainGlobals) (s.heap.nsMap builtinsNs) s.heap := ⟨G00.T, G00.B, G00.D, G00.TE, G00.TD, G00.W, G00.X.1, G00.cls, G00.has, G00.apart, G00.once, G00.K⟩
  have RF := G00.X.2
  have hT' := hT
  refine ⟨s₀, hf, hg0, s, hT, pin w s hg G0, RF.1, RF.2.1, ?_⟩
  have hgens : s.gens = #[] := Array.eq_empty_of_size_eq_zero (beq_iff_eq.mp hgens)
  have G : Ground q loose r.records XP w s _ _ s.heap := RF.ground G0
  refine callFrom_of_specN (c := r.claim) hz hgens fun args hpre hlay ord hord => ?_
  obtain ⟨⟨vs, s₁⟩, hlaid⟩ := Option.isSome_iff_exists.mp (layAllW_isSome (P := w.params) (ord := ord) G.has args r.args s (pre_splitW hpre).1)
  have keeps := layAllW_keeps _ _ _ hlaid
  have hal := layAllW_rest _ _ _ hlaid
  obtain ⟨as, hrd, hin, hold⟩ := reads_layAllW hord _ _ _ hlaid hlay s₁.heap (fun _ _ e => e)
  have L : Laid r.records w s s₁ args vs as := ⟨⟨ord, hord, hlaid⟩, hrd, hin, hold, keeps, hal.1.trans hgens, hal.2.2.1⟩
  have G₁ := G.keeps hXk keeps
  obtain ⟨f, hf, h⟩ := call w s s₁ _ _ G₁ (hYk _ _ _ (hY w s y) keeps) args vs as hpre hlay L G.low
  have hi := ident_freeW hu ha hap
  have hwi : r.claim.within = [] := List.isEmpty_iff.mp k6
  exact ⟨vs, s₁, hlaid, ht vs w s₁ _ f _ _ G₁.T.g hf (wpN_mono h (fun v s' g => ⟨_, rfl, have z := g.laid (c := r.claim) hsame hwi hi L; ⟨z.1, z.2.1, z.2.2, fun q => ⟨namesKept_of hT' hg kps keeps g.2.1.old, noTable hwr q⟩⟩⟩) fun e s' g => have z := g.laid (c := r.claim) hsame hwi hi L; ⟨z.1, z.2.1, z.2.2, fun q => ⟨namesKept_of hT' hg kps keeps g.2.1.old, noTable hwr q⟩⟩)⟩
/-- the open head, over the stacks without decoders; the name is the one by which the kit's tactic for heads calls it from this namespace -/
theorem PySem.W.holds_open {r : OpenRow} {q : Program} {loose : List Str} {Xt : Shared → Bool} {XP : (Str → Option Value) → Heap → Prop} {α : Type} {Yf : Shared → α} {Ya : World → α} {YP : World → Heap → Prop} {d : DefRec} {kwd : List (Str × Expr)} {N : Nat}
    (left : LeftO r.prog q loose Xt Yf Ya N) (hY : ∀ w s, Yf s = Ya w → YP w s.heap) (hYk : ∀ w h h', YP w h → (∀ b o, h.get? b = some o → h'.get? b = some o) → YP w h')
    (hX : ∀ s, Xt s = true → XP (s.heap.nsMap mainGlobals) s.heap) (hXk : ∀ mg h h', XP mg h → (∀ b o, h.get? b = some o → h'.get? b = some o) → XP mg h')
    (hdef : defOf q r.name = some (d, kwd)) (hp : r.prog.theDef r.name = some (d.params, d.body, d.scope)) (hk : kwWritten? d.params.kwonlyargs d.params.kw_defaults = some kwd) (hRf : ∀ s, Xt s = true → RecFacts r.records s.heap) (hwr : (!r.writes || r.records.isEmpty) = true)
    (k1 : r.wellSaid = true) (ok : (chainsOk q && opensWell r.prog && (frees r.toRowW && r.within.isEmpty)) = true) (hb : r.prog.bare) (hw : r.toRowW.promised)
    (call : WalkD q loose XP YP r.toRowW d kwd) : r.Holds := by
  refine ⟨k1, hw, open_anyD (r := r.toRowW) (tree := fun vs => do match ← nsGet mainNs r.name with
      | some f => do ret (← PySem.call f vs)
      | none => unsupported "claim.caller:no-such-global") left hY hYk hX hXk hRf hwr ok hb hw
    (fun vs w s mg f Q E hg hf h => wpN_any_bind (wpAny_nsGet hg (by rw [hf]; exact wpN_bind_any (wpN_mono h (fun _ _ x => wpAny_pure x) fun _ _ x => x))))
    (fun w s hg G n hn => ?_) fun w s₀ s₁ mg mb G Y args vs as hpre hlay L low => ?_⟩
  · obtain rfl : n = r.name := by split at hn <;> simp_all
    exact pinned_of_view hg G hdef hp hk
  · obtain ⟨a, o, pm, cd, doc, dV, kV, h1, h2, h3, h4, h5⟩ := G.fn hdef
    exact ⟨.ref a, h1, call w s₀ s₁ mg mb G Y a o pm cd doc dV kV h2 h3 h4 h5 (defOf_name hdef ▸ h1) L.gens args vs as hpre hlay L.reads L.well (L.low low)⟩
end Mine
end
theorem Mine.reset_B8 : True := by
  w_top off
  k_with_none
  (k_with "OM" => with_reducible first | assumption | decide | (refine Nat.ne_of_lt ?_; k_extra "OP") | (refine o_n ?_; k_extra "OP") | k_extra "OP" | exact o_1 | exact o_2 | exact o_3 | exact o_4 | exact o_5 | exact o_6 | exact o_7 | exact o_8 | exact o_9 | exact o_10 | exact o_11 | exact o_12 | exact o_13 | exact o_14 | exact o_15 | exact o_16 | exact o_17 | exact o_18 | exact o_s1 | exact o_s2 | exact o_s3 | exact o_s4 | exact o_s5 | exact o_s6 | exact o_s7 | exact o_s8 | exact o_s9 | exact o_s10 | exact o_s11 | exact o_s12 | exact o_s13 | exact o_s14 | exact o_s15 | exact o_s16 | exact o_r 1 | exact o_r 2 | exact o_r 3 | exact o_r 4 | exact o_r 5 | exact o_r 6 | exact o_r 7 | exact o_r 8 | exact o_r 9 | exact o_r 10 | exact o_r 11 | exact o_r 12 | exact o_r 13 | exact o_r 14 | exact o_r 15 | exact o_r 16 | exact o_u1 | exact o_u2 | exact o_u3 | exact o_e1 | exact o_e2 | exact o_e3 | exact o_e4 | exact o_m1 | exact o_c1 | exact o_c2 | exact o_c3 | exact o_c4 | exact o_c5 | exact o_n1 | exact o_n2 | exact o_n3 | exact o_n4 | exact o_d1 | fail)
  (k_with "OP" => first | k_extra "OB" | exact o_p1 | exact o_p2 | exact o_p3 | exact o_p4 | (refine o_l 1 ?_; k_extra "OB") | (refine o_l 2 ?_; k_extra "OB") | (refine o_l 3 ?_; k_extra "OB") | (refine o_l 4 ?_; k_extra "OB") | fail)
  (k_with "OB" => first | assumption | (refine o_pk ?_; k_extra "OK") | fail)
  (k_with "OK" => first | exact And.left | exact And.right | (refine o_sk ?_; k_extra "OK") | fail)
  first | walk1 | trivial
section
open PySem PySem.W PyProof.Rows PySem.Calls
set_option Elab.async false
set_option maxRecDepth 100000
set_option maxHeartbeats 8000000
namespace Mine
section
variable {α β : Type} {M : Model} {A : Around} {E : Value → Shared → Prop} {s : Shared}
theorem wpN_ite_false {c : Prop} [Decidable c] {a b : Sem α} {Q : α → Shared → Prop} (hc : ¬ c) (h : wpN M A b Q E s) : wpN M A (if c then a else b) Q E s := by rw [if_neg hc]; exact h
theorem wpN_ite_true {c : Prop} [Decidable c] {a b : Sem α} {Q : α → Shared → Prop} (hc : c) (h : wpN M A a Q E s) : wpN M A (if c then a else b) Q E s := by rw [if_pos hc]; exact h
theorem wpN_orM_false {x y : Sem Bool} {Q : Bool → Shared → Prop} (h : wpN M A x (fun b s' => b = false ∧ wpN M A y Q E s') E s) : wpN M A (x <||> y) Q E s := by
  unfold orM
  refine wpN_bind (wpN_mono h (fun b s' hb => ?_) fun _ _ e => e)
  obtain ⟨rfl, hb⟩ := hb
  exact hb
theorem wpN_execs_cons {env : Env} {st : Stmt} {rest : List Stmt} {Q : Flow → Shared → Prop}
    (h : wpN M A (exec st env) (fun f s' => match f with | .next => wpN M A (execs rest env) Q E s' | f => Q f s') E s) :
    wpN M A (execs (st :: rest) env) Q E s := fun Γ p hΓ hn => by
  rw [execs_cons, Sem.wp_bind']
  refine Sem.wp_mono M Γ _ (fun f p' s' h' => ?_) (fun _ _ _ h' => h') _ _ (h Γ p hΓ hn)
  cases f <;> first | exact h' Γ p' hΓ hn | exact h'
theorem wpN_Assign_Name {env : Env} {x : Str} {pos' : Pos} {value : Expr} {pos : Pos} {Q : Flow → Shared → Prop}
    (h : wpN M A (eval value env) (fun v s₁ => wpAny M A (storeName env x v) (fun _ => Q .next) E s₁) E s)
    (hs : swapsWith value (some (.Name x pos')) pos.line env = pure false := by rfl) :
    wpN M A (exec (.Assign [.Name x pos'] value pos) env) Q E s := fun Γ p hΓ hn => by
  simp only [exec_Assign_Name env x pos' value pos hs, Sem.wp_bind', Sem.wp_cmd_standAt, Sem.wp_bindName, Sem.wp_pure']
  exact Sem.wp_mono M Γ _ (fun v _ s₁ h₁ => h₁ Γ _ hΓ) (fun _ _ _ h' => h') _ _ (h Γ _ hΓ hn)
theorem wpN_Call {env : Env} {func : Expr} {args : List Expr} {pos : Pos} {Q : Value → Shared → Prop}
    (h : wpAny M A (eval func env) (fun f s₁ => wpN M A (callWith pos f [] (backTo pos (starEach args env)) []) Q E s₁) E s)
    (he : eval (.Call func args [] pos) env = (do callWith pos (← eval func env) [] (backTo pos (starEach args env)) (backToKw pos (keywordEach [] env))) := by rfl) :
    wpN M A (eval (.Call func args [] pos) env) Q E s := by
  rw [he]; exact wpN_any_bind h
theorem wpN_keep {vs : List Value} {m : Sem α} {Q : α → Shared → Prop} (h : wpN M A m Q E s) : wpN M A (m.keep vs) Q E s :=
  fun Γ p hΓ hn => by rw [Sem.wp_keep]; exact h Γ p hΓ hn
theorem callWithN_function {pos : Pos} {a : Addr} {o : Obj} {fd : FuncData} {first : List Value} {args : List (Bool × Sem Value)} {Q : Value → Shared → Prop}
    (h : wpAny M A (evalArgs (.ref a) true args []) (fun x s₁ => (s₁.heap.get? a = some o ∧ o.data = .func fd) ∧ wpN M A (call (.ref a) (first ++ x.pos) x.kw) Q E s₁) E s) :
    wpN M A (callWith pos (.ref a) first args []) Q E s := by
  unfold callWith
  refine wpN_any_bind (wpAny_holding (wpAny_mono h (fun x s₁ h₁ => wpN_any_bind (wpAny_standAt ?_)) fun _ _ x => x))
  have tail : ∀ {t : Sem Value}, wpN M A t Q E s₁ → wpN M A (t >>= fun r => holding [r] point >>= fun _ => pure r) Q E s₁ :=
    fun ht => wpN_bind_any (wpN_mono ht (fun r s₂ hr => wpAny_bind (wpAny_holding (wpAny_point (wpAny_pure hr)))) fun _ _ x => x)
  cases hs : args.any (·.1) <;> simp only [List.any_nil, Bool.or_false] <;>
    refine wpN_any_bind (m := keeperOf (.ref a)) ?_ <;> unfold keeperOf <;>
    refine wpAny_bind (wpAny_load h₁.1.1 ?_) <;> rw [h₁.1.2] <;> refine wpAny_pure ?_
  · by_cases hc : args.length + 2 * ([] : List (Option Str × Sem Value)).length > 30
    · dsimp only
      first
        | exact tail (wpN_ite_true hc h₁.2)
        | (simp only [hc, if_true]; exact tail h₁.2)
    · dsimp only
      first
        | exact tail (wpN_ite_false hc (by unfold callMarked; exact wpN_keep h₁.2))
        | (simp only [hc, if_false]; exact tail (by unfold callMarked; exact wpN_keep h₁.2))
  · exact tail (by unfold callMarked; exact wpN_keep h₁.2)
theorem callWithN_def {env : Env} {pos : Pos} {f : Addr} {o : Obj} {fd : FuncData} {e : Expr} {rest : List Expr} {Q : Value → Shared → Prop} (hdat : o.data = .func fd)
    (h : wpAny M A (spliced (backTo pos (starEach (e :: rest) env))) (fun vs s₁ => s₁.heap.get? f = some o ∧ wpN M A (call (.ref f) vs) Q E s₁) E s)
    (he : starEach (e :: rest) env = (false, eval e env) :: starEach rest env := by rfl) :
    wpN M A (callWith pos (.ref f) [] (backTo pos (starEach (e :: rest) env)) []) Q E s := by
  rw [he] at h ⊢
  exact callWithN_function (o := o) (fd := fd) (evalArgs_plain (wpAny_mono h (fun vs s₁ h₁ => ⟨⟨h₁.1, hdat⟩, h₁.2⟩) fun _ _ x => x))
theorem callWithN_type {pos : Pos} {T : String} {first : List Value} {args : List (Bool × Sem Value)} {Q : Value → Shared → Prop}
    (hplain : args.any (·.1) = false)
    (h : wpAny M A (evalArgs (.type T) true args []) (fun a s₁ => wpN M A (call (.type T) (first ++ a.pos) a.kw) Q E s₁) E s) :
    wpN M A (callWith pos (.type T) first args []) Q E s := by
  unfold callWith
  refine wpN_any_bind (wpAny_holding (wpAny_mono h (fun a s₁ h₁ => wpN_any_bind (wpAny_standAt ?_)) fun _ _ x => x))
  simp only [hplain, List.any_nil, Bool.or_false]
  refine wpN_any_bind (wpAny_pure ?_)
  exact wpN_bind_any (wpN_mono h₁ (fun r s₂ hr => wpAny_bind (wpAny_holding (wpAny_point (wpAny_pure hr)))) fun _ _ x => x)
theorem callWithN_type1 {env : Env} {pos : Pos} {T : String} {e : Expr} {rest : List Expr} {Q : Value → Shared → Prop}
    (h : wpAny M A (spliced (backTo pos (starEach (e :: rest) env))) (fun vs s₁ => wpN M A (call (.type T) vs) Q E s₁) E s)
    (he : starEach (e :: rest) env = (false, eval e env) :: starEach rest env := by rfl)
    (hplain : (backTo pos (starEach rest env)).any (·.1) = false := by rfl) :
    wpN M A (callWith pos (.type T) [] (backTo pos (starEach (e :: rest) env)) []) Q E s := by
  rw [he] at h ⊢
  exact callWithN_type (by show (false || (backTo pos (starEach rest env)).any (·.1)) = false; rw [hplain]; rfl) (evalArgs_plain h)
end
namespace BA
theorem mro : mroOf (.type "bytearray") = pure [.type "bytearray", .type "object"] := by rw [mroOf_type]; kernel_rfl
theorem lookup_new : typeLookup (.type "bytearray") "__new__" = pure (some (.builtin "bytearray.__new__")) := by rw [typeLookup_type, builtinLookup_eq_fast]; kernel_rfl
theorem slot_init : Slot "bytearray" "__init__" "bytearray.__init__" :=
  .of (owner := "bytearray") (n := "__init__") (by rw [typeLookup_type, builtinLookup_eq_fast]; kernel_rfl) (by decide +kernel) (by decide +kernel) (by decide +kernel)
    (by first | exact .inl (by decide +kernel) | exact .inr (by decide +kernel)) (by rw [isSubtype_type]; kernel_rfl)
theorem called : TypeCalled "bytearray" "bytearray.__new__" "bytearray.__init__" :=
  ⟨by decide +kernel, by decide +kernel, ⟨_, _, mro⟩, madeBy_type mro lookup_new (by decide +kernel), by decide +kernel, by rw [isSubtype_type]; kernel_rfl, slot_init⟩
theorem typeCall (a : Value) : checkTypeCall "bytearray" ⟨[a], []⟩ = pure () := by kernel_rfl
theorem newCall (a : Value) : checkBuiltinCall "bytearray.__new__" ⟨[.type "bytearray", a], []⟩ = pure () := by kernel_rfl
theorem entry_new : entryFor table "bytearray.__new__" = some Builtin.«list.__new__» := entryFor_alias (id' := "list.__new__") (by rw [fastTable_eq_tree]; kernel_rfl) (by kernel_rfl) (by kernel_rfl) (by rw [fastTable_eq_tree]; kernel_rfl)
theorem entry_init : entryFor table "bytearray.__init__" = some Builtin.«bytearray.__init__» := by first | exact entryFor_of_fast (by kernel_rfl) | exact entryFor_of_tree (by kernel_rfl)
theorem plain_new : plainId "bytearray.__new__" = true := by decide +kernel
theorem plain_init : plainId "bytearray.__init__" = true := by decide +kernel
theorem sub : isSubtype (.type "bytearray") (.type "bytearray") = pure true := by rw [isSubtype_type]; kernel_rfl
theorem release : typeLookup (.type "bytearray") "__release_buffer__" = pure (some (.builtin "bytearray.__release_buffer__")) := by rw [typeLookup_type, builtinLookup_eq_fast]; kernel_rfl
theorem release_end : (!("bytearray.__release_buffer__".endsWith ("." ++ "__release_buffer__"))) = false := by decide +kernel
theorem release_of : "bytearray.__release_buffer__".dropRight ("__release_buffer__".length + 1) = "bytearray" := by decide +kernel
theorem int_index : typeLookup (.type "int") "__index__" = pure (some (.builtin "int.__index__")) := by rw [typeLookup_type, builtinLookup_eq_fast]; kernel_rfl
theorem bind1 (v : Value) : Builtin.Bytes.bindOptional "bytearray.__init__" "bytearray" ["source", "encoding", "errors"] [v] [] = pure [some v, none, none] := by kernel_rfl
set_option maxRecDepth 1000000 in
theorem owner : ("bytearray.__new__".splitOn ".__new__").headD "" = "bytearray" := by simp +decide [String.splitOn, String.splitOnAux]
end BA
section
variable {prog : Program} {w : World} {A : Around} {E : Value → Shared → Prop} {s : Shared} {R : Result → Shared → Prop}
theorem code_ba_new (a : Value) {Q₁ : Value → Shared → Prop}
    (h : Q₁ (.ref s.heap.objs.size) { s with heap := s.heap.push { cls := .type "bytearray", data := .bytearray #[] } }) :
    codeAny (model prog w) A (.call (.builtin "bytearray.__new__") ⟨[.type "bytearray", a], []⟩) (wants Q₁ E) s := by
  refine codeAny_of_tree ?_
  show wpAny _ A.in1 (do checkBuiltinCall "bytearray.__new__" ⟨[.type "bytearray", a], []⟩; again (.builtin "bytearray.__new__" ⟨[.type "bytearray", a], []⟩)) _ _ s
  refine wpAny_bind (wpAny_of_eq (BA.newCall a) (wpAny_pure ⟨plainId_quiet BA.plain_new _, codeAny_builtin_stack BA.entry_new rfl fun p st => ?_⟩))
  rw [Around.under_plainId BA.plain_new _]
  have hsub := BA.sub
  have hown := BA.owner
  obtain ⟨hp, g, d, tk, os⟩ := s
  simp only [hown]
  wp_walk
  exact h
theorem codeN_builtin {id : String} {args : Args} {b : Builtin} (hb : entryFor table id = some b)
    (h : wpN (model prog w) (A.under (.builtin id args)) (b args)
      (fun fin s' => match fin with | .done f => R (.ok f) s' | .again c' => c'.quiet = true ∧ decCode c' = false ∧ codeN (model prog w) A c' R s') (fun e s' => R (.error e) s') s) :
    codeN (model prog w) A (.builtin id args) R s := by
  refine codeN_of_tree ?_
  show wpN _ _ (match entryFor table id with | some b => b args | none => unsupported ((withoutEnding? id "#data").getD id)) _ _ s
  rw [hb]; exact h
theorem code_ba_init {n : Int} {u : Tok} {S : Addr} {Q : Value → Shared → Prop} (hg : A.guards = some []) (hS : s.heap.get? S = some { cls := .type "bytearray", data := .bytearray #[] }) (h0 : 0 < n) (h1 : n ≤ 1000)
    (h : ∀ h', h'.get? S = some { cls := .type "bytearray", data := .bytearray (Array.replicate n.toNat 0) } → Heap.SameBut S s.heap h' → Q .none { s with heap := h' }) :
    codeN (model prog w) A (.builtin "bytearray.__init__" ⟨[.ref S, .int n u], []⟩) (wants Q E) s := by
  refine codeN_builtin BA.entry_init ?_
  rw [Around.under_plainId BA.plain_init _]
  have hT : s.TypeIs (.ref S) "bytearray" := ⟨_, hS, rfl⟩
  unfold Builtin.«bytearray.__init__»
  dsimp only
  refine wpN_any_bind ?_
  have hrel := BA.release
  have hsub := BA.sub
  repeat (any_goals (first | assumption | wp_step))
  refine wpAny_ite_false (by rw [BA.release_end]; rfl) ?_
  rw [BA.release_of]
  repeat (any_goals (first | assumption | wp_step))
  refine wpN_ite_false Bool.false_ne_true ?_
  rw [BA.bind1]
  refine wpN_any_bind (wpAny_pure ?_)
  dsimp only
  refine wpN_any_bind (wpAny_pure (wpN_any_bind (wpAny_pure ?_)))
  refine wpN_bind ?_
  refine wpN_orM_false (wpN_exported (by show A.guards = _; exact hg) ⟨rfl, ?_⟩)
  refine wpN_of_any ?_
  repeat (any_goals (first | assumption | wp_step))
  refine wpN_ite_false (by simp) ?_
  refine wpN_of_any ?_
  have hix := BA.int_index
  have q1 : (!Builtin.Bytes.fitsIndex n) = false := by unfold Builtin.Bytes.fitsIndex; simp; omega
  have q2 : ¬ n < 0 := by omega
  have q3 : (n == 2 ^ 63 - 1) = false := beq_eq_false_iff_ne.mpr (by omega)
  have q4 : Builtin.Bytes.tooLong n.toNat = false := by unfold Builtin.Bytes.tooLong; simp [sizeLine_eq]; omega
  have q5 : n > 0 := h0
  repeat (any_goals (first | assumption | wp_step))
  refine wpAny_ite_false (by rw [q3]; rfl) ?_
  repeat (any_goals (first | assumption | wp_step))
  have q6 : (Obj.mapBytearray (fun _ => Array.replicate n.toNat 0) (Obj.mapBytearray (fun _ => #[]) { cls := .type "bytearray", data := .bytearray #[] })).data.pastItsLine = none := by
    show (Data.bytearray (Array.replicate n.toNat 0) 0).pastItsLine = none
    unfold Data.pastItsLine
    simp [sizeLine_eq]
    omega
  rw [q6]
  refine wpAny_pure (wpAny_pure (h _ ?_ ?_))
  · exact Heap.get?_update_self _ (Heap.get?_update_self _ hS rfl) rfl
  · exact (Heap.SameBut.update ..).trans (Heap.SameBut.update ..)
theorem codeN_call_builtin {id : String} {args : Args} {R : Result → Shared → Prop} (hq : plainId id = true) (hd : decCode (.builtin id args) = false)
    (h : wpAny (model prog w) A.in1 (checkBuiltinCall id args) (fun _ s₁ => codeN (model prog w) A (.builtin id args) R s₁) (fun e s' => R (.error e) s') s) : codeN (model prog w) A (.call (.builtin id) args) R s := by
  refine codeN_of_tree ?_
  show wpN _ A.in1 (do checkBuiltinCall id args; again (.builtin id args)) _ _ s
  exact wpN_any_bind (wpAny_mono h (fun _ s₁ h₁ => wpN_pure ⟨plainId_quiet hq args, hd, h₁⟩) fun _ _ h' => h')
theorem callN_bytearray {n : Int} {u : Tok} {Q : Value → Shared → Prop} (hg : A.guards = some []) (h0 : 0 < n) (h1 : n ≤ 1000)
    (h : ∀ h', h'.get? s.heap.objs.size = some { cls := .type "bytearray", data := .bytearray (Array.replicate n.toNat 0) } → (∀ b o, s.heap.get? b = some o → h'.get? b = some o) → Q (.ref s.heap.objs.size) { s with heap := h' }) :
    wpN (model prog w) A (call (.type "bytearray") [.int n u]) Q E s := by
  refine wpN_call (codeN_of_tree ?_)
  show wpN _ _ (callAny (.type "bytearray") _) _ _ _
  refine wpN_pure ⟨Code.quiet_builtin _ (by decide +kernel), rfl, codeN_builtin F.entry_type_call ?_⟩
  rw [Around.under_plain (weight_type_call_type "bytearray" [.int n u] []) rfl]
  have f1 := BA.called.notType
  have f2 := BA.called.canCreate
  have f3 := BA.mro
  have f4 := BA.called.made
  have f5 := BA.sub
  unfold Builtin.«type.__call__»
  dsimp only
  refine wpN_ite_false (by rw [f1]; exact Bool.false_ne_true) ?_
  refine wpN_ite_false (by rw [f2]; exact Bool.false_ne_true) ?_
  rw [BA.typeCall, f3, f4]
  refine wpN_any_bind (wpAny_pure (wpN_any_bind (wpAny_pure ?_)))
  refine wpN_ite_false (by decide) ?_
  refine wpN_any_bind (wpAny_pure (wpN_any_bind (wpAny_pure ?_)))
  refine wpN_bind (wpN_holding (wpN_of_any (wpAny_call (code_ba_new (A := A.in1) (.int n u) ?_))))
  have hT : (Shared.mk (s.heap.push { cls := .type "bytearray", data := .bytearray #[] }) s.gens s.drawn s.toks s.os).TypeIs (.ref s.heap.objs.size) "bytearray" := ⟨_, Heap.get?_push_size _ rfl, rfl⟩
  refine wpN_any_bind (wpAny_isInstance hT f5 ?_)
  refine wpN_ite_false (by simp) ?_
  refine wpN_bind (wpN_holding ?_)
  unfold callSpecial?
  refine wpN_any_bind (wpAny_specialOf hT BA.slot_init.lookup ?_)
  dsimp only
  refine wpN_holding ?_
  rw [BA.slot_init.bind]
  refine wpN_any_bind (wpAny_pure ?_)
  dsimp only [List.cons_append, List.nil_append]
  refine wpN_bind (wpN_call (codeN_call_builtin BA.plain_init (show Builtin.Bytes.decodersThatHold.contains "bytearray.__init__" = false by decide +kernel) (BA.slot_init.check _ _ _ _ _ _ _ _ hT ?_ (code_ba_init (A := A.in1) hg (Heap.get?_push_size _ rfl) h0 h1 fun h' g1 g2 => ?_))))
  · unfold argsOk; kernel_rfl
  · refine wpN_pure ?_
    refine wpN_ite_false (by decide) ?_
    refine wpN_pure ?_
    exact h h' g1 fun b o e => (g2.2 b (Nat.ne_of_lt (Heap.lt_size e))).trans (Heap.get?_push_of_some _ e)
end
end Mine
end
theorem Mine.reset_Hd : True := by
  w_top off
  k_with_none
  first | walk1 | trivial
section
open PySem PySem.W PyProof.Rows
set_option Elab.async false
set_option maxRecDepth 100000
set_option maxHeartbeats 8000000
namespace Mine
noncomputable def sw.tw12686176495423698278 : Nat := 0
set_option Elab.async true in
/-- the kit finds no twin for the program and keeps that in mind: the head is then shown of the program itself -/
theorem sw : True := by
  first | (have h : (PySem.Challenge.pw_zo0033_01.main.body.length == 26) = true := by k_qdec); trivial | trivial
theorem sw_done : True := trivial
open_top hd for PySem.Challenge.rw_zo0033_01
end Mine
end
theorem Mine.reset_Base : True := by
  w_top off
  k_with_none
  (k_with "OM" => with_reducible first | assumption | decide | (refine Nat.ne_of_lt ?_; k_extra "OP") | (refine o_n ?_; k_extra "OP") | k_extra "OP" | exact o_1 | exact o_2 | exact o_3 | exact o_4 | exact o_5 | exact o_6 | exact o_7 | exact o_8 | exact o_9 | exact o_10 | exact o_11 | exact o_12 | exact o_13 | exact o_14 | exact o_15 | exact o_16 | exact o_17 | exact o_18 | exact o_s1 | exact o_s2 | exact o_s3 | exact o_s4 | exact o_s5 | exact o_s6 | exact o_s7 | exact o_s8 | exact o_s9 | exact o_s10 | exact o_s11 | exact o_s12 | exact o_s13 | exact o_s14 | exact o_s15 | exact o_s16 | exact o_r 1 | exact o_r 2 | exact o_r 3 | exact o_r 4 | exact o_r 5 | exact o_r 6 | exact o_r 7 | exact o_r 8 | exact o_r 9 | exact o_r 10 | exact o_r 11 | exact o_r 12 | exact o_r 13 | exact o_r 14 | exact o_r 15 | exact o_r 16 | exact o_u1 | exact o_u2 | exact o_u3 | exact o_e1 | exact o_e2 | exact o_e3 | exact o_e4 | exact o_m1 | exact o_c1 | exact o_c2 | exact o_c3 | exact o_c4 | exact o_c5 | exact o_n1 | exact o_n2 | exact o_n3 | exact o_n4 | exact o_d1 | fail)
  (k_with "OP" => first | k_extra "OB" | exact o_p1 | exact o_p2 | exact o_p3 | exact o_p4 | (refine o_l 1 ?_; k_extra "OB") | (refine o_l 2 ?_; k_extra "OB") | (refine o_l 3 ?_; k_extra "OB") | (refine o_l 4 ?_; k_extra "OB") | fail)
  (k_with "OB" => first | assumption | (refine o_pk ?_; k_extra "OK") | fail)
  (k_with "OK" => first | exact And.left | exact And.right | (refine o_sk ?_; k_extra "OK") | fail)
  first | walk1 | trivial
section
open PySem PySem.W PyProof.Rows PySem.Calls
set_option Elab.async false
set_option maxRecDepth 100000
set_option maxHeartbeats 8000000
namespace Mine
section
variable {prog : Program} {w : World} {A A₀ : Around} {s : Shared} {K : Frag} {L : Addr} {h₀ base : Heap} {m mg mb : Str → Option Value} {p : Program} {loose : List Str} {mean : ExcName → Option Value} {news us : List (Addr × Obj)}
/-- a call of a plain def: its frame stands over all that the caller's heap holds, but for the ledger us -/
theorem code_us {env : Env} {outer : List Env} {R : Result → Shared → Prop} {name qual : Str} {params : Arguments} {body : List Stmt} {scope : Scope} {dV kV doc pm cdv ct oc : Value} {an od : Option Addr} {osl : Array (Option Value)} {f : Addr} {args : Args} {binds : List (Str × Value)}
    (B : Below A₀ base outer h₀) (F : Fr h₀ L s.heap m) (X₀ : K.In h₀) (U : News h₀ L s.heap us) (T : Top p loose mean mg mb h₀) (hA : A.frames = some (env :: outer)) (hf : env.frame = some L) (hke : env.scope.kind = .function)
    (ho : K.lookup f = some ⟨oc, od, .func (fnOf name qual params body scope dV kV doc pm an cdv ct), osl⟩) (hcd : codeIn K cdv qual = true) (hroom : A.depth < recursionLimit)
    (hbind : BindsTo s (fnOf name qual params body scope dV kV doc pm an cdv ct) args binds) (hloc : ∀ y ∈ binds, scope.names.lookup y.1 = some .local)
    (h : ∀ g L' h₁, L' = s.heap.objs.size → (∀ b o, s.heap.get? b = some o → b ∉ us.map (·.1) → g.get? b = some o) → Fr h₀ L g m → Fr g L' h₁ (fun y => binds.reverse.lookup y) → News g L' h₁ us → Below A base (env :: outer) g → K.In g → Top p loose mean mg mb g → (∀ p ∈ us, p.1 < L') →
      wpAny (model prog w) (A.deeper (envOf qual scope L' f cdv)) (execs body (envOf qual scope L' f cdv))
        (fun fl s' => LeaveK h₀ L m g R (match fl with | .ret v => v | _ => .none) s')
        (fun e s' => wpAny (model prog w) (A.deeper (envOf qual scope L' f cdv)) (leaving (envOf qual scope L' f cdv) e) (fun _ s'' => R (.error e) s'') (fun e' s'' => R (.error e') s'') s')
        { s with heap := h₁, toks := s.toks + binds.length })
    (hco : scope.isCoroutine = false) (hgen : scope.isGenerator = false) (hk : scope.kind = .function)
    (hcell : ∀ x ∈ scope.names, x.2 ≠ .cell) : codeAny (model prog w) A (.call (.ref f) args) R s := by
  obtain ⟨FG, BG, st, lv⟩ := groundX (R := R) B F U hA hf hke
  have hX := X₀.keeps F.keep
  refine codeAny_call_def (fd := fnOf name qual params body scope dV kV doc pm an cdv ct) (body := body) (binds := binds) hroom (hX _ _ ho) rfl (T.nolimit.keeps F.keep) (codeRec_of hX hcd) rfl hbind hcell hloc (fun h₁ hns hk₁ => ?_) hco hgen hk
  exact wpAny_mono (h (hideAll s.heap (us.map (·.1))) s.heap.objs.size h₁ rfl (fun b o e hn => hideAll_get _ e hn) FG ⟨hns, fun b o e => hk₁ b o (of_hideAll _ e), Nat.le_of_eq (hideAll_size _ _)⟩
    (fun p hp => ⟨hk₁ _ _ (U p hp).1, Nat.ne_of_lt (Heap.lt_size (U p hp).1), hideAll_none _ (List.mem_map_of_mem hp)⟩) BG (X₀.keeps fun b o e => st b o e) (T.keeps fun b o e => st b o e) (fun p hp => Heap.lt_size (U p hp).1)) (fun fl s' hl => lv _ _ hl) fun _ _ y => y
end
/-- the contract of a def: over a heap with `pre` and the ledger us that it only reads, a value and new objects with `post` -/
noncomputable def SpecB (w : World) (f : Addr) (vs : List Value) (need : Nat) (us : List (Addr × Obj)) (pre : Heap → Prop) (post : Value → List (Addr × Obj) → Prop) (p : Program) (loose : List Str) (mean : ExcName → Option Value) (mg mb : Str → Option Value) (dp un : Nat) (gd : Option (List Code)) (cn : Str) (cs : Scope) (a : Addr) (ccd : Value) (cl : List (Str × Addr)) (outer : List Env) (A₀ : Around) (base h₀ : Heap) (L : Addr) (m : Str → Option Value) (news : List (Addr × Obj)) (s : Shared) (Q E : Value → Shared → Prop) : Prop :=
    Below A₀ base outer h₀ → Fr h₀ L s.heap m → (hd.heap_39 w.params).In h₀ → News h₀ L s.heap news → Top p loose mean mg mb h₀ → cs.kind = .function →
    dp + need < recursionLimit → un + 8 * need < cLine → (∀ p ∈ us, p ∈ news) → pre s.heap →
    (∀ v new h' tk', post v new → Fr h₀ L h' m → News h₀ L h' (new ++ news) → (∀ p ∈ new, AllLt p.1 news) → Q v { s with heap := h', toks := tk' }) →
    wpAny (model PySem.Challenge.rw_zo0033_01.row.prog w) (ktrTop dp un gd cn cs L a ccd cl outer) (call (.ref f) vs) Q E s
noncomputable def Spec (w : World) (f : Addr) (vs : List Value) (need : Nat) (us : List (Addr × Obj)) (pre : Heap → Prop) (post : Value → List (Addr × Obj) → Prop) : Prop :=
  ∀ (p : Program) (loose : List Str) (mean : ExcName → Option Value) (mg mb : Str → Option Value) (dp un : Nat) (gd : Option (List Code)) (cn : Str) (cs : Scope) (a : Addr) (ccd : Value) (cl : List (Str × Addr)) (outer : List Env) (A₀ : Around) (base h₀ : Heap) (L : Addr) (m : Str → Option Value) (news : List (Addr × Obj)) (s : Shared) (Q E : Value → Shared → Prop), SpecB w f vs need us pre post p loose mean mg mb dp un gd cn cs a ccd cl outer A₀ base h₀ L m news s Q E
noncomputable def SpecX (w : World) (f : Addr) (vs : List Value) (need : Nat) (us : List (Addr × Obj)) (pre : Heap → Prop) (post : Value → List (Addr × Obj) → Prop) (x : Sv) : Prop := ¬ SpecB w f vs need us pre post x.p x.loose x.mean (x.mf 0) (x.mf 1) (x.nat 0) (x.nat 1) (x.oc 0) (x.str 0) (x.sc 0) (x.ad 0) (x.val 0) (x.cl 0) (x.env 0) (x.ar 0) (x.hp 0) (x.hp 1) (x.ad 1) (x.mf 2) (x.ol 0) (x.sh 0) (x.qv 0) (x.qv 1)
/-- a contract is shown at one closed datum -/
theorem spec_eps {w : World} {f : Addr} {vs : List Value} {need : Nat} {us : List (Addr × Obj)} {pre : Heap → Prop} {post : Value → List (Addr × Obj) → Prop} (h : SpecB w f vs need us pre post (Sv.e (SpecX w f vs need us pre post)).p (Sv.e (SpecX w f vs need us pre post)).loose (Sv.e (SpecX w f vs need us pre post)).mean ((Sv.e (SpecX w f vs need us pre post)).mf 0) ((Sv.e (SpecX w f vs need us pre post)).mf 1) ((Sv.e (SpecX w f vs need us pre post)).nat 0) ((Sv.e (SpecX w f vs need us pre post)).nat 1) ((Sv.e (SpecX w f vs need us pre post)).oc 0) ((Sv.e (SpecX w f vs need us pre post)).str 0) ((Sv.e (SpecX w f vs need us pre post)).sc 0) ((Sv.e (SpecX w f vs need us pre post)).ad 0) ((Sv.e (SpecX w f vs need us pre post)).val 0) ((Sv.e (SpecX w f vs need us pre post)).cl 0) ((Sv.e (SpecX w f vs need us pre post)).env 0) ((Sv.e (SpecX w f vs need us pre post)).ar 0) ((Sv.e (SpecX w f vs need us pre post)).hp 0) ((Sv.e (SpecX w f vs need us pre post)).hp 1) ((Sv.e (SpecX w f vs need us pre post)).ad 1) ((Sv.e (SpecX w f vs need us pre post)).mf 2) ((Sv.e (SpecX w f vs need us pre post)).ol 0) ((Sv.e (SpecX w f vs need us pre post)).sh 0) ((Sv.e (SpecX w f vs need us pre post)).qv 0) ((Sv.e (SpecX w f vs need us pre post)).qv 1)) : Spec w f vs need us pre post := by
  intro p loose mean mg mb dp un gd cn cs a ccd cl outer A₀ base h₀ L m news s Q E
  exact eps_all (fun x : Sv => SpecB w f vs need us pre post x.p x.loose x.mean (x.mf 0) (x.mf 1) (x.nat 0) (x.nat 1) (x.oc 0) (x.str 0) (x.sc 0) (x.ad 0) (x.val 0) (x.cl 0) (x.env 0) (x.ar 0) (x.hp 0) (x.hp 1) (x.ad 1) (x.mf 2) (x.ol 0) (x.sh 0) (x.qv 0) (x.qv 1)) h (Sv.mk w p loose mean (fun i => [base, h₀].getD i base) (fun i => [dp, un].getD i dp) (fun _ => 0) (fun i => [a, L].getD i a) (fun _ => default) (fun _ => ccd) (fun _ => default) (fun _ => []) (fun _ => #[]) (fun _ => []) (fun _ => news) (fun i => [mg, mb, m].getD i mg) (fun _ => s) (fun _ => cn) (fun _ _ => "") (fun _ => none) (fun _ => #[]) (fun _ => none) (fun _ => cs) (fun _ => gd) (fun _ => cl) (fun _ => outer) (fun _ => A₀) (fun _ => true) (fun _ _ => True) (fun i => [Q, E].getD i Q))
theorem Spec.use {w : World} {f : Addr} {vs : List Value} {need : Nat} {us : List (Addr × Obj)} {pre : Heap → Prop} {post : Value → List (Addr × Obj) → Prop} (S : Spec w f vs need us pre post)
    {p : Program} {loose : List Str} {mean : ExcName → Option Value} {mg mb : Str → Option Value} {dp un : Nat} {gd : Option (List Code)} {cn : Str} {cs : Scope} {a : Addr} {ccd : Value} {cl : List (Str × Addr)} {outer : List Env} {A₀ : Around} {base h₀ : Heap} {L : Addr} {m : Str → Option Value} {news : List (Addr × Obj)} {s : Shared} {Q E : Value → Shared → Prop}
    (B : Below A₀ base outer h₀) (F : Fr h₀ L s.heap m) (X : (hd.heap_39 w.params).In h₀) (N : News h₀ L s.heap news) (T : Top p loose mean mg mb h₀) (hk : cs.kind = .function)
    (hd : dp + need < recursionLimit) (hu : un + 8 * need < cLine) (hus : ∀ p ∈ us, p ∈ news) (hpre : pre s.heap)
    (hret : ∀ v new h' tk', post v new → Fr h₀ L h' m → News h₀ L h' (new ++ news) → (∀ p ∈ new, AllLt p.1 news) → Q v { s with heap := h', toks := tk' }) :
    wpAny (model PySem.Challenge.rw_zo0033_01.row.prog w) (ktrTop dp un gd cn cs L a ccd cl outer) (call (.ref f) vs) Q E s :=
  S p loose mean mg mb dp un gd cn cs a ccd cl outer A₀ base h₀ L m news s Q E B F X N T hk hd hu hus hpre hret
/-- what stood in the ledger stands when the def has left -/
theorem join_news {h₀ g h h' : Heap} {L L' : Addr} {m' : Str → Option Value} {news us new : List (Addr × Obj)} (N : News h₀ L h news) (hus : ∀ p ∈ us, p ∈ news) (e : ∀ b o, h.get? b = some o → b ∉ us.map (·.1) → g.get? b = some o) (F' : Fr g L' h' m') (N' : News h₀ L h' (new ++ us)) : News h₀ L h' (new ++ news) := by
  intro q hq
  rcases List.mem_append.mp hq with hq | hq
  · exact N' q (List.mem_append.mpr (.inl hq))
  · by_cases hb : q.1 ∈ us.map (·.1)
    · obtain ⟨u, hu, e1⟩ := List.mem_map.mp hb
      have e2 := (N u (hus u hu)).1
      rw [e1, (N q hq).1] at e2
      have : u = q := Prod.ext e1 (Option.some.inj e2).symm
      subst this
      exact N' u (List.mem_append.mpr (.inr hu))
    · exact ⟨F'.keep _ _ (e _ _ (N q hq).1 hb), (N q hq).2⟩
/-- the new objects lie above what stood -/
theorem above_news {h₀ h : Heap} {L L' : Addr} {news new : List (Addr × Obj)} (N : News h₀ L h news) (e : L' = h.objs.size) (hn : ∀ q ∈ new, L' ≤ q.1) : ∀ q ∈ new, AllLt q.1 news :=
  fun q hq => allLt_of fun p hp => Nat.lt_of_lt_of_le (Heap.lt_size (N p hp).1) (e ▸ hn q hq)
theorem newList_L {M : Model} {A : Around} {E : Value → Shared → Prop} {s : Shared} {h₀ : Heap} {L : Addr} {m : Str → Option Value} {news : List (Addr × Obj)} {vs : List Value} {Q : Value → Shared → Prop} (F : Fr h₀ L s.heap m) (N : News h₀ L s.heap news)
    (h : ∀ l h', Fr h₀ L h' m → News h₀ L h' ((l, listOf vs.toArray 0) :: news) → (∀ p ∈ news, p.1 < l) → L ≤ l → Q (.ref l) { s with heap := h' }) (hsz : vs.length ≤ sizeLine := by size_fits) : wpAny M A (newList vs) Q E s :=
  newList_N F N (fun h' F' N' => h _ h' F' N' (fun p hp => Heap.lt_size (N p hp).1) (Nat.le_of_lt F.ns.lt)) hsz
theorem newTuple_L {M : Model} {A : Around} {E : Value → Shared → Prop} {s : Shared} {h₀ : Heap} {L : Addr} {m : Str → Option Value} {news : List (Addr × Obj)} {vs : List Value} {Q : Value → Shared → Prop} (F : Fr h₀ L s.heap m) (N : News h₀ L s.heap news)
    (h : ∀ l h', Fr h₀ L h' m → News h₀ L h' ((l, ({ cls := .type "tuple", data := .seq vs.toArray } : Obj)) :: news) → (∀ p ∈ news, p.1 < l) → L ≤ l → Q (.ref l) { s with heap := h' }) (hsz : vs.length ≤ sizeLine) : wpAny M A (newTuple vs) Q E s :=
  newTuple_N F N (fun h' F' N' => h _ h' F' N' (fun p hp => Heap.lt_size (N p hp).1) (Nat.le_of_lt F.ns.lt)) hsz
/-- the end of a def's body: the contract's way on is taken -/
theorem spec_end {h₀ g h h' : Heap} {L L' : Addr} {m m' : Str → Option Value} {news us new : List (Addr × Obj)} {v : Value} {s : Shared} {Q : Value → Shared → Prop} {tk' : Nat} {post : Value → List (Addr × Obj) → Prop}
    (hret : ∀ v new h' tk', post v new → Fr h₀ L h' m → News h₀ L h' (new ++ news) → (∀ p ∈ new, AllLt p.1 news) → Q v { s with heap := h', toks := tk' })
    (N : News h₀ L h news) (hus : ∀ p ∈ us, p ∈ news) (eg : ∀ b o, h.get? b = some o → b ∉ us.map (·.1) → g.get? b = some o) (eL : L' = h.objs.size) (F₁ : Fr g L' h' m') (F : Fr h₀ L h' m) (N' : News h₀ L h' (new ++ us)) (hn : ∀ q ∈ new, L' ≤ q.1) (hp : post v new) : Q v { s with heap := h', toks := tk' } :=
  hret v new h' tk' hp F (join_news N hus eg F₁ N') (above_news N eL hn)
/-- the same, one new object, the newest of the ledger -/
theorem spec_end1 {h₀ g h h' : Heap} {L L' : Addr} {m m' : Str → Option Value} {news us rest : List (Addr × Obj)} {q : Addr × Obj} {v : Value} {s : Shared} {Q : Value → Shared → Prop} {tk' : Nat} {post : Value → List (Addr × Obj) → Prop}
    (hret : ∀ v new h' tk', post v new → Fr h₀ L h' m → News h₀ L h' (new ++ news) → (∀ p ∈ new, AllLt p.1 news) → Q v { s with heap := h', toks := tk' })
    (N : News h₀ L h news) (hus : ∀ p ∈ us, p ∈ news) (eg : ∀ b o, h.get? b = some o → b ∉ us.map (·.1) → g.get? b = some o) (eL : L' = h.objs.size) (F₁ : Fr g L' h' m') (F : Fr h₀ L h' m) (N' : News h₀ L h' (q :: rest)) (hs : ∀ p ∈ us, p ∈ q :: rest) (hn : L' ≤ q.1) (hp : post v [q]) : Q v { s with heap := h', toks := tk' } :=
  hret v [q] h' tk' hp F (join_news N hus eg F₁ fun p hp => N' p (by
    rcases List.mem_append.mp hp with h | h
    · rw [List.mem_singleton.mp h]; exact .head _
    · exact hs p h)) (above_news N eL fun r hr => by rw [List.mem_singleton.mp hr]; exact hn)
/-- the same, no new object -/
theorem spec_end0 {h₀ g h h' : Heap} {L L' : Addr} {m m' : Str → Option Value} {news us rest : List (Addr × Obj)} {v : Value} {s : Shared} {Q : Value → Shared → Prop} {tk' : Nat} {post : Value → List (Addr × Obj) → Prop}
    (hret : ∀ v new h' tk', post v new → Fr h₀ L h' m → News h₀ L h' (new ++ news) → (∀ p ∈ new, AllLt p.1 news) → Q v { s with heap := h', toks := tk' })
    (N : News h₀ L h news) (hus : ∀ p ∈ us, p ∈ news) (eg : ∀ b o, h.get? b = some o → b ∉ us.map (·.1) → g.get? b = some o) (eL : L' = h.objs.size) (F₁ : Fr g L' h' m') (F : Fr h₀ L h' m) (N' : News h₀ L h' rest) (hs : ∀ p ∈ us, p ∈ rest) (hp : post v []) : Q v { s with heap := h', toks := tk' } :=
  hret v [] h' tk' hp F (join_news N hus eg F₁ fun p hp => N' p (hs p hp)) (fun _ h => nomatch h)
end Mine
end
theorem Mine.reset_LE : True := by
  w_top off
  k_with_none
  (k_with "OM" => with_reducible first | assumption | decide | (refine Nat.ne_of_lt ?_; k_extra "OP") | (refine o_n ?_; k_extra "OP") | k_extra "OP" | exact o_1 | exact o_2 | exact o_3 | exact o_4 | exact o_5 | exact o_6 | exact o_7 | exact o_8 | exact o_9 | exact o_10 | exact o_11 | exact o_12 | exact o_13 | exact o_14 | exact o_15 | exact o_16 | exact o_17 | exact o_18 | exact o_s1 | exact o_s2 | exact o_s3 | exact o_s4 | exact o_s5 | exact o_s6 | exact o_s7 | exact o_s8 | exact o_s9 | exact o_s10 | exact o_s11 | exact o_s12 | exact o_s13 | exact o_s14 | exact o_s15 | exact o_s16 | exact o_r 1 | exact o_r 2 | exact o_r 3 | exact o_r 4 | exact o_r 5 | exact o_r 6 | exact o_r 7 | exact o_r 8 | exact o_r 9 | exact o_r 10 | exact o_r 11 | exact o_r 12 | exact o_r 13 | exact o_r 14 | exact o_r 15 | exact o_r 16 | exact o_u1 | exact o_u2 | exact o_u3 | exact o_e1 | exact o_e2 | exact o_e3 | exact o_e4 | exact o_m1 | exact o_c1 | exact o_c2 | exact o_c3 | exact o_c4 | exact o_c5 | exact o_n1 | exact o_n2 | exact o_n3 | exact o_n4 | exact o_d1 | fail)
  (k_with "OP" => first | k_extra "OB" | exact o_p1 | exact o_p2 | exact o_p3 | exact o_p4 | (refine o_l 1 ?_; k_extra "OB") | (refine o_l 2 ?_; k_extra "OB") | (refine o_l 3 ?_; k_extra "OB") | (refine o_l 4 ?_; k_extra "OB") | fail)
  (k_with "OB" => first | assumption | (refine o_pk ?_; k_extra "OK") | fail)
  (k_with "OK" => first | exact And.left | exact And.right | (refine o_sk ?_; k_extra "OK") | fail)
  first | walk1 | trivial
section
open PySem PySem.W PyProof.Rows PySem.Calls PySem.Spec
set_option Elab.async false
set_option maxRecDepth 100000
set_option maxHeartbeats 8000000
set_option pp.deepTerms false
set_option pp.maxSteps 100
namespace Mine
theorem enter_callN {M : Model} {A : Around} {s : Shared} {f : Value} {pos : List Value} {kw : List (Str × Value)} {c : ClaimW} {cl : Str → Option Addr} {mean : ExcName → Option Value} {args : List WData} {s₁ : Shared}
    (h : codeN M A (.call f ⟨pos, kw⟩) (GoodWG c cl mean args s₁) s) : wpN M A (PySem.call f pos kw) (fun v s' => GoodWG c cl mean args s₁ (.ok (.ret v)) s') (fun e s' => GoodWG c cl mean args s₁ (.error e) s') s :=
  wpN_runValue rfl (codeN_mono h fun res s' g => by rcases g.1 with ⟨v, _, _, rfl, _⟩ | ⟨e, _, _, rfl, _⟩ <;> exact g)
/-- the law's end, said of the heap without the tables of code -/
noncomputable def GoodB (c : ClaimW) (cl : Str → Option Addr) (args : List WData) (s₁ : Shared) (tabs : List (Addr × Addr)) (res : Result) (s' : Shared) : Prop :=
  (∃ v d as, res = .ok (.ret v) ∧ (∀ cls, c.raises args cls = false) ∧ ReadsW c.records cl s'.heap v d as ∧ c.post args d args = true ∧
      (c.unshared = true → as.Nodup ∧ ∀ a ∈ as, (ghostOf s₁.heap tabs).get? a = none)) ∧
  (∀ b o, (ghostOf s₁.heap tabs).get? b = some o → s'.heap.get? b = some o) ∧ s'.os = s₁.os ∧ AllBare s'.gens ∧ GrownAll tabs s'.heap
theorem kn_postN {M : Model} {A : Around} {cd : Code} {s s₁ : Shared} {cw : ClaimW} {cl : Str → Option Addr} {mean : ExcName → Option Value} {args : List WData} {tabs : List (Addr × Addr)} (hT : TabsAt tabs s₁.heap)
    (h : codeN M A cd (GoodB cw cl args s₁ tabs) s) : codeN M A cd (GoodWG cw cl mean args s₁) s :=
  codeN_mono h fun r s' ⟨hc, hk, hos, hg, hgr⟩ => by
    have keep : ∀ b o, b ∉ tabs.map (·.2) → s₁.heap.get? b = some o → s'.heap.get? b = some o := fun b o hb e => hk b o (ghost_ne e hb)
    have grown : ∀ b o, b ∈ tabs.map (·.2) → s₁.heap.get? b = some o → isCodeTable s₁.heap b ∧ o = tabObj #[] ∧ ∃ ps, s'.heap.get? b = some (tabObj ps) := fun b o hb e => by
      obtain ⟨q, hq, rfl⟩ := List.mem_map.mp hb
      have e2 := (hT q hq).2
      rw [e] at e2
      exact ⟨((hT q hq).1.tab (hT q hq).2).isCodeTable, Option.some.inj e2, hgr.get q hq⟩
    refine ⟨?_, ⟨fun b o e => ?_, fun b o e => ?_⟩, hos, hg⟩
    · obtain ⟨v, d, as, r1, r2, r3, r4, r5⟩ := hc
      refine .inl ⟨v, d, as, r1, r2, r3, r4, fun q => ⟨(r5 q).1, fun a ha => ?_⟩⟩
      cases q1 : s₁.heap.get? a with
      | none => rfl
      | some o =>
        by_cases hb : a ∈ tabs.map (·.2)
        · obtain ⟨_, _, ps, hP⟩ := grown a o hb q1
          exact absurd ha (readsW_apart hP rfl r3)
        · have e3 := (r5 q).2 a ha
          rw [show (ghostOf s₁.heap tabs).get? a = some o from ghost_ne q1 hb] at e3
          cases e3
    · by_cases hb : b ∈ tabs.map (·.2)
      · obtain ⟨ht, rfl, ps, hP⟩ := grown b o hb e
        exact .inr (.inl ⟨ht, rfl, #[], ps, rfl, by rw [Array.empty_append]; exact hP⟩)
      · exact .inl (keep b o hb e)
    · by_cases hb : b ∈ tabs.map (·.2)
      · obtain ⟨_, _, ps, hP⟩ := grown b o hb e
        exact ⟨_, hP⟩
      · exact ⟨o, keep b o hb e⟩
theorem callN_cells {prog : Program} {w : World} {A : Around} {R : Result → Shared → Prop} {s : Shared} {name : Str} {params : Arguments} {body : List Stmt} {scope : Scope}
    {pm cd doc : Value} {a : Addr} {o : Obj} {args : List Value} {binds : List (Str × Value)}
    (hroom : A.depth < recursionLimit) (ho : s.heap.get? a = some o) (hdata : o.data = .func (Calls.docDef name params body scope pm cd doc)) (hlim : s.heap.NoLimit) (hcd : s.heap.CodeRec cd name)
    (hbind : bindArgs (Calls.docDef name params body scope pm cd doc) ⟨args, []⟩ = pure binds)
    (hkind : ∀ x ∈ binds, scope.names.lookup x.1 = some .local ∨ (scope.names.lookup x.1 = some .cell ∧ ((cellsFrom (s.heap.objs.size + 1) scope.names []).lookup x.1).isSome = true))
    (hnd : ((cellsFrom 0 scope.names []).map (·.1)).Nodup)
    (h : ∀ h₁ tk cells, Fr s.heap s.heap.objs.size h₁ (bindL (envOfC name scope s.heap.objs.size a cd).kindOf binds fun _ => none) → News s.heap s.heap.objs.size h₁ cells →
      CellsAre (bindC (envOfC name scope s.heap.objs.size a cd).kindOf binds fun _ => none) (cellsFrom (s.heap.objs.size + 1) scope.names []) cells →
      wpN (model prog w) (A.deeper (envOfC name scope s.heap.objs.size a cd)) (execs body (envOfC name scope s.heap.objs.size a cd))
        (fun f s' => R (.ok (.ret (match f with | .ret v => v | _ => .none))) s')
        (fun e s' => wpAny (model prog w) (A.deeper (envOfC name scope s.heap.objs.size a cd)) (leaving (envOfC name scope s.heap.objs.size a cd) e)
          (fun _ s'' => R (.error e) s'') (fun e' s'' => R (.error e') s'') s')
        { s with heap := h₁, toks := tk })
    (hco : scope.isCoroutine = false := by rfl) (hgen : scope.isGenerator = false := by rfl) (hk : scope.kind = .function := by rfl) :
    codeN (model prog w) A (.call (.ref a) ⟨args, []⟩) R s := by
  refine codeN_call_function (fd := Calls.docDef name params body scope pm cd doc) hroom ho hdata hco hgen rfl hcd ?_
  rw [hbind]
  refine wpAny_pure (wpAny_newFunctionEnv_cells hk hkind fun env he s' x => ?_)
  subst he
  refine ⟨hlim.keeps x.toInCall.keep, codeN_func ?_⟩
  obtain ⟨h₁, tk, rfl, _⟩ := x.done
  obtain ⟨cells, N, Y⟩ := Cl.news (h₀ := s.heap) (Nat.le_refl _) fun n c hm => ⟨x.cell n c (lookup_of_mem_nodup (cellsFrom_names scope.names 0 (s.heap.objs.size + 1) [] [] rfl ▸ hnd) hm), x.above n c hm⟩
  exact h h₁ tk cells ⟨x.toInCall.ns, x.toInCall.keep, x.toInCall.fresh⟩ N Y
/-- the law's body, as the row has it -/
noncomputable def lawParts : List Stmt × Scope := match PySem.Challenge.pw_zo0033_01.main.body.getLast? with
  | some (.FunctionDef _ _ body _ _ _ scope _ _ _) => (body, scope)
  | _ => ([], default)
noncomputable def lawBody : List Stmt := lawParts.1
noncomputable def lawScope : Scope := lawParts.2
/-- a cell of the law's frame -/
noncomputable abbrev lawCells (L : Addr) : List (Str × Addr) := cellsFrom (L + 1) lawScope.names []
/-- the walk of the law's body, from its frame on -/
noncomputable def LawWalk : Prop := ∀ (w : World) (p : Program) (loose : List Str) (mean : ExcName → Option Value) (mg mb : Str → Option Value) (h₀ : Heap) (L f : Addr) (cd : Value) (m : Str → Option Value) (s : Shared) (o1 o2 o3 o4 : Obj) (l : Addr) (vs : List Value) (ns : List Int) (Q : Flow → Shared → Prop) (E : Value → Shared → Prop),
  Below callerA h₀ [] h₀ → Fr h₀ L s.heap m → m "script" = some (.ref l) → (hd.heap_39 w.params).In h₀ → Top p loose mean mg mb h₀ → CodeHd h₀ 77 73 → CodeHd h₀ 84 80 →
  News h₀ L s.heap [(L + 4, o4), (L + 3, o3), (L + 2, o2), (L + 1, o1), (80, tabObj #[]), (73, tabObj #[])] → @LT.lt Nat _ 80 L →
  o1.data = .cell none → o2.data = .cell none → o3.data = .cell none → o4.data = .cell none → h₀.IsList l vs.toArray → IntsAre vs ns → ns.length ≤ 63 → s.gens = #[] →
  (∀ h' tk gens m' news' p1 p2, AllBare gens → Fr h₀ L h' m' → News h₀ L h' news' → (80, tabObj p1) ∈ news' → (73, tabObj p2) ∈ news' → Q (.ret (.bool true)) { s with heap := h', toks := tk, gens := gens }) →
  wpN (model PySem.Challenge.rw_zo0033_01.row.prog w) (callerA.deeper (envX "law" lawScope L f cd (lawCells L))) (execs lawBody (envX "law" lawScope L f cd (lawCells L))) Q E s
theorem law_of (walk : LawWalk) : PySem.Challenge.rw_zo0033_01.Holds := by
  refine hd ?_
  k_fill
  intro w s₀ s₁ mg mb G Y fa o pm cd doc dV kV ho hd hcd hD hmg hg args vals as hpre hlay hrd hwl hlo
  have KX := km_in_of Y
  km_tabs Y
  have X := (Ground.X G).1
  have V := (Ground.X G).2
  refine Ground.open G ?_
  intro T B D TE TW
  try (refine guard_noD D (by decide +kernel) ?_; clear D)
  km_lay T hmg ho hd cd
  clear hmg
  wrow_args hpre hlay hrd hwl hlo
  refine enter_callN ?_
  w_top on
  refine kn_postN hT9 ?_
  have he := Dflts.none hD rfl
  subst he
  have he := Dflts.noKw hD
  subst he
  refine callN_cells (by decide) ho (fd_plain hd) (Top.nolimit T) hcd rfl (kinds_of (by kinds_ok)) (by decide) fun h₁ tk₁ cells F N0 X0 => ?_
  cells_open X0
  clear hd hD
  kn_ghosts F T
  k_drop
  (rename News _ _ _ _ => n9)
  (rename Fr _ _ _ _ => f9)
  (rename Below _ _ _ _ => b9)
  (rename Frag.In _ _ => x9)
  (rename Top _ _ _ _ _ _ => t9)
  (rename Heap.IsList _ _ _ => l9)
  (rename IntsAre _ _ => i9)
  have c8 : CodeHd (ghostOf s₁.heap [(84, 80), (77, 73)]) 77 73 := by assumption
  have c9 : CodeHd (ghostOf s₁.heap [(84, 80), (77, 73)]) 84 80 := by assumption
  (rename _ ∧ _ => lt9)
  refine walk w _ _ _ _ _ _ _ fa _ _ { s₁ with heap := h₁, toks := tk₁ } _ _ _ _ _ _ _ _ _ b9 f9 rfl x9 t9 c8 c9 n9 lt9.1 ?_ ?_ ?_ ?_ l9 i9 ?_ ?_ ?_
  all_goals first | assumption | skip
  · omega
  intro h' tk gens m' news' p1 p2 hb F' N' hm1 hm2
  refine ⟨⟨.bool true, .bool true, [], rfl, fun _ => rfl, .bool true, ?_, unshared_nil⟩, F'.keep, rfl, hb, ⟨⟨_, (N' _ hm1).1⟩, ⟨_, (N' _ hm2).1⟩, trivial⟩⟩
  exact postW_of (by wrow_shape) (by wtm_val) (by first | rfl | str_meet)
end Mine
end
theorem Mine.reset_LB : True := by
  w_top off
  k_with_none
  (k_with "OM" => with_reducible first | assumption | decide | (refine Nat.ne_of_lt ?_; k_extra "OP") | (refine o_n ?_; k_extra "OP") | k_extra "OP" | exact o_1 | exact o_2 | exact o_3 | exact o_4 | exact o_5 | exact o_6 | exact o_7 | exact o_8 | exact o_9 | exact o_10 | exact o_11 | exact o_12 | exact o_13 | exact o_14 | exact o_15 | exact o_16 | exact o_17 | exact o_18 | exact o_s1 | exact o_s2 | exact o_s3 | exact o_s4 | exact o_s5 | exact o_s6 | exact o_s7 | exact o_s8 | exact o_s9 | exact o_s10 | exact o_s11 | exact o_s12 | exact o_s13 | exact o_s14 | exact o_s15 | exact o_s16 | exact o_r 1 | exact o_r 2 | exact o_r 3 | exact o_r 4 | exact o_r 5 | exact o_r 6 | exact o_r 7 | exact o_r 8 | exact o_r 9 | exact o_r 10 | exact o_r 11 | exact o_r 12 | exact o_r 13 | exact o_r 14 | exact o_r 15 | exact o_r 16 | exact o_u1 | exact o_u2 | exact o_u3 | exact o_e1 | exact o_e2 | exact o_e3 | exact o_e4 | exact o_m1 | exact o_c1 | exact o_c2 | exact o_c3 | exact o_c4 | exact o_c5 | exact o_n1 | exact o_n2 | exact o_n3 | exact o_n4 | exact o_d1 | fail)
  (k_with "OP" => first | k_extra "OB" | exact o_p1 | exact o_p2 | exact o_p3 | exact o_p4 | (refine o_l 1 ?_; k_extra "OB") | (refine o_l 2 ?_; k_extra "OB") | (refine o_l 3 ?_; k_extra "OB") | (refine o_l 4 ?_; k_extra "OB") | fail)
  (k_with "OB" => first | assumption | (refine o_pk ?_; k_extra "OK") | fail)
  (k_with "OK" => first | exact And.left | exact And.right | (refine o_sk ?_; k_extra "OK") | fail)
  first | walk1 | trivial
section
open PySem PySem.W PyProof.Rows PySem.Calls
set_option Elab.async false
set_option maxRecDepth 100000
set_option maxHeartbeats 8000000
namespace Mine
section
variable {M : Model} {A : Around} {E : Value → Shared → Prop} {env : Env} {Q : Flow → Shared → Prop}
theorem wp_execs_append {Γ : Ctx} {b : List Stmt} {Q : Flow → Pos → Shared → Prop} {E : Value → Pos → Shared → Prop} : ∀ (a : List Stmt) (p : Pos) (s : Shared),
    Sem.wp M Γ (execs a env) (fun f p' s' => match f with | .next => Sem.wp M Γ (execs b env) Q E p' s' | f => Q f p' s') E p s → Sem.wp M Γ (execs (a ++ b) env) Q E p s
  | [], p, s, h => h
  | st :: r, p, s, h => by
    rw [List.cons_append, execs_cons, Sem.wp_bind']
    rw [execs_cons, Sem.wp_bind'] at h
    refine Sem.wp_mono M Γ _ (fun f p' s' h' => ?_) (fun _ _ _ h' => h') _ _ h
    cases f with
    | next => exact wp_execs_append r p' s' h'
    | _ => exact h'
theorem wpAny_append {a b : List Stmt} {s : Shared} (h : wpAny M A (execs a env) (fun f s' => match f with | .next => wpAny M A (execs b env) Q E s' | f => Q f s') E s) : wpAny M A (execs (a ++ b) env) Q E s := fun Γ p hΓ => by
  refine wp_execs_append _ _ _ (Sem.wp_mono M Γ _ (fun f p' s' h' => ?_) (fun _ _ _ h' => h') _ _ (h Γ p hΓ))
  cases f with
  | next => exact h' Γ p' hΓ
  | _ => exact h'
theorem wpN_append {a b : List Stmt} {s : Shared} (h : wpN M A (execs a env) (fun f s' => match f with | .next => wpN M A (execs b env) Q E s' | f => Q f s') E s) : wpN M A (execs (a ++ b) env) Q E s := fun Γ p hΓ hn => by
  refine wp_execs_append _ _ _ (Sem.wp_mono M Γ _ (fun f p' s' h' => ?_) (fun _ _ _ h' => h') _ _ (h Γ p hΓ hn))
  cases f with
  | next => exact h' Γ p' hΓ hn
  | _ => exact h'
end
/-- the law's statements from the i-th to ahead of the j-th -/
noncomputable def cut (i j : Nat) : List Stmt := (lawBody.drop i).take (j - i)
theorem cut_drop {i j : Nat} (h : i ≤ j) : lawBody.drop i = cut i j ++ lawBody.drop j := by
  unfold cut
  have e := (List.take_append_drop (j - i) (lawBody.drop i)).symm
  rw [List.drop_drop, show i + (j - i) = j by omega] at e
  exact e
/-- the frame of the law, as the walk meets it -/
noncomputable abbrev lawEnv (L f : Addr) (cd : Value) : Env := envX "law" lawScope L f cd (lawCells L)
noncomputable abbrev lawTop (L f : Addr) (cd : Value) : Around := callerA.deeper (lawEnv L f cd)
example : lawBody.length = 28 := by decide +kernel
theorem lawCells_is (L : Addr) : lawCells L = [(("shared" : Str), L + 4), (("marks" : Str), L + 3), (("b" : Str), L + 2), (("a" : Str), L + 1)] := by with_unfolding_all rfl
theorem loadX_L {M : Model} {A : Around} {E : Value → Shared → Prop} {s : Shared} {h₀ : Heap} {L a : Addr} {m : Str → Option Value} {cn : Str} {cs : Scope} {ccd : Value} {cl : List (Str × Addr)} {x : Str} {v : Value} {Q : Value → Shared → Prop}
    (F : Fr h₀ L s.heap m) (hv : m x = some v) (h : Q v s) (hk : cs.kind = .function := by rfl) (hx : (envX cn cs L a ccd cl).kindOf x = some .local := by rfl) :
    wpAny M A (loadName (envX cn cs L a ccd cl) x) Q E s := wpAny_loadName_local hk hx F.ns hv h
/-- a statement of the law -/
noncomputable def st (i : Nat) : Stmt := lawBody.getD i (.Pass default)
end Mine
end
theorem Mine.reset_G1 : True := by
  w_top off
  k_with_none
  (k_with "OM" => with_reducible first | assumption | decide | (refine Nat.ne_of_lt ?_; k_extra "OP") | (refine o_n ?_; k_extra "OP") | k_extra "OP" | exact o_1 | exact o_2 | exact o_3 | exact o_4 | exact o_5 | exact o_6 | exact o_7 | exact o_8 | exact o_9 | exact o_10 | exact o_11 | exact o_12 | exact o_13 | exact o_14 | exact o_15 | exact o_16 | exact o_17 | exact o_18 | exact o_s1 | exact o_s2 | exact o_s3 | exact o_s4 | exact o_s5 | exact o_s6 | exact o_s7 | exact o_s8 | exact o_s9 | exact o_s10 | exact o_s11 | exact o_s12 | exact o_s13 | exact o_s14 | exact o_s15 | exact o_s16 | exact o_r 1 | exact o_r 2 | exact o_r 3 | exact o_r 4 | exact o_r 5 | exact o_r 6 | exact o_r 7 | exact o_r 8 | exact o_r 9 | exact o_r 10 | exact o_r 11 | exact o_r 12 | exact o_r 13 | exact o_r 14 | exact o_r 15 | exact o_r 16 | exact o_u1 | exact o_u2 | exact o_u3 | exact o_e1 | exact o_e2 | exact o_e3 | exact o_e4 | exact o_m1 | exact o_c1 | exact o_c2 | exact o_c3 | exact o_c4 | exact o_c5 | exact o_n1 | exact o_n2 | exact o_n3 | exact o_n4 | exact o_d1 | fail)
  (k_with "OP" => first | k_extra "OB" | exact o_p1 | exact o_p2 | exact o_p3 | exact o_p4 | (refine o_l 1 ?_; k_extra "OB") | (refine o_l 2 ?_; k_extra "OB") | (refine o_l 3 ?_; k_extra "OB") | (refine o_l 4 ?_; k_extra "OB") | fail)
  (k_with "OB" => first | assumption | (refine o_pk ?_; k_extra "OK") | fail)
  (k_with "OK" => first | exact And.left | exact And.right | (refine o_sk ?_; k_extra "OK") | fail)
  first | walk1 | trivial
section
open PySem PySem.W PyProof.Rows PySem.Calls
set_option Elab.async false
set_option maxRecDepth 100000
set_option maxHeartbeats 4000000
namespace Mine
section
variable {prog : Program} {w : World} {A : Around} {R : GenEnd} {Y : Protocol} {n : Nat} {s₀ : Shared} {c : Code} {fs : List Frame} {s : Shared} {env : Env}
  {K : Flow → Sem Fin} {H : Value → Sem Fin} {gd : Bool → Bool} {lv : List Value → List Value}
/-- a piece that raises nothing -/
theorem wpAny_noE {α : Type} {M : Model} {A : Around} {t : Sem α} {Q : α → Shared → Prop} {E : Value → Shared → Prop} {s : Shared} (h : wpAny M A t Q (fun _ _ => False) s) : wpAny M A t Q E s :=
  wpAny_mono h (fun _ _ x => x) fun _ _ x => x.elim
theorem seg_stmt {st : Stmt} {rest : List Stmt}
    (h : wpAny (model prog w) (A.over c fs) (exec st env) (fun f s' => f = .next ∧ Seg (model prog w) A R Y n s₀ c ((execs rest env).wrap K H gd lv) fs s') (fun _ _ => False) s) :
    Seg (model prog w) A R Y n s₀ c ((execs (st :: rest) env).wrap K H gd lv) fs s := by
  refine seg_execs_cons (seg_wrap (wpAny_noE (wpAny_mono h (fun f s' hf => ?_) fun _ _ x => x)))
  obtain ⟨rfl, hf⟩ := hf
  exact hf
theorem seg_If {test : Expr} {body orelse rest : List Stmt} {pos : Pos}
    (h : wpAny (model prog w) (A.over c fs) (isTrue test env (eval test env)) (fun b s' => if b = true then
        Seg (model prog w) A R Y n s₀ c ((execs body env).wrap (fun f => match f with | .next => (execs rest env).wrap K H gd lv | f => K f) H gd lv) fs s'
      else Seg (model prog w) A R Y n s₀ c ((execs orelse env).wrap (fun f => match f with | .next => (execs rest env).wrap K H gd lv | f => K f) H gd lv) fs s') (fun _ _ => False) s) :
    Seg (model prog w) A R Y n s₀ c ((execs (.If test body orelse pos :: rest) env).wrap K H gd lv) fs s := by
  refine seg_execs_cons ?_
  rw [exec_If]
  show Seg _ A R Y n s₀ c (.at pos fun _ => Sem.wrap _ H gd lv (isTrue test env (eval test env) >>= fun b => if b = true then execs body env else execs orelse env)) fs s
  refine seg_at ?_
  rw [Sem.bind_eq_wrap', Sem.wrap_wrap]
  refine seg_wrap (wpAny_noE (wpAny_mono h (fun b s' hb => ?_) fun _ _ x => x))
  cases b with
  | true => exact hb
  | false => exact hb
/-- the frame that a loop's code returns to -/
noncomputable def loopFrame (K : Flow → Sem Fin) (H : Value → Sem Fin) (gd : Bool → Bool) (lv : List Value → List Value) (env : Env) (c : Code) (p : Pos) : Frame :=
  .ret (fun r => ((match r with | .ok f => (.pure f : Sem Flow) | .error e => .raise e).onRaise fun (x : Value) => do
        if (← field x 1) == Value.none then unsupported "frame.own-activation:exception-without-traceback"
        setFlight x env.frame).wrap K H gd lv) none (gd false) (lv []) c p []
noncomputable def stmtK (K : Flow → Sem Fin) (H : Value → Sem Fin) (gd : Bool → Bool) (lv : List Value → List Value) (rest : List Stmt) (env : Env) (f : Flow) : Sem Fin := match f with | .next => (execs rest env).wrap K H gd lv | f => K f
theorem seg_For {target iter : Expr} {body rest : List Stmt} {pos : Pos}
    (h : wpAny (model prog w) (A.over c fs) (eval iter env) (fun x s₁ => wpAny (model prog w) (A.over c fs) (pyIter x) (fun it s₂ =>
      ∀ p, Seg (model prog w) A R Y n s₀ (.forLoop target it body [] env) ((model prog w).den (.forLoop target it body [] env)) (loopFrame (stmtK K H gd lv rest env) H gd lv env c p :: fs) s₂) (fun _ _ => False) s₁) (fun _ _ => False) s)
    (hs : ∀ x, foldedSetIterable iter env x = pure x := by intro _; rfl) :
    Seg (model prog w) A R Y n s₀ c ((execs (.For target iter body [] pos :: rest) env).wrap K H gd lv) fs s := by
  refine seg_execs_cons ?_
  rw [exec_For]
  refine seg_bind_wrap (wpAny_standAt ?_)
  refine seg_bind_wrap (wpAny_noE (wpAny_mono h (fun x s₁ h₁ => ?_) fun _ _ e => e))
  refine seg_bind_wrap (wpAny_of_eq (hs x) ?_)
  refine seg_bind_wrap (wpAny_standAt ?_)
  refine seg_bind_wrap (wpAny_holding (wpAny_noE (wpAny_mono h₁ (fun it s₂ h₂ => ?_) fun _ _ e => e)))
  exact seg_call h₂
theorem seg_loop_ret {c' : Code} {p : Pos} {f : Flow} (h : Seg (model prog w) A R Y n s₀ c (K f) fs s) : Seg (model prog w) A R Y n s₀ c' (.pure (.done f)) (loopFrame K H gd lv env c p :: fs) s :=
  seg_leaf (.ok f) h
noncomputable def turnK (target : Expr) (it : Value) (body : List Stmt) (env : Env) (f : Flow) : Sem Fin := match f with
  | .next | .cont => .pure (.again (.forLoop target it body [] env))
  | .brk => .pure (.done .next)
  | .ret v => .pure (.done (.ret v))
noncomputable def turnH (env : Env) (e : Value) : Sem Fin := (do noteFrame e env; theTreesLotGoes e : Sem Unit).wrap (fun _ => .raise e) .raise id id
theorem seg_forLoop {target : Expr} {it : Value} {body : List Stmt}
    (h : wpAny (model prog w) (A.over (.forLoop target it body [] env) fs) (pyNext it) (fun r s' => match r with
      | none => Seg (model prog w) A R Y n s₀ (.forLoop target it body [] env) (.pure (.again (.block [] env))) fs s'
      | some v => wpAny (model prog w) (A.over (.forLoop target it body [] env) fs) (letOwnedTupleGo target it v) (fun _ s₁ => wpAny (model prog w) (A.over (.forLoop target it body [] env) fs) (assign target env v)
          (fun _ s₂ => Seg (model prog w) A R Y n s₀ (.forLoop target it body [] env) ((execs body env).wrap (turnK target it body env) (turnH env) id id) fs s₂) (fun _ _ => False) s₁) (fun _ _ => False) s') (fun _ _ => False) s) :
    Seg (model prog w) A R Y n s₀ (.forLoop target it body [] env) ((model prog w).den (.forLoop target it body [] env)) fs s := by
  show Seg _ A R Y n s₀ _ ((forTurn target it body [] env).onRaise (fun x => do noteFrame x env; theTreesLotGoes x)) fs s
  rw [Sem.onRaise_eq_wrap]
  unfold forTurn
  refine seg_bind_wrap (wpAny_standAt ?_)
  refine seg_bind_wrap (wpAny_onRaise (wpAny_mono h (fun r s' hr => ?_) fun _ _ e => e.elim))
  cases r with
  | none => exact hr
  | some v =>
    refine seg_bind_wrap (wpAny_noE (wpAny_mono hr (fun _ s₁ h₁ => ?_) fun _ _ e => e))
    refine seg_bind_wrap (wpAny_noE (wpAny_mono h₁ (fun _ s₂ h₂ => ?_) fun _ _ e => e))
    rw [Sem.bind_eq_wrap', Sem.wrap_wrap]
    rw [Sem.wrap_congr (execs body env) _ _ (K' := turnK target it body env) (H' := turnH env) (fun f => by cases f <;> rfl)
      (fun e => by first | exact Sem.bind_eq_wrap _ _ | (show (do noteFrame e env; theTreesLotGoes e : Sem Unit).bind (fun _ => .raise e) = _; rw [Sem.bind_eq_wrap]; rfl))]
    exact h₂
end
end Mine
end
theorem Mine.reset_B9 : True := by
  w_top off
  k_with_none
  (k_with "OM" => with_reducible first | assumption | decide | (refine Nat.ne_of_lt ?_; k_extra "OP") | (refine o_n ?_; k_extra "OP") | k_extra "OP" | exact o_1 | exact o_2 | exact o_3 | exact o_4 | exact o_5 | exact o_6 | exact o_7 | exact o_8 | exact o_9 | exact o_10 | exact o_11 | exact o_12 | exact o_13 | exact o_14 | exact o_15 | exact o_16 | exact o_17 | exact o_18 | exact o_s1 | exact o_s2 | exact o_s3 | exact o_s4 | exact o_s5 | exact o_s6 | exact o_s7 | exact o_s8 | exact o_s9 | exact o_s10 | exact o_s11 | exact o_s12 | exact o_s13 | exact o_s14 | exact o_s15 | exact o_s16 | exact o_r 1 | exact o_r 2 | exact o_r 3 | exact o_r 4 | exact o_r 5 | exact o_r 6 | exact o_r 7 | exact o_r 8 | exact o_r 9 | exact o_r 10 | exact o_r 11 | exact o_r 12 | exact o_r 13 | exact o_r 14 | exact o_r 15 | exact o_r 16 | exact o_u1 | exact o_u2 | exact o_u3 | exact o_e1 | exact o_e2 | exact o_e3 | exact o_e4 | exact o_m1 | exact o_c1 | exact o_c2 | exact o_c3 | exact o_c4 | exact o_c5 | exact o_n1 | exact o_n2 | exact o_n3 | exact o_n4 | exact o_d1 | fail)
  (k_with "OP" => first | k_extra "OB" | exact o_p1 | exact o_p2 | exact o_p3 | exact o_p4 | (refine o_l 1 ?_; k_extra "OB") | (refine o_l 2 ?_; k_extra "OB") | (refine o_l 3 ?_; k_extra "OB") | (refine o_l 4 ?_; k_extra "OB") | fail)
  (k_with "OB" => first | assumption | (refine o_pk ?_; k_extra "OK") | fail)
  (k_with "OK" => first | exact And.left | exact And.right | (refine o_sk ?_; k_extra "OK") | fail)
  first | walk1 | trivial
section
open PySem PySem.W PyProof.Rows PySem.Calls
set_option Elab.async false
set_option maxRecDepth 100000
set_option maxHeartbeats 8000000
namespace Mine
noncomputable def baObj (b : Array UInt8) (n : Nat := 0) : Obj := { cls := .type "bytearray", data := .bytearray b n }
namespace BA
theorem slot_set : Slot "bytearray" "__setitem__" "bytearray.__setitem__" :=
  .of (owner := "bytearray") (n := "__setitem__") (by rw [typeLookup_type, builtinLookup_eq_fast]; kernel_rfl) (by decide +kernel) (by decide +kernel) (by decide +kernel)
    (by first | exact .inl (by decide +kernel) | exact .inr (by decide +kernel)) (by rw [isSubtype_type]; kernel_rfl)
theorem entry_set : entryFor table "bytearray.__setitem__" = some Builtin.«bytearray.__setitem__» := entryFor_of_tree (by kernel_rfl)
theorem args_set (o a v : Value) : argsOk "bytearray.__setitem__" ⟨[o, a, v], []⟩ := by unfold argsOk; kernel_rfl
end BA
section
variable {prog : Program} {w : World} {A : Around} {E : Value → Shared → Prop} {s : Shared}
theorem ba_set {S : Addr} {b : Array UInt8} {k v : Int} {t u : Tok} {Q : Unit → Shared → Prop} (hS : s.heap.get? S = some (baObj b)) (hb : b.size ≤ 1000) (h0 : 0 ≤ k) (hk : k < b.size) (v0 : 0 ≤ v) (hv : v < 256)
    (h : Q () { s with heap := s.heap.update S (Obj.mapBytearray fun b => b.setIfInBounds k.toNat v.toNat.toUInt8) }) :
    wpAny (model prog w) A (setItem (.ref S) (.int k t) (.int v u)) Q E s := by
  have hT : s.TypeIs (.ref S) "bytearray" := ⟨_, hS, rfl⟩
  have hfit : k < 2 ^ 63 := by omega
  unfold setItem
  try with_reducible refine wpAny_holding ?_
  first | refine wpAny_bind (wpAny_pure ?_) | skip
  refine wpAny_bind (wpAny_sequenceKey hT (by decide) ?_)
  refine wpAny_bind (wpAny_callSpecial?_slot (name := Str.ofString "__setitem__") hT BA.slot_set
    (wpAny_call_entry BA.slot_set hT BA.entry_set ?_ (BA.args_set _ _ _)))
  unfold Builtin.«bytearray.__setitem__»
  dsimp only
  have hix := BA.int_index
  have q1 : (!Builtin.Bytes.fitsIndex k) = false := by unfold Builtin.Bytes.fitsIndex; simp; omega
  have q2 : (decide (v < 0) || decide (v ≥ 256)) = false := by simp; omega
  have q3 : seqIndex? k b.size = some k.toNat := by
    have e : (if k < 0 then k + (b.size : Int) else k) = k := if_neg (by omega)
    simp only [seqIndex?, e, Bool.and_eq_true, decide_eq_true_eq]
    exact if_pos ⟨h0, hk⟩
  repeat (any_goals (first | assumption | wp_step))
  rw [show seqIndex? k b.size = some k.toNat from q3]
  repeat (any_goals (first | assumption | wp_step))
  have q6 : (Obj.mapBytearray (fun b => b.setIfInBounds k.toNat v.toNat.toUInt8) (baObj b)).data.pastItsLine = none := by
    show (Data.bytearray (b.setIfInBounds k.toNat v.toNat.toUInt8) 0).pastItsLine = none
    unfold Data.pastItsLine
    simp [sizeLine_eq]
    omega
  rw [q6]
  repeat (any_goals (first | assumption | wp_step))
  exact ⟨_, rfl, wpAny_pure h⟩
end
namespace BA
theorem no_bytes : typeLookup (.type "bytearray") "__bytes__" = pure none := by rw [typeLookup_type, builtinLookup_eq_fast]; kernel_rfl
theorem noIndex : typeLookup (.type "bytearray") "__index__" = pure none := by rw [typeLookup_type, builtinLookup_eq_fast]; kernel_rfl
theorem buffer : typeLookup (.type "bytearray") "__buffer__" = pure (some (.builtin "bytearray.__buffer__")) := by rw [typeLookup_type, builtinLookup_eq_fast]; kernel_rfl
theorem buffer_end : (!("bytearray.__buffer__".endsWith ("." ++ "__buffer__"))) = false := by decide +kernel
theorem buffer_of : "bytearray.__buffer__".dropRight ("__buffer__".length + 1) = "bytearray" := by decide +kernel
end BA
section
variable {prog : Program} {w : World} {A : Around} {E : Value → Shared → Prop} {s : Shared}
theorem bytes_of_ba {S : Addr} {b : Array UInt8} {Q : Value → Shared → Prop} (hS : s.heap.get? S = some (baObj b)) (hb : b.size ≤ 1000)
    (h : ∀ t tk, Q (.bytes b t) { s with toks := tk }) : wpAny (model prog w) A (call (.type "bytes") [.ref S]) Q E s := by
  have hT : s.TypeIs (.ref S) "bytearray" := ⟨_, hS, rfl⟩
  refine callType_codes (Q₁ := fun obj s₁ => s₁.TypeIs obj "bytes" ∧ Q obj s₁) F.bm_called (F.bm_typeCall _) F.entry_object_init (codeAny_call_builtin F.bm_plain F.bm_entry (wpAny_of_eq (F.bm_newCall _) ?_)) fun obj s₁ h₁ =>
    ⟨h₁.1, F.args_object_init_2 obj _, object_init_meets F.bm_called.init.lookup F.bm_called.made (by decide) prog w A.in1 _ s₁ ⟨h₁.1, rfl, h₁.2⟩⟩
  unfold Builtin.«bytes.__new__»
  dsimp only
  have f1 := F.bm_sub
  have f2 := BA.no_bytes
  have f3 := BA.noIndex
  have f4 := BA.buffer
  have f5 := BA.release
  have f6 := BA.sub
  rw [F.bm_bind]
  repeat (any_goals (first | assumption | wp_step))
  refine wpAny_ite_false (by rw [BA.buffer_end]; rfl) ?_
  rw [BA.buffer_of]
  repeat (any_goals (first | assumption | wp_step))
  refine wpAny_ite_false (by rw [BA.release_end]; rfl) ?_
  rw [BA.release_of]
  repeat (any_goals (first | assumption | wp_step))
  refine wpAny_ite_false (decide_eq_false (by rw [sizeLine_eq]; omega)) ?_
  repeat (any_goals (first | assumption | wp_step))
  exact ⟨PySem.W.typeIs_bytes _ _ _, h _ _⟩
/-- the same over a frame: a byte is written into a bytearray of the ledger -/
theorem ba_set_K {S L : Addr} {h₀ : Heap} {m : Str → Option Value} {news news' : List (Addr × Obj)} {b : Array UInt8} {k v : Int} {t u : Tok} {Q : Unit → Shared → Prop} (F : Fr h₀ L s.heap m) (N : News h₀ L s.heap news)
    (U : Upd S (baObj b) (baObj (b.setIfInBounds k.toNat v.toNat.toUInt8)) news news') (hb : b.size ≤ 1000) (h0 : 0 ≤ k) (hk : k < b.size) (v0 : 0 ≤ v) (hv : v < 256)
    (h : ∀ h', Fr h₀ L h' m → News h₀ L h' news' → Q () { s with heap := h' }) :
    wpAny (model prog w) A (setItem (.ref S) (.int k t) (.int v u)) Q E s := by
  obtain ⟨pre, post, rfl, rfl, a, c⟩ := U.split
  have z := N (S, baObj b) (List.mem_append.mpr (.inr (.head _)))
  refine ba_set z.1 hb h0 hk v0 hv (h _ (F.change (Heap.SameBut.update ..) z.2.1 z.2.2) (news_set N a c (Heap.SameBut.update ..) ?_))
  exact Heap.get?_update_self _ z.1 rfl
/-- a new bytearray over a frame -/
theorem ba_new_K {L : Addr} {h₀ : Heap} {m : Str → Option Value} {news : List (Addr × Obj)} {n : Int} {u : Tok} {Q : Value → Shared → Prop} (hg : A.guards = some []) (F : Fr h₀ L s.heap m) (N : News h₀ L s.heap news) (h0 : 0 < n) (h1 : n ≤ 1000)
    (h : ∀ S h', Fr h₀ L h' m → News h₀ L h' ((S, baObj (Array.replicate n.toNat 0)) :: news) → (∀ p ∈ news, p.1 < S) → L ≤ S → Q (.ref S) { s with heap := h' }) :
    wpN (model prog w) A (call (.type "bytearray") [.int n u]) Q E s := by
  refine callN_bytearray hg h0 h1 fun h' g k => h _ h' (F.keeps k) (fun q hq => ?_) (fun q hq => Heap.lt_size (N q hq).1) (Nat.le_of_lt F.ns.lt)
  rcases List.mem_cons.mp hq with rfl | hq
  · exact ⟨g, Nat.ne_of_gt F.ns.lt, ktu_new F (Nat.le_refl _)⟩
  · exact N.grown k q hq
end
end Mine
end
theorem Mine.reset_Re2 : True := by
  w_top off
  k_with_none
  first | walk1 | trivial
section
set_option Elab.async false
namespace Mine
open PySem PySem.Sre
noncomputable def reCode : Array Nat := #[14, 8, 1, 2, 4294967295, 1, 1, 46, 0, 16, 46, 24, 9, 1, 4294967295, 13, 4, 8, 0, 0, 1, 6, 5, 1]
/-- a state of the machine over reCode -/
noncomputable def ma (text : Array Nat) (s : Nat) (first : Bool) (seen : Seen) (pc pos handed weight : Nat) (fs : List PySem.Sre.Frame) (an : Option Bool) (oc : Option PySem.Sre.Outcome) : M :=
  { code := reCode, text, lim := text.size, start := s, lastStart := text.size, pc, pos, handed, outermost := first, marks := #[], frames := fs, weight, answer := an, seen, outcome := oc }
noncomputable def fr (s : Nat) (first : Bool) : PySem.Sre.Frame := { wait := .nextStart, pc := 9, pos := s, outermost := first }
/-- the machine as it tries the text from s on -/
noncomputable def att (text : Array Nat) (s : Nat) (first : Bool) (seen : Seen) : M := ma text s first seen 9 s s 1 [fr s first] none none
section
variable (text : Array Nat) (s : Nat) (first : Bool) (seen : Seen)
theorem step_lit : M.step (att text s first seen) =
    if s ≥ text.size then ma text s first (seen.add 16) 9 s s 1 [fr s first] (some false) none else
    Bool.rec (ma text s first (seen.add 16) 9 s s 1 [fr s first] (some false) none) (ma text s first (seen.add 16) 11 (s + 1) s 1 [fr s first] none none) (text.getD s 0 == 46) := by kernel_rfl!
theorem step_rep : M.step (ma text s first seen 11 (s + 1) s 1 [fr s first] none none) =
    if ((1 : Nat) : Int) > (text.size : Int) - ((s + 1 : Nat) : Int) then ma text s first (seen.add 24) 11 (s + 1) s 1 [fr s first] (some false) none else
    @Except.rec String (Nat × Seen) (fun _ => M) (fun why => (ma text s first (seen.add 24) 11 (s + 1) s 1 [fr s first] none none).stick why)
      (fun p => if p.1 < 1 then ma text s first p.2 11 (s + 1) s 1 [fr s first] (some false) none else (ma text s first p.2 11 (s + 1 + p.1) s 1 [fr s first] none none).afterRun .giveBack p.1 ((ma text s first p.2 11 (s + 1 + p.1) s 1 [fr s first] none none).keep false))
      (run reCode text 15 (min 4294967295 ((text.size : Int) - ((s + 1 : Nat) : Int)).toNat) (s + 1) 0 ((seen.add 24).add 13)) := by kernel_rfl!
theorem step_next (pc pos handed : Nat) : M.step (ma text s first seen pc pos handed 1 [fr s first] (some false) none) = if s < text.size then att text (s + 1) false seen else ma text s first seen 9 s handed 0 [] (some false) none := by kernel_rfl!
theorem step_last (handed : Nat) (b : Bool) : M.step (ma text s first seen 9 s handed 0 [] (some b) none) = ma text s first seen 9 s handed 0 [] (some b) (some (if b = true then .matched else .failed)) := by kernel_rfl!
/-- a run that gave one sign -/
noncomputable def gb (s : Nat) (first : Bool) : PySem.Sre.Frame := { wait := .giveBack, pc := 11, pos := s + 1 + 1, outermost := first, count := 1, kept := { lastmark := -1, lastindex := -1, whole := false, marks := #[] } }
theorem step_at (pos handed w : Nat) (fs : List PySem.Sre.Frame) : M.step (ma text s first seen 21 pos handed w fs none none) =
    if (pos == text.size || (pos + 1 == text.size && text.getD pos 0 == 10)) = true then ma text s first ((seen.add 6).add 48) 23 pos handed w fs none none else ma text s first ((seen.add 6).add 48) 21 pos handed w fs (some false) none := by kernel_rfl!
theorem step_ok (pos handed w : Nat) (fs : List PySem.Sre.Frame) : M.step (ma text s first seen 23 pos handed w fs none none) = ma text s first (seen.add 1) 23 pos pos w fs (some true) none := by cases first <;> kernel_rfl!
theorem step_back (pos handed : Nat) : M.step (ma text s first seen 23 pos handed 2 [gb s first, fr s first] (some true) none) = ma text s first seen 11 (s + 1 + 1) handed 1 [fr s first] (some true) none := by kernel_rfl!
theorem step_yes (pos handed : Nat) : M.step (ma text s first seen 11 pos handed 1 [fr s first] (some true) none) = ma text s first seen 9 s handed 0 [] (some true) none := by kernel_rfl!
end
theorem acc_is (c : Nat) (seen : Seen) : accepts reCode 15 c seen = if (isDigit c != (0 % 2 == 1)) = true then .ok (true, (seen.add 8).add 55) else .ok (false, ((seen.add 8).add 55).add 0) := by kernel_rfl!
theorem run_of {text : Array Nat} {k p : Nat} {seen : Seen} {r : Except String (Bool × Seen)} (h : accepts reCode 15 (text.getD p 0) seen = r) :
    run reCode text 15 (k + 1) p 0 seen = r.bind fun x => if x.1 = true then run reCode text 15 k (p + 1) 1 x.2 else .ok (0, x.2) := by subst h; rfl
theorem runFor_succ (n : Nat) (m : M) (h : m.outcome = none) : M.runFor (n + 1) m = M.runFor n m.step := by
  rw [M.runFor, h]; rfl
section
variable {text : Array Nat} {s : Nat} (first : Bool) (seen : Seen)
theorem lit_end (hs : text.size ≤ s) : M.step (att text s first seen) = ma text s first (seen.add 16) 9 s s 1 [fr s first] (some false) none := (step_lit ..).trans (if_pos hs)
theorem lit_no (hs : s < text.size) (hc : text.getD s 0 ≠ 46) : M.step (att text s first seen) = ma text s first (seen.add 16) 9 s s 1 [fr s first] (some false) none :=
  (step_lit ..).trans ((if_neg (Nat.not_le.mpr hs)).trans (by rw [beq_eq_false_iff_ne.mpr hc]))
theorem lit_yes (hs : s < text.size) (hc : text.getD s 0 = 46) : M.step (att text s first seen) = ma text s first (seen.add 16) 11 (s + 1) s 1 [fr s first] none none :=
  (step_lit ..).trans ((if_neg (Nat.not_le.mpr hs)).trans (by rw [hc]; rfl))
theorem run_no {p k : Nat} (h : isDigit (text.getD p 0) = false) : run reCode text 15 (k + 1) p 0 seen = .ok (0, ((seen.add 8).add 55).add 0) :=
  (run_of ((acc_is ..).trans (by rw [h]))).trans rfl
theorem run_one {p : Nat} (h : isDigit (text.getD p 0) = true) : run reCode text 15 1 p 0 seen = .ok (1, (seen.add 8).add 55) :=
  (run_of ((acc_is ..).trans (by rw [h]))).trans rfl
theorem room_no (h : text.size ≤ s + 1) : ((1 : Nat) : Int) > (text.size : Int) - ((s + 1 : Nat) : Int) := by omega
theorem room_yes (h : s + 1 < text.size) : ¬ ((1 : Nat) : Int) > (text.size : Int) - ((s + 1 : Nat) : Int) := by omega
theorem room_is (h : s + 1 < text.size) : ((text.size : Int) - ((s + 1 : Nat) : Int)).toNat = text.size - (s + 1) := by rw [← Int.ofNat_sub (Nat.le_of_lt h)]; rfl
/-- no digit behind the dot -/
theorem rep_no (hc : s + 1 < text.size → isDigit (text.getD (s + 1) 0) = false) :
    ∃ seen', M.step (ma text s first seen 11 (s + 1) s 1 [fr s first] none none) = ma text s first seen' 11 (s + 1) s 1 [fr s first] (some false) none := by
  by_cases h1 : s + 1 < text.size
  · obtain ⟨k, hk⟩ : ∃ k, min 4294967295 (text.size - (s + 1)) = k + 1 := ⟨min 4294967295 (text.size - (s + 1)) - 1, (Nat.succ_pred_eq_of_pos (Nat.lt_min.mpr ⟨by decide, Nat.sub_pos_of_lt h1⟩)).symm⟩
    refine ⟨((((seen.add 24).add 13).add 8).add 55).add 0, (step_rep ..).trans ((if_neg (room_yes h1)).trans ?_)⟩
    rw [room_is h1, hk, run_no _ (hc h1)]
    exact if_pos Nat.one_pos
  · exact ⟨_, (step_rep ..).trans (if_pos (room_no (Nat.le_of_not_lt h1)))⟩
/-- one digit behind the dot, and the text ends -/
theorem rep_yes (hc : isDigit (text.getD (s + 1) 0) = true) (hs : s + 1 + 1 = text.size) :
    ∃ seen', M.step (ma text s first seen 11 (s + 1) s 1 [fr s first] none none) = ma text s first seen' 21 (s + 1 + 1) (s + 1 + 1) 2 [gb s first, fr s first] none none := by
  have h1 : s + 1 < text.size := Nat.lt_of_lt_of_eq (Nat.lt_succ_self _) hs
  refine ⟨(((seen.add 24).add 13).add 8).add 55, (step_rep ..).trans ((if_neg (room_yes h1)).trans ?_)⟩
  rw [room_is h1, show text.size - (s + 1) = 1 from hs ▸ Nat.add_sub_cancel_left .., show min 4294967295 1 = 1 from rfl, run_one _ hc]
  exact if_neg (Nat.lt_irrefl 1)
end
theorem runFor_add (a b : Nat) : ∀ m : M, M.runFor (a + b) m = M.runFor b (M.runFor a m) := by
  induction a with
  | zero => intro m; rw [Nat.zero_add]; rfl
  | succ a ih =>
    intro m
    rw [Nat.add_right_comm, M.runFor, M.runFor]
    cases h : m.outcome.isSome with
    | true =>
      rw [if_pos rfl, if_pos rfl]
      cases b with
      | zero => rfl
      | succ b => rw [M.runFor, h, if_pos rfl]
    | false => rw [if_neg Bool.false_ne_true, if_neg Bool.false_ne_true]; exact ih _
theorem runFor_still {m : M} (h : m.outcome.isSome = true) (n : Nat) : M.runFor n m = m := by
  cases n with
  | zero => rfl
  | succ n => rw [M.runFor, h, if_pos rfl]
/-- m comes to the end m' within n steps -/
noncomputable def Ends (n : Nat) (m m' : M) : Prop := M.runFor n m = m' ∧ m'.outcome.isSome = true
theorem Ends.step {n : Nat} {m m₁ m' : M} (h : m.outcome = none) (e : m.step = m₁) (x : Ends n m₁ m') : Ends (n + 1) m m' := ⟨by rw [runFor_succ n m h, e]; exact x.1, x.2⟩
/-- m comes to the outcome o within n steps -/
noncomputable def Comes (n : Nat) (m : M) (o : PySem.Sre.Outcome) : Prop := ∃ k m', k ≤ n ∧ Ends k m m' ∧ m'.outcome = some o
theorem Comes.step {n : Nat} {m m₁ : M} {o : PySem.Sre.Outcome} (h : m.outcome = none) (e : m.step = m₁) (x : Comes n m₁ o) : Comes (n + 1) m o := by
  obtain ⟨k, m', a, b, c⟩ := x
  exact ⟨k + 1, m', Nat.succ_le_succ a, .step h e b, c⟩
theorem Comes.more {n n' : Nat} {m : M} {o : PySem.Sre.Outcome} (x : Comes n m o) (h : n ≤ n') : Comes n' m o := by
  obtain ⟨k, m', a, b, c⟩ := x
  exact ⟨k, m', Nat.le_trans a h, b, c⟩
theorem Comes.end_ {m : M} {o : PySem.Sre.Outcome} (h : m.outcome = some o) : Comes 0 m o := ⟨0, m, Nat.le_refl _, ⟨rfl, by rw [h]; rfl⟩, h⟩
theorem last_end {text : Array Nat} {s : Nat} (first : Bool) (seen : Seen) (hs : text.size ≤ s) : Comes 3 (att text s first seen) .failed :=
  .step rfl (lit_end first seen hs) (.step rfl ((step_next ..).trans (if_neg (Nat.not_lt.mpr hs))) (.step rfl (step_last ..) (.end_ rfl)))
/-- a text with no dot ahead of a digit is not found -/
theorem no_match (text : Array Nat) (hno : ∀ s, s < text.size → text.getD s 0 = 46 → s + 1 < text.size → isDigit (text.getD (s + 1) 0) = false) :
    ∀ (k s : Nat) (first : Bool) (seen : Seen), s + k = text.size → Comes (3 * k + 3) (att text s first seen) .failed := by
  intro k
  induction k with
  | zero => intro s first seen hk; exact last_end first seen (Nat.le_of_eq hk.symm)
  | succ k ih =>
    intro s first seen hk
    have hs : s < text.size := hk ▸ Nat.lt_add_of_pos_right (Nat.succ_pos k)
    have hk' : s + 1 + k = text.size := (Nat.succ_add_eq_add_succ s k).trans hk
    by_cases hc : text.getD s 0 = 46
    · obtain ⟨s2, e2⟩ := rep_no (text := text) first (seen.add 16) (hno s hs hc)
      exact .step rfl (lit_yes first seen hs hc) (.step rfl e2 (.step rfl ((step_next ..).trans (if_pos hs)) (ih (s + 1) false s2 hk')))
    · exact Comes.more (.step rfl (lit_no first seen hs hc) (.step rfl ((step_next ..).trans (if_pos hs)) (ih (s + 1) false _ hk'))) (Nat.le_succ _)
theorem match_end {text : Array Nat} {s : Nat} (first : Bool) (seen : Seen) (hs : s + 1 + 1 = text.size) (hc : text.getD s 0 = 46) (hd : isDigit (text.getD (s + 1) 0) = true) : Comes 7 (att text s first seen) .matched := by
  obtain ⟨s2, e2⟩ := rep_yes (text := text) first (seen.add 16) hd hs
  exact .step rfl (lit_yes first seen (Nat.lt_of_lt_of_eq (Nat.lt_add_of_pos_right (k := 2) (by decide)) hs) hc) (.step rfl e2 (.step rfl ((step_at ..).trans (if_pos (by rw [hs, beq_self_eq_true]; rfl)))
    (.step rfl (step_ok ..) (.step rfl (step_back ..) (.step rfl (step_yes ..) (.step rfl (step_last ..) (.end_ rfl)))))))
/-- a text whose one dot ahead of a digit stands last but one is found -/
theorem yes_match (text : Array Nat) (e : Nat) (he : e + 1 + 1 = text.size) (hc : text.getD e 0 = 46) (hd : isDigit (text.getD (e + 1) 0) = true) (hno : ∀ s, s < e → text.getD s 0 = 46 → isDigit (text.getD (s + 1) 0) = false) :
    ∀ (k s : Nat) (first : Bool) (seen : Seen), s + k = e → Comes (3 * k + 7) (att text s first seen) .matched := by
  intro k
  induction k with
  | zero =>
    intro s first seen hk
    cases (show s = e from hk)
    exact match_end first seen he hc hd
  | succ k ih =>
    intro s first seen hk
    have hs' : s < e := hk ▸ Nat.lt_add_of_pos_right (Nat.succ_pos k)
    have hs : s < text.size := Nat.lt_trans hs' (Nat.lt_of_lt_of_eq (Nat.lt_add_of_pos_right (k := 2) (by decide)) he)
    have hk' : s + 1 + k = e := (Nat.succ_add_eq_add_succ s k).trans hk
    by_cases h46 : text.getD s 0 = 46
    · obtain ⟨s2, e2⟩ := rep_no (text := text) first (seen.add 16) (fun _ => hno s hs' h46)
      exact .step rfl (lit_yes first seen hs h46) (.step rfl e2 (.step rfl ((step_next ..).trans (if_pos hs)) (ih (s + 1) false s2 hk')))
    · exact Comes.more (.step rfl (lit_no first seen hs h46) (.step rfl ((step_next ..).trans (if_pos hs)) (ih (s + 1) false _ hk'))) (Nat.le_succ _)
noncomputable def m0 (text : Array Nat) : M :=
  { code := reCode, text, lim := text.size, start := 0, pc := 9, pos := 0, handed := 0, marks := #[], mustAdvance := false, seen := ({} : Seen).add 14 }
theorem search_eq (text : Array Nat) : forSearch reCode text 0 0 text.size false =
    if (decide (0 > text.size) || decide (text.size - 0 < 2)) = true then (m0 text).say false else M.attemptFrom { m0 text with lastStart := text.size } 0 true := rfl
theorem search_from (text : Array Nat) : M.attemptFrom { m0 text with lastStart := text.size } 0 true = att text 0 true (({} : Seen).add 14) := by kernel_rfl!
/-- what the search tells: `found` -/
noncomputable def Searches (text : Array Nat) (found : Bool) : Prop := ∃ n m', n ≤ 3 * text.size + 20 ∧ Ends n (forSearch reCode text 0 0 text.size false) m' ∧ m'.outcome = some (if found then .matched else .failed)
theorem search_test {text : Array Nat} (h : ¬ text.size < 2) : ¬ (decide (0 > text.size) || decide (text.size - 0 < 2)) = true := by
  rw [decide_eq_false (Nat.not_lt_zero _), Bool.false_or, decide_eq_true_iff]; exact h
/-- the search begins so -/
theorem search_begins {text : Array Nat} (h : ¬ text.size < 2) : forSearch reCode text 0 0 text.size false = att text 0 true (({} : Seen).add 14) :=
  (search_eq text).trans ((if_neg (search_test h)).trans (search_from text))
theorem search_short {text : Array Nat} (h : text.size < 2) : Comes 1 (forSearch reCode text 0 0 text.size false) .failed := by
  rw [search_eq, if_pos (by rw [decide_eq_false (Nat.not_lt_zero _), Bool.false_or, decide_eq_true_iff]; exact h)]
  exact .step rfl rfl (.end_ rfl)
theorem getD_is {text : Array Nat} {i : Nat} : text[i]?.getD 0 = text.getD i 0 := (Array.getD_eq_getD_getElem? ..).symm
theorem searches_no (text : Array Nat) (hno : ∀ s, s < text.size → text[s]?.getD 0 = 46 → s + 1 < text.size → isDigit (text[s + 1]?.getD 0) = false) : Searches text false := by
  by_cases h : text.size < 2
  · exact (search_short h).more (Nat.le_trans (by decide) (Nat.le_add_left 20 _))
  · rw [Searches, search_begins h]
    exact (no_match text (fun s a b c => getD_is ▸ hno s a (getD_is.trans b) c) text.size 0 true _ (Nat.zero_add _)).more (Nat.add_le_add_left (by decide) _)
theorem searches_yes (text : Array Nat) (e : Nat) (he : e + 2 = text.size) (hc : text[e]?.getD 0 = 46) (hd : isDigit (text[e + 1]?.getD 0) = true) (hno : ∀ s, s < e → text[s]?.getD 0 = 46 → isDigit (text[s + 1]?.getD 0) = false) : Searches text true := by
  rw [Searches, search_begins (Nat.not_lt.mpr (he ▸ Nat.le_add_left 2 e))]
  exact (yes_match text e he (getD_is.symm.trans hc) (getD_is (i := e + 1) ▸ hd) (fun s a b => getD_is ▸ hno s a (getD_is.trans b)) e 0 true _ (Nat.zero_add _)).more
    (Nat.add_le_add (Nat.mul_le_mul_left 3 (he ▸ Nat.le_add_right e 2)) (by decide))
end Mine
end
theorem Mine.reset_Re1 : True := by
  w_top off
  k_with_none
  (k_with "OM" => with_reducible first | assumption | decide | (refine Nat.ne_of_lt ?_; k_extra "OP") | (refine o_n ?_; k_extra "OP") | k_extra "OP" | exact o_1 | exact o_2 | exact o_3 | exact o_4 | exact o_5 | exact o_6 | exact o_7 | exact o_8 | exact o_9 | exact o_10 | exact o_11 | exact o_12 | exact o_13 | exact o_14 | exact o_15 | exact o_16 | exact o_17 | exact o_18 | exact o_s1 | exact o_s2 | exact o_s3 | exact o_s4 | exact o_s5 | exact o_s6 | exact o_s7 | exact o_s8 | exact o_s9 | exact o_s10 | exact o_s11 | exact o_s12 | exact o_s13 | exact o_s14 | exact o_s15 | exact o_s16 | exact o_r 1 | exact o_r 2 | exact o_r 3 | exact o_r 4 | exact o_r 5 | exact o_r 6 | exact o_r 7 | exact o_r 8 | exact o_r 9 | exact o_r 10 | exact o_r 11 | exact o_r 12 | exact o_r 13 | exact o_r 14 | exact o_r 15 | exact o_r 16 | exact o_u1 | exact o_u2 | exact o_u3 | exact o_e1 | exact o_e2 | exact o_e3 | exact o_e4 | exact o_m1 | exact o_c1 | exact o_c2 | exact o_c3 | exact o_c4 | exact o_c5 | exact o_n1 | exact o_n2 | exact o_n3 | exact o_n4 | exact o_d1 | fail)
  (k_with "OP" => first | k_extra "OB" | exact o_p1 | exact o_p2 | exact o_p3 | exact o_p4 | (refine o_l 1 ?_; k_extra "OB") | (refine o_l 2 ?_; k_extra "OB") | (refine o_l 3 ?_; k_extra "OB") | (refine o_l 4 ?_; k_extra "OB") | fail)
  (k_with "OB" => first | assumption | (refine o_pk ?_; k_extra "OK") | fail)
  (k_with "OK" => first | exact And.left | exact And.right | (refine o_sk ?_; k_extra "OK") | fail)
  first | walk1 | trivial
section
open PySem PySem.W PyProof.Rows PySem.Calls
set_option Elab.async false
set_option maxRecDepth 100000
set_option maxHeartbeats 8000000
namespace Mine
theorem plainAttrs_re : PlainAttrs "re.Pattern" :=
  ⟨⟨"object.__getattribute__", by rw [typeLookup_type, builtinLookup_eq_fast]; kernel_rfl, by decide +kernel⟩, by rw [typeLookup_type, builtinLookup_eq_fast]; kernel_rfl⟩
theorem slot_search : Slot "re.Pattern" "search" "re.Pattern.search" :=
  .of (owner := "re.Pattern") (n := "search") (by rw [typeLookup_type, builtinLookup_eq_fast]; kernel_rfl) (by decide +kernel) (by decide +kernel) (by decide +kernel)
    (by first | exact .inl (by decide +kernel) | exact .inr (by decide +kernel)) (by rw [isSubtype_type]; kernel_rfl)
theorem type_search : typeOf (.builtin "re.Pattern.search") = pure (.type "method_descriptor") := by show builtinType _ = _; rw [builtinType_eq_fast]; kernel_rfl
theorem entry_search : entryFor table "re.Pattern.search" = some Builtin.«re.Pattern.search» := entryFor_of_tree (by kernel_rfl)
theorem args_search (a b : Value) : argsOk "re.Pattern.search" ⟨[a, b], []⟩ := by
  unfold argsOk; kernel_rfl
open PySem.Builtin PySem.Builtin.Re in
theorem call_search {prog : Program} {w : World} {A : Around} {E : Value → Shared → Prop} {s : Shared} {x : Str} {t : Tok} {Q : Value → Shared → Prop} {oP oC : Obj} {v0 v1 v3 v4 : Value} {items : Array Value} {n : Nat}
    (hP : s.heap.get? 36 = some oP) (hPc : oP.cls = .type "re.Pattern") (hPd : oP.data = .fields #[v0, v1, .int 0 0, v3, v4, .ref 35, .int 0 0])
    (hx : x.cps.size ≤ 2 ^ 20) (hC : s.heap.get? 35 = some oC) (hCc : oC.cls = .type "tuple") (hCd : oC.data = .seq items n)
    (h : wpAny (model prog w) A.in1 (reAnswer { pattern := .ref 36, string := .str x t, code := (items.map reRawOf).map (·.toNat), text := x.cps, kind := 0, groups := 0, pos := 0, lim := x.cps.size } (Sre.forSearch ((items.map reRawOf).map (·.toNat)) x.cps 0 0 x.cps.size false)) (fun f s' => match f with | .done (.ret v) => Q v s' | _ => False) (fun e s' => E e s') s) :
    wpAny (model prog w) A (call (.builtin "re.Pattern.search") [.ref 36, .str x t]) Q E s := by
  have hT : s.TypeIs (.ref 36) "re.Pattern" := ⟨_, hP, hPc⟩
  refine wpAny_call (codeAny_call_builtin slot_search.plain entry_search (slot_search.check _ _ _ _ _ _ _ _ hT (args_search _ _) ?_))
  unfold Builtin.«re.Pattern.search»
  refine wpAny_bind ?_
  unfold reTarget
  dsimp only
  have e : reNamed "re.Pattern.search" "search" ["string", "pos", "endpos"] 1 [.str x t] [] = pure [some (.str x t), none, none] := by rfl
  refine wpAny_bind (wpAny_of_eq e ?_)
  dsimp only
  have e2 : reTextOf (.str x t) = pure (x.cps, 0) := by rfl
  have e3 : reNoCollectionInside (.str x t) 0 = pure () := by rfl
  have e4 : ((pure 0 : Sem Int) >>= fun p => pure p) = pure 0 := rfl
  repeat (first
    | with_reducible refine wpAny_bind (wpAny_fieldsOf hP hPd ?_)
    | with_reducible refine wpAny_bind (wpAny_of_eq e2 ?_)
    | with_reducible refine wpAny_bind (wpAny_of_eq e3 ?_)
    | with_reducible refine wpAny_bind (wpAny_pure ?_)
    | with_reducible refine wpAny_bind ?_
    | with_reducible refine wpAny_pure ?_
    | dsimp only)
  have e5 : reRawNat (#[v0, v1, Value.int 0 0, v3, v4, Value.ref 35, Value.int 0 0].getD 6 Value.none) = 0 := rfl
  have e6 : #[v0, v1, Value.int 0 0, v3, v4, Value.ref 35, Value.int 0 0].getD 5 Value.none = .ref 35 := rfl
  have e7 : reRawNat (#[v0, v1, Value.int 0 0, v3, v4, Value.ref 35, Value.int 0 0].getD 2 Value.none) = 0 := rfl
  have e8 : Min.min (Int.toNat 0) x.cps.size = 0 := by simp
  have e9 : Min.min (2 ^ 63 - 1 : Int).toNat x.cps.size = x.cps.size := by
    have : (2 ^ 63 - 1 : Int).toNat = 9223372036854775807 := by decide
    rw [this]; omega
  rw [e5, e6, e7, e8, e9, if_neg (by decide), if_neg (by decide)]
  refine wpAny_bind (wpAny_of_eq e3 ?_)
  refine wpAny_bind ?_
  unfold reRawItems
  refine wpAny_bind (wpAny_seqItems hC hCd ?_)
  refine wpAny_pure ?_
  refine wpAny_pure ?_
  refine wpAny_mono h (fun f s' hf => ?_) fun _ _ z => z
  split at hf
  · exact hf
  · exact hf.elim
section
open PySem.Builtin PySem.Builtin.Re
variable {prog : Program} {w : World} {A : Around} {E : Value → Shared → Prop} {s : Shared}
theorem drive_wp {Q : Sre.M → Shared → Prop} : ∀ (turns k : Nat) (m m' : Sre.M), k < 4 * turns → Ends k m m' → Q m' s → wpAny (model prog w) A (reDrive turns m) Q E s
  | 0, k, _, _, h, _, _ => absurd h (by omega)
  | turns + 1, k, m, m', h, e, hq => by
    unfold reDrive
    dsimp only
    by_cases hk : k ≤ 4
    · have e4 : Sre.M.runFor reTurnSteps m = m' := by
        show Sre.M.runFor 4 m = m'
        rw [show 4 = k + (4 - k) by omega, runFor_add, e.1, runFor_still e.2]
      rw [e4, if_pos e.2]
      exact wpAny_pure hq
    · by_cases ho : (Sre.M.runFor reTurnSteps m).outcome.isSome = true
      · have e4 : Sre.M.runFor reTurnSteps m = m' := by
          have q := e.1
          have ho' : (Sre.M.runFor 4 m).outcome.isSome = true := ho
          rw [show k = 4 + (k - 4) by omega, runFor_add, runFor_still ho'] at q
          exact q
        rw [e4, if_pos e.2]
        exact wpAny_pure hq
      · rw [if_neg ho]
        refine wpAny_bind (wpAny_rule ?_)
        refine drive_wp turns (k - 4) _ m' (by omega) ⟨?_, e.2⟩ hq
        show Sre.M.runFor (k - 4) (Sre.M.runFor 4 m) = m'
        rw [← runFor_add, show 4 + (k - 4) = k by omega]
        exact e.1
theorem rules_wp {c : Nat → Bool} {nm : Nat → String} {Q : PUnit → Shared → Prop} (hq : Q ⟨⟩ s) : ∀ l : List Nat, wpAny (model prog w) A (forIn l PUnit.unit fun i _ => if c i = true then rule (nm i) >>= fun _ => pure (ForInStep.yield PUnit.unit) else pure (ForInStep.yield PUnit.unit)) Q E s
  | [] => wpAny_pure hq
  | i :: l => by
    rw [List.forIn_cons]
    refine wpAny_bind ?_
    split
    · exact wpAny_bind (wpAny_rule (wpAny_pure (rules_wp hq l)))
    · exact wpAny_pure (rules_wp hq l)
theorem toEnd_wp {k : Nat} {m m' : Sre.M} {b : Bool} {Q : Option Sre.M → Shared → Prop} (hk : k < 2 ^ 60) (e : Ends k m m') (ho : m'.outcome = some (if b then .matched else .failed)) (hq : Q (if b then some m' else none) s) : wpAny (model prog w) A (reRunToEnd m) Q E s := by
  unfold reRunToEnd
  refine wpAny_bind (drive_wp (2 ^ 64) k m m' (by omega) e ?_)
  refine wpAny_bind (rules_wp (c := fun i => m'.seen.has i) (nm := fun i => Sre.names.getD i "") ?_ _)
  rw [ho]
  cases b
  · exact wpAny_pure hq
  · exact wpAny_pure hq
theorem answer_wp {k : Nat} {m' : Sre.M} {b : Bool} {h₀ : Heap} {L : Addr} {mm : Str → Option Value} {news : List (Addr × Obj)} {Q : Fin → Shared → Prop} {code text : Array Nat} {x : Value} {lim : Nat} {m : Sre.M} (hk : k < 2 ^ 60) (e : Ends k m m') (ho : m'.outcome = some (if b then .matched else .failed))
    (F : Fr h₀ L s.heap mm) (N : News h₀ L s.heap news)
    (h0 : b = false → Q (.done (.ret .none)) s)
    (h1 : b = true → ∀ D o h', o.cls = .type "re.Match" → Fr h₀ L h' mm → News h₀ L h' ((D, o) :: news) → (∀ p ∈ news, p.1 < D) → Q (.done (.ret (.ref D))) { s with heap := h' }) :
    wpAny (model prog w) A (reAnswer { pattern := .ref 36, string := x, code, text, kind := 0, groups := 0, pos := 0, lim } m) Q E s := by
  unfold reAnswer
  refine wpAny_bind (toEnd_wp hk e ho ?_)
  cases b
  · exact wpAny_pure (h0 rfl)
  · show wpAny _ _ (reNewMatch (.ref 36) x 0 0 lim m' >>= ret) _ _ _
    refine wpAny_bind ?_
    unfold reNewMatch
    dsimp only
    rw [if_neg (by simp)]
    refine wpAny_bind (newTuple_N F N (fun h' F' N' => ?_) (by simp [sizeLine_eq]))
    refine wpAny_newObj_type ?_ ?_
    · refine wpAny_pure ?_
      have N2 := N'.push F' { cls := .type "re.Match", data := .fields #[x, .ref 36, rawInt 0, rawInt lim, rawInt m'.lastindex, .ref s.heap.objs.size] }
      refine h1 rfl _ { cls := .type "re.Match", data := .fields #[x, .ref 36, rawInt 0, rawInt lim, rawInt m'.lastindex, .ref s.heap.objs.size] } _ rfl (F'.push _) (fun p hp => ?_) (fun p hp => ?_)
      · rcases List.mem_cons.mp hp with rfl | hp
        · exact N2 _ (.head _)
        · exact N2 _ (.tail _ (.tail _ hp))
      · exact Heap.lt_size (N' p (.tail _ hp)).1
    · simp [sizeOk, sizeLine_eq]
/-- IPV4_RE.search(text) -/
theorem search_K {h₀ : Heap} {L : Addr} {mm : Str → Option Value} {news : List (Addr × Obj)} {x : Str} {t : Tok} {Q : Value → Shared → Prop} {b : Bool} {oP oC : Obj} {v0 v1 v3 v4 : Value} {n : Nat}
    (F : Fr h₀ L s.heap mm) (N : News h₀ L s.heap news)
    (hP : h₀.get? 36 = some oP) (hPc : oP.cls = .type "re.Pattern") (hPd : oP.data = .fields #[v0, v1, .int 0 0, v3, v4, .ref 35, .int 0 0])
    (hC : h₀.get? 35 = some oC) (hCc : oC.cls = .type "tuple") (hCd : oC.data = .seq #[.int 14 0, .int 8 0, .int 1 0, .int 2 0, .int 4294967295 0, .int 1 0, .int 1 0, .int 46 0, .int 0 0, .int 16 0, .int 46 0, .int 24 0, .int 9 0, .int 1 0, .int 4294967295 0, .int 13 0, .int 4 0, .int 8 0, .int 0 0, .int 0 0, .int 1 0, .int 6 0, .int 5 0, .int 1 0] n)
    (hx : x.cps.size ≤ 2 ^ 20) (hs : Searches x.cps b)
    (h0 : b = false → Q .none s)
    (h1 : b = true → ∀ D o h', o.cls = .type "re.Match" → Fr h₀ L h' mm → News h₀ L h' ((D, o) :: news) → (∀ p ∈ news, p.1 < D) → Q (.ref D) { s with heap := h' }) :
    wpAny (model prog w) A (call (.builtin "re.Pattern.search") [.ref 36, .str x t]) Q E s := by
  obtain ⟨k, m', hk, he, ho⟩ := hs
  refine call_search (F.keep _ _ hP) hPc hPd hx (F.keep _ _ hC) hCc hCd ?_
  have e : (((#[.int 14 0, .int 8 0, .int 1 0, .int 2 0, .int 4294967295 0, .int 1 0, .int 1 0, .int 46 0, .int 0 0, .int 16 0, .int 46 0, .int 24 0, .int 9 0, .int 1 0, .int 4294967295 0, .int 13 0, .int 4 0, .int 8 0, .int 0 0, .int 0 0, .int 1 0, .int 6 0, .int 5 0, .int 1 0] : Array Value).map reRawOf).map (·.toNat)) = reCode := by simp [reRawOf, reCode]
  rw [e]
  exact answer_wp (by omega) he ho F N (fun hb => h0 hb) (fun hb D o h' hc F' N' l => h1 hb D o h' hc F' N' l)
end
end Mine
end
theorem Mine.reset_P1 : True := by
  w_top off
  k_with_none
  (k_with "OM" => with_reducible first | assumption | decide | (refine Nat.ne_of_lt ?_; k_extra "OP") | (refine o_n ?_; k_extra "OP") | k_extra "OP" | exact o_1 | exact o_2 | exact o_3 | exact o_4 | exact o_5 | exact o_6 | exact o_7 | exact o_8 | exact o_9 | exact o_10 | exact o_11 | exact o_12 | exact o_13 | exact o_14 | exact o_15 | exact o_16 | exact o_17 | exact o_18 | exact o_s1 | exact o_s2 | exact o_s3 | exact o_s4 | exact o_s5 | exact o_s6 | exact o_s7 | exact o_s8 | exact o_s9 | exact o_s10 | exact o_s11 | exact o_s12 | exact o_s13 | exact o_s14 | exact o_s15 | exact o_s16 | exact o_r 1 | exact o_r 2 | exact o_r 3 | exact o_r 4 | exact o_r 5 | exact o_r 6 | exact o_r 7 | exact o_r 8 | exact o_r 9 | exact o_r 10 | exact o_r 11 | exact o_r 12 | exact o_r 13 | exact o_r 14 | exact o_r 15 | exact o_r 16 | exact o_u1 | exact o_u2 | exact o_u3 | exact o_e1 | exact o_e2 | exact o_e3 | exact o_e4 | exact o_m1 | exact o_c1 | exact o_c2 | exact o_c3 | exact o_c4 | exact o_c5 | exact o_n1 | exact o_n2 | exact o_n3 | exact o_n4 | exact o_d1 | fail)
  (k_with "OP" => first | k_extra "OB" | exact o_p1 | exact o_p2 | exact o_p3 | exact o_p4 | (refine o_l 1 ?_; k_extra "OB") | (refine o_l 2 ?_; k_extra "OB") | (refine o_l 3 ?_; k_extra "OB") | (refine o_l 4 ?_; k_extra "OB") | fail)
  (k_with "OB" => first | assumption | (refine o_pk ?_; k_extra "OK") | fail)
  (k_with "OK" => first | exact And.left | exact And.right | (refine o_sk ?_; k_extra "OK") | fail)
  first | walk1 | trivial
section
open PySem PySem.W
namespace Mine
theorem nat_land_split (q r k : Nat) (hr : r < 2 ^ k) : (2 ^ k * q + r) &&& (2 ^ k * q) = 2 ^ k * q := by
  apply Nat.eq_of_testBit_eq
  intro i
  rw [Nat.testBit_and, Nat.testBit_two_pow_mul_add _ hr, Nat.testBit_two_pow_mul]
  by_cases h : i < k
  · simp [h, Nat.not_le.mpr h]
  · simp [h, Nat.le_of_not_lt h]
theorem bitAnd_split {a : Int} (ha : 0 ≤ a) : Builtin.bitAnd a (a.fdiv 512 * 512) = a.fdiv 512 * 512 := by
  obtain ⟨n, rfl⟩ := Int.eq_ofNat_of_zero_le ha
  have e : (((n : Nat) : Int).fdiv 512 * 512) = ((2 ^ 9 * (n / 512) : Nat) : Int) := by
    rw [Int.fdiv_eq_ediv_of_nonneg _ (by decide)]; omega
  rw [e]
  unfold Builtin.bitAnd
  rw [decide_eq_true (Int.natCast_nonneg n), decide_eq_true (Int.natCast_nonneg _)]
  show (((((n : Nat) : Int).toNat &&& ((2 ^ 9 * (n / 512) : Nat) : Int).toNat : Nat)) : Int) = _
  rw [Int.toNat_natCast, Int.toNat_natCast]
  have hn : n = 2 ^ 9 * (n / 512) + n % 512 := by omega
  have := nat_land_split (n / 512) (n % 512) 9 (Nat.mod_lt _ (by decide))
  rw [← hn] at this
  rw [this]
theorem xor_split {a : Int} (ha : 0 ≤ a) : Builtin.bitXor a (a.fdiv 512 * 512) = a % 512 := by
  rw [PyProof.Rows.bitXor_and, bitAnd_split ha, Int.fdiv_eq_ediv_of_nonneg _ (by decide)]
  omega
end Mine
end
section
open PySem PySem.W PyProof.Rows PySem.Calls
namespace Mine
section
local macro_rules | `(tactic| walk_at "newList") => `(tactic| (k_here; k_dflt (refine' newList_L ?k1 ?k2 ?_; (case k1 => k_asm); (case k2 => k_asm); k_whole); intro l' h' F' N' l1 lL; (try k_lt l1); (try k_sweep)))
local macro_rules | `(tactic| walk_at "newTuple") => `(tactic| (k_here; k_dflt (refine' newTuple_L ?F ?N ?_ ?z; (case F => k_asm); (case N => k_asm); (case z => kmk_size)); intro D' h' F' N' l1 lL; (try k_lt l1); (try k_sweep)))
local macro_rules | `(tactic| walk_at "execs cons") => `(tactic| (k_here; (first | dsimp only | k_gentoks); refine wp_toks ?_; intro tk9))
theorem reset_B2 : True := by
  w_top off
  k_with_none
  (k_with "OM" => with_reducible first | assumption | decide | (refine Nat.ne_of_lt ?_; k_extra "OP") | (refine o_n ?_; k_extra "OP") | k_extra "OP" | exact o_1 | exact o_2 | exact o_3 | exact o_4 | exact o_5 | exact o_6 | exact o_7 | exact o_8 | exact o_9 | exact o_10 | exact o_11 | exact o_12 | exact o_13 | exact o_14 | exact o_15 | exact o_16 | exact o_17 | exact o_18 | exact o_s1 | exact o_s2 | exact o_s3 | exact o_s4 | exact o_s5 | exact o_s6 | exact o_s7 | exact o_s8 | exact o_s9 | exact o_s10 | exact o_s11 | exact o_s12 | exact o_s13 | exact o_s14 | exact o_s15 | exact o_s16 | exact o_r 1 | exact o_r 2 | exact o_r 3 | exact o_r 4 | exact o_r 5 | exact o_r 6 | exact o_r 7 | exact o_r 8 | exact o_r 9 | exact o_r 10 | exact o_r 11 | exact o_r 12 | exact o_r 13 | exact o_r 14 | exact o_r 15 | exact o_r 16 | exact o_u1 | exact o_u2 | exact o_u3 | exact o_e1 | exact o_e2 | exact o_e3 | exact o_e4 | exact o_m1 | exact o_c1 | exact o_c2 | exact o_c3 | exact o_c4 | exact o_c5 | exact o_n1 | exact o_n2 | exact o_n3 | exact o_n4 | exact o_d1 | fail)
  (k_with "OP" => first | k_extra "OB" | exact o_p1 | exact o_p2 | exact o_p3 | exact o_p4 | (refine o_l 1 ?_; k_extra "OB") | (refine o_l 2 ?_; k_extra "OB") | (refine o_l 3 ?_; k_extra "OB") | (refine o_l 4 ?_; k_extra "OB") | fail)
  (k_with "OB" => first | assumption | (refine o_pk ?_; k_extra "OK") | fail)
  (k_with "OK" => first | exact And.left | exact And.right | (refine o_sk ?_; k_extra "OK") | fail)
  first | walk1 | trivial
section
set_option Elab.async false
set_option maxRecDepth 100000
set_option maxHeartbeats 8000000
set_option pp.deepTerms false
set_option pp.maxSteps 4000
section
variable {prog : Program} {w : World} {A A₀ : Around} {s : Shared} {K : Frag} {L : Addr} {h₀ base : Heap} {m mg mb : Str → Option Value} {p : Program} {loose : List Str} {mean : ExcName → Option Value} {news us : List (Addr × Obj)}
/-- a call of a def with cells: its frame stands over all that the caller's heap holds, but for the ledger us -/
theorem code_usC {env : Env} {outer : List Env} {R : Result → Shared → Prop} {name qual : Str} {params : Arguments} {body : List Stmt} {scope : Scope} {dV kV doc pm cdv ct oc : Value} {an od : Option Addr} {osl : Array (Option Value)} {f : Addr} {args : Args} {binds : List (Str × Value)}
    (B : Below A₀ base outer h₀) (F : Fr h₀ L s.heap m) (X₀ : K.In h₀) (N : News h₀ L s.heap us) (T : Top p loose mean mg mb h₀) (hA : A.frames = some (env :: outer)) (hf : env.frame = some L) (hke : env.scope.kind = .function)
    (ho : K.lookup f = some ⟨oc, od, .func (fnOf name qual params body scope dV kV doc pm an cdv ct), osl⟩) (hcd : codeIn K cdv qual = true) (hroom : A.depth < recursionLimit)
    (hbind : BindsTo s (fnOf name qual params body scope dV kV doc pm an cdv ct) args binds) (hkind : (binds.all fun y => scope.names.lookup y.1 == some .local || scope.names.lookup y.1 == some .cell) = true)
    (hnd : ((cellsFrom 0 scope.names []).map (·.1)).Nodup)
    (h : ∀ g L' h₁ tk cells, L' = s.heap.objs.size → (∀ b o, s.heap.get? b = some o → b ∉ us.map (·.1) → g.get? b = some o) → Fr h₀ L g m → Fr g L' h₁ (bindL (envOfC qual scope L' f cdv).kindOf binds fun _ => none) → News g L' h₁ (cells ++ us) →
      CellsAre (bindC (envOfC qual scope L' f cdv).kindOf binds fun _ => none) (cellsFrom (L' + 1) scope.names []) cells → Below A base (env :: outer) g → h₀.StaysIn g → K.In g → Top p loose mean mg mb g → (∀ p ∈ us, p.1 < L') →
      wpAny (model prog w) (A.deeper (envOfC qual scope L' f cdv)) (execs body (envOfC qual scope L' f cdv))
        (fun fl s' => LeaveK h₀ L m g R (match fl with | .ret v => v | _ => .none) s')
        (fun e s' => wpAny (model prog w) (A.deeper (envOfC qual scope L' f cdv)) (leaving (envOfC qual scope L' f cdv) e) (fun _ s'' => R (.error e) s'') (fun e' s'' => R (.error e') s'') s')
        { s with heap := h₁, toks := tk })
    (hco : scope.isCoroutine = false) (hgen : scope.isGenerator = false) (hk : scope.kind = .function) : codeAny (model prog w) A (.call (.ref f) args) R s := by
  obtain ⟨FG, BG, st, lv⟩ := groundX (R := R) B F N hA hf hke
  have hX := X₀.keeps F.keep
  refine codeAny_call_function (fd := fnOf name qual params body scope dV kV doc pm an cdv ct) hroom (hX _ _ ho) rfl hco hgen rfl (codeRec_of hX hcd) (hbind _ _ _ _ ?_)
  refine wpAny_newFunctionEnv_cells hk (kindsX hkind _) fun env' he s' x => ?_
  subst he
  refine ⟨(T.nolimit.keeps F.keep).keeps x.toInCall.keep, codeAny_func ?_⟩
  obtain ⟨h₁, tk, rfl, _⟩ := x.done
  have hk₁ := x.toInCall.keep
  obtain ⟨cells, NC, Y⟩ := Cl.news (h₀ := s.heap) (Nat.le_refl _) fun n c hm => ⟨x.cell n c (lookup_of_mem_nodup (cellsFrom_names scope.names 0 (s.heap.objs.size + 1) [] [] rfl ▸ hnd) hm), x.above n c hm⟩
  refine wpAny_mono (h _ s.heap.objs.size h₁ tk cells rfl (fun b o e hn => hideAll_get _ e hn) FG ⟨x.toInCall.ns, fun b o e => hk₁ b o (of_hideAll _ e), Nat.le_of_eq (hideAll_size _ _)⟩ (fun p hp => ?_) Y BG st (X₀.keeps st) (T.keeps st) (fun p hp => Heap.lt_size (N p hp).1)) (fun fl s' hl => lv _ _ hl) fun _ _ y => y
  rcases List.mem_append.mp hp with hp | hp
  · refine ⟨(NC p hp).1, (NC p hp).2.1, ?_⟩
    cases q : (hideAll s.heap (us.map (·.1))).get? p.1 with
    | none => rfl
    | some o => have := of_hideAll _ q; rw [(NC p hp).2.2] at this; cases this
  · exact ⟨hk₁ _ _ (N p hp).1, Nat.ne_of_lt (Heap.lt_size (N p hp).1), hideAll_none _ (List.mem_map_of_mem hp)⟩
end
/-- the contract of a def that changes the ledger us (tables of code) to us' -/
noncomputable def SpecTB (w : World) (f : Addr) (vs : List Value) (need : Nat) (us : List (Addr × Obj)) (C : Heap → Prop) (post : Value → List (Addr × Obj) → List (Addr × Obj) → Prop) (p : Program) (loose : List Str) (mean : ExcName → Option Value) (mg mb : Str → Option Value) (dp un : Nat) (gd : Option (List Code)) (cn : Str) (cs : Scope) (a : Addr) (ccd : Value) (cl : List (Str × Addr)) (outer : List Env) (A₀ : Around) (base h₀ : Heap) (L : Addr) (m : Str → Option Value) (rest : List (Addr × Obj)) (s : Shared) (Q E : Value → Shared → Prop) : Prop :=
    Below A₀ base outer h₀ → Fr h₀ L s.heap m → (hd.heap_39 w.params).In h₀ → News h₀ L s.heap (us ++ rest) → Top p loose mean mg mb h₀ → cs.kind = .function →
    dp + need < recursionLimit → un + 8 * need < cLine → (∀ p ∈ rest, p.1 ∉ us.map (·.1)) → C h₀ →
    (∀ v new us' h' tk', post v new us' → Fr h₀ L h' m → News h₀ L h' (new ++ (us' ++ rest)) → (∀ p ∈ new, AllLt p.1 (us ++ rest)) → Q v { s with heap := h', toks := tk' }) →
    wpAny (model PySem.Challenge.rw_zo0033_01.row.prog w) (ktrTop dp un gd cn cs L a ccd cl outer) (call (.ref f) vs) Q E s
noncomputable def SpecT (w : World) (f : Addr) (vs : List Value) (need : Nat) (us : List (Addr × Obj)) (C : Heap → Prop) (post : Value → List (Addr × Obj) → List (Addr × Obj) → Prop) : Prop :=
  ∀ (p : Program) (loose : List Str) (mean : ExcName → Option Value) (mg mb : Str → Option Value) (dp un : Nat) (gd : Option (List Code)) (cn : Str) (cs : Scope) (a : Addr) (ccd : Value) (cl : List (Str × Addr)) (outer : List Env) (A₀ : Around) (base h₀ : Heap) (L : Addr) (m : Str → Option Value) (rest : List (Addr × Obj)) (s : Shared) (Q E : Value → Shared → Prop), SpecTB w f vs need us C post p loose mean mg mb dp un gd cn cs a ccd cl outer A₀ base h₀ L m rest s Q E
noncomputable def SpecTX (w : World) (f : Addr) (vs : List Value) (need : Nat) (us : List (Addr × Obj)) (C : Heap → Prop) (post : Value → List (Addr × Obj) → List (Addr × Obj) → Prop) (x : Sv) : Prop := ¬ SpecTB w f vs need us C post x.p x.loose x.mean (x.mf 0) (x.mf 1) (x.nat 0) (x.nat 1) (x.oc 0) (x.str 0) (x.sc 0) (x.ad 0) (x.val 0) (x.cl 0) (x.env 0) (x.ar 0) (x.hp 0) (x.hp 1) (x.ad 1) (x.mf 2) (x.ol 0) (x.sh 0) (x.qv 0) (x.qv 1)
theorem specT_eps {w : World} {f : Addr} {vs : List Value} {need : Nat} {us : List (Addr × Obj)} {C : Heap → Prop} {post : Value → List (Addr × Obj) → List (Addr × Obj) → Prop} (h : SpecTB w f vs need us C post (Sv.e (SpecTX w f vs need us C post)).p (Sv.e (SpecTX w f vs need us C post)).loose (Sv.e (SpecTX w f vs need us C post)).mean ((Sv.e (SpecTX w f vs need us C post)).mf 0) ((Sv.e (SpecTX w f vs need us C post)).mf 1) ((Sv.e (SpecTX w f vs need us C post)).nat 0) ((Sv.e (SpecTX w f vs need us C post)).nat 1) ((Sv.e (SpecTX w f vs need us C post)).oc 0) ((Sv.e (SpecTX w f vs need us C post)).str 0) ((Sv.e (SpecTX w f vs need us C post)).sc 0) ((Sv.e (SpecTX w f vs need us C post)).ad 0) ((Sv.e (SpecTX w f vs need us C post)).val 0) ((Sv.e (SpecTX w f vs need us C post)).cl 0) ((Sv.e (SpecTX w f vs need us C post)).env 0) ((Sv.e (SpecTX w f vs need us C post)).ar 0) ((Sv.e (SpecTX w f vs need us C post)).hp 0) ((Sv.e (SpecTX w f vs need us C post)).hp 1) ((Sv.e (SpecTX w f vs need us C post)).ad 1) ((Sv.e (SpecTX w f vs need us C post)).mf 2) ((Sv.e (SpecTX w f vs need us C post)).ol 0) ((Sv.e (SpecTX w f vs need us C post)).sh 0) ((Sv.e (SpecTX w f vs need us C post)).qv 0) ((Sv.e (SpecTX w f vs need us C post)).qv 1)) : SpecT w f vs need us C post := by
  intro p loose mean mg mb dp un gd cn cs a ccd cl outer A₀ base h₀ L m rest s Q E
  exact eps_all (fun x : Sv => SpecTB w f vs need us C post x.p x.loose x.mean (x.mf 0) (x.mf 1) (x.nat 0) (x.nat 1) (x.oc 0) (x.str 0) (x.sc 0) (x.ad 0) (x.val 0) (x.cl 0) (x.env 0) (x.ar 0) (x.hp 0) (x.hp 1) (x.ad 1) (x.mf 2) (x.ol 0) (x.sh 0) (x.qv 0) (x.qv 1)) h (Sv.mk w p loose mean (fun i => [base, h₀].getD i base) (fun i => [dp, un].getD i dp) (fun _ => 0) (fun i => [a, L].getD i a) (fun _ => default) (fun _ => ccd) (fun _ => default) (fun _ => []) (fun _ => #[]) (fun _ => []) (fun _ => rest) (fun i => [mg, mb, m].getD i mg) (fun _ => s) (fun _ => cn) (fun _ _ => "") (fun _ => none) (fun _ => #[]) (fun _ => none) (fun _ => cs) (fun _ => gd) (fun _ => cl) (fun _ => outer) (fun _ => A₀) (fun _ => true) (fun _ _ => True) (fun i => [Q, E].getD i Q))
theorem join_newsT {h₀ g h h' : Heap} {L L' : Addr} {m' : Str → Option Value} {rest us us' new : List (Addr × Obj)} (N : News h₀ L h (us ++ rest)) (hoff : ∀ p ∈ rest, p.1 ∉ us.map (·.1)) (e : ∀ b o, h.get? b = some o → b ∉ us.map (·.1) → g.get? b = some o) (F' : Fr g L' h' m') (N' : News h₀ L h' (new ++ us')) : News h₀ L h' (new ++ (us' ++ rest)) := by
  intro q hq
  rw [← List.append_assoc] at hq
  rcases List.mem_append.mp hq with hq | hq
  · exact N' q hq
  · exact ⟨F'.keep _ _ (e _ _ (N q (List.mem_append_right _ hq)).1 (hoff q hq)), (N q (List.mem_append_right _ hq)).2⟩
theorem specT_end {h₀ g h h' : Heap} {L L' : Addr} {m m' : Str → Option Value} {rest us all : List (Addr × Obj)} {v : Value} {s : Shared} {Q : Value → Shared → Prop} {tk' : Nat} {post : Value → List (Addr × Obj) → List (Addr × Obj) → Prop}
    (hret : ∀ v new us' h' tk', post v new us' → Fr h₀ L h' m → News h₀ L h' (new ++ (us' ++ rest)) → (∀ p ∈ new, AllLt p.1 (us ++ rest)) → Q v { s with heap := h', toks := tk' })
    (N : News h₀ L h (us ++ rest)) (hoff : ∀ p ∈ rest, p.1 ∉ us.map (·.1)) (eg : ∀ b o, h.get? b = some o → b ∉ us.map (·.1) → g.get? b = some o) (eL : L' = h.objs.size) (F₁ : Fr g L' h' m') (F : Fr h₀ L h' m) (N' : News h₀ L h' all)
    (new : List (Addr × Obj)) (us' : List (Addr × Obj)) (h1 : ∀ p ∈ new, p ∈ all) (h2 : ∀ p ∈ us', p ∈ all) (hn : ∀ q ∈ new, L' ≤ q.1) (hp : post v new us') : Q v { s with heap := h', toks := tk' } :=
  hret v new us' h' tk' hp F (join_newsT N hoff eg F₁ fun p hp => N' p (by
    rcases List.mem_append.mp hp with h | h
    · exact h1 p h
    · exact h2 p h)) (fun q hq => allLt_of fun p hp => Nat.lt_of_lt_of_le (Heap.lt_size (N p hp).1) (eL ▸ hn q hq))
theorem SpecT.use {w : World} {f : Addr} {vs : List Value} {need : Nat} {us : List (Addr × Obj)} {C : Heap → Prop} {post : Value → List (Addr × Obj) → List (Addr × Obj) → Prop} (S : SpecT w f vs need us C post)
    {p : Program} {loose : List Str} {mean : ExcName → Option Value} {mg mb : Str → Option Value} {dp un : Nat} {gd : Option (List Code)} {cn : Str} {cs : Scope} {a : Addr} {ccd : Value} {cl : List (Str × Addr)} {outer : List Env} {A₀ : Around} {base h₀ : Heap} {L : Addr} {m : Str → Option Value} {all : List (Addr × Obj)} {s : Shared} {Q E : Value → Shared → Prop} (rest : List (Addr × Obj))
    (B : Below A₀ base outer h₀) (F : Fr h₀ L s.heap m) (X : (hd.heap_39 w.params).In h₀) (N : News h₀ L s.heap all) (T : Top p loose mean mg mb h₀) (hk : cs.kind = .function)
    (hd : dp + need < recursionLimit) (hu : un + 8 * need < cLine) (hus : ∀ p ∈ us ++ rest, p ∈ all) (hoff : ∀ p ∈ rest, p.1 ∉ us.map (·.1)) (hC : C h₀)
    (hret : ∀ v new us' h' tk', post v new us' → Fr h₀ L h' m → News h₀ L h' (new ++ (us' ++ rest)) → (∀ p ∈ new, AllLt p.1 (us ++ rest)) → Q v { s with heap := h', toks := tk' }) :
    wpAny (model PySem.Challenge.rw_zo0033_01.row.prog w) (ktrTop dp un gd cn cs L a ccd cl outer) (call (.ref f) vs) Q E s :=
  S p loose mean mg mb dp un gd cn cs a ccd cl outer A₀ base h₀ L m rest s Q E B F X (kst_newsOf N hus) T hk hd hu hoff hC hret
end
theorem reset_N1 : True := by
  w_top off
  k_with_none
  (k_with "OM" => with_reducible first | assumption | decide | (refine Nat.ne_of_lt ?_; k_extra "OP") | (refine o_n ?_; k_extra "OP") | k_extra "OP" | exact o_1 | exact o_2 | exact o_3 | exact o_4 | exact o_5 | exact o_6 | exact o_7 | exact o_8 | exact o_9 | exact o_10 | exact o_11 | exact o_12 | exact o_13 | exact o_14 | exact o_15 | exact o_16 | exact o_17 | exact o_18 | exact o_s1 | exact o_s2 | exact o_s3 | exact o_s4 | exact o_s5 | exact o_s6 | exact o_s7 | exact o_s8 | exact o_s9 | exact o_s10 | exact o_s11 | exact o_s12 | exact o_s13 | exact o_s14 | exact o_s15 | exact o_s16 | exact o_r 1 | exact o_r 2 | exact o_r 3 | exact o_r 4 | exact o_r 5 | exact o_r 6 | exact o_r 7 | exact o_r 8 | exact o_r 9 | exact o_r 10 | exact o_r 11 | exact o_r 12 | exact o_r 13 | exact o_r 14 | exact o_r 15 | exact o_r 16 | exact o_u1 | exact o_u2 | exact o_u3 | exact o_e1 | exact o_e2 | exact o_e3 | exact o_e4 | exact o_m1 | exact o_c1 | exact o_c2 | exact o_c3 | exact o_c4 | exact o_c5 | exact o_n1 | exact o_n2 | exact o_n3 | exact o_n4 | exact o_d1 | fail)
  (k_with "OP" => first | k_extra "OB" | exact o_p1 | exact o_p2 | exact o_p3 | exact o_p4 | (refine o_l 1 ?_; k_extra "OB") | (refine o_l 2 ?_; k_extra "OB") | (refine o_l 3 ?_; k_extra "OB") | (refine o_l 4 ?_; k_extra "OB") | fail)
  (k_with "OB" => first | assumption | (refine o_pk ?_; k_extra "OK") | fail)
  (k_with "OK" => first | exact And.left | exact And.right | (refine o_sk ?_; k_extra "OK") | fail)
  (k_with "END0" => (
  refine spec_end0 (by assumption) (by assumption) (by assumption) (by assumption) (by assumption) (by assumption) (by assumption) (by assumption) (by kcj_all) ?_))
  (k_with "GO" => repeat' (first | (k_unfold; (try dsimp only)) | (k_end; wrow_close) | walk1 | (dsimp only; k_unfold; (try dsimp only)) | (dsimp only; walk1) | (leave1; (try dsimp only)) | fail "no step"))
  (k_with "GO1" => (first | (k_unfold; (try dsimp only)) | (k_end; wrow_close) | walk1 | (dsimp only; k_unfold; (try dsimp only)) | (dsimp only; walk1) | (leave1; (try dsimp only)) | fail "no step"))
  (k_with "ENTERF" => (
  refine spec_eps ?_
  refine (?_ : Spec _ _ _ _ _ _ _) _ _ _ _ _ _ _ _ _ _ _ _ _ _ _ _ _ _ _ _ _ _ _
  intro p₉₉ loose₉₉ mean₉₉ mg₉₉ mb₉₉ dp₉₉ un₉₉ gd₉₉ cn₉₉ cs₉₉ a₉₉ ccd₉₉ cl₉₉ outer₉₉ A₀₉₉ base₉₉ h₀₉₉ L₉₉ m₉₉ news₉₉ s₉₉ Q₉₉ E₉₉
  unfold SpecB
  k_fill
  intro B₉₉ F₉₉ X₉₉ N₉₉ T₉₉ hk₉₉ hd₉₉ hu₉₉ hus₉₉ hpre₉₉ hret₉₉
  refine wpAny_call ?_
  k_dflt (refine' code_usF ?k1 ?k2 ?k3 ?k4 ?k5 ?kA ?kF ?kK ?k6 ?k7 ?k8 ?k9 ?kB ?_ ?c2 ?c3 ?c4 ?c5; (case kA => exact rfl); (case kF => exact rfl); (case kK => assumption); (case k1 => k_asm); (case k2 => k_asm); (case k3 => k_asm); (case k4 => exact fun p₉₉ hp => N₉₉ p₉₉ (hus₉₉ p₉₉ hp)); (case k5 => k_asm); (case k6 => exact .head _); (case k7 => exact codeRec_news N₉₉ (hus₉₉ _ (.tail _ (.head _))) (by assumption) (by assumption)); (case k8 => ktr_room); (case k9 => k_extra "binds"); (case c5 => decide); (case kB => exact locs rfl); (case c2 => exact rfl); (case c3 => exact rfl); (case c4 => exact rfl); k_whole)
  intro g'₉₉ L'₉₉ h'₉₉ eL₉₉ eg₉₉ FG'₉₉ F'₉₉ N'₉₉ B'₉₉ X'₉₉ T'₉₉ lU₉₉
  (try dsimp only)
  k_fold
  (try k_lt lU₉₉)
  clear F₉₉))
  (k_with "ENTERT" => (
  refine specT_eps ?_
  refine (?_ : SpecT _ _ _ _ _ _ _) _ _ _ _ _ _ _ _ _ _ _ _ _ _ _ _ _ _ _ _ _ _ _
  intro p₉₉ loose₉₉ mean₉₉ mg₉₉ mb₉₉ dp₉₉ un₉₉ gd₉₉ cn₉₉ cs₉₉ a₉₉ ccd₉₉ cl₉₉ outer₉₉ A₀₉₉ base₉₉ h₀₉₉ L₉₉ m₉₉ rest₉₉ s₉₉ Q₉₉ E₉₉
  unfold SpecTB
  k_fill
  intro B₉₉ F₉₉ X₉₉ N₉₉ T₉₉ hk₉₉ hd₉₉ hu₉₉ hoff₉₉ hC₉₉ hret₉₉
  refine wpAny_call ?_
  k_dflt (refine' code_usC ?k1 ?k2 ?k3 ?k4 ?k5 ?kA ?kF ?kK ?k6 ?k7 ?k8 ?k9 ?kB ?kD ?_ ?c2 ?c3 ?c4; (case kA => exact rfl); (case kF => exact rfl); (case kK => assumption); (case k1 => k_asm); (case k2 => k_asm); (case k3 => k_asm); (case k4 => exact fun p₉₉ hp => N₉₉ p₉₉ (List.mem_append_left _ hp)); (case k5 => k_asm); (case k6 => k_is); (case k7 => k_is); (case k8 => ktr_room); (case k9 => exact BindsTo.of_eq (binds := [("digits", .ref _), ("n", .int _ _)]) (by with_unfolding_all rfl)); (case kB => exact rfl); (case kD => decide +kernel); (case c2 => exact rfl); (case c3 => exact rfl); (case c4 => exact rfl); k_whole)
  intro g'₉₉ L'₉₉ h'₉₉ tk'₉₉ cells'₉₉ eL₉₉ eg₉₉ FG'₉₉ F'₉₉ N'₉₉ Y'₉₉ B'₉₉ st'₉₉ X'₉₉ T'₉₉ lU₉₉
  (try dsimp only)
  k_fold
  k_cells Y'₉₉
  (try simp only [List.cons_append, List.nil_append] at N'₉₉)
  (try k_lt lU₉₉)
  replace hC₉₉ := CodeHd.keeps hC₉₉ st'₉₉
  clear F₉₉ st'₉₉))
  first | walk1 | trivial
section
set_option Elab.async false
set_option maxRecDepth 100000
set_option maxHeartbeats 8000000
set_option pp.deepTerms false
set_option pp.maxSteps 4000
theorem wp_storeInt {M : Model} {A : Around} {x : Str} {v : Int} {t : Tok} {env : Env} {Q : Unit → Shared → Prop} {E : Value → Shared → Prop} {s : Shared} (h : ∀ t, wpAny M A (storeName env x (.int v t)) Q E s) : wpAny M A (storeName env x (.int v t)) Q E s := h t
theorem reg_N1_8 : True := by
  (k_with "storeName" => (k_here; dsimp only; (try (rename Int.fdiv _ _ = _ => e3₉₉; simp only [e3₉₉])); (try (rename _ * _ = (9 : Int) => e4₉₉; simp only [e4₉₉])); (try (refine wp_storeInt ?_; intro t9₉₉))))
  trivial
section
variable {prog : Program} {w : World} {A A₀ : Around} {s : Shared} {K : Frag} {L : Addr} {h₀ base : Heap} {m mg mb : Str → Option Value} {p : Program} {loose : List Str} {mean : ExcName → Option Value} {us : List (Addr × Obj)}
/-- a call of a nested def that stands in the ledger us: its frame stands over all that the caller's heap holds, but for us -/
theorem code_usF {env : Env} {outer : List Env} {R : Result → Shared → Prop} {name qual : Str} {params : Arguments} {body : List Stmt} {scope : Scope} {cl : List (Str × Addr)} {doc pm ctv : Value} {c' : Addr} {f : Addr} {args : Args} {binds : List (Str × Value)}
    (B : Below A₀ base outer h₀) (F : Fr h₀ L s.heap m) (X₀ : K.In h₀) (U : News h₀ L s.heap us) (T : Top p loose mean mg mb h₀) (hA : A.frames = some (env :: outer)) (hf : env.frame = some L) (hke : env.scope.kind = .function)
    (ho : (f, fnMade name qual params body scope cl doc pm c' ctv) ∈ us) (hcd : s.heap.CodeRec (.ref c') qual) (hroom : A.depth < recursionLimit)
    (hbind : BindsTo s (fnX name qual params body scope cl .none .none doc pm none (.ref c') ctv) args binds) (hloc : ∀ y ∈ binds, scope.names.lookup y.1 = some .local)
    (h : ∀ g L' h₁, L' = s.heap.objs.size → (∀ b o, s.heap.get? b = some o → b ∉ us.map (·.1) → g.get? b = some o) → Fr h₀ L g m → Fr g L' h₁ (fun y => binds.reverse.lookup y) → News g L' h₁ us → Below A base (env :: outer) g → K.In g → Top p loose mean mg mb g → (∀ p ∈ us, p.1 < L') →
      wpAny (model prog w) (A.deeper (envX qual scope L' f (.ref c') cl)) (execs body (envX qual scope L' f (.ref c') cl))
        (fun fl s' => LeaveK h₀ L m g R (match fl with | .ret v => v | _ => .none) s')
        (fun e s' => wpAny (model prog w) (A.deeper (envX qual scope L' f (.ref c') cl)) (leaving (envX qual scope L' f (.ref c') cl) e) (fun _ s'' => R (.error e) s'') (fun e' s'' => R (.error e') s'') s')
        { s with heap := h₁, toks := s.toks + binds.length })
    (hco : scope.isCoroutine = false) (hgen : scope.isGenerator = false) (hk : scope.kind = .function)
    (hcell : ∀ x ∈ scope.names, x.2 ≠ .cell) : codeAny (model prog w) A (.call (.ref f) args) R s := by
  obtain ⟨FG, BG, st, lv⟩ := groundX (R := R) B F U hA hf hke
  refine codeAny_call_def (fd := fnX name qual params body scope cl .none .none doc pm none (.ref c') ctv) (body := body) (binds := binds) hroom (U _ ho).1 rfl (T.nolimit.keeps F.keep) hcd rfl hbind hcell hloc (fun h₁ hns hk₁ => ?_) hco hgen hk
  exact wpAny_mono (h (hideAll s.heap (us.map (·.1))) s.heap.objs.size h₁ rfl (fun b o e hn => hideAll_get _ e hn) FG ⟨hns, fun b o e => hk₁ b o (of_hideAll _ e), Nat.le_of_eq (hideAll_size _ _)⟩
    (fun p hp => ⟨hk₁ _ _ (U p hp).1, Nat.ne_of_lt (Heap.lt_size (U p hp).1), hideAll_none _ (List.mem_map_of_mem hp)⟩) BG (X₀.keeps fun b o e => st b o e) (T.keeps fun b o e => st b o e) (fun p hp => Heap.lt_size (U p hp).1)) (fun fl s' hl => lv _ _ hl) fun _ _ y => y
end
/-- the parts of a def -/
noncomputable def stParts (x : Stmt) : Arguments × List Stmt × Scope := match x with
  | .FunctionDef _ a b _ _ _ sc _ _ _ => (a, b, sc)
  | _ => (default, [], default)
/-- the k-th def of main, and its i-th statement -/
noncomputable def fnParts (k : Nat) : Arguments × List Stmt × Scope := stParts (PySem.Challenge.pw_zo0033_01.main.body.getD k (.Pass default))
noncomputable def fnSt (k i : Nat) : Stmt := (fnParts k).2.1.getD i (.Pass default)
noncomputable def d2iIn : Arguments × List Stmt × Scope := stParts (fnSt 11 0)
noncomputable def d2iFn (cN cI cD : Addr) (doc pm : Value) (c' : Addr) (ct : Value) : Obj := fnMade "inner" "_digits2int.<locals>.inner" d2iIn.1 d2iIn.2.1 d2iIn.2.2 [("n", cN), ("inner", cI), ("digits", cD)] doc pm c' ct
noncomputable def d2iUs (fI c' cI cN cD D : Addr) (oc oI oN oD : Obj) (doc pm ct : Value) (vs : List Value) (c : Nat) : List (Addr × Obj) := [(fI, d2iFn cN cI cD doc pm c' ct), (c', oc), (cI, oI), (cN, oN), (cD, oD), (D, listOf vs.toArray c)]
theorem reg_N1_22 : True := by
  (k_with "eval Name" => (k_here; k_dflt (refine' nameX_F ?N ?c ?m ?d ?_ ?a ?b; (case a => rfl); (case b => rfl); (case N => k_asm); (case c => rfl); (case m => k_mem); (case d => assumption); k_whole)))
  trivial
noncomputable def d2i_leaf_S (w : World) (fI : Addr) (c' : Addr) (cI : Addr) (cN : Addr) (cD : Addr) (D : Addr) (oc : Obj) (oI : Obj) (oN : Obj) (oD : Obj) (doc : Value) (pm : Value) (ct : Value) (vs : List Value) (c : Nat) (ovs : Array Value) (tt : Tok) (ti : Tok) (tr : Tok) (xs : List Int) (i : Int) : Prop :=
  ∀ (hod : oc.data = .fields ovs) (hov : ovs[1]? = some (.str "_digits2int.<locals>.inner" tt)) (dI : oI.data = .cell (some (.ref fI))) (dD : oD.data = .cell (some (.ref D))) (hi : IntsAre vs xs) (h0 : 0 ≤ i) (h1 : i < xs.length) (h2 : i ≤ 2),
    Spec w fI [.int i ti, .int (i + 1) tr] 1 (d2iUs fI c' cI cN cD D oc oI oN oD doc pm ct vs c) (fun _ => True) (fun v new => (∃ t, v = .int (xs.getD i.toNat 0) t) ∧ new = [])
theorem d2i_leaf {w : World} {fI : Addr} {c' : Addr} {cI : Addr} {cN : Addr} {cD : Addr} {D : Addr} {oc : Obj} {oI : Obj} {oN : Obj} {oD : Obj} {doc : Value} {pm : Value} {ct : Value} {vs : List Value} {c : Nat} {ovs : Array Value} {tt : Tok} {ti : Tok} {tr : Tok} {xs : List Int} {i : Int} : d2i_leaf_S w fI c' cI cN cD D oc oI oN oD doc pm ct vs c ovs tt ti tr xs i := by
  refine eps_all (fun x : Sv => d2i_leaf_S x.w (x.ad 0) (x.ad 1) (x.ad 2) (x.ad 3) (x.ad 4) (x.ad 5) (x.ob 0) (x.ob 1) (x.ob 2) (x.ob 3) (x.val 0) (x.val 1) (x.val 2) (x.vl 0) (x.nat 0) (x.va 0) (x.tok 0) (x.tok 1) (x.tok 2) (x.il 0) (x.int 0)) ?_ (Sv.mk w (default) ([]) (fun _ => none) (fun _ => {}) (fun _ => c) (fun _ => i) (fun i9 => [fI, c', cI, cN, cD, D].getD i9 fI) (fun i9 => [tt, ti, tr].getD i9 tt) (fun i9 => [doc, pm, ct].getD i9 doc) (fun i9 => [oc, oI, oN, oD].getD i9 oc) (fun _ => vs) (fun _ => ovs) (fun _ => xs) (fun _ => []) (fun _ => fun _ => none) (fun _ => {}) (fun _ => "") (fun _ => fun _ => "") (fun _ => none) (fun _ => #[]) (fun _ => none) (fun _ => default) (fun _ => none) (fun _ => []) (fun _ => []) (fun _ => {}) (fun _ => true) (fun _ _ => True) (fun _ => fun _ _ => True))
  clear i xs tr ti tt ovs c vs ct pm doc oD oN oI oc D cD cN cI c' fI w
  refine (?_ : ∀ (w : World) (fI : Addr) (c' : Addr) (cI : Addr) (cN : Addr) (cD : Addr) (D : Addr) (oc : Obj) (oI : Obj) (oN : Obj) (oD : Obj) (doc : Value) (pm : Value) (ct : Value) (vs : List Value) (c : Nat) (ovs : Array Value) (tt : Tok) (ti : Tok) (tr : Tok) (xs : List Int) (i : Int), d2i_leaf_S w fI c' cI cN cD D oc oI oN oD doc pm ct vs c ovs tt ti tr xs i) _ _ _ _ _ _ _ _ _ _ _ _ _ _ _ _ _ _ _ _ _ _
  intro w fI c' cI cN cD D oc oI oN oD doc pm ct vs c ovs tt ti tr xs i hod hov dI dD hi h0 h1 h2
  unfold d2iUs d2iFn
  generalize hS : d2iIn = S
  (conv at hS => lhs; whnf)
  subst hS
  dsimp only
  (k_with "binds" => exact BindsTo.of_eq (binds := [("L", .int i ti), ("R", .int (i + 1) tr)]) (by with_unfolding_all rfl))
  walk_at "ENTERF"
  iterate 14 walk_at "GO1"
  all_goals (first | (exfalso; omega; done) | skip)
  walk_at "GO"
  walk_at "END0"
  exact ⟨⟨_, rfl⟩, rfl⟩
theorem Spec.up {w : World} {f : Addr} {vs : List Value} {n n' : Nat} {us : List (Addr × Obj)} {pre : Heap → Prop} {post : Value → List (Addr × Obj) → Prop} (S : Spec w f vs n us pre post) (h : n ≤ n') : Spec w f vs n' us pre post := by
  intro p loose mean mg mb dp un gd cn cs a ccd cl outer A₀ base h₀ L m news s Q E B F X N T hk hd hu hus hpre hret
  exact S p loose mean mg mb dp un gd cn cs a ccd cl outer A₀ base h₀ L m news s Q E B F X N T hk (by omega) (by omega) hus hpre hret
theorem reg_N1_26 : True := by
  (k_with "callWith ref" => (k_here; k_dflt (refine' callWith_F ?k1 ?_; (case k1 => exact FnAt.of (by k_asm) (by k_mem)); k_whole)))
  trivial
noncomputable def d2i_rec_S (w : World) (n : Nat) (fI : Addr) (c' : Addr) (cI : Addr) (cN : Addr) (cD : Addr) (D : Addr) (oc : Obj) (oI : Obj) (oN : Obj) (oD : Obj) (doc : Value) (pm : Value) (ct : Value) (vs : List Value) (c : Nat) (ovs : Array Value) (tt : Tok) (tn : Tok) (ti : Tok) (tr : Tok) (i : Int) (k2 : Int) (X : Int) (Y : Int) : Prop :=
  ∀ (hn : n ≤ 3) (hod : oc.data = .fields ovs) (hov : ovs[1]? = some (.str "_digits2int.<locals>.inner" tt)) (dI : oI.data = .cell (some (.ref fI))) (dN : oN.data = .cell (some (.int 9 tn))) (h0 : 0 ≤ i) (h2 : i ≤ 2) (hk : k2 = 1 ∨ k2 = 2) (hY : 0 ≤ Y ∧ Y < 2 ^ 20) (hX : 0 ≤ X ∧ X < 512) (S1 : ∀ t t', Spec w fI [.int (i + 1) t, .int (i + 1 + k2) t'] n (d2iUs fI c' cI cN cD D oc oI oN oD doc pm ct vs c) (fun _ => True) (fun v new => (∃ t, v = .int Y t) ∧ new = [])) (S2 : ∀ t t', Spec w fI [.int i t, .int (i + 1) t'] n (d2iUs fI c' cI cN cD D oc oI oN oD doc pm ct vs c) (fun _ => True) (fun v new => (∃ t, v = .int X t) ∧ new = [])),
    Spec w fI [.int i ti, .int (i + 1 + k2) tr] (n + 1) (d2iUs fI c' cI cN cD D oc oI oN oD doc pm ct vs c) (fun _ => True) (fun v new => (∃ t, v = .int (Y * 512 + X) t) ∧ new = [])
theorem d2i_rec {w : World} {n : Nat} {fI : Addr} {c' : Addr} {cI : Addr} {cN : Addr} {cD : Addr} {D : Addr} {oc : Obj} {oI : Obj} {oN : Obj} {oD : Obj} {doc : Value} {pm : Value} {ct : Value} {vs : List Value} {c : Nat} {ovs : Array Value} {tt : Tok} {tn : Tok} {ti : Tok} {tr : Tok} {i : Int} {k2 : Int} {X : Int} {Y : Int} : d2i_rec_S w n fI c' cI cN cD D oc oI oN oD doc pm ct vs c ovs tt tn ti tr i k2 X Y := by
  refine eps_all (fun x : Sv => d2i_rec_S x.w (x.nat 0) (x.ad 0) (x.ad 1) (x.ad 2) (x.ad 3) (x.ad 4) (x.ad 5) (x.ob 0) (x.ob 1) (x.ob 2) (x.ob 3) (x.val 0) (x.val 1) (x.val 2) (x.vl 0) (x.nat 1) (x.va 0) (x.tok 0) (x.tok 1) (x.tok 2) (x.tok 3) (x.int 0) (x.int 1) (x.int 2) (x.int 3)) ?_ (Sv.mk w (default) ([]) (fun _ => none) (fun _ => {}) (fun i9 => [n, c].getD i9 n) (fun i9 => [i, k2, X, Y].getD i9 i) (fun i9 => [fI, c', cI, cN, cD, D].getD i9 fI) (fun i9 => [tt, tn, ti, tr].getD i9 tt) (fun i9 => [doc, pm, ct].getD i9 doc) (fun i9 => [oc, oI, oN, oD].getD i9 oc) (fun _ => vs) (fun _ => ovs) (fun _ => []) (fun _ => []) (fun _ => fun _ => none) (fun _ => {}) (fun _ => "") (fun _ => fun _ => "") (fun _ => none) (fun _ => #[]) (fun _ => none) (fun _ => default) (fun _ => none) (fun _ => []) (fun _ => []) (fun _ => {}) (fun _ => true) (fun _ _ => True) (fun _ => fun _ _ => True))
  clear Y X k2 i tr ti tn tt ovs c vs ct pm doc oD oN oI oc D cD cN cI c' fI n w
  refine (?_ : ∀ (w : World) (n : Nat) (fI : Addr) (c' : Addr) (cI : Addr) (cN : Addr) (cD : Addr) (D : Addr) (oc : Obj) (oI : Obj) (oN : Obj) (oD : Obj) (doc : Value) (pm : Value) (ct : Value) (vs : List Value) (c : Nat) (ovs : Array Value) (tt : Tok) (tn : Tok) (ti : Tok) (tr : Tok) (i : Int) (k2 : Int) (X : Int) (Y : Int), d2i_rec_S w n fI c' cI cN cD D oc oI oN oD doc pm ct vs c ovs tt tn ti tr i k2 X Y) _ _ _ _ _ _ _ _ _ _ _ _ _ _ _ _ _ _ _ _ _ _ _ _ _ _
  intro w n fI c' cI cN cD D oc oI oN oD doc pm ct vs c ovs tt tn ti tr i k2 X Y hn hod hov dI dN h0 h2 hk hY hX S1 S2
  have e3 : (i + (i + 1 + k2)).fdiv (2 ^ Int.toNat 1) = i + 1 := by
    rw [show (2 : Int) ^ Int.toNat 1 = 2 from rfl, Int.fdiv_eq_ediv_of_nonneg _ (by decide)]
    omega
  have e4 : (i + 1 - i) * 9 = (9 : Int) := by omega
  unfold d2iUs d2iFn at *
  generalize hS : d2iIn = S at *
  (conv at hS => lhs; whnf)
  subst hS
  dsimp only at *
  (k_with "binds" => exact BindsTo.of_eq (binds := [("L", .int i ti), ("R", .int (i + 1 + k2) tr)]) (by with_unfolding_all rfl))
  walk_at "ENTERF"
  iterate 12 walk_at "GO1"
  all_goals (first | (exfalso; omega; done) | skip)
  walk_at "GO"
  k_dflt (refine' Spec.use (S1 _ _) ?k1 ?k2 ?k3 ?k4 ?k5 ?kK ?kd ?ku ?kus ?kp ?_; (case k1 => k_asm); (case k2 => k_asm); (case k3 => k_asm); (case k4 => k_asm); (case k5 => k_asm); (case kK => first | exact rfl | assumption); (case kd => ktr_room); (case ku => ktr_units); (case kus => kcj_all); (case kp => trivial))
  rintro v1 new1 h1 tk1 ⟨⟨t1, rfl⟩, rfl⟩ F1 N1 l1
  walk_at "GO"
  k_dflt (refine' Spec.use (S2 _ _) ?k1 ?k2 ?k3 ?k4 ?k5 ?kK ?kd ?ku ?kus ?kp ?_; (case k1 => k_asm); (case k2 => k_asm); (case k3 => k_asm); (case k4 => k_asm); (case k5 => k_asm); (case kK => first | exact rfl | assumption); (case kd => ktr_room); (case ku => ktr_units); (case kus => kcj_all); (case kp => trivial))
  rintro v2 new2 h2' tk2 ⟨⟨t2, rfl⟩, rfl⟩ F2 N2 l2
  walk_at "GO"
  walk_at "END0"
  exact ⟨⟨_, rfl⟩, rfl⟩
noncomputable def undigs : List Int → Int
  | [] => 0
  | x :: r => x + 512 * undigs r
noncomputable def D2iPost (D : Addr) (lo : Obj) (xs : List Int) (v : Value) (new us' : List (Addr × Obj)) : Prop := (∃ t, v = .int (undigs xs) t) ∧ new = [] ∧ ∃ c' oc ovs tt, us' = [(80, tabObj #[rawInt (81 : Nat), rawInt (4 : Nat), .ref c']), (c', oc), (D, lo)] ∧ oc.data = .fields ovs ∧ ovs[1]? = some (.str "_digits2int.<locals>.inner" tt)
theorem d2i_end {D : Addr} {lo : Obj} {xs : List Int} {h₀ g h h' : Heap} {L L' : Addr} {m m' : Str → Option Value} {rest us all : List (Addr × Obj)} {s : Shared} {Q : Value → Shared → Prop} {tk' : Nat} {X : Int} {tX : Tok}
    (hret : ∀ v new us' h' tk', D2iPost D lo xs v new us' → Fr h₀ L h' m → News h₀ L h' (new ++ (us' ++ rest)) → (∀ p ∈ new, AllLt p.1 (us ++ rest)) → Q v { s with heap := h', toks := tk' })
    (N : News h₀ L h (us ++ rest)) (hoff : ∀ p ∈ rest, p.1 ∉ us.map (·.1)) (eg : ∀ b o, h.get? b = some o → b ∉ us.map (·.1) → g.get? b = some o) (eL : L' = h.objs.size) (F₁ : Fr g L' h' m') (F : Fr h₀ L h' m) (N' : News h₀ L h' all) {c' : Nat} {oc : Obj} {ovs : Array Value} {tt : Tok}
    (hm : (D, lo) ∈ all) (hm2 : (80, tabObj #[rawInt (81 : Nat), rawInt (4 : Nat), .ref c']) ∈ all) (hm3 : (c', oc) ∈ all) (hd : oc.data = .fields ovs) (hv : ovs[1]? = some (.str "_digits2int.<locals>.inner" tt)) (hX : X = undigs xs) : Q (.int X tX) { s with heap := h', toks := tk' } :=
  specT_end hret N hoff eg eL F₁ F N' [] [(80, tabObj #[rawInt (81 : Nat), rawInt (4 : Nat), .ref c']), (c', oc), (D, lo)] (fun p hp => nomatch hp)
    (fun p hp => by
      rcases List.mem_cons.mp hp with rfl | hp
      · exact hm2
      · rcases List.mem_cons.mp hp with rfl | hp
        · exact hm3
        · rw [List.mem_singleton.mp hp]; exact hm) (fun q hq => nomatch hq) ⟨⟨tX, by rw [hX]⟩, rfl, c', oc, ovs, tt, rfl, hd, hv⟩
theorem Spec.cast {w : World} {f : Addr} {vs : List Value} {n : Nat} {us : List (Addr × Obj)} {pre : Heap → Prop} {X Y : Int} (h : X = Y) (S : Spec w f vs n us pre (fun v new => (∃ t, v = .int X t) ∧ new = [])) : Spec w f vs n us pre (fun v new => (∃ t, v = .int Y t) ∧ new = []) := h ▸ S
theorem d2i_in {w : World} {fI c' cI cN cD D : Addr} {oc oI oN oD : Obj} {doc pm ct : Value} {vs : List Value} {c : Nat} {ovs : Array Value} {tt tn : Tok} {xs : List Int} (hod : oc.data = .fields ovs) (hov : ovs[1]? = some (.str "_digits2int.<locals>.inner" tt)) (dI : oI.data = .cell (some (.ref fI))) (dN : oN.data = .cell (some (.int 9 tn))) (dD : oD.data = .cell (some (.ref D)))
    (hi : IntsAre vs xs) (hb : ∀ x ∈ xs, 0 ≤ x ∧ x < 512) (h1 : 1 ≤ xs.length) (h3 : xs.length ≤ 3) (ti tr : Tok) :
    Spec w fI [.int 0 ti, .int (xs.length : Int) tr] 4 (d2iUs fI c' cI cN cD D oc oI oN oD doc pm ct vs c) (fun _ => True) (fun v new => (∃ t, v = .int (undigs xs) t) ∧ new = []) := by
  have leaf : ∀ i : Int, 0 ≤ i → i < xs.length → ∀ t t', Spec w fI [.int i t, .int (i + 1) t'] 2 (d2iUs fI c' cI cN cD D oc oI oN oD doc pm ct vs c) (fun _ => True) (fun v new => (∃ t, v = .int (xs.getD i.toNat 0) t) ∧ new = []) :=
    fun i h0 hl t t' => (d2i_leaf hod hov dI dD hi h0 hl (by omega)).up (by omega)
  rcases xs with _ | ⟨x, _ | ⟨y, _ | ⟨z, _ | ⟨q, qs⟩⟩⟩⟩
  · cases h1
  · exact ((leaf 0 (by omega) (by simp only [List.length_cons, List.length_nil]; omega) ti tr).cast (by show x = x + 512 * 0; omega)).up (by omega)
  · have hx := hb x (by simp)
    have hy := hb y (by simp)
    exact (Spec.cast (by show y * 512 + x = x + 512 * (y + 512 * 0); omega) (d2i_rec (n := 2) (by omega) (i := 0) (k2 := 1) (X := x) (Y := y) hod hov dI dN (by omega) (by omega) (.inl rfl) (by omega) hx (fun t t' => leaf 1 (by omega) (by simp only [List.length_cons, List.length_nil]; omega) t t') (fun t t' => leaf 0 (by omega) (by simp only [List.length_cons, List.length_nil]; omega) t t'))).up (by omega)
  · have hx := hb x (by simp)
    have hy := hb y (by simp)
    have hz := hb z (by simp)
    exact Spec.cast (by show (z * 512 + y) * 512 + x = x + 512 * (y + 512 * (z + 512 * 0)); omega) (d2i_rec (n := 3) (by omega) (i := 0) (k2 := 2) (X := x) (Y := z * 512 + y) hod hov dI dN (by omega) (by omega) (.inr rfl) (by omega) hx (fun t t' => (d2i_rec (n := 2) (by omega) (i := 1) (k2 := 1) (X := y) (Y := z) hod hov dI dN (by omega) (by omega) (.inl rfl) (by omega) hy (fun t t' => leaf 2 (by omega) (by simp only [List.length_cons, List.length_nil]; omega) t t') (fun t t' => leaf 1 (by omega) (by simp only [List.length_cons, List.length_nil]; omega) t t'))) (fun t t' => (leaf 0 (by omega) (by simp only [List.length_cons, List.length_nil]; omega) t t').up (by omega)))
  · simp only [List.length_cons] at h3
    omega
noncomputable def d2i_tail_S (w : World) (p : Program) (loose : List Str) (mean : ExcName → Option Value) (mg : Str → Option Value) (mb : Str → Option Value) (dp : Nat) (un : Nat) (gd : Option (List Code)) (cn : Str) (cs : Scope) (L : Addr) (a : Addr) (ccd : Value) (cl : List (Str × Addr)) (outer : List Env) (base : Heap) (g : Heap) (L' : Addr) (m' : Str → Option Value) (s : Shared) (Q : Flow → Shared → Prop) (E : Value → Shared → Prop) (fI : Addr) (c' : Addr) (D : Addr) (oc : Obj) (oI : Obj) (oN : Obj) (oD : Obj) (tb : Obj) (doc : Value) (pm : Value) (ct : Value) (vs : List Value) (c : Nat) (ovs : Array Value) (tt : Tok) (tn : Tok) (xs : List Int) : Prop :=
  ∀ (hod : oc.data = .fields ovs) (hov : ovs[1]? = some (.str "_digits2int.<locals>.inner" tt)) (dI : oI.data = .cell (some (.ref fI))) (dN : oN.data = .cell (some (.int 9 tn))) (dD : oD.data = .cell (some (.ref D))) (hi : IntsAre vs xs) (hb : ∀ x ∈ xs, 0 ≤ x ∧ x < 512) (h3 : xs.length ≤ 3) (B : Below (ktrTop dp un gd cn cs L a ccd cl outer) base (envX cn cs L a ccd cl :: outer) g) (F : Fr g L' s.heap m') (X : (hd.heap_39 w.params).In g) (T : Top p loose mean mg mb g) (N : News g L' s.heap (d2iUs fI c' (L' + 1 + 1 + 1) (L' + 1 + 1) (L' + 1) D oc oI oN oD doc pm ct vs c ++ [(80, tb)])) (hk : cs.kind = .function) (hd : dp + 6 < recursionLimit) (hu : un + 8 * 6 < cLine) (hret : ∀ h' tk' t, Fr g L' h' m' → News g L' h' (d2iUs fI c' (L' + 1 + 1 + 1) (L' + 1 + 1) (L' + 1) D oc oI oN oD doc pm ct vs c ++ [(80, tb)]) → Q (.ret (.int (undigs xs) t)) { s with heap := h', toks := tk' }),
    wpAny (model PySem.Challenge.rw_zo0033_01.row.prog w) ((ktrTop dp un gd cn cs L a ccd cl outer).deeper (envOfC "_digits2int" (fnParts 11).2.2 L' 85 (.ref 84))) (execs [fnSt 11 1] (envOfC "_digits2int" (fnParts 11).2.2 L' 85 (.ref 84))) Q E s
theorem d2i_tail {w : World} {p : Program} {loose : List Str} {mean : ExcName → Option Value} {mg : Str → Option Value} {mb : Str → Option Value} {dp : Nat} {un : Nat} {gd : Option (List Code)} {cn : Str} {cs : Scope} {L : Addr} {a : Addr} {ccd : Value} {cl : List (Str × Addr)} {outer : List Env} {base : Heap} {g : Heap} {L' : Addr} {m' : Str → Option Value} {s : Shared} {Q : Flow → Shared → Prop} {E : Value → Shared → Prop} {fI : Addr} {c' : Addr} {D : Addr} {oc : Obj} {oI : Obj} {oN : Obj} {oD : Obj} {tb : Obj} {doc : Value} {pm : Value} {ct : Value} {vs : List Value} {c : Nat} {ovs : Array Value} {tt : Tok} {tn : Tok} {xs : List Int} : d2i_tail_S w p loose mean mg mb dp un gd cn cs L a ccd cl outer base g L' m' s Q E fI c' D oc oI oN oD tb doc pm ct vs c ovs tt tn xs := by
  refine eps_all (fun x : Sv => d2i_tail_S x.w x.p x.loose x.mean (x.mf 0) (x.mf 1) (x.nat 0) (x.nat 1) (x.oc 0) (x.str 0) (x.sc 0) (x.ad 0) (x.ad 1) (x.val 0) (x.cl 0) (x.env 0) (x.hp 0) (x.hp 1) (x.ad 2) (x.mf 2) (x.sh 0) x.qf (x.qv 0) (x.ad 3) (x.ad 4) (x.ad 5) (x.ob 0) (x.ob 1) (x.ob 2) (x.ob 3) (x.ob 4) (x.val 1) (x.val 2) (x.val 3) (x.vl 0) (x.nat 2) (x.va 0) (x.tok 0) (x.tok 1) (x.il 0)) ?_ (Sv.mk w p loose mean (fun i9 => [base, g].getD i9 base) (fun i9 => [dp, un, c].getD i9 dp) (fun _ => 0) (fun i9 => [L, a, L', fI, c', D].getD i9 L) (fun i9 => [tt, tn].getD i9 tt) (fun i9 => [ccd, doc, pm, ct].getD i9 ccd) (fun i9 => [oc, oI, oN, oD, tb].getD i9 oc) (fun _ => vs) (fun _ => ovs) (fun _ => xs) (fun _ => []) (fun i9 => [mg, mb, m'].getD i9 mg) (fun _ => s) (fun _ => cn) (fun _ => fun _ => "") (fun _ => none) (fun _ => #[]) (fun _ => none) (fun _ => cs) (fun _ => gd) (fun _ => cl) (fun _ => outer) (fun _ => {}) (fun _ => true) Q (fun _ => E))
  clear xs tn tt ovs c vs ct pm doc tb oD oN oI oc D c' fI E Q s m' L' g base outer cl ccd a L cs cn gd un dp mb mg mean loose p w
  refine (?_ : ∀ (w : World) (p : Program) (loose : List Str) (mean : ExcName → Option Value) (mg : Str → Option Value) (mb : Str → Option Value) (dp : Nat) (un : Nat) (gd : Option (List Code)) (cn : Str) (cs : Scope) (L : Addr) (a : Addr) (ccd : Value) (cl : List (Str × Addr)) (outer : List Env) (base : Heap) (g : Heap) (L' : Addr) (m' : Str → Option Value) (s : Shared) (Q : Flow → Shared → Prop) (E : Value → Shared → Prop) (fI : Addr) (c' : Addr) (D : Addr) (oc : Obj) (oI : Obj) (oN : Obj) (oD : Obj) (tb : Obj) (doc : Value) (pm : Value) (ct : Value) (vs : List Value) (c : Nat) (ovs : Array Value) (tt : Tok) (tn : Tok) (xs : List Int), d2i_tail_S w p loose mean mg mb dp un gd cn cs L a ccd cl outer base g L' m' s Q E fI c' D oc oI oN oD tb doc pm ct vs c ovs tt tn xs) _ _ _ _ _ _ _ _ _ _ _ _ _ _ _ _ _ _ _ _ _ _ _ _ _ _ _ _ _ _ _ _ _ _ _ _ _ _ _ _
  intro w p loose mean mg mb dp un gd cn cs L a ccd cl outer base g L' m' s Q E fI c' D oc oI oN oD tb doc pm ct vs c ovs tt tn xs hod hov dI dN dD hi hb h3 B F X T N hk hd hu hret
  have S := fun h1 ti tr => d2i_in (w := w) (fI := fI) (c' := c') (cI := L' + 1 + 1 + 1) (cN := L' + 1 + 1) (cD := L' + 1) (D := D) (oc := oc) (oI := oI) (oN := oN) (oD := oD) (doc := doc) (pm := pm) (ct := ct) (vs := vs) (c := c) hod hov dI dN dD hi hb h1 h3 ti tr
  revert X; k_fill; intro X
  unfold d2iUs d2iFn at *
  generalize hS : d2iIn = S at *
  (conv at hS => lhs; whnf)
  subst hS
  generalize hS : fnParts 11 = S
  (conv at hS => lhs; whnf)
  subst hS
  generalize hS : fnSt 11 1 = S
  (conv at hS => lhs; whnf)
  subst hS
  dsimp only [List.cons_append, List.nil_append] at *
  by_cases he : xs = []
  · subst he
    cases hi
    walk_at "GO"
    exact hret _ _ _ F N
  have h1 : 1 ≤ xs.length := List.length_pos_iff.mpr he
  walk_at "GO"
  k_dflt (refine' Spec.use (S h1 _ _) ?k1 ?k2 ?k3 ?k4 ?k5 ?kK ?kd ?ku ?kus ?kp ?_; (case k1 => k_asm); (case k2 => k_asm); (case k3 => k_asm); (case k4 => k_asm); (case k5 => k_asm); (case kK => first | exact rfl | assumption); (case kd => ktr_room); (case ku => ktr_units); (case kus => kcj_all); (case kp => trivial))
  rintro v1 new1 h1' tk1 ⟨⟨t1, rfl⟩, rfl⟩ F1 N1 l1
  exact hret _ _ _ F1 N1
theorem p1 {α : Type} {a : α} {l l' : List α} (h : a ∈ l') (h2 : ∀ p ∈ l, p ∈ l') : ∀ p ∈ a :: l, p ∈ l' := fun p hp => by
  rcases List.mem_cons.mp hp with rfl | hp
  · exact h
  · exact h2 p hp
noncomputable def d2i_f_S (w : World) (D : Addr) (u : Tok) (c : Nat) (vs : List Value) (xs : List Int) : Prop :=
  ∀ (hD : @LT.lt Nat _ 80 D) (hi : IntsAre vs xs) (hb : ∀ x ∈ xs, 0 ≤ x ∧ x < 512) (h3 : xs.length ≤ 3),
    SpecT w 85 [.ref D, .int 9 u] 6 [(80, tabObj #[]), (D, listOf vs.toArray c)] (fun h => CodeHd h 84 80) (D2iPost D (listOf vs.toArray c) xs)
theorem d2i_f {w : World} {D : Addr} {u : Tok} {c : Nat} {vs : List Value} {xs : List Int} : d2i_f_S w D u c vs xs := by
  refine eps_all (fun x : Sv => d2i_f_S x.w (x.ad 0) (x.tok 0) (x.nat 0) (x.vl 0) (x.il 0)) ?_ (Sv.mk w (default) ([]) (fun _ => none) (fun _ => {}) (fun _ => c) (fun _ => 0) (fun _ => D) (fun _ => u) (fun _ => .none) (fun _ => default) (fun _ => vs) (fun _ => #[]) (fun _ => xs) (fun _ => []) (fun _ => fun _ => none) (fun _ => {}) (fun _ => "") (fun _ => fun _ => "") (fun _ => none) (fun _ => #[]) (fun _ => none) (fun _ => default) (fun _ => none) (fun _ => []) (fun _ => []) (fun _ => {}) (fun _ => true) (fun _ _ => True) (fun _ => fun _ _ => True))
  clear xs vs c u D w
  refine (?_ : ∀ (w : World) (D : Addr) (u : Tok) (c : Nat) (vs : List Value) (xs : List Int), d2i_f_S w D u c vs xs) _ _ _ _ _ _
  intro w D u c vs xs hD hi hb h3
  walk_at "ENTERT"
  iterate 4 walk_at "GO1"
  dsimp only
  (rename News _ _ _ (_ :: _) => n9)
  k_dflt (refine' d2i_tail (c := c) (vs := vs) (N := kst_newsOf n9 (p1 ?m1 (p1 ?m2 (p1 ?m3 (p1 ?m4 (p1 ?m5 (p1 ?m6 (p1 ?m7 (fun _ h => nomatch h)))))))) ) (hod := ?a1) (hov := ?a2) (dI := ?a3) (dN := ?a4) (dD := ?a5) (hi := hi) (hb := hb) (h3 := h3) (B := ?a6) (F := ?a7) (X := ?a8) (T := ?a9) (hk := ?b1) (hd := ?b2) (hu := ?b3) (hret := ?_); (case m1 => k_mem); (case m2 => k_mem); (case m3 => k_mem); (case m4 => k_mem); (case m5 => k_mem); (case m6 => k_mem); (case m7 => k_mem); (case a1 => assumption); (case a2 => assumption); (case a3 => assumption); (case a4 => assumption); (case a5 => assumption); (case a6 => assumption); (case a7 => assumption); (case a8 => assumption); (case a9 => assumption); (case b1 => assumption); (case b2 => assumption); (case b3 => assumption))
  intro h9 tk9 t9 F9 N9
  unfold d2iUs at N9
  dsimp only [List.cons_append, List.nil_append] at N9 ⊢
  walk_at "GO"
  exact d2i_end (by assumption) (by assumption) (by assumption) (by assumption) (by assumption) (by assumption) (by assumption) (by assumption) (by k_mem) (by k_mem) (by k_mem) (by assumption) (by assumption) rfl
noncomputable def d2i_h_S (w : World) (D : Addr) (u : Tok) (c : Nat) (vs : List Value) (xs : List Int) (c' : Nat) (oc : Obj) (ovs : Array Value) (tt : Tok) : Prop :=
  ∀ (hod : oc.data = .fields ovs) (hov : ovs[1]? = some (.str "_digits2int.<locals>.inner" tt)) (hD : @LT.lt Nat _ 80 D) (hi : IntsAre vs xs) (hb : ∀ x ∈ xs, 0 ≤ x ∧ x < 512) (h3 : xs.length ≤ 3),
    SpecT w 85 [.ref D, .int 9 u] 6 [(80, tabObj #[rawInt (81 : Nat), rawInt (4 : Nat), .ref c']), (c', oc), (D, listOf vs.toArray c)] (fun h => CodeHd h 84 80) (D2iPost D (listOf vs.toArray c) xs)
theorem d2i_h {w : World} {D : Addr} {u : Tok} {c : Nat} {vs : List Value} {xs : List Int} {c' : Nat} {oc : Obj} {ovs : Array Value} {tt : Tok} : d2i_h_S w D u c vs xs c' oc ovs tt := by
  refine eps_all (fun x : Sv => d2i_h_S x.w (x.ad 0) (x.tok 0) (x.nat 0) (x.vl 0) (x.il 0) (x.nat 1) (x.ob 0) (x.va 0) (x.tok 1)) ?_ (Sv.mk w (default) ([]) (fun _ => none) (fun _ => {}) (fun i9 => [c, c'].getD i9 c) (fun _ => 0) (fun _ => D) (fun i9 => [u, tt].getD i9 u) (fun _ => .none) (fun _ => oc) (fun _ => vs) (fun _ => ovs) (fun _ => xs) (fun _ => []) (fun _ => fun _ => none) (fun _ => {}) (fun _ => "") (fun _ => fun _ => "") (fun _ => none) (fun _ => #[]) (fun _ => none) (fun _ => default) (fun _ => none) (fun _ => []) (fun _ => []) (fun _ => {}) (fun _ => true) (fun _ _ => True) (fun _ => fun _ _ => True))
  clear tt ovs oc c' xs vs c u D w
  refine (?_ : ∀ (w : World) (D : Addr) (u : Tok) (c : Nat) (vs : List Value) (xs : List Int) (c' : Nat) (oc : Obj) (ovs : Array Value) (tt : Tok), d2i_h_S w D u c vs xs c' oc ovs tt) _ _ _ _ _ _ _ _ _ _
  intro w D u c vs xs c' oc ovs tt hod hov hD hi hb h3
  walk_at "ENTERT"
  iterate 4 walk_at "GO1"
  dsimp only
  (rename News _ _ _ (_ :: _) => n9)
  k_dflt (refine' d2i_tail (c := c) (vs := vs) (N := kst_newsOf n9 (p1 ?m1 (p1 ?m2 (p1 ?m3 (p1 ?m4 (p1 ?m5 (p1 ?m6 (p1 ?m7 (fun _ h => nomatch h)))))))) ) (hod := ?a1) (hov := ?a2) (dI := ?a3) (dN := ?a4) (dD := ?a5) (hi := hi) (hb := hb) (h3 := h3) (B := ?a6) (F := ?a7) (X := ?a8) (T := ?a9) (hk := ?b1) (hd := ?b2) (hu := ?b3) (hret := ?_); (case m1 => k_mem); (case m2 => k_mem); (case m3 => k_mem); (case m4 => k_mem); (case m5 => k_mem); (case m6 => k_mem); (case m7 => k_mem); (case a1 => assumption); (case a2 => assumption); (case a3 => assumption); (case a4 => assumption); (case a5 => assumption); (case a6 => assumption); (case a7 => assumption); (case a8 => assumption); (case a9 => assumption); (case b1 => assumption); (case b2 => assumption); (case b3 => assumption))
  intro h9 tk9 t9 F9 N9
  unfold d2iUs at N9
  dsimp only [List.cons_append, List.nil_append] at N9 ⊢
  walk_at "GO"
  exact d2i_end (by assumption) (by assumption) (by assumption) (by assumption) (by assumption) (by assumption) (by assumption) (by assumption) (by k_mem) (by k_mem) (by k_mem) (by assumption) (by assumption) rfl
noncomputable def forBd (x : Stmt) : List Stmt := match x with | .For _ _ b _ _ => b | _ => []
theorem fn3 {m : Str → Option Value} {x y z : Str} {a b c : Option Value} (h1 : m x = a) (h2 : m y = b) (h3 : m z = c) : ∃ m8 : Str → Option Value, m = fun q : Str => if q = x then a else if q = y then b else if q = z then c else m8 q := ⟨m, by
  funext q
  by_cases e1 : q = x
  · subst e1; rw [if_pos rfl]; exact h1
  rw [if_neg e1]
  by_cases e2 : q = y
  · subst e2; rw [if_pos rfl]; exact h2
  rw [if_neg e2]
  by_cases e3 : q = z
  · subst e3; rw [if_pos rfl]; exact h3
  rw [if_neg e3]⟩
end
theorem reset_T1 : True := by
  w_top off
  k_with_none
  (k_with "OM" => with_reducible first | assumption | decide | (refine Nat.ne_of_lt ?_; k_extra "OP") | (refine o_n ?_; k_extra "OP") | k_extra "OP" | exact o_1 | exact o_2 | exact o_3 | exact o_4 | exact o_5 | exact o_6 | exact o_7 | exact o_8 | exact o_9 | exact o_10 | exact o_11 | exact o_12 | exact o_13 | exact o_14 | exact o_15 | exact o_16 | exact o_17 | exact o_18 | exact o_s1 | exact o_s2 | exact o_s3 | exact o_s4 | exact o_s5 | exact o_s6 | exact o_s7 | exact o_s8 | exact o_s9 | exact o_s10 | exact o_s11 | exact o_s12 | exact o_s13 | exact o_s14 | exact o_s15 | exact o_s16 | exact o_r 1 | exact o_r 2 | exact o_r 3 | exact o_r 4 | exact o_r 5 | exact o_r 6 | exact o_r 7 | exact o_r 8 | exact o_r 9 | exact o_r 10 | exact o_r 11 | exact o_r 12 | exact o_r 13 | exact o_r 14 | exact o_r 15 | exact o_r 16 | exact o_u1 | exact o_u2 | exact o_u3 | exact o_e1 | exact o_e2 | exact o_e3 | exact o_e4 | exact o_m1 | exact o_c1 | exact o_c2 | exact o_c3 | exact o_c4 | exact o_c5 | exact o_n1 | exact o_n2 | exact o_n3 | exact o_n4 | exact o_d1 | fail)
  (k_with "OP" => first | k_extra "OB" | exact o_p1 | exact o_p2 | exact o_p3 | exact o_p4 | (refine o_l 1 ?_; k_extra "OB") | (refine o_l 2 ?_; k_extra "OB") | (refine o_l 3 ?_; k_extra "OB") | (refine o_l 4 ?_; k_extra "OB") | fail)
  (k_with "OB" => first | assumption | (refine o_pk ?_; k_extra "OK") | fail)
  (k_with "OK" => first | exact And.left | exact And.right | (refine o_sk ?_; k_extra "OK") | fail)
  (k_with "ENTER" => (
  refine spec_eps ?_
  refine (?_ : Spec _ _ _ _ _ _ _) _ _ _ _ _ _ _ _ _ _ _ _ _ _ _ _ _ _ _ _ _ _ _
  intro p₉₉ loose₉₉ mean₉₉ mg₉₉ mb₉₉ dp₉₉ un₉₉ gd₉₉ cn₉₉ cs₉₉ a₉₉ ccd₉₉ cl₉₉ outer₉₉ A₀₉₉ base₉₉ h₀₉₉ L₉₉ m₉₉ news₉₉ s₉₉ Q₉₉ E₉₉
  unfold SpecB
  k_fill
  intro B₉₉ F₉₉ X₉₉ N₉₉ T₉₉ hk₉₉ hd₉₉ hu₉₉ hus₉₉ hpre₉₉ hret₉₉
  refine wpAny_call ?_
  k_dflt (refine' code_us ?k1 ?k2 ?k3 ?k4 ?k5 ?kA ?kF ?kK ?k6 ?k7 ?k8 ?k9 ?kB ?_ ?c2 ?c3 ?c4 ?c5; (case kA => exact rfl); (case kF => exact rfl); (case kK => assumption); (case k1 => k_asm); (case k2 => k_asm); (case k3 => k_asm); (case k4 => exact fun p₉₉ hp => N₉₉ p₉₉ (hus₉₉ p₉₉ hp)); (case k5 => k_asm); (case k6 => k_is); (case k7 => k_is); (case k8 => ktr_room); (case k9 => first | k_extra "binds" | exact BindsTo.of_eq rfl); (case c5 => decide); (case kB => exact locs rfl); (case c2 => exact rfl); (case c3 => exact rfl); (case c4 => exact rfl); k_whole)
  intro g'₉₉ L'₉₉ h'₉₉ eL₉₉ eg₉₉ FG'₉₉ F'₉₉ N'₉₉ B'₉₉ X'₉₉ T'₉₉ lU₉₉
  (try dsimp only)
  k_fold
  (try k_lt lU₉₉)
  clear F₉₉))
  (k_with "END1" => (
  refine spec_end1 (by assumption) (by assumption) (by assumption) (by assumption) (by assumption) (by assumption) (by assumption) (by assumption) (by kcj_all) (by first | assumption | (dsimp only; omega)) ?_))
  (k_with "GO" => repeat' (first | (k_unfold; (try dsimp only)) | (k_end; wrow_close) | walk1 | (dsimp only; k_unfold; (try dsimp only)) | (dsimp only; walk1) | (leave1; (try dsimp only)) | fail "no step"))
  (k_with "GO1" => (first | (k_unfold; (try dsimp only)) | (k_end; wrow_close) | walk1 | (dsimp only; k_unfold; (try dsimp only)) | (dsimp only; walk1) | (leave1; (try dsimp only)) | fail "no step"))
  first | walk1 | trivial
section
set_option Elab.async false
set_option maxRecDepth 100000
set_option maxHeartbeats 8000000
set_option pp.deepTerms false
set_option pp.maxSteps 4000
theorem reg_T1_7 : True := by
  (k_with "exec For Name Name cons nil" => (k_here; (rename Fr _ _ _ _ => lF'₉₉); (with_unfolding_all refine' For_invVF lF'₉₉ ?k1 ?k2 ?_; (case k1 => exact rfl); (case k2 => exact rfl); k_whole)))
  trivial
local macro_rules | `(tactic| k_all) => `(tactic| assumption)
noncomputable def fgs : Int → List Int → List Int
  | _, [] => []
  | n, z :: zs => n.fmod z :: fgs (n.fdiv z) zs
noncomputable def fgr : Int → List Int → Int
  | n, [] => n
  | n, z :: zs => fgr (n.fdiv z) zs
theorem fg_append1 {qs : List Value} {xs : List Int} (h : IntsAre qs xs) (x : Int) (t : Tok) : IntsAre (qs ++ [Value.int x t]) (xs ++ [x]) := by
  induction h with
  | nil => exact .cons _ _ .nil
  | cons _ _ _ ih => exact .cons _ _ ih
theorem ints_cons {qs : List Value} {x : Int} {xs : List Int} (h : IntsAre qs (x :: xs)) : ∃ t qs', qs = Value.int x t :: qs' ∧ IntsAre qs' xs := by
  cases h with
  | cons _ t h => exact ⟨t, _, rfl, h⟩
theorem ints_nil {qs : List Value} (h : IntsAre qs []) : qs = [] := by cases h; rfl
theorem ints6 {qs : List Value} {a b c d e f : Int} (h : IntsAre qs [a, b, c, d, e, f]) : ∃ t1 t2 t3 t4 t5 t6, qs = [Value.int a t1, Value.int b t2, Value.int c t3, Value.int d t4, Value.int e t5, Value.int f t6] := by
  obtain ⟨t1, q1, e1, h⟩ := ints_cons h
  obtain ⟨t2, q2, e2, h⟩ := ints_cons h
  obtain ⟨t3, q3, e3, h⟩ := ints_cons h
  obtain ⟨t4, q4, e4, h⟩ := ints_cons h
  obtain ⟨t5, q5, e5, h⟩ := ints_cons h
  obtain ⟨t6, q6, e6, h⟩ := ints_cons h
  have e7 := ints_nil h
  exact ⟨t1, t2, t3, t4, t5, t6, by rw [e1, e2, e3, e4, e5, e6, e7]⟩
noncomputable def fig_turn_S (w : World) (p : Program) (loose : List Str) (mean : ExcName → Option Value) (mg : Str → Option Value) (mb : Str → Option Value) (dp : Nat) (un : Nat) (gd : Option (List Code)) (cn : Str) (cs : Scope) (L : Addr) (b : Addr) (ccd : Value) (cl : List (Str × Addr)) (outer : List Env) (base : Heap) (g : Heap) (L' : Addr) (m : Str → Option Value) (s : Shared) (Q : Flow → Shared → Prop) (E : Value → Shared → Prop) (D : Addr) (qs : List Value) (cq : Nat) (n : Int) (z : Int) (tn : Tok) (tz : Tok) (tail : List (Addr × Obj)) : Prop :=
  ∀ (hz : 0 < z ∧ z < 100) (hl : qs.length ≤ 8) (mZ : m "size" = some (.int z tz)) (mN : m "number" = some (.int n tn)) (mD : m "figures" = some (.ref D)) (B : Below (ktrTop dp un gd cn cs L b ccd cl outer) base (envX cn cs L b ccd cl :: outer) g) (F : Fr g L' s.heap m) (X : (hd.heap_39 w.params).In g) (T : Top p loose mean mg mb g) (N : News g L' s.heap ((D, listOf qs.toArray cq) :: tail)) (hoff : ∀ p ∈ tail, @Ne Nat p.1 D) (hk : cs.kind = .function) (hd : dp + 3 < recursionLimit) (hu : un + 8 * 3 < cLine) (hret : ∀ h' tk' m' tq tr', m' "number" = some (.int (n.fdiv z) tr') → (∀ y : Str, y ≠ "number" → m' y = m y) → Fr g L' h' m' → News g L' h' ((D, listOf (qs ++ [Value.int (n.fmod z) tq]).toArray (cq + 1)) :: tail) → Q .next { s with heap := h', toks := tk' }),
    wpAny (model PySem.Challenge.rw_zo0033_01.row.prog w) ((ktrTop dp un gd cn cs L b ccd cl outer).deeper (envOf "_law_figures" (fnParts 21).2.2 L' 127 (.ref 126))) (execs (forBd (fnSt 21 1)) (envOf "_law_figures" (fnParts 21).2.2 L' 127 (.ref 126))) Q E s
theorem fig_turn {w : World} {p : Program} {loose : List Str} {mean : ExcName → Option Value} {mg : Str → Option Value} {mb : Str → Option Value} {dp : Nat} {un : Nat} {gd : Option (List Code)} {cn : Str} {cs : Scope} {L : Addr} {b : Addr} {ccd : Value} {cl : List (Str × Addr)} {outer : List Env} {base : Heap} {g : Heap} {L' : Addr} {m : Str → Option Value} {s : Shared} {Q : Flow → Shared → Prop} {E : Value → Shared → Prop} {D : Addr} {qs : List Value} {cq : Nat} {n : Int} {z : Int} {tn : Tok} {tz : Tok} {tail : List (Addr × Obj)} : fig_turn_S w p loose mean mg mb dp un gd cn cs L b ccd cl outer base g L' m s Q E D qs cq n z tn tz tail := by
  refine eps_all (fun x : Sv => fig_turn_S x.w x.p x.loose x.mean (x.mf 0) (x.mf 1) (x.nat 0) (x.nat 1) (x.oc 0) (x.str 0) (x.sc 0) (x.ad 0) (x.ad 1) (x.val 0) (x.cl 0) (x.env 0) (x.hp 0) (x.hp 1) (x.ad 2) (x.mf 2) (x.sh 0) x.qf (x.qv 0) (x.ad 3) (x.vl 0) (x.nat 2) (x.int 0) (x.int 1) (x.tok 0) (x.tok 1) (x.ol 0)) ?_ (Sv.mk w p loose mean (fun i9 => [base, g].getD i9 base) (fun i9 => [dp, un, cq].getD i9 dp) (fun i9 => [n, z].getD i9 n) (fun i9 => [L, b, L', D].getD i9 L) (fun i9 => [tn, tz].getD i9 tn) (fun _ => ccd) (fun _ => default) (fun _ => qs) (fun _ => #[]) (fun _ => []) (fun _ => tail) (fun i9 => [mg, mb, m].getD i9 mg) (fun _ => s) (fun _ => cn) (fun _ => fun _ => "") (fun _ => none) (fun _ => #[]) (fun _ => none) (fun _ => cs) (fun _ => gd) (fun _ => cl) (fun _ => outer) (fun _ => {}) (fun _ => true) Q (fun _ => E))
  clear tail tz tn z n cq qs D E Q s m L' g base outer cl ccd b L cs cn gd un dp mb mg mean loose p w
  refine (?_ : ∀ (w : World) (p : Program) (loose : List Str) (mean : ExcName → Option Value) (mg : Str → Option Value) (mb : Str → Option Value) (dp : Nat) (un : Nat) (gd : Option (List Code)) (cn : Str) (cs : Scope) (L : Addr) (b : Addr) (ccd : Value) (cl : List (Str × Addr)) (outer : List Env) (base : Heap) (g : Heap) (L' : Addr) (m : Str → Option Value) (s : Shared) (Q : Flow → Shared → Prop) (E : Value → Shared → Prop) (D : Addr) (qs : List Value) (cq : Nat) (n : Int) (z : Int) (tn : Tok) (tz : Tok) (tail : List (Addr × Obj)), fig_turn_S w p loose mean mg mb dp un gd cn cs L b ccd cl outer base g L' m s Q E D qs cq n z tn tz tail) _ _ _ _ _ _ _ _ _ _ _ _ _ _ _ _ _ _ _ _ _ _ _ _ _ _ _ _ _ _ _
  intro w p loose mean mg mb dp un gd cn cs L b ccd cl outer base g L' m s Q E D qs cq n z tn tz tail hz hl mZ mN mD B F X T N hoff hk hd hu hret
  revert X; k_fill; intro X
  generalize hS : fnParts 21 = S at *
  (conv at hS => lhs; whnf)
  subst hS
  generalize hS : forBd (fnSt 21 1) = S
  (conv at hS => lhs; whnf)
  subst hS
  dsimp only at *
  obtain ⟨m, rfl⟩ := fn3 mZ mN mD
  walk_at "GO"
  dsimp only
  (rename News _ _ _ _ => n9)
  (rename Fr _ _ _ (fun _ => _) => f9)
  rw [List.push_toArray] at n9
  exact hret _ _ _ _ _ (if_pos rfl) (fun y q1 => if_neg q1) f9 n9
noncomputable def fig_loop_S (w : World) (p : Program) (loose : List Str) (mean : ExcName → Option Value) (mg : Str → Option Value) (mb : Str → Option Value) (dp : Nat) (un : Nat) (gd : Option (List Code)) (cn : Str) (cs : Scope) (L : Addr) (b : Addr) (ccd : Value) (cl : List (Str × Addr)) (outer : List Env) (base : Heap) (g : Heap) (L' : Addr) (s : Shared) (Q : Flow → Shared → Prop) (E : Value → Shared → Prop) (D : Addr) (I : Addr) (l : Addr) (lo : Obj) (tail : List (Addr × Obj)) (mN0 : Str → Option Value) : Prop :=
  ∀ (B : Below (ktrTop dp un gd cn cs L b ccd cl outer) base (envX cn cs L b ccd cl :: outer) g) (X : (hd.heap_39 w.params).In g) (T : Top p loose mean mg mb g) (hm1 : (l, lo) ∈ tail) (hoff : ∀ p ∈ tail, @Ne Nat p.1 D) (hoI : ∀ p ∈ tail, @Ne Nat p.1 I) (hI : @Ne Nat I D) (hk : cs.kind = .function) (hd : dp + 3 < recursionLimit) (hu : un + 8 * 3 < cLine) (mD : mN0 "figures" = some (.ref D)),
    ∀ (ys : List Value) (zs : List Int) (qs : List Value) (xs : List Int) (cq : Nat) (n : Int) (tn : Tok) (m : Str → Option Value), IntsAre ys zs → (∀ z ∈ zs, 0 < z ∧ z < 100) → IntsAre qs xs → qs.length + ys.length ≤ 8 → m "number" = some (.int n tn) → (∀ y : Str, y ≠ "number" → y ≠ "size" → m y = mN0 y) →
      (∀ h tk m' qs' tn', IntsAre qs' (xs ++ fgs n zs) → m' "number" = some (.int (fgr n zs) tn') → (∀ y : Str, y ≠ "number" → y ≠ "size" → m' y = mN0 y) → Fr g L' h m' → News g L' h ((D, listOf qs'.toArray (cq + zs.length)) :: tail) → Q .next { s with heap := h, toks := tk }) →
      ListRest PySem.Challenge.rw_zo0033_01.row.prog w ((ktrTop dp un gd cn cs L b ccd cl outer).deeper (envOf "_law_figures" (fnParts 21).2.2 L' 127 (.ref 126))) E g (envOf "_law_figures" (fnParts 21).2.2 L' 127 (.ref 126)) "size" (forBd (fnSt 21 1)) Q s I (l, lo) ys m ((D, listOf qs.toArray cq) :: tail)
theorem fig_loop {w : World} {p : Program} {loose : List Str} {mean : ExcName → Option Value} {mg : Str → Option Value} {mb : Str → Option Value} {dp : Nat} {un : Nat} {gd : Option (List Code)} {cn : Str} {cs : Scope} {L : Addr} {b : Addr} {ccd : Value} {cl : List (Str × Addr)} {outer : List Env} {base : Heap} {g : Heap} {L' : Addr} {s : Shared} {Q : Flow → Shared → Prop} {E : Value → Shared → Prop} {D : Addr} {I : Addr} {l : Addr} {lo : Obj} {tail : List (Addr × Obj)} {mN0 : Str → Option Value} : fig_loop_S w p loose mean mg mb dp un gd cn cs L b ccd cl outer base g L' s Q E D I l lo tail mN0 := by
  refine eps_all (fun x : Sv => fig_loop_S x.w x.p x.loose x.mean (x.mf 0) (x.mf 1) (x.nat 0) (x.nat 1) (x.oc 0) (x.str 0) (x.sc 0) (x.ad 0) (x.ad 1) (x.val 0) (x.cl 0) (x.env 0) (x.hp 0) (x.hp 1) (x.ad 2) (x.sh 0) x.qf (x.qv 0) (x.ad 3) (x.ad 4) (x.ad 5) (x.ob 0) (x.ol 0) (x.mf 2)) ?_ (Sv.mk w p loose mean (fun i9 => [base, g].getD i9 base) (fun i9 => [dp, un].getD i9 dp) (fun _ => 0) (fun i9 => [L, b, L', D, I, l].getD i9 L) (fun _ => default) (fun _ => ccd) (fun _ => lo) (fun _ => []) (fun _ => #[]) (fun _ => []) (fun _ => tail) (fun i9 => [mg, mb, mN0].getD i9 mg) (fun _ => s) (fun _ => cn) (fun _ => fun _ => "") (fun _ => none) (fun _ => #[]) (fun _ => none) (fun _ => cs) (fun _ => gd) (fun _ => cl) (fun _ => outer) (fun _ => {}) (fun _ => true) Q (fun _ => E))
  clear mN0 tail lo l I D E Q s L' g base outer cl ccd b L cs cn gd un dp mb mg mean loose p w
  refine (?_ : ∀ (w : World) (p : Program) (loose : List Str) (mean : ExcName → Option Value) (mg : Str → Option Value) (mb : Str → Option Value) (dp : Nat) (un : Nat) (gd : Option (List Code)) (cn : Str) (cs : Scope) (L : Addr) (b : Addr) (ccd : Value) (cl : List (Str × Addr)) (outer : List Env) (base : Heap) (g : Heap) (L' : Addr) (s : Shared) (Q : Flow → Shared → Prop) (E : Value → Shared → Prop) (D : Addr) (I : Addr) (l : Addr) (lo : Obj) (tail : List (Addr × Obj)) (mN0 : Str → Option Value), fig_loop_S w p loose mean mg mb dp un gd cn cs L b ccd cl outer base g L' s Q E D I l lo tail mN0) _ _ _ _ _ _ _ _ _ _ _ _ _ _ _ _ _ _ _ _ _ _ _ _ _ _ _ _
  intro w p loose mean mg mb dp un gd cn cs L b ccd cl outer base g L' s Q E D I l lo tail mN0 B X T hm1 hoff hoI hI hk hd hu mD
  intro ys
  induction ys with
  | nil =>
    intro zs qs xs cq n tn m hz hb hq hl mR hm fin
    cases hz
    exact ListRest.zero fun h tk F N => fin h tk m qs tn (by rw [fgs, List.append_nil]; exact hq) mR hm F N
  | cons y ys ih =>
    intro zs qs xs cq n tn m hz hb hq hl mR hm fin
    cases hz with
    | cons z tz hz =>
      rename_i zs
      refine ListRest.succ fun it h tk hcls F N => ?_
      refine fig_turn (m := fun y => if y = "size" then some (.int z tz) else m y) (tail := (I, it) :: tail) (qs := qs) (cq := cq) (hb z (.head _)) (by simp only [List.length_cons] at hl; omega) (if_pos rfl) ((if_neg (by decide)).trans mR) ((if_neg (by decide)).trans ((hm _ (by decide) (by decide)).trans mD)) B F X T (fun p hp => N p ?_) (fun p hp => ?_) hk hd hu fun h' tk' m' tq tr' hr' hm' F' N' => ?_
      · rcases List.mem_cons.mp hp with rfl | hp
        · exact .tail _ (.head _)
        rcases List.mem_cons.mp hp with rfl | hp
        · exact .head _
        · exact .tail _ (.tail _ hp)
      · rcases List.mem_cons.mp hp with rfl | hp
        · exact hI
        · exact hoff p hp
      · refine ⟨h', tk', m', (D, listOf (qs ++ [Value.int (n.fmod z) tq]).toArray (cq + 1)) :: tail, rfl, F', fun p hp => N' p ?_, fun p hp => ?_, .tail _ hm1, ?_⟩
        · rcases List.mem_cons.mp hp with rfl | hp
          · exact .tail _ (.head _)
          rcases List.mem_cons.mp hp with rfl | hp
          · exact .head _
          · exact .tail _ (.tail _ hp)
        · rcases List.mem_cons.mp hp with rfl | hp
          · exact hI.symm
          · exact hoI p hp
        · refine ih zs _ (xs ++ [n.fmod z]) (cq + 1) _ tr' m' hz (fun q hq => hb q (.tail _ hq)) (fg_append1 hq _ _) (by simp only [List.length_cons, List.length_append, List.length_nil] at hl ⊢; omega) hr' (fun y q1 q2 => (hm' y q1).trans ((if_neg q2).trans (hm y q1 q2))) fun h2 tk2 m2 qs2 tr2 hq2 hr2 hm2 F2 N2 => fin h2 tk2 m2 qs2 tr2 (by rw [fgs]; rw [List.append_assoc] at hq2; exact hq2) hr2 hm2 F2 (by rw [List.length_cons, show cq + (zs.length + 1) = cq + 1 + zs.length by omega]; exact N2)
noncomputable def fig_spec_S (w : World) (l : Addr) (a : Int) (t1 : Tok) (t2 : Tok) (t3 : Tok) (t4 : Tok) (t5 : Tok) (t6 : Tok) (t : Tok) (c : Nat) : Prop :=
  Spec w 127 [.int a t, .ref l] 3 [(l, listOf #[.int 5 t1, .int 6 t2, .int 3 t3, .int 3 t4, .int 3 t5, .int 4 t6] c)] (fun _ => True)
    (fun v new => ∃ (D : Addr) (t1 t2 t3 t4 t5 t6 : Tok), v = .ref D ∧ new = [(D, listOf #[.int (a.fmod 5) t1, .int ((a.fdiv 5).fmod 6) t2, .int (((a.fdiv 5).fdiv 6).fmod 3) t3, .int ((((a.fdiv 5).fdiv 6).fdiv 3).fmod 3) t4, .int (((((a.fdiv 5).fdiv 6).fdiv 3).fdiv 3).fmod 3) t5, .int ((((((a.fdiv 5).fdiv 6).fdiv 3).fdiv 3).fdiv 3).fmod 4) t6] 6)])
theorem fig_spec {w : World} {l : Addr} {a : Int} {t1 : Tok} {t2 : Tok} {t3 : Tok} {t4 : Tok} {t5 : Tok} {t6 : Tok} {t : Tok} {c : Nat} : fig_spec_S w l a t1 t2 t3 t4 t5 t6 t c := by
  refine eps_all (fun x : Sv => fig_spec_S x.w (x.ad 0) (x.int 0) (x.tok 0) (x.tok 1) (x.tok 2) (x.tok 3) (x.tok 4) (x.tok 5) (x.tok 6) (x.nat 0)) ?_ (Sv.mk w (default) ([]) (fun _ => none) (fun _ => {}) (fun _ => c) (fun _ => a) (fun _ => l) (fun i9 => [t1, t2, t3, t4, t5, t6, t].getD i9 t1) (fun _ => .none) (fun _ => default) (fun _ => []) (fun _ => #[]) (fun _ => []) (fun _ => []) (fun _ => fun _ => none) (fun _ => {}) (fun _ => "") (fun _ => fun _ => "") (fun _ => none) (fun _ => #[]) (fun _ => none) (fun _ => default) (fun _ => none) (fun _ => []) (fun _ => []) (fun _ => {}) (fun _ => true) (fun _ _ => True) (fun _ => fun _ _ => True))
  clear c t t6 t5 t4 t3 t2 t1 a l w
  refine (?_ : ∀ (w : World) (l : Addr) (a : Int) (t1 : Tok) (t2 : Tok) (t3 : Tok) (t4 : Tok) (t5 : Tok) (t6 : Tok) (t : Tok) (c : Nat), fig_spec_S w l a t1 t2 t3 t4 t5 t6 t c) _ _ _ _ _ _ _ _ _ _ _
  intro w l a t1 t2 t3 t4 t5 t6 t c 
  unfold fig_spec_S
  walk_at "ENTER"
  iterate 10 walk_at "GO1"
  (rename Fr _ _ _ (fun _ => _) => f9)
  (rename News _ _ _ (_ :: _) => n9)
  k_dflt (refine' iter_listUnr (ax := l) (lo := listOf #[.int 5 t1, .int 6 t2, .int 3 t3, .int 3 t4, .int 3 t5, .int 4 t6] c) (vs := [.int 5 t1, .int 6 t2, .int 3 t3, .int 3 t4, .int 3 t5, .int 4 t6]) ?k1 f9 n9 ?km ?kc ?kd (fun I9 lI9 => ?_); (case k1 => rfl); (case km => k_mem); (case kc => rfl); (case kd => rfl))
  k_dflt (refine' fig_loop (tail := [(l, listOf #[.int 5 t1, .int 6 t2, .int 3 t3, .int 3 t4, .int 3 t5, .int 4 t6] c)]) ?B ?X ?T ?hm ?ho ?hI ?hQ ?hk ?hd ?hu ?mD [.int 5 t1, .int 6 t2, .int 3 t3, .int 3 t4, .int 3 t5, .int 4 t6] [5, 6, 3, 3, 3, 4] [] [] 0 a t _ ?hz ?hb .nil ?hl ?mR ?hm0 ?fin; (case hm0 => exact fun _ _ _ => rfl); (case B => assumption); (case X => assumption); (case T => assumption); (case hk => assumption); (case hd => assumption); (case hu => assumption); (case hm => exact .head _); (case ho => (intro p hp; rw [List.mem_singleton.mp hp]; dsimp only; omega)); (case hI => exact fun p hp => Nat.ne_of_lt (lI9 p (.tail _ hp))); (case hQ => exact Nat.ne_of_gt (lI9 _ (.head _))); (case mD => exact rfl); (case mR => exact rfl); (case hz => exact .cons _ _ (.cons _ _ (.cons _ _ (.cons _ _ (.cons _ _ (.cons _ _ .nil)))))); (case hb => decide); (case hl => exact Nat.le_of_ble_eq_true rfl))
  intro h9 tk9 m9 qs9 tn9 hq9 hr9 hm9 F9 N9
  obtain ⟨u1, u2, u3, u4, u5, u6, rfl⟩ := ints6 hq9
  clear hq9
  have e1 : m9 "figures" = some (.ref _) := hm9 "figures" (by decide) (by decide)
  clear hm9
  obtain ⟨m8, rfl⟩ := fn3 hr9 e1 e1
  clear hr9 e1
  walk_at "GO"
  walk_at "END1"
  exact ⟨_, _, _, _, _, _, _, rfl, rfl⟩
end
theorem reset_T6 : True := by
  w_top off
  k_with_none
  (k_with "OM" => with_reducible first | assumption | decide | (refine Nat.ne_of_lt ?_; k_extra "OP") | (refine o_n ?_; k_extra "OP") | k_extra "OP" | exact o_1 | exact o_2 | exact o_3 | exact o_4 | exact o_5 | exact o_6 | exact o_7 | exact o_8 | exact o_9 | exact o_10 | exact o_11 | exact o_12 | exact o_13 | exact o_14 | exact o_15 | exact o_16 | exact o_17 | exact o_18 | exact o_s1 | exact o_s2 | exact o_s3 | exact o_s4 | exact o_s5 | exact o_s6 | exact o_s7 | exact o_s8 | exact o_s9 | exact o_s10 | exact o_s11 | exact o_s12 | exact o_s13 | exact o_s14 | exact o_s15 | exact o_s16 | exact o_r 1 | exact o_r 2 | exact o_r 3 | exact o_r 4 | exact o_r 5 | exact o_r 6 | exact o_r 7 | exact o_r 8 | exact o_r 9 | exact o_r 10 | exact o_r 11 | exact o_r 12 | exact o_r 13 | exact o_r 14 | exact o_r 15 | exact o_r 16 | exact o_u1 | exact o_u2 | exact o_u3 | exact o_e1 | exact o_e2 | exact o_e3 | exact o_e4 | exact o_m1 | exact o_c1 | exact o_c2 | exact o_c3 | exact o_c4 | exact o_c5 | exact o_n1 | exact o_n2 | exact o_n3 | exact o_n4 | exact o_d1 | fail)
  (k_with "OP" => first | k_extra "OB" | exact o_p1 | exact o_p2 | exact o_p3 | exact o_p4 | (refine o_l 1 ?_; k_extra "OB") | (refine o_l 2 ?_; k_extra "OB") | (refine o_l 3 ?_; k_extra "OB") | (refine o_l 4 ?_; k_extra "OB") | fail)
  (k_with "OB" => first | assumption | (refine o_pk ?_; k_extra "OK") | fail)
  (k_with "OK" => first | exact And.left | exact And.right | (refine o_sk ?_; k_extra "OK") | fail)
  (k_with "ENTER" => (
  refine spec_eps ?_
  refine (?_ : Spec _ _ _ _ _ _ _) _ _ _ _ _ _ _ _ _ _ _ _ _ _ _ _ _ _ _ _ _ _ _
  intro p₉₉ loose₉₉ mean₉₉ mg₉₉ mb₉₉ dp₉₉ un₉₉ gd₉₉ cn₉₉ cs₉₉ a₉₉ ccd₉₉ cl₉₉ outer₉₉ A₀₉₉ base₉₉ h₀₉₉ L₉₉ m₉₉ news₉₉ s₉₉ Q₉₉ E₉₉
  unfold SpecB
  k_fill
  intro B₉₉ F₉₉ X₉₉ N₉₉ T₉₉ hk₉₉ hd₉₉ hu₉₉ hus₉₉ hpre₉₉ hret₉₉
  refine wpAny_call ?_
  k_dflt (refine' code_us ?k1 ?k2 ?k3 ?k4 ?k5 ?kA ?kF ?kK ?k6 ?k7 ?k8 ?k9 ?kB ?_ ?c2 ?c3 ?c4 ?c5; (case kA => exact rfl); (case kF => exact rfl); (case kK => assumption); (case k1 => k_asm); (case k2 => k_asm); (case k3 => k_asm); (case k4 => exact fun p₉₉ hp => N₉₉ p₉₉ (hus₉₉ p₉₉ hp)); (case k5 => k_asm); (case k6 => k_is); (case k7 => k_is); (case k8 => ktr_room); (case k9 => first | k_extra "binds" | exact BindsTo.of_eq rfl); (case c5 => decide); (case kB => exact locs rfl); (case c2 => exact rfl); (case c3 => exact rfl); (case c4 => exact rfl); k_whole)
  intro g'₉₉ L'₉₉ h'₉₉ eL₉₉ eg₉₉ FG'₉₉ F'₉₉ N'₉₉ B'₉₉ X'₉₉ T'₉₉ lU₉₉
  (try dsimp only)
  k_fold
  (try k_lt lU₉₉)
  clear F₉₉))
  (k_with "END1" => (
  refine spec_end1 (by assumption) (by assumption) (by assumption) (by assumption) (by assumption) (by assumption) (by assumption) (by assumption) (by kcj_all) (by first | assumption | (dsimp only; omega)) ?_))
  (k_with "GO" => repeat' (first | (k_unfold; (try dsimp only)) | (k_end; wrow_close) | walk1 | (dsimp only; k_unfold; (try dsimp only)) | (dsimp only; walk1) | (leave1; (try dsimp only)) | fail "no step"))
  first | walk1 | trivial
section
set_option Elab.async false
set_option maxRecDepth 100000
set_option maxHeartbeats 8000000
set_option pp.deepTerms false
set_option pp.maxSteps 4000
section
variable {prog : Program} {w : World} {A : Around} {E : Value → Shared → Prop} {s : Shared} {env : Env} {h₀ : Heap} {target : Expr} {body : List Stmt} {Q : Flow → Shared → Prop}
theorem allObj_mono : ∀ {ws : List (Addr × String)} {k k' : List (Addr × Obj) → Prop}, (∀ its, k its → k' its) → AllObj ws k → AllObj ws k'
  | [], _, _, f, h => f _ h
  | _ :: _, _, _, f, h => fun o ho => allObj_mono (fun its => f _) (h o ho)
/-- a turn has come to its end at a state of place p -/
noncomputable def TurnTo {σ : Type} (Led : σ → List (Addr × Obj)) (m : σ → Str → Option Value) (Inv : Nat → σ → Prop) (p : Nat) (m' : Str → Option Value) (n' : List (Addr × Obj)) : Prop := ∃ c', Inv p c' ∧ n' = Led c' ∧ m' = m c'
theorem items_enum {σ : Type} (Led : σ → List (Addr × Obj)) (m : σ → Str → Option Value) (Inv : Nat → σ → Prop) {ws : List (Addr × String)} {keep : List (Addr × Obj)} {rs : List Value} {ms : List Int} (hi : IntsAre rs ms)
    (turn : ∀ (p : Nat) (c : σ) (x : Int) (tx : Tok) (T : Addr) (t : Tok) h tk, x ∈ ms → p < ms.length → Inv p c → IsTup h T #[.int (p : Int) t, .int x tx] → Fr h₀ env.locals h (m c) → AllObj ws (fun its => News h₀ env.locals h (its ++ Led c) →
      wpAny (model prog w) A (assign target env (.ref T)) (fun _ s₂ => wpAny (model prog w) A (execs body env) (UnrPostW h₀ env.locals { s with heap := h, toks := tk } its (fun m' n' => SubL keep n' ∧ TurnTo Led m Inv (p + 1) m' n') Q) E s₂) E { s with heap := h, toks := tk }))
    (done : ∀ (c : σ) h tk, Inv ms.length c → Fr h₀ env.locals h (m c) → News h₀ env.locals h (Led c) → Q .next { s with heap := h, toks := tk }) :
    ∀ (c : σ), Inv 0 c → ItemsRest prog w A E h₀ env target body Q s ws keep (enumItems 0 rs) (m c) (Led c) := by
  have key : ∀ (rs' : List Value) (ms' : List Int) (p : Nat) (c : σ), IntsAre rs' ms' → (∀ x ∈ ms', x ∈ ms) → p + ms'.length = ms.length → Inv p c → ItemsRest prog w A E h₀ env target body Q s ws keep (enumItems p rs') (m c) (Led c) := by
    intro rs' ms' p c h
    induction h generalizing p c with
    | nil => intro _ hp hI; exact fun h tk F N => done c h tk (by simpa using hp ▸ hI) F N
    | @cons vs is x tx hr ih =>
      intro hm hp hI u h tk hu F
      obtain ⟨T, t, e, ht⟩ := hu
      subst e
      refine allObj_mono (fun its hk N => wpAny_mono (hk N) (fun _ s₂ h₂ => wpAny_mono h₂ (fun f s₃ h₃ => ?_) fun _ _ y => y) fun _ _ y => y) (turn p c _ _ T t h tk (hm _ (.head _)) (by rw [List.length_cons] at hp; omega) hI ht F)
      cases f with
      | ret v => exact h₃
      | brk => exact h₃
      | next =>
        obtain ⟨h', tk', m', n', e1, F', N', o', k', c', hI', e2, e3⟩ := h₃
        subst e2; subst e3
        exact ⟨h', tk', _, _, e1, F', N', o', k', ih (p + 1) c' (fun y hy => hm y (.tail _ hy)) (by rw [List.length_cons] at hp; omega) hI'⟩
      | cont =>
        obtain ⟨h', tk', m', n', e1, F', N', o', k', c', hI', e2, e3⟩ := h₃
        subst e2; subst e3
        exact ⟨h', tk', _, _, e1, F', N', o', k', ih (p + 1) c' (fun y hy => hm y (.tail _ hy)) (by rw [List.length_cons] at hp; omega) hI'⟩
  exact fun c hc => key rs ms 0 c hi (fun _ hx => hx) (Nat.zero_add _) hc
end
theorem reg_T6_14 : True := by
  (k_with "exec For Tuple Call cons nil" => (k_here; (rename Fr _ _ _ _ => lF'₉₉); (with_unfolding_all refine' For_turns lF'₉₉ ?_; k_whole)))
  trivial
theorem reg_T6_15 : True := by
  (k_with "call type:enumerate" => (k_here; (rename Fr _ _ _ _ => lF'₉₉); (rename News _ _ _ _ => lN'₉₉); (rename IntsAre _ _ => hI9₉₉); (with_unfolding_all refine ktu_enum (by rfl) lF'₉₉ lN'₉₉ (.head _) (by rfl) (by rfl) (by rfl) ?_); clear lF'₉₉; intro i'₉₉ l1₉₉; (try k_lt l1₉₉)))
  trivial
/-- what the drawn sums are while the loop is at place p -/
noncomputable def SumsOk (p : Nat) (us : List Int) : Prop := us.length = 4 ∧ ∀ x ∈ us, 0 ≤ x ∧ x ≤ 1368 + p * 999999
theorem sums_turn {p : Nat} {us : List Int} {x : Int} (h : SumsOk p us) : SumsOk (p + 1) (us.set (Int.fmod (p : Int) 4).toNat (us.getD (Int.fmod (p : Int) 4).toNat 0 + Int.fmod x 1000000)) := by
  refine ⟨by rw [List.length_set]; exact h.1, fun y hy => ?_⟩
  have h1 : 0 ≤ Int.fmod x 1000000 := Int.fmod_nonneg_of_pos _ (by decide)
  have h2 : Int.fmod x 1000000 < 1000000 := Int.fmod_lt_of_pos _ (by decide)
  have hk : (Int.fmod (p : Int) 4).toNat < us.length := by
    rw [h.1]
    have := Int.fmod_lt_of_pos (p : Int) (show (0 : Int) < 4 by decide)
    have := Int.fmod_nonneg_of_pos (p : Int) (show (0 : Int) < 4 by decide)
    omega
  rcases List.mem_or_eq_of_mem_set hy with hy | hy
  · have := h.2 y hy; push_cast; omega
  · subst hy
    have hm : us.getD (Int.fmod (p : Int) 4).toNat 0 ∈ us := by
      rw [List.getD_eq_getElem?_getD, List.getElem?_eq_getElem hk]; exact List.getElem_mem hk
    have := h.2 _ hm
    push_cast; omega
noncomputable def draw_spec_S (w : World) (l : Addr) (vs : List Value) (ns : List Int) : Prop :=
  ∀ (hi : IntsAre vs ns) (hn : ns.length ≤ 63),
    Spec w 120 [.ref l] 6 [] (fun h => h.IsList l vs.toArray)
    (fun v new => ∃ (D : Addr) (a b c d : Int) (ta tb tc td : Tok) (n : Nat), v = .ref D ∧ new = [(D, listOf #[.int a ta, .int b tb, .int c tc, .int d td] n)] ∧ (0 ≤ a ∧ a < 2 ^ 26) ∧ (0 ≤ b ∧ b < 2 ^ 26) ∧ (0 ≤ c ∧ c < 2 ^ 26) ∧ (0 ≤ d ∧ d < 2 ^ 26))
theorem draw_spec {w : World} {l : Addr} {vs : List Value} {ns : List Int} : draw_spec_S w l vs ns := by
  refine eps_all (fun x : Sv => draw_spec_S x.w (x.ad 0) (x.vl 0) (x.il 0)) ?_ (Sv.mk w (default) ([]) (fun _ => none) (fun _ => {}) (fun _ => 0) (fun _ => 0) (fun _ => l) (fun _ => default) (fun _ => .none) (fun _ => default) (fun _ => vs) (fun _ => #[]) (fun _ => ns) (fun _ => []) (fun _ => fun _ => none) (fun _ => {}) (fun _ => "") (fun _ => fun _ => "") (fun _ => none) (fun _ => #[]) (fun _ => none) (fun _ => default) (fun _ => none) (fun _ => []) (fun _ => []) (fun _ => {}) (fun _ => true) (fun _ _ => True) (fun _ => fun _ _ => True))
  clear ns vs l w
  refine (?_ : ∀ (w : World) (l : Addr) (vs : List Value) (ns : List Int), draw_spec_S w l vs ns) _ _ _ _
  intro w l vs ns hi hn
  (k_with "binds" => exact BindsTo.of_eq (binds := [("script", .ref l)]) (by with_unfolding_all rfl))
  walk_at "ENTER"
  (rename Heap.IsList _ _ _ => hpre)
  (rename ∀ b o, Heap.get? _ b = some o → _ => eg)
  have hgl := hpre.at fun o e => eg _ o e (by simp)
  walk_at "GO"
  (rename News _ _ _ _ => lN')
  (rename IntsAre _ _ => hI9)
  clear lN'
  (rename Addr => I9)
  rename_i l9 _ _ _ _ _ D9 W9 _ _ _ _
  refine items_enum (σ := List Value × List Int × (Str → Option Value)) (fun c => [(D9, listOf W9.toArray 0), (l9, listOf c.1.toArray 0)]) (fun c => fun z => if z = "sums" then some (.ref l9) else c.2.2 z) (fun p c => IntsAre c.1 c.2.1 ∧ SumsOk p c.2.1) hI9 ?_ ?_ ([_, _, _, _], [1368, 192, 179, 226], _) ⟨.cons _ _ (.cons _ _ (.cons _ _ (.cons _ _ .nil))), rfl, ?_⟩
  · rintro p ⟨sv, us, m⟩ x tx T t h tk hx hp ⟨hsv, hsu⟩ hT F
    dsimp only at hsv hsu F ⊢
    have hp60 : p < 60 := by rw [List.length_take] at hp; omega
    have h4 := hsu.1
    ktu_objs
    walk_at "GO"
    refine ⟨(_, _, fun y => if y = "number" then some (.int x tx) else if y = "place" then some (.int p t) else m y), ⟨ints_set hsv _, sums_turn hsu⟩, rfl, ?_⟩
    funext y
    dsimp only
    by_cases hy : y = "sums"
    · subst hy; rfl
    · rw [if_neg hy, if_neg hy]
  · rintro ⟨sv, us, m⟩ h tk ⟨hsv, hsu⟩ F N
    dsimp only at hsv hsu F N ⊢
    obtain ⟨hl4, hb⟩ := hsu
    obtain ⟨a, b, c, d, rfl⟩ : ∃ a b c d, us = [a, b, c, d] := by
      match us, hl4 with
      | [a, b, c, d], _ => exact ⟨a, b, c, d, rfl⟩
    have ha := hb a (by simp)
    have hbb := hb b (by simp)
    have hc := hb c (by simp)
    have hdd := hb d (by simp)
    have hlen : (List.take 60 ns).length ≤ 60 := by rw [List.length_take]; omega
    cases hsv with
    | cons _ ta hsv => cases hsv with
      | cons _ tb hsv => cases hsv with
        | cons _ tc hsv => cases hsv with
          | cons _ td hsv => cases hsv with
            | nil =>
              walk_at "GO"
              (rename News _ _ _ [_, _] => nE')
              replace nE' := kst_newsOf nE' (l' := [_]) fun p hp => .tail _ hp
              walk_at "END1"
              exact ⟨_, a, b, c, d, ta, tb, tc, td, _, rfl, rfl, by omega, by omega, by omega, by omega⟩
  · intro x hx
    simp only [List.mem_cons, List.not_mem_nil, or_false] at hx
    omega
end
theorem reset_G2 : True := by
  w_top off
  k_with_none
  (k_with "OM" => with_reducible first | assumption | decide | (refine Nat.ne_of_lt ?_; k_extra "OP") | (refine o_n ?_; k_extra "OP") | k_extra "OP" | exact o_1 | exact o_2 | exact o_3 | exact o_4 | exact o_5 | exact o_6 | exact o_7 | exact o_8 | exact o_9 | exact o_10 | exact o_11 | exact o_12 | exact o_13 | exact o_14 | exact o_15 | exact o_16 | exact o_17 | exact o_18 | exact o_s1 | exact o_s2 | exact o_s3 | exact o_s4 | exact o_s5 | exact o_s6 | exact o_s7 | exact o_s8 | exact o_s9 | exact o_s10 | exact o_s11 | exact o_s12 | exact o_s13 | exact o_s14 | exact o_s15 | exact o_s16 | exact o_r 1 | exact o_r 2 | exact o_r 3 | exact o_r 4 | exact o_r 5 | exact o_r 6 | exact o_r 7 | exact o_r 8 | exact o_r 9 | exact o_r 10 | exact o_r 11 | exact o_r 12 | exact o_r 13 | exact o_r 14 | exact o_r 15 | exact o_r 16 | exact o_u1 | exact o_u2 | exact o_u3 | exact o_e1 | exact o_e2 | exact o_e3 | exact o_e4 | exact o_m1 | exact o_c1 | exact o_c2 | exact o_c3 | exact o_c4 | exact o_c5 | exact o_n1 | exact o_n2 | exact o_n3 | exact o_n4 | exact o_d1 | fail)
  (k_with "OP" => first | k_extra "OB" | exact o_p1 | exact o_p2 | exact o_p3 | exact o_p4 | (refine o_l 1 ?_; k_extra "OB") | (refine o_l 2 ?_; k_extra "OB") | (refine o_l 3 ?_; k_extra "OB") | (refine o_l 4 ?_; k_extra "OB") | fail)
  (k_with "OB" => first | assumption | (refine o_pk ?_; k_extra "OK") | fail)
  (k_with "OK" => first | exact And.left | exact And.right | (refine o_sk ?_; k_extra "OK") | fail)
  first | walk1 | trivial
section
set_option Elab.async false
set_option maxRecDepth 100000
set_option maxHeartbeats 8000000
set_option pp.deepTerms false
set_option pp.maxSteps 4000
section
variable {prog : Program} {w : World} {A A₀ : Around} {s : Shared} {K : Frag} {L : Addr} {h₀ base : Heap} {m mg mb : Str → Option Value} {p : Program} {loose : List Str} {mean : ExcName → Option Value} {news us : List (Addr × Obj)}
noncomputable def genObj (g : Nat) (nm qn : Str) (t1 t2 : Tok) : Obj := { cls := .type "generator", data := .fields #[.int g 0, .str nm t1, .str qn t2] }
/-- a call of a generator's def: the frame and the generator are made, nothing of the body runs -/
theorem code_gen {R : Result → Shared → Prop} {name qual : Str} {params : Arguments} {body : List Stmt} {scope : Scope} {dV kV doc pm cdv ct oc : Value} {an od : Option Addr} {osl : Array (Option Value)} {f : Addr} {args : Args} {binds : List (Str × Value)}
    (F : Fr h₀ L s.heap m) (X₀ : K.In h₀) (T : Top p loose mean mg mb h₀)
    (ho : K.lookup f = some ⟨oc, od, .func (fnOf name qual params body scope dV kV doc pm an cdv ct), osl⟩) (hcd : codeIn K cdv qual = true) (hroom : A.depth < recursionLimit)
    (hbind : BindsTo s (fnOf name qual params body scope dV kV doc pm an cdv ct) args binds) (hloc : ∀ y ∈ binds, scope.names.lookup y.1 = some .local)
    (hco : scope.isCoroutine = false) (hgen : scope.isGenerator = true) (hk : scope.kind = .function)
    (hcell : ∀ x ∈ scope.names, x.2 ≠ .cell)
    (h : ∀ h₁ tk, Fr h₀ s.heap.objs.size h₁ (fun y => binds.reverse.lookup y) → (∀ b o, s.heap.get? b = some o → h₁.get? b = some o) → h₁.objs.size = s.heap.objs.size + 1 →
      R (.ok (.ret (.ref (s.heap.objs.size + 1)))) { s with heap := h₁.push (genObj s.gens.size name qual tk (tk + 1)), gens := s.gens.push (.fresh (.func body (envOf qual scope s.heap.objs.size f cdv))), toks := tk + 1 + 1 }) :
    codeAny (model prog w) A (.call (.ref f) args) R s := by
  have hX := X₀.keeps F.keep
  refine codeAny_call_generator hroom (hX _ _ ho) rfl hco hgen rfl (codeRec_of hX hcd) (hbind _ _ _ _ ?_)
  refine wpAny_newFunctionEnv hcell hloc (fun h₁ hns hsb => ⟨((T.nolimit).keeps F.keep).fresh _ hsb, ?_⟩) hk
  have hk₁ : ∀ b o, s.heap.get? b = some o → h₁.get? b = some o := fun b o e => hsb.extBut b o (Nat.ne_of_lt (Heap.lt_size e)) (Heap.get?_push_of_some _ e)
  have hz : h₁.objs.size = s.heap.objs.size + 1 := hsb.1.trans (Heap.size_push _ _)
  have q := h h₁ (s.toks + binds.length) ⟨hns, fun b o e => hk₁ b o (F.keep b o e), Nat.le_of_lt (Nat.lt_of_le_of_lt F.above F.ns.lt)⟩ hk₁ hz
  rw [← hz] at q
  exact q
end
section
variable {prog : Program} {w : World} {A : Around} {E : Value → Shared → Prop} {s : Shared}
/-- a turn of a generator, its next state bare -/
theorem pyNext_genB {a : Addr} {g n : Nat} {gs : GenState} {P : Nat → Shared → Shared → Prop} {Y : Protocol} {Q : Option Value → Shared → Prop} (hh : A.handled = none)
    (hl : s.heap.NoLimit) (hroom : A.depth < recursionLimit)
    (hg : s.heap.IsGen a g) (hgs : s.gens[g]? = some gs)
    (hgo : gs.Goes (model prog w) A.in1 (fun n s₀ r s₁ => r = .ok (.ret .none) ∧ P n s₀ s₁) Y n (.send .none) (s.setGen g .running))
    (hY : ∀ v s₁ gs', gs'.bare = true → Y (n - 1) (s.setGen g .running) v s₁ (fun r' s'' => match n with
        | 0 => False
        | m + 1 => gs'.Goes (model prog w) A.in1 (fun n s₀ r s₁ => r = .ok (.ret .none) ∧ P n s₀ s₁) Y m r' s'') → Q (some v) (s₁.setGen g gs'))
    (hP : ∀ s₁, P n (s.setGen g .running) s₁ → ∀ h', (∀ b o, s₁.heap.get? b = some o → h'.get? b = some o) → Q none { s₁.setGen g .finished with heap := h' }) :
    wpAny (model prog w) A (pyNext (.ref a)) Q E s := by
  unfold pyNext
  refine wpAny_bind (wpAny_attempt (wpAny_callSpecial?_slot (name := Str.ofString "__next__") hg.typeIs slot_gen_next
    (wpAny_call_entry slot_gen_next hg.typeIs entry_gen_next ?_ (args_gen_next _))))
  show wpAny _ _ (Builtin.Generator.genWake (.ref a) (.send .none)) _ _ s
  unfold Builtin.Generator.genWake
  refine wpAny_bind (wpAny_holding (wpAny_genNumber hg (wpAny_bind (wpAny_genState hgs ?_))))
  cases gs with
  | running => exact hgo.elim
  | finished => exact hgo.elim
  | _ =>
    refine wpAny_bind (wpAny_roomToWake hl hroom ?_)
    show wpAny _ _ (.resume g (.send .none) [] _) _ _ s
    refine wpAny_resumeQ hgs hgo (fun x s₁ hx => ?_) (fun v s₁ gs' hb hv => ?_)
    · obtain ⟨rfl, hp⟩ := hx
      show wpAny _ _ (newExc (.type "StopIteration") [] >>= _) _ _ _
      refine wpAny_bind ?_
      simp only [newExc, newTuple]
      refine wpAny_bind (wpAny_newObj_type ?_ (by size_fits))
      refine wpAny_bind (m := firstArgMember _ _) (wpAny_of_eq (a := Value.none) (by first | rfl | (simp only [firstArgMember]; rfl)) ?_)
      refine wpAny_newObj_type ?_ (by size_fits)
      simp only [raiseNew]
      refine wpAny_bind (wpAny_bind (wpAny_handled ?_))
      rw [show A.in1.handled = none from hh]
      refine wpAny_throw ?_
      refine wpAny_bind (wpAny_isInstance (T := "StopIteration") (b := true) ⟨_, Heap.get?_push_size _ rfl, rfl⟩ isSubtype_stop ?_)
      exact wpAny_pure (hP s₁ hp _ fun b o hb => Heap.get?_push_of_some _ (Heap.get?_push_of_some _ hb))
    · exact wpAny_pure ⟨v, rfl, wpAny_pure (hY v s₁ gs' hb hv)⟩
end
/-- what the generator yields: the item of its place, its own frame alone has changed; it goes on wherever what it holds stands -/
noncomputable def gProto (g : Heap) (wr fp : List Addr) (val : Nat → Int) (last : Option Nat) (N : Nat) : Protocol := fun m s₀ v s' κ =>
  last ≠ some (N - 1 - m) ∧ (∃ t, v = .int (val (N - 1 - m)) t) ∧ (∃ h' tk, s' = { s₀ with heap := h', toks := tk } ∧ ∀ b o, b ∉ wr → s₀.heap.get? b = some o → h'.get? b = some o) ∧
  (0 < m → ∀ s'', (∀ b o, g.get? b = some o → s''.heap.get? b = some o) → (∀ b ∈ fp, ∀ o, s'.heap.get? b = some o → s''.heap.get? b = some o) → κ (.send .none) s'')
/-- how it ends -/
noncomputable def gEnd (wr : List Addr) (last : Option Nat) (N : Nat) : Nat → Shared → Shared → Prop := fun m s₀ s₁ =>
  (∃ k, last = some k ∧ N - m = k) ∧ ∃ h' tk, s₁ = { s₀ with heap := h', toks := tk } ∧ ∀ b o, b ∉ wr → s₀.heap.get? b = some o → h'.get? b = some o
end
theorem reset_G3 : True := by
  w_top off
  k_with_none
  (k_with "OM" => with_reducible first | assumption | decide | (refine Nat.ne_of_lt ?_; k_extra "OP") | (refine o_n ?_; k_extra "OP") | k_extra "OP" | exact o_1 | exact o_2 | exact o_3 | exact o_4 | exact o_5 | exact o_6 | exact o_7 | exact o_8 | exact o_9 | exact o_10 | exact o_11 | exact o_12 | exact o_13 | exact o_14 | exact o_15 | exact o_16 | exact o_17 | exact o_18 | exact o_s1 | exact o_s2 | exact o_s3 | exact o_s4 | exact o_s5 | exact o_s6 | exact o_s7 | exact o_s8 | exact o_s9 | exact o_s10 | exact o_s11 | exact o_s12 | exact o_s13 | exact o_s14 | exact o_s15 | exact o_s16 | exact o_r 1 | exact o_r 2 | exact o_r 3 | exact o_r 4 | exact o_r 5 | exact o_r 6 | exact o_r 7 | exact o_r 8 | exact o_r 9 | exact o_r 10 | exact o_r 11 | exact o_r 12 | exact o_r 13 | exact o_r 14 | exact o_r 15 | exact o_r 16 | exact o_u1 | exact o_u2 | exact o_u3 | exact o_e1 | exact o_e2 | exact o_e3 | exact o_e4 | exact o_m1 | exact o_c1 | exact o_c2 | exact o_c3 | exact o_c4 | exact o_c5 | exact o_n1 | exact o_n2 | exact o_n3 | exact o_n4 | exact o_d1 | fail)
  (k_with "OP" => first | k_extra "OB" | exact o_p1 | exact o_p2 | exact o_p3 | exact o_p4 | (refine o_l 1 ?_; k_extra "OB") | (refine o_l 2 ?_; k_extra "OB") | (refine o_l 3 ?_; k_extra "OB") | (refine o_l 4 ?_; k_extra "OB") | fail)
  (k_with "OB" => first | assumption | (refine o_pk ?_; k_extra "OK") | fail)
  (k_with "OK" => first | exact And.left | exact And.right | (refine o_sk ?_; k_extra "OK") | fail)
  (k_with "GO" => repeat' (first | (k_unfold; (try dsimp only)) | (k_end; wrow_close) | walk1 | (dsimp only; k_unfold; (try dsimp only)) | (dsimp only; walk1) | (leave1; (try dsimp only)) | fail "no step"))
  first | walk1 | trivial
section
set_option Elab.async false
set_option maxRecDepth 100000
set_option maxHeartbeats 8000000
set_option pp.deepTerms false
set_option pp.maxSteps 4000
theorem fr_step {h₀ h h' : Heap} {L I : Addr} {m : Str → Option Value} (F : Fr h₀ L h m) (hs : Heap.SameBut I h h') (hI : h₀.get? I = none) (hL : L ≠ I) : Fr h₀ L h' m :=
  ⟨F.ns.sameBut hs hL, fun b o e => hs.extBut b o (fun q => by subst q; rw [hI] at e; cases e) (F.keep b o e), F.above⟩
/-- a generator at work: its frame, the iterator of its list, its list; nothing else has changed since it was woken -/
structure GHold (h₀ : Heap) (L9 I9 D9 : Addr) (od : Obj) (s₀ : Shared) (i : Nat) (m : Str → Option Value) (s : Shared) : Prop where
  F : Fr h₀ L9 s.heap m
  it : s.heap.IsListIter I9 D9 i
  li : s.heap.get? D9 = some od
  since : ∀ b o, b ∉ [L9, I9] → s₀.heap.get? b = some o → s.heap.get? b = some o
  same : s = { s₀ with heap := s.heap, toks := s.toks }
section
variable {prog : Program} {w : World} {A : Around} {R : GenEnd} {Y : Protocol} {n : Nat} {s₀ : Shared} {c : Code} {fs : List Frame} {s : Shared} {name : Str} {scope : Scope} {f : Addr} {cd : Value}
  {K : Flow → Sem Fin} {H : Value → Sem Fin} {gd : Bool → Bool} {lv : List Value → List Value} {h₀ : Heap} {L9 I9 D9 : Addr} {its : List Value} {c0 i : Nat} {m : Str → Option Value}
theorem GHold.toks {od : Obj} (G : GHold h₀ L9 I9 D9 od s₀ i m s) (tk : Nat) : GHold h₀ L9 I9 D9 od s₀ i m { s with toks := tk } :=
  ⟨G.F, G.it, G.li, G.since, by have := G.same; rw [this]⟩
theorem GHold.store {od : Obj} (G : GHold h₀ L9 I9 D9 od s₀ i m s) (hLI : L9 ≠ I9) (hLD : L9 ≠ D9) {m' : Str → Option Value} {h' : Heap} {tk : Nat} (hn : h'.Ns L9 m') (hs : Heap.SameBut L9 s.heap h') : GHold h₀ L9 I9 D9 od s₀ i m' { s with heap := h', toks := tk } :=
  ⟨G.F.set hn hs, let ⟨o, e, r⟩ := G.it; ⟨o, (hs.2 _ (Ne.symm hLI)).trans e, r⟩, (hs.2 _ (Ne.symm hLD)).trans G.li, fun b o hb e => (hs.2 b (fun q => hb (q ▸ .head _))).trans (G.since b o hb e), by have := G.same; rw [this]⟩
theorem gturn {x : Str} {pi : Pos} {body : List Stmt} {v : Value} (hk : scope.kind = .function) (hx : scope.names.lookup x = some .local) (hLI : L9 ≠ I9) (hLD : L9 ≠ D9) (hDI : D9 ≠ I9) (hnI : h₀.get? I9 = none)
    (G : GHold h₀ L9 I9 D9 (listOf its.toArray c0) s₀ i m s) (hv : its[i]? = some v)
    (k : ∀ s', GHold h₀ L9 I9 D9 (listOf its.toArray c0) s₀ (i + 1) (fun y => if y = x then some v else m y) s' →
      Seg (model prog w) A R Y n s₀ (.forLoop (.Name x pi) (.ref I9) body [] (envOf name scope L9 f cd)) ((execs body (envOf name scope L9 f cd)).wrap (turnK (.Name x pi) (.ref I9) body (envOf name scope L9 f cd)) (turnH (envOf name scope L9 f cd)) id id) fs s') :
    Seg (model prog w) A R Y n s₀ (.forLoop (.Name x pi) (.ref I9) body [] (envOf name scope L9 f cd)) ((model prog w).den (.forLoop (.Name x pi) (.ref I9) body [] (envOf name scope L9 f cd))) fs s := by
  have hl : s.heap.IsList D9 its.toArray := PySem.IsL.isList (n := c0) G.li
  refine seg_forLoop (wpAny_pyNext_list_item G.it hl (by simpa using hv) fun h2 hit2 hs2 => ?_)
  refine wpAny_of_eq (rfl : letOwnedTupleGo (.Name x pi) (.ref I9) v = pure ()) ?_
  refine wpAny_assign_Name (wpAny_storeName_local (by show (envOf name scope L9 f cd).kindOf x = _; simp [Env.kindOf, envOf, hx]) (G.F.ns.sameBut hs2 hLI) (fun h3 hn3 hs3 => ?_) (by simp [envOf, hk]))
  have G2 : GHold h₀ L9 I9 D9 (listOf its.toArray c0) s₀ (i + 1) m { s with heap := h2 } := ⟨fr_step G.F hs2 hnI hLI, hit2, (hs2.2 _ hDI).trans G.li, fun b o hb e => (hs2.2 b (fun q => hb (q ▸ .tail _ (.head _)))).trans (G.since b o hb e), by have := G.same; rw [this]⟩
  exact k _ (GHold.store G2 hLI hLD hn3 hs3)
theorem gend {x : Str} {pi : Pos} {body : List Stmt} (hh : A.handled = none) (hfs : (A.over (.forLoop (.Name x pi) (.ref I9) body [] (envOf name scope L9 f cd)) fs).handled = none) (hLI : L9 ≠ I9) (hDI : D9 ≠ I9) (hnI : h₀.get? I9 = none)
    (G : GHold h₀ L9 I9 D9 (listOf its.toArray c0) s₀ i m s) (hv : its[i]? = none)
    (k : ∀ s', (∃ h' tk, s' = { s₀ with heap := h', toks := tk } ∧ ∀ b o, b ∉ [L9, I9] → s₀.heap.get? b = some o → h'.get? b = some o) →
      Seg (model prog w) A R Y n s₀ (.forLoop (.Name x pi) (.ref I9) body [] (envOf name scope L9 f cd)) (.pure (.again (.block [] (envOf name scope L9 f cd)))) fs s') :
    Seg (model prog w) A R Y n s₀ (.forLoop (.Name x pi) (.ref I9) body [] (envOf name scope L9 f cd)) ((model prog w).den (.forLoop (.Name x pi) (.ref I9) body [] (envOf name scope L9 f cd))) fs s := by
  have hl : s.heap.IsList D9 its.toArray := PySem.IsL.isList (n := c0) G.li
  refine seg_forLoop (wpAny_pyNext_list_end hfs G.it hl (by simpa using hv) fun h2 hs2 => ?_)
  exact k _ ⟨h2, s.toks, by have := G.same; rw [this], fun b o hb e => hs2 b o (fun q => hb (q ▸ .tail _ (.head _))) (G.since b o hb e)⟩
theorem gassign {x y : Str} {p1 p2 p3 : Pos} {rest : List Stmt} {v : Value} (hk : scope.kind = .function) (hx : scope.names.lookup x = some .local) (hy : scope.names.lookup y = some .local) (hd : (y == ("__debug__" : Str)) = false) (hLI : L9 ≠ I9) (hLD : L9 ≠ D9)
    (G : GHold h₀ L9 I9 D9 (listOf its.toArray c0) s₀ i m s) (hv : m y = some v)
    (k : ∀ s', GHold h₀ L9 I9 D9 (listOf its.toArray c0) s₀ i (fun z => if z = x then some v else m z) s' → Seg (model prog w) A R Y n s₀ c ((execs rest (envOf name scope L9 f cd)).wrap K H gd lv) fs s') :
    Seg (model prog w) A R Y n s₀ c ((execs (.Assign [.Name x p1] (.Name y p2) p3 :: rest) (envOf name scope L9 f cd)).wrap K H gd lv) fs s := by
  refine seg_stmt (wpAny_Assign_Name (ld G.F hv (wpAny_storeName_local (by simp [Env.kindOf, envOf, hx]) G.F.ns (fun h' hn hs => ⟨rfl, ?_⟩) (by simp [envOf, hk])) hk (by simp [Env.kindOf, envOf, hy]) hd))
  exact k _ (GHold.store G hLI hLD hn hs)
theorem GHold.wake {s'' : Shared} {od : Obj} (G : GHold h₀ L9 I9 D9 od s₀ i m s) (hb : ∀ b o, h₀.get? b = some o → s''.heap.get? b = some o) (hf : ∀ b ∈ [L9, I9, D9], ∀ o, s.heap.get? b = some o → s''.heap.get? b = some o) :
    GHold h₀ L9 I9 D9 od s'' i m s'' :=
  ⟨⟨let ⟨o, es, ep, e, r⟩ := G.F.ns; ⟨o, es, ep, hf L9 (.head _) o e, r⟩, hb, G.F.above⟩, let ⟨o, e, r⟩ := G.it; ⟨o, hf I9 (.tail _ (.head _)) o e, r⟩, hf D9 (.tail _ (.tail _ (.head _))) _ G.li, fun _ _ _ e => e, rfl⟩
theorem gyield {y : Str} {p1 p2 p3 : Pos} {rest : List Stmt} {x : Int} {t : Tok} {val : Nat → Int} {last : Option Nat} {N : Nat} (hl : last ≠ some (N - 1 - n)) (hk : scope.kind = .function) (hy : scope.names.lookup y = some .local) (hd : (y == ("__debug__" : Str)) = false) (hco : scope.isCoroutine = false)
    (hfs : splitAtGen fs = none) (hgd : gd false = false) (hfg : fs.any Frame.guarded = false)
    (G : GHold h₀ L9 I9 D9 (listOf its.toArray c0) s₀ i m s) (hv : m y = some (.int x t)) (hx : x = val (N - 1 - n))
    (k : 0 < n → ∀ s'', GHold h₀ L9 I9 D9 (listOf its.toArray c0) s'' i m s'' → Seg (model prog w) A R (gProto h₀ [L9, I9] [L9, I9, D9] val last N) n s'' c ((execs rest (envOf name scope L9 f cd)).wrap K H gd lv) fs s'') :
    Seg (model prog w) A R (gProto h₀ [L9, I9] [L9, I9, D9] val last N) (n + 1) s₀ c ((execs (.Expr (.Yield (some (.Name y p1)) p2) p3 :: rest) (envOf name scope L9 f cd)).wrap K H gd lv) fs s := by
  refine seg_execs_cons (seg_Expr_Yield hfs hgd hfg (ld G.F hv ?_ hk (by simp [Env.kindOf, envOf, hy]) hd) hco (by simp [interactive, envOf, hk]))
  intro kap hk'
  refine ⟨hl, ⟨t, by rw [hx]⟩, ⟨s.heap, s.toks, G.same, G.since⟩, fun hn s'' hb hf => hk' .none s'' ?_⟩
  exact k hn s'' (G.wake hb hf)
/-- the endless loop that yields the same interval -/
theorem gwhile {y : Str} {p0 p1 p2 p3 : Pos} {x : Int} {t : Tok} {val : Nat → Int} {last : Option Nat} {N k0 : Nat} (hl : last = none) (hk : scope.kind = .function) (hy : scope.names.lookup y = some .local) (hd : (y == ("__debug__" : Str)) = false) (hco : scope.isCoroutine = false)
    (hfs : splitAtGen fs = none) (hfg : fs.any Frame.guarded = false) (hv : m y = some (.int x t)) (hx : ∀ j, k0 ≤ j → x = val j) :
    ∀ (n : Nat) (s₀ s : Shared), n + 1 + k0 ≤ N → GHold h₀ L9 I9 D9 (listOf its.toArray c0) s₀ i m s →
    Seg (model prog w) A R (gProto h₀ [L9, I9] [L9, I9, D9] val last N) (n + 1) s₀ (.whileLoop (.Constant (.bool true) 0 p0) [.Expr (.Yield (some (.Name y p1)) p2) p3] [] (envOf name scope L9 f cd))
      ((model prog w).den (.whileLoop (.Constant (.bool true) 0 p0) [.Expr (.Yield (some (.Name y p1)) p2) p3] [] (envOf name scope L9 f cd))) fs s := by
  intro n
  induction n with
  | zero =>
    intro s₀ s hN G
    refine seg_whileLoop (isTrue_plain (wpAny_pure (a := Value.bool true) (wpAny_pure (a := true) ?_)))
    rw [if_pos rfl]
    exact gyield (by rw [hl]; exact fun h => nomatch h) hk hy hd hco hfs rfl hfg G hv (hx _ (by omega)) fun h => absurd h (Nat.lt_irrefl _)
  | succ n ih =>
    intro s₀ s hN G
    refine seg_whileLoop (isTrue_plain (wpAny_pure (a := Value.bool true) (wpAny_pure (a := true) ?_)))
    rw [if_pos rfl]
    exact gyield (by rw [hl]; exact fun h => nomatch h) hk hy hd hco hfs rfl hfg G hv (hx _ (by omega)) fun _ s'' G'' => seg_execs_nil (seg_again rfl (ih s'' s'' (by omega) G''))
end
/-- the items that the generator takes its intervals from -/
noncomputable def gTail : Nat → List Value → Prop
  | 0, tl => tl = []
  | 1, tl => ∃ t, tl = [.int 0 t]
  | 2, tl => ∃ t u, tl = [.int 127 t, .int 2 u]
  | 3, tl => ∃ t u, tl = [.int 0 t, .int 1 u]
  | _, _ => False
/-- a generator's code that has not begun: wherever its frame and its list stand, it yields as said -/
noncomputable def GenFresh (w : World) (h₀ : Heap) (L9 D9 : Addr) (o9 od : Obj) (val : Nat → Int) (last : Option Nat) (c9 : Code) : Prop :=
  ∀ (A : Around) (s' : Shared), A.handled = none → s'.heap.get? L9 = some o9 → s'.heap.get? D9 = some od → (∀ b o, h₀.get? b = some o → s'.heap.get? b = some o) →
    Seg (model PySem.Challenge.rw_zo0033_01.row.prog w) A (fun n s₀ r s₁ => r = .ok (.ret .none) ∧ gEnd [L9, s'.heap.objs.size] last 20 n s₀ s₁)
      (gProto h₀ [L9, s'.heap.objs.size] [L9, s'.heap.objs.size, D9] val last 20) 20 s' c9 ((model PySem.Challenge.rw_zo0033_01.row.prog w).den c9) [] s'
theorem group_spec {w : World} {D9 : Addr} {x0 x1 : Int} {t0 t1 : Tok} {tl : List Value} {kd : Nat} (htl : gTail kd tl) (h0 : 1 ≤ x0 ∧ x0 ≤ 3) (h1 : 1 ≤ x1 ∧ x1 ≤ 3)
    {p : Program} {loose : List Str} {mean : ExcName → Option Value} {mg mb : Str → Option Value} {dp un : Nat} {gd : Option (List Code)} {cn : Str} {cs : Scope} {a : Addr} {ccd : Value} {cl : List (Str × Addr)} {outer : List Env} {h₀ : Heap} {L : Addr} {m : Str → Option Value} {news : List (Addr × Obj)} {s : Shared} {Q E : Value → Shared → Prop} {c0 : Nat}
    (F : Fr h₀ L s.heap m) (X : (hd.heap_39 w.params).In h₀) (N : News h₀ L s.heap news) (T : Top p loose mean mg mb h₀) (hm : (D9, listOf (.int x0 t0 :: .int x1 t1 :: tl).toArray c0) ∈ news)
    (hdp : dp + 6 < recursionLimit) (hun : un + 48 < cLine)
    (hret : ∀ h' tk o9 c9 og, Fr h₀ L h' m → News h₀ L h' ((s.heap.objs.size + 1, og) :: (s.heap.objs.size, o9) :: news) → h'.objs.size = s.heap.objs.size + 2 → h'.IsGen (s.heap.objs.size + 1) s.gens.size →
      GenFresh w h₀ s.heap.objs.size D9 o9 (listOf (.int x0 t0 :: .int x1 t1 :: tl).toArray c0) (fun k => if k = 0 then x0 else x1) (if kd = 0 ∨ kd = 2 then some 2 else none) c9 →
      Q (.ref (s.heap.objs.size + 1)) { s with heap := h', gens := s.gens.push (.fresh c9), toks := tk }) :
    wpAny (model PySem.Challenge.rw_zo0033_01.row.prog w) (ktrTop dp un gd cn cs L a ccd cl outer) (call (.ref 106) [.ref D9]) Q E s := by
  revert X; k_fill; intro X
  refine wpAny_call ?_
  k_dflt (refine' code_gen ?k1 ?k2 ?k3 ?k6 ?k7 ?k8 ?k9 ?kB ?c2 ?c3 ?c4 ?c5 ?_; (case k1 => exact F); (case k2 => exact X); (case k3 => exact T); (case k6 => k_is); (case k7 => k_is); (case k8 => ktr_room); (case k9 => exact BindsTo.of_eq (binds := [("grouping", .ref D9)]) (by with_unfolding_all rfl)); (case c5 => decide); (case kB => exact locs rfl); (case c2 => exact rfl); (case c3 => exact rfl); (case c4 => exact rfl); k_whole)
  intro h₁ tk F1 k1 z1
  obtain ⟨o9, es9, ep9, g9, r9⟩ := id F1.ns
  have hkk : ∀ b o, s.heap.get? b = some o → (h₁.push (genObj s.gens.size "_grouping_intervals" "_grouping_intervals" tk (tk + 1))).get? b = some o := fun b o e => Heap.get?_push_of_some _ (k1 b o e)
  refine hret _ _ o9 _ (genObj s.gens.size "_grouping_intervals" "_grouping_intervals" tk (tk + 1)) (F.keeps hkk) (fun q hq => ?_) (by rw [Heap.size_push, z1]) ⟨_, _, _, by rw [← z1]; exact Heap.get?_push_size _ rfl, rfl, rfl, rfl⟩ ?_
  · rcases List.mem_cons.mp hq with rfl | hq
    · exact ⟨by rw [← z1]; exact Heap.get?_push_size _ rfl, Nat.ne_of_gt (Nat.lt_succ_of_lt F.ns.lt), ktu_new F (Nat.le_succ _)⟩
    · rcases List.mem_cons.mp hq with rfl | hq
      · exact ⟨Heap.get?_push_of_some _ g9, Nat.ne_of_gt F.ns.lt, ktu_new F (Nat.le_refl _)⟩
      · exact N.grown hkk q hq
  · intro A s' hh gL gD hk
    have hnD : h₀.get? D9 = none := (N _ hm).2.2
    have hDlt : D9 < s.heap.objs.size := Heap.lt_size (N _ hm).1
    have F9 : Fr h₀ s.heap.objs.size s'.heap (fun y => [((Str.ofString "grouping"), Value.ref D9)].reverse.lookup y) := ⟨⟨o9, es9, ep9, gL, r9⟩, hk, F1.above⟩
    have N9 : News h₀ s.heap.objs.size s'.heap [(D9, listOf (.int x0 t0 :: .int x1 t1 :: tl).toArray c0)] := fun q hq => by
      rw [List.mem_singleton.mp hq]
      exact ⟨gD, Nat.ne_of_lt hDlt, hnD⟩
    have hlt9 := Heap.lt_size gL
    have hnI : h₀.get? s'.heap.objs.size = none := ktu_new F9 (Nat.le_refl _)
    generalize hI9 : s'.heap.objs.size = I9 at *
    generalize hL9 : s.heap.objs.size = L9 at *
    have hLI : L9 ≠ I9 := Nat.ne_of_lt hlt9
    have hLD : L9 ≠ D9 := Nat.ne_of_gt hDlt
    have hDI : D9 ≠ I9 := Nat.ne_of_lt (Nat.lt_trans hDlt hlt9)
    refine seg_func ?_
    refine seg_stmt (wpAny_Assign_Name ?_)
    walk1
    refine wpAny_storeName_local rfl F9.ns (fun h2 hn2 hs2 => ⟨rfl, ?_⟩) rfl
    have F2 := F9.set hn2 hs2
    have g2 : h2.get? D9 = some (listOf (.int x0 t0 :: .int x1 t1 :: tl).toArray c0) := (hs2.2 _ (Ne.symm hLD)).trans gD
    refine seg_For (ld F2 rfl (wpAny_pyIter_list (PySem.IsL.isList (n := c0) g2) (fun p => ?_)))
    have e2 : h2.objs.size = I9 := hs2.1.trans hI9
    have G : GHold h₀ L9 I9 D9 (listOf (.int x0 t0 :: .int x1 t1 :: tl).toArray c0) s' 0 _ { s' with heap := h2.push { cls := .type "list_iterator", data := .fields #[.ref D9, .int 0 0] } } :=
      ⟨F2.push _, by rw [← e2]; exact ⟨_, Heap.get?_push_size _ rfl, rfl, rfl⟩, Heap.get?_push_of_some _ g2, fun b o hb e => Heap.get?_push_of_some _ ((hs2.2 b (fun q => hb (q ▸ .head _))).trans e), rfl⟩
    dsimp only
    rw [e2]
    refine gturn rfl rfl hLI hLD hDI hnI (G.toks _) rfl (fun s3 G3 => ?_)
    clear G F2 F9 N9 F1 N F
    refine seg_If ?_
    have F3 := G3.F
    have N3 : News h₀ L9 s3.heap [] := News.nil
    walk_at "GO"
    · omega
    refine seg_execs_nil ?_
    refine seg_If ?_
    walk_at "GO"
    · omega
    clear F3 N3
    refine seg_execs_nil ?_
    refine gyield (n := 19) (by split <;> decide) rfl rfl (by decide) rfl rfl rfl rfl (G3.toks _) rfl rfl (fun _ s4 G4 => ?_)
    clear G3
    refine gassign rfl rfl rfl (by decide) hLI hLD G4 rfl (fun s5 G5 => ?_)
    clear G4
    refine seg_execs_nil (seg_again rfl ?_)
    refine gturn rfl rfl hLI hLD hDI hnI G5 rfl (fun s6 G6 => ?_)
    clear G5
    refine seg_If ?_
    have F6 := G6.F
    have N6 : News h₀ L9 s6.heap [] := News.nil
    walk_at "GO"
    · omega
    refine seg_execs_nil ?_
    refine seg_If ?_
    walk_at "GO"
    · omega
    clear F6 N6
    refine seg_execs_nil ?_
    refine gyield (n := 18) (by split <;> decide) rfl rfl (by decide) rfl rfl rfl rfl (G6.toks _) rfl rfl (fun _ s7 G7 => ?_)
    clear G6
    refine gassign rfl rfl rfl (by decide) hLI hLD G7 rfl (fun s8 G8 => ?_)
    clear G7
    refine seg_execs_nil (seg_again rfl ?_)
    match kd, htl with
    | 0, htl =>
      have e : tl = [] := htl
      subst e
      refine gend hh hh hLI hDI hnI G8 rfl (fun s9 h9 => ?_)
      refine seg_again rfl ?_
      refine seg_loop_ret (f := .next) ?_
      exact seg_end (.ok (.ret .none)) ⟨rfl, ⟨2, rfl, rfl⟩, h9⟩
    | 2, htl =>
      obtain ⟨t, u, e⟩ := htl
      subst e
      refine gturn rfl rfl hLI hLD hDI hnI G8 rfl (fun s9 G9 => ?_)
      clear G8
      refine seg_If ?_
      have F9 := G9.F
      have N9 : News h₀ L9 s9.heap [] := News.nil
      walk_at "GO"
      refine seg_execs_cons (seg_at ?_)
      refine seg_loop_ret (f := .ret .none) ?_
      exact seg_end (.ok (.ret .none)) ⟨rfl, ⟨2, rfl, rfl⟩, s9.heap, s9.toks, G9.same, G9.since⟩
    | 1, htl =>
      obtain ⟨t, e⟩ := htl
      subst e
      refine gturn rfl rfl hLI hLD hDI hnI G8 rfl (fun s9 G9 => ?_)
      clear G8
      refine seg_If ?_
      have F9 := G9.F
      have N9 : News h₀ L9 s9.heap [] := News.nil
      walk_at "GO"
      refine seg_execs_nil ?_
      refine seg_If ?_
      walk_at "GO"
      refine seg_If ?_
      walk_at "GO"
      refine seg_execs_nil ?_
      refine seg_execs_cons (seg_While fun p => ?_)
      refine gwhile (k0 := 2) (by first | rfl | decide | simp) rfl rfl (by decide) rfl rfl rfl rfl (fun j hj => ?_) 17 _ _ (by decide) (G9.toks _)
      (try dsimp only)
      rw [if_neg (by omega)]
    | 3, htl =>
      obtain ⟨t, u, e⟩ := htl
      subst e
      refine gturn rfl rfl hLI hLD hDI hnI G8 rfl (fun s9 G9 => ?_)
      clear G8
      refine seg_If ?_
      have F9 := G9.F
      have N9 : News h₀ L9 s9.heap [] := News.nil
      walk_at "GO"
      refine seg_execs_nil ?_
      refine seg_If ?_
      walk_at "GO"
      refine seg_If ?_
      walk_at "GO"
      refine seg_execs_nil ?_
      refine seg_execs_cons (seg_While fun p => ?_)
      refine gwhile (k0 := 2) (by first | rfl | decide | simp) rfl rfl (by decide) rfl rfl rfl rfl (fun j hj => ?_) 17 _ _ (by decide) (G9.toks _)
      (try dsimp only)
      rw [if_neg (by omega)]
    | n + 4, htl => exact htl.elim
end
theorem reset_PA : True := by
  w_top off
  k_with_none
  (k_with "OM" => with_reducible first | assumption | decide | (refine Nat.ne_of_lt ?_; k_extra "OP") | (refine o_n ?_; k_extra "OP") | k_extra "OP" | exact o_1 | exact o_2 | exact o_3 | exact o_4 | exact o_5 | exact o_6 | exact o_7 | exact o_8 | exact o_9 | exact o_10 | exact o_11 | exact o_12 | exact o_13 | exact o_14 | exact o_15 | exact o_16 | exact o_17 | exact o_18 | exact o_s1 | exact o_s2 | exact o_s3 | exact o_s4 | exact o_s5 | exact o_s6 | exact o_s7 | exact o_s8 | exact o_s9 | exact o_s10 | exact o_s11 | exact o_s12 | exact o_s13 | exact o_s14 | exact o_s15 | exact o_s16 | exact o_r 1 | exact o_r 2 | exact o_r 3 | exact o_r 4 | exact o_r 5 | exact o_r 6 | exact o_r 7 | exact o_r 8 | exact o_r 9 | exact o_r 10 | exact o_r 11 | exact o_r 12 | exact o_r 13 | exact o_r 14 | exact o_r 15 | exact o_r 16 | exact o_u1 | exact o_u2 | exact o_u3 | exact o_e1 | exact o_e2 | exact o_e3 | exact o_e4 | exact o_m1 | exact o_c1 | exact o_c2 | exact o_c3 | exact o_c4 | exact o_c5 | exact o_n1 | exact o_n2 | exact o_n3 | exact o_n4 | exact o_d1 | fail)
  (k_with "OP" => first | k_extra "OB" | exact o_p1 | exact o_p2 | exact o_p3 | exact o_p4 | (refine o_l 1 ?_; k_extra "OB") | (refine o_l 2 ?_; k_extra "OB") | (refine o_l 3 ?_; k_extra "OB") | (refine o_l 4 ?_; k_extra "OB") | fail)
  (k_with "OB" => first | assumption | (refine o_pk ?_; k_extra "OK") | fail)
  (k_with "OK" => first | exact And.left | exact And.right | (refine o_sk ?_; k_extra "OK") | fail)
  (k_with "GO" => repeat' (first | (k_unfold; (try dsimp only)) | (k_end; wrow_close) | walk1 | (dsimp only; k_unfold; (try dsimp only)) | (dsimp only; walk1) | (leave1; (try dsimp only)) | fail "no step"))
  first | walk1 | trivial
section
set_option Elab.async false
set_option maxRecDepth 100000
set_option maxHeartbeats 8000000
set_option pp.deepTerms false
set_option pp.maxSteps 400
theorem reg_PA_7 : True := by
  (k_with "call ref" => (k_here; k_dflt (first | (refine' Spec.use (draw_spec ?s1 ?s2) ?k1 ?k2 ?k3 ?k4 ?k5 ?kK ?kd ?ku ?kus ?kp ?_; (case s1 => assumption); (case s2 => assumption); (case k1 => k_asm); (case k2 => k_asm); (case k3 => k_asm); (case k4 => k_asm); (case k5 => k_asm); (case kK => first | exact rfl | assumption); (case kd => ktr_room); (case ku => first | ktr_units | (have hcL9₉₉ := cLine_is; (simp only [units_in1, units_deeper, Around.mark_units, units_caller] at *); done)); (case kus => first | exact (fun _ h => nomatch h) | kcj_all); (case kp => exact Heap.IsList.at (by assumption) fun o e => Fr.keep (by k_asm) _ o e); intro v'₉₉ new'₉₉ h'₉₉ tk'₉₉ hp'₉₉ F'₉₉ N'₉₉ l1₉₉; obtain ⟨D'₉₉, a'₉₉, b'₉₉, c'₉₉, d'₉₉, ta'₉₉, tb'₉₉, tc'₉₉, td'₉₉, n'₉₉, e1₉₉, e2₉₉, r1₉₉, r2₉₉, r3₉₉, r4₉₉⟩ := hp'₉₉; subst e1₉₉; subst e2₉₉; simp only [List.cons_append, List.nil_append] at N'₉₉; (try (have l2₉₉ := l1₉₉ _ (.head _); simp only [AllLt, and_true] at l2₉₉)); clear l1₉₉; (try dsimp only)) | (refine' Spec.use (fig_spec) ?k1 ?k2 ?k3 ?k4 ?k5 ?kK ?kd ?ku ?kus ?kp ?_;  (case k1 => k_asm); (case k2 => k_asm); (case k3 => k_asm); (case k4 => k_asm); (case k5 => k_asm); (case kK => first | exact rfl | assumption); (case kd => ktr_room); (case ku => first | ktr_units | (have hcL9₉₉ := cLine_is; (simp only [units_in1, units_deeper, Around.mark_units, units_caller] at *); done)); (case kus => (intro p₉₉ hp₉₉; rw [List.mem_singleton.mp hp₉₉]; repeat (first | exact .head _ | refine .tail _ ?_))); (case kp => first | trivial | assumption); intro v'₉₉ new'₉₉ h'₉₉ tk'₉₉ hp'₉₉ F'₉₉ N'₉₉ l1₉₉; obtain ⟨D'₉₉, ta'₉₉, tb'₉₉, tc'₉₉, td'₉₉, te'₉₉, tf'₉₉, e1₉₉, e2₉₉⟩ := hp'₉₉; subst e1₉₉; subst e2₉₉; simp only [List.cons_append, List.nil_append] at N'₉₉; (try (have l2₉₉ := l1₉₉ _ (.head _); simp only [AllLt, and_true] at l2₉₉)); clear l1₉₉; (try dsimp only)))))
  trivial
/-- what the figures of the first sum tell -/
noncomputable def fA (n : Int) : Int := 2 * n.fmod 5 - 3
noncomputable def fB (n : Int) : Int := 2 * (n.fdiv 5).fmod 6 - 5
noncomputable def fF (n : Int) : Int := ((n.fdiv 5).fdiv 6).fmod 3
noncomputable def f0 (n : Int) : Int := (((n.fdiv 5).fdiv 6).fdiv 3).fmod 3 + 1
noncomputable def f1 (n : Int) : Int := ((((n.fdiv 5).fdiv 6).fdiv 3).fdiv 3).fmod 3 + 1
noncomputable def fK (n : Int) : Int := (((((n.fdiv 5).fdiv 6).fdiv 3).fdiv 3).fdiv 3).fmod 4
theorem n9_mem {h₀ h : Heap} {L : Addr} {l l' : List (Addr × Obj)} (N : News h₀ L h l) (hs : ∀ p ∈ l', p ∈ l) : News h₀ L h l' := fun p hp => N p (hs p hp)
noncomputable def pA_S (w : World) (p : Program) (loose : List Str) (mean : ExcName → Option Value) (mg : Str → Option Value) (mb : Str → Option Value) (h₀ : Heap) (L : Addr) (f : Addr) (cd : Value) (m : Str → Option Value) (s : Shared) (Q : Flow → Shared → Prop) (E : Value → Shared → Prop) (o1 : Obj) (o2 : Obj) (o3 : Obj) (o4 : Obj) (l : Addr) (vs : List Value) (ns : List Int) : Prop :=
  ∀ (B : Below callerA h₀ [] h₀) (F : Fr h₀ L s.heap m) (X : (hd.heap_39 w.params).In h₀) (T : Top p loose mean mg mb h₀) (hm : m "script" = some (.ref l)) (N : News h₀ L s.heap [(L + 4, o4), (L + 3, o3), (L + 2, o2), (L + 1, o1), (80, tabObj #[]), (73, tabObj #[])]) (h80 : @LT.lt Nat _ 80 L) (d1 : o1.data = .cell none) (d2 : o2.data = .cell none) (d3 : o3.data = .cell none) (d4 : o4.data = .cell none) (hl : h₀.IsList l vs.toArray) (hi : IntsAre vs ns) (hn : ns.length ≤ 63) (hret : ∀ h' tk m' (n n1 n2 n3 : Int) (kd : Nat) (tl : List Value) (S T M Z : Addr) (o1' o2' o3' : Obj) (ta tb tf t0 t1 u0 u1 u2 u3 : Tok) (c : Nat),
   Fr h₀ L h' m' → m' "first" = some (.int (fF n) tf) → m' "sizes" = some (.ref S) → m' "tail" = some (.ref T) → m' "seeds" = some (.ref Z) →
   (fK n = (kd : Int)) → gTail kd tl →
   o1'.data = .cell (some (.int (fA n) ta)) → o2'.data = .cell (some (.int (fB n) tb)) → o3'.data = .cell (some (.ref M)) →
   News h₀ L h' [(M, listOf #[.int (fF n) tf] 0), (T, listOf tl.toArray 0), (S, listOf #[.int (f0 n) t0, .int (f1 n) t1] 0), (Z, listOf #[.int n u0, .int n1 u1, .int n2 u2, .int n3 u3] c), (L + 4, o4), (L + 3, o3'), (L + 2, o2'), (L + 1, o1'), (80, tabObj #[]), (73, tabObj #[])] →
   (@LT.lt Nat _ T M ∧ @LT.lt Nat _ S M ∧ @LT.lt Nat _ Z M ∧ @LT.lt Nat _ (L + 4) M) →
   (0 ≤ n ∧ n < 2 ^ 26) → (0 ≤ n1 ∧ n1 < 2 ^ 26) → (0 ≤ n2 ∧ n2 < 2 ^ 26) → (0 ≤ n3 ∧ n3 < 2 ^ 26) →
   Q .next { s with heap := h', toks := tk }),
    wpAny (model PySem.Challenge.rw_zo0033_01.row.prog w) (lawTop L f cd) (execs [st 0, st 1, st 2, st 3, st 4, st 5] (lawEnv L f cd)) Q E s
theorem pA {w : World} {p : Program} {loose : List Str} {mean : ExcName → Option Value} {mg : Str → Option Value} {mb : Str → Option Value} {h₀ : Heap} {L : Addr} {f : Addr} {cd : Value} {m : Str → Option Value} {s : Shared} {Q : Flow → Shared → Prop} {E : Value → Shared → Prop} {o1 : Obj} {o2 : Obj} {o3 : Obj} {o4 : Obj} {l : Addr} {vs : List Value} {ns : List Int} : pA_S w p loose mean mg mb h₀ L f cd m s Q E o1 o2 o3 o4 l vs ns := by
  refine eps_all (fun x : Sv => pA_S x.w x.p x.loose x.mean (x.mf 0) (x.mf 1) (x.hp 0) (x.ad 0) (x.ad 1) (x.val 0) (x.mf 2) (x.sh 0) x.qf (x.qv 0) (x.ob 0) (x.ob 1) (x.ob 2) (x.ob 3) (x.ad 2) (x.vl 0) (x.il 0)) ?_ (Sv.mk w p loose mean (fun _ => h₀) (fun _ => 0) (fun _ => 0) (fun i => [L, f, l].getD i L) (fun _ => default) (fun _ => cd) (fun i => [o1, o2, o3, o4].getD i o1) (fun _ => vs) (fun _ => #[]) (fun _ => ns) (fun _ => []) (fun i => [mg, mb, m].getD i mg) (fun _ => s) (fun _ => "") (fun _ => fun _ => "") (fun _ => none) (fun _ => #[]) (fun _ => none) (fun _ => default) (fun _ => none) (fun _ => []) (fun _ => []) (fun _ => {}) (fun _ => true) Q (fun _ => E))
  clear ns vs l o4 o3 o2 o1 E Q s m cd f L h₀ mb mg mean loose p w
  refine (?_ : ∀ (w : World) (p : Program) (loose : List Str) (mean : ExcName → Option Value) (mg : Str → Option Value) (mb : Str → Option Value) (h₀ : Heap) (L : Addr) (f : Addr) (cd : Value) (m : Str → Option Value) (s : Shared) (Q : Flow → Shared → Prop) (E : Value → Shared → Prop) (o1 : Obj) (o2 : Obj) (o3 : Obj) (o4 : Obj) (l : Addr) (vs : List Value) (ns : List Int), pA_S w p loose mean mg mb h₀ L f cd m s Q E o1 o2 o3 o4 l vs ns) _ _ _ _ _ _ _ _ _ _ _ _ _ _ _ _ _ _ _ _ _
  intro w p loose mean mg mb h₀ L f cd m s Q E o1 o2 o3 o4 l vs ns B F X T hm N h80 d1 d2 d3 d4 hl hi hn hret
  revert X; k_fill; intro X
  obtain ⟨m, rfl⟩ : ∃ m9, m = fun z : Str => if z = "script" then some (.ref l) else m9 z := ⟨m, by
    funext z
    by_cases hz : z = "script"
    · subst hz; rw [if_pos rfl]; exact hm
    rw [if_neg hz]⟩
  unfold lawTop lawEnv
  rw [lawCells_is]
  generalize hS : lawScope = S
  (conv at hS => lhs; whnf)
  subst hS
  generalize hS : st 0 = S
  (conv at hS => lhs; whnf)
  subst hS
  generalize hS : st 1 = S
  (conv at hS => lhs; whnf)
  subst hS
  generalize hS : st 2 = S
  (conv at hS => lhs; whnf)
  subst hS
  generalize hS : st 3 = S
  (conv at hS => lhs; whnf)
  subst hS
  generalize hS : st 4 = S
  (conv at hS => lhs; whnf)
  subst hS
  generalize hS : st 5 = S
  (conv at hS => lhs; whnf)
  subst hS
  walk_at "GO"
  · (rename Fr _ _ _ _ => f9)
    (rename News _ _ _ _ => n9)
    refine hret _ _ _ _ _ _ _ 0 [] _ _ _ _ _ _ _ _ _ _ _ _ _ _ _ _ _ f9 (by rfl) (by rfl) (by rfl) (by rfl) (by assumption) rfl (by assumption) (by assumption) (by assumption) (n9_mem n9 (by kcj_all)) (by refine ⟨?_, ?_, ?_, ?_⟩ <;> omega) (by assumption) (by assumption) (by assumption) (by assumption)
  · (rename Fr _ _ _ _ => f9)
    (rename News _ _ _ _ => n9)
    refine hret _ _ _ _ _ _ _ 1 [.int 0 _] _ _ _ _ _ _ _ _ _ _ _ _ _ _ _ _ _ f9 (by rfl) (by rfl) (by rfl) (by rfl) (by assumption) ⟨_, rfl⟩ (by assumption) (by assumption) (by assumption) (n9_mem n9 (by kcj_all)) (by refine ⟨?_, ?_, ?_, ?_⟩ <;> omega) (by assumption) (by assumption) (by assumption) (by assumption)
  · (rename Fr _ _ _ _ => f9)
    (rename News _ _ _ _ => n9)
    refine hret _ _ _ _ _ _ _ 2 [.int 127 _, .int 2 _] _ _ _ _ _ _ _ _ _ _ _ _ _ _ _ _ _ f9 (by rfl) (by rfl) (by rfl) (by rfl) (by assumption) ⟨_, _, rfl⟩ (by assumption) (by assumption) (by assumption) (n9_mem n9 (by kcj_all)) (by refine ⟨?_, ?_, ?_, ?_⟩ <;> omega) (by assumption) (by assumption) (by assumption) (by assumption)
  · (rename Fr _ _ _ _ => f9)
    (rename News _ _ _ _ => n9)
    refine hret _ _ _ _ _ _ _ 3 [.int 0 _, .int 1 _] _ _ _ _ _ _ _ _ _ _ _ _ _ _ _ _ _ f9 (by rfl) (by rfl) (by rfl) (by rfl) (by assumption) ⟨_, _, rfl⟩ (by assumption) (by assumption) (by assumption) (n9_mem n9 (by kcj_all)) (by refine ⟨?_, ?_, ?_, ?_⟩ <;> omega) (by assumption) (by assumption) (by assumption) (by assumption)
end
theorem reset_GL : True := by
  w_top off
  k_with_none
  (k_with "OM" => with_reducible first | assumption | decide | (refine Nat.ne_of_lt ?_; k_extra "OP") | (refine o_n ?_; k_extra "OP") | k_extra "OP" | exact o_1 | exact o_2 | exact o_3 | exact o_4 | exact o_5 | exact o_6 | exact o_7 | exact o_8 | exact o_9 | exact o_10 | exact o_11 | exact o_12 | exact o_13 | exact o_14 | exact o_15 | exact o_16 | exact o_17 | exact o_18 | exact o_s1 | exact o_s2 | exact o_s3 | exact o_s4 | exact o_s5 | exact o_s6 | exact o_s7 | exact o_s8 | exact o_s9 | exact o_s10 | exact o_s11 | exact o_s12 | exact o_s13 | exact o_s14 | exact o_s15 | exact o_s16 | exact o_r 1 | exact o_r 2 | exact o_r 3 | exact o_r 4 | exact o_r 5 | exact o_r 6 | exact o_r 7 | exact o_r 8 | exact o_r 9 | exact o_r 10 | exact o_r 11 | exact o_r 12 | exact o_r 13 | exact o_r 14 | exact o_r 15 | exact o_r 16 | exact o_u1 | exact o_u2 | exact o_u3 | exact o_e1 | exact o_e2 | exact o_e3 | exact o_e4 | exact o_m1 | exact o_c1 | exact o_c2 | exact o_c3 | exact o_c4 | exact o_c5 | exact o_n1 | exact o_n2 | exact o_n3 | exact o_n4 | exact o_d1 | fail)
  (k_with "OP" => first | k_extra "OB" | exact o_p1 | exact o_p2 | exact o_p3 | exact o_p4 | (refine o_l 1 ?_; k_extra "OB") | (refine o_l 2 ?_; k_extra "OB") | (refine o_l 3 ?_; k_extra "OB") | (refine o_l 4 ?_; k_extra "OB") | fail)
  (k_with "OB" => first | assumption | (refine o_pk ?_; k_extra "OK") | fail)
  (k_with "OK" => first | exact And.left | exact And.right | (refine o_sk ?_; k_extra "OK") | fail)
  first | walk1 | trivial
section
set_option Elab.async false
set_option maxRecDepth 100000
set_option maxHeartbeats 4000000
set_option linter.unusedVariables false
theorem gl_fr_but {h₀ h h' : Heap} {L : Addr} {m : Str → Option Value} {wr : List Addr} (F : Fr h₀ L h m) (hL : L ∉ wr) (hw : ∀ b ∈ wr, h₀.get? b = none) (k : ∀ b o, b ∉ wr → h.get? b = some o → h'.get? b = some o) : Fr h₀ L h' m :=
  ⟨let ⟨o, es, ep, e, r⟩ := F.ns; ⟨o, es, ep, k _ _ hL e, r⟩, fun b o e => k b o (fun hb => by rw [hw b hb] at e; cases e) (F.keep b o e), F.above⟩
theorem gl_news_but {h₀ h h' : Heap} {L : Addr} {l : List (Addr × Obj)} {wr : List Addr} (N : News h₀ L h l) (hl : ∀ p ∈ l, p.1 ∉ wr) (k : ∀ b o, b ∉ wr → h.get? b = some o → h'.get? b = some o) : News h₀ L h' l :=
  fun p hp => ⟨k _ _ (hl p hp) (N p hp).1, (N p hp).2⟩
theorem gl_news_set {h₀ h h' : Heap} {L : Addr} {l : List (Addr × Obj)} (N : News h₀ L h l) (k : Heap.SameBut L h h') : News h₀ L h' l :=
  fun p hp => ⟨(k.2 _ (N p hp).2.1).trans (N p hp).1, (N p hp).2⟩
/-- an object for a place, where there is one; else one that serves -/
theorem pick_obj {h₀ h : Heap} {L b G : Addr} {og : Obj} (hb : b ≠ L) (hn : h₀.get? b = none) (hG : h.get? G = some og ∧ G ≠ L ∧ h₀.get? G = none) {P : Addr → Prop} (hPb : P b) (hPG : P G) :
    ∃ q x, (h.get? q = some x ∧ q ≠ L ∧ h₀.get? q = none) ∧ P q ∧ ∀ o, h.get? b = some o → q = b ∧ x = o := by
  cases e : h.get? b with
  | none => exact ⟨G, og, hG, hPG, fun o h => nomatch h⟩
  | some o => exact ⟨b, o, ⟨e, hb, hn⟩, hPb, fun o' h => ⟨rfl, Option.some.inj h⟩⟩
theorem g_1 {k : Nat} (h : k < 20) : 20 - k = 19 - k + 1 := Nat.succ_sub (Nat.le_of_lt_succ h)
theorem g_2 {k m : Nat} (hk : k < 20) (h : 20 - k = m + 1) : 20 - 1 - (m + 1 - 1) = k := by
  obtain rfl : m = 19 - k := Nat.succ.inj (h.symm.trans (g_1 hk))
  exact Nat.sub_sub_self (Nat.le_of_lt_succ hk)
theorem g_3 {k m : Nat} (h : 20 - k = m + 1) : 20 - (k + 1) = m := by rw [Nat.sub_succ, h]; rfl
theorem g_4 {k m : Nat} (hk : k + 1 < 20) (h : 20 - (k + 1) = m) : 0 < m + 1 - 1 := by
  subst h
  show 0 < 20 - (k + 1)
  exact Nat.sub_pos_of_lt hk
theorem g_5 {k k' m : Nat} (hk : k < 20) (h : 20 - k = m + 1) (e : 20 - (m + 1) = k') : k' = k := by
  rw [← e, ← h]
  exact Nat.sub_sub_self (Nat.le_of_lt hk)
theorem gen_loop {w : World} {A : Around} {env : Env} {h₀ : Heap} {s : Shared} {Q : Flow → Shared → Prop} {x : Str} {px : Pos} {body : List Stmt} {σ : Type} (Led : σ → List (Addr × Obj)) (mf : σ → Str → Option Value) (Inv Done : Nat → σ → Prop)
    {val : Nat → Int} {last : Option Nat} {L9 D9 G : Addr} {o9 od og : Obj} {c9 : Code} {st0 : σ}
    (hA : A.handled = none) (hroom : A.depth < recursionLimit) (hlim : h₀.NoLimit)
    (hx : env.kindOf x = some .local) (hp : (env.scope.kind == .class || (env.scope.kind == .module && env.locals != env.globals)) = false)
    (hb : ∀ st, ∀ p ∈ Led st, @LT.lt Nat _ p.1 L9) (hGL : @LT.lt Nat _ L9 G) (hD : @LT.lt Nat _ D9 L9) (hL : @LT.lt Nat _ env.locals L9)
    (hbD : ∀ st, ∀ p ∈ Led st, @Ne Nat p.1 D9)
    (fresh : GenFresh w h₀ L9 D9 o9 od val last c9)
    (F : Fr h₀ env.locals s.heap (mf st0)) (N : News h₀ env.locals s.heap ((G, og) :: (L9, o9) :: (D9, od) :: Led st0)) (I0 : Inv 0 st0) (hG : s.heap.IsGen G 0) (hgens : s.gens = #[.fresh c9])
    (hmax : ∀ k st, Inv k st → k < 20) (stop : ∀ k st, last = some k → Inv k st → Done k st)
    (turn : ∀ k st (t : Tok) h tk gens q1 x1 q2 x2 q3 x3 q4 x4, last ≠ some k → Inv k st → (∀ st, ∀ p ∈ Led st, @Ne Nat p.1 q1 ∧ @Ne Nat p.1 q2 ∧ @Ne Nat p.1 q3 ∧ @Ne Nat p.1 q4) →
      Fr h₀ env.locals h (fun y => if y = x then some (.int (val k) t) else mf st y) → News h₀ env.locals h (Led st ++ [(q1, x1), (q2, x2), (q3, x3), (q4, x4)]) →
      wpAny (model PySem.Challenge.rw_zo0033_01.row.prog w) A (execs body env) (fun f s' => match f with
        | .next | .cont => ∃ h' tk' st', s' = { s with heap := h', toks := tk', gens := gens } ∧ Inv (k + 1) st' ∧ Fr h₀ env.locals h' (mf st') ∧ News h₀ env.locals h' (Led st' ++ [(q1, x1), (q2, x2), (q3, x3), (q4, x4)])
        | .brk => ∃ h' tk' st', s' = { s with heap := h', toks := tk', gens := gens } ∧ Done k st' ∧ Fr h₀ env.locals h' (mf st') ∧ News h₀ env.locals h' (Led st')
        | .ret _ => False) (fun _ _ => False) { s with heap := h, toks := tk, gens := gens })
    (hQ : ∀ k st h tk gs, Done k st → GenState.bare gs = true → Fr h₀ env.locals h (mf st) → News h₀ env.locals h (Led st) → Q .next { s with heap := h, toks := tk, gens := #[gs] }) :
    codeAny (model PySem.Challenge.rw_zo0033_01.row.prog w) A (.forLoop (.Name x px) (.ref G) body [] env) (fun r s' => match r with | .ok f => Q f s' | .error _ => False) s := by
  let J : Nat → Shared → Prop := fun n s' => ∃ k st h tk gs I9, n = 20 - k ∧ Inv k st ∧ s' = { s with heap := h, toks := tk, gens := #[gs] } ∧ GenState.bare gs = true ∧ Fr h₀ env.locals h (mf st) ∧
    News h₀ env.locals h ((G, og) :: (D9, od) :: Led st) ∧ h.IsGen G 0 ∧ (∀ st, ∀ p ∈ Led st, @LT.lt Nat _ p.1 I9) ∧ @LT.lt Nat _ env.locals I9 ∧ @LT.lt Nat _ G I9 ∧ @LT.lt Nat _ D9 I9 ∧ h₀.get? I9 = none ∧
    gs.Goes (model PySem.Challenge.rw_zo0033_01.row.prog w) A.in1 (fun n s₀ r s₁ => r = .ok (.ret .none) ∧ gEnd [L9, I9] last 20 n s₀ s₁) (gProto h₀ [L9, I9] [L9, I9, D9] val last 20) (20 - k) (.send .none) { s with heap := h, toks := tk, gens := #[.running] }
  have hL9n : h₀.get? L9 = none := (N _ (.tail _ (.head _))).2.2
  refine codeAny_forLoop_any J ?_ 20 ⟨0, st0, s.heap, s.toks, .fresh c9, s.heap.objs.size, rfl, I0, by rw [← hgens], rfl, F, fun p hp => N p (by
      rcases List.mem_cons.mp hp with rfl | hp
      · exact .head _
      · exact .tail _ (.tail _ hp)), hG, fun st p hp => Nat.lt_trans (hb st p hp) (Nat.lt_trans hGL (Heap.lt_size (N _ (.head _)).1)), F.ns.lt, Heap.lt_size (N _ (.head _)).1, Heap.lt_size (N _ (.tail _ (.tail _ (.head _)))).1, ktu_new F (Nat.le_refl _), ?_⟩
  · intro n s' hx
    refine fold fun Z hZ => ?_
    obtain ⟨k, st, h, tk, gs, I9, en, I, es, hbare, F1, N1, hG1, hI1, hI2, hI3, hI4, hI5, hgo⟩ := hx
    refine hZ ?_
    clear hZ Z
    subst en es
    have hk := hmax k st I
    obtain ⟨m9, hm9⟩ : ∃ m9, 20 - k = m9 + 1 := ⟨19 - k, g_1 hk⟩
    rw [hm9] at hgo ⊢
    have hwr : ∀ b ∈ [L9, I9], h₀.get? b = none := fun b hb => by
      rcases List.mem_cons.mp hb with rfl | hb
      · exact hL9n
      · rw [List.mem_singleton.mp hb]; exact hI5
    have hLw : env.locals ∉ [L9, I9] := fun hb => by
      rcases List.mem_cons.mp hb with e | hb
      · exact absurd e (Nat.ne_of_lt hL)
      · exact absurd (List.mem_singleton.mp hb) (Nat.ne_of_lt hI2)
    have hGw : G ∉ [L9, I9] := fun hb => by
      rcases List.mem_cons.mp hb with e | hb
      · exact absurd e (Nat.ne_of_gt hGL)
      · exact absurd (List.mem_singleton.mp hb) (Nat.ne_of_lt hI3)
    have hNw : ∀ p ∈ (G, og) :: (D9, od) :: Led st, p.1 ∉ [L9, I9] := fun p hp hb' => by
      rcases List.mem_cons.mp hp with rfl | hp
      · exact hGw hb'
      · have l1 : @LT.lt Nat _ p.1 L9 ∧ @LT.lt Nat _ p.1 I9 := by
          rcases List.mem_cons.mp hp with rfl | hp
          · exact ⟨hD, hI4⟩
          · exact ⟨hb st p hp, hI1 st p hp⟩
        rcases List.mem_cons.mp hb' with e | hb'
        · exact absurd e (Nat.ne_of_lt l1.1)
        · exact absurd (List.mem_singleton.mp hb') (Nat.ne_of_lt l1.2)
    refine pyNext_genB (g := 0) (gs := gs) (P := gEnd [L9, I9] last 20) (Y := gProto h₀ [L9, I9] [L9, I9, D9] val last 20) (n := m9 + 1) hA (hlim.keeps F1.keep) hroom hG1 rfl hgo ?_ ?_
    · intro v s₁ gs' hb' hx
      refine fold fun Z hZ => ?_
      obtain ⟨hnl, ⟨t, ev⟩, ⟨h', tk', es, hkeep⟩, hcont⟩ := hx
      refine hZ ?_
      clear hZ Z
      subst ev es
      have e9 : 20 - 1 - (m9 + 1 - 1) = k := g_2 hk hm9
      rw [e9] at hnl ⊢
      have F2 := gl_fr_but F1 hLw hwr hkeep
      have N2 := gl_news_but N1 hNw hkeep
      refine wpAny_of_eq (rfl : letOwnedTupleGo (.Name x px) (.ref G) (.int (val k) t) = pure ()) (wpAny_assign_Name (wpAny_storeName_local hx F2.ns (fun h2 hn2 hs2 => ?_) hp))
      have F3 := F2.set hn2 hs2
      have N3 := gl_news_set N2 hs2
      refine fold fun Z hZ => ?_
      obtain ⟨q3, x3, ok3, ap3, e3⟩ := pick_obj (b := L9) (G := G) (og := og) (h := h2) (P := fun q => ∀ st, ∀ p ∈ Led st, @Ne Nat p.1 q) (Nat.ne_of_gt hL) hL9n (N3 _ (.head _)) (fun st p hp => Nat.ne_of_lt (hb st p hp)) (fun st p hp => Nat.ne_of_lt (Nat.lt_trans (hb st p hp) hGL))
      obtain ⟨q4, x4, ok4, ap4, e4⟩ := pick_obj (b := I9) (G := G) (og := og) (h := h2) (P := fun q => ∀ st, ∀ p ∈ Led st, @Ne Nat p.1 q) (Nat.ne_of_gt hI2) hI5 (N3 _ (.head _)) (fun st p hp => Nat.ne_of_lt (hI1 st p hp)) (fun st p hp => Nat.ne_of_lt (Nat.lt_trans (hb st p hp) hGL))
      refine hZ ?_
      clear hZ Z
      have N4 : News h₀ env.locals h2 (Led st ++ [(G, og), (D9, od), (q3, x3), (q4, x4)]) := fun p hp => by
        rcases List.mem_append.mp hp with hp | hp
        · exact N3 p (.tail _ (.tail _ hp))
        · simp only [List.mem_cons, List.not_mem_nil, or_false] at hp
          rcases hp with rfl | rfl | rfl | rfl
          · exact N3 _ (.head _)
          · exact N3 _ (.tail _ (.head _))
          · exact ok3
          · exact ok4
      refine wpAny_noE (wpAny_mono (turn k st t h2 _ #[gs'] G og D9 od q3 x3 q4 x4 hnl I (fun st p hp => ⟨Nat.ne_of_lt (Nat.lt_trans (hb st p hp) hGL), hbD st p hp, ap3 st p hp, ap4 st p hp⟩) F3 N4) (fun f s₃ h₃ => ?_) fun _ _ e => e)
      have fin : (∃ h' tk' st', s₃ = { s with heap := h', toks := tk', gens := #[gs'] } ∧ Inv (k + 1) st' ∧ Fr h₀ env.locals h' (mf st') ∧ News h₀ env.locals h' (Led st' ++ [(G, og), (D9, od), (q3, x3), (q4, x4)])) → ∃ m, m < m9 + 1 ∧ J m s₃ := by
        intro hx
        refine fold fun Z hZ => ?_
        obtain ⟨h3, tk3, st', es, I', F', N'⟩ := hx
        refine hZ ?_
        clear hZ Z
        subst es
        have hk' := hmax _ _ I'
        refine ⟨20 - (k + 1), Nat.lt_succ_of_le (Nat.le_of_eq (g_3 hm9)), k + 1, st', h3, tk3, gs', I9, rfl, I', rfl, hb', F', fun p hp => N' p ?_, ?_, hI1, hI2, hI3, hI4, hI5, ?_⟩
        · rcases List.mem_cons.mp hp with rfl | hp
          · exact List.mem_append_right _ (.head _)
          · rcases List.mem_cons.mp hp with rfl | hp
            · exact List.mem_append_right _ (.tail _ (.head _))
            · exact List.mem_append_left _ hp
        · obtain ⟨o, nm, qn, e, r⟩ := hG1
          have e' := (N1 _ (.head _)).1
          dsimp only at e'
          rw [e] at e'
          cases e'
          exact ⟨og, nm, qn, (N' _ (List.mem_append_right _ (.head _))).1, r⟩
        · have em : 20 - (k + 1) = m9 := g_3 hm9
          rw [em]
          refine hcont (g_4 hk' em) { s with heap := h3, toks := tk3, gens := #[.running] } F'.keep fun b hb o e => ?_
          simp only [List.mem_cons, List.not_mem_nil, or_false] at hb
          have up : ∀ {b o}, b ≠ env.locals → h'.get? b = some o → h2.get? b = some o := fun hne e => (hs2.2 _ hne).trans e
          rcases hb with rfl | rfl | rfl
          · obtain ⟨rfl, rfl⟩ := e3 o (up (Nat.ne_of_gt hL) e)
            exact (N' _ (List.mem_append_right _ (.tail _ (.tail _ (.head _))))).1
          · obtain ⟨rfl, rfl⟩ := e4 o (up (Nat.ne_of_gt hI2) e)
            exact (N' _ (List.mem_append_right _ (.tail _ (.tail _ (.tail _ (.head _)))))).1
          · have e5 := (N2 _ (.tail _ (.head _))).1
            dsimp only at e5
            rw [show h'.get? b = some o from e] at e5
            cases e5
            exact (N' _ (List.mem_append_right _ (.tail _ (.head _)))).1
      cases f with
      | next => exact fin h₃
      | cont => exact fin h₃
      | brk =>
        refine fold fun Z hZ => ?_
        obtain ⟨h3, tk3, st', es, D', F', N'⟩ := h₃
        refine hZ ?_
        clear hZ Z
        subst es
        exact hQ k st' h3 tk3 gs' D' hb' F' N'
      | ret v => exact h₃.elim
    · intro s₁ hx
      refine fold fun Z hZ => ?_
      obtain ⟨⟨k', hk1, hk2⟩, h', tk', es, hkeep⟩ := hx
      refine hZ ?_
      clear hZ Z
      subst es
      intro h'' hk3
      have ek : k' = k := by first | exact g_5 hk hm9 hk2 | exact g_5 hk hm9 hk2.symm | exact g_5 hk hm9 hk1 | exact g_5 hk hm9 hk1.symm
      subst ek
      have F2 := (gl_fr_but F1 hLw hwr hkeep).keeps hk3
      have N2 := (gl_news_but N1 hNw hkeep)
      refine wpAny_execs_nil ?_
      exact hQ k' st h'' tk' .finished (stop _ _ hk1 I) rfl F2 (fun p hp => ⟨hk3 _ _ (N2 p (.tail _ (.tail _ hp))).1, (N2 p (.tail _ (.tail _ hp))).2⟩)
  · refine ⟨rfl, fresh A.in1 { s with heap := s.heap, toks := s.toks, gens := #[.running] } hA (N _ (.tail _ (.head _))).1 (N _ (.tail _ (.tail _ (.head _)))).1 F.keep⟩
end
theorem reset_PB : True := by
  w_top off
  k_with_none
  (k_with "OM" => with_reducible first | assumption | decide | (refine Nat.ne_of_lt ?_; k_extra "OP") | (refine o_n ?_; k_extra "OP") | k_extra "OP" | exact o_1 | exact o_2 | exact o_3 | exact o_4 | exact o_5 | exact o_6 | exact o_7 | exact o_8 | exact o_9 | exact o_10 | exact o_11 | exact o_12 | exact o_13 | exact o_14 | exact o_15 | exact o_16 | exact o_17 | exact o_18 | exact o_s1 | exact o_s2 | exact o_s3 | exact o_s4 | exact o_s5 | exact o_s6 | exact o_s7 | exact o_s8 | exact o_s9 | exact o_s10 | exact o_s11 | exact o_s12 | exact o_s13 | exact o_s14 | exact o_s15 | exact o_s16 | exact o_r 1 | exact o_r 2 | exact o_r 3 | exact o_r 4 | exact o_r 5 | exact o_r 6 | exact o_r 7 | exact o_r 8 | exact o_r 9 | exact o_r 10 | exact o_r 11 | exact o_r 12 | exact o_r 13 | exact o_r 14 | exact o_r 15 | exact o_r 16 | exact o_u1 | exact o_u2 | exact o_u3 | exact o_e1 | exact o_e2 | exact o_e3 | exact o_e4 | exact o_m1 | exact o_c1 | exact o_c2 | exact o_c3 | exact o_c4 | exact o_c5 | exact o_n1 | exact o_n2 | exact o_n3 | exact o_n4 | exact o_d1 | fail)
  (k_with "OP" => first | k_extra "OB" | exact o_p1 | exact o_p2 | exact o_p3 | exact o_p4 | (refine o_l 1 ?_; k_extra "OB") | (refine o_l 2 ?_; k_extra "OB") | (refine o_l 3 ?_; k_extra "OB") | (refine o_l 4 ?_; k_extra "OB") | fail)
  (k_with "OB" => first | assumption | (refine o_pk ?_; k_extra "OK") | fail)
  (k_with "OK" => first | exact And.left | exact And.right | (refine o_sk ?_; k_extra "OK") | fail)
  (k_with "GO" => repeat' (first | (k_unfold; (try dsimp only)) | (k_end; wrow_close) | walk1 | (dsimp only; k_unfold; (try dsimp only)) | (dsimp only; walk1) | (leave1; (try dsimp only)) | fail "no step"))
  first | walk1 | trivial
section
set_option Elab.async false
set_option maxRecDepth 100000
set_option maxHeartbeats 8000000
set_option pp.deepTerms false
set_option pp.maxSteps 4000
/-- the places of the marks -/
noncomputable def markAt (f x0 x1 : Int) : Nat → Int
  | 0 => f
  | k + 1 => markAt f x0 x1 k + (if k = 0 then x0 else x1)
noncomputable def marksL (f x0 x1 : Int) (k : Nat) : List Int := (List.range (k + 1)).map (markAt f x0 x1)
theorem marksL_len {f x0 x1 : Int} {k : Nat} : (marksL f x0 x1 k).length = k + 1 := by unfold marksL; simp
theorem marksL_last {f x0 x1 : Int} {k : Nat} : (marksL f x0 x1 k).getD (-1 + ((marksL f x0 x1 k).length : Int)).toNat 0 = markAt f x0 x1 k := by
  rw [marksL_len, show (-1 + ((k + 1 : Nat) : Int)).toNat = k by omega]
  unfold marksL
  simp
theorem marksL_succ {f x0 x1 : Int} {k : Nat} : marksL f x0 x1 (k + 1) = marksL f x0 x1 k ++ [markAt f x0 x1 (k + 1)] := by
  unfold marksL
  rw [List.range_succ, List.map_append]; rfl
theorem markAt_step {f x0 x1 : Int} (h0 : 1 ≤ x0 ∧ x0 ≤ 3) (h1 : 1 ≤ x1 ∧ x1 ≤ 3) (k : Nat) : markAt f x0 x1 k < markAt f x0 x1 (k + 1) := by
  show _ < markAt f x0 x1 k + (if k = 0 then x0 else x1)
  split <;> omega
theorem markAt_mono {f x0 x1 : Int} (h0 : 1 ≤ x0 ∧ x0 ≤ 3) (h1 : 1 ≤ x1 ∧ x1 ≤ 3) {i j : Nat} (h : i ≤ j) : markAt f x0 x1 i + (j - i : Nat) ≤ markAt f x0 x1 j := by
  induction j with
  | zero => obtain rfl : i = 0 := by omega
            simp
  | succ j ih =>
    rcases Nat.lt_or_ge i (j + 1) with h' | h'
    · have := ih (by omega)
      have := markAt_step (f := f) h0 h1 j
      omega
    · obtain rfl : i = j + 1 := by omega
      simp
theorem marksL_range {f x0 x1 : Int} (hf : 0 ≤ f) (h0 : 1 ≤ x0 ∧ x0 ≤ 3) (h1 : 1 ≤ x1 ∧ x1 ≤ 3) {k : Nat} (hk : markAt f x0 x1 k ≤ 7) : k ≤ 7 ∧ ∀ y ∈ marksL f x0 x1 k, 0 ≤ y ∧ y ≤ 7 := by
  have e0 : markAt f x0 x1 0 = f := rfl
  have := markAt_mono (f := f) h0 h1 (Nat.zero_le k)
  refine ⟨by omega, fun y hy => ?_⟩
  obtain ⟨i, hi, rfl⟩ := List.mem_map.mp hy
  have hi := List.mem_range.mp hi
  have a := markAt_mono (f := f) h0 h1 (Nat.zero_le i)
  have b := markAt_mono (f := f) h0 h1 (show i ≤ k by omega)
  omega
theorem set_ne {m : Str → Option Value} {x y : Str} {v : Option Value} (h : y ≠ x) : (fun y => if y = x then v else m y) y = m y := if_neg h
noncomputable def forBody (x : Stmt) : List Stmt := match x with | .For _ _ b _ _ => b | _ => []
noncomputable def pB_turn_S (w : World) (p : Program) (loose : List Str) (mean : ExcName → Option Value) (mg : Str → Option Value) (mb : Str → Option Value) (h₀ : Heap) (L : Addr) (f : Addr) (cd : Value) (m : Str → Option Value) (s : Shared) (x : Int) (x0 : Int) (x1 : Int) (vs : List Value) (ms : List Int) (M : Addr) (Tl : Addr) (S : Addr) (Z : Addr) (c : Nat) (ct : Nat) (tl : Array Value) (zv : Array Value) (o1 : Obj) (o2 : Obj) (o3 : Obj) (o4 : Obj) (x1' : Obj) (x2' : Obj) (x3' : Obj) (x4' : Obj) (q1 : Addr) (q2 : Addr) (q3 : Addr) (q4 : Addr) (t : Tok) (t0 : Tok) (t1 : Tok) (p1 : Array Value) (p2 : Array Value) (Q : Flow → Shared → Prop) (E : Value → Shared → Prop) : Prop :=
  ∀ (hx : x = x0 ∨ x = x1) (hi : IntsAre vs ms) (hm1 : 1 ≤ ms.length ∧ ms.length ≤ 8) (hms : ∀ y ∈ ms, 0 ≤ y ∧ y ≤ 7) (h0 : 1 ≤ x0 ∧ x0 ≤ 3) (h1 : 1 ≤ x1 ∧ x1 ≤ 3) (B : Below callerA h₀ [] h₀) (F : Fr h₀ L s.heap m) (X : (hd.heap_39 w.params).In h₀) (T : Top p loose mean mg mb h₀) (mS : m "sizes" = some (.ref S)) (mz : m "size" = some (.int x t)) (d3 : o3.data = .cell (some (.ref M))) (l1 : @LT.lt Nat _ Tl M ∧ @LT.lt Nat _ S M ∧ @LT.lt Nat _ Z M ∧ @LT.lt Nat _ (L + 4) M ∧ @LT.lt Nat _ 80 L ∧ @Ne Nat M q1 ∧ @Ne Nat M q2 ∧ @Ne Nat M q3 ∧ @Ne Nat M q4) (N : News h₀ L s.heap [(M, listOf vs.toArray c), (Tl, listOf tl 0), (S, listOf #[.int x0 t0, .int x1 t1] 0), (Z, listOf zv ct), (L + 4, o4), (L + 3, o3), (L + 2, o2), (L + 1, o1), (80, tabObj p1), (73, tabObj p2), (q1, x1'), (q2, x2'), (q3, x3'), (q4, x4')]) (hnext : ∀ h' tk' t' c', ¬ 7 < ms.getD (-1 + (ms.length : Int)).toNat 0 + x → Fr h₀ L h' m → News h₀ L h' [(M, listOf (vs ++ [Value.int (ms.getD (-1 + (ms.length : Int)).toNat 0 + x) t']).toArray c'), (Tl, listOf tl 0), (S, listOf #[.int x0 t0, .int x1 t1] 0), (Z, listOf zv ct), (L + 4, o4), (L + 3, o3), (L + 2, o2), (L + 1, o1), (80, tabObj p1), (73, tabObj p2), (q1, x1'), (q2, x2'), (q3, x3'), (q4, x4')] → Q .next { s with heap := h', toks := tk' }) (hbrk : ∀ tk', 7 < ms.getD (-1 + (ms.length : Int)).toNat 0 + x → Q .brk { s with toks := tk' }),
    wpAny (model PySem.Challenge.rw_zo0033_01.row.prog w) (lawTop L f cd) (execs (forBody (st 6)) (lawEnv L f cd)) Q E s
theorem pB_turn {w : World} {p : Program} {loose : List Str} {mean : ExcName → Option Value} {mg : Str → Option Value} {mb : Str → Option Value} {h₀ : Heap} {L : Addr} {f : Addr} {cd : Value} {m : Str → Option Value} {s : Shared} {x : Int} {x0 : Int} {x1 : Int} {vs : List Value} {ms : List Int} {M : Addr} {Tl : Addr} {S : Addr} {Z : Addr} {c : Nat} {ct : Nat} {tl : Array Value} {zv : Array Value} {o1 : Obj} {o2 : Obj} {o3 : Obj} {o4 : Obj} {x1' : Obj} {x2' : Obj} {x3' : Obj} {x4' : Obj} {q1 : Addr} {q2 : Addr} {q3 : Addr} {q4 : Addr} {t : Tok} {t0 : Tok} {t1 : Tok} {p1 : Array Value} {p2 : Array Value} {Q : Flow → Shared → Prop} {E : Value → Shared → Prop} : pB_turn_S w p loose mean mg mb h₀ L f cd m s x x0 x1 vs ms M Tl S Z c ct tl zv o1 o2 o3 o4 x1' x2' x3' x4' q1 q2 q3 q4 t t0 t1 p1 p2 Q E := by
  refine eps_all (fun x : Sv => pB_turn_S x.w x.p x.loose x.mean (x.mf 0) (x.mf 1) (x.hp 0) (x.ad 0) (x.ad 1) (x.val 0) (x.mf 2) (x.sh 0) (x.int 0) (x.int 1) (x.int 2) (x.vl 0) (x.il 0) (x.ad 2) (x.ad 3) (x.ad 4) (x.ad 5) (x.nat 0) (x.nat 1) (x.va 0) (x.va 1) (x.ob 0) (x.ob 1) (x.ob 2) (x.ob 3) (x.ob 4) (x.ob 5) (x.ob 6) (x.ob 7) (x.ad 6) (x.ad 7) (x.ad 8) (x.ad 9) (x.tok 0) (x.tok 1) (x.tok 2) (x.va 2) (x.va 3) x.qf (x.qv 0)) ?_ (Sv.mk w p loose mean (fun _ => h₀) (fun i => [c, ct].getD i c) (fun i => [x, x0, x1].getD i x) (fun i => [L, f, M, Tl, S, Z, q1, q2, q3, q4].getD i L) (fun i => [t, t0, t1].getD i t) (fun _ => cd) (fun i => [o1, o2, o3, o4, x1', x2', x3', x4'].getD i o1) (fun _ => vs) (fun i => [tl, zv, p1, p2].getD i tl) (fun _ => ms) (fun _ => []) (fun i => [mg, mb, m].getD i mg) (fun _ => s) (fun _ => "") (fun _ => fun _ => "") (fun _ => none) (fun _ => #[]) (fun _ => none) (fun _ => default) (fun _ => none) (fun _ => []) (fun _ => []) (fun _ => {}) (fun _ => true) Q (fun _ => E))
  clear E Q p2 p1 t1 t0 t q4 q3 q2 q1 x4' x3' x2' x1' o4 o3 o2 o1 zv tl ct c Z S Tl M ms vs x1 x0 x s m cd f L h₀ mb mg mean loose p w
  refine (?_ : ∀ (w : World) (p : Program) (loose : List Str) (mean : ExcName → Option Value) (mg : Str → Option Value) (mb : Str → Option Value) (h₀ : Heap) (L : Addr) (f : Addr) (cd : Value) (m : Str → Option Value) (s : Shared) (x : Int) (x0 : Int) (x1 : Int) (vs : List Value) (ms : List Int) (M : Addr) (Tl : Addr) (S : Addr) (Z : Addr) (c : Nat) (ct : Nat) (tl : Array Value) (zv : Array Value) (o1 : Obj) (o2 : Obj) (o3 : Obj) (o4 : Obj) (x1' : Obj) (x2' : Obj) (x3' : Obj) (x4' : Obj) (q1 : Addr) (q2 : Addr) (q3 : Addr) (q4 : Addr) (t : Tok) (t0 : Tok) (t1 : Tok) (p1 : Array Value) (p2 : Array Value) (Q : Flow → Shared → Prop) (E : Value → Shared → Prop), pB_turn_S w p loose mean mg mb h₀ L f cd m s x x0 x1 vs ms M Tl S Z c ct tl zv o1 o2 o3 o4 x1' x2' x3' x4' q1 q2 q3 q4 t t0 t1 p1 p2 Q E) _ _ _ _ _ _ _ _ _ _ _ _ _ _ _ _ _ _ _ _ _ _ _ _ _ _ _ _ _ _ _ _ _ _ _ _ _ _ _ _ _ _ _ _
  intro w p loose mean mg mb h₀ L f cd m s x x0 x1 vs ms M Tl S Z c ct tl zv o1 o2 o3 o4 x1' x2' x3' x4' q1 q2 q3 q4 t t0 t1 p1 p2 Q E hx hi hm1 hms h0 h1 B F X T mS mz d3 l1 N hnext hbrk
  revert X; k_fill; intro X
  obtain ⟨m, rfl⟩ : ∃ m9, m = fun z : Str => if z = "sizes" then some (.ref S) else if z = "size" then some (.int x t) else m9 z := ⟨m, by
    funext z
    by_cases hz : z = "sizes"
    · subst hz; rw [if_pos rfl]; exact mS
    rw [if_neg hz]; clear hz
    by_cases hz : z = "size"
    · subst hz; rw [if_pos rfl]; exact mz
    rw [if_neg hz]⟩
  unfold lawTop lawEnv
  rw [lawCells_is]
  generalize hS : lawScope = S
  (conv at hS => lhs; whnf)
  subst hS
  generalize hS : st 6 = S
  (conv at hS => lhs; whnf)
  subst hS
  dsimp only [forBody]
  walk_at "GO"
  · exact hbrk _ (by assumption)
  · (rename News _ _ _ _ => n9)
    simp only [List.push_toArray] at n9
    exact hnext _ _ _ _ (by assumption) (by assumption) n9
  · exfalso
    (rename (List.any _ _) = false => hf9)
    rcases hx with rfl | rfl <;> simp at hf9
theorem pB_loop {w : World} {p : Program} {loose : List Str} {mean : ExcName → Option Value} {mg mb : Str → Option Value} {h₀ : Heap} {L f : Addr} {cd : Value} {m : Str → Option Value} {s : Shared} {x0 x1 fi : Int} {M Tl S Z L9 D9 : Addr} {ct : Nat} {tl : List Value} {zv : Array Value} {o1 o2 o3 o4 o9 od og : Obj} {tf t0 t1 : Tok} {p1 p2 : Array Value} {last : Option Nat} {c9 : Code} {px : Pos} {Q : Flow → Shared → Prop}  (hf : 0 ≤ fi ∧ fi ≤ 2) (h0 : 1 ≤ x0 ∧ x0 ≤ 3) (h1 : 1 ≤ x1 ∧ x1 ≤ 3) (hgens : s.gens = #[.fresh c9]) (B : Below callerA h₀ [] h₀) (F : Fr h₀ L s.heap m) (X : (hd.heap_39 w.params).In h₀) (T : Top p loose mean mg mb h₀) (mS : m "sizes" = some (.ref S)) (d3 : o3.data = .cell (some (.ref M)))
  (l1 : @LT.lt Nat _ Tl M ∧ @LT.lt Nat _ S M ∧ @LT.lt Nat _ Z M ∧ @LT.lt Nat _ (L + 4) M ∧ @LT.lt Nat _ 80 L ∧ @LT.lt Nat _ M D9 ∧ @LT.lt Nat _ D9 L9)
  (N : News h₀ L s.heap [(L9 + 1, og), (L9, o9), (D9, od), (M, listOf #[.int fi tf] 0), (Tl, listOf tl.toArray 0), (S, listOf #[.int x0 t0, .int x1 t1] 0), (Z, listOf zv ct), (L + 4, o4), (L + 3, o3), (L + 2, o2), (L + 1, o1), (80, tabObj p1), (73, tabObj p2)]) (g9 : s.heap.IsGen (L9 + 1) 0)
  (fr : GenFresh w h₀ L9 D9 o9 od (fun k => if k = 0 then x0 else x1) last c9) 
  (hret : ∀ h' tk' m' gs k vs c', GenState.bare gs = true → IntsAre vs (marksL fi x0 x1 k) → markAt fi x0 x1 k ≤ 7 → ((last = some k ∨ 7 < markAt fi x0 x1 (k + 1)) ∧ ∀ j, last = some j → k ≤ j) →
     (∀ y : Str, y ≠ "size" → m' y = m y) → Fr h₀ L h' m' → News h₀ L h' [(M, listOf vs.toArray c'), (Tl, listOf tl.toArray 0), (S, listOf #[.int x0 t0, .int x1 t1] 0), (Z, listOf zv ct), (L + 4, o4), (L + 3, o3), (L + 2, o2), (L + 1, o1), (80, tabObj p1), (73, tabObj p2)] → Q .next { s with heap := h', toks := tk', gens := #[gs] }) :
  codeAny (model PySem.Challenge.rw_zo0033_01.row.prog w) (lawTop L f cd) (.forLoop (.Name "size" px) (.ref (L9 + 1)) (forBody (st 6)) [] (lawEnv L f cd)) (fun r s' => match r with | .ok f => Q f s' | .error _ => False) s := by
  have small : ∀ (st : List Value × Nat × (Str → Option Value)), ∀ p ∈ (M, listOf st.1.toArray st.2.1) :: [(Tl, listOf tl.toArray 0), (S, listOf #[.int x0 t0, .int x1 t1] 0), (Z, listOf zv ct), (L + 4, o4), (L + 3, o3), (L + 2, o2), (L + 1, o1), (80, tabObj p1), (73, tabObj p2)], @LT.lt Nat _ p.1 D9 := by
    intro st p hp
    simp only [List.mem_cons, List.not_mem_nil, or_false] at hp
    rcases hp with rfl | rfl | rfl | rfl | rfl | rfl | rfl | rfl | rfl | rfl <;> (dsimp only; omega)
  refine gen_loop (σ := List Value × Nat × (Str → Option Value)) (fun st => (M, listOf st.1.toArray st.2.1) :: [(Tl, listOf tl.toArray 0), (S, listOf #[.int x0 t0, .int x1 t1] 0), (Z, listOf zv ct), (L + 4, o4), (L + 3, o3), (L + 2, o2), (L + 1, o1), (80, tabObj p1), (73, tabObj p2)]) (fun st => st.2.2)
    (fun k st => IntsAre st.1 (marksL fi x0 x1 k) ∧ markAt fi x0 x1 k ≤ 7 ∧ st.2.2 "sizes" = some (.ref S) ∧ (∀ j, last = some j → k ≤ j) ∧ ∀ y : Str, y ≠ "size" → st.2.2 y = m y)
    (fun k st => IntsAre st.1 (marksL fi x0 x1 k) ∧ markAt fi x0 x1 k ≤ 7 ∧ ((last = some k ∨ 7 < markAt fi x0 x1 (k + 1)) ∧ ∀ j, last = some j → k ≤ j) ∧ ∀ y : Str, y ≠ "size" → st.2.2 y = m y)
    (st0 := ([.int fi tf], 0, m)) rfl (by simp only [lawTop, depth_deeper, depth_caller]; decide) T.nolimit rfl rfl (fun st p hp => Nat.lt_trans (small st p hp) l1.2.2.2.2.2.2) (Nat.lt_succ_self _) l1.2.2.2.2.2.2 (by show @LT.lt Nat _ L L9; omega) (fun st p hp => Nat.ne_of_lt (small st p hp)) fr F N
    ⟨.cons _ _ .nil, by show fi ≤ 7; omega, mS, fun j _ => Nat.zero_le j, fun _ _ => rfl⟩ g9 hgens (fun k st I => by have := (marksL_range hf.1 h0 h1 I.2.1).1; omega) (fun k st hl I => ⟨I.1, I.2.1, ⟨.inl hl, I.2.2.2.1⟩, I.2.2.2.2⟩) ?_ ?_
  · rintro k ⟨vs, c, m1⟩ t h tk gens q1 x1' q2 x2' q3 x3' q4 x4' hnl ⟨I1, I2, I3, Ij, I4⟩ ap F1 N1
    dsimp only at I1 I3 I4 F1 N1 ⊢
    have hr := marksL_range hf.1 h0 h1 I2
    have apM := ap (vs, c, m1) _ (.head _)
    dsimp only at apM
    refine pB_turn (x := if k = 0 then x0 else x1) (x0 := x0) (x1 := x1) (t0 := t0) (t1 := t1) (by split; exact .inl rfl; exact .inr rfl) I1 (by rw [marksL_len]; omega) hr.2 h0 h1 B F1 X T
      ((set_ne (m := m1) (by decide)).trans I3) (if_pos rfl) d3 ⟨l1.1, l1.2.1, l1.2.2.1, l1.2.2.2.1, l1.2.2.2.2.1, apM⟩ N1 ?_ ?_
    · intro h' tk' t' c' hle F' N'
      have es : markAt fi x0 x1 k + (if k = 0 then x0 else x1) = markAt fi x0 x1 (k + 1) := rfl
      rw [marksL_last, es] at hle N'
      refine ⟨h', tk', (vs ++ [Value.int (markAt fi x0 x1 (k + 1)) t'], c', _), rfl, ⟨?_, by omega, ?_, fun j hj => Nat.lt_of_le_of_ne (Ij j hj) (fun e => hnl (e ▸ hj)), ?_⟩, F', N'⟩
      · rw [marksL_succ]; exact I1.append (.cons _ _ .nil)
      · exact (set_ne (m := m1) (x := "size") (v := some (.int (if k = 0 then x0 else x1) t)) (by decide)).trans I3
      · intro y hy; exact (set_ne (m := m1) hy).trans (I4 y hy)
    · intro tk' hgt
      have es : markAt fi x0 x1 k + (if k = 0 then x0 else x1) = markAt fi x0 x1 (k + 1) := rfl
      rw [marksL_last, es] at hgt
      refine ⟨h, tk', (vs, c, _), rfl, ⟨I1, I2, ⟨.inr hgt, Ij⟩, ?_⟩, F1, fun p hp => N1 p (List.mem_append_left _ hp)⟩
      intro y hy; exact (set_ne (m := m1) hy).trans (I4 y hy)
  · rintro k ⟨vs, c, m1⟩ h tk gs ⟨I1, I2, I3, I4⟩ hb F1 N1
    exact hret h tk m1 gs k vs c hb I1 I2 I3 I4 F1 N1
theorem codeAny_noE {M : Model} {A : Around} {c : Code} {s : Shared} {Q : Flow → Shared → Prop} {E : Value → Shared → Prop} (h : codeAny M A c (fun r s' => match r with | .ok f => Q f s' | .error _ => False) s) : codeAny M A c (fun r s' => match r with | .ok f => Q f s' | .error e => E e s') s :=
  codeAny_mono h fun r s' hr => by
    cases r with
    | ok fl => exact hr
    | error e => exact hr.elim
theorem group_use {w : World} {D9 : Addr} {x0 x1 : Int} {t0 t1 : Tok} {tl : List Value} {kd : Nat} (htl : gTail kd tl) (h0 : 1 ≤ x0 ∧ x0 ≤ 3) (h1 : 1 ≤ x1 ∧ x1 ≤ 3)
    {p : Program} {loose : List Str} {mean : ExcName → Option Value} {mg mb : Str → Option Value} {dp un : Nat} {gd : Option (List Code)} {cn : Str} {cs : Scope} {a : Addr} {ccd : Value} {cl : List (Str × Addr)} {outer : List Env} {h₀ : Heap} {L : Addr} {m : Str → Option Value} {news : List (Addr × Obj)} {s : Shared} {Q E : Value → Shared → Prop} {c0 : Nat}
    (F : Fr h₀ L s.heap m) (X : (hd.heap_39 w.params).In h₀) (N : News h₀ L s.heap news) (T : Top p loose mean mg mb h₀) (hm : (D9, listOf (.int x0 t0 :: .int x1 t1 :: tl).toArray c0) ∈ news)
    (hdp : dp + 6 < recursionLimit) (hun : un + 48 < cLine)
    (hret : ∀ h' tk o9 c9 og L9, Fr h₀ L h' m → News h₀ L h' ((L9 + 1, og) :: (L9, o9) :: news) → h'.IsGen (L9 + 1) s.gens.size →
      GenFresh w h₀ L9 D9 o9 (listOf (.int x0 t0 :: .int x1 t1 :: tl).toArray c0) (fun k => if k = 0 then x0 else x1) (if kd = 0 ∨ kd = 2 then some 2 else none) c9 →
      (∀ p ∈ news, @LT.lt Nat _ p.1 L9) → @LT.lt Nat _ L L9 → Q (.ref (L9 + 1)) { s with heap := h', gens := s.gens.push (.fresh c9), toks := tk }) :
    wpAny (model PySem.Challenge.rw_zo0033_01.row.prog w) (ktrTop dp un gd cn cs L a ccd cl outer) (call (.ref 106) [.ref D9]) Q E s :=
  group_spec htl h0 h1 F X N T hm hdp hun fun h' tk o9 c9 og F' N' _ g fr => hret h' tk o9 c9 og _ F' N' g fr (fun p hp => Heap.lt_size (N p hp).1) F.ns.lt
theorem reg_PB_23 : True := by
  (k_with "call ref" => (k_here; k_dflt (refine' group_use ?t ?a ?b ?F ?X ?N ?T ?m ?d ?u ?_; (case F => k_asm); (case X => k_asm); (case N => k_asm); (case T => k_asm); (case m => repeat (first | exact .head _ | refine .tail _ ?_)); (case t => assumption); (case a => assumption); (case b => assumption); (case d => ktr_room); (case u => first | ktr_units | (have hcL9₉₉ := cLine_is; (simp only [units_in1, units_deeper, Around.mark_units, units_caller] at *); done)); intro h'₉₉ tk'₉₉ o9'₉₉ c9'₉₉ og'₉₉ L9'₉₉ F'₉₉ N'₉₉ g'₉₉ fr'₉₉ lt9₉₉ ltL₉₉; have lt8₉₉ := lt9₉₉ _ (.head _); (try dsimp only at lt8₉₉))))
  trivial
noncomputable def pB_S (w : World) (p : Program) (loose : List Str) (mean : ExcName → Option Value) (mg : Str → Option Value) (mb : Str → Option Value) (h₀ : Heap) (L : Addr) (f : Addr) (cd : Value) (m : Str → Option Value) (s : Shared) (x0 : Int) (x1 : Int) (fi : Int) (M : Addr) (Tl : Addr) (S : Addr) (Z : Addr) (ct : Nat) (kd : Nat) (tl : List Value) (zv : Array Value) (o1 : Obj) (o2 : Obj) (o3 : Obj) (o4 : Obj) (tf : Tok) (t0 : Tok) (t1 : Tok) (p1 : Array Value) (p2 : Array Value) (Q : Flow → Shared → Prop) (E : Value → Shared → Prop) : Prop :=
  ∀ (htl : gTail kd tl) (hf : 0 ≤ fi ∧ fi ≤ 2) (h0 : 1 ≤ x0 ∧ x0 ≤ 3) (h1 : 1 ≤ x1 ∧ x1 ≤ 3) (hgens : s.gens = #[]) (B : Below callerA h₀ [] h₀) (F : Fr h₀ L s.heap m) (X : (hd.heap_39 w.params).In h₀) (T : Top p loose mean mg mb h₀) (mS : m "sizes" = some (.ref S)) (mT : m "tail" = some (.ref Tl)) (d3 : o3.data = .cell (some (.ref M))) (l1 : @LT.lt Nat _ Tl M ∧ @LT.lt Nat _ S M ∧ @LT.lt Nat _ Z M ∧ @LT.lt Nat _ (L + 4) M ∧ @LT.lt Nat _ 80 L) (N : News h₀ L s.heap [(M, listOf #[.int fi tf] 0), (Tl, listOf tl.toArray 0), (S, listOf #[.int x0 t0, .int x1 t1] 0), (Z, listOf zv ct), (L + 4, o4), (L + 3, o3), (L + 2, o2), (L + 1, o1), (80, tabObj p1), (73, tabObj p2)]) (hret : ∀ h' tk' m' gs k vs c', GenState.bare gs = true → IntsAre vs (marksL fi x0 x1 k) → markAt fi x0 x1 k ≤ 7 → (((if kd = 0 ∨ kd = 2 then some 2 else none) = some k ∨ 7 < markAt fi x0 x1 (k + 1)) ∧ ∀ j, (if kd = 0 ∨ kd = 2 then some 2 else none) = some j → k ≤ j) →
     (∀ y : Str, y ≠ "size" → m' y = m y) → Fr h₀ L h' m' → News h₀ L h' [(M, listOf vs.toArray c'), (Tl, listOf tl.toArray 0), (S, listOf #[.int x0 t0, .int x1 t1] 0), (Z, listOf zv ct), (L + 4, o4), (L + 3, o3), (L + 2, o2), (L + 1, o1), (80, tabObj p1), (73, tabObj p2)] → Q .next { s with heap := h', toks := tk', gens := #[gs] }),
    wpAny (model PySem.Challenge.rw_zo0033_01.row.prog w) (lawTop L f cd) (execs [st 6] (lawEnv L f cd)) Q E s
theorem pB {w : World} {p : Program} {loose : List Str} {mean : ExcName → Option Value} {mg : Str → Option Value} {mb : Str → Option Value} {h₀ : Heap} {L : Addr} {f : Addr} {cd : Value} {m : Str → Option Value} {s : Shared} {x0 : Int} {x1 : Int} {fi : Int} {M : Addr} {Tl : Addr} {S : Addr} {Z : Addr} {ct : Nat} {kd : Nat} {tl : List Value} {zv : Array Value} {o1 : Obj} {o2 : Obj} {o3 : Obj} {o4 : Obj} {tf : Tok} {t0 : Tok} {t1 : Tok} {p1 : Array Value} {p2 : Array Value} {Q : Flow → Shared → Prop} {E : Value → Shared → Prop} : pB_S w p loose mean mg mb h₀ L f cd m s x0 x1 fi M Tl S Z ct kd tl zv o1 o2 o3 o4 tf t0 t1 p1 p2 Q E := by
  refine eps_all (fun x : Sv => pB_S x.w x.p x.loose x.mean (x.mf 0) (x.mf 1) (x.hp 0) (x.ad 0) (x.ad 1) (x.val 0) (x.mf 2) (x.sh 0) (x.int 0) (x.int 1) (x.int 2) (x.ad 2) (x.ad 3) (x.ad 4) (x.ad 5) (x.nat 0) (x.nat 1) (x.vl 0) (x.va 0) (x.ob 0) (x.ob 1) (x.ob 2) (x.ob 3) (x.tok 0) (x.tok 1) (x.tok 2) (x.va 1) (x.va 2) x.qf (x.qv 0)) ?_ (Sv.mk w p loose mean (fun _ => h₀) (fun i => [ct, kd].getD i ct) (fun i => [x0, x1, fi].getD i x0) (fun i => [L, f, M, Tl, S, Z].getD i L) (fun i => [tf, t0, t1].getD i tf) (fun _ => cd) (fun i => [o1, o2, o3, o4].getD i o1) (fun _ => tl) (fun i => [zv, p1, p2].getD i zv) (fun _ => []) (fun _ => []) (fun i => [mg, mb, m].getD i mg) (fun _ => s) (fun _ => "") (fun _ => fun _ => "") (fun _ => none) (fun _ => #[]) (fun _ => none) (fun _ => default) (fun _ => none) (fun _ => []) (fun _ => []) (fun _ => {}) (fun _ => true) Q (fun _ => E))
  clear E Q p2 p1 t1 t0 tf o4 o3 o2 o1 zv tl kd ct Z S Tl M fi x1 x0 s m cd f L h₀ mb mg mean loose p w
  refine (?_ : ∀ (w : World) (p : Program) (loose : List Str) (mean : ExcName → Option Value) (mg : Str → Option Value) (mb : Str → Option Value) (h₀ : Heap) (L : Addr) (f : Addr) (cd : Value) (m : Str → Option Value) (s : Shared) (x0 : Int) (x1 : Int) (fi : Int) (M : Addr) (Tl : Addr) (S : Addr) (Z : Addr) (ct : Nat) (kd : Nat) (tl : List Value) (zv : Array Value) (o1 : Obj) (o2 : Obj) (o3 : Obj) (o4 : Obj) (tf : Tok) (t0 : Tok) (t1 : Tok) (p1 : Array Value) (p2 : Array Value) (Q : Flow → Shared → Prop) (E : Value → Shared → Prop), pB_S w p loose mean mg mb h₀ L f cd m s x0 x1 fi M Tl S Z ct kd tl zv o1 o2 o3 o4 tf t0 t1 p1 p2 Q E) _ _ _ _ _ _ _ _ _ _ _ _ _ _ _ _ _ _ _ _ _ _ _ _ _ _ _ _ _ _ _ _ _ _
  intro w p loose mean mg mb h₀ L f cd m s x0 x1 fi M Tl S Z ct kd tl zv o1 o2 o3 o4 tf t0 t1 p1 p2 Q E htl hf h0 h1 hgens B F X T mS mT d3 l1 N hret
  revert X; k_fill; intro X
  obtain ⟨m, rfl⟩ : ∃ m9, m = fun z : Str => if z = "sizes" then some (.ref S) else if z = "tail" then some (.ref Tl) else m9 z := ⟨m, by
    funext z
    by_cases hz : z = "sizes"
    · subst hz; rw [if_pos rfl]; exact mS
    rw [if_neg hz]; clear hz
    by_cases hz : z = "tail"
    · subst hz; rw [if_pos rfl]; exact mT
    rw [if_neg hz]⟩
  unfold lawTop lawEnv
  rw [lawCells_is]
  generalize hS : lawScope = S
  (conv at hS => lhs; whnf)
  subst hS
  generalize hS : st 6 = S
  (conv at hS => lhs; whnf)
  subst hS
  refine wpAny_execs_cons ?_
  refine wpAny_For ?_ (by intro _; rfl)
  match kd, htl with
  | 0, htl =>
    have e : tl = [] := htl
    subst e
    walk_at "GO"
    (rename Heap.IsGen _ _ _ => g9)
    (rename GenFresh _ _ _ _ _ _ _ _ _ => fr9)
    (rename Fr _ _ _ _ => f9)
    (rename News _ _ _ _ => n9)
    refine wpAny_pyIter_gen g9 ?_
    rw [hgens] at g9 ⊢
    refine codeAny_noE (pB_loop (M := M) (Tl := Tl) (S := S) (Z := Z) (t0 := t0) (t1 := t1) (tf := tf) hf h0 h1 rfl B f9 X T (by rfl) d3 ?_ (n9_mem n9 (by kcj_all)) g9 fr9 ?_)
    · refine ⟨?_, ?_, ?_, ?_, ?_, ?_, ?_⟩ <;> omega
    · intro h' tk' m' gs k vs c' hb hi hm he hy F' N'
      refine wpAny_execs_nil ?_
      exact hret h' tk' m' gs k vs c' hb hi hm he hy F' N'
  | 1, htl =>
    obtain ⟨ta9, e⟩ := id htl
    subst e
    walk_at "GO"
    (rename Heap.IsGen _ _ _ => g9)
    (rename GenFresh _ _ _ _ _ _ _ _ _ => fr9)
    (rename Fr _ _ _ _ => f9)
    (rename News _ _ _ _ => n9)
    refine wpAny_pyIter_gen g9 ?_
    rw [hgens] at g9 ⊢
    refine codeAny_noE (pB_loop (M := M) (Tl := Tl) (S := S) (Z := Z) (t0 := t0) (t1 := t1) (tf := tf) hf h0 h1 rfl B f9 X T (by rfl) d3 ?_ (n9_mem n9 (by kcj_all)) g9 fr9 ?_)
    · refine ⟨?_, ?_, ?_, ?_, ?_, ?_, ?_⟩ <;> omega
    · intro h' tk' m' gs k vs c' hb hi hm he hy F' N'
      refine wpAny_execs_nil ?_
      exact hret h' tk' m' gs k vs c' hb hi hm he hy F' N'
  | 2, htl =>
    obtain ⟨ta9, tb9, e⟩ := id htl
    subst e
    walk_at "GO"
    (rename Heap.IsGen _ _ _ => g9)
    (rename GenFresh _ _ _ _ _ _ _ _ _ => fr9)
    (rename Fr _ _ _ _ => f9)
    (rename News _ _ _ _ => n9)
    refine wpAny_pyIter_gen g9 ?_
    rw [hgens] at g9 ⊢
    refine codeAny_noE (pB_loop (M := M) (Tl := Tl) (S := S) (Z := Z) (t0 := t0) (t1 := t1) (tf := tf) hf h0 h1 rfl B f9 X T (by rfl) d3 ?_ (n9_mem n9 (by kcj_all)) g9 fr9 ?_)
    · refine ⟨?_, ?_, ?_, ?_, ?_, ?_, ?_⟩ <;> omega
    · intro h' tk' m' gs k vs c' hb hi hm he hy F' N'
      refine wpAny_execs_nil ?_
      exact hret h' tk' m' gs k vs c' hb hi hm he hy F' N'
  | 3, htl =>
    obtain ⟨ta9, tb9, e⟩ := id htl
    subst e
    walk_at "GO"
    (rename Heap.IsGen _ _ _ => g9)
    (rename GenFresh _ _ _ _ _ _ _ _ _ => fr9)
    (rename Fr _ _ _ _ => f9)
    (rename News _ _ _ _ => n9)
    refine wpAny_pyIter_gen g9 ?_
    rw [hgens] at g9 ⊢
    refine codeAny_noE (pB_loop (M := M) (Tl := Tl) (S := S) (Z := Z) (t0 := t0) (t1 := t1) (tf := tf) hf h0 h1 rfl B f9 X T (by rfl) d3 ?_ (n9_mem n9 (by kcj_all)) g9 fr9 ?_)
    · refine ⟨?_, ?_, ?_, ?_, ?_, ?_, ?_⟩ <;> omega
    · intro h' tk' m' gs k vs c' hb hi hm he hy F' N'
      refine wpAny_execs_nil ?_
      exact hret h' tk' m' gs k vs c' hb hi hm he hy F' N'
  | n + 4, htl => exact htl.elim
end
theorem reset_T2 : True := by
  w_top off
  k_with_none
  (k_with "OM" => with_reducible first | assumption | decide | (refine Nat.ne_of_lt ?_; k_extra "OP") | (refine o_n ?_; k_extra "OP") | k_extra "OP" | exact o_1 | exact o_2 | exact o_3 | exact o_4 | exact o_5 | exact o_6 | exact o_7 | exact o_8 | exact o_9 | exact o_10 | exact o_11 | exact o_12 | exact o_13 | exact o_14 | exact o_15 | exact o_16 | exact o_17 | exact o_18 | exact o_s1 | exact o_s2 | exact o_s3 | exact o_s4 | exact o_s5 | exact o_s6 | exact o_s7 | exact o_s8 | exact o_s9 | exact o_s10 | exact o_s11 | exact o_s12 | exact o_s13 | exact o_s14 | exact o_s15 | exact o_s16 | exact o_r 1 | exact o_r 2 | exact o_r 3 | exact o_r 4 | exact o_r 5 | exact o_r 6 | exact o_r 7 | exact o_r 8 | exact o_r 9 | exact o_r 10 | exact o_r 11 | exact o_r 12 | exact o_r 13 | exact o_r 14 | exact o_r 15 | exact o_r 16 | exact o_u1 | exact o_u2 | exact o_u3 | exact o_e1 | exact o_e2 | exact o_e3 | exact o_e4 | exact o_m1 | exact o_c1 | exact o_c2 | exact o_c3 | exact o_c4 | exact o_c5 | exact o_n1 | exact o_n2 | exact o_n3 | exact o_n4 | exact o_d1 | fail)
  (k_with "OP" => first | k_extra "OB" | exact o_p1 | exact o_p2 | exact o_p3 | exact o_p4 | (refine o_l 1 ?_; k_extra "OB") | (refine o_l 2 ?_; k_extra "OB") | (refine o_l 3 ?_; k_extra "OB") | (refine o_l 4 ?_; k_extra "OB") | fail)
  (k_with "OB" => first | assumption | (refine o_pk ?_; k_extra "OK") | fail)
  (k_with "OK" => first | exact And.left | exact And.right | (refine o_sk ?_; k_extra "OK") | fail)
  (k_with "ENTER" => (
  refine spec_eps ?_
  refine (?_ : Spec _ _ _ _ _ _ _) _ _ _ _ _ _ _ _ _ _ _ _ _ _ _ _ _ _ _ _ _ _ _
  intro p₉₉ loose₉₉ mean₉₉ mg₉₉ mb₉₉ dp₉₉ un₉₉ gd₉₉ cn₉₉ cs₉₉ a₉₉ ccd₉₉ cl₉₉ outer₉₉ A₀₉₉ base₉₉ h₀₉₉ L₉₉ m₉₉ news₉₉ s₉₉ Q₉₉ E₉₉
  unfold SpecB
  k_fill
  intro B₉₉ F₉₉ X₉₉ N₉₉ T₉₉ hk₉₉ hd₉₉ hu₉₉ hus₉₉ hpre₉₉ hret₉₉
  refine wpAny_call ?_
  k_dflt (refine' code_us ?k1 ?k2 ?k3 ?k4 ?k5 ?kA ?kF ?kK ?k6 ?k7 ?k8 ?k9 ?kB ?_ ?c2 ?c3 ?c4 ?c5; (case kA => exact rfl); (case kF => exact rfl); (case kK => assumption); (case k1 => k_asm); (case k2 => k_asm); (case k3 => k_asm); (case k4 => exact fun p₉₉ hp => N₉₉ p₉₉ (hus₉₉ p₉₉ hp)); (case k5 => k_asm); (case k6 => k_is); (case k7 => k_is); (case k8 => ktr_room); (case k9 => first | k_extra "binds" | exact BindsTo.of_eq rfl); (case c5 => decide); (case kB => exact locs rfl); (case c2 => exact rfl); (case c3 => exact rfl); (case c4 => exact rfl); k_whole)
  intro g'₉₉ L'₉₉ h'₉₉ eL₉₉ eg₉₉ FG'₉₉ F'₉₉ N'₉₉ B'₉₉ X'₉₉ T'₉₉ lU₉₉
  (try dsimp only)
  k_fold
  (try k_lt lU₉₉)
  clear F₉₉))
  (k_with "END1" => (
  refine spec_end1 (by assumption) (by assumption) (by assumption) (by assumption) (by assumption) (by assumption) (by assumption) (by assumption) (by kcj_all) (by first | assumption | (dsimp only; omega)) ?_))
  (k_with "GO" => repeat' (first | (k_unfold; (try dsimp only)) | (k_end; wrow_close) | walk1 | (dsimp only; k_unfold; (try dsimp only)) | (dsimp only; walk1) | (leave1; (try dsimp only)) | fail "no step"))
  first | walk1 | trivial
section
set_option Elab.async false
set_option maxRecDepth 100000
set_option maxHeartbeats 8000000
set_option pp.deepTerms false
set_option pp.maxSteps 4000
theorem reg_T2_7 : True := by
  (k_with "exec For Name Name cons nil" => (k_here; (rename Fr _ _ _ _ => lF'₉₉); (with_unfolding_all refine' For_invVF lF'₉₉ ?k1 ?k2 ?_; (case k1 => exact rfl); (case k2 => exact rfl); k_whole)))
  trivial
theorem reg_T2_8 : True := by
  (k_with "pyIter ref" => ((with_reducible show wpAny _ _ (pyIter (Value.ref _)) (fun it s₂ => LoopAtV _ _ _ _ _ _ _ _ _ it s₂) _ _); k_listUnr))
  trivial
theorem reg_T2_9 : True := by
  (k_with "exec For Name Subscript cons nil" => (k_here; (rename Fr _ _ _ _ => lF'₉₉); (with_unfolding_all refine' For_invVF lF'₉₉ ?k1 ?k2 ?_; (case k1 => exact rfl); (case k2 => exact rfl); k_whole)))
  trivial
noncomputable def frac_spec_S (w : World) (l : Addr) (a : Int) (b : Int) (f : Int) (s1 : Int) (s2 : Int) (t1 : Tok) (t2 : Tok) (t3 : Tok) (t4 : Tok) (t5 : Tok) (c : Nat) (en : Bool) : Prop :=
  ∀ (ha : -3 ≤ a ∧ a ≤ 5) (hb : -5 ≤ b ∧ b ≤ 5) (hf : 0 ≤ f ∧ f ≤ 2) (h1 : 1 ≤ s1 ∧ s1 ≤ 3) (h2 : 1 ≤ s2 ∧ s2 ≤ 3),
    Spec w 134 [.int a t1, .int b t2, .int f t3, .ref l, .bool en] 3 [(l, listOf #[.int s1 t4, .int s2 t5] c)] (fun _ => True)
    (fun v new => ∃ (D : Addr) (U0 L0 : Int) (t1 t2 : Tok), U0 = (if en then b else -b) ∧ L0 = (if en then 2 ^ s2.toNat - a else a) ∧ v = .ref D ∧ new = [(D, { cls := .type "tuple", data := .seq #[.int (2 ^ f.toNat * (2 ^ s1.toNat * (2 ^ s2.toNat * U0 - b * L0) - b * (a * L0))) t1, .int (a * (a * L0)) t2] })])
theorem frac_spec {w : World} {l : Addr} {a : Int} {b : Int} {f : Int} {s1 : Int} {s2 : Int} {t1 : Tok} {t2 : Tok} {t3 : Tok} {t4 : Tok} {t5 : Tok} {c : Nat} {en : Bool} : frac_spec_S w l a b f s1 s2 t1 t2 t3 t4 t5 c en := by
  refine eps_all (fun x : Sv => frac_spec_S x.w (x.ad 0) (x.int 0) (x.int 1) (x.int 2) (x.int 3) (x.int 4) (x.tok 0) (x.tok 1) (x.tok 2) (x.tok 3) (x.tok 4) (x.nat 0) (x.bo 0)) ?_ (Sv.mk w (default) ([]) (fun _ => none) (fun _ => {}) (fun _ => c) (fun i9 => [a, b, f, s1, s2].getD i9 a) (fun _ => l) (fun i9 => [t1, t2, t3, t4, t5].getD i9 t1) (fun _ => .none) (fun _ => default) (fun _ => []) (fun _ => #[]) (fun _ => []) (fun _ => []) (fun _ => fun _ => none) (fun _ => {}) (fun _ => "") (fun _ => fun _ => "") (fun _ => none) (fun _ => #[]) (fun _ => none) (fun _ => default) (fun _ => none) (fun _ => []) (fun _ => []) (fun _ => {}) (fun _ => en) (fun _ _ => True) (fun _ => fun _ _ => True))
  clear en c t5 t4 t3 t2 t1 s2 s1 f b a l w
  refine (?_ : ∀ (w : World) (l : Addr) (a : Int) (b : Int) (f : Int) (s1 : Int) (s2 : Int) (t1 : Tok) (t2 : Tok) (t3 : Tok) (t4 : Tok) (t5 : Tok) (c : Nat) (en : Bool), frac_spec_S w l a b f s1 s2 t1 t2 t3 t4 t5 c en) _ _ _ _ _ _ _ _ _ _ _ _ _ _
  intro w l a b f s1 s2 t1 t2 t3 t4 t5 c en ha hb hf h1 h2
  cases en
  all_goals (
    walk_at "ENTER"
    walk_at "GO"
    walk_at "END1"
    exact ⟨_, _, _, _, _, rfl, rfl, rfl, rfl⟩)
end
theorem reset_T3 : True := by
  w_top off
  k_with_none
  (k_with "OM" => with_reducible first | assumption | decide | (refine Nat.ne_of_lt ?_; k_extra "OP") | (refine o_n ?_; k_extra "OP") | k_extra "OP" | exact o_1 | exact o_2 | exact o_3 | exact o_4 | exact o_5 | exact o_6 | exact o_7 | exact o_8 | exact o_9 | exact o_10 | exact o_11 | exact o_12 | exact o_13 | exact o_14 | exact o_15 | exact o_16 | exact o_17 | exact o_18 | exact o_s1 | exact o_s2 | exact o_s3 | exact o_s4 | exact o_s5 | exact o_s6 | exact o_s7 | exact o_s8 | exact o_s9 | exact o_s10 | exact o_s11 | exact o_s12 | exact o_s13 | exact o_s14 | exact o_s15 | exact o_s16 | exact o_r 1 | exact o_r 2 | exact o_r 3 | exact o_r 4 | exact o_r 5 | exact o_r 6 | exact o_r 7 | exact o_r 8 | exact o_r 9 | exact o_r 10 | exact o_r 11 | exact o_r 12 | exact o_r 13 | exact o_r 14 | exact o_r 15 | exact o_r 16 | exact o_u1 | exact o_u2 | exact o_u3 | exact o_e1 | exact o_e2 | exact o_e3 | exact o_e4 | exact o_m1 | exact o_c1 | exact o_c2 | exact o_c3 | exact o_c4 | exact o_c5 | exact o_n1 | exact o_n2 | exact o_n3 | exact o_n4 | exact o_d1 | fail)
  (k_with "OP" => first | k_extra "OB" | exact o_p1 | exact o_p2 | exact o_p3 | exact o_p4 | (refine o_l 1 ?_; k_extra "OB") | (refine o_l 2 ?_; k_extra "OB") | (refine o_l 3 ?_; k_extra "OB") | (refine o_l 4 ?_; k_extra "OB") | fail)
  (k_with "OB" => first | assumption | (refine o_pk ?_; k_extra "OK") | fail)
  (k_with "OK" => first | exact And.left | exact And.right | (refine o_sk ?_; k_extra "OK") | fail)
  (k_with "ENTER" => (
  refine spec_eps ?_
  refine (?_ : Spec _ _ _ _ _ _ _) _ _ _ _ _ _ _ _ _ _ _ _ _ _ _ _ _ _ _ _ _ _ _
  intro p₉₉ loose₉₉ mean₉₉ mg₉₉ mb₉₉ dp₉₉ un₉₉ gd₉₉ cn₉₉ cs₉₉ a₉₉ ccd₉₉ cl₉₉ outer₉₉ A₀₉₉ base₉₉ h₀₉₉ L₉₉ m₉₉ news₉₉ s₉₉ Q₉₉ E₉₉
  unfold SpecB
  k_fill
  intro B₉₉ F₉₉ X₉₉ N₉₉ T₉₉ hk₉₉ hd₉₉ hu₉₉ hus₉₉ hpre₉₉ hret₉₉
  refine wpAny_call ?_
  k_dflt (refine' code_us ?k1 ?k2 ?k3 ?k4 ?k5 ?kA ?kF ?kK ?k6 ?k7 ?k8 ?k9 ?kB ?_ ?c2 ?c3 ?c4 ?c5; (case kA => exact rfl); (case kF => exact rfl); (case kK => assumption); (case k1 => k_asm); (case k2 => k_asm); (case k3 => k_asm); (case k4 => exact fun p₉₉ hp => N₉₉ p₉₉ (hus₉₉ p₉₉ hp)); (case k5 => k_asm); (case k6 => k_is); (case k7 => k_is); (case k8 => ktr_room); (case k9 => first | k_extra "binds" | exact BindsTo.of_eq rfl); (case c5 => decide); (case kB => exact locs rfl); (case c2 => exact rfl); (case c3 => exact rfl); (case c4 => exact rfl); k_whole)
  intro g'₉₉ L'₉₉ h'₉₉ eL₉₉ eg₉₉ FG'₉₉ F'₉₉ N'₉₉ B'₉₉ X'₉₉ T'₉₉ lU₉₉
  (try dsimp only)
  k_fold
  (try k_lt lU₉₉)
  clear F₉₉))
  (k_with "END1" => (
  refine spec_end1 (by assumption) (by assumption) (by assumption) (by assumption) (by assumption) (by assumption) (by assumption) (by assumption) (by kcj_all) (by first | assumption | (dsimp only; omega)) ?_))
  (k_with "GO" => repeat' (first | (k_unfold; (try dsimp only)) | (k_end; wrow_close) | walk1 | (dsimp only; k_unfold; (try dsimp only)) | (dsimp only; walk1) | (leave1; (try dsimp only)) | fail "no step"))
  (k_with "GO1" => (first | (k_unfold; (try dsimp only)) | (k_end; wrow_close) | walk1 | (dsimp only; k_unfold; (try dsimp only)) | (dsimp only; walk1) | (leave1; (try dsimp only)) | fail "no step"))
  first | walk1 | trivial
section
set_option Elab.async false
set_option maxRecDepth 100000
set_option maxHeartbeats 8000000
set_option pp.deepTerms false
set_option pp.maxSteps 4000
noncomputable def stepW (l a b x : Int) : Int := if Int.fmod x 2 = 0 then Int.fdiv x 2 else Int.fdiv (a * x + b * l) 2
noncomputable def iterW (u l a b : Int) : Nat → Int
  | 0 => u
  | n + 1 => stepW l a b (iterW u l a b n)
noncomputable def walkW (u l a b : Int) (n : Nat) : List Int := (List.range (n + 1)).map (iterW u l a b)
theorem walkW_succ (u l a b : Int) (n : Nat) : walkW u l a b (n + 1) = walkW u l a b n ++ [iterW u l a b (n + 1)] := by
  unfold walkW
  rw [List.range_succ, List.map_append]; rfl
/-- between two turns -/
noncomputable def WInv (u l a b : Int) (pre : List Int) (x : Int) (xs : List Int) : Prop := x = iterW u l a b pre.length ∧ xs = walkW u l a b pre.length
theorem winv_start {u l a b : Int} : WInv u l a b [] u [u] := ⟨rfl, rfl⟩
theorem winv_even {u l a b k x : Int} {pre xs : List Int} (h : WInv u l a b pre x xs) (hx : x.fmod 2 = 0) : WInv u l a b (pre ++ [k]) (x.fdiv 2) (xs ++ [x.fdiv 2]) := by
  obtain ⟨rfl, rfl⟩ := h
  have e : iterW u l a b (pre.length + 1) = (iterW u l a b pre.length).fdiv 2 := by
    show stepW _ _ _ _ = _
    unfold stepW; rw [if_pos hx]
  refine ⟨?_, ?_⟩
  · rw [List.length_append]; exact e.symm
  · rw [List.length_append]; show _ = walkW u l a b (pre.length + 1); rw [walkW_succ, e]
theorem winv_odd {u l a b k x : Int} {pre xs : List Int} (h : WInv u l a b pre x xs) (hx : ¬ x.fmod 2 = 0) : WInv u l a b (pre ++ [k]) ((a * x + b * l).fdiv 2) (xs ++ [(a * x + b * l).fdiv 2]) := by
  obtain ⟨rfl, rfl⟩ := h
  have e : iterW u l a b (pre.length + 1) = (a * iterW u l a b pre.length + b * l).fdiv 2 := by
    show stepW _ _ _ _ = _
    unfold stepW; rw [if_neg hx]
  refine ⟨?_, ?_⟩
  · rw [List.length_append]; exact e.symm
  · rw [List.length_append]; show _ = walkW u l a b (pre.length + 1); rw [walkW_succ, e]
theorem reg_T3_16 : True := by
  (k_with "pyIter ref" => k_extra "pyIter ref")
  trivial
set_option maxHeartbeats 2000000 in
noncomputable def walk_spec_S (w : World) (u : Int) (l : Int) (a : Int) (b : Int) (t1 : Tok) (t2 : Tok) (t3 : Tok) (t4 : Tok) : Prop :=
  ∀ (ha : -3 ≤ a ∧ a ≤ 5) (hb : -5 ≤ b ∧ b ≤ 5),
    Spec w 141 [.int u t1, .int l t2, .int a t3, .int b t4] 3 [] (fun _ => True)
    (fun v new => ∃ (D : Addr) (vs : List Value) (c : Nat), IntsAre vs (walkW u l a b 8) ∧ v = .ref D ∧ new = [(D, listOf vs.toArray c)])
theorem walk_spec {w : World} {u : Int} {l : Int} {a : Int} {b : Int} {t1 : Tok} {t2 : Tok} {t3 : Tok} {t4 : Tok} : walk_spec_S w u l a b t1 t2 t3 t4 := by
  refine eps_all (fun x : Sv => walk_spec_S x.w (x.int 0) (x.int 1) (x.int 2) (x.int 3) (x.tok 0) (x.tok 1) (x.tok 2) (x.tok 3)) ?_ (Sv.mk w (default) ([]) (fun _ => none) (fun _ => {}) (fun _ => 0) (fun i9 => [u, l, a, b].getD i9 u) (fun _ => (0 : Nat)) (fun i9 => [t1, t2, t3, t4].getD i9 t1) (fun _ => .none) (fun _ => default) (fun _ => []) (fun _ => #[]) (fun _ => []) (fun _ => []) (fun _ => fun _ => none) (fun _ => {}) (fun _ => "") (fun _ => fun _ => "") (fun _ => none) (fun _ => #[]) (fun _ => none) (fun _ => default) (fun _ => none) (fun _ => []) (fun _ => []) (fun _ => {}) (fun _ => true) (fun _ _ => True) (fun _ => fun _ _ => True))
  clear t4 t3 t2 t1 b a l u w
  refine (?_ : ∀ (w : World) (u : Int) (l : Int) (a : Int) (b : Int) (t1 : Tok) (t2 : Tok) (t3 : Tok) (t4 : Tok), walk_spec_S w u l a b t1 t2 t3 t4) _ _ _ _ _ _ _ _ _
  intro w u l a b t1 t2 t3 t4 ha hb
  (k_with "binds" => exact BindsTo.of_eq (binds := [("upper", .int u t1), ("lower", .int l t2), ("a", .int a t3), ("b", .int b t4)]) (by with_unfolding_all rfl))
  walk_at "ENTER"
  iterate 18 walk_at "GO1"
  (rename Fr _ _ _ _ => lF')
  (rename News _ _ _ _ => lN')
  (rename IsRange _ _ _ _ _ _ _ _ => rgX)
  refine' kst_range (n := 8) (σ := Int × Tok × List Value × List Int × Nat) (fun c => [(_, listOf c.2.2.1.toArray c.2.2.2.2)]) (fun c => [("upper", .int c.1 c.2.1)]) (fun c => IntsAre c.2.2.1 c.2.2.2.1) ["step"] (fun pre c => WInv u l a b pre c.1 c.2.2.2.1) (u, t1, [.int u t1], [u], 0) rfl rgX (by decide) (by decide) lF' lN' ?kf ?kk ?kp ?turn ?done
  case kf => exact .cons _ _ .nil
  case kk => intro p hp; cases List.mem_singleton.mp hp; rfl
  case kp => exact winv_start
  case turn =>
    rintro ⟨x, tx, vs, xs, cn⟩ pre k t u' h tk own hk hlt hoff hf hp F1 N1
    clear lF' lN' rgX
    dsimp only at hf hp F1 N1 ⊢
    k_fold
    simp only [List.cons_append, List.nil_append] at N1
    have hsz : vs.toArray.size ≤ sizeLine := by
      rw [List.size_toArray, hf.length, hp.2, sizeLine_eq]; unfold walkW; simp; omega
    walk_at "GO"
    · (rename News _ _ _ _ => nE'); simp only [List.push_toArray] at nE'
      exact kst_end (x.fdiv 2, _, vs ++ [.int (x.fdiv 2) _], xs ++ [x.fdiv 2], cn + 1) (by assumption) nE' (by kcj_all) (fun p hp => .tail _ hp) rfl (hf.append (.cons _ _ .nil)) (by intro p hp; cases List.mem_singleton.mp hp; rfl) (by intro z h1 h2 h3; have h4 := h2 _ (.head _); dsimp only at h4; simp [kstB, h1, h4]) (winv_even hp (by assumption))
    · (rename News _ _ _ _ => nE'); simp only [List.push_toArray] at nE'
      exact kst_end ((a * x + b * l).fdiv 2, _, vs ++ [.int ((a * x + b * l).fdiv 2) _], xs ++ [(a * x + b * l).fdiv 2], cn + 1) (by assumption) nE' (by kcj_all) (fun p hp => .tail _ hp) rfl (hf.append (.cons _ _ .nil)) (by intro p hp; cases List.mem_singleton.mp hp; rfl) (by intro z h1 h2 h3; have h4 := h2 _ (.head _); dsimp only at h4; simp [kstB, h1, h4]) (winv_odd hp (by assumption))
  case done =>
    rintro ⟨x, tx, vs, xs, cn⟩ u' h tk hf hp F1 N1
    clear lF' lN' rgX
    dsimp only at hf hp F1 N1 ⊢
    walk_at "GO"
    walk_at "END1"
    exact ⟨_, _, _, hp.2 ▸ hf, rfl, rfl⟩
theorem walkW_len {u l a b : Int} : (walkW u l a b 8).length = 9 := by unfold walkW; simp
end
theorem reset_PC : True := by
  w_top off
  k_with_none
  (k_with "OM" => with_reducible first | assumption | decide | (refine Nat.ne_of_lt ?_; k_extra "OP") | (refine o_n ?_; k_extra "OP") | k_extra "OP" | exact o_1 | exact o_2 | exact o_3 | exact o_4 | exact o_5 | exact o_6 | exact o_7 | exact o_8 | exact o_9 | exact o_10 | exact o_11 | exact o_12 | exact o_13 | exact o_14 | exact o_15 | exact o_16 | exact o_17 | exact o_18 | exact o_s1 | exact o_s2 | exact o_s3 | exact o_s4 | exact o_s5 | exact o_s6 | exact o_s7 | exact o_s8 | exact o_s9 | exact o_s10 | exact o_s11 | exact o_s12 | exact o_s13 | exact o_s14 | exact o_s15 | exact o_s16 | exact o_r 1 | exact o_r 2 | exact o_r 3 | exact o_r 4 | exact o_r 5 | exact o_r 6 | exact o_r 7 | exact o_r 8 | exact o_r 9 | exact o_r 10 | exact o_r 11 | exact o_r 12 | exact o_r 13 | exact o_r 14 | exact o_r 15 | exact o_r 16 | exact o_u1 | exact o_u2 | exact o_u3 | exact o_e1 | exact o_e2 | exact o_e3 | exact o_e4 | exact o_m1 | exact o_c1 | exact o_c2 | exact o_c3 | exact o_c4 | exact o_c5 | exact o_n1 | exact o_n2 | exact o_n3 | exact o_n4 | exact o_d1 | fail)
  (k_with "OP" => first | k_extra "OB" | exact o_p1 | exact o_p2 | exact o_p3 | exact o_p4 | (refine o_l 1 ?_; k_extra "OB") | (refine o_l 2 ?_; k_extra "OB") | (refine o_l 3 ?_; k_extra "OB") | (refine o_l 4 ?_; k_extra "OB") | fail)
  (k_with "OB" => first | assumption | (refine o_pk ?_; k_extra "OK") | fail)
  (k_with "OK" => first | exact And.left | exact And.right | (refine o_sk ?_; k_extra "OK") | fail)
  (k_with "GO" => repeat' (first | (k_unfold; (try dsimp only)) | (k_end; wrow_close) | walk1 | (dsimp only; k_unfold; (try dsimp only)) | (dsimp only; walk1) | (leave1; (try dsimp only)) | fail "no step"))
  first | walk1 | trivial
section
set_option Elab.async false
set_option maxRecDepth 100000
set_option maxHeartbeats 8000000
set_option pp.deepTerms false
set_option pp.maxSteps 300
theorem reg_PC_7 : True := by
  (k_with "call ref" => (k_here; k_dflt (first | (refine' Spec.use (frac_spec ?s1 ?s2 ?s3 ?s4 ?s5) ?k1 ?k2 ?k3 ?k4 ?k5 ?kK ?kd ?ku ?kus ?kp ?_;  (case k1 => k_asm); (case k2 => k_asm); (case k3 => k_asm); (case k4 => k_asm); (case k5 => k_asm); (case kK => first | exact rfl | assumption); (case kd => ktr_room); (case ku => first | ktr_units | (have hcL9₉₉ := cLine_is; (simp only [units_in1, units_deeper, Around.mark_units, units_caller] at *); done)); (case kus => (intro p₉₉ hp₉₉; rw [List.mem_singleton.mp hp₉₉]; repeat (first | exact .head _ | refine .tail _ ?_))); (case kp => first | trivial | assumption); (case s1 => assumption); (case s2 => assumption); (case s3 => assumption); (case s4 => assumption); (case s5 => assumption);intro v'₉₉ new'₉₉ h'₉₉ tk'₉₉ hp'₉₉ F'₉₉ N'₉₉ l1₉₉; obtain ⟨D'₉₉, U'₉₉, L'₉₉, ta'₉₉, tb'₉₉, eU₉₉, eL₉₉, e1₉₉, e2₉₉⟩ := hp'₉₉; subst e1₉₉; subst eU₉₉; subst eL₉₉; subst e2₉₉; simp only [List.cons_append, List.nil_append] at N'₉₉; (try (have l2₉₉ := l1₉₉ _ (.head _); simp only [AllLt, and_true] at l2₉₉)); clear l1₉₉; (try dsimp only)) | (refine' Spec.use (walk_spec ?s1 ?s2) ?k1 ?k2 ?k3 ?k4 ?k5 ?kK ?kd ?ku ?kus ?kp ?_; (case s1 => assumption); (case s2 => assumption); (case k1 => k_asm); (case k2 => k_asm); (case k3 => k_asm); (case k4 => k_asm); (case k5 => k_asm); (case kK => first | exact rfl | assumption); (case kd => ktr_room); (case ku => first | ktr_units | (have hcL9₉₉ := cLine_is; (simp only [units_in1, units_deeper, Around.mark_units, units_caller] at *); done)); (case kus => first | exact (fun _ h => nomatch h) | kcj_all); (case kp => first | trivial | assumption); intro v'₉₉ new'₉₉ h'₉₉ tk'₉₉ hp'₉₉ F'₉₉ N'₉₉ l1₉₉; obtain ⟨D'₉₉, vs'₉₉, c'₉₉, hi'₉₉, e1₉₉, e2₉₉⟩ := hp'₉₉; subst e1₉₉; subst e2₉₉; simp only [List.cons_append, List.nil_append] at N'₉₉; (try (have l2₉₉ := l1₉₉ _ (.head _); simp only [AllLt, and_true] at l2₉₉)); clear l1₉₉; (try dsimp only)))))
  trivial
/-- the ruler's fraction -/
noncomputable def fracU (a b f s1 s2 : Int) (en : Bool) : Int := 2 ^ f.toNat * (2 ^ s1.toNat * (2 ^ s2.toNat * (if en then b else -b) - b * (if en then 2 ^ s2.toNat - a else a)) - b * (a * (if en then 2 ^ s2.toNat - a else a)))
noncomputable def fracL (a s2 : Int) (en : Bool) : Int := a * (a * (if en then 2 ^ s2.toNat - a else a))
noncomputable def enOf (kd : Nat) : Bool := kd == 1 || kd == 3
noncomputable def pC_S (w : World) (p : Program) (loose : List Str) (mean : ExcName → Option Value) (mg : Str → Option Value) (mb : Str → Option Value) (h₀ : Heap) (L : Addr) (f : Addr) (cd : Value) (m : Str → Option Value) (s : Shared) (a : Int) (b : Int) (x0 : Int) (x1 : Int) (fi : Int) (vs : List Value) (M : Addr) (Tl : Addr) (S : Addr) (Z : Addr) (c : Nat) (ct : Nat) (kd : Nat) (tl : List Value) (zv : Array Value) (o1 : Obj) (o2 : Obj) (o3 : Obj) (o4 : Obj) (ta : Tok) (tb : Tok) (tf : Tok) (t0 : Tok) (t1 : Tok) (p1 : Array Value) (p2 : Array Value) (Q : Flow → Shared → Prop) (E : Value → Shared → Prop) : Prop :=
  ∀ (htl : gTail kd tl) (ha : -3 ≤ a ∧ a ≤ 5) (hb : -5 ≤ b ∧ b ≤ 5) (hf : 0 ≤ fi ∧ fi ≤ 2) (h0 : 1 ≤ x0 ∧ x0 ≤ 3) (h1 : 1 ≤ x1 ∧ x1 ≤ 3) (B : Below callerA h₀ [] h₀) (F : Fr h₀ L s.heap m) (X : (hd.heap_39 w.params).In h₀) (T : Top p loose mean mg mb h₀) (mF : m "first" = some (.int fi tf)) (mS : m "sizes" = some (.ref S)) (mT : m "tail" = some (.ref Tl)) (d1 : o1.data = .cell (some (.int a ta))) (d2 : o2.data = .cell (some (.int b tb))) (N : News h₀ L s.heap [(M, listOf vs.toArray c), (Tl, listOf tl.toArray 0), (S, listOf #[.int x0 t0, .int x1 t1] 0), (Z, listOf zv ct), (L + 4, o4), (L + 3, o3), (L + 2, o2), (L + 1, o1), (80, tabObj p1), (73, tabObj p2)]) (hret : ∀ h' tk' m' (U D : Int) (R : Addr) (vs8 : List Value) (c8 : Nat) (tu td : Tok), U = fracU a b fi x0 x1 (enOf kd) → D = fracL a x1 (enOf kd) → IntsAre vs8 (walkW U D a b 8) → m' "upper" = some (.int U tu) → m' "lower" = some (.int D td) → m' "ruler" = some (.ref R) → (∀ y : Str, y ≠ "upper" → y ≠ "lower" → y ≠ "ruler" → m' y = m y) →
    Fr h₀ L h' m' → News h₀ L h' [(R, listOf vs8.toArray c8), (M, listOf vs.toArray c), (Z, listOf zv ct), (L + 4, o4), (L + 3, o3), (L + 2, o2), (L + 1, o1), (80, tabObj p1), (73, tabObj p2)] → Q .next { s with heap := h', toks := tk' }),
    wpAny (model PySem.Challenge.rw_zo0033_01.row.prog w) (lawTop L f cd) (execs [st 7, st 8] (lawEnv L f cd)) Q E s
theorem pC {w : World} {p : Program} {loose : List Str} {mean : ExcName → Option Value} {mg : Str → Option Value} {mb : Str → Option Value} {h₀ : Heap} {L : Addr} {f : Addr} {cd : Value} {m : Str → Option Value} {s : Shared} {a : Int} {b : Int} {x0 : Int} {x1 : Int} {fi : Int} {vs : List Value} {M : Addr} {Tl : Addr} {S : Addr} {Z : Addr} {c : Nat} {ct : Nat} {kd : Nat} {tl : List Value} {zv : Array Value} {o1 : Obj} {o2 : Obj} {o3 : Obj} {o4 : Obj} {ta : Tok} {tb : Tok} {tf : Tok} {t0 : Tok} {t1 : Tok} {p1 : Array Value} {p2 : Array Value} {Q : Flow → Shared → Prop} {E : Value → Shared → Prop} : pC_S w p loose mean mg mb h₀ L f cd m s a b x0 x1 fi vs M Tl S Z c ct kd tl zv o1 o2 o3 o4 ta tb tf t0 t1 p1 p2 Q E := by
  refine eps_all (fun x : Sv => pC_S x.w x.p x.loose x.mean (x.mf 0) (x.mf 1) (x.hp 0) (x.ad 0) (x.ad 1) (x.val 0) (x.mf 2) (x.sh 0) (x.int 0) (x.int 1) (x.int 2) (x.int 3) (x.int 4) (x.vl 0) (x.ad 2) (x.ad 3) (x.ad 4) (x.ad 5) (x.nat 0) (x.nat 1) (x.nat 2) (x.vl 1) (x.va 0) (x.ob 0) (x.ob 1) (x.ob 2) (x.ob 3) (x.tok 0) (x.tok 1) (x.tok 2) (x.tok 3) (x.tok 4) (x.va 1) (x.va 2) x.qf (x.qv 0)) ?_ (Sv.mk w p loose mean (fun _ => h₀) (fun i => [c, ct, kd].getD i c) (fun i => [a, b, x0, x1, fi].getD i a) (fun i => [L, f, M, Tl, S, Z].getD i L) (fun i => [ta, tb, tf, t0, t1].getD i ta) (fun _ => cd) (fun i => [o1, o2, o3, o4].getD i o1) (fun i => [vs, tl].getD i vs) (fun i => [zv, p1, p2].getD i zv) (fun _ => []) (fun _ => []) (fun i => [mg, mb, m].getD i mg) (fun _ => s) (fun _ => "") (fun _ => fun _ => "") (fun _ => none) (fun _ => #[]) (fun _ => none) (fun _ => default) (fun _ => none) (fun _ => []) (fun _ => []) (fun _ => {}) (fun _ => true) Q (fun _ => E))
  clear E Q p2 p1 t1 t0 tf tb ta o4 o3 o2 o1 zv tl kd ct c Z S Tl M vs fi x1 x0 b a s m cd f L h₀ mb mg mean loose p w
  refine (?_ : ∀ (w : World) (p : Program) (loose : List Str) (mean : ExcName → Option Value) (mg : Str → Option Value) (mb : Str → Option Value) (h₀ : Heap) (L : Addr) (f : Addr) (cd : Value) (m : Str → Option Value) (s : Shared) (a : Int) (b : Int) (x0 : Int) (x1 : Int) (fi : Int) (vs : List Value) (M : Addr) (Tl : Addr) (S : Addr) (Z : Addr) (c : Nat) (ct : Nat) (kd : Nat) (tl : List Value) (zv : Array Value) (o1 : Obj) (o2 : Obj) (o3 : Obj) (o4 : Obj) (ta : Tok) (tb : Tok) (tf : Tok) (t0 : Tok) (t1 : Tok) (p1 : Array Value) (p2 : Array Value) (Q : Flow → Shared → Prop) (E : Value → Shared → Prop), pC_S w p loose mean mg mb h₀ L f cd m s a b x0 x1 fi vs M Tl S Z c ct kd tl zv o1 o2 o3 o4 ta tb tf t0 t1 p1 p2 Q E) _ _ _ _ _ _ _ _ _ _ _ _ _ _ _ _ _ _ _ _ _ _ _ _ _ _ _ _ _ _ _ _ _ _ _ _ _ _ _ _
  intro w p loose mean mg mb h₀ L f cd m s a b x0 x1 fi vs M Tl S Z c ct kd tl zv o1 o2 o3 o4 ta tb tf t0 t1 p1 p2 Q E htl ha hb hf h0 h1 B F X T mF mS mT d1 d2 N hret
  revert X; k_fill; intro X
  obtain ⟨m, rfl⟩ : ∃ m9, m = fun z : Str => if z = "first" then some (.int fi tf) else if z = "sizes" then some (.ref S) else if z = "tail" then some (.ref Tl) else m9 z := ⟨m, by
    funext z
    by_cases hz : z = "first"
    · subst hz; rw [if_pos rfl]; exact mF
    rw [if_neg hz]; clear hz
    by_cases hz : z = "sizes"
    · subst hz; rw [if_pos rfl]; exact mS
    rw [if_neg hz]; clear hz
    by_cases hz : z = "tail"
    · subst hz; rw [if_pos rfl]; exact mT
    rw [if_neg hz]⟩
  unfold lawTop lawEnv
  rw [lawCells_is]
  generalize hS : lawScope = S
  (conv at hS => lhs; whnf)
  subst hS
  generalize hS : st 7 = S
  (conv at hS => lhs; whnf)
  subst hS
  generalize hS : st 8 = S
  (conv at hS => lhs; whnf)
  subst hS
  match kd, htl with
  | 0, htl =>
    have e : tl = [] := htl
    subst e
    walk_at "GO"
    (rename Fr _ _ _ _ => f9)
    (rename News _ _ _ _ => n9)
    refine hret _ _ _ _ _ _ _ _ _ _ ?_ ?_ (by assumption) (by rfl) (by rfl) (by rfl) ?_ f9 (n9_mem n9 (by kcj_all))
    · rfl
    · rfl
    · intro y h1 h2 h3
      exact (if_neg h3).trans ((if_neg h2).trans (if_neg h1))
  | 1, htl =>
    obtain ⟨ta9, e⟩ := id htl
    subst e
    walk_at "GO"
    (rename Fr _ _ _ _ => f9)
    (rename News _ _ _ _ => n9)
    refine hret _ _ _ _ _ _ _ _ _ _ ?_ ?_ (by assumption) (by rfl) (by rfl) (by rfl) ?_ f9 (n9_mem n9 (by kcj_all))
    · rfl
    · rfl
    · intro y h1 h2 h3
      exact (if_neg h3).trans ((if_neg h2).trans (if_neg h1))
  | 2, htl =>
    obtain ⟨ta9, tb9, e⟩ := id htl
    subst e
    walk_at "GO"
    (rename Fr _ _ _ _ => f9)
    (rename News _ _ _ _ => n9)
    refine hret _ _ _ _ _ _ _ _ _ _ ?_ ?_ (by assumption) (by rfl) (by rfl) (by rfl) ?_ f9 (n9_mem n9 (by kcj_all))
    · rfl
    · rfl
    · intro y h1 h2 h3
      exact (if_neg h3).trans ((if_neg h2).trans (if_neg h1))
  | 3, htl =>
    obtain ⟨ta9, tb9, e⟩ := id htl
    subst e
    walk_at "GO"
    (rename Fr _ _ _ _ => f9)
    (rename News _ _ _ _ => n9)
    refine hret _ _ _ _ _ _ _ _ _ _ ?_ ?_ (by assumption) (by rfl) (by rfl) (by rfl) ?_ f9 (n9_mem n9 (by kcj_all))
    · rfl
    · rfl
    · intro y h1 h2 h3
      exact (if_neg h3).trans ((if_neg h2).trans (if_neg h1))
  | n + 4, htl => exact htl.elim
end
theorem reset_T4 : True := by
  w_top off
  k_with_none
  (k_with "OM" => with_reducible first | assumption | decide | (refine Nat.ne_of_lt ?_; k_extra "OP") | (refine o_n ?_; k_extra "OP") | k_extra "OP" | exact o_1 | exact o_2 | exact o_3 | exact o_4 | exact o_5 | exact o_6 | exact o_7 | exact o_8 | exact o_9 | exact o_10 | exact o_11 | exact o_12 | exact o_13 | exact o_14 | exact o_15 | exact o_16 | exact o_17 | exact o_18 | exact o_s1 | exact o_s2 | exact o_s3 | exact o_s4 | exact o_s5 | exact o_s6 | exact o_s7 | exact o_s8 | exact o_s9 | exact o_s10 | exact o_s11 | exact o_s12 | exact o_s13 | exact o_s14 | exact o_s15 | exact o_s16 | exact o_r 1 | exact o_r 2 | exact o_r 3 | exact o_r 4 | exact o_r 5 | exact o_r 6 | exact o_r 7 | exact o_r 8 | exact o_r 9 | exact o_r 10 | exact o_r 11 | exact o_r 12 | exact o_r 13 | exact o_r 14 | exact o_r 15 | exact o_r 16 | exact o_u1 | exact o_u2 | exact o_u3 | exact o_e1 | exact o_e2 | exact o_e3 | exact o_e4 | exact o_m1 | exact o_c1 | exact o_c2 | exact o_c3 | exact o_c4 | exact o_c5 | exact o_n1 | exact o_n2 | exact o_n3 | exact o_n4 | exact o_d1 | fail)
  (k_with "OP" => first | k_extra "OB" | exact o_p1 | exact o_p2 | exact o_p3 | exact o_p4 | (refine o_l 1 ?_; k_extra "OB") | (refine o_l 2 ?_; k_extra "OB") | (refine o_l 3 ?_; k_extra "OB") | (refine o_l 4 ?_; k_extra "OB") | fail)
  (k_with "OB" => first | assumption | (refine o_pk ?_; k_extra "OK") | fail)
  (k_with "OK" => first | exact And.left | exact And.right | (refine o_sk ?_; k_extra "OK") | fail)
  (k_with "ENTER" => (
  refine spec_eps ?_
  refine (?_ : Spec _ _ _ _ _ _ _) _ _ _ _ _ _ _ _ _ _ _ _ _ _ _ _ _ _ _ _ _ _ _
  intro p₉₉ loose₉₉ mean₉₉ mg₉₉ mb₉₉ dp₉₉ un₉₉ gd₉₉ cn₉₉ cs₉₉ a₉₉ ccd₉₉ cl₉₉ outer₉₉ A₀₉₉ base₉₉ h₀₉₉ L₉₉ m₉₉ news₉₉ s₉₉ Q₉₉ E₉₉
  unfold SpecB
  k_fill
  intro B₉₉ F₉₉ X₉₉ N₉₉ T₉₉ hk₉₉ hd₉₉ hu₉₉ hus₉₉ hpre₉₉ hret₉₉
  refine wpAny_call ?_
  k_dflt (refine' code_us ?k1 ?k2 ?k3 ?k4 ?k5 ?kA ?kF ?kK ?k6 ?k7 ?k8 ?k9 ?kB ?_ ?c2 ?c3 ?c4 ?c5; (case kA => exact rfl); (case kF => exact rfl); (case kK => assumption); (case k1 => k_asm); (case k2 => k_asm); (case k3 => k_asm); (case k4 => exact fun p₉₉ hp => N₉₉ p₉₉ (hus₉₉ p₉₉ hp)); (case k5 => k_asm); (case k6 => k_is); (case k7 => k_is); (case k8 => ktr_room); (case k9 => first | k_extra "binds" | exact BindsTo.of_eq rfl); (case c5 => decide); (case kB => exact locs rfl); (case c2 => exact rfl); (case c3 => exact rfl); (case c4 => exact rfl); k_whole)
  intro g'₉₉ L'₉₉ h'₉₉ eL₉₉ eg₉₉ FG'₉₉ F'₉₉ N'₉₉ B'₉₉ X'₉₉ T'₉₉ lU₉₉
  (try dsimp only)
  k_fold
  (try k_lt lU₉₉)
  clear F₉₉))
  (k_with "END0" => (
  refine spec_end0 (by assumption) (by assumption) (by assumption) (by assumption) (by assumption) (by assumption) (by assumption) (by assumption) (by kcj_all) ?_))
  (k_with "GO" => repeat' (first | (k_unfold; (try dsimp only)) | (k_end; wrow_close) | walk1 | (dsimp only; k_unfold; (try dsimp only)) | (dsimp only; walk1) | (leave1; (try dsimp only)) | fail "no step"))
  first | walk1 | trivial
section
set_option Elab.async false
set_option maxRecDepth 100000
set_option maxHeartbeats 8000000
set_option pp.deepTerms false
set_option pp.maxSteps 4000
/-- the word of a walk: 111 for an odd number, 101 for an even one -/
noncomputable def signOf (k : Int) : Int := if k.fmod 2 = 1 then 111 else 101
noncomputable def wordZ (xs : List Int) : List Int := (xs.take 8).map signOf
noncomputable def word_spec_S (w : World) (l : Addr) (vs : List Value) (xs : List Int) (c : Nat) : Prop :=
  ∀ (hi : IntsAre vs xs) (hx : xs.length = 9),
    Spec w 146 [.ref l] 3 [(l, listOf vs.toArray c)] (fun _ => True)
    (fun v new => ∃ t, v = .bytes (byteArr (wordZ xs)) t ∧ new = [])
theorem word_spec {w : World} {l : Addr} {vs : List Value} {xs : List Int} {c : Nat} : word_spec_S w l vs xs c := by
  refine eps_all (fun x : Sv => word_spec_S x.w (x.ad 0) (x.vl 0) (x.il 0) (x.nat 0)) ?_ (Sv.mk w (default) ([]) (fun _ => none) (fun _ => {}) (fun _ => c) (fun _ => 0) (fun _ => l) (fun _ => default) (fun _ => .none) (fun _ => default) (fun _ => vs) (fun _ => #[]) (fun _ => xs) (fun _ => []) (fun _ => fun _ => none) (fun _ => {}) (fun _ => "") (fun _ => fun _ => "") (fun _ => none) (fun _ => #[]) (fun _ => none) (fun _ => default) (fun _ => none) (fun _ => []) (fun _ => []) (fun _ => {}) (fun _ => true) (fun _ _ => True) (fun _ => fun _ _ => True))
  clear c xs vs l w
  refine (?_ : ∀ (w : World) (l : Addr) (vs : List Value) (xs : List Int) (c : Nat), word_spec_S w l vs xs c) _ _ _ _ _
  intro w l vs xs c hi hx
  (k_with "binds" => exact BindsTo.of_eq (binds := [("walk", .ref l)]) (by with_unfolding_all rfl))
  walk_at "ENTER"
  walk_at "GO"
  walk_at "END0"
  exact ⟨_, rfl, rfl⟩
end
theorem reset_PD : True := by
  w_top off
  k_with_none
  (k_with "OM" => with_reducible first | assumption | decide | (refine Nat.ne_of_lt ?_; k_extra "OP") | (refine o_n ?_; k_extra "OP") | k_extra "OP" | exact o_1 | exact o_2 | exact o_3 | exact o_4 | exact o_5 | exact o_6 | exact o_7 | exact o_8 | exact o_9 | exact o_10 | exact o_11 | exact o_12 | exact o_13 | exact o_14 | exact o_15 | exact o_16 | exact o_17 | exact o_18 | exact o_s1 | exact o_s2 | exact o_s3 | exact o_s4 | exact o_s5 | exact o_s6 | exact o_s7 | exact o_s8 | exact o_s9 | exact o_s10 | exact o_s11 | exact o_s12 | exact o_s13 | exact o_s14 | exact o_s15 | exact o_s16 | exact o_r 1 | exact o_r 2 | exact o_r 3 | exact o_r 4 | exact o_r 5 | exact o_r 6 | exact o_r 7 | exact o_r 8 | exact o_r 9 | exact o_r 10 | exact o_r 11 | exact o_r 12 | exact o_r 13 | exact o_r 14 | exact o_r 15 | exact o_r 16 | exact o_u1 | exact o_u2 | exact o_u3 | exact o_e1 | exact o_e2 | exact o_e3 | exact o_e4 | exact o_m1 | exact o_c1 | exact o_c2 | exact o_c3 | exact o_c4 | exact o_c5 | exact o_n1 | exact o_n2 | exact o_n3 | exact o_n4 | exact o_d1 | fail)
  (k_with "OP" => first | k_extra "OB" | exact o_p1 | exact o_p2 | exact o_p3 | exact o_p4 | (refine o_l 1 ?_; k_extra "OB") | (refine o_l 2 ?_; k_extra "OB") | (refine o_l 3 ?_; k_extra "OB") | (refine o_l 4 ?_; k_extra "OB") | fail)
  (k_with "OB" => first | assumption | (refine o_pk ?_; k_extra "OK") | fail)
  (k_with "OK" => first | exact And.left | exact And.right | (refine o_sk ?_; k_extra "OK") | fail)
  (k_with "GO" => repeat' (first | (k_unfold; (try dsimp only)) | (k_end; wrow_close) | walk1 | (dsimp only; k_unfold; (try dsimp only)) | (dsimp only; walk1) | (leave1; (try dsimp only)) | fail "no step"))
  first | walk1 | trivial
section
set_option Elab.async false
set_option maxRecDepth 100000
set_option maxHeartbeats 8000000
set_option pp.deepTerms false
set_option pp.maxSteps 400
theorem reg_PD_7 : True := by
  (k_with "call ref" => (k_here; k_dflt (first | (refine' Spec.use (word_spec ?s1 ?s2) ?k1 ?k2 ?k3 ?k4 ?k5 ?kK ?kd ?ku ?kus ?kp ?_;  (case k1 => k_asm); (case k2 => k_asm); (case k3 => k_asm); (case k4 => k_asm); (case k5 => k_asm); (case kK => first | exact rfl | assumption); (case kd => ktr_room); (case ku => first | ktr_units | (have hcL9₉₉ := cLine_is; (simp only [units_in1, units_deeper, Around.mark_units, units_caller] at *); done)); (case kus => (intro p₉₉ hp₉₉; rw [List.mem_singleton.mp hp₉₉]; repeat (first | exact .head _ | refine .tail _ ?_))); (case kp => first | trivial | assumption); (case s1 => assumption); (case s2 => first | assumption | (exact walkW_len));intro v'₉₉ new'₉₉ h'₉₉ tk'₉₉ hp'₉₉ F'₉₉ N'₉₉ l1₉₉; obtain ⟨t'₉₉, e1₉₉, e2₉₉⟩ := hp'₉₉; subst e1₉₉; subst e2₉₉; simp only [List.cons_append, List.nil_append] at N'₉₉; (try (have l2₉₉ := l1₉₉ _ (.head _); simp only [AllLt, and_true] at l2₉₉)); clear l1₉₉; (try dsimp only)))))
  trivial
/-- the ruler's row of signs -/
noncomputable def rowZ (ms : List Int) : List Int := List.map (fun k' => if (ms.any fun x => x == k') = true then 111 else if (ms.any fun x => x == k') = false then 101 else k') (rangeKs 0 (8 - 0 : Int).toNat)
noncomputable def pD_S (w : World) (p : Program) (loose : List Str) (mean : ExcName → Option Value) (mg : Str → Option Value) (mb : Str → Option Value) (h₀ : Heap) (L : Addr) (f : Addr) (cd : Value) (m : Str → Option Value) (s : Shared) (U : Int) (D : Int) (a : Int) (b : Int) (vs : List Value) (vs8 : List Value) (ms : List Int) (R : Addr) (M : Addr) (Z : Addr) (c : Nat) (c8 : Nat) (ct : Nat) (zv : Array Value) (o1 : Obj) (o2 : Obj) (o3 : Obj) (o4 : Obj) (p1 : Array Value) (p2 : Array Value) (Q : Flow → Shared → Prop) (E : Value → Shared → Prop) : Prop :=
  ∀ (hrow : rowZ ms = wordZ (walkW U D a b 8)) (hi : IntsAre vs ms) (hi8 : IntsAre vs8 (walkW U D a b 8)) (B : Below callerA h₀ [] h₀) (F : Fr h₀ L s.heap m) (X : (hd.heap_39 w.params).In h₀) (T : Top p loose mean mg mb h₀) (mR : m "ruler" = some (.ref R)) (d3 : o3.data = .cell (some (.ref M))) (N : News h₀ L s.heap [(R, listOf vs8.toArray c8), (M, listOf vs.toArray c), (Z, listOf zv ct), (L + 4, o4), (L + 3, o3), (L + 2, o2), (L + 1, o1), (80, tabObj p1), (73, tabObj p2)]) (hret : ∀ h' tk' m' t, m' "row" = some (.bytes (byteArr (rowZ ms)) t) → (∀ y : Str, y ≠ "row" → m' y = m y) → Fr h₀ L h' m' → News h₀ L h' [(R, listOf vs8.toArray c8), (M, listOf vs.toArray c), (Z, listOf zv ct), (L + 4, o4), (L + 3, o3), (L + 2, o2), (L + 1, o1), (80, tabObj p1), (73, tabObj p2)] → Q .next { s with heap := h', toks := tk' }),
    wpAny (model PySem.Challenge.rw_zo0033_01.row.prog w) (lawTop L f cd) (execs [st 9, st 10] (lawEnv L f cd)) Q E s
theorem pD {w : World} {p : Program} {loose : List Str} {mean : ExcName → Option Value} {mg : Str → Option Value} {mb : Str → Option Value} {h₀ : Heap} {L : Addr} {f : Addr} {cd : Value} {m : Str → Option Value} {s : Shared} {U : Int} {D : Int} {a : Int} {b : Int} {vs : List Value} {vs8 : List Value} {ms : List Int} {R : Addr} {M : Addr} {Z : Addr} {c : Nat} {c8 : Nat} {ct : Nat} {zv : Array Value} {o1 : Obj} {o2 : Obj} {o3 : Obj} {o4 : Obj} {p1 : Array Value} {p2 : Array Value} {Q : Flow → Shared → Prop} {E : Value → Shared → Prop} : pD_S w p loose mean mg mb h₀ L f cd m s U D a b vs vs8 ms R M Z c c8 ct zv o1 o2 o3 o4 p1 p2 Q E := by
  refine eps_all (fun x : Sv => pD_S x.w x.p x.loose x.mean (x.mf 0) (x.mf 1) (x.hp 0) (x.ad 0) (x.ad 1) (x.val 0) (x.mf 2) (x.sh 0) (x.int 0) (x.int 1) (x.int 2) (x.int 3) (x.vl 0) (x.vl 1) (x.il 0) (x.ad 2) (x.ad 3) (x.ad 4) (x.nat 0) (x.nat 1) (x.nat 2) (x.va 0) (x.ob 0) (x.ob 1) (x.ob 2) (x.ob 3) (x.va 1) (x.va 2) x.qf (x.qv 0)) ?_ (Sv.mk w p loose mean (fun _ => h₀) (fun i => [c, c8, ct].getD i c) (fun i => [U, D, a, b].getD i U) (fun i => [L, f, R, M, Z].getD i L) (fun _ => default) (fun _ => cd) (fun i => [o1, o2, o3, o4].getD i o1) (fun i => [vs, vs8].getD i vs) (fun i => [zv, p1, p2].getD i zv) (fun _ => ms) (fun _ => []) (fun i => [mg, mb, m].getD i mg) (fun _ => s) (fun _ => "") (fun _ => fun _ => "") (fun _ => none) (fun _ => #[]) (fun _ => none) (fun _ => default) (fun _ => none) (fun _ => []) (fun _ => []) (fun _ => {}) (fun _ => true) Q (fun _ => E))
  clear E Q p2 p1 o4 o3 o2 o1 zv ct c8 c Z M R ms vs8 vs b a D U s m cd f L h₀ mb mg mean loose p w
  refine (?_ : ∀ (w : World) (p : Program) (loose : List Str) (mean : ExcName → Option Value) (mg : Str → Option Value) (mb : Str → Option Value) (h₀ : Heap) (L : Addr) (f : Addr) (cd : Value) (m : Str → Option Value) (s : Shared) (U : Int) (D : Int) (a : Int) (b : Int) (vs : List Value) (vs8 : List Value) (ms : List Int) (R : Addr) (M : Addr) (Z : Addr) (c : Nat) (c8 : Nat) (ct : Nat) (zv : Array Value) (o1 : Obj) (o2 : Obj) (o3 : Obj) (o4 : Obj) (p1 : Array Value) (p2 : Array Value) (Q : Flow → Shared → Prop) (E : Value → Shared → Prop), pD_S w p loose mean mg mb h₀ L f cd m s U D a b vs vs8 ms R M Z c c8 ct zv o1 o2 o3 o4 p1 p2 Q E) _ _ _ _ _ _ _ _ _ _ _ _ _ _ _ _ _ _ _ _ _ _ _ _ _ _ _ _ _ _ _ _ _ _
  intro w p loose mean mg mb h₀ L f cd m s U D a b vs vs8 ms R M Z c c8 ct zv o1 o2 o3 o4 p1 p2 Q E hrow hi hi8 B F X T mR d3 N hret
  revert X; k_fill; intro X
  obtain ⟨m, rfl⟩ : ∃ m9, m = fun z : Str => if z = "ruler" then some (.ref R) else m9 z := ⟨m, by
    funext z
    by_cases hz : z = "ruler"
    · subst hz; rw [if_pos rfl]; exact mR
    rw [if_neg hz]⟩
  unfold lawTop lawEnv
  rw [lawCells_is]
  generalize hS : lawScope = S
  (conv at hS => lhs; whnf)
  subst hS
  generalize hS : st 9 = S
  (conv at hS => lhs; whnf)
  subst hS
  generalize hS : st 10 = S
  (conv at hS => lhs; whnf)
  subst hS
  walk_at "GO"
  · exfalso
    (rename (_ != _) = true => h9)
    have e9 := hrow
    unfold rowZ at e9
    rw [e9] at h9
    simp at h9
  · (rename Fr _ _ _ _ => f9)
    (rename News _ _ _ _ => n9)
    refine hret _ _ _ _ (by rfl) ?_ f9 (n9_mem n9 (by kcj_all))
    intro y h1
    exact if_neg h1
end
theorem reset_B10 : True := by
  w_top off
  k_with_none
  (k_with "OM" => with_reducible first | assumption | decide | (refine Nat.ne_of_lt ?_; k_extra "OP") | (refine o_n ?_; k_extra "OP") | k_extra "OP" | exact o_1 | exact o_2 | exact o_3 | exact o_4 | exact o_5 | exact o_6 | exact o_7 | exact o_8 | exact o_9 | exact o_10 | exact o_11 | exact o_12 | exact o_13 | exact o_14 | exact o_15 | exact o_16 | exact o_17 | exact o_18 | exact o_s1 | exact o_s2 | exact o_s3 | exact o_s4 | exact o_s5 | exact o_s6 | exact o_s7 | exact o_s8 | exact o_s9 | exact o_s10 | exact o_s11 | exact o_s12 | exact o_s13 | exact o_s14 | exact o_s15 | exact o_s16 | exact o_r 1 | exact o_r 2 | exact o_r 3 | exact o_r 4 | exact o_r 5 | exact o_r 6 | exact o_r 7 | exact o_r 8 | exact o_r 9 | exact o_r 10 | exact o_r 11 | exact o_r 12 | exact o_r 13 | exact o_r 14 | exact o_r 15 | exact o_r 16 | exact o_u1 | exact o_u2 | exact o_u3 | exact o_e1 | exact o_e2 | exact o_e3 | exact o_e4 | exact o_m1 | exact o_c1 | exact o_c2 | exact o_c3 | exact o_c4 | exact o_c5 | exact o_n1 | exact o_n2 | exact o_n3 | exact o_n4 | exact o_d1 | fail)
  (k_with "OP" => first | k_extra "OB" | exact o_p1 | exact o_p2 | exact o_p3 | exact o_p4 | (refine o_l 1 ?_; k_extra "OB") | (refine o_l 2 ?_; k_extra "OB") | (refine o_l 3 ?_; k_extra "OB") | (refine o_l 4 ?_; k_extra "OB") | fail)
  (k_with "OB" => first | assumption | (refine o_pk ?_; k_extra "OK") | fail)
  (k_with "OK" => first | exact And.left | exact And.right | (refine o_sk ?_; k_extra "OK") | fail)
  (k_with "END0" => (
  refine spec_end0 (by assumption) (by assumption) (by assumption) (by assumption) (by assumption) (by assumption) (by assumption) (by assumption) (by kcj_all) ?_))
  (k_with "GO" => repeat' (first | (k_unfold; (try dsimp only)) | (k_end; wrow_close) | walk1 | (dsimp only; k_unfold; (try dsimp only)) | (dsimp only; walk1) | (leave1; (try dsimp only)) | fail "no step"))
  (k_with "ENTERN" => (
  unfold SpecN
  k_fill
  intro p₉₉ loose₉₉ mean₉₉ mg₉₉ mb₉₉ dp₉₉ un₉₉ cn₉₉ cs₉₉ a₉₉ ccd₉₉ cl₉₉ outer₉₉ A₀₉₉ base₉₉ h₀₉₉ L₉₉ m₉₉ news₉₉ s₉₉ Q₉₉ E₉₉ B₉₉ F₉₉ X₉₉ N₉₉ T₉₉ hk₉₉ hd₉₉ hu₉₉ hus₉₉ hpre₉₉ hret₉₉
  refine wpN_call ?_
  k_dflt (refine' codeN_us ?k1 ?k2 ?k3 ?k4 ?k5 ?kA ?kF ?kK ?k6 ?k7 ?k8 ?k9 ?kB ?_ ?c2 ?c3 ?c4 ?c5; (case kA => exact rfl); (case kF => exact rfl); (case kK => assumption); (case k1 => k_asm); (case k2 => k_asm); (case k3 => k_asm); (case k4 => exact fun p₉₉ hp => N₉₉ p₉₉ (hus₉₉ p₉₉ hp)); (case k5 => k_asm); (case k6 => k_is); (case k7 => k_is); (case k8 => ktr_room); (case k9 => first | k_extra "binds" | exact BindsTo.of_eq rfl); (case c5 => decide); (case kB => exact locs rfl); (case c2 => exact rfl); (case c3 => exact rfl); (case c4 => exact rfl); k_whole)
  intro g'₉₉ L'₉₉ h'₉₉ eL₉₉ eg₉₉ FG'₉₉ F'₉₉ N'₉₉ B'₉₉ X'₉₉ T'₉₉ lU₉₉
  (try dsimp only)
  (try k_lt lU₉₉)
  clear F₉₉))
  first | walk1 | trivial
section
set_option Elab.async false
set_option maxRecDepth 100000
set_option maxHeartbeats 8000000
set_option pp.deepTerms false
set_option pp.maxSteps 4000
section
variable {prog : Program} {w : World} {A : Around} {E : Value → Shared → Prop} {s : Shared} {env : Env} {h₀ : Heap} {x : Str} {body : List Stmt} {Q : Flow → Shared → Prop}
/-- a turn has come to its end at a state of place p -/
noncomputable def TurnToR {σ : Type} (Led : σ → List (Addr × Obj)) (m : σ → Str → Option Value) (Inv : Nat → σ → Prop) (p : Nat) (m' : Str → Option Value) (n' : List (Addr × Obj)) : Prop := ∃ c', Inv p c' ∧ n' = Led c' ∧ m' = m c'
theorem range_ind {σ : Type} (Led : σ → List (Addr × Obj)) (mf : σ → Str → Option Value) (Inv : Nat → σ → Prop) {I : Addr} {a c : Int} {n : Nat}
    (turn : ∀ (i : Nat) (st : σ) (k : Int) t h tk, k = a + (i : Int) * c → i < n → Inv i st → Fr h₀ env.locals h (fun y => if y = x then some (.int k t) else mf st y) →
      News h₀ env.locals h ((I, krsIt (a + ((i + 1 : Nat) : Int) * c) ((n : Int) - ((i + 1 : Nat) : Int)) c) :: Led st) →
      wpAny (model prog w) A (execs body env) (UnrPost h₀ env.locals { s with heap := h, toks := tk } I (krsIt (a + ((i + 1 : Nat) : Int) * c) ((n : Int) - ((i + 1 : Nat) : Int)) c) (TurnToR Led mf Inv (i + 1)) Q) E { s with heap := h, toks := tk })
    (done : ∀ (st : σ) h tk, Inv n st → Fr h₀ env.locals h (mf st) → News h₀ env.locals h (Led st) → Q .next { s with heap := h, toks := tk }) :
    ∀ (st : σ), Inv 0 st → KrsRest prog w A E h₀ env x body Q s I a c n n 0 (mf st) (Led st) := by
  have key : ∀ (k i : Nat) (st : σ), i + k = n → Inv i st → KrsRest prog w A E h₀ env x body Q s I a c n k i (mf st) (Led st) := by
    intro k
    induction k with
    | zero =>
      intro i st hi hI
      have : i = n := by omega
      subst this
      exact fun h tk F N => done st h tk hI F N
    | succ k ih =>
      intro i st hi hI
      refine KrsRest.succ rfl fun t h tk F N => wpAny_mono (turn i st _ t h tk rfl (by omega) hI F N) (fun f s₂ h₂ => ?_) fun _ _ e => e
      have fin : UnrEnd h₀ env.locals { s with heap := h, toks := tk } I (krsIt (a + ((i + 1 : Nat) : Int) * c) ((n : Int) - ((i + 1 : Nat) : Int)) c) (TurnToR Led mf Inv (i + 1)) s₂ →
          UnrEnd h₀ env.locals { s with heap := h, toks := tk } I (krsIt (a + ((i + 1 : Nat) : Int) * c) ((n : Int) - ((i + 1 : Nat) : Int)) c) (KrsRest prog w A E h₀ env x body Q s I a c n k (i + 1)) s₂ := by
        rintro ⟨h', tk', m', n', e1, F', N', o', st', hI', e2, e3⟩
        subst e2; subst e3
        exact ⟨h', tk', _, _, e1, F', N', o', ih (i + 1) st' (by omega) hI'⟩
      cases f with
      | ret v => exact h₂
      | brk => exact h₂
      | next => exact fin h₂
      | cont => exact fin h₂
  exact fun st hst => key n 0 st (Nat.zero_add _) hst
end
section
variable {prog : Program} {w : World} {A A₀ : Around} {s : Shared} {K : Frag} {L : Addr} {h₀ base : Heap} {m mg mb : Str → Option Value} {p : Program} {loose : List Str} {mean : ExcName → Option Value} {news us : List (Addr × Obj)}
theorem codeN_call_def {R : Result → Shared → Prop} {a : Addr} {o : Obj} {fd : FuncData} {body : List Stmt} {args : Args} {binds : List (Str × Value)}
    (hroom : A.depth < recursionLimit) (ho : s.heap.get? a = some o) (hdata : o.data = .func fd) (hlim : s.heap.NoLimit) (hcd : s.heap.CodeRec fd.code fd.qualname)
    (hbody : fd.body = .stmts body) (hbind : BindsTo s fd args binds)
    (hcell : ∀ x ∈ fd.scope.names, x.2 ≠ .cell) (hloc : ∀ x ∈ binds, fd.scope.names.lookup x.1 = some .local)
    (h : ∀ h₀, h₀.Ns s.heap.objs.size (fun x => binds.reverse.lookup x) → (∀ b o, s.heap.get? b = some o → h₀.get? b = some o) →
      wpN (model prog w) (A.deeper (callEnv fd s.heap.objs.size a)) (execs body (callEnv fd s.heap.objs.size a)) (fun f s' => R (.ok (.ret (match f with | .ret v => v | _ => .none))) s')
        (fun e s' => wpAny (model prog w) (A.deeper (callEnv fd s.heap.objs.size a)) (leaving (callEnv fd s.heap.objs.size a) e) (fun _ s'' => R (.error e) s'') (fun e' s'' => R (.error e') s'') s')
        { s with heap := h₀, toks := s.toks + binds.length })
    (hco : fd.scope.isCoroutine = false := by rfl) (hgen : fd.scope.isGenerator = false := by rfl) (hk : fd.scope.kind = .function := by rfl) :
    codeN (model prog w) A (.call (.ref a) args) R s := by
  refine codeN_call_function hroom ho hdata hco hgen hbody hcd (hbind _ _ _ _ ?_)
  refine wpAny_newFunctionEnv hcell hloc (fun h₀ hns₀ hsb₀ => ⟨hlim.fresh _ hsb₀, codeN_func (h h₀ hns₀ fun b o e => ?_)⟩) hk
  exact hsb₀.extBut b o (Nat.ne_of_lt (Heap.lt_size e)) (Heap.get?_push_of_some _ e)
/-- code_us over the stacks without decoders -/
theorem codeN_us {env : Env} {outer : List Env} {R : Result → Shared → Prop} {name qual : Str} {params : Arguments} {body : List Stmt} {scope : Scope} {dV kV doc pm cdv ct oc : Value} {an od : Option Addr} {osl : Array (Option Value)} {f : Addr} {args : Args} {binds : List (Str × Value)}
    (B : Below A₀ base outer h₀) (F : Fr h₀ L s.heap m) (X₀ : K.In h₀) (U : News h₀ L s.heap us) (T : Top p loose mean mg mb h₀) (hA : A.frames = some (env :: outer)) (hf : env.frame = some L) (hke : env.scope.kind = .function)
    (ho : K.lookup f = some ⟨oc, od, .func (fnOf name qual params body scope dV kV doc pm an cdv ct), osl⟩) (hcd : codeIn K cdv qual = true) (hroom : A.depth < recursionLimit)
    (hbind : BindsTo s (fnOf name qual params body scope dV kV doc pm an cdv ct) args binds) (hloc : ∀ y ∈ binds, scope.names.lookup y.1 = some .local)
    (h : ∀ g L' h₁, L' = s.heap.objs.size → (∀ b o, s.heap.get? b = some o → b ∉ us.map (·.1) → g.get? b = some o) → Fr h₀ L g m → Fr g L' h₁ (fun y => binds.reverse.lookup y) → News g L' h₁ us → Below A base (env :: outer) g → K.In g → Top p loose mean mg mb g → (∀ p ∈ us, p.1 < L') →
      wpN (model prog w) (A.deeper (envOf qual scope L' f cdv)) (execs body (envOf qual scope L' f cdv))
        (fun fl s' => LeaveK h₀ L m g R (match fl with | .ret v => v | _ => .none) s')
        (fun e s' => wpAny (model prog w) (A.deeper (envOf qual scope L' f cdv)) (leaving (envOf qual scope L' f cdv) e) (fun _ s'' => R (.error e) s'') (fun e' s'' => R (.error e') s'') s')
        { s with heap := h₁, toks := s.toks + binds.length })
    (hco : scope.isCoroutine = false) (hgen : scope.isGenerator = false) (hk : scope.kind = .function)
    (hcell : ∀ x ∈ scope.names, x.2 ≠ .cell) : codeN (model prog w) A (.call (.ref f) args) R s := by
  obtain ⟨FG, BG, st, lv⟩ := groundX (R := R) B F U hA hf hke
  have hX := X₀.keeps F.keep
  refine codeN_call_def (fd := fnOf name qual params body scope dV kV doc pm an cdv ct) (body := body) (binds := binds) hroom (hX _ _ ho) rfl (T.nolimit.keeps F.keep) (codeRec_of hX hcd) rfl hbind hcell hloc (fun h₁ hns hk₁ => ?_) hco hgen hk
  exact wpN_mono (h (hideAll s.heap (us.map (·.1))) s.heap.objs.size h₁ rfl (fun b o e hn => hideAll_get _ e hn) FG ⟨hns, fun b o e => hk₁ b o (of_hideAll _ e), Nat.le_of_eq (hideAll_size _ _)⟩
    (fun p hp => ⟨hk₁ _ _ (U p hp).1, Nat.ne_of_lt (Heap.lt_size (U p hp).1), hideAll_none _ (List.mem_map_of_mem hp)⟩) BG (X₀.keeps fun b o e => st b o e) (T.keeps fun b o e => st b o e) (fun p hp => Heap.lt_size (U p hp).1)) (fun fl s' hl => lv _ _ hl) fun _ _ y => y
end
/-- Spec, over the stacks without decoders -/
noncomputable def SpecN (w : World) (f : Addr) (vs : List Value) (need : Nat) (us : List (Addr × Obj)) (pre : Heap → Prop) (post : Value → List (Addr × Obj) → Prop) : Prop :=
  ∀ (p : Program) (loose : List Str) (mean : ExcName → Option Value) (mg mb : Str → Option Value) (dp un : Nat) (cn : Str) (cs : Scope) (a : Addr) (ccd : Value) (cl : List (Str × Addr)) (outer : List Env) (A₀ : Around) (base h₀ : Heap) (L : Addr) (m : Str → Option Value) (news : List (Addr × Obj)) (s : Shared) (Q E : Value → Shared → Prop),
    Below A₀ base outer h₀ → Fr h₀ L s.heap m → (hd.heap_39 w.params).In h₀ → News h₀ L s.heap news → Top p loose mean mg mb h₀ → cs.kind = .function →
    dp + need < recursionLimit → un + 8 * need < cLine → (∀ p ∈ us, p ∈ news) → pre s.heap →
    (∀ v new h' tk', post v new → Fr h₀ L h' m → News h₀ L h' (new ++ news) → (∀ p ∈ new, AllLt p.1 news) → Q v { s with heap := h', toks := tk' }) →
    wpN (model PySem.Challenge.rw_zo0033_01.row.prog w) (ktrTop dp un (some []) cn cs L a ccd cl outer) (call (.ref f) vs) Q E s
/-- a loop over a range, held for a proof by hand -/
noncomputable def KrsHold (prog : Program) (w : World) (A : Around) (E : Value → Shared → Prop) (h₀ : Heap) (env : Env) (x : Str) (body : List Stmt) (Q : Flow → Shared → Prop) (s : Shared) (I : Addr) (a c : Int) (n : Nat) (m : Str → Option Value) (news : List (Addr × Obj)) : Prop := KrsRest prog w A E h₀ env x body Q s I a c n n 0 m news
theorem krs_hold {prog : Program} {w : World} {A : Around} {E : Value → Shared → Prop} {s : Shared} {env : Env} {h₀ : Heap} {x : Str} {body : List Stmt} {Q : Flow → Shared → Prop} {r : Addr} {a₀ b₀ c : Int} {t₀ u₀ v₀ : Tok} (n : Nat) {m₀ : Str → Option Value} {news : List (Addr × Obj)}
    (hh : A.handled = none) (hr : IsRange s.heap r a₀ b₀ c t₀ u₀ v₀) (hsmall : Builtin.Range.small a₀ b₀ c = true) (hn : Builtin.Range.rangeSize a₀ b₀ c = (n : Int)) (F : Fr h₀ env.locals s.heap m₀) (N : News h₀ env.locals s.heap news)
    (rest₀ : ∀ I : Addr, (∀ p ∈ news, p.1 < I) → KrsHold prog w A E h₀ env x body Q s I a₀ c n m₀ news) :
    wpAny (model prog w) A (pyIter (.ref r)) (fun it s₂ => LoopAtV prog w A h₀ env x body Q E it s₂) E s := krs_iter hh hr hsmall hn F N rest₀
theorem krs_held {prog : Program} {w : World} {A : Around} {E : Value → Shared → Prop} {s : Shared} {env : Env} {h₀ : Heap} {x : Str} {body : List Stmt} {Q : Flow → Shared → Prop} {I : Addr} {a c : Int} {n : Nat} {m m' : Str → Option Value} {news : List (Addr × Obj)} (e : m = m')
    (h : KrsRest prog w A E h₀ env x body Q s I a c n n 0 m' news) : KrsHold prog w A E h₀ env x body Q s I a c n m news := by subst e; exact h
theorem reg_B10_25 : True := by
  (k_with "pyIter ref" => (k_here; (rename Fr _ _ _ _ => lF'₉₉); (rename News _ _ _ _ => lN'₉₉); (rename IsRange _ _ _ _ _ _ _ _ => rgX₉₉); k_dflt (refine krs_hold 8 rfl rgX₉₉ (by decide) (by decide) lF'₉₉ lN'₉₉ (fun I2 lI2 => ?_)); clear lF'₉₉ lN'₉₉ rgX₉₉; k_lt lI2))
  trivial
theorem reg_B10_26 : True := by
  (k_with "setItem ref int" => (k_here; k_dflt (refine' ba_set_K ?F ?N ?U ?b ?a ?c ?d ?e ?_; (case F => k_asm); (case N => k_asm); (case U => k_upd); (case b => omega); (case a => omega); (case c => omega); (case d => omega); (case e => omega); k_whole); intro h'₉₉ F'₉₉ N'₉₉; (try k_sweep)))
  trivial
theorem reg_B10_27 : True := by
  (k_with "call type:bytes" => (k_here; (rename News _ _ _ _ => lN'₉₉); k_dflt (refine bytes_of_ba (News.get lN'₉₉ (by k_mem)) (by omega) (fun t' k' => ?_))))
  trivial
theorem News.get {h₀ h : Heap} {L : Addr} {news : List (Addr × Obj)} {a : Addr} {o : Obj} (N : News h₀ L h news) (hm : (a, o) ∈ news) : h.get? a = some o := (N _ hm).1
noncomputable def swapI (ks : List Int) : List Int := (List.range 32).map fun k => ks.getD (8 * (k / 8) + (7 - k % 8)) 0
noncomputable def SwapInv (ks : List Int) (p q : Nat) (b : Array UInt8) : Prop := b.size = 32 ∧ ∀ k, k < 32 → (k / 8 < p ∨ (k / 8 = p ∧ 7 - k % 8 < q)) → b[k]? = some (ks.getD (8 * (k / 8) + (7 - k % 8)) 0).toNat.toUInt8
theorem sw_f : ∀ p < 4, ∀ q < 8, (8 * p + (7 - q)) / 8 = p ∧ 7 - (8 * p + (7 - q)) % 8 = q ∧ 8 * p + (7 - q) < 32 := by decide +kernel
theorem sw_g0 : ((List.range 4).all fun p => (List.range 8).all fun q => (List.range 32).all fun k => !decide (k / 8 < p ∨ (k / 8 = p ∧ 7 - k % 8 < q + 1)) || decide (8 * p + (7 - q) = k) || decide (k / 8 < p ∨ (k / 8 = p ∧ 7 - k % 8 < q))) = true := by decide +kernel
theorem sw_g {p q k : Nat} (hp : p < 4) (hq : q < 8) (hk : k < 32) (hc : k / 8 < p ∨ (k / 8 = p ∧ 7 - k % 8 < q + 1)) (e : ¬ 8 * p + (7 - q) = k) : k / 8 < p ∨ (k / 8 = p ∧ 7 - k % 8 < q) := by
  have h := List.all_eq_true.mp (List.all_eq_true.mp (List.all_eq_true.mp sw_g0 p (List.mem_range.mpr hp)) q (List.mem_range.mpr hq)) k (List.mem_range.mpr hk)
  rw [decide_eq_true hc, decide_eq_false e] at h
  exact of_decide_eq_true h
theorem sw_h : ∀ p : Nat, p < 4 → ∀ q : Nat, q < 8 → 0 ≤ (0 + (p : Int) * 8) + 8 - 1 - (0 + (q : Int) * 1) ∧ (0 + (p : Int) * 8) + 8 - 1 - (0 + (q : Int) * 1) < 32 ∧ 0 ≤ (0 + (p : Int) * 8) + (0 + (q : Int) * 1) ∧ (0 + (p : Int) * 8) + (0 + (q : Int) * 1) < 32 ∧
    ((0 + (p : Int) * 8) + 8 - 1 - (0 + (q : Int) * 1)).toNat = 8 * p + (7 - q) ∧ ((0 + (p : Int) * 8) + (0 + (q : Int) * 1)).toNat = 8 * p + q := by decide +kernel
theorem sw_i {k k2 : Int} {p q : Nat} (hk : k = 0 + (p : Int) * 8) (hp : p < 4) (hk2 : k2 = 0 + (q : Int) * 1) (hq : q < 8) : 0 ≤ k + 8 - 1 - k2 ∧ k + 8 - 1 - k2 < 32 ∧ 0 ≤ k + k2 ∧ k + k2 < 32 ∧ (k + 8 - 1 - k2).toNat = 8 * p + (7 - q) ∧ (k + k2).toNat = 8 * p + q := by
  subst hk hk2
  exact sw_h p hp q hq
theorem swap_step {ks : List Int} {p q a c : Nat} {b : Array UInt8} (h : SwapInv ks p q b) (hp : p < 4) (hq : q < 8) (ha : a = 8 * p + (7 - q)) (hc : c = 8 * p + q) : SwapInv ks p (q + 1) (b.setIfInBounds a (ks.getD c 0).toNat.toUInt8) := by
  subst ha hc
  refine ⟨by rw [Array.size_setIfInBounds]; exact h.1, fun k hk hc => ?_⟩
  rw [Array.getElem?_setIfInBounds]
  by_cases e : 8 * p + (7 - q) = k
  · subst e
    obtain ⟨e1, e2, e3⟩ := sw_f p hp q hq
    rw [if_pos rfl, if_pos (by rw [h.1]; exact e3)]
    rw [e1, e2]
  · rw [if_neg e]
    exact h.2 k hk (sw_g hp hq hk hc e)
theorem swap_next {ks : List Int} {p : Nat} {b : Array UInt8} (h : SwapInv ks p 8 b) : SwapInv ks (p + 1) 0 b := ⟨h.1, fun k hk hc => h.2 k hk (hc.elim (fun c => (Nat.lt_or_eq_of_le (Nat.le_of_lt_succ c)).imp_right fun e => ⟨e, Nat.lt_of_le_of_lt (Nat.sub_le 7 _) (by decide)⟩) fun c => absurd c.2 (Nat.not_lt_zero _))⟩
theorem swap_done {ks : List Int} {b : Array UInt8} (h : SwapInv ks 4 0 b) : b = byteArr (swapI ks) := by
  apply Array.ext_getElem?
  intro k
  by_cases hk : k < 32
  · rw [h.2 k hk (.inl (Nat.div_lt_of_lt_mul hk))]
    simp [byteArr, swapI, hk]
  · rw [Array.getElem?_eq_none (by rw [h.1]; exact Nat.le_of_not_lt hk), Array.getElem?_eq_none (by simp only [byteArr, swapI, List.size_toArray, List.length_map, List.length_range]; exact Nat.le_of_not_lt hk)]
theorem swap_spec {w : World} {x : Array UInt8} {ks : List Int} {t u : Tok} (hx : KBw.bInts x = ks) (hl : ks.length = 32) :
   SpecN w 113 [.bytes x t, .int 8 u] 16 [] (fun h => True)
    (fun v new => ∃ t', v = .bytes (byteArr (swapI ks)) t' ∧ new = []) := by
  (k_with "binds" => exact BindsTo.of_eq (binds := [("data", .bytes x t), ("width", .int 8 u)]) (by with_unfolding_all rfl))
  walk_at "ENTERN"
  refine wpN_execs_cons (wpN_Assign_Name (wpN_Call ?_))
  k_fold
  walk_at "GO"
  refine callWithN_type1 ?_
  walk_at "GO"
  refine ba_new_K rfl (by assumption) (by assumption) (by rw [hl]; decide) (by rw [hl]; decide) ?_
  have en : ((ks.length : Int)).toNat = 32 := by rw [hl]; rfl
  rw [en]
  intro S h1 F1 N1 lS lL
  (try k_lt lS)
  walk_at "GO"
  refine wpN_of_any ?_
  k_fold
  walk_at "GO"
  (rename Fr _ _ _ _ => lF')
  (rename News _ _ _ _ => lN')
  (rename IsRange _ _ _ _ _ _ _ _ => rgX)
  refine krs_hold 4 rfl rgX (by rw [hl]; decide) (by rw [hl]; decide) lF' lN' (fun I lI => ?_)
  clear lF' lN' rgX
  k_lt lI
  refine krs_held ?em (range_ind (σ := Array UInt8 × (Str → Option Value)) (fun c => [(S, baObj c.1)]) (fun c => fun z => if z = "swapped_data" then some (.ref S) else if z = "data" then some (.bytes x t) else if z = "width" then some (.int 8 u) else c.2 z) (fun p c => SwapInv ks p 0 c.1) ?turn ?done (Array.replicate 32 0, fun z => none) ?start)
  case em =>
    funext y
    dsimp only
    by_cases h1 : y = "swapped_data"
    · rw [if_pos h1, if_pos h1]
    · rw [if_neg h1, if_neg h1]
      by_cases h2 : y = "data"
      · subst h2; rfl
      · rw [if_neg h2]
        by_cases h3 : y = "width"
        · subst h3; rfl
        · rw [if_neg h3]
          have b2 : (y == PySem.Str.ofString "data") = false := beq_eq_false_iff_ne.mpr h2
          have b3 : (y == PySem.Str.ofString "width") = false := beq_eq_false_iff_ne.mpr h3
          show (match y == PySem.Str.ofString "width" with | true => _ | false => match y == PySem.Str.ofString "data" with | true => _ | false => none) = none
          rw [b2, b3]
  case start => exact ⟨Array.size_replicate .., fun k _ hc => hc.elim (fun c => absurd c (Nat.not_lt_zero _)) fun c => absurd c.2 (Nat.not_lt_zero _)⟩
  case turn =>
    rintro p ⟨b, m⟩ k tk h tk' hk hp4 hI F N
    dsimp only at hI F N ⊢
    have hsz := hI.1
    walk_at "GO"
    (rename Addr => I2)
    refine krs_held (m' := fun z => if z = "i" then some (.int k tk) else if z = "swapped_data" then some (.ref S) else if z = "data" then some (.bytes x t) else if z = "width" then some (.int 8 u) else m z) rfl (range_ind (σ := Array UInt8 × (Str → Option Value)) (fun c => [(I, krsIt _ _ _), (S, baObj c.1)]) (fun c => fun z => if z = "i" then some (.int k tk) else if z = "swapped_data" then some (.ref S) else if z = "data" then some (.bytes x t) else if z = "width" then some (.int 8 u) else c.2 z) (fun q c => SwapInv ks p q c.1) ?turn2 ?done2 (b, m) hI)
    case turn2 =>
      rintro q ⟨b, m⟩ k2 tk2 h tk3 hk2 hq8 hI F N
      dsimp only at hI F N ⊢
      have hsz := hI.1
      obtain ⟨i1, i2, i3, i4, i5, i6⟩ := sw_i hk hp4 hk2 hq8
      have i7 : k + 8 - 1 - k2 < (b.size : Int) := by rw [hsz]; exact i2
      have i8 : k + k2 < (ks.length : Int) := by rw [hl]; exact i4
      walk_at "GO"
      (rename News _ _ _ _ => nE')
      refine UnrEnd.intro (by assumption) nE' [(I, krsIt _ _ _), (S, baObj _)] (fun p hp => hp) (by k_all) ⟨(_, fun z => if z = "j" then some (.int k2 tk2) else m z), swap_step hI hp4 hq8 (by omega) (by omega), rfl, ?_⟩
      funext z
      dsimp only
      by_cases h1 : z = "i"
      · subst h1; rfl
      · rw [if_neg h1, if_neg h1]
        by_cases h2 : z = "swapped_data"
        · subst h2; rfl
        · rw [if_neg h2, if_neg h2]
          by_cases h3 : z = "data"
          · subst h3; rfl
          · rw [if_neg h3, if_neg h3]
            by_cases h4 : z = "width"
            · subst h4; rfl
            · rw [if_neg h4, if_neg h4]
    case done2 =>
      rintro ⟨b, m⟩ h tk2 hI F N
      dsimp only at hI F N ⊢
      walk_at "GO"
      refine ⟨(b, fun z => if z = "i" then some (.int k tk) else m z), swap_next hI, rfl, ?_⟩
      funext z
      dsimp only
      by_cases h2 : z = "swapped_data"
      · subst h2; rfl
      · rw [if_neg h2, if_neg h2]
        by_cases h3 : z = "data"
        · subst h3; rfl
        · rw [if_neg h3, if_neg h3]
          by_cases h4 : z = "width"
          · subst h4; rfl
          · rw [if_neg h4, if_neg h4]
  case done =>
    rintro ⟨b, m⟩ h tk hI F N
    dsimp only at hI F N ⊢
    have hsz := hI.1
    have hb := swap_done hI
    walk_at "GO"
    walk_at "END0"
    exact ⟨_, by rw [hb], rfl⟩
end
theorem reset_T5 : True := by
  w_top off
  k_with_none
  (k_with "OM" => with_reducible first | assumption | decide | (refine Nat.ne_of_lt ?_; k_extra "OP") | (refine o_n ?_; k_extra "OP") | k_extra "OP" | exact o_1 | exact o_2 | exact o_3 | exact o_4 | exact o_5 | exact o_6 | exact o_7 | exact o_8 | exact o_9 | exact o_10 | exact o_11 | exact o_12 | exact o_13 | exact o_14 | exact o_15 | exact o_16 | exact o_17 | exact o_18 | exact o_s1 | exact o_s2 | exact o_s3 | exact o_s4 | exact o_s5 | exact o_s6 | exact o_s7 | exact o_s8 | exact o_s9 | exact o_s10 | exact o_s11 | exact o_s12 | exact o_s13 | exact o_s14 | exact o_s15 | exact o_s16 | exact o_r 1 | exact o_r 2 | exact o_r 3 | exact o_r 4 | exact o_r 5 | exact o_r 6 | exact o_r 7 | exact o_r 8 | exact o_r 9 | exact o_r 10 | exact o_r 11 | exact o_r 12 | exact o_r 13 | exact o_r 14 | exact o_r 15 | exact o_r 16 | exact o_u1 | exact o_u2 | exact o_u3 | exact o_e1 | exact o_e2 | exact o_e3 | exact o_e4 | exact o_m1 | exact o_c1 | exact o_c2 | exact o_c3 | exact o_c4 | exact o_c5 | exact o_n1 | exact o_n2 | exact o_n3 | exact o_n4 | exact o_d1 | fail)
  (k_with "OP" => first | k_extra "OB" | exact o_p1 | exact o_p2 | exact o_p3 | exact o_p4 | (refine o_l 1 ?_; k_extra "OB") | (refine o_l 2 ?_; k_extra "OB") | (refine o_l 3 ?_; k_extra "OB") | (refine o_l 4 ?_; k_extra "OB") | fail)
  (k_with "OB" => first | assumption | (refine o_pk ?_; k_extra "OK") | fail)
  (k_with "OK" => first | exact And.left | exact And.right | (refine o_sk ?_; k_extra "OK") | fail)
  (k_with "ENTER" => (
  refine spec_eps ?_
  refine (?_ : Spec _ _ _ _ _ _ _) _ _ _ _ _ _ _ _ _ _ _ _ _ _ _ _ _ _ _ _ _ _ _
  intro p₉₉ loose₉₉ mean₉₉ mg₉₉ mb₉₉ dp₉₉ un₉₉ gd₉₉ cn₉₉ cs₉₉ a₉₉ ccd₉₉ cl₉₉ outer₉₉ A₀₉₉ base₉₉ h₀₉₉ L₉₉ m₉₉ news₉₉ s₉₉ Q₉₉ E₉₉
  unfold SpecB
  k_fill
  intro B₉₉ F₉₉ X₉₉ N₉₉ T₉₉ hk₉₉ hd₉₉ hu₉₉ hus₉₉ hpre₉₉ hret₉₉
  refine wpAny_call ?_
  k_dflt (refine' code_us ?k1 ?k2 ?k3 ?k4 ?k5 ?kA ?kF ?kK ?k6 ?k7 ?k8 ?k9 ?kB ?_ ?c2 ?c3 ?c4 ?c5; (case kA => exact rfl); (case kF => exact rfl); (case kK => assumption); (case k1 => k_asm); (case k2 => k_asm); (case k3 => k_asm); (case k4 => exact fun p₉₉ hp => N₉₉ p₉₉ (hus₉₉ p₉₉ hp)); (case k5 => k_asm); (case k6 => k_is); (case k7 => k_is); (case k8 => ktr_room); (case k9 => first | k_extra "binds" | exact BindsTo.of_eq rfl); (case c5 => decide); (case kB => exact locs rfl); (case c2 => exact rfl); (case c3 => exact rfl); (case c4 => exact rfl); k_whole)
  intro g'₉₉ L'₉₉ h'₉₉ eL₉₉ eg₉₉ FG'₉₉ F'₉₉ N'₉₉ B'₉₉ X'₉₉ T'₉₉ lU₉₉
  (try dsimp only)
  k_fold
  (try k_lt lU₉₉)
  clear F₉₉))
  (k_with "END0" => (
  refine spec_end0 (by assumption) (by assumption) (by assumption) (by assumption) (by assumption) (by assumption) (by assumption) (by assumption) (by kcj_all) ?_))
  (k_with "GO" => repeat' (first | (k_unfold; (try dsimp only)) | (k_end; wrow_close) | walk1 | (dsimp only; k_unfold; (try dsimp only)) | (dsimp only; walk1) | (leave1; (try dsimp only)) | fail "no step"))
  first | walk1 | trivial
section
set_option Elab.async false
set_option maxRecDepth 100000
set_option maxHeartbeats 8000000
set_option pp.deepTerms false
set_option pp.maxSteps 4000
theorem noBool_match : typeLookup (.type "re.Match") "__bool__" = pure none := by rw [typeLookup_type, builtinLookup_eq_fast]; kernel_rfl
theorem noLen_match : typeLookup (.type "re.Match") "__len__" = pure none := by rw [typeLookup_type, builtinLookup_eq_fast]; kernel_rfl
section
variable {prog : Program} {w : World} {M : Model} {A : Around} {E : Value → Shared → Prop} {s : Shared} {h₀ : Heap} {L : Addr} {m : Str → Option Value} {news : List (Addr × Obj)}
theorem truthy_match {D : Addr} {o : Obj} {Q : Bool → Shared → Prop} (N : News h₀ L s.heap news) (hm : (D, o) ∈ news) (hc : o.cls = .type "re.Match") (h : Q true s) : wpAny M A (truthy (.ref D)) Q E s := by
  have hT : s.TypeIs (.ref D) "re.Match" := ⟨o, (N _ hm).1, hc⟩
  unfold truthy
  first
    | refine wpAny_bind (wpAny_callSpecial?_none (name := Str.ofString "__bool__") hT noBool_match ?_)
    | refine wpAny_bind (wpAny_pure (wpAny_bind (wpAny_callSpecial?_none (name := Str.ofString "__bool__") hT noBool_match ?_)))
  first
    | refine wpAny_bind (wpAny_specialOf (name := Str.ofString "__len__") hT noLen_match ?_)
    | refine wpAny_bind (wpAny_pure (wpAny_bind (wpAny_specialOf (name := Str.ofString "__len__") hT noLen_match ?_)))
  exact wpAny_pure h
theorem k36 (P : Params) : (hd.heap_39 P).lookup 36 = some { cls := .type "re.Pattern", data := .fields #[.str (Str.ofString "\\.\\d+$") 285, .int 256 312, .int 0 0, .none, .none, .ref 35, .int 0 0] } := by kernel_rfl
theorem k35 (P : Params) : (hd.heap_39 P).lookup 35 = some { cls := .type "tuple", data := .seq #[.int 14 0, .int 8 0, .int 1 0, .int 2 0, .int 4294967295 0, .int 1 0, .int 1 0, .int 46 0, .int 0 0, .int 16 0, .int 46 0, .int 24 0, .int 9 0, .int 1 0, .int 4294967295 0, .int 13 0, .int 4 0, .int 8 0, .int 0 0, .int 0 0, .int 1 0, .int 6 0, .int 5 0, .int 1 0] } := by kernel_rfl
theorem method_search {P : Params} {pl : Sem Bool} {Q : Value × List Value → Shared → Prop} (F : Fr h₀ L s.heap m) (X : (hd.heap_39 P).In h₀) (h : Q (.builtin "re.Pattern.search", [.ref 36]) s) : wpAny M A (getMethod (.ref 36) "search" pl) Q E s :=
  getMethod_builtin ⟨_, F.keep _ _ (X _ _ (k36 P)), rfl⟩ plainAttrs_re slot_search type_search (fun a e => by cases e; exact ⟨_, F.keep _ _ (X _ _ (k36 P)), rfl⟩) h
theorem search_no {P : Params} {x : Str} {t : Tok} {Q : Value → Shared → Prop} (F : Fr h₀ L s.heap m) (X : (hd.heap_39 P).In h₀) (N : News h₀ L s.heap news) (hx : x.cps.size ≤ 2 ^ 20) (hs : Searches x.cps false) (h : Q .none s) :
    wpAny (model prog w) A (call (.builtin "re.Pattern.search") [.ref 36, .str x t]) Q E s :=
  search_K F N (X _ _ (k36 P)) rfl rfl (X _ _ (k35 P)) rfl rfl hx hs (fun _ => h) (fun h => nomatch h)
theorem search_yes {P : Params} {x : Str} {t : Tok} {Q : Value → Shared → Prop} (F : Fr h₀ L s.heap m) (X : (hd.heap_39 P).In h₀) (N : News h₀ L s.heap news) (hx : x.cps.size ≤ 2 ^ 20) (hs : Searches x.cps true)
    (h : ∀ D o h', o.cls = .type "re.Match" → Fr h₀ L h' m → News h₀ L h' ((D, o) :: news) → (∀ p ∈ news, p.1 < D) → Q (.ref D) { s with heap := h' }) :
    wpAny (model prog w) A (call (.builtin "re.Pattern.search") [.ref 36, .str x t]) Q E s :=
  search_K F N (X _ _ (k36 P)) rfl rfl (X _ _ (k35 P)) rfl rfl hx hs (fun h => nomatch h) (fun _ => h)
end
theorem reg_T5_18 : True := by
  (k_with "getMethod ref" => (k_here; (with_reducible show wpAny _ _ (getMethod (Value.ref _) (Str.ofString "search") _) _ _ _); k_dflt (refine' method_search ?F ?X ?_; (case F => k_asm); (case X => k_asm))))
  trivial
theorem reg_T5_19 : True := by
  (k_with "call builtin:re.Pattern.search" => (k_here; k_dflt (first
  | (refine' search_no ?F ?X ?N ?z ?S ?_; (case F => k_asm); (case X => k_asm); (case N => k_asm); (case S => assumption); (case z => assumption))
  | (refine' search_yes ?F ?X ?N ?z ?S ?_; (case F => k_asm); (case X => k_asm); (case N => k_asm); (case S => assumption); (case z => assumption); intro D'₉₉ o'₉₉ h'₉₉ hcls'₉₉ F'₉₉ N'₉₉ l1₉₉; (try k_lt l1₉₉)))))
  trivial
theorem reg_T5_20 : True := by
  (k_with "truthy ref" => (k_here; k_dflt (refine' truthy_match ?N ?m ?c ?_; (case N => k_asm); (case m => k_mem); (case c => assumption))))
  trivial
noncomputable def hdn_no_S (w : World) (x : Str) (t : Tok) : Prop :=
  ∀ (hs : Searches x.cps true) (hx : x.cps.size ≤ 2 ^ 20),
    Spec w 43 [.str x t] 3 [] (fun _ => True) (fun v new => v = .bool false ∧ new = [])
theorem hdn_no {w : World} {x : Str} {t : Tok} : hdn_no_S w x t := by
  refine eps_all (fun x : Sv => hdn_no_S x.w (x.str 0) (x.tok 0)) ?_ (Sv.mk w (default) ([]) (fun _ => none) (fun _ => {}) (fun _ => 0) (fun _ => 0) (fun _ => (0 : Nat)) (fun _ => t) (fun _ => .none) (fun _ => default) (fun _ => []) (fun _ => #[]) (fun _ => []) (fun _ => []) (fun _ => fun _ => none) (fun _ => {}) (fun _ => x) (fun _ => fun _ => "") (fun _ => none) (fun _ => #[]) (fun _ => none) (fun _ => default) (fun _ => none) (fun _ => []) (fun _ => []) (fun _ => {}) (fun _ => true) (fun _ _ => True) (fun _ => fun _ _ => True))
  clear t x w
  refine (?_ : ∀ (w : World) (x : Str) (t : Tok), hdn_no_S w x t) _ _ _
  intro w x t hs hx
  (k_with "binds" => exact BindsTo.of_eq (binds := [("text", .str x t)]) (by with_unfolding_all rfl))
  walk_at "ENTER"
  walk_at "GO"
  walk_at "END0"
  exact ⟨rfl, rfl⟩
noncomputable def hdn_yes_S (w : World) (x : Str) (t : Tok) : Prop :=
  ∀ (hs : Searches x.cps false) (hx : x.cps.size ≤ 2 ^ 20) (h0 : 1 ≤ x.length) (h1 : (x == (Str.ofString "")) = false) (h2 : (Txt.item x 0 == (Str.ofString ".")) = false) (h3 : (Txt.item x (-1) == (Str.ofString ".")) = false),
    Spec w 43 [.str x t] 3 [] (fun _ => True) (fun v new => v = .bool true ∧ new = [])
theorem hdn_yes {w : World} {x : Str} {t : Tok} : hdn_yes_S w x t := by
  refine eps_all (fun x : Sv => hdn_yes_S x.w (x.str 0) (x.tok 0)) ?_ (Sv.mk w (default) ([]) (fun _ => none) (fun _ => {}) (fun _ => 0) (fun _ => 0) (fun _ => (0 : Nat)) (fun _ => t) (fun _ => .none) (fun _ => default) (fun _ => []) (fun _ => #[]) (fun _ => []) (fun _ => []) (fun _ => fun _ => none) (fun _ => {}) (fun _ => x) (fun _ => fun _ => "") (fun _ => none) (fun _ => #[]) (fun _ => none) (fun _ => default) (fun _ => none) (fun _ => []) (fun _ => []) (fun _ => {}) (fun _ => true) (fun _ _ => True) (fun _ => fun _ _ => True))
  clear t x w
  refine (?_ : ∀ (w : World) (x : Str) (t : Tok), hdn_yes_S w x t) _ _ _
  intro w x t hs hx h0 h1 h2 h3
  (k_with "binds" => exact BindsTo.of_eq (binds := [("text", .str x t)]) (by with_unfolding_all rfl))
  walk_at "ENTER"
  walk_at "GO"
  all_goals (first
    | (exfalso; exact Bool.false_ne_true (h1.symm.trans (by assumption)))
    | (exfalso; exact Bool.false_ne_true (h2.symm.trans (by assumption)))
    | (exfalso; exact Bool.false_ne_true (h3.symm.trans (by assumption)))
    | skip)
  all_goals (first | (walk_at "END0"; exact ⟨rfl, rfl⟩) | fail "no end")
/-- what is_HDN lets through -/
structure HostOk (x : Str) : Prop where
  s : Searches x.cps false
  z : x.cps.size ≤ 2 ^ 20
  p : 1 ≤ x.length
  e : (x == (Str.ofString "")) = false
  f : (Txt.item x 0 == (Str.ofString ".")) = false
  l : (Txt.item x (-1) == (Str.ofString ".")) = false
structure HostIp (x : Str) : Prop where
  s : Searches x.cps true
  z : x.cps.size ≤ 2 ^ 20
theorem hdn_ok {w : World} {x : Str} {t : Tok} (h : HostOk x) : Spec w 43 [.str x t] 3 [] (fun _ => True) (fun v new => v = .bool true ∧ new = []) := hdn_yes h.s h.z h.p h.e h.f h.l
theorem hdn_ip {w : World} {x : Str} {t : Tok} (h : HostIp x) : Spec w 43 [.str x t] 3 [] (fun _ => True) (fun v new => v = .bool false ∧ new = []) := hdn_no h.s h.z
end
theorem reset_T10 : True := by
  w_top off
  k_with_none
  (k_with "OM" => with_reducible first | assumption | decide | (refine Nat.ne_of_lt ?_; k_extra "OP") | (refine o_n ?_; k_extra "OP") | k_extra "OP" | exact o_1 | exact o_2 | exact o_3 | exact o_4 | exact o_5 | exact o_6 | exact o_7 | exact o_8 | exact o_9 | exact o_10 | exact o_11 | exact o_12 | exact o_13 | exact o_14 | exact o_15 | exact o_16 | exact o_17 | exact o_18 | exact o_s1 | exact o_s2 | exact o_s3 | exact o_s4 | exact o_s5 | exact o_s6 | exact o_s7 | exact o_s8 | exact o_s9 | exact o_s10 | exact o_s11 | exact o_s12 | exact o_s13 | exact o_s14 | exact o_s15 | exact o_s16 | exact o_r 1 | exact o_r 2 | exact o_r 3 | exact o_r 4 | exact o_r 5 | exact o_r 6 | exact o_r 7 | exact o_r 8 | exact o_r 9 | exact o_r 10 | exact o_r 11 | exact o_r 12 | exact o_r 13 | exact o_r 14 | exact o_r 15 | exact o_r 16 | exact o_u1 | exact o_u2 | exact o_u3 | exact o_e1 | exact o_e2 | exact o_e3 | exact o_e4 | exact o_m1 | exact o_c1 | exact o_c2 | exact o_c3 | exact o_c4 | exact o_c5 | exact o_n1 | exact o_n2 | exact o_n3 | exact o_n4 | exact o_d1 | fail)
  (k_with "OP" => first | k_extra "OB" | exact o_p1 | exact o_p2 | exact o_p3 | exact o_p4 | (refine o_l 1 ?_; k_extra "OB") | (refine o_l 2 ?_; k_extra "OB") | (refine o_l 3 ?_; k_extra "OB") | (refine o_l 4 ?_; k_extra "OB") | fail)
  (k_with "OB" => first | assumption | (refine o_pk ?_; k_extra "OK") | fail)
  (k_with "OK" => first | exact And.left | exact And.right | (refine o_sk ?_; k_extra "OK") | fail)
  (k_with "ENTER" => (
  refine spec_eps ?_
  refine (?_ : Spec _ _ _ _ _ _ _) _ _ _ _ _ _ _ _ _ _ _ _ _ _ _ _ _ _ _ _ _ _ _
  intro p₉₉ loose₉₉ mean₉₉ mg₉₉ mb₉₉ dp₉₉ un₉₉ gd₉₉ cn₉₉ cs₉₉ a₉₉ ccd₉₉ cl₉₉ outer₉₉ A₀₉₉ base₉₉ h₀₉₉ L₉₉ m₉₉ news₉₉ s₉₉ Q₉₉ E₉₉
  unfold SpecB
  k_fill
  intro B₉₉ F₉₉ X₉₉ N₉₉ T₉₉ hk₉₉ hd₉₉ hu₉₉ hus₉₉ hpre₉₉ hret₉₉
  refine wpAny_call ?_
  k_dflt (refine' code_us ?k1 ?k2 ?k3 ?k4 ?k5 ?kA ?kF ?kK ?k6 ?k7 ?k8 ?k9 ?kB ?_ ?c2 ?c3 ?c4 ?c5; (case kA => exact rfl); (case kF => exact rfl); (case kK => assumption); (case k1 => k_asm); (case k2 => k_asm); (case k3 => k_asm); (case k4 => exact fun p₉₉ hp => N₉₉ p₉₉ (hus₉₉ p₉₉ hp)); (case k5 => k_asm); (case k6 => k_is); (case k7 => k_is); (case k8 => ktr_room); (case k9 => first | k_extra "binds" | exact BindsTo.of_eq rfl); (case c5 => decide); (case kB => exact locs rfl); (case c2 => exact rfl); (case c3 => exact rfl); (case c4 => exact rfl); k_whole)
  intro g'₉₉ L'₉₉ h'₉₉ eL₉₉ eg₉₉ FG'₉₉ F'₉₉ N'₉₉ B'₉₉ X'₉₉ T'₉₉ lU₉₉
  (try dsimp only)
  k_fold
  (try k_lt lU₉₉)
  clear F₉₉))
  (k_with "END0" => (
  refine spec_end0 (by assumption) (by assumption) (by assumption) (by assumption) (by assumption) (by assumption) (by assumption) (by assumption) (by kcj_all) ?_))
  (k_with "GO" => repeat' (first | (k_unfold; (try dsimp only)) | (k_end; wrow_close) | walk1 | (dsimp only; k_unfold; (try dsimp only)) | (dsimp only; walk1) | (leave1; (try dsimp only)) | fail "no step"))
  first | walk1 | trivial
section
set_option Elab.async false
set_option maxRecDepth 100000
set_option maxHeartbeats 8000000
set_option pp.deepTerms false
set_option pp.maxSteps 4000
theorem reg_T10_7 : True := by
  (k_with "call ref" => (k_here; k_dflt (first | (refine' Spec.use (hdn_ok ?s1) ?k1 ?k2 ?k3 ?k4 ?k5 ?kK ?kd ?ku ?kus ?kp ?_; (case s1 => assumption); (case k1 => k_asm); (case k2 => k_asm); (case k3 => k_asm); (case k4 => k_asm); (case k5 => k_asm); (case kK => first | exact rfl | assumption); (case kd => ktr_room); (case ku => ktr_units); (case kus => first | exact (fun _ h => nomatch h) | kcj_all); (case kp => first | trivial | assumption); intro v'₉₉ new'₉₉ h'₉₉ tk'₉₉ hp'₉₉ F'₉₉ N'₉₉ l1₉₉; obtain ⟨e1₉₉, e2₉₉⟩ := hp'₉₉; subst e1₉₉; subst e2₉₉; simp only [List.nil_append] at N'₉₉; clear l1₉₉; (try dsimp only)) | (refine' Spec.use (hdn_ip ?s1) ?k1 ?k2 ?k3 ?k4 ?k5 ?kK ?kd ?ku ?kus ?kp ?_; (case s1 => assumption); (case k1 => k_asm); (case k2 => k_asm); (case k3 => k_asm); (case k4 => k_asm); (case k5 => k_asm); (case kK => first | exact rfl | assumption); (case kd => ktr_room); (case ku => ktr_units); (case kus => first | exact (fun _ h => nomatch h) | kcj_all); (case kp => first | trivial | assumption); intro v'₉₉ new'₉₉ h'₉₉ tk'₉₉ hp'₉₉ F'₉₉ N'₉₉ l1₉₉; obtain ⟨e1₉₉, e2₉₉⟩ := hp'₉₉; subst e1₉₉; subst e2₉₉; simp only [List.nil_append] at N'₉₉; clear l1₉₉; (try dsimp only)))))
  trivial
noncomputable def dm_eq_S (w : World) (x : Str) (y : Str) (t : Tok) (u : Tok) : Prop :=
  ∀ (hx : x.length ≤ 100) (hy : y.length ≤ 100) (he : (Txt.lower x == Txt.lower y) = true),
    Spec w 50 [.str x t, .str y u] 6 [] (fun _ => True) (fun v new => v = .bool true ∧ new = [])
theorem dm_eq {w : World} {x : Str} {y : Str} {t : Tok} {u : Tok} : dm_eq_S w x y t u := by
  refine eps_all (fun x : Sv => dm_eq_S x.w (x.str 0) (x.str 1) (x.tok 0) (x.tok 1)) ?_ (Sv.mk w (default) ([]) (fun _ => none) (fun _ => {}) (fun _ => 0) (fun _ => 0) (fun _ => (0 : Nat)) (fun i9 => [t, u].getD i9 t) (fun _ => .none) (fun _ => default) (fun _ => []) (fun _ => #[]) (fun _ => []) (fun _ => []) (fun _ => fun _ => none) (fun _ => {}) (fun i9 => [x, y].getD i9 x) (fun _ => fun _ => "") (fun _ => none) (fun _ => #[]) (fun _ => none) (fun _ => default) (fun _ => none) (fun _ => []) (fun _ => []) (fun _ => {}) (fun _ => true) (fun _ _ => True) (fun _ => fun _ _ => True))
  clear u t y x w
  refine (?_ : ∀ (w : World) (x : Str) (y : Str) (t : Tok) (u : Tok), dm_eq_S w x y t u) _ _ _ _ _
  intro w x y t u hx hy he
  (k_with "binds" => exact BindsTo.of_eq (binds := [("A", .str x t), ("B", .str y u)]) (by with_unfolding_all rfl))
  walk_at "ENTER"
  walk_at "GO"
  all_goals (walk_at "END0"; exact ⟨rfl, rfl⟩)
noncomputable def dm_ip_S (w : World) (x : Str) (y : Str) (t : Tok) (u : Tok) : Prop :=
  ∀ (hx : x.length ≤ 100) (hy : y.length ≤ 100) (he : (Txt.lower x == Txt.lower y) = false) (hA : HostIp (Txt.lower x)),
    Spec w 50 [.str x t, .str y u] 6 [] (fun _ => True) (fun v new => v = .bool false ∧ new = [])
theorem dm_ip {w : World} {x : Str} {y : Str} {t : Tok} {u : Tok} : dm_ip_S w x y t u := by
  refine eps_all (fun x : Sv => dm_ip_S x.w (x.str 0) (x.str 1) (x.tok 0) (x.tok 1)) ?_ (Sv.mk w (default) ([]) (fun _ => none) (fun _ => {}) (fun _ => 0) (fun _ => 0) (fun _ => (0 : Nat)) (fun i9 => [t, u].getD i9 t) (fun _ => .none) (fun _ => default) (fun _ => []) (fun _ => #[]) (fun _ => []) (fun _ => []) (fun _ => fun _ => none) (fun _ => {}) (fun i9 => [x, y].getD i9 x) (fun _ => fun _ => "") (fun _ => none) (fun _ => #[]) (fun _ => none) (fun _ => default) (fun _ => none) (fun _ => []) (fun _ => []) (fun _ => {}) (fun _ => true) (fun _ _ => True) (fun _ => fun _ _ => True))
  clear u t y x w
  refine (?_ : ∀ (w : World) (x : Str) (y : Str) (t : Tok) (u : Tok), dm_ip_S w x y t u) _ _ _ _ _
  intro w x y t u hx hy he hA
  (k_with "binds" => exact BindsTo.of_eq (binds := [("A", .str x t), ("B", .str y u)]) (by with_unfolding_all rfl))
  walk_at "ENTER"
  walk_at "GO"
  all_goals (walk_at "END0"; exact ⟨rfl, rfl⟩)
/-- the host does not end so, or the zone has no dot ahead -/
noncomputable def dm_no_S (w : World) (x : Str) (y : Str) (t : Tok) (u : Tok) : Prop :=
  ∀ (hx : x.length ≤ 100) (hy : y.length ≤ 100) (he : (Txt.lower x == Txt.lower y) = false) (hA : HostOk (Txt.lower x)) (hr : Txt.rfind (Txt.lower x) (Txt.lower y) = -1 ∨ Txt.startswith (Txt.lower y) (Str.ofString ".") = false),
    Spec w 50 [.str x t, .str y u] 6 [] (fun _ => True) (fun v new => v = .bool false ∧ new = [])
theorem dm_no {w : World} {x : Str} {y : Str} {t : Tok} {u : Tok} : dm_no_S w x y t u := by
  refine eps_all (fun x : Sv => dm_no_S x.w (x.str 0) (x.str 1) (x.tok 0) (x.tok 1)) ?_ (Sv.mk w (default) ([]) (fun _ => none) (fun _ => {}) (fun _ => 0) (fun _ => 0) (fun _ => (0 : Nat)) (fun i9 => [t, u].getD i9 t) (fun _ => .none) (fun _ => default) (fun _ => []) (fun _ => #[]) (fun _ => []) (fun _ => []) (fun _ => fun _ => none) (fun _ => {}) (fun i9 => [x, y].getD i9 x) (fun _ => fun _ => "") (fun _ => none) (fun _ => #[]) (fun _ => none) (fun _ => default) (fun _ => none) (fun _ => []) (fun _ => []) (fun _ => {}) (fun _ => true) (fun _ _ => True) (fun _ => fun _ _ => True))
  clear u t y x w
  refine (?_ : ∀ (w : World) (x : Str) (y : Str) (t : Tok) (u : Tok), dm_no_S w x y t u) _ _ _ _ _
  intro w x y t u hx hy he hA hr
  (k_with "binds" => exact BindsTo.of_eq (binds := [("A", .str x t), ("B", .str y u)]) (by with_unfolding_all rfl))
  rcases hr with hr | hr
  all_goals (
    walk_at "ENTER"
    walk_at "GO"
    all_goals (walk_at "END0"; exact ⟨rfl, rfl⟩))
noncomputable def dm_yes_S (w : World) (x : Str) (y : Str) (t : Tok) (u : Tok) : Prop :=
  ∀ (hx : x.length ≤ 100) (hy : y.length ≤ 100) (he : (Txt.lower x == Txt.lower y) = false) (hA : HostOk (Txt.lower x)) (hr : 0 < Txt.rfind (Txt.lower x) (Txt.lower y)) (hs : Txt.startswith (Txt.lower y) (Str.ofString ".") = true) (hB : HostOk (Txt.slice (Txt.lower y) (some 1) none)),
    Spec w 50 [.str x t, .str y u] 6 [] (fun _ => True) (fun v new => v = .bool true ∧ new = [])
theorem dm_yes {w : World} {x : Str} {y : Str} {t : Tok} {u : Tok} : dm_yes_S w x y t u := by
  refine eps_all (fun x : Sv => dm_yes_S x.w (x.str 0) (x.str 1) (x.tok 0) (x.tok 1)) ?_ (Sv.mk w (default) ([]) (fun _ => none) (fun _ => {}) (fun _ => 0) (fun _ => 0) (fun _ => (0 : Nat)) (fun i9 => [t, u].getD i9 t) (fun _ => .none) (fun _ => default) (fun _ => []) (fun _ => #[]) (fun _ => []) (fun _ => []) (fun _ => fun _ => none) (fun _ => {}) (fun i9 => [x, y].getD i9 x) (fun _ => fun _ => "") (fun _ => none) (fun _ => #[]) (fun _ => none) (fun _ => default) (fun _ => none) (fun _ => []) (fun _ => []) (fun _ => {}) (fun _ => true) (fun _ _ => True) (fun _ => fun _ _ => True))
  clear u t y x w
  refine (?_ : ∀ (w : World) (x : Str) (y : Str) (t : Tok) (u : Tok), dm_yes_S w x y t u) _ _ _ _ _
  intro w x y t u hx hy he hA hr hs hB
  (k_with "binds" => exact BindsTo.of_eq (binds := [("A", .str x t), ("B", .str y u)]) (by with_unfolding_all rfl))
  walk_at "ENTER"
  walk_at "GO"
  all_goals (first | (exfalso; omega) | (walk_at "END0"; exact ⟨rfl, rfl⟩))
end
theorem reset_T9 : True := by
  w_top off
  k_with_none
  (k_with "OM" => with_reducible first | assumption | decide | (refine Nat.ne_of_lt ?_; k_extra "OP") | (refine o_n ?_; k_extra "OP") | k_extra "OP" | exact o_1 | exact o_2 | exact o_3 | exact o_4 | exact o_5 | exact o_6 | exact o_7 | exact o_8 | exact o_9 | exact o_10 | exact o_11 | exact o_12 | exact o_13 | exact o_14 | exact o_15 | exact o_16 | exact o_17 | exact o_18 | exact o_s1 | exact o_s2 | exact o_s3 | exact o_s4 | exact o_s5 | exact o_s6 | exact o_s7 | exact o_s8 | exact o_s9 | exact o_s10 | exact o_s11 | exact o_s12 | exact o_s13 | exact o_s14 | exact o_s15 | exact o_s16 | exact o_r 1 | exact o_r 2 | exact o_r 3 | exact o_r 4 | exact o_r 5 | exact o_r 6 | exact o_r 7 | exact o_r 8 | exact o_r 9 | exact o_r 10 | exact o_r 11 | exact o_r 12 | exact o_r 13 | exact o_r 14 | exact o_r 15 | exact o_r 16 | exact o_u1 | exact o_u2 | exact o_u3 | exact o_e1 | exact o_e2 | exact o_e3 | exact o_e4 | exact o_m1 | exact o_c1 | exact o_c2 | exact o_c3 | exact o_c4 | exact o_c5 | exact o_n1 | exact o_n2 | exact o_n3 | exact o_n4 | exact o_d1 | fail)
  (k_with "OP" => first | k_extra "OB" | exact o_p1 | exact o_p2 | exact o_p3 | exact o_p4 | (refine o_l 1 ?_; k_extra "OB") | (refine o_l 2 ?_; k_extra "OB") | (refine o_l 3 ?_; k_extra "OB") | (refine o_l 4 ?_; k_extra "OB") | fail)
  (k_with "OB" => first | assumption | (refine o_pk ?_; k_extra "OK") | fail)
  (k_with "OK" => first | exact And.left | exact And.right | (refine o_sk ?_; k_extra "OK") | fail)
  (k_with "ENTER" => (
  refine spec_eps ?_
  refine (?_ : Spec _ _ _ _ _ _ _) _ _ _ _ _ _ _ _ _ _ _ _ _ _ _ _ _ _ _ _ _ _ _
  intro p₉₉ loose₉₉ mean₉₉ mg₉₉ mb₉₉ dp₉₉ un₉₉ gd₉₉ cn₉₉ cs₉₉ a₉₉ ccd₉₉ cl₉₉ outer₉₉ A₀₉₉ base₉₉ h₀₉₉ L₉₉ m₉₉ news₉₉ s₉₉ Q₉₉ E₉₉
  unfold SpecB
  k_fill
  intro B₉₉ F₉₉ X₉₉ N₉₉ T₉₉ hk₉₉ hd₉₉ hu₉₉ hus₉₉ hpre₉₉ hret₉₉
  refine wpAny_call ?_
  k_dflt (refine' code_us ?k1 ?k2 ?k3 ?k4 ?k5 ?kA ?kF ?kK ?k6 ?k7 ?k8 ?k9 ?kB ?_ ?c2 ?c3 ?c4 ?c5; (case kA => exact rfl); (case kF => exact rfl); (case kK => assumption); (case k1 => k_asm); (case k2 => k_asm); (case k3 => k_asm); (case k4 => exact fun p₉₉ hp => N₉₉ p₉₉ (hus₉₉ p₉₉ hp)); (case k5 => k_asm); (case k6 => k_is); (case k7 => k_is); (case k8 => ktr_room); (case k9 => first | k_extra "binds" | exact BindsTo.of_eq rfl); (case c5 => decide); (case kB => exact locs rfl); (case c2 => exact rfl); (case c3 => exact rfl); (case c4 => exact rfl); k_whole)
  intro g'₉₉ L'₉₉ h'₉₉ eL₉₉ eg₉₉ FG'₉₉ F'₉₉ N'₉₉ B'₉₉ X'₉₉ T'₉₉ lU₉₉
  (try dsimp only)
  k_fold
  (try k_lt lU₉₉)
  clear F₉₉))
  (k_with "END0" => (
  refine spec_end0 (by assumption) (by assumption) (by assumption) (by assumption) (by assumption) (by assumption) (by assumption) (by assumption) (by kcj_all) ?_))
  (k_with "GO" => repeat' (first | (k_unfold; (try dsimp only)) | (k_end; wrow_close) | walk1 | (dsimp only; k_unfold; (try dsimp only)) | (dsimp only; walk1) | (leave1; (try dsimp only)) | fail "no step"))
  first | walk1 | trivial
section
set_option Elab.async false
set_option maxRecDepth 100000
set_option maxHeartbeats 8000000
set_option pp.deepTerms false
set_option pp.maxSteps 4000
theorem reg_T9_7 : True := by
  (k_with "call ref" => (k_here; k_dflt (first | (refine' Spec.use (hdn_ok ?s1) ?k1 ?k2 ?k3 ?k4 ?k5 ?kK ?kd ?ku ?kus ?kp ?_; (case s1 => assumption); (case k1 => k_asm); (case k2 => k_asm); (case k3 => k_asm); (case k4 => k_asm); (case k5 => k_asm); (case kK => first | exact rfl | assumption); (case kd => ktr_room); (case ku => ktr_units); (case kus => first | exact (fun _ h => nomatch h) | kcj_all); (case kp => first | trivial | assumption); intro v'₉₉ new'₉₉ h'₉₉ tk'₉₉ hp'₉₉ F'₉₉ N'₉₉ l1₉₉; obtain ⟨e1₉₉, e2₉₉⟩ := hp'₉₉; subst e1₉₉; subst e2₉₉; simp only [List.nil_append] at N'₉₉; clear l1₉₉; (try dsimp only)) | (refine' Spec.use (hdn_ip ?s1) ?k1 ?k2 ?k3 ?k4 ?k5 ?kK ?kd ?ku ?kus ?kp ?_; (case s1 => assumption); (case k1 => k_asm); (case k2 => k_asm); (case k3 => k_asm); (case k4 => k_asm); (case k5 => k_asm); (case kK => first | exact rfl | assumption); (case kd => ktr_room); (case ku => ktr_units); (case kus => first | exact (fun _ h => nomatch h) | kcj_all); (case kp => first | trivial | assumption); intro v'₉₉ new'₉₉ h'₉₉ tk'₉₉ hp'₉₉ F'₉₉ N'₉₉ l1₉₉; obtain ⟨e1₉₉, e2₉₉⟩ := hp'₉₉; subst e1₉₉; subst e2₉₉; simp only [List.nil_append] at N'₉₉; clear l1₉₉; (try dsimp only)))))
  trivial
/-- what reach tells of a host that is_HDN lets through -/
noncomputable def reachF (x : Str) : Str :=
  if 0 ≤ Txt.find x (Str.ofString ".") then
    if 0 ≤ Txt.find (Txt.slice x (some (Txt.find x (Str.ofString ".") + 1)) none) (Str.ofString ".") then Str.ofString "." ++ Txt.slice x (some (Txt.find x (Str.ofString ".") + 1)) none
    else if (Txt.slice x (some (Txt.find x (Str.ofString ".") + 1)) none == Str.ofString "local") = true then Str.ofString "." ++ Txt.slice x (some (Txt.find x (Str.ofString ".") + 1)) none
    else x
  else x
theorem reachF_a {x : Str} (h1 : 0 ≤ Txt.find x (Str.ofString ".")) (h2 : 0 ≤ Txt.find (Txt.slice x (some (Txt.find x (Str.ofString ".") + 1)) none) (Str.ofString ".")) : reachF x = Str.ofString "." ++ Txt.slice x (some (Txt.find x (Str.ofString ".") + 1)) none := by
  unfold reachF; rw [if_pos h1, if_pos h2]
theorem reachF_b {x : Str} (h1 : 0 ≤ Txt.find x (Str.ofString ".")) (h2 : ¬ 0 ≤ Txt.find (Txt.slice x (some (Txt.find x (Str.ofString ".") + 1)) none) (Str.ofString ".")) (h3 : (Txt.slice x (some (Txt.find x (Str.ofString ".") + 1)) none == Str.ofString "local") = true) : reachF x = Str.ofString "." ++ Txt.slice x (some (Txt.find x (Str.ofString ".") + 1)) none := by
  unfold reachF; rw [if_pos h1, if_neg h2, if_pos h3]
theorem reachF_c {x : Str} (h1 : 0 ≤ Txt.find x (Str.ofString ".")) (h2 : ¬ 0 ≤ Txt.find (Txt.slice x (some (Txt.find x (Str.ofString ".") + 1)) none) (Str.ofString ".")) (h3 : (Txt.slice x (some (Txt.find x (Str.ofString ".") + 1)) none == Str.ofString "local") = false) : reachF x = x := by
  unfold reachF; rw [if_pos h1, if_neg h2, if_neg (by rw [h3]; exact Bool.false_ne_true)]
theorem reachF_d {x : Str} (h1 : ¬ 0 ≤ Txt.find x (Str.ofString ".")) : reachF x = x := by
  unfold reachF; rw [if_neg h1]
noncomputable def reach_spec_S (w : World) (x : Str) (t : Tok) : Prop :=
  ∀ (hx : HostOk x),
    Spec w 57 [.str x t] 6 [] (fun _ => True) (fun v new => ∃ t, v = .str (reachF x) t ∧ new = [])
theorem reach_spec {w : World} {x : Str} {t : Tok} : reach_spec_S w x t := by
  refine eps_all (fun x : Sv => reach_spec_S x.w (x.str 0) (x.tok 0)) ?_ (Sv.mk w (default) ([]) (fun _ => none) (fun _ => {}) (fun _ => 0) (fun _ => 0) (fun _ => (0 : Nat)) (fun _ => t) (fun _ => .none) (fun _ => default) (fun _ => []) (fun _ => #[]) (fun _ => []) (fun _ => []) (fun _ => fun _ => none) (fun _ => {}) (fun _ => x) (fun _ => fun _ => "") (fun _ => none) (fun _ => #[]) (fun _ => none) (fun _ => default) (fun _ => none) (fun _ => []) (fun _ => []) (fun _ => {}) (fun _ => true) (fun _ _ => True) (fun _ => fun _ _ => True))
  clear t x w
  refine (?_ : ∀ (w : World) (x : Str) (t : Tok), reach_spec_S w x t) _ _ _
  intro w x t hx
  (k_with "binds" => exact BindsTo.of_eq (binds := [("h", .str x t)]) (by with_unfolding_all rfl))
  have hz : x.length ≤ 2 ^ 20 := hx.z
  walk_at "ENTER"
  walk_at "GO"
  all_goals walk_at "END0"
  all_goals (first
    | exact ⟨_, congrArg (Value.str · _) (reachF_a (by assumption) (by assumption)).symm, rfl⟩
    | exact ⟨_, congrArg (Value.str · _) (reachF_b (by assumption) (by assumption) (by assumption)).symm, rfl⟩
    | exact ⟨_, congrArg (Value.str · _) (reachF_c (by assumption) (by assumption) (by assumption)).symm, rfl⟩
    | exact ⟨_, congrArg (Value.str · _) (reachF_d (by assumption)).symm, rfl⟩)
noncomputable def reach_ip_S (w : World) (x : Str) (t : Tok) : Prop :=
  ∀ (hx : HostIp x),
    Spec w 57 [.str x t] 6 [] (fun _ => True) (fun v new => ∃ t, v = .str x t ∧ new = [])
theorem reach_ip {w : World} {x : Str} {t : Tok} : reach_ip_S w x t := by
  refine eps_all (fun x : Sv => reach_ip_S x.w (x.str 0) (x.tok 0)) ?_ (Sv.mk w (default) ([]) (fun _ => none) (fun _ => {}) (fun _ => 0) (fun _ => 0) (fun _ => (0 : Nat)) (fun _ => t) (fun _ => .none) (fun _ => default) (fun _ => []) (fun _ => #[]) (fun _ => []) (fun _ => []) (fun _ => fun _ => none) (fun _ => {}) (fun _ => x) (fun _ => fun _ => "") (fun _ => none) (fun _ => #[]) (fun _ => none) (fun _ => default) (fun _ => none) (fun _ => []) (fun _ => []) (fun _ => {}) (fun _ => true) (fun _ _ => True) (fun _ => fun _ _ => True))
  clear t x w
  refine (?_ : ∀ (w : World) (x : Str) (t : Tok), reach_ip_S w x t) _ _ _
  intro w x t hx
  (k_with "binds" => exact BindsTo.of_eq (binds := [("h", .str x t)]) (by with_unfolding_all rfl))
  have hz : x.length ≤ 2 ^ 20 := hx.z
  walk_at "ENTER"
  walk_at "GO"
  all_goals (walk_at "END0"; exact ⟨_, rfl, rfl⟩)
end
theorem reset_T12 : True := by
  w_top off
  k_with_none
  (k_with "OM" => with_reducible first | assumption | decide | (refine Nat.ne_of_lt ?_; k_extra "OP") | (refine o_n ?_; k_extra "OP") | k_extra "OP" | exact o_1 | exact o_2 | exact o_3 | exact o_4 | exact o_5 | exact o_6 | exact o_7 | exact o_8 | exact o_9 | exact o_10 | exact o_11 | exact o_12 | exact o_13 | exact o_14 | exact o_15 | exact o_16 | exact o_17 | exact o_18 | exact o_s1 | exact o_s2 | exact o_s3 | exact o_s4 | exact o_s5 | exact o_s6 | exact o_s7 | exact o_s8 | exact o_s9 | exact o_s10 | exact o_s11 | exact o_s12 | exact o_s13 | exact o_s14 | exact o_s15 | exact o_s16 | exact o_r 1 | exact o_r 2 | exact o_r 3 | exact o_r 4 | exact o_r 5 | exact o_r 6 | exact o_r 7 | exact o_r 8 | exact o_r 9 | exact o_r 10 | exact o_r 11 | exact o_r 12 | exact o_r 13 | exact o_r 14 | exact o_r 15 | exact o_r 16 | exact o_u1 | exact o_u2 | exact o_u3 | exact o_e1 | exact o_e2 | exact o_e3 | exact o_e4 | exact o_m1 | exact o_c1 | exact o_c2 | exact o_c3 | exact o_c4 | exact o_c5 | exact o_n1 | exact o_n2 | exact o_n3 | exact o_n4 | exact o_d1 | fail)
  (k_with "OP" => first | k_extra "OB" | exact o_p1 | exact o_p2 | exact o_p3 | exact o_p4 | (refine o_l 1 ?_; k_extra "OB") | (refine o_l 2 ?_; k_extra "OB") | (refine o_l 3 ?_; k_extra "OB") | (refine o_l 4 ?_; k_extra "OB") | fail)
  (k_with "OB" => first | assumption | (refine o_pk ?_; k_extra "OK") | fail)
  (k_with "OK" => first | exact And.left | exact And.right | (refine o_sk ?_; k_extra "OK") | fail)
  (k_with "ENTER" => (
  refine spec_eps ?_
  refine (?_ : Spec _ _ _ _ _ _ _) _ _ _ _ _ _ _ _ _ _ _ _ _ _ _ _ _ _ _ _ _ _ _
  intro p₉₉ loose₉₉ mean₉₉ mg₉₉ mb₉₉ dp₉₉ un₉₉ gd₉₉ cn₉₉ cs₉₉ a₉₉ ccd₉₉ cl₉₉ outer₉₉ A₀₉₉ base₉₉ h₀₉₉ L₉₉ m₉₉ news₉₉ s₉₉ Q₉₉ E₉₉
  unfold SpecB
  k_fill
  intro B₉₉ F₉₉ X₉₉ N₉₉ T₉₉ hk₉₉ hd₉₉ hu₉₉ hus₉₉ hpre₉₉ hret₉₉
  refine wpAny_call ?_
  k_dflt (refine' code_us ?k1 ?k2 ?k3 ?k4 ?k5 ?kA ?kF ?kK ?k6 ?k7 ?k8 ?k9 ?kB ?_ ?c2 ?c3 ?c4 ?c5; (case kA => exact rfl); (case kF => exact rfl); (case kK => assumption); (case k1 => k_asm); (case k2 => k_asm); (case k3 => k_asm); (case k4 => exact fun p₉₉ hp => N₉₉ p₉₉ (hus₉₉ p₉₉ hp)); (case k5 => k_asm); (case k6 => k_is); (case k7 => k_is); (case k8 => ktr_room); (case k9 => first | k_extra "binds" | exact BindsTo.of_eq rfl); (case c5 => decide); (case kB => exact locs rfl); (case c2 => exact rfl); (case c3 => exact rfl); (case c4 => exact rfl); k_whole)
  intro g'₉₉ L'₉₉ h'₉₉ eL₉₉ eg₉₉ FG'₉₉ F'₉₉ N'₉₉ B'₉₉ X'₉₉ T'₉₉ lU₉₉
  (try dsimp only)
  k_fold
  (try k_lt lU₉₉)
  clear F₉₉))
  (k_with "END1" => (
  refine spec_end1 (by assumption) (by assumption) (by assumption) (by assumption) (by assumption) (by assumption) (by assumption) (by assumption) (by kcj_all) (by first | assumption | (dsimp only; omega)) ?_))
  (k_with "GO" => repeat' (first | (k_unfold; (try dsimp only)) | (k_end; wrow_close) | walk1 | (dsimp only; k_unfold; (try dsimp only)) | (dsimp only; walk1) | (leave1; (try dsimp only)) | fail "no step"))
  first | walk1 | trivial
section
set_option Elab.async false
set_option maxRecDepth 100000
set_option maxHeartbeats 8000000
set_option pp.deepTerms false
set_option pp.maxSteps 4000
theorem divmod_L {prog : Program} {w : World} {A : Around} {E : Value → Shared → Prop} {s : Shared} {a b : Int} {t u : Tok} {Q : Value → Shared → Prop} {h₀ : Heap} {L : Addr} {m : Str → Option Value} {news : List (Addr × Obj)} (F : Fr h₀ L s.heap m) (N : News h₀ L s.heap news) (hb : b ≠ 0)
    (hp : Builtin.divisionGoesByPylong a b = false)
    (h : ∀ D h' tq tr tk, Fr h₀ L h' m → News h₀ L h' ((D, { cls := .type "tuple", data := .seq #[.int (a.fdiv b) tq, .int (a.fmod b) tr] }) :: news) → (∀ p ∈ news, p.1 < D) → L ≤ D → Q (.ref D) { s with heap := h', toks := tk }) :
    wpAny (model prog w) A (call (.builtin "divmod") [.int a t, .int b u]) Q E s :=
  divmod_N F N hb (fun h' F' N' => h _ h' _ _ _ F' N' (fun p hp => Heap.lt_size (N p hp).1) (Nat.le_of_lt F.ns.lt)) (Or.inl hp)
local macro_rules | `(tactic| walk_at "call builtin:divmod") => `(tactic| (k_here; k_dflt (refine' divmod_L ?F ?N ?b ?p ?_; (case F => k_asm); (case N => k_asm); (case b => omega); (case p => exact PyProof.noPylong_small (by omega)); k_whole); intro D' h' tq' tr' tk' F' N' l1 lL; (try k_lt l1); (try k_sweep)))
noncomputable def div2n1n_spec_S (w : World) (a : Int) (b : Int) (n : Int) (t : Tok) (u : Tok) (v : Tok) : Prop :=
  ∀ (ha : 0 ≤ a ∧ a < 2 ^ 60) (hb : 0 < b ∧ b < 2 ^ 20) (hn : 0 ≤ n),
    Spec w 64 [.int a t, .int b u, .int n v] 3 [] (fun h => True)
    (fun v new => ∃ (D : Addr) (c : Nat) (tq tr : Tok), v = .ref D ∧ new = [(D, { cls := .type "tuple", data := .seq #[.int (a.fdiv b) tq, .int (a.fmod b) tr] c })])
theorem div2n1n_spec {w : World} {a : Int} {b : Int} {n : Int} {t : Tok} {u : Tok} {v : Tok} : div2n1n_spec_S w a b n t u v := by
  refine eps_all (fun x : Sv => div2n1n_spec_S x.w (x.int 0) (x.int 1) (x.int 2) (x.tok 0) (x.tok 1) (x.tok 2)) ?_ (Sv.mk w (default) ([]) (fun _ => none) (fun _ => {}) (fun _ => 0) (fun i9 => [a, b, n].getD i9 a) (fun _ => (0 : Nat)) (fun i9 => [t, u, v].getD i9 t) (fun _ => .none) (fun _ => default) (fun _ => []) (fun _ => #[]) (fun _ => []) (fun _ => []) (fun _ => fun _ => none) (fun _ => {}) (fun _ => "") (fun _ => fun _ => "") (fun _ => none) (fun _ => #[]) (fun _ => none) (fun _ => default) (fun _ => none) (fun _ => []) (fun _ => []) (fun _ => {}) (fun _ => true) (fun _ _ => True) (fun _ => fun _ _ => True))
  clear v u t n b a w
  refine (?_ : ∀ (w : World) (a : Int) (b : Int) (n : Int) (t : Tok) (u : Tok) (v : Tok), div2n1n_spec_S w a b n t u v) _ _ _ _ _ _ _
  intro w a b n t u v ha hb hn
  (k_with "binds" => exact BindsTo.of_eq (binds := [("a", .int a t), ("b", .int b u), ("n", .int n v)]) (by with_unfolding_all rfl))
  have hbits : PySem.Builtin.Int.intBits a ≤ 60 := PySem.intBits_le_iff.mpr (by omega)
  walk_at "ENTER"
  walk_at "GO"
  walk_at "END1"
  exact ⟨_, _, _, _, rfl, rfl⟩
end
theorem reset_N2 : True := by
  w_top off
  k_with_none
  (k_with "OM" => with_reducible first | assumption | decide | (refine Nat.ne_of_lt ?_; k_extra "OP") | (refine o_n ?_; k_extra "OP") | k_extra "OP" | exact o_1 | exact o_2 | exact o_3 | exact o_4 | exact o_5 | exact o_6 | exact o_7 | exact o_8 | exact o_9 | exact o_10 | exact o_11 | exact o_12 | exact o_13 | exact o_14 | exact o_15 | exact o_16 | exact o_17 | exact o_18 | exact o_s1 | exact o_s2 | exact o_s3 | exact o_s4 | exact o_s5 | exact o_s6 | exact o_s7 | exact o_s8 | exact o_s9 | exact o_s10 | exact o_s11 | exact o_s12 | exact o_s13 | exact o_s14 | exact o_s15 | exact o_s16 | exact o_r 1 | exact o_r 2 | exact o_r 3 | exact o_r 4 | exact o_r 5 | exact o_r 6 | exact o_r 7 | exact o_r 8 | exact o_r 9 | exact o_r 10 | exact o_r 11 | exact o_r 12 | exact o_r 13 | exact o_r 14 | exact o_r 15 | exact o_r 16 | exact o_u1 | exact o_u2 | exact o_u3 | exact o_e1 | exact o_e2 | exact o_e3 | exact o_e4 | exact o_m1 | exact o_c1 | exact o_c2 | exact o_c3 | exact o_c4 | exact o_c5 | exact o_n1 | exact o_n2 | exact o_n3 | exact o_n4 | exact o_d1 | fail)
  (k_with "OP" => first | k_extra "OB" | exact o_p1 | exact o_p2 | exact o_p3 | exact o_p4 | (refine o_l 1 ?_; k_extra "OB") | (refine o_l 2 ?_; k_extra "OB") | (refine o_l 3 ?_; k_extra "OB") | (refine o_l 4 ?_; k_extra "OB") | fail)
  (k_with "OB" => first | assumption | (refine o_pk ?_; k_extra "OK") | fail)
  (k_with "OK" => first | exact And.left | exact And.right | (refine o_sk ?_; k_extra "OK") | fail)
  (k_with "GO" => repeat' (first | (k_unfold; (try dsimp only)) | (k_end; wrow_close) | walk1 | (dsimp only; k_unfold; (try dsimp only)) | (dsimp only; walk1) | (leave1; (try dsimp only)) | fail "no step"))
  (k_with "GO1" => (first | (k_unfold; (try dsimp only)) | (k_end; wrow_close) | walk1 | (dsimp only; k_unfold; (try dsimp only)) | (dsimp only; walk1) | (leave1; (try dsimp only)) | fail "no step"))
  (k_with "ENTERG" => (
  refine specT_eps ?_
  refine (?_ : SpecT _ _ _ _ _ _ _) _ _ _ _ _ _ _ _ _ _ _ _ _ _ _ _ _ _ _ _ _ _ _
  intro p₉₉ loose₉₉ mean₉₉ mg₉₉ mb₉₉ dp₉₉ un₉₉ gd₉₉ cn₉₉ cs₉₉ a₉₉ ccd₉₉ cl₉₉ outer₉₉ A₀₉₉ base₉₉ h₀₉₉ L₉₉ m₉₉ rest₉₉ s₉₉ Q₉₉ E₉₉
  unfold SpecTB
  k_fill
  intro B₉₉ F₉₉ X₉₉ N₉₉ T₉₉ hk₉₉ hd₉₉ hu₉₉ hoff₉₉ hC₉₉ hret₉₉
  refine wpAny_call ?_
  k_dflt (refine' code_usF ?k1 ?k2 ?k3 ?k4 ?k5 ?kA ?kF ?kK ?k6 ?k7 ?k8 ?k9 ?kB ?_ ?c2 ?c3 ?c4 ?c5; (case kA => exact rfl); (case kF => exact rfl); (case kK => assumption); (case k1 => k_asm); (case k2 => k_asm); (case k3 => k_asm); (case k4 => exact fun p₉₉ hp => N₉₉ p₉₉ (List.mem_append_left _ hp)); (case k5 => k_asm); (case k6 => exact .head _); (case k7 => exact codeRec_news N₉₉ (List.mem_append_left _ (.tail _ (.head _))) (by assumption) (by assumption)); (case k8 => ktr_room); (case k9 => k_extra "binds"); (case c5 => decide); (case kB => exact locs rfl); (case c2 => exact rfl); (case c3 => exact rfl); (case c4 => exact rfl); k_whole)
  intro g'₉₉ L'₉₉ h'₉₉ eL₉₉ eg₉₉ FG'₉₉ F'₉₉ N'₉₉ B'₉₉ X'₉₉ T'₉₉ lU₉₉
  (try dsimp only)
  k_fold
  (try k_lt lU₉₉)
  clear F₉₉))
  (k_with "ENTERT" => (
  refine specT_eps ?_
  refine (?_ : SpecT _ _ _ _ _ _ _) _ _ _ _ _ _ _ _ _ _ _ _ _ _ _ _ _ _ _ _ _ _ _
  intro p₉₉ loose₉₉ mean₉₉ mg₉₉ mb₉₉ dp₉₉ un₉₉ gd₉₉ cn₉₉ cs₉₉ a₉₉ ccd₉₉ cl₉₉ outer₉₉ A₀₉₉ base₉₉ h₀₉₉ L₉₉ m₉₉ rest₉₉ s₉₉ Q₉₉ E₉₉
  unfold SpecTB
  k_fill
  intro B₉₉ F₉₉ X₉₉ N₉₉ T₉₉ hk₉₉ hd₉₉ hu₉₉ hoff₉₉ hC₉₉ hret₉₉
  refine wpAny_call ?_
  k_dflt (refine' code_usC ?k1 ?k2 ?k3 ?k4 ?k5 ?kA ?kF ?kK ?k6 ?k7 ?k8 ?k9 ?kB ?kD ?_ ?c2 ?c3 ?c4; (case kA => exact rfl); (case kF => exact rfl); (case kK => assumption); (case k1 => k_asm); (case k2 => k_asm); (case k3 => k_asm); (case k4 => exact fun p₉₉ hp => N₉₉ p₉₉ (List.mem_append_left _ hp)); (case k5 => k_asm); (case k6 => k_is); (case k7 => k_is); (case k8 => ktr_room); (case k9 => exact BindsTo.of_eq (binds := [("a", .int _ _), ("n", .int _ _)]) (by with_unfolding_all rfl)); (case kB => exact rfl); (case kD => decide +kernel); (case c2 => exact rfl); (case c3 => exact rfl); (case c4 => exact rfl); k_whole)
  intro g'₉₉ L'₉₉ h'₉₉ tk'₉₉ cells'₉₉ eL₉₉ eg₉₉ FG'₉₉ F'₉₉ N'₉₉ Y'₉₉ B'₉₉ st'₉₉ X'₉₉ T'₉₉ lU₉₉
  (try dsimp only)
  k_fold
  k_cells Y'₉₉
  (try simp only [List.cons_append, List.nil_append] at N'₉₉)
  (try k_lt lU₉₉)
  replace hC₉₉ := CodeHd.keeps hC₉₉ st'₉₉
  clear F₉₉ st'₉₉))
  first | walk1 | trivial
section
set_option Elab.async false
set_option maxRecDepth 100000
set_option maxHeartbeats 8000000
set_option pp.deepTerms false
set_option pp.maxSteps 4000
theorem i2d_count {a : Int} (k : Nat) (h1 : a.natAbs < 2 ^ (9 * k)) (h2 : k = 0 ∨ 2 ^ (9 * (k - 1)) ≤ a.natAbs) : ((((PySem.Builtin.Int.intBits a : Nat) : Int) + 9 - 1).fdiv 9) = (k : Int) := by
  have b1 := PySem.intBits_le_iff.mpr h1
  have b2 : k = 0 ∨ 9 * (k - 1) < PySem.Builtin.Int.intBits a := by
    rcases h2 with h2 | h2
    · exact .inl h2
    · refine .inr (Nat.lt_of_not_le fun hc => ?_)
      have := PySem.intBits_le_iff.mp hc
      omega
  rw [Int.fdiv_eq_ediv_of_nonneg _ (by decide)]
  omega
/-- the digits of a at base 512, the lowest first -/
noncomputable def digs (a : Int) : List Int := if a = 0 then [] else if a < 512 then [a] else if a < 2 ^ 18 then [a % 512, a / 512] else [a % 512, a / 512 % 512, a / 512 / 512]
/-- a table that has grown: the code of the nested def stands in it -/
noncomputable def TabG (P : Addr) (l c : Nat) (qn : Str) (us : List (Addr × Obj)) : Prop := ∃ c' oc ovs tt, us = [(P, tabObj #[rawInt l, rawInt c, .ref c']), (c', oc)] ∧ oc.data = .fields ovs ∧ ovs[1]? = some (.str qn tt)
noncomputable def I2dPost (a : Int) (v : Value) (new us' : List (Addr × Obj)) : Prop := (∃ D vs c, IntsAre vs (digs a) ∧ v = .ref D ∧ new = [(D, listOf vs.toArray c)]) ∧ TabG 73 66 4 "_int2digits.<locals>.inner" us'
theorem i2d_end {a : Int} {h₀ g h h' : Heap} {L L' : Addr} {m m' : Str → Option Value} {rest us all : List (Addr × Obj)} {D : Addr} {s : Shared} {Q : Value → Shared → Prop} {tk' : Nat}
    (hret : ∀ v new us' h' tk', I2dPost a v new us' → Fr h₀ L h' m → News h₀ L h' (new ++ (us' ++ rest)) → (∀ p ∈ new, AllLt p.1 (us ++ rest)) → Q v { s with heap := h', toks := tk' })
    (N : News h₀ L h (us ++ rest)) (hoff : ∀ p ∈ rest, p.1 ∉ us.map (·.1)) (eg : ∀ b o, h.get? b = some o → b ∉ us.map (·.1) → g.get? b = some o) (eL : L' = h.objs.size) (F₁ : Fr g L' h' m') (F : Fr h₀ L h' m) (N' : News h₀ L h' all) {vs : List Value} {c c' : Nat} {oc : Obj} {ovs : Array Value} {tt : Tok}
    (hm : (D, listOf (List.toArray vs) c) ∈ all) (hm2 : (73, tabObj #[rawInt (66 : Nat), rawInt (4 : Nat), .ref c']) ∈ all) (hm3 : (c', oc) ∈ all) (hd : oc.data = .fields ovs) (hv : ovs[1]? = some (.str "_int2digits.<locals>.inner" tt)) (hD : L' ≤ D) (hi : IntsAre vs (digs a)) : Q (.ref D) { s with heap := h', toks := tk' } :=
  specT_end hret N hoff eg eL F₁ F N' [(D, listOf vs.toArray c)] [(73, tabObj #[rawInt (66 : Nat), rawInt (4 : Nat), .ref c']), (c', oc)] (fun p hp => by rw [List.mem_singleton.mp hp]; exact hm)
    (fun p hp => by
      rcases List.mem_cons.mp hp with rfl | hp
      · exact hm2
      · rw [List.mem_singleton.mp hp]; exact hm3) (fun q hq => by rw [List.mem_singleton.mp hq]; exact hD) ⟨⟨D, vs, c, hi, rfl, rfl⟩, c', oc, ovs, tt, rfl, hd, hv⟩
theorem leN {a b : Nat} (h : a ≤ b) : a ≤ b := h
theorem digs0 : digs 0 = [] := rfl
theorem digs1 {a : Int} (h1 : 1 ≤ a) (h2 : a < 512) : digs a = [a] := by
  unfold digs
  rw [if_neg (by omega), if_pos h2]
theorem digs2 {a : Int} (h1 : 512 ≤ a) (h2 : a < 2 ^ 18) {x y : Int} (hx : x = Builtin.bitXor a (a.fdiv 512 * 512)) (hy : y = a.fdiv 512) : digs a = [x, y] := by
  rw [hx, hy, xor_split (by omega), Int.fdiv_eq_ediv_of_nonneg _ (by decide)]
  unfold digs
  rw [if_neg (by omega), if_neg (by omega), if_pos h2]
theorem digs3 {a : Int} (h1 : 2 ^ 18 ≤ a) {x y z : Int} (hx : x = Builtin.bitXor a (a.fdiv 512 * 512)) (hy : y = Builtin.bitXor (a.fdiv 512) ((a.fdiv 512).fdiv 512 * 512)) (hz : z = (a.fdiv 512).fdiv 512) : digs a = [x, y, z] := by
  have h0 : a.fdiv 512 = a / 512 := Int.fdiv_eq_ediv_of_nonneg _ (by decide)
  rw [hx, hy, hz, xor_split (by omega), h0, xor_split (by omega), Int.fdiv_eq_ediv_of_nonneg _ (by decide)]
  unfold digs
  rw [if_neg (by omega), if_neg (by omega), if_neg (by omega)]
noncomputable def i2dIn : Arguments × List Stmt × Scope := stParts (fnSt 10 1)
noncomputable def i2dFn (cN cI cA : Addr) (doc pm : Value) (c' : Addr) (ct : Value) : Obj := fnMade "inner" "_int2digits.<locals>.inner" i2dIn.1 i2dIn.2.1 i2dIn.2.2 [("n", cN), ("inner", cI), ("a_digits", cA)] doc pm c' ct
noncomputable def i2dUs (fI c' cI cN cA D : Addr) (oc oI oN oA : Obj) (doc pm ct : Value) (vs : List Value) (c : Nat) : List (Addr × Obj) := [(fI, i2dFn cN cI cA doc pm c' ct), (c', oc), (cI, oI), (cN, oN), (cA, oA), (D, listOf vs.toArray c)]
/-- the list's address differs from the other objects' -/
noncomputable def I2off (fI c' cI cN cA D : Addr) : Prop := @Ne Nat fI D ∧ @Ne Nat c' D ∧ @Ne Nat cI D ∧ @Ne Nat cN D ∧ @Ne Nat cA D
theorem i2in_end {fI c' cI cN cA D : Addr} {oc oI oN oA : Obj} {doc pm ct : Value} {xs : List Int} {h₀ g h h' : Heap} {L L' : Addr} {m m' : Str → Option Value} {rest us all : List (Addr × Obj)} {s : Shared} {Q : Value → Shared → Prop} {tk' : Nat} {vs : List Value} {c : Nat}
    (hret : ∀ v new us' h' tk', (fun v new us' => v = .none ∧ new = [] ∧ ∃ vs' c'', us' = i2dUs fI c' cI cN cA D oc oI oN oA doc pm ct vs' c'' ∧ IntsAre vs' xs) v new us' → Fr h₀ L h' m → News h₀ L h' (new ++ (us' ++ rest)) → (∀ p ∈ new, AllLt p.1 (us ++ rest)) → Q v { s with heap := h', toks := tk' })
    (N : News h₀ L h (us ++ rest)) (hoff : ∀ p ∈ rest, p.1 ∉ us.map (·.1)) (eg : ∀ b o, h.get? b = some o → b ∉ us.map (·.1) → g.get? b = some o) (eL : L' = h.objs.size) (F₁ : Fr g L' h' m') (F : Fr h₀ L h' m) (N' : News h₀ L h' all) (hm : ∀ p ∈ i2dUs fI c' cI cN cA D oc oI oN oA doc pm ct vs c, p ∈ all) (hi : IntsAre vs xs) : Q .none { s with heap := h', toks := tk' } :=
  specT_end hret N hoff eg eL F₁ F N' [] (i2dUs fI c' cI cN cA D oc oI oN oA doc pm ct vs c) (fun _ h => nomatch h) hm (fun _ h => nomatch h) ⟨rfl, rfl, vs, c, rfl, hi⟩
theorem reg_N2_25 : True := by
  (k_with "eval Name" => (k_here; k_dflt (refine' nameX_F ?N ?c ?m ?d ?_ ?a ?b; (case a => rfl); (case b => rfl); (case N => k_asm); (case c => rfl); (case m => k_mem); (case d => assumption); k_whole)))
  trivial
theorem reg_N2_26 : True := by
  (k_with "storeName" => (k_here; dsimp only; (try (rename Int.fdiv (_ + _) _ = _ => e3₉₉; simp only [e3₉₉])); (try (rename _ * _ = (9 : Int) => e4₉₉; simp only [e4₉₉])); (try (rename Int.fdiv _ (_ ^ Int.toNat 9) = _ => e5₉₉; simp only [e5₉₉])); (try (rename Builtin.bitXor _ _ = _ => e6₉₉; simp only [e6₉₉])); (try (refine wp_storeInt ?_; intro t9₉₉))))
  trivial
theorem reg_N2_27 : True := by
  (k_with "callWith ref" => (k_here; k_dflt (refine' callWith_F ?k1 ?_; (case k1 => exact FnAt.of (by k_asm) (by k_mem)); k_whole)))
  trivial
noncomputable def i2d_leaf_S (w : World) (fI : Addr) (c' : Addr) (cI : Addr) (cN : Addr) (cA : Addr) (D : Addr) (oc : Obj) (oI : Obj) (oN : Obj) (oA : Obj) (doc : Value) (pm : Value) (ct : Value) (vs : List Value) (c : Nat) (ovs : Array Value) (tt : Tok) (tn : Tok) (tx : Tok) (ti : Tok) (tr : Tok) (xs : List Int) (x : Int) (i : Int) : Prop :=
  ∀ (hod : oc.data = .fields ovs) (hov : ovs[1]? = some (.str "_int2digits.<locals>.inner" tt)) (dI : oI.data = .cell (some (.ref fI))) (dN : oN.data = .cell (some (.int 9 tn))) (dA : oA.data = .cell (some (.ref D))) (hne : I2off fI c' cI cN cA D) (hi : IntsAre vs xs) (h0 : 0 ≤ i) (h1 : i < xs.length) (h2 : i ≤ 2),
    SpecT w fI [.int x tx, .int i ti, .int (i + 1) tr] 1 (i2dUs fI c' cI cN cA D oc oI oN oA doc pm ct vs c) (fun _ => True) (fun v new us' => v = .none ∧ new = [] ∧ ∃ vs' c'', us' = i2dUs fI c' cI cN cA D oc oI oN oA doc pm ct vs' c'' ∧ IntsAre vs' (xs.set i.toNat x))
theorem i2d_leaf {w : World} {fI : Addr} {c' : Addr} {cI : Addr} {cN : Addr} {cA : Addr} {D : Addr} {oc : Obj} {oI : Obj} {oN : Obj} {oA : Obj} {doc : Value} {pm : Value} {ct : Value} {vs : List Value} {c : Nat} {ovs : Array Value} {tt : Tok} {tn : Tok} {tx : Tok} {ti : Tok} {tr : Tok} {xs : List Int} {x : Int} {i : Int} : i2d_leaf_S w fI c' cI cN cA D oc oI oN oA doc pm ct vs c ovs tt tn tx ti tr xs x i := by
  refine eps_all (fun x : Sv => i2d_leaf_S x.w (x.ad 0) (x.ad 1) (x.ad 2) (x.ad 3) (x.ad 4) (x.ad 5) (x.ob 0) (x.ob 1) (x.ob 2) (x.ob 3) (x.val 0) (x.val 1) (x.val 2) (x.vl 0) (x.nat 0) (x.va 0) (x.tok 0) (x.tok 1) (x.tok 2) (x.tok 3) (x.tok 4) (x.il 0) (x.int 0) (x.int 1)) ?_ (Sv.mk w (default) ([]) (fun _ => none) (fun _ => {}) (fun _ => c) (fun i9 => [x, i].getD i9 x) (fun i9 => [fI, c', cI, cN, cA, D].getD i9 fI) (fun i9 => [tt, tn, tx, ti, tr].getD i9 tt) (fun i9 => [doc, pm, ct].getD i9 doc) (fun i9 => [oc, oI, oN, oA].getD i9 oc) (fun _ => vs) (fun _ => ovs) (fun _ => xs) (fun _ => []) (fun _ => fun _ => none) (fun _ => {}) (fun _ => "") (fun _ => fun _ => "") (fun _ => none) (fun _ => #[]) (fun _ => none) (fun _ => default) (fun _ => none) (fun _ => []) (fun _ => []) (fun _ => {}) (fun _ => true) (fun _ _ => True) (fun _ => fun _ _ => True))
  clear i x xs tr ti tx tn tt ovs c vs ct pm doc oA oN oI oc D cA cN cI c' fI w
  refine (?_ : ∀ (w : World) (fI : Addr) (c' : Addr) (cI : Addr) (cN : Addr) (cA : Addr) (D : Addr) (oc : Obj) (oI : Obj) (oN : Obj) (oA : Obj) (doc : Value) (pm : Value) (ct : Value) (vs : List Value) (c : Nat) (ovs : Array Value) (tt : Tok) (tn : Tok) (tx : Tok) (ti : Tok) (tr : Tok) (xs : List Int) (x : Int) (i : Int), i2d_leaf_S w fI c' cI cN cA D oc oI oN oA doc pm ct vs c ovs tt tn tx ti tr xs x i) _ _ _ _ _ _ _ _ _ _ _ _ _ _ _ _ _ _ _ _ _ _ _ _ _
  intro w fI c' cI cN cA D oc oI oN oA doc pm ct vs c ovs tt tn tx ti tr xs x i hod hov dI dN dA hne hi h0 h1 h2
  unfold I2off at hne
  unfold i2dUs i2dFn
  generalize hS : i2dIn = S
  (conv at hS => lhs; whnf)
  subst hS
  dsimp only
  (k_with "binds" => exact BindsTo.of_eq (binds := [("x", .int x tx), ("L", .int i ti), ("R", .int (i + 1) tr)]) (by with_unfolding_all rfl))
  walk_at "ENTERG"
  iterate 14 walk_at "GO1"
  all_goals (first | (exfalso; omega; done) | skip)
  walk_at "GO"
  (rename IntsAre (List.set _ _ _) _ => hi9)
  exact i2in_end (by assumption) (by assumption) (by assumption) (by assumption) (by assumption) (by assumption) (by assumption) (by assumption) (fun _ h => h) hi9
noncomputable def i2d_rec_S (w : World) (fI : Addr) (c' : Addr) (cI : Addr) (cN : Addr) (cA : Addr) (D : Addr) (oc : Obj) (oI : Obj) (oN : Obj) (oA : Obj) (doc : Value) (pm : Value) (ct : Value) (vs : List Value) (c : Nat) (ovs : Array Value) (tt : Tok) (tn : Tok) (tx : Tok) (ti : Tok) (tr : Tok) (xs : List Int) (n : Nat) (x : Int) (lo : Int) (hi : Int) (i : Int) (k2 : Int) (xs1 : List Int) (xs2 : List Int) : Prop :=
  ∀ (hn : n ≤ 3) (hod : oc.data = .fields ovs) (hov : ovs[1]? = some (.str "_int2digits.<locals>.inner" tt)) (dI : oI.data = .cell (some (.ref fI))) (dN : oN.data = .cell (some (.int 9 tn))) (dA : oA.data = .cell (some (.ref D))) (hne : I2off fI c' cI cN cA D) (hi0 : IntsAre vs xs) (h0 : 0 ≤ i) (h2 : i ≤ 2) (hk : k2 = 1 ∨ k2 = 2) (hx : 0 ≤ x ∧ x < 2 ^ 27) (hhi : hi = x / 512) (hlo : lo = x % 512) (S1 : ∀ vs c t t' t'', IntsAre vs xs → SpecT w fI [.int lo t, .int i t', .int (i + 1) t''] n (i2dUs fI c' cI cN cA D oc oI oN oA doc pm ct vs c) (fun _ => True) (fun v new us' => v = .none ∧ new = [] ∧ ∃ vs' c'', us' = i2dUs fI c' cI cN cA D oc oI oN oA doc pm ct vs' c'' ∧ IntsAre vs' xs1)) (S2 : ∀ vs c t t' t'', IntsAre vs xs1 → SpecT w fI [.int hi t, .int (i + 1) t', .int (i + 1 + k2) t''] n (i2dUs fI c' cI cN cA D oc oI oN oA doc pm ct vs c) (fun _ => True) (fun v new us' => v = .none ∧ new = [] ∧ ∃ vs' c'', us' = i2dUs fI c' cI cN cA D oc oI oN oA doc pm ct vs' c'' ∧ IntsAre vs' xs2)),
    SpecT w fI [.int x tx, .int i ti, .int (i + 1 + k2) tr] (n + 1) (i2dUs fI c' cI cN cA D oc oI oN oA doc pm ct vs c) (fun _ => True) (fun v new us' => v = .none ∧ new = [] ∧ ∃ vs' c'', us' = i2dUs fI c' cI cN cA D oc oI oN oA doc pm ct vs' c'' ∧ IntsAre vs' xs2)
theorem i2d_rec {w : World} {fI : Addr} {c' : Addr} {cI : Addr} {cN : Addr} {cA : Addr} {D : Addr} {oc : Obj} {oI : Obj} {oN : Obj} {oA : Obj} {doc : Value} {pm : Value} {ct : Value} {vs : List Value} {c : Nat} {ovs : Array Value} {tt : Tok} {tn : Tok} {tx : Tok} {ti : Tok} {tr : Tok} {xs : List Int} {n : Nat} {x : Int} {lo : Int} {hi : Int} {i : Int} {k2 : Int} {xs1 : List Int} {xs2 : List Int} : i2d_rec_S w fI c' cI cN cA D oc oI oN oA doc pm ct vs c ovs tt tn tx ti tr xs n x lo hi i k2 xs1 xs2 := by
  refine eps_all (fun x : Sv => i2d_rec_S x.w (x.ad 0) (x.ad 1) (x.ad 2) (x.ad 3) (x.ad 4) (x.ad 5) (x.ob 0) (x.ob 1) (x.ob 2) (x.ob 3) (x.val 0) (x.val 1) (x.val 2) (x.vl 0) (x.nat 0) (x.va 0) (x.tok 0) (x.tok 1) (x.tok 2) (x.tok 3) (x.tok 4) (x.il 0) (x.nat 1) (x.int 0) (x.int 1) (x.int 2) (x.int 3) (x.int 4) (x.il 1) (x.il 2)) ?_ (Sv.mk w (default) ([]) (fun _ => none) (fun _ => {}) (fun i9 => [c, n].getD i9 c) (fun i9 => [x, lo, hi, i, k2].getD i9 x) (fun i9 => [fI, c', cI, cN, cA, D].getD i9 fI) (fun i9 => [tt, tn, tx, ti, tr].getD i9 tt) (fun i9 => [doc, pm, ct].getD i9 doc) (fun i9 => [oc, oI, oN, oA].getD i9 oc) (fun _ => vs) (fun _ => ovs) (fun i9 => [xs, xs1, xs2].getD i9 xs) (fun _ => []) (fun _ => fun _ => none) (fun _ => {}) (fun _ => "") (fun _ => fun _ => "") (fun _ => none) (fun _ => #[]) (fun _ => none) (fun _ => default) (fun _ => none) (fun _ => []) (fun _ => []) (fun _ => {}) (fun _ => true) (fun _ _ => True) (fun _ => fun _ _ => True))
  clear xs2 xs1 k2 i hi lo x n xs tr ti tx tn tt ovs c vs ct pm doc oA oN oI oc D cA cN cI c' fI w
  refine (?_ : ∀ (w : World) (fI : Addr) (c' : Addr) (cI : Addr) (cN : Addr) (cA : Addr) (D : Addr) (oc : Obj) (oI : Obj) (oN : Obj) (oA : Obj) (doc : Value) (pm : Value) (ct : Value) (vs : List Value) (c : Nat) (ovs : Array Value) (tt : Tok) (tn : Tok) (tx : Tok) (ti : Tok) (tr : Tok) (xs : List Int) (n : Nat) (x : Int) (lo : Int) (hi : Int) (i : Int) (k2 : Int) (xs1 : List Int) (xs2 : List Int), i2d_rec_S w fI c' cI cN cA D oc oI oN oA doc pm ct vs c ovs tt tn tx ti tr xs n x lo hi i k2 xs1 xs2) _ _ _ _ _ _ _ _ _ _ _ _ _ _ _ _ _ _ _ _ _ _ _ _ _ _ _ _ _ _ _
  intro w fI c' cI cN cA D oc oI oN oA doc pm ct vs c ovs tt tn tx ti tr xs n x lo hi i k2 xs1 xs2 hn hod hov dI dN dA hne hi0 h0 h2 hk hx hhi hlo S1 S2
  have e3 : (i + (i + 1 + k2)).fdiv (2 ^ Int.toNat 1) = i + 1 := by
    rw [show (2 : Int) ^ Int.toNat 1 = 2 from rfl, Int.fdiv_eq_ediv_of_nonneg _ (by decide)]
    omega
  have e4 : (i + 1 - i) * 9 = (9 : Int) := by omega
  have e5 : x.fdiv (2 ^ Int.toNat 9) = hi := by
    rw [hhi, show (2 : Int) ^ Int.toNat 9 = 512 from rfl, Int.fdiv_eq_ediv_of_nonneg _ (by decide)]
  have e6 : Builtin.bitXor x (hi * 2 ^ Int.toNat 9) = lo := by
    rw [← e5, show (2 : Int) ^ Int.toNat 9 = 512 from rfl, xor_split hx.1, hlo]
  have hb : 0 ≤ hi ∧ hi < 2 ^ 18 := by omega
  unfold i2dUs i2dFn at *
  generalize hS : i2dIn = S at *
  (conv at hS => lhs; whnf)
  subst hS
  dsimp only at *
  (k_with "binds" => exact BindsTo.of_eq (binds := [("x", .int x tx), ("L", .int i ti), ("R", .int (i + 1 + k2) tr)]) (by with_unfolding_all rfl))
  walk_at "ENTERG"
  iterate 12 walk_at "GO1"
  all_goals (first | (exfalso; omega; done) | skip)
  walk_at "GO"
  k_dflt (refine' SpecT.use (S1 _ _ _ _ _ hi0) [] ?k1 ?k2 ?k3 ?k4 ?k5 ?kK ?kd ?ku ?kus ?ko ?kc ?_; (case k1 => k_asm); (case k2 => k_asm); (case k3 => k_asm); (case k4 => k_asm); (case k5 => k_asm); (case kK => first | exact rfl | assumption); (case kd => ktr_room); (case ku => ktr_units); (case kus => first | exact (fun _ h => h) | kcj_all); (case ko => exact fun _ h => nomatch h); (case kc => trivial))
  rintro v1 new1 us1 h1 tk1 ⟨rfl, rfl, vs1, c1, rfl, hi1⟩ F1 N1 l1
  clear l1
  dsimp only [List.append_nil, List.nil_append, List.cons_append] at N1
  walk_at "GO"
  k_dflt (refine' SpecT.use (S2 _ _ _ _ _ hi1) [] ?k1 ?k2 ?k3 ?k4 ?k5 ?kK ?kd ?ku ?kus ?ko ?kc ?_; (case k1 => k_asm); (case k2 => k_asm); (case k3 => k_asm); (case k4 => k_asm); (case k5 => k_asm); (case kK => first | exact rfl | assumption); (case kd => ktr_room); (case ku => ktr_units); (case kus => first | exact (fun _ h => h) | kcj_all); (case ko => exact fun _ h => nomatch h); (case kc => trivial))
  rintro v2 new2 us2 h2' tk2 ⟨rfl, rfl, vs2, c2, rfl, hi2⟩ F2 N2 l2
  clear l2
  dsimp only [List.append_nil, List.nil_append, List.cons_append] at N2
  walk_at "GO"
  exact i2in_end (by assumption) (by assumption) (by assumption) (by assumption) (by assumption) (by assumption) (by assumption) (by assumption) (fun _ h => h) hi2
theorem SpecT.up {w : World} {f : Addr} {vs : List Value} {n n' : Nat} {us : List (Addr × Obj)} {C : Heap → Prop} {post : Value → List (Addr × Obj) → List (Addr × Obj) → Prop} (S : SpecT w f vs n us C post) (h : n ≤ n') : SpecT w f vs n' us C post := by
  intro p loose mean mg mb dp un gd cn cs a ccd cl outer A₀ base h₀ L m rest s Q E B F X N T hk hd hu hoff hC hret
  exact S p loose mean mg mb dp un gd cn cs a ccd cl outer A₀ base h₀ L m rest s Q E B F X N T hk (by omega) (by omega) hoff hC hret
theorem digs_len {a : Int} : (digs a).length ≤ 3 := by
  unfold digs
  split <;> (try split) <;> (try split) <;> simp
theorem digs_pos {a : Int} (h : 1 ≤ a) : 1 ≤ (digs a).length := by
  unfold digs
  rw [if_neg (by omega)]
  split <;> (try split) <;> simp
theorem digs_in {a : Int} (h0 : 0 ≤ a) (h1 : a < 2 ^ 26) : ∀ x ∈ digs a, 0 ≤ x ∧ x < 512 := by
  unfold digs
  split
  · intro x hx; cases hx
  split
  · intro x hx; rw [List.mem_singleton.mp hx]; omega
  split
  · intro x hx
    simp only [List.mem_cons, List.not_mem_nil, or_false] at hx
    omega
  · intro x hx
    simp only [List.mem_cons, List.not_mem_nil, or_false] at hx
    omega
theorem i2d_in {w : World} {fI c' cI cN cA D : Addr} {oc oI oN oA : Obj} {doc pm ct : Value} {vs : List Value} {c : Nat} {ovs : Array Value} {tt tn tx ti tr : Tok} {xs : List Int} {a : Int} (hod : oc.data = .fields ovs) (hov : ovs[1]? = some (.str "_int2digits.<locals>.inner" tt)) (dI : oI.data = .cell (some (.ref fI))) (dN : oN.data = .cell (some (.int 9 tn))) (dA : oA.data = .cell (some (.ref D))) (hne : I2off fI c' cI cN cA D) (hi : IntsAre vs xs) (h1 : 1 ≤ a) (h2 : a < 2 ^ 26) (hl : xs.length = (digs a).length) :
    SpecT w fI [.int a tx, .int 0 ti, .int (xs.length : Int) tr] 4 (i2dUs fI c' cI cN cA D oc oI oN oA doc pm ct vs c) (fun _ => True) (fun v new us' => v = .none ∧ new = [] ∧ ∃ vs' c'', us' = i2dUs fI c' cI cN cA D oc oI oN oA doc pm ct vs' c'' ∧ IntsAre vs' (digs a)) := by
  have leaf : ∀ (xs : List Int) (x i : Int), 0 ≤ i → i ≤ 2 → i < xs.length → ∀ vs c t t' t'', IntsAre vs xs → SpecT w fI [.int x t, .int i t', .int (i + 1) t''] 2 (i2dUs fI c' cI cN cA D oc oI oN oA doc pm ct vs c) (fun _ => True) (fun v new us' => v = .none ∧ new = [] ∧ ∃ vs' c'', us' = i2dUs fI c' cI cN cA D oc oI oN oA doc pm ct vs' c'' ∧ IntsAre vs' (xs.set i.toNat x)) :=
    fun xs x i h0 h2 hl vs c t t' t'' hi => (i2d_leaf hod hov dI dN dA hne hi h0 hl h2).up (by omega)
  rcases xs with _ | ⟨x, _ | ⟨y, _ | ⟨z, _ | ⟨u, us⟩⟩⟩⟩
  · have := digs_pos h1
    rw [← hl] at this
    cases this
  · have e : digs a = [a] := by
      unfold digs at hl ⊢
      rw [if_neg (by omega)] at hl ⊢
      by_cases q : a < 512
      · rw [if_pos q]
      · rw [if_neg q] at hl
        split at hl <;> cases hl
    rw [e]
    exact (leaf [x] a 0 (by omega) (by omega) (by simp only [List.length_cons, List.length_nil]; omega) vs c tx ti tr hi).up (by omega)
  · have e : digs a = [a % 512, a / 512] := by
      unfold digs at hl ⊢
      rw [if_neg (by omega)] at hl ⊢
      by_cases q : a < 512
      · rw [if_pos q] at hl; cases hl
      · rw [if_neg q] at hl ⊢
        by_cases r : a < 2 ^ 18
        · rw [if_pos r]
        · rw [if_neg r] at hl; cases hl
    rw [e]
    exact (i2d_rec (n := 2) (i := 0) (k2 := 1) (x := a) (lo := a % 512) (hi := a / 512) (xs1 := [a % 512, y]) (xs2 := [a % 512, a / 512]) (by omega) hod hov dI dN dA hne hi (by omega) (by omega) (.inl rfl) (by omega) rfl rfl
      (fun vs c t t' t'' h => leaf [x, y] (a % 512) 0 (by omega) (by omega) (by simp only [List.length_cons, List.length_nil]; omega) vs c t t' t'' h)
      (fun vs c t t' t'' h => leaf [a % 512, y] (a / 512) 1 (by omega) (by omega) (by simp only [List.length_cons, List.length_nil]; omega) vs c t t' t'' h)).up (by omega)
  · have e : digs a = [a % 512, a / 512 % 512, a / 512 / 512] := by
      unfold digs at hl ⊢
      rw [if_neg (by omega)] at hl ⊢
      by_cases q : a < 512
      · rw [if_pos q] at hl; cases hl
      · rw [if_neg q] at hl ⊢
        by_cases r : a < 2 ^ 18
        · rw [if_pos r] at hl; cases hl
        · rw [if_neg r]
    rw [e]
    exact i2d_rec (n := 3) (i := 0) (k2 := 2) (x := a) (lo := a % 512) (hi := a / 512) (xs1 := [a % 512, y, z]) (xs2 := [a % 512, a / 512 % 512, a / 512 / 512]) (by omega) hod hov dI dN dA hne hi (by omega) (by omega) (.inr rfl) (by omega) rfl rfl
      (fun vs c t t' t'' h => (leaf [x, y, z] (a % 512) 0 (by omega) (by omega) (by simp only [List.length_cons, List.length_nil]; omega) vs c t t' t'' h).up (by omega))
      (fun vs c t t' t'' h => i2d_rec (n := 2) (i := 1) (k2 := 1) (x := a / 512) (lo := a / 512 % 512) (hi := a / 512 / 512) (xs1 := [a % 512, a / 512 % 512, z]) (xs2 := [a % 512, a / 512 % 512, a / 512 / 512]) (by omega) hod hov dI dN dA hne h (by omega) (by omega) (.inl rfl) (by omega) rfl rfl
        (fun vs c t t' t'' h => leaf [a % 512, y, z] (a / 512 % 512) 1 (by omega) (by omega) (by simp only [List.length_cons, List.length_nil]; omega) vs c t t' t'' h)
        (fun vs c t t' t'' h => leaf [a % 512, a / 512 % 512, z] (a / 512 / 512) 2 (by omega) (by omega) (by simp only [List.length_cons, List.length_nil]; omega) vs c t t' t'' h))
  · have := digs_len (a := a)
    rw [← hl] at this
    simp only [List.length_cons] at this
    omega
noncomputable def i2d_tail_S (w : World) (p : Program) (loose : List Str) (mean : ExcName → Option Value) (mg : Str → Option Value) (mb : Str → Option Value) (dp : Nat) (un : Nat) (gd : Option (List Code)) (cn : Str) (cs : Scope) (L : Addr) (b : Addr) (ccd : Value) (cl : List (Str × Addr)) (outer : List Env) (base : Heap) (g : Heap) (L' : Addr) (s : Shared) (Q : Flow → Shared → Prop) (E : Value → Shared → Prop) (fI : Addr) (c' : Addr) (D : Addr) (oc : Obj) (oI : Obj) (oN : Obj) (oA : Obj) (tb : Obj) (doc : Value) (pm : Value) (ct : Value) (vs : List Value) (c : Nat) (ovs : Array Value) (tt : Tok) (tn : Tok) (ta : Tok) (tu : Tok) (xs : List Int) (a : Int) : Prop :=
  ∀ (hod : oc.data = .fields ovs) (hov : ovs[1]? = some (.str "_int2digits.<locals>.inner" tt)) (dI : oI.data = .cell (some (.ref fI))) (dN : oN.data = .cell (some (.int 9 tn))) (dA : oA.data = .cell (some (.ref D))) (hne : I2off fI c' (L' + 1 + 1 + 1) (L' + 1) (L' + 1 + 1) D) (hi : IntsAre vs xs) (ha : 0 ≤ a) (ha2 : a < 2 ^ 26) (hl : xs.length = (digs a).length) (h73 : ∀ p ∈ [((73 : Addr), tb)], p.1 ∉ (i2dUs fI c' (L' + 1 + 1 + 1) (L' + 1) (L' + 1 + 1) D oc oI oN oA doc pm ct vs c).map (·.1)) (B : Below (ktrTop dp un gd cn cs L b ccd cl outer) base (envX cn cs L b ccd cl :: outer) g) (F : Fr g L' s.heap (bindL (envOfC "_int2digits" (fnParts 10).2.2 L' 78 (.ref 77)).kindOf [("a", .int a ta), ("n", .int 9 tu)] fun _ => none)) (X : (hd.heap_39 w.params).In g) (T : Top p loose mean mg mb g) (N : News g L' s.heap (i2dUs fI c' (L' + 1 + 1 + 1) (L' + 1) (L' + 1 + 1) D oc oI oN oA doc pm ct vs c ++ [(73, tb)])) (hk : cs.kind = .function) (hd : dp + 6 < recursionLimit) (hu : un + 8 * 6 < cLine) (hret : ∀ h' tk' vs' c1, IntsAre vs' (digs a) → Fr g L' h' (bindL (envOfC "_int2digits" (fnParts 10).2.2 L' 78 (.ref 77)).kindOf [("a", .int a ta), ("n", .int 9 tu)] fun _ => none) → News g L' h' (i2dUs fI c' (L' + 1 + 1 + 1) (L' + 1) (L' + 1 + 1) D oc oI oN oA doc pm ct vs' c1 ++ [(73, tb)]) → Q (.ret (.ref D)) { s with heap := h', toks := tk' }),
    wpAny (model PySem.Challenge.rw_zo0033_01.row.prog w) ((ktrTop dp un gd cn cs L b ccd cl outer).deeper (envOfC "_int2digits" (fnParts 10).2.2 L' 78 (.ref 77))) (execs [fnSt 10 2, fnSt 10 3] (envOfC "_int2digits" (fnParts 10).2.2 L' 78 (.ref 77))) Q E s
theorem i2d_tail {w : World} {p : Program} {loose : List Str} {mean : ExcName → Option Value} {mg : Str → Option Value} {mb : Str → Option Value} {dp : Nat} {un : Nat} {gd : Option (List Code)} {cn : Str} {cs : Scope} {L : Addr} {b : Addr} {ccd : Value} {cl : List (Str × Addr)} {outer : List Env} {base : Heap} {g : Heap} {L' : Addr} {s : Shared} {Q : Flow → Shared → Prop} {E : Value → Shared → Prop} {fI : Addr} {c' : Addr} {D : Addr} {oc : Obj} {oI : Obj} {oN : Obj} {oA : Obj} {tb : Obj} {doc : Value} {pm : Value} {ct : Value} {vs : List Value} {c : Nat} {ovs : Array Value} {tt : Tok} {tn : Tok} {ta : Tok} {tu : Tok} {xs : List Int} {a : Int} : i2d_tail_S w p loose mean mg mb dp un gd cn cs L b ccd cl outer base g L' s Q E fI c' D oc oI oN oA tb doc pm ct vs c ovs tt tn ta tu xs a := by
  refine eps_all (fun x : Sv => i2d_tail_S x.w x.p x.loose x.mean (x.mf 0) (x.mf 1) (x.nat 0) (x.nat 1) (x.oc 0) (x.str 0) (x.sc 0) (x.ad 0) (x.ad 1) (x.val 0) (x.cl 0) (x.env 0) (x.hp 0) (x.hp 1) (x.ad 2) (x.sh 0) x.qf (x.qv 0) (x.ad 3) (x.ad 4) (x.ad 5) (x.ob 0) (x.ob 1) (x.ob 2) (x.ob 3) (x.ob 4) (x.val 1) (x.val 2) (x.val 3) (x.vl 0) (x.nat 2) (x.va 0) (x.tok 0) (x.tok 1) (x.tok 2) (x.tok 3) (x.il 0) (x.int 0)) ?_ (Sv.mk w p loose mean (fun i9 => [base, g].getD i9 base) (fun i9 => [dp, un, c].getD i9 dp) (fun _ => a) (fun i9 => [L, b, L', fI, c', D].getD i9 L) (fun i9 => [tt, tn, ta, tu].getD i9 tt) (fun i9 => [ccd, doc, pm, ct].getD i9 ccd) (fun i9 => [oc, oI, oN, oA, tb].getD i9 oc) (fun _ => vs) (fun _ => ovs) (fun _ => xs) (fun _ => []) (fun i9 => [mg, mb].getD i9 mg) (fun _ => s) (fun _ => cn) (fun _ => fun _ => "") (fun _ => none) (fun _ => #[]) (fun _ => none) (fun _ => cs) (fun _ => gd) (fun _ => cl) (fun _ => outer) (fun _ => {}) (fun _ => true) Q (fun _ => E))
  clear a xs tu ta tn tt ovs c vs ct pm doc tb oA oN oI oc D c' fI E Q s L' g base outer cl ccd b L cs cn gd un dp mb mg mean loose p w
  refine (?_ : ∀ (w : World) (p : Program) (loose : List Str) (mean : ExcName → Option Value) (mg : Str → Option Value) (mb : Str → Option Value) (dp : Nat) (un : Nat) (gd : Option (List Code)) (cn : Str) (cs : Scope) (L : Addr) (b : Addr) (ccd : Value) (cl : List (Str × Addr)) (outer : List Env) (base : Heap) (g : Heap) (L' : Addr) (s : Shared) (Q : Flow → Shared → Prop) (E : Value → Shared → Prop) (fI : Addr) (c' : Addr) (D : Addr) (oc : Obj) (oI : Obj) (oN : Obj) (oA : Obj) (tb : Obj) (doc : Value) (pm : Value) (ct : Value) (vs : List Value) (c : Nat) (ovs : Array Value) (tt : Tok) (tn : Tok) (ta : Tok) (tu : Tok) (xs : List Int) (a : Int), i2d_tail_S w p loose mean mg mb dp un gd cn cs L b ccd cl outer base g L' s Q E fI c' D oc oI oN oA tb doc pm ct vs c ovs tt tn ta tu xs a) _ _ _ _ _ _ _ _ _ _ _ _ _ _ _ _ _ _ _ _ _ _ _ _ _ _ _ _ _ _ _ _ _ _ _ _ _ _ _ _ _ _
  intro w p loose mean mg mb dp un gd cn cs L b ccd cl outer base g L' s Q E fI c' D oc oI oN oA tb doc pm ct vs c ovs tt tn ta tu xs a hod hov dI dN dA hne hi ha ha2 hl h73 B F X T N hk hd hu hret
  have S := fun h1 tx ti tr => i2d_in (w := w) (fI := fI) (c' := c') (cI := L' + 1 + 1 + 1) (cN := L' + 1) (cA := L' + 1 + 1) (D := D) (oc := oc) (oI := oI) (oN := oN) (oA := oA) (doc := doc) (pm := pm) (ct := ct) (vs := vs) (c := c) (tx := tx) (ti := ti) (tr := tr) hod hov dI dN dA hne hi h1 ha2 hl
  have h3 : xs.length ≤ 3 := hl ▸ digs_len
  revert X; k_fill; intro X
  unfold I2off at hne
  unfold i2dUs i2dFn at *
  generalize hS : i2dIn = S at *
  (conv at hS => lhs; whnf)
  subst hS
  generalize hS : fnParts 10 = S at *
  (conv at hS => lhs; whnf)
  subst hS
  generalize hS : fnSt 10 2 = S
  (conv at hS => lhs; whnf)
  subst hS
  generalize hS : fnSt 10 3 = S
  (conv at hS => lhs; whnf)
  subst hS
  dsimp only [List.cons_append, List.nil_append] at *
  by_cases he : a = 0
  · subst he
    have hx : xs = [] := List.length_eq_zero_iff.mp hl
    rw [hx] at hi
    walk_at "GO"
    dsimp only
    exact hret _ _ _ _ hi F N
  have h1 : 1 ≤ a := by omega
  walk_at "GO"
  all_goals (first | (exfalso; omega; done) | skip)
  k_dflt (refine' SpecT.use (S h1 _ _ _) [((73 : Addr), tb)] ?k1 ?k2 ?k3 ?k4 ?k5 ?kK ?kd ?ku ?kus ?ko ?kc ?_; (case k1 => k_asm); (case k2 => k_asm); (case k3 => k_asm); (case k4 => k_asm); (case k5 => k_asm); (case kK => first | exact rfl | assumption); (case kd => ktr_room); (case ku => ktr_units); (case kus => first | exact (fun _ h => h) | kcj_all); (case ko => assumption); (case kc => trivial))
  rintro v1 new1 us1 h1' tk1 ⟨rfl, rfl, vs1, c1, rfl, hi1⟩ F1 N1 l1
  clear l1
  dsimp only [List.append_nil, List.nil_append, List.cons_append] at N1
  walk_at "GO"
  exact hret _ _ _ _ hi1 F1 N1
theorem reg_N2_39 : True := by
  (k_with "binaryOp Mult ref int" => (k_here; (rename Int.fdiv _ _ = _ => hq9₉₉); (rename ∀ _ : Value, _ = _ => hw9₉₉); k_dflt (refine' KMa.mul ?F ?N ?l ?lo ?hi ?z ?e ?_; (case F => k_asm); (case N => k_asm); (case l => exact News.isList (by k_asm) (by k_mem)); (case lo => rw [hq9₉₉]; omega); (case hi => rw [hq9₉₉]; omega); (case z => rw [hq9₉₉]; simp only [List.length_cons, List.length_nil]; omega); (case e => exact hw9₉₉ _); k_whole); intro D'₉₉ h'₉₉ F'₉₉ N'₉₉ l1₉₉; (try k_lt l1₉₉); (try k_sweep)))
  trivial
theorem news_ne {h₀ h : Heap} {L a b : Addr} {o o2 : Obj} {l : List (Addr × Obj)} (N : News h₀ L h l) (h1 : (a, o) ∈ l) (h2 : (b, o2) ∈ l) (ho : o.data ≠ o2.data) : @Ne Nat a b := fun e => by
  have q1 := (N _ h1).1
  have q2 := (N _ h2).1
  have e' : a = b := e
  subst e'
  rw [q1] at q2
  exact ho (congrArg Obj.data (Option.some.inj q2))
theorem off_news {h₀ h : Heap} {L : Addr} {all rest us : List (Addr × Obj)} (N : News h₀ L h all) (hr : ∀ p ∈ rest, p ∈ all) (hu : ∀ p ∈ us, p ∈ all) (hd : ∀ p ∈ rest, ∀ q ∈ us, @Ne Nat p.1 q.1 ∨ p.2.data ≠ q.2.data) : ∀ p ∈ rest, p.1 ∉ us.map (·.1) := by
  intro p hp hq
  obtain ⟨q, hq, e⟩ := List.mem_map.mp hq
  rcases hd p hp q hq with h1 | h1
  · exact h1 e.symm
  · have q1 := (N _ (hr p hp)).1
    have q2 := (N _ (hu q hq)).1
    rw [e, q1] at q2
    exact h1 (congrArg Obj.data (Option.some.inj q2))
/-- an object of code, its name as said -/
noncomputable def CodeAt (o : Obj) (qn : Str) : Prop := ∃ (ovs : Array Value) (tt : Tok), o.data = .fields ovs ∧ ovs[1]? = some (.str qn tt)
theorem CodeAt.tab {o : Obj} {qn : Str} (h : CodeAt o qn) {l c : Int} {a : Addr} : o.data ≠ (tabObj #[rawInt l, rawInt c, .ref a]).data := by
  obtain ⟨ovs, tt, h1, h2⟩ := h
  rw [h1]; intro e; injection e with e; subst e; simp [rawInt] at h2
theorem CodeAt.nil {o : Obj} {qn : Str} (h : CodeAt o qn) : o.data ≠ (tabObj #[]).data := by
  obtain ⟨ovs, tt, h1, h2⟩ := h
  rw [h1]; intro e; injection e with e; subst e; simp at h2
theorem CodeAt.list {o : Obj} {qn : Str} (h : CodeAt o qn) {vs : Array Value} {n : Nat} : o.data ≠ (listOf vs n).data := by
  obtain ⟨ovs, tt, h1, h2⟩ := h
  rw [h1]; intro e; cases e
theorem CodeAt.code {o o' : Obj} {qn qn' : Str} (h : CodeAt o qn) (h' : CodeAt o' qn') (hn : (qn == qn') = false) : o.data ≠ o'.data := by
  obtain ⟨ovs, tt, h1, h2⟩ := h
  obtain ⟨ovs', tt', h1', h2'⟩ := h'
  rw [h1, h1']; intro e; injection e with e; subst e
  rw [h2] at h2'
  injection h2' with h2'
  injection h2' with h2' _
  subst h2'
  rw [beq_self_eq_true] at hn; cases hn
theorem not73 {fI c' cI cN cA D : Addr} {oc oI oN oA tb : Obj} {doc pm ct : Value} {vs : List Value} {c : Nat} (h : @Ne Nat 73 fI ∧ @Ne Nat 73 c' ∧ @Ne Nat 73 cI ∧ @Ne Nat 73 cN ∧ @Ne Nat 73 cA ∧ @Ne Nat 73 D) : ∀ p ∈ [((73 : Addr), tb)], p.1 ∉ (i2dUs fI c' cI cN cA D oc oI oN oA doc pm ct vs c).map (·.1) := by
  intro p hp
  rw [List.mem_singleton.mp hp]
  simp only [i2dUs, List.map_cons, List.map_nil, List.mem_cons, List.not_mem_nil, or_false, not_or]
  exact ⟨h.1, h.2.1, h.2.2.1, h.2.2.2.1, h.2.2.2.2.1, h.2.2.2.2.2⟩
theorem i2d_cnt {a : Int} (h0 : 0 ≤ a) (h1 : a < 2 ^ 26) : (((((PySem.Builtin.Int.intBits a : Nat) : Int) + 9 - 1)).fdiv 9) = ((digs a).length : Int) := by
  unfold digs
  split
  · rename_i e; subst e; exact i2d_count (a := 0) 0 (by decide) (.inl rfl)
  split
  · exact i2d_count (a := a) 1 (by omega) (.inr (by omega))
  split
  · exact i2d_count (a := a) 2 (by omega) (.inr (by omega))
  · exact i2d_count (a := a) 3 (by omega) (.inr (by omega))
theorem ints_rep (t : Tok) : ∀ k : Nat, IntsAre (List.replicate k (.int 0 t)) (List.replicate k 0)
  | 0 => .nil
  | k + 1 => .cons _ _ (ints_rep t k)
theorem flat_rep (v : Value) : ∀ k : Nat, (List.replicate k [v]).flatten = List.replicate k v
  | 0 => rfl
  | k + 1 => by rw [List.replicate_succ, List.flatten_cons, flat_rep v k]; rfl
noncomputable def i2d_f_S (w : World) (a : Int) (t : Tok) (u : Tok) : Prop :=
  ∀ (h0 : 0 ≤ a) (h1 : a < 2 ^ 26),
    SpecT w 78 [.int a t, .int 9 u] 6 [(73, tabObj #[])] (fun h => CodeHd h 77 73) (I2dPost a)
theorem i2d_f {w : World} {a : Int} {t : Tok} {u : Tok} : i2d_f_S w a t u := by
  refine eps_all (fun x : Sv => i2d_f_S x.w (x.int 0) (x.tok 0) (x.tok 1)) ?_ (Sv.mk w (default) ([]) (fun _ => none) (fun _ => {}) (fun _ => 0) (fun _ => a) (fun _ => (0 : Nat)) (fun i9 => [t, u].getD i9 t) (fun _ => .none) (fun _ => default) (fun _ => []) (fun _ => #[]) (fun _ => []) (fun _ => []) (fun _ => fun _ => none) (fun _ => {}) (fun _ => "") (fun _ => fun _ => "") (fun _ => none) (fun _ => #[]) (fun _ => none) (fun _ => default) (fun _ => none) (fun _ => []) (fun _ => []) (fun _ => {}) (fun _ => true) (fun _ _ => True) (fun _ => fun _ _ => True))
  clear u t a w
  refine (?_ : ∀ (w : World) (a : Int) (t : Tok) (u : Tok), i2d_f_S w a t u) _ _ _ _
  intro w a t u h0 h1
  have hq := i2d_cnt h0 h1
  have hw : ∀ v : Value, (List.replicate (Int.fdiv (((PySem.Builtin.Int.intBits a : Nat) : Int) + 9 - 1) 9).toNat [v]).flatten = List.replicate (digs a).length v := fun v => by rw [hq]; exact flat_rep v _
  have h3 := digs_len (a := a)
  walk_at "ENTERT"
  iterate 30 walk_at "GO1"
  dsimp only
  (rename Int.fdiv _ _ = _ => hq8)
  (rename ∀ _ : Value, _ = _ => hw8)
  clear hw8 hq8 h3
  (rename News _ _ _ (_ :: _) => n9)
  k_dflt (refine' i2d_tail (xs := List.replicate (digs a).length 0) (a := a) (N := kst_newsOf n9 (p1 ?m1 (p1 ?m2 (p1 ?m3 (p1 ?m4 (p1 ?m5 (p1 ?m6 (p1 ?m7 (fun _ h => nomatch h)))))))) ) (hod := ?a1) (hov := ?a2) (dI := ?a3) (dN := ?a4) (dA := ?a5) (hne := ?c1) (hi := ?c2) (ha := h0) (ha2 := h1) (hl := List.length_replicate ..) (h73 := ?c4) (B := ?a6) (F := ?a7) (X := ?a8) (T := ?a9) (hk := ?b1) (hd := ?b2) (hu := ?b3) (hret := ?_); (case m1 => k_mem); (case m2 => k_mem); (case m3 => k_mem); (case m4 => k_mem); (case m5 => k_mem); (case m6 => k_mem); (case m7 => k_mem); (case a1 => assumption); (case a2 => assumption); (case a3 => assumption); (case a4 => assumption); (case a5 => assumption); (case a6 => assumption); (case a7 => assumption); (case a8 => assumption); (case a9 => assumption); (case b1 => assumption); (case b2 => assumption); (case b3 => assumption); (case c2 => exact ints_rep _ _); (case c1 => exact ⟨by omega, by omega, by omega, by omega, by omega⟩); (case c4 => exact not73 ⟨by omega, by omega, by omega, by omega, by omega, by omega⟩))
  intro h9 tk9 vs9 c9 hi9 F9 N9
  unfold i2dUs at N9
  dsimp only [List.cons_append, List.nil_append] at N9 ⊢
  walk_at "GO"
  exact i2d_end (by assumption) (by assumption) (by assumption) (by assumption) (by assumption) (by assumption) (by assumption) (by assumption) (by k_mem) (by k_mem) (by k_mem) (by assumption) (by assumption) (leN (by omega)) hi9
noncomputable def i2d_h_S (w : World) (a : Int) (t : Tok) (u : Tok) (c' : Nat) (oc : Obj) (ovs : Array Value) (tt : Tok) : Prop :=
  ∀ (hod : oc.data = .fields ovs) (hov : ovs[1]? = some (.str "_int2digits.<locals>.inner" tt)) (h0 : 0 ≤ a) (h1 : a < 2 ^ 26),
    SpecT w 78 [.int a t, .int 9 u] 6 [(73, tabObj #[rawInt (66 : Nat), rawInt (4 : Nat), .ref c']), (c', oc)] (fun h => CodeHd h 77 73) (I2dPost a)
theorem i2d_h {w : World} {a : Int} {t : Tok} {u : Tok} {c' : Nat} {oc : Obj} {ovs : Array Value} {tt : Tok} : i2d_h_S w a t u c' oc ovs tt := by
  refine eps_all (fun x : Sv => i2d_h_S x.w (x.int 0) (x.tok 0) (x.tok 1) (x.nat 0) (x.ob 0) (x.va 0) (x.tok 2)) ?_ (Sv.mk w (default) ([]) (fun _ => none) (fun _ => {}) (fun _ => c') (fun _ => a) (fun _ => (0 : Nat)) (fun i9 => [t, u, tt].getD i9 t) (fun _ => .none) (fun _ => oc) (fun _ => []) (fun _ => ovs) (fun _ => []) (fun _ => []) (fun _ => fun _ => none) (fun _ => {}) (fun _ => "") (fun _ => fun _ => "") (fun _ => none) (fun _ => #[]) (fun _ => none) (fun _ => default) (fun _ => none) (fun _ => []) (fun _ => []) (fun _ => {}) (fun _ => true) (fun _ _ => True) (fun _ => fun _ _ => True))
  clear tt ovs oc c' u t a w
  refine (?_ : ∀ (w : World) (a : Int) (t : Tok) (u : Tok) (c' : Nat) (oc : Obj) (ovs : Array Value) (tt : Tok), i2d_h_S w a t u c' oc ovs tt) _ _ _ _ _ _ _ _
  intro w a t u c' oc ovs tt hod hov h0 h1
  have hq := i2d_cnt h0 h1
  have hw : ∀ v : Value, (List.replicate (Int.fdiv (((PySem.Builtin.Int.intBits a : Nat) : Int) + 9 - 1) 9).toNat [v]).flatten = List.replicate (digs a).length v := fun v => by rw [hq]; exact flat_rep v _
  have h3 := digs_len (a := a)
  walk_at "ENTERT"
  iterate 30 walk_at "GO1"
  dsimp only
  (rename Int.fdiv _ _ = _ => hq8)
  (rename ∀ _ : Value, _ = _ => hw8)
  clear hw8 hq8 h3
  (rename News _ _ _ (_ :: _) => n9)
  have hc73 : @Ne Nat 73 c' := (news_ne n9 (a := c') (b := 73) (by k_mem) (by k_mem) (CodeAt.tab ⟨_, _, hod, hov⟩)).symm
  k_dflt (refine' i2d_tail (xs := List.replicate (digs a).length 0) (a := a) (N := kst_newsOf n9 (p1 ?m1 (p1 ?m2 (p1 ?m3 (p1 ?m4 (p1 ?m5 (p1 ?m6 (p1 ?m7 (fun _ h => nomatch h)))))))) ) (hod := ?a1) (hov := ?a2) (dI := ?a3) (dN := ?a4) (dA := ?a5) (hne := ?c1) (hi := ?c2) (ha := h0) (ha2 := h1) (hl := List.length_replicate ..) (h73 := ?c4) (B := ?a6) (F := ?a7) (X := ?a8) (T := ?a9) (hk := ?b1) (hd := ?b2) (hu := ?b3) (hret := ?_); (case m1 => k_mem); (case m2 => k_mem); (case m3 => k_mem); (case m4 => k_mem); (case m5 => k_mem); (case m6 => k_mem); (case m7 => k_mem); (case a1 => assumption); (case a2 => assumption); (case a3 => assumption); (case a4 => assumption); (case a5 => assumption); (case a6 => assumption); (case a7 => assumption); (case a8 => assumption); (case a9 => assumption); (case b1 => assumption); (case b2 => assumption); (case b3 => assumption); (case c2 => exact ints_rep _ _); (case c1 => exact ⟨by omega, by omega, by omega, by omega, by omega⟩); (case c4 => exact not73 ⟨by omega, by omega, by omega, by omega, by omega, by omega⟩))
  intro h9 tk9 vs9 c9 hi9 F9 N9
  unfold i2dUs at N9
  dsimp only [List.cons_append, List.nil_append] at N9 ⊢
  walk_at "GO"
  exact i2d_end (by assumption) (by assumption) (by assumption) (by assumption) (by assumption) (by assumption) (by assumption) (by assumption) (by k_mem) (by k_mem) (by k_mem) (by assumption) (by assumption) (leN (by omega)) hi9
end
theorem reset_N3 : True := by
  w_top off
  k_with_none
  (k_with "OM" => with_reducible first | assumption | decide | (refine Nat.ne_of_lt ?_; k_extra "OP") | (refine o_n ?_; k_extra "OP") | k_extra "OP" | exact o_1 | exact o_2 | exact o_3 | exact o_4 | exact o_5 | exact o_6 | exact o_7 | exact o_8 | exact o_9 | exact o_10 | exact o_11 | exact o_12 | exact o_13 | exact o_14 | exact o_15 | exact o_16 | exact o_17 | exact o_18 | exact o_s1 | exact o_s2 | exact o_s3 | exact o_s4 | exact o_s5 | exact o_s6 | exact o_s7 | exact o_s8 | exact o_s9 | exact o_s10 | exact o_s11 | exact o_s12 | exact o_s13 | exact o_s14 | exact o_s15 | exact o_s16 | exact o_r 1 | exact o_r 2 | exact o_r 3 | exact o_r 4 | exact o_r 5 | exact o_r 6 | exact o_r 7 | exact o_r 8 | exact o_r 9 | exact o_r 10 | exact o_r 11 | exact o_r 12 | exact o_r 13 | exact o_r 14 | exact o_r 15 | exact o_r 16 | exact o_u1 | exact o_u2 | exact o_u3 | exact o_e1 | exact o_e2 | exact o_e3 | exact o_e4 | exact o_m1 | exact o_c1 | exact o_c2 | exact o_c3 | exact o_c4 | exact o_c5 | exact o_n1 | exact o_n2 | exact o_n3 | exact o_n4 | exact o_d1 | fail)
  (k_with "OP" => first | k_extra "OB" | exact o_p1 | exact o_p2 | exact o_p3 | exact o_p4 | (refine o_l 1 ?_; k_extra "OB") | (refine o_l 2 ?_; k_extra "OB") | (refine o_l 3 ?_; k_extra "OB") | (refine o_l 4 ?_; k_extra "OB") | fail)
  (k_with "OB" => first | assumption | (refine o_pk ?_; k_extra "OK") | fail)
  (k_with "OK" => first | exact And.left | exact And.right | (refine o_sk ?_; k_extra "OK") | fail)
  (k_with "GO" => repeat' (first | (k_unfold; (try dsimp only)) | (k_end; wrow_close) | walk1 | (dsimp only; k_unfold; (try dsimp only)) | (dsimp only; walk1) | (leave1; (try dsimp only)) | fail "no step"))
  (k_with "ENTERR" => (
  refine specT_eps ?_
  refine (?_ : SpecT _ _ _ _ _ _ _) _ _ _ _ _ _ _ _ _ _ _ _ _ _ _ _ _ _ _ _ _ _ _
  intro p₉₉ loose₉₉ mean₉₉ mg₉₉ mb₉₉ dp₉₉ un₉₉ gd₉₉ cn₉₉ cs₉₉ a₉₉ ccd₉₉ cl₉₉ outer₉₉ A₀₉₉ base₉₉ h₀₉₉ L₉₉ m₉₉ rest₉₉ s₉₉ Q₉₉ E₉₉
  unfold SpecTB
  k_fill
  intro B₉₉ F₉₉ X₉₉ N₉₉ T₉₉ hk₉₉ hd₉₉ hu₉₉ hoff₉₉ hC₉₉ hret₉₉
  refine wpAny_call ?_
  k_dflt (refine' code_us ?k1 ?k2 ?k3 ?k4 ?k5 ?kA ?kF ?kK ?k6 ?k7 ?k8 ?k9 ?kB ?_ ?c2 ?c3 ?c4 ?c5; (case kA => exact rfl); (case kF => exact rfl); (case kK => assumption); (case k1 => k_asm); (case k2 => k_asm); (case k3 => k_asm); (case k4 => exact N₉₉); (case k5 => k_asm); (case k6 => k_is); (case k7 => k_is); (case k8 => ktr_room); (case k9 => exact BindsTo.of_eq (binds := [("a", .int _ _), ("b", .int _ _)]) (by with_unfolding_all rfl)); (case c5 => decide); (case kB => exact locs rfl); (case c2 => exact rfl); (case c3 => exact rfl); (case c4 => exact rfl); k_whole)
  intro g'₉₉ L'₉₉ h'₉₉ eL₉₉ eg₉₉ FG'₉₉ F'₉₉ N'₉₉ B'₉₉ X'₉₉ T'₉₉ lU₉₉
  (try dsimp only)
  k_fold
  have lV₉₉ := lU₉₉
  (try k_lt lU₉₉)
  replace hC₉₉ := And.intro (codeHd_get hC₉₉.1 (fun o e => eg₉₉ _ o (F₉₉.keep _ o e) (news_off9 N₉₉ e))) (codeHd_get hC₉₉.2 (fun o e => eg₉₉ _ o (F₉₉.keep _ o e) (news_off9 N₉₉ e)))
  clear F₉₉))
  first | walk1 | trivial
section
set_option Elab.async false
set_option maxRecDepth 100000
set_option maxHeartbeats 8000000
set_option pp.deepTerms false
set_option pp.maxSteps 4000
theorem news_off9 {h₀ h : Heap} {L b : Addr} {o : Obj} {us : List (Addr × Obj)} (N : News h₀ L h us) (e : h₀.get? b = some o) : b ∉ us.map (·.1) := fun hq => by
  obtain ⟨q, hq, e2⟩ := List.mem_map.mp hq
  have := (N q hq).2.2
  rw [e2, e] at this
  cases this
theorem codeHd_get {h h' : Heap} {c P : Addr} (C : CodeHd h c P) (k : ∀ o, h.get? c = some o → h'.get? c = some o) : CodeHd h' c P := by
  obtain ⟨o, vs, file, tf, flags, tg, inF, text, tt, e, r⟩ := C
  exact ⟨o, vs, file, tf, flags, tg, inF, text, tt, k o e, r⟩
theorem bits256 : ((PySem.Builtin.Int.intBits 256 : Nat) : Int) = 9 := by decide +kernel
/-- both tables have grown -/
noncomputable def GrownTabs (us : List (Addr × Obj)) : Prop := ∃ (c1 : Addr) (oc1 : Obj) (c2 : Addr) (oc2 : Obj), us = [(73, tabObj #[rawInt (66 : Nat), rawInt (4 : Nat), .ref c1]), (c1, oc1), (80, tabObj #[rawInt (81 : Nat), rawInt (4 : Nat), .ref c2]), (c2, oc2)] ∧ CodeAt oc1 "_int2digits.<locals>.inner" ∧ CodeAt oc2 "_digits2int.<locals>.inner"
noncomputable def DmPost (q r : Int) (v : Value) (new us' : List (Addr × Obj)) : Prop := (∃ (D : Addr) (c : Nat) (tq tr : Tok), v = .ref D ∧ new = [(D, { cls := .type "tuple", data := .seq #[.int q tq, .int r tr] c })]) ∧ GrownTabs us'
theorem dm_pass {h₀ h' : Heap} {L : Addr} {m : Str → Option Value} {rest us us' new : List (Addr × Obj)} {v : Value} {s : Shared} {Q : Value → Shared → Prop} {tk' : Nat} {post : Value → List (Addr × Obj) → List (Addr × Obj) → Prop}
    (hret : ∀ v new us' h' tk', post v new us' → Fr h₀ L h' m → News h₀ L h' (new ++ (us' ++ rest)) → (∀ p ∈ new, AllLt p.1 (us ++ rest)) → Q v { s with heap := h', toks := tk' })
    (hp : post v new us') (F : Fr h₀ L h' m) (N : News h₀ L h' (new ++ (us' ++ rest))) (l : ∀ p ∈ new, AllLt p.1 (us ++ rest)) : Q v { s with heap := h', toks := tk' } := hret v new us' h' tk' hp F N l
theorem dm_neg_end {Z Y X R : Int} {h₀ h' : Heap} {L L' : Addr} {m : Str → Option Value} {rest us us' all : List (Addr × Obj)} {D : Addr} {s : Shared} {Q : Value → Shared → Prop} {tk' c : Nat} {tq tr : Tok}
    (hret : ∀ v new us' h' tk', DmPost Z Y v new us' → Fr h₀ L h' m → News h₀ L h' (new ++ (us' ++ rest)) → (∀ p ∈ new, AllLt p.1 (us ++ rest)) → Q v { s with heap := h', toks := tk' })
    (lV : ∀ p ∈ us ++ rest, p.1 < L') (F : Fr h₀ L h' m) (N' : News h₀ L h' all) (hm : (D, ({ cls := .type "tuple", data := .seq #[.int X tq, .int R tr] c } : Obj)) ∈ all) (hs : ∀ p ∈ us' ++ rest, p ∈ all) (hg : GrownTabs us') (hD : L' ≤ D) (hX : X = Z) (hR : R = Y) : Q (.ref D) { s with heap := h', toks := tk' } := by
  subst hX hR
  refine hret _ [(D, { cls := .type "tuple", data := .seq #[.int X tq, .int R tr] c })] us' _ _ ⟨⟨D, c, tq, tr, rfl, rfl⟩, hg⟩ F (fun p hp => N' p ?_) (fun p hp => ?_)
  · rcases List.mem_cons.mp hp with rfl | hp
    · exact hm
    · exact hs p hp
  · rw [List.mem_singleton.mp hp]
    exact allLt_of fun q hq => Nat.lt_of_lt_of_le (lV q hq) hD
/-- the tables as they may stand: fresh, or grown -/
noncomputable def TabSt (us : List (Addr × Obj)) : Prop := us = [(73, tabObj #[]), (80, tabObj #[])] ∨ GrownTabs us
theorem reg_N3_17 : True := by
  (k_with "storeName" => (k_here; dsimp only; (try simp only [bits256]); (try (refine wp_storeInt ?_; intro t9₉₉))))
  trivial
local macro_rules | `(tactic| k_all) => `(tactic| assumption)
theorem pow9' : (2 : Int) ^ (9 : Int).toNat = 512 := rfl
noncomputable def dmp_turn_S (w : World) (p : Program) (loose : List Str) (mean : ExcName → Option Value) (mg : Str → Option Value) (mb : Str → Option Value) (dp : Nat) (un : Nat) (gd : Option (List Code)) (cn : Str) (cs : Scope) (L : Addr) (b : Addr) (ccd : Value) (cl : List (Str × Addr)) (outer : List Env) (base : Heap) (g : Heap) (L' : Addr) (m : Str → Option Value) (s : Shared) (Q : Flow → Shared → Prop) (E : Value → Shared → Prop) (Dq : Addr) (qs : List Value) (cq : Nat) (r : Int) (x : Int) (tr : Tok) (tx : Tok) (tn : Tok) (tb : Tok) (tail : List (Addr × Obj)) : Prop :=
  ∀ (hr : 0 ≤ r ∧ r < 256) (hx : 0 ≤ x ∧ x < 512) (hl : qs.length ≤ 8) (mA : m "a_digit" = some (.int x tx)) (mR : m "r" = some (.int r tr)) (mN : m "n" = some (.int 9 tn)) (mB : m "b" = some (.int 256 tb)) (mQ : m "q_digits" = some (.ref Dq)) (B : Below (ktrTop dp un gd cn cs L b ccd cl outer) base (envX cn cs L b ccd cl :: outer) g) (F : Fr g L' s.heap m) (X : (hd.heap_39 w.params).In g) (T : Top p loose mean mg mb g) (N : News g L' s.heap ((Dq, listOf qs.toArray cq) :: tail)) (hoff : ∀ p ∈ tail, @Ne Nat p.1 Dq) (hk : cs.kind = .function) (hd : dp + 12 < recursionLimit) (hu : un + 8 * 12 < cLine) (hret : ∀ h' tk' m' cq' tq tr', m' "r" = some (.int ((r * 512 + x) % 256) tr') → (∀ y : Str, y ≠ "r" → y ≠ "q_digit" → m' y = m y) → Fr g L' h' m' → News g L' h' ((Dq, listOf (qs ++ [Value.int ((r * 512 + x) / 256) tq]).toArray cq') :: tail) → Q .next { s with heap := h', toks := tk' }),
    wpAny (model PySem.Challenge.rw_zo0033_01.row.prog w) ((ktrTop dp un gd cn cs L b ccd cl outer).deeper (envOf "_divmod_pos" (fnParts 12).2.2 L' 92 (.ref 91))) (execs (forBd (fnSt 12 4)) (envOf "_divmod_pos" (fnParts 12).2.2 L' 92 (.ref 91))) Q E s
theorem dmp_turn {w : World} {p : Program} {loose : List Str} {mean : ExcName → Option Value} {mg : Str → Option Value} {mb : Str → Option Value} {dp : Nat} {un : Nat} {gd : Option (List Code)} {cn : Str} {cs : Scope} {L : Addr} {b : Addr} {ccd : Value} {cl : List (Str × Addr)} {outer : List Env} {base : Heap} {g : Heap} {L' : Addr} {m : Str → Option Value} {s : Shared} {Q : Flow → Shared → Prop} {E : Value → Shared → Prop} {Dq : Addr} {qs : List Value} {cq : Nat} {r : Int} {x : Int} {tr : Tok} {tx : Tok} {tn : Tok} {tb : Tok} {tail : List (Addr × Obj)} : dmp_turn_S w p loose mean mg mb dp un gd cn cs L b ccd cl outer base g L' m s Q E Dq qs cq r x tr tx tn tb tail := by
  refine eps_all (fun x : Sv => dmp_turn_S x.w x.p x.loose x.mean (x.mf 0) (x.mf 1) (x.nat 0) (x.nat 1) (x.oc 0) (x.str 0) (x.sc 0) (x.ad 0) (x.ad 1) (x.val 0) (x.cl 0) (x.env 0) (x.hp 0) (x.hp 1) (x.ad 2) (x.mf 2) (x.sh 0) x.qf (x.qv 0) (x.ad 3) (x.vl 0) (x.nat 2) (x.int 0) (x.int 1) (x.tok 0) (x.tok 1) (x.tok 2) (x.tok 3) (x.ol 0)) ?_ (Sv.mk w p loose mean (fun i9 => [base, g].getD i9 base) (fun i9 => [dp, un, cq].getD i9 dp) (fun i9 => [r, x].getD i9 r) (fun i9 => [L, b, L', Dq].getD i9 L) (fun i9 => [tr, tx, tn, tb].getD i9 tr) (fun _ => ccd) (fun _ => default) (fun _ => qs) (fun _ => #[]) (fun _ => []) (fun _ => tail) (fun i9 => [mg, mb, m].getD i9 mg) (fun _ => s) (fun _ => cn) (fun _ => fun _ => "") (fun _ => none) (fun _ => #[]) (fun _ => none) (fun _ => cs) (fun _ => gd) (fun _ => cl) (fun _ => outer) (fun _ => {}) (fun _ => true) Q (fun _ => E))
  clear tail tb tn tx tr x r cq qs Dq E Q s m L' g base outer cl ccd b L cs cn gd un dp mb mg mean loose p w
  refine (?_ : ∀ (w : World) (p : Program) (loose : List Str) (mean : ExcName → Option Value) (mg : Str → Option Value) (mb : Str → Option Value) (dp : Nat) (un : Nat) (gd : Option (List Code)) (cn : Str) (cs : Scope) (L : Addr) (b : Addr) (ccd : Value) (cl : List (Str × Addr)) (outer : List Env) (base : Heap) (g : Heap) (L' : Addr) (m : Str → Option Value) (s : Shared) (Q : Flow → Shared → Prop) (E : Value → Shared → Prop) (Dq : Addr) (qs : List Value) (cq : Nat) (r : Int) (x : Int) (tr : Tok) (tx : Tok) (tn : Tok) (tb : Tok) (tail : List (Addr × Obj)), dmp_turn_S w p loose mean mg mb dp un gd cn cs L b ccd cl outer base g L' m s Q E Dq qs cq r x tr tx tn tb tail) _ _ _ _ _ _ _ _ _ _ _ _ _ _ _ _ _ _ _ _ _ _ _ _ _ _ _ _ _ _ _ _ _
  intro w p loose mean mg mb dp un gd cn cs L b ccd cl outer base g L' m s Q E Dq qs cq r x tr tx tn tb tail hr hx hl mA mR mN mB mQ B F X T N hoff hk hd hu hret
  have hfd : (r * 512 + x).fdiv 256 = (r * 512 + x) / 256 := Int.fdiv_eq_ediv_of_nonneg _ (by decide)
  have hfm : (r * 512 + x).fmod 256 = (r * 512 + x) % 256 := Int.fmod_eq_emod_of_nonneg _ (by decide)
  revert X; k_fill; intro X
  generalize hS : fnParts 12 = S at *
  (conv at hS => lhs; whnf)
  subst hS
  generalize hS : forBd (fnSt 12 4) = S
  (conv at hS => lhs; whnf)
  subst hS
  dsimp only at *
  obtain ⟨m, rfl⟩ : ∃ m9, m = fun z : Str => if z = "a_digit" then some (.int x tx) else if z = "r" then some (.int r tr) else if z = "n" then some (.int 9 tn) else if z = "b" then some (.int 256 tb) else if z = "q_digits" then some (.ref Dq) else m9 z := ⟨m, by
    funext z
    by_cases hz : z = "a_digit"
    · subst hz; rw [if_pos rfl]; exact mA
    rw [if_neg hz]; clear hz
    by_cases hz : z = "r"
    · subst hz; rw [if_pos rfl]; exact mR
    rw [if_neg hz]; clear hz
    by_cases hz : z = "n"
    · subst hz; rw [if_pos rfl]; exact mN
    rw [if_neg hz]; clear hz
    by_cases hz : z = "b"
    · subst hz; rw [if_pos rfl]; exact mB
    rw [if_neg hz]; clear hz
    by_cases hz : z = "q_digits"
    · subst hz; rw [if_pos rfl]; exact mQ
    rw [if_neg hz]⟩
  walk_at "GO"
  rw [pow9']
  k_dflt (refine' Spec.use (div2n1n_spec ?s1 ?s2 ?s3) ?k1 ?k2 ?k3 ?k4 ?k5 ?kK ?kd ?ku ?kus ?kp ?_; (case s1 => constructor <;> omega); (case s2 => decide); (case s3 => decide); (case k1 => k_asm); (case k2 => k_asm); (case k3 => k_asm); (case k4 => k_asm); (case k5 => k_asm); (case kK => first | exact rfl | assumption); (case kd => ktr_room); (case ku => ktr_units); (case kus => exact (fun _ h => nomatch h)); (case kp => trivial))
  rintro v1 new1 h1 tk1 ⟨D1, c1, tq1, tr1, rfl, rfl⟩ F1 N1 l1
  simp only [List.cons_append, List.nil_append] at N1
  have l2 := l1 _ (.head _)
  clear l1
  simp only [AllLt, and_true] at l2
  rw [hfd, hfm] at N1
  walk_at "GO"
  (rename News _ _ _ _ => n9)
  (rename Fr _ _ _ (fun _ => _) => f9)
  rw [List.push_toArray] at n9
  exact hret _ _ _ _ _ _ (if_pos rfl) (fun y q1 q2 => (if_neg q1).trans (if_neg q2)) f9 (fun p hp => n9 p (.tail _ hp))
noncomputable def dvq : Int → List Int → List Int
  | _, [] => []
  | r, z :: zs => (r * 512 + z) / 256 :: dvq ((r * 512 + z) % 256) zs
noncomputable def dvr : Int → List Int → Int
  | r, [] => r
  | r, z :: zs => dvr ((r * 512 + z) % 256) zs
theorem ints_append1 {qs : List Value} {xs : List Int} (h : IntsAre qs xs) (x : Int) (t : Tok) : IntsAre (qs ++ [Value.int x t]) (xs ++ [x]) := by
  induction h with
  | nil => exact .cons _ _ .nil
  | cons _ _ _ ih => exact .cons _ _ ih
noncomputable def dmp_loop_S (w : World) (p : Program) (loose : List Str) (mean : ExcName → Option Value) (mg : Str → Option Value) (mb : Str → Option Value) (dp : Nat) (un : Nat) (gd : Option (List Code)) (cn : Str) (cs : Scope) (L : Addr) (b : Addr) (ccd : Value) (cl : List (Str × Addr)) (outer : List Env) (base : Heap) (g : Heap) (L' : Addr) (s : Shared) (Q : Flow → Shared → Prop) (E : Value → Shared → Prop) (Dq : Addr) (I : Addr) (D1 : Addr) (lo : Obj) (tn : Tok) (tb : Tok) (tail : List (Addr × Obj)) (mN0 : Str → Option Value) : Prop :=
  ∀ (B : Below (ktrTop dp un gd cn cs L b ccd cl outer) base (envX cn cs L b ccd cl :: outer) g) (X : (hd.heap_39 w.params).In g) (T : Top p loose mean mg mb g) (hm1 : (D1, lo) ∈ tail) (hoff : ∀ p ∈ tail, @Ne Nat p.1 Dq) (hoI : ∀ p ∈ tail, @Ne Nat p.1 I) (hI : @Ne Nat I Dq) (hk : cs.kind = .function) (hd : dp + 12 < recursionLimit) (hu : un + 8 * 12 < cLine) (mN : mN0 "n" = some (.int 9 tn)) (mB : mN0 "b" = some (.int 256 tb)) (mQ : mN0 "q_digits" = some (.ref Dq)),
    ∀ (ys : List Value) (zs : List Int) (qs : List Value) (xs : List Int) (cq : Nat) (r : Int) (tr : Tok) (m : Str → Option Value), IntsAre ys zs → (∀ z ∈ zs, 0 ≤ z ∧ z < 512) → 0 ≤ r ∧ r < 256 → IntsAre qs xs → qs.length + ys.length ≤ 8 → m "r" = some (.int r tr) → (∀ y : Str, y ≠ "r" → y ≠ "q_digit" → y ≠ "a_digit" → m y = mN0 y) →
      (∀ h tk m' qs' cq' tr', IntsAre qs' (xs ++ dvq r zs) → m' "r" = some (.int (dvr r zs) tr') → (∀ y : Str, y ≠ "r" → y ≠ "q_digit" → y ≠ "a_digit" → m' y = mN0 y) → Fr g L' h m' → News g L' h ((Dq, listOf qs'.toArray cq') :: tail) → Q .next { s with heap := h, toks := tk }) →
      RevRest PySem.Challenge.rw_zo0033_01.row.prog w ((ktrTop dp un gd cn cs L b ccd cl outer).deeper (envOf "_divmod_pos" (fnParts 12).2.2 L' 92 (.ref 91))) E g (envOf "_divmod_pos" (fnParts 12).2.2 L' 92 (.ref 91)) "a_digit" (forBd (fnSt 12 4)) Q s I (D1, lo) ys m ((Dq, listOf qs.toArray cq) :: tail)
theorem dmp_loop {w : World} {p : Program} {loose : List Str} {mean : ExcName → Option Value} {mg : Str → Option Value} {mb : Str → Option Value} {dp : Nat} {un : Nat} {gd : Option (List Code)} {cn : Str} {cs : Scope} {L : Addr} {b : Addr} {ccd : Value} {cl : List (Str × Addr)} {outer : List Env} {base : Heap} {g : Heap} {L' : Addr} {s : Shared} {Q : Flow → Shared → Prop} {E : Value → Shared → Prop} {Dq : Addr} {I : Addr} {D1 : Addr} {lo : Obj} {tn : Tok} {tb : Tok} {tail : List (Addr × Obj)} {mN0 : Str → Option Value} : dmp_loop_S w p loose mean mg mb dp un gd cn cs L b ccd cl outer base g L' s Q E Dq I D1 lo tn tb tail mN0 := by
  refine eps_all (fun x : Sv => dmp_loop_S x.w x.p x.loose x.mean (x.mf 0) (x.mf 1) (x.nat 0) (x.nat 1) (x.oc 0) (x.str 0) (x.sc 0) (x.ad 0) (x.ad 1) (x.val 0) (x.cl 0) (x.env 0) (x.hp 0) (x.hp 1) (x.ad 2) (x.sh 0) x.qf (x.qv 0) (x.ad 3) (x.ad 4) (x.ad 5) (x.ob 0) (x.tok 0) (x.tok 1) (x.ol 0) (x.mf 2)) ?_ (Sv.mk w p loose mean (fun i9 => [base, g].getD i9 base) (fun i9 => [dp, un].getD i9 dp) (fun _ => 0) (fun i9 => [L, b, L', Dq, I, D1].getD i9 L) (fun i9 => [tn, tb].getD i9 tn) (fun _ => ccd) (fun _ => lo) (fun _ => []) (fun _ => #[]) (fun _ => []) (fun _ => tail) (fun i9 => [mg, mb, mN0].getD i9 mg) (fun _ => s) (fun _ => cn) (fun _ => fun _ => "") (fun _ => none) (fun _ => #[]) (fun _ => none) (fun _ => cs) (fun _ => gd) (fun _ => cl) (fun _ => outer) (fun _ => {}) (fun _ => true) Q (fun _ => E))
  clear mN0 tail tb tn lo D1 I Dq E Q s L' g base outer cl ccd b L cs cn gd un dp mb mg mean loose p w
  refine (?_ : ∀ (w : World) (p : Program) (loose : List Str) (mean : ExcName → Option Value) (mg : Str → Option Value) (mb : Str → Option Value) (dp : Nat) (un : Nat) (gd : Option (List Code)) (cn : Str) (cs : Scope) (L : Addr) (b : Addr) (ccd : Value) (cl : List (Str × Addr)) (outer : List Env) (base : Heap) (g : Heap) (L' : Addr) (s : Shared) (Q : Flow → Shared → Prop) (E : Value → Shared → Prop) (Dq : Addr) (I : Addr) (D1 : Addr) (lo : Obj) (tn : Tok) (tb : Tok) (tail : List (Addr × Obj)) (mN0 : Str → Option Value), dmp_loop_S w p loose mean mg mb dp un gd cn cs L b ccd cl outer base g L' s Q E Dq I D1 lo tn tb tail mN0) _ _ _ _ _ _ _ _ _ _ _ _ _ _ _ _ _ _ _ _ _ _ _ _ _ _ _ _ _ _
  intro w p loose mean mg mb dp un gd cn cs L b ccd cl outer base g L' s Q E Dq I D1 lo tn tb tail mN0 B X T hm1 hoff hoI hI hk hd hu mN mB mQ
  intro ys
  induction ys with
  | nil =>
    intro zs qs xs cq r tr m hz hb hr hq hl mR hm fin
    cases hz
    exact RevRest.zero fun h tk F N => fin h tk m qs cq tr (by rw [dvq, List.append_nil]; exact hq) mR hm F N
  | cons y ys ih =>
    intro zs qs xs cq r tr m hz hb hr hq hl mR hm fin
    cases hz with
    | cons z tz hz =>
      rename_i zs
      refine RevRest.succ fun it h tk hcls F N => ?_
      have hz0 := hb z (.head _)
      refine dmp_turn (m := fun y => if y = "a_digit" then some (.int z tz) else m y) (tail := (I, it) :: tail) (qs := qs) (cq := cq) hr hz0 (by simp only [List.length_cons] at hl; omega) (if_pos rfl) ((if_neg (by decide)).trans mR) ((if_neg (by decide)).trans ((hm _ (by decide) (by decide) (by decide)).trans mN)) ((if_neg (by decide)).trans ((hm _ (by decide) (by decide) (by decide)).trans mB)) ((if_neg (by decide)).trans ((hm _ (by decide) (by decide) (by decide)).trans mQ)) B F X T (fun p hp => N p ?_) (fun p hp => ?_) hk hd hu fun h' tk' m' cq' tq tr' hr' hm' F' N' => ?_
      · rcases List.mem_cons.mp hp with rfl | hp
        · exact .tail _ (.head _)
        rcases List.mem_cons.mp hp with rfl | hp
        · exact .head _
        · exact .tail _ (.tail _ hp)
      · rcases List.mem_cons.mp hp with rfl | hp
        · exact hI
        · exact hoff p hp
      · refine ⟨h', tk', m', (Dq, listOf (qs ++ [Value.int ((r * 512 + z) / 256) tq]).toArray cq') :: tail, rfl, F', fun p hp => N' p ?_, fun p hp => ?_, .tail _ hm1, ?_⟩
        · rcases List.mem_cons.mp hp with rfl | hp
          · exact .tail _ (.head _)
          rcases List.mem_cons.mp hp with rfl | hp
          · exact .head _
          · exact .tail _ (.tail _ hp)
        · rcases List.mem_cons.mp hp with rfl | hp
          · exact hI.symm
          · exact hoI p hp
        · refine ih zs _ (xs ++ [(r * 512 + z) / 256]) cq' _ tr' m' hz (fun q hq => hb q (.tail _ hq)) (by omega) (ints_append1 hq _ _) (by simp only [List.length_cons, List.length_append, List.length_nil] at hl ⊢; omega) hr' (fun y q1 q2 q3 => (hm' y q1 q2).trans ((if_neg q3).trans (hm y q1 q2 q3))) fun h2 tk2 m2 qs2 cq2 tr2 hq2 hr2 hm2 F2 N2 => fin h2 tk2 m2 qs2 cq2 tr2 (by rw [dvq]; rw [List.append_assoc] at hq2; exact hq2) hr2 hm2 F2 N2
theorem off_app {u1 u2 rest : List (Addr × Obj)} (h12 : ∀ p ∈ u2, p.1 ∉ u1.map (·.1)) (hoff : ∀ p ∈ rest, p.1 ∉ (u1 ++ u2).map (·.1)) : ∀ p ∈ u2 ++ rest, p.1 ∉ u1.map (·.1) := fun p hp => by
  rcases List.mem_append.mp hp with h | h
  · exact h12 p h
  · intro hq
    refine hoff p h ?_
    rw [List.map_append]
    exact List.mem_append_left _ hq
theorem lt_at {d : Nat} : ∀ {l : List (Addr × Obj)}, AllLt d l → ∀ p ∈ l, @LT.lt Nat _ p.1 d
  | [], _, p, h => nomatch h
  | q :: r, hl, p, h => by
    rcases List.mem_cons.mp h with rfl | h
    · exact hl.1
    · exact lt_at hl.2 p h
theorem offI_of {I : Addr} {it : Obj} : ∀ {l : List (Addr × Obj)}, (∀ p ∈ l, @LT.lt Nat _ p.1 I) → OffI I it l
  | [], _ => trivial
  | p :: _, h => ⟨.inl (Nat.ne_of_lt (h p (.head _))), offI_of fun q hq => h q (.tail _ hq)⟩
theorem ints_rev {vs : List Value} {xs : List Int} (h : IntsAre vs xs) : IntsAre vs.reverse xs.reverse := by
  induction h with
  | nil => exact .nil
  | cons x t _ ih => rw [List.reverse_cons, List.reverse_cons]; exact ints_append1 ih x t
theorem dvq_len : ∀ (zs : List Int) (r : Int), (dvq r zs).length = zs.length
  | [], _ => rfl
  | _ :: zs, r => by rw [dvq, List.length_cons, List.length_cons, dvq_len zs]
/-- the number that digits tell, the highest first -/
noncomputable def up : Int → List Int → Int
  | v, [] => v
  | v, z :: zs => up (v * 512 + z) zs
theorem up_app (zs : List Int) (v z : Int) : up v (zs ++ [z]) = up v zs * 512 + z := by
  induction zs generalizing v with
  | nil => rfl
  | cons y zs ih => exact ih _
theorem undigs_up (ds : List Int) : undigs ds = up 0 ds.reverse := by
  induction ds with
  | nil => rfl
  | cons x ds ih => rw [undigs, ih, List.reverse_cons, up_app]; omega
theorem qr {z r : Int} (hr : 0 ≤ r ∧ r < 256) (hz : 0 ≤ z ∧ z < 512) : r * 512 + z = 256 * ((r * 512 + z) / 256) + (r * 512 + z) % 256 ∧ (0 ≤ (r * 512 + z) % 256 ∧ (r * 512 + z) % 256 < 256) ∧ 0 ≤ (r * 512 + z) / 256 ∧ (r * 512 + z) / 256 < 512 := by omega
theorem dv_in : ∀ (zs : List Int) (r : Int), 0 ≤ r ∧ r < 256 → (∀ z ∈ zs, 0 ≤ z ∧ z < 512) → (0 ≤ dvr r zs ∧ dvr r zs < 256) ∧ ∀ x ∈ dvq r zs, 0 ≤ x ∧ x < 512
  | [], r, hr, _ => ⟨hr, fun _ h => nomatch h⟩
  | z :: zs, r, hr, hz => by
    have h := qr hr (hz z (.head _))
    have ih := dv_in zs _ h.2.1 fun q hq => hz q (.tail _ hq)
    refine ⟨ih.1, fun x hx => ?_⟩
    rcases List.mem_cons.mp hx with rfl | hx
    · exact h.2.2
    · exact ih.2 x hx
theorem dv_val : ∀ (zs : List Int) (r v : Int), 0 ≤ r ∧ r < 256 → (∀ z ∈ zs, 0 ≤ z ∧ z < 512) → up (256 * v + r) zs = 256 * up v (dvq r zs) + dvr r zs
  | [], _, _, _, _ => rfl
  | z :: zs, r, v, hr, hz => by
    have h := qr hr (hz z (.head _))
    have ih := dv_val zs ((r * 512 + z) % 256) (v * 512 + (r * 512 + z) / 256) h.2.1 fun q hq => hz q (.tail _ hq)
    rw [up, dvq, dvr, up, ← ih]
    congr 1
    omega
theorem undigs_digs {a : Int} : undigs (digs a) = a := by
  unfold digs
  split
  · rename_i e; subst e; rfl
  split
  · simp only [undigs]; omega
  split
  · simp only [undigs]; omega
  · simp only [undigs]; omega
theorem dv_ok {a : Int} (h0 : 0 ≤ a) (h1 : a < 2 ^ 26) : undigs (dvq 0 (digs a).reverse).reverse = a / 256 ∧ dvr 0 (digs a).reverse = a % 256 ∧ ∀ x ∈ (dvq 0 (digs a).reverse).reverse, 0 ≤ x ∧ x < 512 := by
  have hz : ∀ z ∈ (digs a).reverse, 0 ≤ z ∧ z < 512 := fun z hz => digs_in h0 h1 z (List.mem_reverse.mp hz)
  have hi := dv_in (digs a).reverse 0 (by decide) hz
  have hv := dv_val (digs a).reverse 0 0 (by decide) hz
  have hu := undigs_digs (a := a)
  rw [undigs_up] at hu
  have e : (256 * 0 + 0 : Int) = 0 := rfl
  rw [e, hu] at hv
  rw [undigs_up, List.reverse_reverse]
  refine ⟨?_, ?_, fun x hx => hi.2 x (List.mem_reverse.mp hx)⟩
  · have := hi.1; omega
  · have := hi.1; omega
/-- the second table, fresh or grown, and its code -/
noncomputable def TabObj2 (q : Addr × Obj) : Prop := (q.1 = 80 ∧ (q.2 = tabObj #[] ∨ ∃ a, q.2 = tabObj #[rawInt (81 : Nat), rawInt (4 : Nat), .ref a])) ∨ CodeAt q.2 "_digits2int.<locals>.inner"
theorem off_S2 {h₀ h : Heap} {L l' c1 a1 : Addr} {oc1 lo : Obj} {u1 u2 rest all : List (Addr × Obj)} (N : News h₀ L h all) (hs : ∀ p ∈ u2, p ∈ all) (m1 : (73, tabObj #[rawInt (66 : Nat), rawInt (4 : Nat), .ref a1]) ∈ all) (m2 : (c1, oc1) ∈ all) (hc : CodeAt oc1 "_int2digits.<locals>.inner") (hu : ∀ q ∈ u2, TabObj2 q) (hoff : ∀ p ∈ rest, p.1 ∉ (u1 ++ u2).map (·.1)) (hl1 : @Ne Nat 73 l') (hl2 : @Ne Nat c1 l') (hl3 : ∀ p ∈ rest, @Ne Nat p.1 l') :
    ∀ p ∈ ((73 : Addr), tabObj #[rawInt (66 : Nat), rawInt (4 : Nat), .ref a1]) :: (c1, oc1) :: rest, p.1 ∉ (u2 ++ [(l', lo)]).map (·.1) := by
  intro p hp hq
  rw [List.map_append] at hq
  rcases List.mem_append.mp hq with hq | hq
  · obtain ⟨q, hq2, e⟩ := List.mem_map.mp hq
    rcases List.mem_cons.mp hp with rfl | hp
    · rcases hu q hq2 with ⟨e2, _⟩ | hcd
      · have : (80 : Nat) = 73 := e2 ▸ e
        cases this
      · exact news_ne N (b := 73) (hs q hq2) m1 (CodeAt.tab hcd) e
    rcases List.mem_cons.mp hp with rfl | hp
    · rcases hu q hq2 with ⟨_, e3 | ⟨b, e3⟩⟩ | hcd
      · exact news_ne N m2 (hs q hq2) (e3 ▸ CodeAt.nil hc) e.symm
      · exact news_ne N m2 (hs q hq2) (by rw [e3]; exact CodeAt.tab hc) e.symm
      · exact news_ne N m2 (hs q hq2) (CodeAt.code hc hcd (by decide +kernel)) e.symm
    · exact hoff p hp (by rw [List.map_append]; exact List.mem_append_right _ (List.mem_map.mpr ⟨q, hq2, e⟩))
  · rw [List.map_cons, List.map_nil, List.mem_singleton] at hq
    rcases List.mem_cons.mp hp with rfl | hp
    · exact hl1 hq
    rcases List.mem_cons.mp hp with rfl | hp
    · exact hl2 hq
    · exact hl3 p hp hq
/-- the first table, fresh or grown, and its code -/
noncomputable def TabObj1 (q : Addr × Obj) : Prop := (q.1 = 73 ∧ (q.2 = tabObj #[] ∨ ∃ a, q.2 = tabObj #[rawInt (66 : Nat), rawInt (4 : Nat), .ref a])) ∨ CodeAt q.2 "_int2digits.<locals>.inner"
theorem off12 {h₀ h : Heap} {L : Addr} {u1 u2 all : List (Addr × Obj)} (N : News h₀ L h all) (s1 : ∀ p ∈ u1, p ∈ all) (s2 : ∀ p ∈ u2, p ∈ all) (hu1 : ∀ q ∈ u1, TabObj1 q) (hu2 : ∀ q ∈ u2, TabObj2 q) : ∀ p ∈ u2, p.1 ∉ u1.map (·.1) := by
  intro p hp hq
  obtain ⟨q, hq2, e⟩ := List.mem_map.mp hq
  have nn : p.2.data ≠ q.2.data → False := fun h => news_ne N (s2 p hp) (s1 q hq2) h e.symm
  rcases hu1 q hq2 with ⟨e1, e3⟩ | c1
  · rcases hu2 p hp with ⟨e2, _⟩ | c2
    · have : (73 : Nat) = 80 := (e1.symm.trans e).trans e2
      cases this
    · rcases e3 with e3 | ⟨b, e3⟩
      · exact nn (by rw [e3]; exact CodeAt.nil c2)
      · exact nn (by rw [e3]; exact CodeAt.tab c2)
  · rcases hu2 p hp with ⟨_, e3⟩ | c2
    · rcases e3 with e3 | ⟨b, e3⟩
      · exact nn (by rw [e3]; exact (CodeAt.nil c1).symm)
      · exact nn (by rw [e3]; exact (CodeAt.tab c1).symm)
    · exact nn (CodeAt.code c1 c2 (by decide +kernel)).symm
noncomputable def dmp_new_S (w : World) (a : Int) (t : Tok) (u : Tok) (u1 : List (Addr × Obj)) (u2 : List (Addr × Obj)) : Prop :=
  ∀ (h0 : 0 ≤ a) (h1 : a < 2 ^ 26) (hu1 : ∀ q ∈ u1, TabObj1 q) (hu2 : ∀ q ∈ u2, TabObj2 q) (h80 : ∃ o, ((80 : Addr), o) ∈ u2) (S1 : ∀ t u, SpecT w 78 [.int a t, .int 9 u] 6 u1 (fun h => CodeHd h 77 73) (I2dPost a)) (S2 : ∀ (D : Addr) (c : Nat) (vs : List Value) (xs : List Int) (u : Tok), @LT.lt Nat _ 80 D → IntsAre vs xs → (∀ x ∈ xs, 0 ≤ x ∧ x < 512) → xs.length ≤ 3 → SpecT w 85 [.ref D, .int 9 u] 6 (u2 ++ [(D, listOf vs.toArray c)]) (fun h => CodeHd h 84 80) (D2iPost D (listOf vs.toArray c) xs)),
    SpecT w 92 [.int a t, .int 256 u] 12 (u1 ++ u2) (fun h => CodeHd h 77 73 ∧ CodeHd h 84 80) (DmPost (Int.fdiv a 256) (Int.fmod a 256))
theorem dmp_new {w : World} {a : Int} {t : Tok} {u : Tok} {u1 : List (Addr × Obj)} {u2 : List (Addr × Obj)} : dmp_new_S w a t u u1 u2 := by
  refine eps_all (fun x : Sv => dmp_new_S x.w (x.int 0) (x.tok 0) (x.tok 1) (x.ol 0) (x.ol 1)) ?_ (Sv.mk w (default) ([]) (fun _ => none) (fun _ => {}) (fun _ => 0) (fun _ => a) (fun _ => (0 : Nat)) (fun i9 => [t, u].getD i9 t) (fun _ => .none) (fun _ => default) (fun _ => []) (fun _ => #[]) (fun _ => []) (fun i9 => [u1, u2].getD i9 u1) (fun _ => fun _ => none) (fun _ => {}) (fun _ => "") (fun _ => fun _ => "") (fun _ => none) (fun _ => #[]) (fun _ => none) (fun _ => default) (fun _ => none) (fun _ => []) (fun _ => []) (fun _ => {}) (fun _ => true) (fun _ _ => True) (fun _ => fun _ _ => True))
  clear u2 u1 u t a w
  refine (?_ : ∀ (w : World) (a : Int) (t : Tok) (u : Tok) (u1 : List (Addr × Obj)) (u2 : List (Addr × Obj)), dmp_new_S w a t u u1 u2) _ _ _ _ _ _
  intro w a t u u1 u2 h0 h1 hu1 hu2 h80 S1 S2
  have h3 := digs_len (a := a)
  walk_at "ENTERR"
  (rename CodeHd _ _ _ ∧ CodeHd _ _ _ => hC9)
  (rename List (Addr × Obj) => rest9)
  walk_at "GO"
  (rename News _ _ _ _ => n0')
  (rename ∀ p ∈ rest9, _ => hoff9)
  k_dflt (refine' SpecT.use (S1 _ _) (u2 ++ rest9) ?k1 ?k2 ?k3 ?k4 ?k5 ?kK ?kd ?ku ?kus ?ko ?kc ?_; (case k1 => k_asm); (case k2 => k_asm); (case k3 => k_asm); (case k4 => exact n0'); (case k5 => k_asm); (case kK => first | exact rfl | assumption); (case kd => ktr_room); (case ku => ktr_units); (case kus => exact fun p hp => by rw [List.append_assoc]; exact hp); (case kc => exact hC9.1); (case ko => exact off_app (off12 n0' (fun p hp => List.mem_append_left _ (List.mem_append_left _ hp)) (fun p hp => List.mem_append_left _ (List.mem_append_right _ hp)) hu1 hu2) hoff9))
  intro v1 new1 us1 h1' tk1 hp1 F1 N1 l1
  obtain ⟨⟨D1, vs1, d1, hi1, rfl, rfl⟩, cc1, oo1, ov1, tt1, rfl, hd1, hv1⟩ := hp1
  simp only [List.cons_append, List.nil_append] at N1
  have l2 := l1 _ (.head _)
  clear l1
  have hl1 : vs1.length ≤ 3 := hi1.length ▸ h3
  obtain ⟨T9, hT⟩ : ∃ T9, u2 ++ rest9 = T9 := ⟨_, rfl⟩
  rw [hT] at N1
  walk_at "GO"
  (rename Fr _ _ _ (fun _ => _) => f9)
  (rename News _ _ _ (_ :: _ :: _) => n9)
  (rename _ ∧ _ ∧ _ ∧ _ ∧ AllLt _ T9 => lD)
  (rename _ ∧ _ ∧ _ ∧ AllLt _ T9 => lQ)
  k_dflt (refine' iter_revUnr (ax := D1) (lo := listOf vs1.toArray d1) (vs := vs1) ?k1 f9 n9 ?koff ?km ?kc ?kd ?_; (case k1 => rfl); (case km => k_mem); (case kc => rfl); (case kd => rfl))
  case koff => exact offI_of (lt_at lD)
  have aQ : AllLt _ ((D1, listOf vs1.toArray d1) :: (73, tabObj #[rawInt (66 : Nat), rawInt (4 : Nat), .ref cc1]) :: (cc1, oo1) :: T9) := lQ
  have aD : AllLt _ ((D1, listOf vs1.toArray d1) :: (73, tabObj #[rawInt (66 : Nat), rawInt (4 : Nat), .ref cc1]) :: (cc1, oo1) :: T9) := lD.2
  k_dflt (refine' dmp_loop ?B ?X ?T ?hm ?ho ?hI ?hQ ?hk ?hd ?hu ?mN ?mB ?mQ vs1.reverse (digs a).reverse [] [] 0 0 _ _ (ints_rev hi1) ?hb ?hr .nil ?hl ?mR ?hm0 ?fin; (case hm0 => exact fun _ _ _ _ => rfl); (case B => assumption); (case X => assumption); (case T => assumption); (case hk => assumption); (case hd => assumption); (case hu => assumption); (case hm => exact .head _); (case ho => exact fun p hp => Nat.ne_of_lt (lt_at aQ p hp)); (case hI => exact fun p hp => Nat.ne_of_lt (lt_at aD p hp)); (case hQ => exact Nat.ne_of_gt lD.1); (case mN => exact rfl); (case mB => exact rfl); (case mQ => exact rfl); (case mR => exact rfl); (case hb => exact fun z hz => digs_in h0 h1 z (List.mem_reverse.mp hz)); (case hr => decide); (case hl => (rw [List.length_reverse]; show 0 + _ ≤ 8; omega)))
  intro h9 tk9 m9 qs9 cq9 tr9 hq9 hr9 hm9 F9 N9
  have e1 : m9 "q_digits" = some (.ref _) := hm9 "q_digits" (by decide) (by decide) (by decide)
  have e2 : m9 "n" = some (.int 9 _) := hm9 "n" (by decide) (by decide) (by decide)
  clear hm9
  obtain ⟨m8, rfl⟩ := fn3 hr9 e1 e2
  clear hr9 e1 e2
  have hT9 : ∀ p ∈ ((D1, listOf vs1.toArray d1) :: (73, tabObj #[rawInt (66 : Nat), rawInt (4 : Nat), .ref cc1]) :: (cc1, oo1) :: T9), @Ne Nat p.1 _ := fun p hp => Nat.ne_of_lt (lt_at aQ p hp)
  have hq3 : qs9.length ≤ 3 := by
    rw [hq9.length, List.nil_append, dvq_len, List.length_reverse]
    exact h3
  walk_at "GO"
  dsimp only
  k_dflt (refine' kl_reverse ?F ?N ?e ?U ?z ?_; (case F => k_asm); (case N => k_asm); (case U => k_upd); (case e => exact rfl); (case z => exact Nat.le_trans hq3 (by rw [sizeLine_eq]; decide)))
  intro h8 F8 N8
  walk_at "GO"
  subst hT
  have hk1 : CodeAt oo1 "_int2digits.<locals>.inner" := ⟨ov1, tt1, hd1, hv1⟩
  have hdv := dv_ok h0 h1
  obtain ⟨o80, hm80⟩ := h80
  k_dflt (refine' SpecT.use (S2 _ cq9 qs9.toArray.toList.reverse (dvq 0 (digs a).reverse).reverse _ ?g1 ?g2 hdv.2.2 ?g4) (((73 : Addr), tabObj #[rawInt (66 : Nat), rawInt (4 : Nat), .ref cc1]) :: (cc1, oo1) :: rest9) ?k1 ?k2 ?k3 ?k4 ?k5 ?kK ?kd ?ku ?kus ?ko ?kc ?_; (case k1 => k_asm); (case k2 => k_asm); (case k3 => k_asm); (case k4 => exact N8); (case k5 => k_asm); (case kK => first | exact rfl | assumption); (case kd => ktr_room); (case ku => ktr_units); (case kc => exact hC9.2))
  case g1 => exact lt_at aQ (80, o80) (.tail _ (.tail _ (.tail _ (List.mem_append_left _ hm80))))
  case g2 => exact ints_rev hq9
  case g4 =>
    rw [List.length_reverse, dvq_len, List.length_reverse]
    exact h3
  case kus =>
    intro p hp
    rcases List.mem_append.mp hp with hp | hp
    · rcases List.mem_append.mp hp with hp | hp
      · exact .tail _ (.tail _ (.tail _ (.tail _ (List.mem_append_left _ hp))))
      · rw [List.mem_singleton.mp hp]; exact .head _
    · rcases List.mem_cons.mp hp with rfl | hp
      · exact .tail _ (.tail _ (.head _))
      rcases List.mem_cons.mp hp with rfl | hp
      · exact .tail _ (.tail _ (.tail _ (.head _)))
      · exact .tail _ (.tail _ (.tail _ (.tail _ (List.mem_append_right _ hp))))
  case ko => exact off_S2 N8 (fun p hp => .tail _ (.tail _ (.tail _ (.tail _ (List.mem_append_left _ hp))))) (.tail _ (.tail _ (.head _))) (.tail _ (.tail _ (.tail _ (.head _)))) hk1 hu2 hoff9 (Nat.ne_of_lt lQ.2.1) (Nat.ne_of_lt lQ.2.2.1) (fun p hp => Nat.ne_of_lt (lt_at aQ p (.tail _ (.tail _ (.tail _ (List.mem_append_right _ hp))))))
  intro v2 new2 us2 h2' tk2 hp2 F2 N2 l2'
  obtain ⟨⟨tq2, rfl⟩, rfl, cc2, oo2, ov2, tt2, rfl, hd2, hv2⟩ := hp2
  have hk2 : CodeAt oo2 "_digits2int.<locals>.inner" := ⟨ov2, tt2, hd2, hv2⟩
  simp only [List.cons_append, List.nil_append] at N2
  clear l2'
  walk_at "GO"
  refine dm_neg_end (us' := [((73 : Addr), tabObj #[rawInt (66 : Nat), rawInt (4 : Nat), .ref cc1]), (cc1, oo1), ((80 : Addr), tabObj #[rawInt (81 : Nat), rawInt (4 : Nat), .ref cc2]), (cc2, oo2)]) (by assumption) (by assumption) (by assumption) (by assumption) (.head _) (fun p hp => ?_) ⟨cc1, oo1, cc2, oo2, rfl, hk1, hk2⟩ (by assumption) (hdv.1.trans (Int.fdiv_eq_ediv_of_nonneg _ (by decide)).symm) (hdv.2.1.trans (Int.fmod_eq_emod_of_nonneg _ (by decide)).symm)
  rcases List.mem_cons.mp hp with rfl | hp
  · exact .tail _ (.tail _ (.tail _ (.tail _ (.head _))))
  rcases List.mem_cons.mp hp with rfl | hp
  · exact .tail _ (.tail _ (.tail _ (.tail _ (.tail _ (.head _)))))
  rcases List.mem_cons.mp hp with rfl | hp
  · exact .tail _ (.head _)
  rcases List.mem_cons.mp hp with rfl | hp
  · exact .tail _ (.tail _ (.head _))
  · exact .tail _ (.tail _ (.tail _ (.tail _ (.tail _ (.tail _ hp)))))
theorem dmp_all {w : World} {a : Int} {t u : Tok} {us : List (Addr × Obj)} (h0 : 0 ≤ a) (h1 : a < 2 ^ 26) (hu : TabSt us) :
    SpecT w 92 [.int a t, .int 256 u] 12 us (fun h => CodeHd h 77 73 ∧ CodeHd h 84 80) (DmPost (Int.fdiv a 256) (Int.fmod a 256)) := by
  rcases hu with rfl | ⟨c1, oc1, c2, oc2, rfl, hc1, hc2⟩
  · refine dmp_new (u1 := [(73, tabObj #[])]) (u2 := [(80, tabObj #[])]) h0 h1 ?_ ?_ ⟨_, .head _⟩ (fun t u => i2d_f h0 h1) (fun D c vs xs u hD hi hb hl => d2i_f hD hi hb hl)
    · intro p hp
      rw [List.mem_singleton.mp hp]
      exact .inl ⟨rfl, .inl rfl⟩
    · intro p hp
      rw [List.mem_singleton.mp hp]
      exact .inl ⟨rfl, .inl rfl⟩
  · obtain ⟨ov1, tt1, hd1, hv1⟩ := id hc1
    obtain ⟨ov2, tt2, hd2, hv2⟩ := id hc2
    refine dmp_new (u1 := [(73, tabObj #[rawInt (66 : Nat), rawInt (4 : Nat), .ref c1]), (c1, oc1)]) (u2 := [(80, tabObj #[rawInt (81 : Nat), rawInt (4 : Nat), .ref c2]), (c2, oc2)]) h0 h1 ?_ ?_ ⟨_, .head _⟩ (fun t u => i2d_h hd1 hv1 h0 h1) (fun D c vs xs u hD hi hb hl => d2i_h hd2 hv2 hD hi hb hl)
    · intro p hp
      rcases List.mem_cons.mp hp with rfl | hp
      · exact .inl ⟨rfl, .inr ⟨_, rfl⟩⟩
      · rw [List.mem_singleton.mp hp]; exact .inr hc1
    · intro p hp
      rcases List.mem_cons.mp hp with rfl | hp
      · exact .inl ⟨rfl, .inr ⟨_, rfl⟩⟩
      · rw [List.mem_singleton.mp hp]; exact .inr hc2
end
theorem reset_T14 : True := by
  w_top off
  k_with_none
  (k_with "OM" => with_reducible first | assumption | decide | (refine Nat.ne_of_lt ?_; k_extra "OP") | (refine o_n ?_; k_extra "OP") | k_extra "OP" | exact o_1 | exact o_2 | exact o_3 | exact o_4 | exact o_5 | exact o_6 | exact o_7 | exact o_8 | exact o_9 | exact o_10 | exact o_11 | exact o_12 | exact o_13 | exact o_14 | exact o_15 | exact o_16 | exact o_17 | exact o_18 | exact o_s1 | exact o_s2 | exact o_s3 | exact o_s4 | exact o_s5 | exact o_s6 | exact o_s7 | exact o_s8 | exact o_s9 | exact o_s10 | exact o_s11 | exact o_s12 | exact o_s13 | exact o_s14 | exact o_s15 | exact o_s16 | exact o_r 1 | exact o_r 2 | exact o_r 3 | exact o_r 4 | exact o_r 5 | exact o_r 6 | exact o_r 7 | exact o_r 8 | exact o_r 9 | exact o_r 10 | exact o_r 11 | exact o_r 12 | exact o_r 13 | exact o_r 14 | exact o_r 15 | exact o_r 16 | exact o_u1 | exact o_u2 | exact o_u3 | exact o_e1 | exact o_e2 | exact o_e3 | exact o_e4 | exact o_m1 | exact o_c1 | exact o_c2 | exact o_c3 | exact o_c4 | exact o_c5 | exact o_n1 | exact o_n2 | exact o_n3 | exact o_n4 | exact o_d1 | fail)
  (k_with "OP" => first | k_extra "OB" | exact o_p1 | exact o_p2 | exact o_p3 | exact o_p4 | (refine o_l 1 ?_; k_extra "OB") | (refine o_l 2 ?_; k_extra "OB") | (refine o_l 3 ?_; k_extra "OB") | (refine o_l 4 ?_; k_extra "OB") | fail)
  (k_with "OB" => first | assumption | (refine o_pk ?_; k_extra "OK") | fail)
  (k_with "OK" => first | exact And.left | exact And.right | (refine o_sk ?_; k_extra "OK") | fail)
  (k_with "GO" => repeat' (first | (k_unfold; (try dsimp only)) | (k_end; wrow_close) | walk1 | (dsimp only; k_unfold; (try dsimp only)) | (dsimp only; walk1) | (leave1; (try dsimp only)) | fail "no step"))
  (k_with "ENTERR" => (
  refine specT_eps ?_
  refine (?_ : SpecT _ _ _ _ _ _ _) _ _ _ _ _ _ _ _ _ _ _ _ _ _ _ _ _ _ _ _ _ _ _
  intro p₉₉ loose₉₉ mean₉₉ mg₉₉ mb₉₉ dp₉₉ un₉₉ gd₉₉ cn₉₉ cs₉₉ a₉₉ ccd₉₉ cl₉₉ outer₉₉ A₀₉₉ base₉₉ h₀₉₉ L₉₉ m₉₉ rest₉₉ s₉₉ Q₉₉ E₉₉
  unfold SpecTB
  k_fill
  intro B₉₉ F₉₉ X₉₉ N₉₉ T₉₉ hk₉₉ hd₉₉ hu₉₉ hoff₉₉ hC₉₉ hret₉₉
  refine wpAny_call ?_
  k_dflt (refine' code_us ?k1 ?k2 ?k3 ?k4 ?k5 ?kA ?kF ?kK ?k6 ?k7 ?k8 ?k9 ?kB ?_ ?c2 ?c3 ?c4 ?c5; (case kA => exact rfl); (case kF => exact rfl); (case kK => assumption); (case k1 => k_asm); (case k2 => k_asm); (case k3 => k_asm); (case k4 => exact N₉₉); (case k5 => k_asm); (case k6 => k_is); (case k7 => k_is); (case k8 => ktr_room); (case k9 => exact BindsTo.of_eq (binds := [("a", .int _ _), ("b", .int _ _)]) (by with_unfolding_all rfl)); (case c5 => decide); (case kB => exact locs rfl); (case c2 => exact rfl); (case c3 => exact rfl); (case c4 => exact rfl); k_whole)
  intro g'₉₉ L'₉₉ h'₉₉ eL₉₉ eg₉₉ FG'₉₉ F'₉₉ N'₉₉ B'₉₉ X'₉₉ T'₉₉ lU₉₉
  (try dsimp only)
  k_fold
  have lV₉₉ := lU₉₉
  (try k_lt lU₉₉)
  replace hC₉₉ := And.intro (codeHd_get hC₉₉.1 (fun o e => eg₉₉ _ o (F₉₉.keep _ o e) (news_off9 N₉₉ e))) (codeHd_get hC₉₉.2 (fun o e => eg₉₉ _ o (F₉₉.keep _ o e) (news_off9 N₉₉ e)))
  clear F₉₉))
  first | walk1 | trivial
section
set_option Elab.async false
set_option maxRecDepth 100000
set_option maxHeartbeats 8000000
set_option pp.deepTerms false
set_option pp.maxSteps 4000
noncomputable def dm_pos_S (w : World) (a : Int) (t : Tok) (u : Tok) (us : List (Addr × Obj)) : Prop :=
  ∀ (h0 : 0 ≤ a) (h1 : a < 2 ^ 26) (hu : TabSt us),
    SpecT w 99 [.int a t, .int 256 u] 16 us (fun h => CodeHd h 77 73 ∧ CodeHd h 84 80) (DmPost (Int.fdiv a 256) (Int.fmod a 256))
theorem dm_pos {w : World} {a : Int} {t : Tok} {u : Tok} {us : List (Addr × Obj)} : dm_pos_S w a t u us := by
  refine eps_all (fun x : Sv => dm_pos_S x.w (x.int 0) (x.tok 0) (x.tok 1) (x.ol 0)) ?_ (Sv.mk w (default) ([]) (fun _ => none) (fun _ => {}) (fun _ => 0) (fun _ => a) (fun _ => (0 : Nat)) (fun i9 => [t, u].getD i9 t) (fun _ => .none) (fun _ => default) (fun _ => []) (fun _ => #[]) (fun _ => []) (fun _ => us) (fun _ => fun _ => none) (fun _ => {}) (fun _ => "") (fun _ => fun _ => "") (fun _ => none) (fun _ => #[]) (fun _ => none) (fun _ => default) (fun _ => none) (fun _ => []) (fun _ => []) (fun _ => {}) (fun _ => true) (fun _ _ => True) (fun _ => fun _ _ => True))
  clear us u t a w
  refine (?_ : ∀ (w : World) (a : Int) (t : Tok) (u : Tok) (us : List (Addr × Obj)), dm_pos_S w a t u us) _ _ _ _ _
  intro w a t u us h0 h1 hu
  have hS : ∀ t' u', SpecT w 92 [.int a t', .int 256 u'] 12 us (fun h => CodeHd h 77 73 ∧ CodeHd h 84 80) (DmPost (Int.fdiv a 256) (Int.fmod a 256)) := fun _ _ => dmp_all h0 h1 hu
  walk_at "ENTERR"
  (rename List (Addr × Obj) => rest9)
  (rename CodeHd _ _ _ ∧ CodeHd _ _ _ => hC9)
  walk_at "GO"
  all_goals (first | (exfalso; omega) | skip)
  (rename News _ _ _ _ => n0')
  k_dflt (refine' SpecT.use (hS _ _) rest9 ?k1 ?k2 ?k3 ?k4 ?k5 ?kK ?kd ?ku ?kus ?ko ?kc ?_; (case k1 => k_asm); (case k2 => k_asm); (case k3 => k_asm); (case k4 => exact n0'); (case k5 => k_asm); (case kK => first | exact rfl | assumption); (case kd => ktr_room); (case ku => ktr_units); (case kus => exact fun _ h => h); (case kc => exact hC9); (case ko => assumption))
  k_whole
  intro v1 new1 us1 h1' tk1 hp1 F1 N1 l1
  walk_at "GO"
  exact dm_pass (by assumption) hp1 (by assumption) (by assumption) l1
noncomputable def dm_neg_S (w : World) (a : Int) (t : Tok) (u : Tok) (us : List (Addr × Obj)) : Prop :=
  ∀ (h0 : a < 0) (h1 : -(2 ^ 26) < a) (hu : TabSt us),
    SpecT w 99 [.int a t, .int 256 u] 24 us (fun h => CodeHd h 77 73 ∧ CodeHd h 84 80) (DmPost (Int.fdiv a 256) (Int.fmod a 256))
theorem dm_neg {w : World} {a : Int} {t : Tok} {u : Tok} {us : List (Addr × Obj)} : dm_neg_S w a t u us := by
  refine eps_all (fun x : Sv => dm_neg_S x.w (x.int 0) (x.tok 0) (x.tok 1) (x.ol 0)) ?_ (Sv.mk w (default) ([]) (fun _ => none) (fun _ => {}) (fun _ => 0) (fun _ => a) (fun _ => (0 : Nat)) (fun i9 => [t, u].getD i9 t) (fun _ => .none) (fun _ => default) (fun _ => []) (fun _ => #[]) (fun _ => []) (fun _ => us) (fun _ => fun _ => none) (fun _ => {}) (fun _ => "") (fun _ => fun _ => "") (fun _ => none) (fun _ => #[]) (fun _ => none) (fun _ => default) (fun _ => none) (fun _ => []) (fun _ => []) (fun _ => {}) (fun _ => true) (fun _ _ => True) (fun _ => fun _ _ => True))
  clear us u t a w
  refine (?_ : ∀ (w : World) (a : Int) (t : Tok) (u : Tok) (us : List (Addr × Obj)), dm_neg_S w a t u us) _ _ _ _ _
  intro w a t u us h0 h1 hu
  have hnot : Builtin.bitNot a = -a - 1 := by unfold Builtin.bitNot; omega
  have hS : ∀ t' u', SpecT w 99 [.int (Builtin.bitNot a) t', .int 256 u'] 16 us (fun h => CodeHd h 77 73 ∧ CodeHd h 84 80) (DmPost (Int.fdiv (-a - 1) 256) (Int.fmod (-a - 1) 256)) := fun _ _ => by rw [hnot]; exact dm_pos (by omega) (by omega) hu
  walk_at "ENTERR"
  (rename List (Addr × Obj) => rest9)
  (rename CodeHd _ _ _ ∧ CodeHd _ _ _ => hC9)
  walk_at "GO"
  all_goals (first | (exfalso; omega) | skip)
  (rename News _ _ _ _ => n0')
  k_dflt (refine' SpecT.use (hS _ _) rest9 ?k1 ?k2 ?k3 ?k4 ?k5 ?kK ?kd ?ku ?kus ?ko ?kc ?_; (case k1 => k_asm); (case k2 => k_asm); (case k3 => k_asm); (case k4 => exact n0'); (case k5 => k_asm); (case kK => first | exact rfl | assumption); (case kd => ktr_room); (case ku => ktr_units); (case kus => exact fun _ h => h); (case kc => exact hC9); (case ko => assumption))
  k_whole
  intro v1 new1 us1 h1' tk1 hp1 F1 N1 l1
  obtain ⟨⟨D1, d1, tq, tr, e1, e2⟩, hg1⟩ := hp1
  subst e1; subst e2
  simp only [List.cons_append, List.nil_append] at N1
  walk_at "GO"
  have hfd : ∀ z : Int, z.fdiv 256 = z / 256 := fun z => Int.fdiv_eq_ediv_of_nonneg _ (by decide)
  have hfm : ∀ z : Int, z.fmod 256 = z % 256 := fun z => Int.fmod_eq_emod_of_nonneg _ (by decide)
  refine dm_neg_end (us' := us1) (by assumption) (by assumption) (by assumption) (by assumption) (.head _) (fun p hp => .tail _ (.tail _ hp)) hg1 (by assumption) ?_ ?_
  · simp only [hfd, Builtin.bitNot]; omega
  · simp only [hfm, Builtin.bitNot]; omega
theorem dm_spec {w : World} {a : Int} {t u : Tok} {us : List (Addr × Obj)} (h0 : -(2 ^ 26) < a) (h1 : a < 2 ^ 26) (hu : TabSt us) :
    SpecT w 99 [.int a t, .int 256 u] 24 us (fun h => CodeHd h 77 73 ∧ CodeHd h 84 80) (DmPost (Int.fdiv a 256) (Int.fmod a 256)) := by
  by_cases e0 : a < 0
  · exact dm_neg e0 h0 hu
  · exact (dm_pos (by omega) h1 hu).up (by omega)
end
theorem reset_Z3 : True := by
  w_top off
  k_with_none
  (k_with "OM" => with_reducible first | assumption | decide | (refine Nat.ne_of_lt ?_; k_extra "OP") | (refine o_n ?_; k_extra "OP") | k_extra "OP" | exact o_1 | exact o_2 | exact o_3 | exact o_4 | exact o_5 | exact o_6 | exact o_7 | exact o_8 | exact o_9 | exact o_10 | exact o_11 | exact o_12 | exact o_13 | exact o_14 | exact o_15 | exact o_16 | exact o_17 | exact o_18 | exact o_s1 | exact o_s2 | exact o_s3 | exact o_s4 | exact o_s5 | exact o_s6 | exact o_s7 | exact o_s8 | exact o_s9 | exact o_s10 | exact o_s11 | exact o_s12 | exact o_s13 | exact o_s14 | exact o_s15 | exact o_s16 | exact o_r 1 | exact o_r 2 | exact o_r 3 | exact o_r 4 | exact o_r 5 | exact o_r 6 | exact o_r 7 | exact o_r 8 | exact o_r 9 | exact o_r 10 | exact o_r 11 | exact o_r 12 | exact o_r 13 | exact o_r 14 | exact o_r 15 | exact o_r 16 | exact o_u1 | exact o_u2 | exact o_u3 | exact o_e1 | exact o_e2 | exact o_e3 | exact o_e4 | exact o_m1 | exact o_c1 | exact o_c2 | exact o_c3 | exact o_c4 | exact o_c5 | exact o_n1 | exact o_n2 | exact o_n3 | exact o_n4 | exact o_d1 | fail)
  (k_with "OP" => first | k_extra "OB" | exact o_p1 | exact o_p2 | exact o_p3 | exact o_p4 | (refine o_l 1 ?_; k_extra "OB") | (refine o_l 2 ?_; k_extra "OB") | (refine o_l 3 ?_; k_extra "OB") | (refine o_l 4 ?_; k_extra "OB") | fail)
  (k_with "OB" => first | assumption | (refine o_pk ?_; k_extra "OK") | fail)
  (k_with "OK" => first | exact And.left | exact And.right | (refine o_sk ?_; k_extra "OK") | fail)
  first | walk1 | trivial
section
set_option Elab.async false
set_option maxRecDepth 100000
set_option maxHeartbeats 4000000
set_option linter.unusedVariables false
namespace Z3
theorem typeCall (a b c : Value) : checkTypeCall "zip" ⟨[a, b, c], []⟩ = pure () := by kernel_rfl
theorem newCall (a b c : Value) : checkBuiltinCall "zip.__new__" ⟨[.type "zip", a, b, c], []⟩ = pure () := by kernel_rfl
theorem args_init (a b c d : Value) : argsOk "object.__init__" ⟨[a, b, c, d], []⟩ := by
  unfold argsOk; rw [signature?_of (id := "object.__init__") (n := ['_', '_', 't', 'i', 'n', 'i', '_', '_']) (o := ['t', 'c', 'e', 'j', 'b', 'o']) (by kernel_rfl) F.owner_object]; kernel_rfl
noncomputable abbrev IsTrip (h : Heap) (T : Addr) (a b c : Value) : Prop := h.get? T = some { cls := .type "tuple", data := .seq #[a, b, c] }
section
variable {prog : Program} {w : World} {A : Around} {E : Value → Shared → Prop} {s : Shared}
theorem upd {T : Addr} {a b c x : Value} {k : Nat} {Q : Unit → Shared → Prop} (hT : IsTrip s.heap T a b c)
    (h : ∀ h', h'.get? T = some { cls := .type "tuple", data := .seq ((#[a, b, c] : Array Value).setIfInBounds k x) } → Heap.SameBut T s.heap h' → Q () { s with heap := h' }) :
    wpAny (model prog w) A (updateSeq T (·.setIfInBounds k x)) Q E s := by
  refine wpAny_updateSeq hT rfl (h _ ?_ (Heap.SameBut.update ..))
  rw [Heap.get?_update_self _ hT rfl]
  simp [Obj.mapSeq]
/-- where the six objects of a zip of three lists stand -/
structure Ap (z TI TO i1 i2 i3 l1 l2 l3 : Addr) : Prop where
  TIz : TI ≠ z
  TOz : TO ≠ z
  i1z : i1 ≠ z
  i2z : i2 ≠ z
  i3z : i3 ≠ z
  TITO : TI ≠ TO
  TIi1 : TI ≠ i1
  TIi2 : TI ≠ i2
  TIi3 : TI ≠ i3
  TOi1 : TO ≠ i1
  TOi2 : TO ≠ i2
  TOi3 : TO ≠ i3
  i12 : i1 ≠ i2
  i13 : i1 ≠ i3
  i23 : i2 ≠ i3
  l1o : l1 ≠ z ∧ l1 ≠ TO ∧ l1 ≠ i1 ∧ l1 ≠ i2 ∧ l1 ≠ i3
  l2o : l2 ≠ z ∧ l2 ≠ TO ∧ l2 ≠ i1 ∧ l2 ≠ i2 ∧ l2 ≠ i3
  l3o : l3 ≠ z ∧ l3 ≠ TO ∧ l3 ≠ i1 ∧ l3 ≠ i2 ∧ l3 ≠ i3
theorem ap (I l1 l2 l3 : Nat) (h1 : l1 < I) (h2 : l2 < I) (h3 : l3 < I) : Ap (I + 5) (I + 3) (I + 4) I (I + 1) (I + 2) l1 l2 l3 := by
  constructor <;> (first | (refine neN ?_; omega) | (refine ⟨?_, ?_, ?_, ?_, ?_⟩ <;> (refine neN ?_; omega)))
theorem next_item {z TI TO i1 i2 i3 l1 l2 l3 : Addr} {k : Nat} {xs ys zs : Array Value} {x y u a b c : Value} {Q : Value → Shared → Prop} (D : Ap z TI TO i1 i2 i3 l1 l2 l3)
    (hz : IsZip s.heap z TI TO .none) (hTI : IsTrip s.heap TI (.ref i1) (.ref i2) (.ref i3)) (hTO : IsTrip s.heap TO a b c)
    (h1 : s.heap.IsListIter i1 l1 k) (h2 : s.heap.IsListIter i2 l2 k) (h3 : s.heap.IsListIter i3 l3 k) (hl1 : s.heap.IsList l1 xs) (hl2 : s.heap.IsList l2 ys) (hl3 : s.heap.IsList l3 zs) (hx : xs[k]? = some x) (hy : ys[k]? = some y) (hu : zs[k]? = some u)
    (hQ : ∀ h', IsZip h' z TI TO (rawInt s.heap.objs.size) → IsTrip h' TO x y u → h'.IsListIter i1 l1 (k + 1) → h'.IsListIter i2 l2 (k + 1) → h'.IsListIter i3 l3 (k + 1) → IsTrip h' s.heap.objs.size x y u → h'.objs.size = s.heap.objs.size + 1 →
      (∀ c o, c ≠ z → c ≠ TO → c ≠ i1 → c ≠ i2 → c ≠ i3 → s.heap.get? c = some o → h'.get? c = some o) → Q (.ref s.heap.objs.size) { s with heap := h' }) :
    wpAny (model prog w) A (Builtin.«zip.__next__» ⟨[.ref z], []⟩) (fun fin s' => ∃ v, fin = .done (.ret v) ∧ Q v s') E s := by
  show wpAny _ _ (field (.ref z) 2 >>= _) _ _ _
  refine wpAny_bind (wpAny_field hz rfl (x := .bool false) rfl ?_)
  show wpAny _ _ (field (.ref z) 3 >>= _) _ _ _
  refine wpAny_bind (wpAny_field hz rfl (x := .ref TI) rfl ?_)
  refine wpAny_bind (wpAny_seqItems hTI rfl ?_)
  show wpAny _ _ (Builtin.SmallTypes.ownedTupleIsFree (.ref z) >>= _) _ _ _
  refine wpAny_bind ?_
  unfold Builtin.SmallTypes.ownedTupleIsFree
  refine wpAny_bind (wpAny_field hz rfl (x := .none) rfl (wpAny_pure ?_))
  simp only [if_true]
  refine wpAny_bind (wpAny_rule ?_)
  refine wpAny_bind (wpAny_field hz rfl (x := .ref TO) rfl ?_)
  refine wpAny_bind (wpAny_setField_rec hz (by simp) fun h₁ hz₁ hs₁ => ?_)
  replace hz₁ : IsZip h₁ z TI TO .ellipsis := hz₁
  refine wpAny_bind ?_
  simp only [List.zipIdx_cons, List.zipIdx_nil, List.forIn_cons, List.forIn_nil]
  -- the first list
  refine wpAny_bind (wpAny_bind (wpAny_onRaise ?_))
  show wpAny _ _ (Builtin.SmallTypes.nextOf (.ref i1) >>= _) _ _ _
  refine wpAny_bind (wpAny_nextOf_list_item (h1.extBut hs₁.extBut D.i1z) (hl1.extBut hs₁.extBut D.l1o.1) hx fun h₂ h1₂ hs₂ => wpAny_pure ?_)
  have hTO₂ : IsTrip h₂ TO a b c := hs₂.extBut _ _ D.TOi1 (hs₁.extBut _ _ D.TOz hTO)
  refine wpAny_bind (wpAny_seqItems hTO₂ rfl ?_)
  refine wpAny_bind (upd hTO₂ fun h₃ hTO₃ hs₃ => ?_)
  replace hTO₃ : IsTrip h₃ TO x b c := hTO₃
  refine wpAny_bind (wpAny_letGo (wpAny_pure ?_))
  have up₃ : ∀ c o, c ≠ z → c ≠ TO → c ≠ i1 → s.heap.get? c = some o → h₃.get? c = some o := fun c o c1 c2 c3 e => hs₃.extBut _ _ c2 (hs₂.extBut _ _ c3 (hs₁.extBut _ _ c1 e))
  have h1₃ : h₃.IsListIter i1 l1 (k + 1) := h1₂.extBut hs₃.extBut D.TOi1.symm
  have hz₃ : IsZip h₃ z TI TO .ellipsis := hs₃.extBut _ _ D.TOz.symm (hs₂.extBut _ _ D.i1z.symm hz₁)
  -- the second
  refine wpAny_bind (wpAny_bind (wpAny_onRaise ?_))
  show wpAny _ _ (Builtin.SmallTypes.nextOf (.ref i2) >>= _) _ _ _
  refine wpAny_bind (wpAny_nextOf_list_item (h2.at fun o e => up₃ _ o D.i2z D.TOi2.symm D.i12.symm e) (hl2.at fun o e => up₃ _ o D.l2o.1 D.l2o.2.1 D.l2o.2.2.1 e) hy fun h₄ h2₄ hs₄ => wpAny_pure ?_)
  have hTO₄ : IsTrip h₄ TO x b c := hs₄.extBut _ _ D.TOi2 hTO₃
  refine wpAny_bind (wpAny_seqItems hTO₄ rfl ?_)
  refine wpAny_bind (upd hTO₄ fun h₅ hTO₅ hs₅ => ?_)
  replace hTO₅ : IsTrip h₅ TO x y c := hTO₅
  refine wpAny_bind (wpAny_letGo (wpAny_pure ?_))
  have up₅ : ∀ c o, c ≠ TO → c ≠ i2 → h₃.get? c = some o → h₅.get? c = some o := fun c o c2 c3 e => hs₅.extBut _ _ c2 (hs₄.extBut _ _ c3 e)
  have h2₅ : h₅.IsListIter i2 l2 (k + 1) := h2₄.extBut hs₅.extBut D.TOi2.symm
  -- the third
  refine wpAny_bind (wpAny_bind (wpAny_onRaise ?_))
  show wpAny _ _ (Builtin.SmallTypes.nextOf (.ref i3) >>= _) _ _ _
  refine wpAny_bind (wpAny_nextOf_list_item (h3.at fun o e => up₅ _ o D.TOi3.symm D.i23.symm (up₃ _ o D.i3z D.TOi3.symm D.i13.symm e)) (hl3.at fun o e => up₅ _ o D.l3o.2.1 D.l3o.2.2.2.1 (up₃ _ o D.l3o.1 D.l3o.2.1 D.l3o.2.2.1 e)) hu fun h₆ h3₆ hs₆ => wpAny_pure ?_)
  have hTO₆ : IsTrip h₆ TO x y c := hs₆.extBut _ _ D.TOi3 hTO₅
  refine wpAny_bind (wpAny_seqItems hTO₆ rfl ?_)
  refine wpAny_bind (upd hTO₆ fun h₇ hTO₇ hs₇ => ?_)
  replace hTO₇ : IsTrip h₇ TO x y u := hTO₇
  refine wpAny_bind (wpAny_letGo (wpAny_pure (wpAny_pure ?_)))
  have up₇ : ∀ c o, c ≠ TO → c ≠ i3 → h₅.get? c = some o → h₇.get? c = some o := fun c o c2 c3 e => hs₇.extBut _ _ c2 (hs₆.extBut _ _ c3 e)
  have h3₇ : h₇.IsListIter i3 l3 (k + 1) := h3₆.extBut hs₇.extBut D.TOi3.symm
  have h1₇ : h₇.IsListIter i1 l1 (k + 1) := h1₃.at fun o e => up₇ _ o D.TOi1.symm D.i13 (up₅ _ o D.TOi1.symm D.i12 e)
  have h2₇ : h₇.IsListIter i2 l2 (k + 1) := h2₅.at fun o e => up₇ _ o D.TOi2.symm D.i23 e
  have hz₇ : IsZip h₇ z TI TO .ellipsis := up₇ _ _ D.TOz.symm D.i3z.symm (up₅ _ _ D.TOz.symm D.i2z.symm hz₃)
  refine wpAny_bind (wpAny_seqItems hTO₇ rfl ?_)
  refine wpAny_bind (wpAny_newTuple ?_)
  have hsz : h₇.objs.size = s.heap.objs.size := by rw [hs₇.1, hs₆.1, hs₅.1, hs₄.1, hs₃.1, hs₂.1, hs₁.1]
  have hk₇ : ∀ c o, c ≠ z → c ≠ TO → c ≠ i1 → c ≠ i2 → c ≠ i3 → s.heap.get? c = some o → h₇.get? c = some o := fun c o c1 c2 c3 c4 c5 e => up₇ _ _ c2 c5 (up₅ _ _ c2 c4 (up₃ _ _ c1 c2 c3 e))
  have hzlt : z < h₇.objs.size := Heap.lt_size hz₇
  show wpAny _ _ (Builtin.SmallTypes.ownedTupleHandOut (.ref z) (.ref h₇.objs.size) >>= _) _ _ _
  refine wpAny_bind ?_
  unfold Builtin.SmallTypes.ownedTupleHandOut
  have hz₈ : IsZip (h₇.push { cls := .type "tuple", data := .seq #[x, y, u] }) z TI TO .ellipsis := Heap.get?_push_of_some _ hz₇
  refine wpAny_bind (wpAny_setField_rec hz₈ (by simp) fun h₉ hz₉ hs₉ => ?_)
  replace hz₉ : IsZip h₉ z TI TO (rawInt h₇.objs.size) := hz₉
  refine wpAny_setField_rec hz₉ (by simp) fun g hg hs₁₀ => ?_
  replace hg : IsZip g z TI TO (rawInt h₇.objs.size) := hg
  have up : ∀ c o, c ≠ z → h₇.get? c = some o → g.get? c = some o := fun c o c1 e => hs₁₀.extBut _ _ c1 (hs₉.extBut _ _ c1 (Heap.get?_push_of_some _ e))
  have hT : IsTrip g h₇.objs.size x y u := hs₁₀.extBut _ _ (Nat.ne_of_gt hzlt) (hs₉.extBut _ _ (Nat.ne_of_gt hzlt) (Heap.get?_push_size _ rfl))
  have hzg : g.objs.size = h₇.objs.size + 1 := by rw [hs₁₀.1, hs₉.1, Heap.size_push]
  rw [hsz] at hg hT hzg
  refine wpAny_pure ⟨_, rfl, ?_⟩
  show Q (.ref h₇.objs.size) _
  rw [hsz]
  exact hQ g hg (up _ _ D.TOz hTO₇) (h1₇.at fun o e => up _ o D.i1z e) (h2₇.at fun o e => up _ o D.i2z e) (h3₇.at fun o e => up _ o D.i3z e) hT hzg fun c o c1 c2 c3 c4 c5 e => up c o c1 (hk₇ c o c1 c2 c3 c4 c5 e)
/-- the first list has come to its end -/
theorem next_end {z TI TO i1 i2 i3 l1 l2 l3 : Addr} {k : Nat} {xs : Array Value} {a b c : Value} {Q : Fin → Shared → Prop} (hh : A.handled = none) (D : Ap z TI TO i1 i2 i3 l1 l2 l3)
    (hz : IsZip s.heap z TI TO .none) (hTI : IsTrip s.heap TI (.ref i1) (.ref i2) (.ref i3)) (hTO : IsTrip s.heap TO a b c)
    (h1 : s.heap.IsListIter i1 l1 k) (hl1 : s.heap.IsList l1 xs) (hend : xs[k]? = none)
    (hE : ∀ h' e, (∀ c o, c ≠ z → c ≠ TO → c ≠ i1 → s.heap.get? c = some o → h'.get? c = some o) → (∃ o, h'.get? e = some o ∧ o.cls = .type "StopIteration") → E (.ref e) { s with heap := h' }) :
    wpAny (model prog w) A (Builtin.«zip.__next__» ⟨[.ref z], []⟩) Q E s := by
  show wpAny _ _ (field (.ref z) 2 >>= _) _ _ _
  refine wpAny_bind (wpAny_field hz rfl (x := .bool false) rfl ?_)
  show wpAny _ _ (field (.ref z) 3 >>= _) _ _ _
  refine wpAny_bind (wpAny_field hz rfl (x := .ref TI) rfl ?_)
  refine wpAny_bind (wpAny_seqItems hTI rfl ?_)
  show wpAny _ _ (Builtin.SmallTypes.ownedTupleIsFree (.ref z) >>= _) _ _ _
  refine wpAny_bind ?_
  unfold Builtin.SmallTypes.ownedTupleIsFree
  refine wpAny_bind (wpAny_field hz rfl (x := .none) rfl (wpAny_pure ?_))
  simp only [if_true]
  refine wpAny_bind (wpAny_rule ?_)
  refine wpAny_bind (wpAny_field hz rfl (x := .ref TO) rfl ?_)
  refine wpAny_bind (wpAny_setField_rec hz (by simp) fun h₁ hz₁ hs₁ => ?_)
  replace hz₁ : IsZip h₁ z TI TO .ellipsis := hz₁
  refine wpAny_bind ?_
  simp only [List.zipIdx_cons, List.zipIdx_nil, List.forIn_cons, List.forIn_nil]
  refine wpAny_bind (wpAny_bind (wpAny_onRaise ?_))
  show wpAny _ _ (Builtin.SmallTypes.nextOf (.ref i1) >>= _) _ _ _
  refine wpAny_bind (wpAny_nextOf_list_end hh (h1.extBut hs₁.extBut D.i1z) (hl1.extBut hs₁.extBut D.l1o.1) hend fun h₂ e hs₂ he => ?_)
  obtain ⟨oe, hoe, hce⟩ := he
  have hz₂ : IsZip h₂ z TI TO .ellipsis := hs₂ _ _ D.i1z.symm hz₁
  have hez : e ≠ z := fun x => by subst x; rw [hz₂] at hoe; cases hoe; simp at hce
  refine wpAny_setField_rec hz₂ (by simp) fun h₃ _ hs₃ => hE h₃ e (fun c o c1 _ c3 x => hs₃.extBut _ _ c1 (hs₂ _ _ c3 (hs₁.extBut _ _ c1 x))) ⟨oe, hs₃.extBut _ _ hez hoe, hce⟩
theorem pyNext_item {z TI TO i1 i2 i3 l1 l2 l3 : Addr} {k : Nat} {xs ys zs : Array Value} {x y u a b c : Value} {Q : Option Value → Shared → Prop} (D : Ap z TI TO i1 i2 i3 l1 l2 l3)
    (hz : IsZip s.heap z TI TO .none) (hTI : IsTrip s.heap TI (.ref i1) (.ref i2) (.ref i3)) (hTO : IsTrip s.heap TO a b c)
    (h1 : s.heap.IsListIter i1 l1 k) (h2 : s.heap.IsListIter i2 l2 k) (h3 : s.heap.IsListIter i3 l3 k) (hl1 : s.heap.IsList l1 xs) (hl2 : s.heap.IsList l2 ys) (hl3 : s.heap.IsList l3 zs) (hx : xs[k]? = some x) (hy : ys[k]? = some y) (hu : zs[k]? = some u)
    (hQ : ∀ h', IsZip h' z TI TO (rawInt s.heap.objs.size) → IsTrip h' TO x y u → h'.IsListIter i1 l1 (k + 1) → h'.IsListIter i2 l2 (k + 1) → h'.IsListIter i3 l3 (k + 1) → IsTrip h' s.heap.objs.size x y u → h'.objs.size = s.heap.objs.size + 1 →
      (∀ c o, c ≠ z → c ≠ TO → c ≠ i1 → c ≠ i2 → c ≠ i3 → s.heap.get? c = some o → h'.get? c = some o) → Q (some (.ref s.heap.objs.size)) { s with heap := h' }) :
    wpAny (model prog w) A (pyNext (.ref z)) Q E s := by
  have hT : s.TypeIs (.ref z) "zip" := ⟨_, hz, rfl⟩
  unfold pyNext
  exact wpAny_bind (wpAny_attempt (wpAny_callSpecial?_slot (name := Str.ofString "__next__") hT F.slot_zip_next
    (wpAny_call_entry F.slot_zip_next hT F.entry_zip_next
      (next_item D hz hTI hTO h1 h2 h3 hl1 hl2 hl3 hx hy hu fun h' a1 a2 a3 a4 a5 a6 a7 a8 => wpAny_pure (hQ h' a1 a2 a3 a4 a5 a6 a7 a8)) (F.args_zip_next_1 _))))
theorem pyNext_end {z TI TO i1 i2 i3 l1 l2 l3 : Addr} {k : Nat} {xs : Array Value} {a b c : Value} {Q : Option Value → Shared → Prop} (hh : A.handled = none) (D : Ap z TI TO i1 i2 i3 l1 l2 l3)
    (hz : IsZip s.heap z TI TO .none) (hTI : IsTrip s.heap TI (.ref i1) (.ref i2) (.ref i3)) (hTO : IsTrip s.heap TO a b c)
    (h1 : s.heap.IsListIter i1 l1 k) (hl1 : s.heap.IsList l1 xs) (hend : xs[k]? = none)
    (hQ : ∀ h', (∀ c o, c ≠ z → c ≠ TO → c ≠ i1 → s.heap.get? c = some o → h'.get? c = some o) → Q none { s with heap := h' }) : wpAny (model prog w) A (pyNext (.ref z)) Q E s := by
  have hT : s.TypeIs (.ref z) "zip" := ⟨_, hz, rfl⟩
  unfold pyNext
  refine wpAny_bind (wpAny_attempt (wpAny_callSpecial?_slot (name := Str.ofString "__next__") hT F.slot_zip_next
    (wpAny_call_entry F.slot_zip_next hT F.entry_zip_next (next_end hh D hz hTI hTO h1 hl1 hend fun h' e hk he => ?_) (F.args_zip_next_1 _))))
  obtain ⟨o, ho, hc⟩ := he
  refine wpAny_bind (wpAny_isInstance (T := "StopIteration") (b := true) ⟨o, ho, hc⟩ isSubtype_stop ?_)
  exact wpAny_pure (hQ _ hk)
end
noncomputable abbrev H1 (h : Heap) (l1 : Addr) : Heap := h.push { cls := .type "list_iterator", data := .fields #[.ref l1, .int 0 0] }
noncomputable abbrev H2 (h : Heap) (l1 l2 : Addr) : Heap := (H1 h l1).push { cls := .type "list_iterator", data := .fields #[.ref l2, .int 0 0] }
noncomputable abbrev H3 (h : Heap) (l1 l2 l3 : Addr) : Heap := (H2 h l1 l2).push { cls := .type "list_iterator", data := .fields #[.ref l3, .int 0 0] }
noncomputable abbrev H4 (h : Heap) (l1 l2 l3 : Addr) : Heap := (H3 h l1 l2 l3).push { cls := .type "tuple", data := .seq #[.ref h.objs.size, .ref (H1 h l1).objs.size, .ref (H2 h l1 l2).objs.size] }
noncomputable abbrev H5 (h : Heap) (l1 l2 l3 : Addr) : Heap := (H4 h l1 l2 l3).push { cls := .type "tuple", data := .seq #[.none, .none, .none] }
noncomputable abbrev H6 (h : Heap) (l1 l2 l3 : Addr) : Heap := (H5 h l1 l2 l3).push { cls := .type "zip", data := .fields #[.none, .bool false, .bool false, .ref (H3 h l1 l2 l3).objs.size, .ref (H4 h l1 l2 l3).objs.size] }
theorem meets_new (l1 l2 l3 : Addr) (xs ys zs : Array Value) :
    Meets (Builtin.«zip.__new__» ⟨[.type "zip", .ref l1, .ref l2, .ref l3], []⟩) (fun _ R s => s.heap.IsList l1 xs ∧ s.heap.IsList l2 ys ∧ s.heap.IsList l3 zs ∧
      R (.ok (.ret (.ref (H5 s.heap l1 l2 l3).objs.size))) { s with heap := H6 s.heap l1 l2 l3 }) :=
  .of_wp fun prog w A R s h => by
    obtain ⟨hp, g, d, tk, os⟩ := s; obtain ⟨hl1, hl2, hl3, h⟩ := h
    have hsub := sub_zip
    have hL1 : Heap.IsList (Shared.heap ⟨hp, g, d, tk, os⟩) l1 xs := hl1
    have hL2 : Heap.IsList (Shared.heap ⟨hp.push { cls := .type "list_iterator", data := .fields #[.ref l1, .int 0 0] }, g, d, tk, os⟩) l2 ys := Heap.IsList.push hl2 _
    have hL3 : Heap.IsList (Shared.heap ⟨(hp.push { cls := .type "list_iterator", data := .fields #[.ref l1, .int 0 0] }).push { cls := .type "list_iterator", data := .fields #[.ref l2, .int 0 0] }, g, d, tk, os⟩) l3 zs := Heap.IsList.push (Heap.IsList.push hl3 _) _
    wp_walk using wpAny_pyIter_list hL1, wpAny_pyIter_list hL2, wpAny_pyIter_list hL3
    exact ⟨_, rfl, h⟩
section
variable {prog : Program} {w : World} {A : Around} {E : Value → Shared → Prop} {s : Shared}
theorem call_3 {l1 l2 l3 : Addr} {xs ys zs : Array Value} {Q : Value → Shared → Prop} (hl1 : s.heap.IsList l1 xs) (hl2 : s.heap.IsList l2 ys) (hl3 : s.heap.IsList l3 zs)
    (h : ∀ h', IsZip h' (s.heap.objs.size + 5) (s.heap.objs.size + 3) (s.heap.objs.size + 4) .none → IsTrip h' (s.heap.objs.size + 3) (.ref s.heap.objs.size) (.ref (s.heap.objs.size + 1)) (.ref (s.heap.objs.size + 2)) →
      IsTrip h' (s.heap.objs.size + 4) .none .none .none → h'.IsListIter s.heap.objs.size l1 0 → h'.IsListIter (s.heap.objs.size + 1) l2 0 → h'.IsListIter (s.heap.objs.size + 2) l3 0 → h'.objs.size = s.heap.objs.size + 6 →
      (∀ c o, s.heap.get? c = some o → h'.get? c = some o) → Q (.ref (s.heap.objs.size + 5)) { s with heap := h' }) :
    wpAny (model prog w) A (call (.type "zip") [.ref l1, .ref l2, .ref l3]) Q E s := by
  refine callType_new F.called_zip (by decide) (typeCall _ _ _) (newCall _ _ _) (fun obj => args_init obj _ _ _) F.entry_zip_new
    (meets_new l1 l2 l3 xs ys zs) ⟨hl1, hl2, hl3, ?_⟩
  have z1 : (H1 s.heap l1).objs.size = s.heap.objs.size + 1 := Heap.size_push ..
  have z2 : (H2 s.heap l1 l2).objs.size = s.heap.objs.size + 2 := by rw [Heap.size_push, z1]
  have z3 : (H3 s.heap l1 l2 l3).objs.size = s.heap.objs.size + 3 := by rw [Heap.size_push, z2]
  have z4 : (H4 s.heap l1 l2 l3).objs.size = s.heap.objs.size + 4 := by rw [Heap.size_push, z3]
  have z5 : (H5 s.heap l1 l2 l3).objs.size = s.heap.objs.size + 5 := by rw [Heap.size_push, z4]
  have z6 : (H6 s.heap l1 l2 l3).objs.size = s.heap.objs.size + 6 := by rw [Heap.size_push, z5]
  have P : ∀ {h : Heap} {o : Obj} {b : Addr} {o' : Obj}, h.get? b = some o' → (h.push o).get? b = some o' := fun e => Heap.get?_push_of_some _ e
  have g6 : (H6 s.heap l1 l2 l3).get? (H5 s.heap l1 l2 l3).objs.size = some _ := Heap.get?_push_size _ rfl
  have g5 : (H6 s.heap l1 l2 l3).get? (H4 s.heap l1 l2 l3).objs.size = some _ := P (Heap.get?_push_size _ rfl)
  have g4 : (H6 s.heap l1 l2 l3).get? (H3 s.heap l1 l2 l3).objs.size = some _ := P (P (Heap.get?_push_size _ rfl))
  have g3 : (H6 s.heap l1 l2 l3).get? (H2 s.heap l1 l2).objs.size = some _ := P (P (P (Heap.get?_push_size _ rfl)))
  have g2 : (H6 s.heap l1 l2 l3).get? (H1 s.heap l1).objs.size = some _ := P (P (P (P (Heap.get?_push_size _ rfl))))
  have g1 : (H6 s.heap l1 l2 l3).get? s.heap.objs.size = some _ := P (P (P (P (P (Heap.get?_push_size _ rfl)))))
  show _ ∧ _
  rw [z3, z4, z5] at g6
  rw [z4] at g5
  rw [z1, z2, z3] at g4
  rw [z2] at g3
  rw [z1] at g2
  rw [z5]
  exact ⟨⟨_, g6, rfl⟩, h _ g6 g4 g5 ⟨_, g1, rfl, rfl⟩ ⟨_, g2, rfl, rfl⟩ ⟨_, g3, rfl, rfl⟩ z6 fun c o x => P (P (P (P (P (P x)))))⟩
end
end Z3
end
theorem reset_Z3L : True := by
  w_top off
  k_with_none
  (k_with "OM" => with_reducible first | assumption | decide | (refine Nat.ne_of_lt ?_; k_extra "OP") | (refine o_n ?_; k_extra "OP") | k_extra "OP" | exact o_1 | exact o_2 | exact o_3 | exact o_4 | exact o_5 | exact o_6 | exact o_7 | exact o_8 | exact o_9 | exact o_10 | exact o_11 | exact o_12 | exact o_13 | exact o_14 | exact o_15 | exact o_16 | exact o_17 | exact o_18 | exact o_s1 | exact o_s2 | exact o_s3 | exact o_s4 | exact o_s5 | exact o_s6 | exact o_s7 | exact o_s8 | exact o_s9 | exact o_s10 | exact o_s11 | exact o_s12 | exact o_s13 | exact o_s14 | exact o_s15 | exact o_s16 | exact o_r 1 | exact o_r 2 | exact o_r 3 | exact o_r 4 | exact o_r 5 | exact o_r 6 | exact o_r 7 | exact o_r 8 | exact o_r 9 | exact o_r 10 | exact o_r 11 | exact o_r 12 | exact o_r 13 | exact o_r 14 | exact o_r 15 | exact o_r 16 | exact o_u1 | exact o_u2 | exact o_u3 | exact o_e1 | exact o_e2 | exact o_e3 | exact o_e4 | exact o_m1 | exact o_c1 | exact o_c2 | exact o_c3 | exact o_c4 | exact o_c5 | exact o_n1 | exact o_n2 | exact o_n3 | exact o_n4 | exact o_d1 | fail)
  (k_with "OP" => first | k_extra "OB" | exact o_p1 | exact o_p2 | exact o_p3 | exact o_p4 | (refine o_l 1 ?_; k_extra "OB") | (refine o_l 2 ?_; k_extra "OB") | (refine o_l 3 ?_; k_extra "OB") | (refine o_l 4 ?_; k_extra "OB") | fail)
  (k_with "OB" => first | assumption | (refine o_pk ?_; k_extra "OK") | fail)
  (k_with "OK" => first | exact And.left | exact And.right | (refine o_sk ?_; k_extra "OK") | fail)
  first | walk1 | trivial
section
set_option Elab.async false
set_option maxRecDepth 100000
set_option maxHeartbeats 4000000
set_option linter.unusedVariables false
namespace Z3
/-- the six objects of the zip, at work -/
structure ZS (I l1 l2 l3 : Nat) (i : Nat) (h : Heap) : Prop where
  z : IsZip h (I + 5) (I + 3) (I + 4) .none
  ti : IsTrip h (I + 3) (.ref I) (.ref (I + 1)) (.ref (I + 2))
  to : ∃ a b c, IsTrip h (I + 4) a b c
  a : h.IsListIter I l1 i
  b : h.IsListIter (I + 1) l2 i
  c : h.IsListIter (I + 2) l3 i
/-- no code object -/
noncomputable def Plain (o : Obj) : Prop := ∀ qn, ¬ CodeAt o qn
theorem Plain.seq {c : Value} {d : Option Addr} {vs : Array Value} {n : Nat} {sl : Array (Option Value)} : Plain ⟨c, d, .seq vs n, sl⟩ := fun qn ⟨ovs, tt, h, _⟩ => by cases h
theorem Plain.cell {o : Obj} {v : Option Value} (h : o.data = .cell v) : Plain o := fun qn ⟨ovs, tt, h', _⟩ => by rw [h] at h'; cases h'
theorem Plain.fields {o : Obj} {vs : Array Value} (h : o.data = .fields vs) (h1 : ∀ qn t, vs[1]? ≠ some (.str qn t)) : Plain o := fun qn ⟨ovs, tt, h', e⟩ => by rw [h] at h'; injection h' with h'; subst h'; exact h1 _ _ e
/-- apart from the zip's six objects -/
noncomputable def Apt (I : Nat) (l : List (Addr × Obj)) : Prop := ∀ p ∈ l, ∀ j, j < 6 → @Ne Nat p.1 (I + j)
theorem z_lt {i n : Nat} (h : i < n) : n + 1 - (i + 1) < n + 1 - i := Nat.sub_lt_sub_left (Nat.lt_succ_of_lt h) (Nat.lt_succ_self i)
theorem loop {prog : Program} {w : World} {A : Around} {env : Env} {h₀ : Heap} {s : Shared} {Q : Flow → Shared → Prop} {elts : List Expr} {k : Nat} {pos : Pos} {body : List Stmt} {σ : Type} (Led : σ → List (Addr × Obj)) (mf : σ → Str → Option Value) (Inv : Nat → σ → Prop)
    {I l1 l2 l3 : Nat} {xs ys zs : Array Value} {st0 : σ} (hA : A.handled = none) (hy : xs.size ≤ ys.size) (hz : xs.size ≤ zs.size) (D : Ap (I + 5) (I + 3) (I + 4) I (I + 1) (I + 2) l1 l2 l3)
    (hIL : @LT.lt Nat _ env.locals I) (hb : ∀ i st, Inv i st → Apt I (Led st))
    (m1 : ∀ st, ∃ n, (l1, ({ cls := .type "list", data := .seq xs n } : Obj)) ∈ Led st) (m2 : ∀ st, ∃ n, (l2, ({ cls := .type "list", data := .seq ys n } : Obj)) ∈ Led st) (m3 : ∀ st, ∃ n, (l3, ({ cls := .type "list", data := .seq zs n } : Obj)) ∈ Led st)
    (F : Fr h₀ env.locals s.heap (mf st0)) (N : News h₀ env.locals s.heap (Led st0)) (Z : ZS I l1 l2 l3 0 s.heap) (I0 : Inv 0 st0) (hI : ∀ j, h₀.get? (I + j) = none)
    (turn : ∀ i st x y u T h tk x0 x1 x2 x3 x4 x5, i < xs.size → xs[i]? = some x → ys[i]? = some y → zs[i]? = some u → Inv i st → @LT.lt Nat _ (I + 5) T → Plain x0 → Plain x1 → Plain x2 → Plain x3 → Plain x4 → Plain x5 → Fr h₀ env.locals h (mf st) →
      News h₀ env.locals h ((T, { cls := .type "tuple", data := .seq #[x, y, u] }) :: (Led st ++ [(I, x0), (I + 1, x1), (I + 2, x2), (I + 3, x3), (I + 4, x4), (I + 5, x5)])) →
      wpAny (model prog w) A (assign (.Tuple elts k pos) env (.ref T)) (fun _ s₂ => wpAny (model prog w) A (execs body env) (fun f s' => match f with
        | .next | .cont => ∃ h' tk' st', s' = { s with heap := h', toks := tk' } ∧ Inv (i + 1) st' ∧ Fr h₀ env.locals h' (mf st') ∧ News h₀ env.locals h' (Led st' ++ [(I, x0), (I + 1, x1), (I + 2, x2), (I + 3, x3), (I + 4, x4), (I + 5, x5)])
        | .brk => False
        | .ret _ => False) (fun _ _ => False) s₂) (fun _ _ => False) { s with heap := h, toks := tk })
    (done : ∀ st h tk, Inv xs.size st → Fr h₀ env.locals h (mf st) → News h₀ env.locals h (Led st) → Q .next { s with heap := h, toks := tk }) :
    codeAny (model prog w) A (.forLoop (.Tuple elts k pos) (.ref (I + 5)) body [] env) (fun r s' => match r with | .ok f => Q f s' | .error _ => False) s := by
  refine codeAny_forLoop_any (fun m s' => ∃ i st h tk, m = xs.size + 1 - i ∧ i ≤ xs.size ∧ Inv i st ∧ s' = { s with heap := h, toks := tk } ∧ Fr h₀ env.locals h (mf st) ∧ News h₀ env.locals h (Led st) ∧ ZS I l1 l2 l3 i h) ?_ (xs.size + 1)
    ⟨0, st0, s.heap, s.toks, rfl, Nat.zero_le _, I0, rfl, F, N, Z⟩
  intro m s' hx
  refine fold fun Z hZ => ?_
  obtain ⟨i, st, h, tk, em, hi, I1, es, F1, N1, Z1⟩ := hx
  obtain ⟨n1, e1⟩ := m1 st
  obtain ⟨n2, e2⟩ := m2 st
  obtain ⟨n3, e3⟩ := m3 st
  obtain ⟨a, b, c, hTO⟩ := Z1.to
  refine hZ ?_
  clear hZ Z
  subst em es
  have L1 : h.IsList l1 xs := ⟨_, (N1 _ e1).1, rfl, n1, rfl⟩
  have L2 : h.IsList l2 ys := ⟨_, (N1 _ e2).1, rfl, n2, rfl⟩
  have L3 : h.IsList l3 zs := ⟨_, (N1 _ e3).1, rfl, n3, rfl⟩
  have nI : ∀ b, @LT.lt Nat _ b I → b ≠ I + 5 ∧ b ≠ I + 4 ∧ b ≠ I ∧ b ≠ I + 1 ∧ b ≠ I + 2 := fun b hb => ⟨Nat.ne_of_lt (by omega), Nat.ne_of_lt (by omega), Nat.ne_of_lt (by omega), Nat.ne_of_lt (by omega), Nat.ne_of_lt (by omega)⟩
  have ap9 := hb i st I1
  have nL : ∀ p ∈ Led st, p.1 ≠ I + 5 ∧ p.1 ≠ I + 4 ∧ p.1 ≠ I ∧ p.1 ≠ I + 1 ∧ p.1 ≠ I + 2 := fun p hp => ⟨ap9 p hp 5 (by decide), ap9 p hp 4 (by decide), ap9 p hp 0 (by decide), ap9 p hp 1 (by decide), ap9 p hp 2 (by decide)⟩
  have frK : ∀ {h'}, (∀ c o, c ≠ I + 5 → c ≠ I + 4 → c ≠ I → c ≠ I + 1 → c ≠ I + 2 → h.get? c = some o → h'.get? c = some o) → Fr h₀ env.locals h' (mf st) ∧ News h₀ env.locals h' (Led st) := fun {h'} hk => by
    refine ⟨⟨let ⟨o, es, ep, e, r⟩ := F1.ns; ⟨o, es, ep, (let q := nI _ hIL; hk _ _ q.1 q.2.1 q.2.2.1 q.2.2.2.1 q.2.2.2.2 e), r⟩, fun b o e => ?_, F1.above⟩, fun p hp => ⟨(let q := nL p hp; hk _ _ q.1 q.2.1 q.2.2.1 q.2.2.2.1 q.2.2.2.2 (N1 p hp).1), (N1 p hp).2⟩⟩
    have ne : ∀ j, b ≠ I + j := fun j q => by rw [q, hI j] at e; cases e
    exact hk b o (ne 5) (ne 4) (ne 0) (ne 1) (ne 2) (F1.keep b o e)
  by_cases hlt : i < xs.size
  · have hx := Array.getElem?_eq_getElem hlt
    have hy' := Array.getElem?_eq_getElem (Nat.lt_of_lt_of_le hlt hy)
    have hz' := Array.getElem?_eq_getElem (Nat.lt_of_lt_of_le hlt hz)
    refine pyNext_item D Z1.z Z1.ti hTO Z1.a Z1.b Z1.c L1 L2 L3 hx hy' hz' fun h' a1 a2 a3 a4 a5 a6 a7 hk => ?_
    refine wpAny_letOwnedTupleGo_zip a1 fun h2 b1 hs => ?_
    obtain ⟨F2, N2⟩ := frK hk
    have hTlt : @LT.lt Nat _ (I + 5) h.objs.size := Heap.lt_size Z1.z
    have hzn : I + 5 ≠ env.locals := Nat.ne_of_gt (by omega)
    have F3 : Fr h₀ env.locals h2 (mf st) := ⟨F2.ns.sameBut hs (Ne.symm hzn), fun b o e => hs.extBut b o (fun q => by rw [q, hI 5] at e; cases e) (F2.keep b o e), F2.above⟩
    have N3 : News h₀ env.locals h2 (Led st) := fun p hp => ⟨hs.extBut _ _ (nL p hp).1 (N2 p hp).1, (N2 p hp).2⟩
    have c1 : IsTrip h2 h.objs.size _ _ _ := hs.extBut _ _ (Nat.ne_of_gt hTlt) a6
    have c2 : IsTrip h2 (I + 3) (.ref I) (.ref (I + 1)) (.ref (I + 2)) := hs.extBut _ _ D.TIz (hk _ _ D.TIz D.TITO D.TIi1 D.TIi2 D.TIi3 Z1.ti)
    have c3 : IsTrip h2 (I + 4) _ _ _ := hs.extBut _ _ D.TOz a2
    refine fold fun Z hZ => ?_
    obtain ⟨o1, g1, r1⟩ := a3.extBut hs.extBut D.i1z
    obtain ⟨o2, g2, r2⟩ := a4.extBut hs.extBut D.i2z
    obtain ⟨o3, g3, r3⟩ := a5.extBut hs.extBut D.i3z
    obtain ⟨o4, e4⟩ : ∃ o : Obj, o = { cls := .type "tuple", data := .seq #[.ref I, .ref (I + 1), .ref (I + 2)] } := ⟨_, rfl⟩
    obtain ⟨o5, e5⟩ : ∃ o : Obj, o = { cls := .type "tuple", data := .seq #[xs[i], ys[i]'(Nat.lt_of_lt_of_le hlt hy), zs[i]'(Nat.lt_of_lt_of_le hlt hz)] } := ⟨_, rfl⟩
    obtain ⟨o6, e6⟩ : ∃ o : Obj, o = { cls := .type "zip", dict := none, data := .fields #[.none, .bool false, .bool false, .ref (I + 3), .ref (I + 4)], slots := #[] } := ⟨_, rfl⟩
    refine hZ ?_
    clear hZ Z
    have g4 : h2.get? (I + 3) = some o4 := by rw [e4]; exact c2
    have g5 : h2.get? (I + 4) = some o5 := by rw [e5]; exact c3
    have g6 : h2.get? (I + 5) = some o6 := by rw [e6]; exact b1
    have six : ∀ j, (I + j) ≠ env.locals := fun j => Nat.ne_of_gt (by omega)
    have N4 : News h₀ env.locals h2 ((h.objs.size, { cls := .type "tuple", data := .seq #[xs[i], ys[i]'(Nat.lt_of_lt_of_le hlt hy), zs[i]'(Nat.lt_of_lt_of_le hlt hz)] }) :: (Led st ++ [(I, o1), (I + 1, o2), (I + 2, o3), (I + 3, o4), (I + 4, o5), (I + 5, o6)])) := fun p hp => by
      rcases List.mem_cons.mp hp with rfl | hp
      · exact ⟨c1, Nat.ne_of_gt (by omega), ktu_new F1 (Nat.le_refl _)⟩
      rcases List.mem_append.mp hp with hp | hp
      · exact N3 p hp
      simp only [List.mem_cons, List.not_mem_nil, or_false] at hp
      rcases hp with rfl | rfl | rfl | rfl | rfl | rfl
      · exact ⟨g1, six 0, hI 0⟩
      · exact ⟨g2, six 1, hI 1⟩
      · exact ⟨g3, six 2, hI 2⟩
      · exact ⟨g4, six 3, hI 3⟩
      · exact ⟨g5, six 4, hI 4⟩
      · exact ⟨g6, six 5, hI 5⟩
    refine wpAny_noE (wpAny_mono (turn i st _ _ _ h.objs.size h2 tk o1 o2 o3 o4 o5 o6 hlt hx hy' hz' I1 hTlt (Plain.fields r1.2 (by intro qn t e; simp at e)) (Plain.fields r2.2 (by intro qn t e; simp at e)) (Plain.fields r3.2 (by intro qn t e; simp at e)) (by rw [e4]; exact Plain.seq) (by rw [e5]; exact Plain.seq) (by rw [e6]; exact Plain.fields rfl (by intro qn t e; simp at e)) F3 N4) (fun _ s₂ h₂ => ?_) fun _ _ e => e)
    refine wpAny_noE (wpAny_mono h₂ (fun f s₃ h₃ => ?_) fun _ _ e => e)
    have fin : (∃ h' tk' st', s₃ = { s with heap := h', toks := tk' } ∧ Inv (i + 1) st' ∧ Fr h₀ env.locals h' (mf st') ∧ News h₀ env.locals h' (Led st' ++ [(I, o1), (I + 1, o2), (I + 2, o3), (I + 3, o4), (I + 4, o5), (I + 5, o6)])) → ∃ m, m < xs.size + 1 - i ∧ ∃ i st h tk, m = xs.size + 1 - i ∧ i ≤ xs.size ∧ Inv i st ∧ s₃ = { s with heap := h, toks := tk } ∧ Fr h₀ env.locals h (mf st) ∧ News h₀ env.locals h (Led st) ∧ ZS I l1 l2 l3 i h := by
      intro hx
      refine fold fun Z hZ => ?_
      obtain ⟨h', tk', st', es, I', F', N'⟩ := hx
      refine hZ ?_
      clear hZ Z
      subst es
      have M : ∀ {p}, p ∈ [(I, o1), (I + 1, o2), (I + 2, o3), (I + 3, o4), (I + 4, o5), (I + 5, o6)] → h'.get? p.1 = some p.2 := fun hp => (N' _ (List.mem_append_right _ hp)).1
      refine ⟨xs.size + 1 - (i + 1), z_lt hlt, i + 1, st', h', tk', rfl, hlt, I', rfl, F', fun p hp => N' p (List.mem_append_left _ hp), ⟨?_, ?_, ⟨xs[i], ys[i]'(Nat.lt_of_lt_of_le hlt hy), zs[i]'(Nat.lt_of_lt_of_le hlt hz), ?_⟩, ⟨o1, ?_, r1⟩, ⟨o2, ?_, r2⟩, ⟨o3, ?_, r3⟩⟩⟩
      · show h'.get? _ = some _; rw [← e6]; exact M (.tail _ (.tail _ (.tail _ (.tail _ (.tail _ (.head _))))))
      · show h'.get? _ = some _; rw [← e4]; exact M (.tail _ (.tail _ (.tail _ (.head _))))
      · show h'.get? _ = some _; rw [← e5]; exact M (.tail _ (.tail _ (.tail _ (.tail _ (.head _)))))
      · exact M (.head _)
      · exact M (.tail _ (.head _))
      · exact M (.tail _ (.tail _ (.head _)))
    cases f with
    | next => exact fin h₃
    | cont => exact fin h₃
    | brk => exact h₃.elim
    | ret v => exact h₃.elim
  · obtain rfl : i = xs.size := Nat.le_antisymm hi (Nat.le_of_not_lt hlt)
    refine pyNext_end hA D Z1.z Z1.ti hTO Z1.a L1 (by simp) fun h' hk => ?_
    obtain ⟨F2, N2⟩ := frK fun c o c1 c2 c3 _ _ e => hk c o c1 c2 c3 e
    exact wpAny_execs_nil (done st h' tk I1 F2 N2)
end Z3
end
section
local macro_rules | `(tactic| walk_at "exec For Name Name cons nil") => `(tactic| (k_here; (rename Fr _ _ _ _ => lF'); (with_unfolding_all refine' For_invVF lF' ?k1 ?k2 ?_; (case k1 => exact rfl); (case k2 => exact rfl); k_whole)))
local macro_rules | `(tactic| walk_at "pyIter ref") => `(tactic| ((with_reducible show wpAny _ _ (pyIter (Value.ref _)) (fun it s₂ => LoopAtV _ _ _ _ _ _ _ _ _ it s₂) _ _); k_listUnr))
local macro_rules | `(tactic| walk_at "exec For Name Subscript cons nil") => `(tactic| (k_here; (rename Fr _ _ _ _ => lF'); (with_unfolding_all refine' For_invVF lF' ?k1 ?k2 ?_; (case k1 => exact rfl); (case k2 => exact rfl); k_whole)))
theorem reset_PE : True := by
  w_top off
  k_with_none
  (k_with "OM" => with_reducible first | assumption | decide | (refine Nat.ne_of_lt ?_; k_extra "OP") | (refine o_n ?_; k_extra "OP") | k_extra "OP" | exact o_1 | exact o_2 | exact o_3 | exact o_4 | exact o_5 | exact o_6 | exact o_7 | exact o_8 | exact o_9 | exact o_10 | exact o_11 | exact o_12 | exact o_13 | exact o_14 | exact o_15 | exact o_16 | exact o_17 | exact o_18 | exact o_s1 | exact o_s2 | exact o_s3 | exact o_s4 | exact o_s5 | exact o_s6 | exact o_s7 | exact o_s8 | exact o_s9 | exact o_s10 | exact o_s11 | exact o_s12 | exact o_s13 | exact o_s14 | exact o_s15 | exact o_s16 | exact o_r 1 | exact o_r 2 | exact o_r 3 | exact o_r 4 | exact o_r 5 | exact o_r 6 | exact o_r 7 | exact o_r 8 | exact o_r 9 | exact o_r 10 | exact o_r 11 | exact o_r 12 | exact o_r 13 | exact o_r 14 | exact o_r 15 | exact o_r 16 | exact o_u1 | exact o_u2 | exact o_u3 | exact o_e1 | exact o_e2 | exact o_e3 | exact o_e4 | exact o_m1 | exact o_c1 | exact o_c2 | exact o_c3 | exact o_c4 | exact o_c5 | exact o_n1 | exact o_n2 | exact o_n3 | exact o_n4 | exact o_d1 | fail)
  (k_with "OP" => first | k_extra "OB" | exact o_p1 | exact o_p2 | exact o_p3 | exact o_p4 | (refine o_l 1 ?_; k_extra "OB") | (refine o_l 2 ?_; k_extra "OB") | (refine o_l 3 ?_; k_extra "OB") | (refine o_l 4 ?_; k_extra "OB") | fail)
  (k_with "OB" => first | assumption | (refine o_pk ?_; k_extra "OK") | fail)
  (k_with "OK" => first | exact And.left | exact And.right | (refine o_sk ?_; k_extra "OK") | fail)
  (k_with "GO" => repeat' (first | (k_unfold; (try dsimp only)) | (k_end; wrow_close) | walk1 | (dsimp only; k_unfold; (try dsimp only)) | (dsimp only; walk1) | (leave1; (try dsimp only)) | fail "no step"))
  first | walk1 | trivial
section
set_option Elab.async false
set_option maxRecDepth 100000
set_option maxHeartbeats 8000000
set_option pp.deepTerms false
set_option pp.maxSteps 400
theorem pow_small (k : Nat) (h : k ≤ 8) : (1 : Int) ≤ 2 ^ k ∧ (2 : Int) ^ k ≤ 256 := by
  match k, h with
  | 0, _ | 1, _ | 2, _ | 3, _ | 4, _ | 5, _ | 6, _ | 7, _ | 8, _ => decide
  | n + 9, h => omega
theorem num_ok (Y n : Int) : -6000 < Y.fmod 256 + 2 ^ (n.fmod 9).toNat * ((n.fdiv 9).fmod 41 - 20) ∧ Y.fmod 256 + 2 ^ (n.fmod 9).toNat * ((n.fdiv 9).fmod 41 - 20) < 6000 := by
  have a1 := Int.fmod_nonneg_of_pos Y (show (0 : Int) < 256 by decide)
  have a2 := Int.fmod_lt_of_pos Y (show (0 : Int) < 256 by decide)
  have b1 := Int.fmod_nonneg_of_pos n (show (0 : Int) < 9 by decide)
  have b2 := Int.fmod_lt_of_pos n (show (0 : Int) < 9 by decide)
  have c1 := Int.fmod_nonneg_of_pos (n.fdiv 9) (show (0 : Int) < 41 by decide)
  have c2 := Int.fmod_lt_of_pos (n.fdiv 9) (show (0 : Int) < 41 by decide)
  obtain ⟨p1, p2⟩ := pow_small (n.fmod 9).toNat (by omega)
  generalize (2 : Int) ^ (n.fmod 9).toNat = P at *
  generalize hV : (n.fdiv 9).fmod 41 - 20 = V at *
  have v1 : -20 ≤ V := by omega
  have v2 : V ≤ 20 := by omega
  have q1 : P * V ≤ P * 20 := Int.mul_le_mul_of_nonneg_left v2 (by omega)
  have q2 : P * (-20) ≤ P * V := Int.mul_le_mul_of_nonneg_left v1 (by omega)
  constructor <;> omega
theorem wp_storeInt9 {M : Model} {A : Around} {x : Str} {v : Int} {t : Tok} {env : Env} {Q : Unit → Shared → Prop} {E : Value → Shared → Prop} {s : Shared} (h : ∀ t, wpAny M A (storeName env x (.int v t)) Q E s) : wpAny M A (storeName env x (.int v t)) Q E s := h t
theorem reg_PE_10 : True := by
  (k_with "storeName" => (k_here; dsimp only; (try (refine wp_storeInt9 ?_; intro t9₉₉))))
  trivial
noncomputable def pE_S (w : World) (p : Program) (loose : List Str) (mean : ExcName → Option Value) (mg : Str → Option Value) (mb : Str → Option Value) (h₀ : Heap) (L : Addr) (f : Addr) (cd : Value) (m : Str → Option Value) (s : Shared) (U : Int) (D : Int) (n : Int) (n1 : Int) (n2 : Int) (n3 : Int) (vs : List Value) (vs8 : List Value) (R : Addr) (M : Addr) (Z : Addr) (c : Nat) (c8 : Nat) (ct : Nat) (o1 : Obj) (o2 : Obj) (o3 : Obj) (o4 : Obj) (tu : Tok) (td : Tok) (u0 : Tok) (u1 : Tok) (u2 : Tok) (u3 : Tok) (p1 : Array Value) (p2 : Array Value) (Q : Flow → Shared → Prop) : Prop :=
  ∀ (hU : -(2 ^ 16) < U ∧ U < 2 ^ 16) (hD : -(2 ^ 8) < D ∧ D < 2 ^ 8) (r0 : 0 ≤ n ∧ n < 2 ^ 26) (r1 : 0 ≤ n1 ∧ n1 < 2 ^ 26) (r2 : 0 ≤ n2 ∧ n2 < 2 ^ 26) (r3 : 0 ≤ n3 ∧ n3 < 2 ^ 26) (B : Below callerA h₀ [] h₀) (F : Fr h₀ L s.heap m) (X : (hd.heap_39 w.params).In h₀) (T : Top p loose mean mg mb h₀) (mU : m "upper" = some (.int U tu)) (mD : m "lower" = some (.int D td)) (mZ : m "seeds" = some (.ref Z)) (N : News h₀ L s.heap [(R, listOf vs8.toArray c8), (M, listOf vs.toArray c), (Z, listOf #[.int n u0, .int n1 u1, .int n2 u2, .int n3 u3] ct), (L + 4, o4), (L + 3, o3), (L + 2, o2), (L + 1, o1), (80, tabObj p1), (73, tabObj p2)]) (hret : ∀ h' tk' m' (y1 y2 y3 : Int) (t1 t2 t3 : Tok) (W : Addr) (cw : Nat), (-6000 < y1 ∧ y1 < 6000) → (-6000 < y2 ∧ y2 < 6000) → (-6000 < y3 ∧ y3 < 6000) → m' "numbers" = some (.ref W) → (∀ y : Str, y ≠ "turn" → y ≠ "again" → y ≠ "numbers" → y ≠ "seed" → m' y = m y) →
    Fr h₀ L h' m' → News h₀ L h' [(W, listOf #[.int y1 t1, .int y2 t2, .int y3 t3] cw), (R, listOf vs8.toArray c8), (M, listOf vs.toArray c), (Z, listOf #[.int n u0, .int n1 u1, .int n2 u2, .int n3 u3] ct), (L + 4, o4), (L + 3, o3), (L + 2, o2), (L + 1, o1), (80, tabObj p1), (73, tabObj p2)] → Q .next { s with heap := h', toks := tk' }),
    wpAny (model PySem.Challenge.rw_zo0033_01.row.prog w) (lawTop L f cd) (execs [st 11, st 12, st 13, st 14] (lawEnv L f cd)) Q (fun _ _ => False) s
theorem pE {w : World} {p : Program} {loose : List Str} {mean : ExcName → Option Value} {mg : Str → Option Value} {mb : Str → Option Value} {h₀ : Heap} {L : Addr} {f : Addr} {cd : Value} {m : Str → Option Value} {s : Shared} {U : Int} {D : Int} {n : Int} {n1 : Int} {n2 : Int} {n3 : Int} {vs : List Value} {vs8 : List Value} {R : Addr} {M : Addr} {Z : Addr} {c : Nat} {c8 : Nat} {ct : Nat} {o1 : Obj} {o2 : Obj} {o3 : Obj} {o4 : Obj} {tu : Tok} {td : Tok} {u0 : Tok} {u1 : Tok} {u2 : Tok} {u3 : Tok} {p1 : Array Value} {p2 : Array Value} {Q : Flow → Shared → Prop} : pE_S w p loose mean mg mb h₀ L f cd m s U D n n1 n2 n3 vs vs8 R M Z c c8 ct o1 o2 o3 o4 tu td u0 u1 u2 u3 p1 p2 Q := by
  refine eps_all (fun x : Sv => pE_S x.w x.p x.loose x.mean (x.mf 0) (x.mf 1) (x.hp 0) (x.ad 0) (x.ad 1) (x.val 0) (x.mf 2) (x.sh 0) (x.int 0) (x.int 1) (x.int 2) (x.int 3) (x.int 4) (x.int 5) (x.vl 0) (x.vl 1) (x.ad 2) (x.ad 3) (x.ad 4) (x.nat 0) (x.nat 1) (x.nat 2) (x.ob 0) (x.ob 1) (x.ob 2) (x.ob 3) (x.tok 0) (x.tok 1) (x.tok 2) (x.tok 3) (x.tok 4) (x.tok 5) (x.va 0) (x.va 1) x.qf) ?_ (Sv.mk w p loose mean (fun _ => h₀) (fun i => [c, c8, ct].getD i c) (fun i => [U, D, n, n1, n2, n3].getD i U) (fun i => [L, f, R, M, Z].getD i L) (fun i => [tu, td, u0, u1, u2, u3].getD i tu) (fun _ => cd) (fun i => [o1, o2, o3, o4].getD i o1) (fun i => [vs, vs8].getD i vs) (fun i => [p1, p2].getD i p1) (fun _ => []) (fun _ => []) (fun i => [mg, mb, m].getD i mg) (fun _ => s) (fun _ => "") (fun _ => fun _ => "") (fun _ => none) (fun _ => #[]) (fun _ => none) (fun _ => default) (fun _ => none) (fun _ => []) (fun _ => []) (fun _ => {}) (fun _ => true) Q (fun _ => fun _ _ => True))
  clear Q p2 p1 u3 u2 u1 u0 td tu o4 o3 o2 o1 ct c8 c Z M R vs8 vs n3 n2 n1 n D U s m cd f L h₀ mb mg mean loose p w
  refine (?_ : ∀ (w : World) (p : Program) (loose : List Str) (mean : ExcName → Option Value) (mg : Str → Option Value) (mb : Str → Option Value) (h₀ : Heap) (L : Addr) (f : Addr) (cd : Value) (m : Str → Option Value) (s : Shared) (U : Int) (D : Int) (n : Int) (n1 : Int) (n2 : Int) (n3 : Int) (vs : List Value) (vs8 : List Value) (R : Addr) (M : Addr) (Z : Addr) (c : Nat) (c8 : Nat) (ct : Nat) (o1 : Obj) (o2 : Obj) (o3 : Obj) (o4 : Obj) (tu : Tok) (td : Tok) (u0 : Tok) (u1 : Tok) (u2 : Tok) (u3 : Tok) (p1 : Array Value) (p2 : Array Value) (Q : Flow → Shared → Prop), pE_S w p loose mean mg mb h₀ L f cd m s U D n n1 n2 n3 vs vs8 R M Z c c8 ct o1 o2 o3 o4 tu td u0 u1 u2 u3 p1 p2 Q) _ _ _ _ _ _ _ _ _ _ _ _ _ _ _ _ _ _ _ _ _ _ _ _ _ _ _ _ _ _ _ _ _ _ _ _ _ _ _
  intro w p loose mean mg mb h₀ L f cd m s U D n n1 n2 n3 vs vs8 R M Z c c8 ct o1 o2 o3 o4 tu td u0 u1 u2 u3 p1 p2 Q hU hD r0 r1 r2 r3 B F X T mU mD mZ N hret
  revert X; k_fill; intro X
  obtain ⟨m, rfl⟩ : ∃ m9, m = fun z : Str => if z = "upper" then some (.int U tu) else if z = "lower" then some (.int D td) else if z = "seeds" then some (.ref Z) else m9 z := ⟨m, by
    funext z
    by_cases hz : z = "upper"
    · subst hz; rw [if_pos rfl]; exact mU
    rw [if_neg hz]; clear hz
    by_cases hz : z = "lower"
    · subst hz; rw [if_pos rfl]; exact mD
    rw [if_neg hz]; clear hz
    by_cases hz : z = "seeds"
    · subst hz; rw [if_pos rfl]; exact mZ
    rw [if_neg hz]⟩
  unfold lawTop lawEnv
  rw [lawCells_is]
  generalize hS : lawScope = S
  (conv at hS => lhs; whnf)
  subst hS
  generalize hS : st 11 = S
  (conv at hS => lhs; whnf)
  subst hS
  generalize hS : st 12 = S
  (conv at hS => lhs; whnf)
  subst hS
  generalize hS : st 13 = S
  (conv at hS => lhs; whnf)
  subst hS
  generalize hS : st 14 = S
  (conv at hS => lhs; whnf)
  subst hS
  walk_at "GO"
  (rename Fr _ _ _ _ => f9)
  (rename News _ _ _ _ => n9)
  refine hret _ _ _ _ _ _ _ _ _ _ _ ?_ ?_ ?_ (by rfl) ?_ f9 (n9_mem n9 (by kcj_all))
  · exact num_ok _ _
  · exact num_ok _ _
  · exact num_ok _ _
  · intro y h1 h2 h3 h4
    simp only [if_neg h1, if_neg h2, if_neg h3, if_neg h4]
end
theorem reset_PF : True := by
  w_top off
  k_with_none
  (k_with "OM" => with_reducible first | assumption | decide | (refine Nat.ne_of_lt ?_; k_extra "OP") | (refine o_n ?_; k_extra "OP") | k_extra "OP" | exact o_1 | exact o_2 | exact o_3 | exact o_4 | exact o_5 | exact o_6 | exact o_7 | exact o_8 | exact o_9 | exact o_10 | exact o_11 | exact o_12 | exact o_13 | exact o_14 | exact o_15 | exact o_16 | exact o_17 | exact o_18 | exact o_s1 | exact o_s2 | exact o_s3 | exact o_s4 | exact o_s5 | exact o_s6 | exact o_s7 | exact o_s8 | exact o_s9 | exact o_s10 | exact o_s11 | exact o_s12 | exact o_s13 | exact o_s14 | exact o_s15 | exact o_s16 | exact o_r 1 | exact o_r 2 | exact o_r 3 | exact o_r 4 | exact o_r 5 | exact o_r 6 | exact o_r 7 | exact o_r 8 | exact o_r 9 | exact o_r 10 | exact o_r 11 | exact o_r 12 | exact o_r 13 | exact o_r 14 | exact o_r 15 | exact o_r 16 | exact o_u1 | exact o_u2 | exact o_u3 | exact o_e1 | exact o_e2 | exact o_e3 | exact o_e4 | exact o_m1 | exact o_c1 | exact o_c2 | exact o_c3 | exact o_c4 | exact o_c5 | exact o_n1 | exact o_n2 | exact o_n3 | exact o_n4 | exact o_d1 | fail)
  (k_with "OP" => first | k_extra "OB" | exact o_p1 | exact o_p2 | exact o_p3 | exact o_p4 | (refine o_l 1 ?_; k_extra "OB") | (refine o_l 2 ?_; k_extra "OB") | (refine o_l 3 ?_; k_extra "OB") | (refine o_l 4 ?_; k_extra "OB") | fail)
  (k_with "OB" => first | assumption | (refine o_pk ?_; k_extra "OK") | fail)
  (k_with "OK" => first | exact And.left | exact And.right | (refine o_sk ?_; k_extra "OK") | fail)
  (k_with "GO" => repeat' (first | (k_unfold; (try dsimp only)) | (k_end; wrow_close) | walk1 | (dsimp only; k_unfold; (try dsimp only)) | (dsimp only; walk1) | (leave1; (try dsimp only)) | fail "no step"))
  first | walk1 | trivial
section
set_option Elab.async false
set_option maxRecDepth 100000
set_option maxHeartbeats 8000000
set_option pp.deepTerms false
set_option pp.maxSteps 4000
local macro_rules | `(tactic| walk_at "exec Assign cons ListComp") => `(tactic| (k_here; k_dflt (refine LCg.Assign_ListComp_U (F₀ := by k_asm) (by rfl) (by with_unfolding_all rfl) (by with_unfolding_all rfl) (by decide) (by rfl) (by decide) (by rfl) (by rfl) (by rfl) ?_); k_dflt lcg_toSrc))
local macro_rules | `(tactic| walk_at "CompSrc") => `(tactic| (k_here; k_dflt (refine LCg.CompSrc.ledger (by rfl) (by k_asm) (by k_asm) (by k_mem) (by first | size_fits | exact Nat.le_of_ble_eq_true rfl) ?_; intro g'; lcg_lit)))
local macro_rules | `(tactic| walk_at "CompEnd") => `(tactic| lcg_end)
local macro_rules | `(tactic| walk_at "CompRest") => `(tactic| (with_unfolding_all first
  | (refine LCg.CompRest.succ ?_; intro v' I' oI' C' oC' D' m' h' tk' E' hv' hC' hx' F' N' off' ne'; lcg_open hv')
  | refine LCg.CompRest.zero ?_))
local macro_rules | `(tactic| lcg_off) => `(tactic| first | exact True.intro | assumption | (refine And.intro ⟨by k_ne, by k_ne, by k_ne⟩ ?_; lcg_off))
theorem reg_PF_12 : True := by
  (k_with "call ref" => (k_here; k_dflt (first | (refine' Spec.use (walk_spec ?s1 ?s2) ?k1 ?k2 ?k3 ?k4 ?k5 ?kK ?kd ?ku ?kus ?kp ?_; (case s1 => assumption); (case s2 => assumption); (case k1 => k_asm); (case k2 => k_asm); (case k3 => k_asm); (case k4 => k_asm); (case k5 => k_asm); (case kK => first | exact rfl | assumption); (case kd => ktr_room); (case ku => first | ktr_units | (have hcL9₉₉ := cLine_is; (simp only [units_in1, units_deeper, Around.mark_units, units_caller] at *); done)); (case kus => first | exact (fun _ h => nomatch h) | kcj_all); (case kp => first | trivial | assumption); intro v'₉₉ new'₉₉ h'₉₉ tk'₉₉ hp'₉₉ F'₉₉ N'₉₉ l1₉₉; obtain ⟨D'₉₉, vs'₉₉, c'₉₉, hi'₉₉, e1₉₉, e2₉₉⟩ := hp'₉₉; subst e1₉₉; subst e2₉₉; simp only [List.cons_append, List.nil_append] at N'₉₉; (try (have l2₉₉ := l1₉₉ _ (.head _); simp only [AllLt, and_true] at l2₉₉)); clear l1₉₉; (try dsimp only)) | (refine' Spec.use (word_spec ?s1 ?s2) ?k1 ?k2 ?k3 ?k4 ?k5 ?kK ?kd ?ku ?kus ?kp ?_;  (case k1 => k_asm); (case k2 => k_asm); (case k3 => k_asm); (case k4 => k_asm); (case k5 => k_asm); (case kK => first | exact rfl | assumption); (case kd => ktr_room); (case ku => first | ktr_units | (have hcL9₉₉ := cLine_is; (simp only [units_in1, units_deeper, Around.mark_units, units_caller] at *); done)); (case kus => (intro p₉₉ hp₉₉; rw [List.mem_singleton.mp hp₉₉]; repeat (first | exact .head _ | refine .tail _ ?_))); (case kp => first | trivial | assumption); (case s1 => assumption); (case s2 => first | assumption | (exact walkW_len));intro v'₉₉ new'₉₉ h'₉₉ tk'₉₉ hp'₉₉ F'₉₉ N'₉₉ l1₉₉; obtain ⟨t'₉₉, e1₉₉, e2₉₉⟩ := hp'₉₉; subst e1₉₉; subst e2₉₉; simp only [List.cons_append, List.nil_append] at N'₉₉; (try (have l2₉₉ := l1₉₉ _ (.head _); simp only [AllLt, and_true] at l2₉₉)); clear l1₉₉; (try dsimp only)))))
  trivial
noncomputable def pF_S (w : World) (p : Program) (loose : List Str) (mean : ExcName → Option Value) (mg : Str → Option Value) (mb : Str → Option Value) (h₀ : Heap) (L : Addr) (f : Addr) (cd : Value) (m : Str → Option Value) (s : Shared) (a : Int) (b : Int) (y1 : Int) (y2 : Int) (y3 : Int) (vs : List Value) (vs8 : List Value) (R : Addr) (M : Addr) (W : Addr) (Z : Addr) (c : Nat) (c8 : Nat) (cw : Nat) (ct : Nat) (zv : Array Value) (o1 : Obj) (o2 : Obj) (o3 : Obj) (o4 : Obj) (ta : Tok) (tb : Tok) (t1 : Tok) (t2 : Tok) (t3 : Tok) (p1 : Array Value) (p2 : Array Value) (Q : Flow → Shared → Prop) : Prop :=
  ∀ (ha : -3 ≤ a ∧ a ≤ 5) (hb : -5 ≤ b ∧ b ≤ 5) (B : Below callerA h₀ [] h₀) (F : Fr h₀ L s.heap m) (X : (hd.heap_39 w.params).In h₀) (T : Top p loose mean mg mb h₀) (mN : m "numbers" = some (.ref W)) (d1 : o1.data = .cell (some (.int a ta))) (d2 : o2.data = .cell (some (.int b tb))) (N : News h₀ L s.heap [(W, listOf #[.int y1 t1, .int y2 t2, .int y3 t3] cw), (R, listOf vs8.toArray c8), (M, listOf vs.toArray c), (Z, listOf zv ct), (L + 4, o4), (L + 3, o3), (L + 2, o2), (L + 1, o1), (80, tabObj p1), (73, tabObj p2)]) (hret : ∀ h' tk' m' (V V1 V2 V3 : Addr) (w1 w2 w3 : List Value) (k1 k2 k3 : Nat), IntsAre w1 (walkW y1 1 a b 8) → IntsAre w2 (walkW y2 1 a b 8) → IntsAre w3 (walkW y3 1 a b 8) → m' "walks" = some (.ref V) → (∀ y : Str, y ≠ "walks" → m' y = m y) →
    Fr h₀ L h' m' → News h₀ L h' [(V, listOf #[.ref V1, .ref V2, .ref V3] 3), (V1, listOf w1.toArray k1), (V2, listOf w2.toArray k2), (V3, listOf w3.toArray k3), (W, listOf #[.int y1 t1, .int y2 t2, .int y3 t3] cw), (R, listOf vs8.toArray c8), (M, listOf vs.toArray c), (Z, listOf zv ct), (L + 4, o4), (L + 3, o3), (L + 2, o2), (L + 1, o1), (80, tabObj p1), (73, tabObj p2)] → Q .next { s with heap := h', toks := tk' }),
    wpAny (model PySem.Challenge.rw_zo0033_01.row.prog w) (lawTop L f cd) (execs [st 15] (lawEnv L f cd)) Q (fun _ _ => False) s
theorem pF {w : World} {p : Program} {loose : List Str} {mean : ExcName → Option Value} {mg : Str → Option Value} {mb : Str → Option Value} {h₀ : Heap} {L : Addr} {f : Addr} {cd : Value} {m : Str → Option Value} {s : Shared} {a : Int} {b : Int} {y1 : Int} {y2 : Int} {y3 : Int} {vs : List Value} {vs8 : List Value} {R : Addr} {M : Addr} {W : Addr} {Z : Addr} {c : Nat} {c8 : Nat} {cw : Nat} {ct : Nat} {zv : Array Value} {o1 : Obj} {o2 : Obj} {o3 : Obj} {o4 : Obj} {ta : Tok} {tb : Tok} {t1 : Tok} {t2 : Tok} {t3 : Tok} {p1 : Array Value} {p2 : Array Value} {Q : Flow → Shared → Prop} : pF_S w p loose mean mg mb h₀ L f cd m s a b y1 y2 y3 vs vs8 R M W Z c c8 cw ct zv o1 o2 o3 o4 ta tb t1 t2 t3 p1 p2 Q := by
  refine eps_all (fun x : Sv => pF_S x.w x.p x.loose x.mean (x.mf 0) (x.mf 1) (x.hp 0) (x.ad 0) (x.ad 1) (x.val 0) (x.mf 2) (x.sh 0) (x.int 0) (x.int 1) (x.int 2) (x.int 3) (x.int 4) (x.vl 0) (x.vl 1) (x.ad 2) (x.ad 3) (x.ad 4) (x.ad 5) (x.nat 0) (x.nat 1) (x.nat 2) (x.nat 3) (x.va 0) (x.ob 0) (x.ob 1) (x.ob 2) (x.ob 3) (x.tok 0) (x.tok 1) (x.tok 2) (x.tok 3) (x.tok 4) (x.va 1) (x.va 2) x.qf) ?_ (Sv.mk w p loose mean (fun _ => h₀) (fun i => [c, c8, cw, ct].getD i c) (fun i => [a, b, y1, y2, y3].getD i a) (fun i => [L, f, R, M, W, Z].getD i L) (fun i => [ta, tb, t1, t2, t3].getD i ta) (fun _ => cd) (fun i => [o1, o2, o3, o4].getD i o1) (fun i => [vs, vs8].getD i vs) (fun i => [zv, p1, p2].getD i zv) (fun _ => []) (fun _ => []) (fun i => [mg, mb, m].getD i mg) (fun _ => s) (fun _ => "") (fun _ => fun _ => "") (fun _ => none) (fun _ => #[]) (fun _ => none) (fun _ => default) (fun _ => none) (fun _ => []) (fun _ => []) (fun _ => {}) (fun _ => true) Q (fun _ => fun _ _ => True))
  clear Q p2 p1 t3 t2 t1 tb ta o4 o3 o2 o1 zv ct cw c8 c Z W M R vs8 vs y3 y2 y1 b a s m cd f L h₀ mb mg mean loose p w
  refine (?_ : ∀ (w : World) (p : Program) (loose : List Str) (mean : ExcName → Option Value) (mg : Str → Option Value) (mb : Str → Option Value) (h₀ : Heap) (L : Addr) (f : Addr) (cd : Value) (m : Str → Option Value) (s : Shared) (a : Int) (b : Int) (y1 : Int) (y2 : Int) (y3 : Int) (vs : List Value) (vs8 : List Value) (R : Addr) (M : Addr) (W : Addr) (Z : Addr) (c : Nat) (c8 : Nat) (cw : Nat) (ct : Nat) (zv : Array Value) (o1 : Obj) (o2 : Obj) (o3 : Obj) (o4 : Obj) (ta : Tok) (tb : Tok) (t1 : Tok) (t2 : Tok) (t3 : Tok) (p1 : Array Value) (p2 : Array Value) (Q : Flow → Shared → Prop), pF_S w p loose mean mg mb h₀ L f cd m s a b y1 y2 y3 vs vs8 R M W Z c c8 cw ct zv o1 o2 o3 o4 ta tb t1 t2 t3 p1 p2 Q) _ _ _ _ _ _ _ _ _ _ _ _ _ _ _ _ _ _ _ _ _ _ _ _ _ _ _ _ _ _ _ _ _ _ _ _ _ _ _ _
  intro w p loose mean mg mb h₀ L f cd m s a b y1 y2 y3 vs vs8 R M W Z c c8 cw ct zv o1 o2 o3 o4 ta tb t1 t2 t3 p1 p2 Q ha hb B F X T mN d1 d2 N hret
  revert X; k_fill; intro X
  obtain ⟨m, rfl⟩ : ∃ m9, m = fun z : Str => if z = "numbers" then some (.ref W) else m9 z := ⟨m, by
    funext z
    by_cases hz : z = "numbers"
    · subst hz; rw [if_pos rfl]; exact mN
    rw [if_neg hz]⟩
  unfold lawTop lawEnv
  rw [lawCells_is]
  generalize hS : lawScope = S
  (conv at hS => lhs; whnf)
  subst hS
  generalize hS : st 15 = S
  (conv at hS => lhs; whnf)
  subst hS
  walk_at "GO"
  (rename Fr _ _ _ _ => f9)
  (rename News _ _ _ _ => n9)
  change News _ _ _ ((_, listOf #[_, _, _] 3) :: _) at n9
  refine hret _ _ _ _ _ _ _ _ _ _ _ _ _ (by assumption) (by assumption) (by assumption) (by rfl) ?_ f9 (n9_mem n9 (by kcj_all))
  intro y h1
  exact if_neg h1
end
section
local macro_rules | `(tactic| walk_at "loadName") => `(tactic| (k_here; k_dflt (refine loadX_L (by k_asm) (by rfl) ?_)))
theorem reset_PG : True := by
  w_top off
  k_with_none
  (k_with "OM" => with_reducible first | assumption | decide | (refine Nat.ne_of_lt ?_; k_extra "OP") | (refine o_n ?_; k_extra "OP") | k_extra "OP" | exact o_1 | exact o_2 | exact o_3 | exact o_4 | exact o_5 | exact o_6 | exact o_7 | exact o_8 | exact o_9 | exact o_10 | exact o_11 | exact o_12 | exact o_13 | exact o_14 | exact o_15 | exact o_16 | exact o_17 | exact o_18 | exact o_s1 | exact o_s2 | exact o_s3 | exact o_s4 | exact o_s5 | exact o_s6 | exact o_s7 | exact o_s8 | exact o_s9 | exact o_s10 | exact o_s11 | exact o_s12 | exact o_s13 | exact o_s14 | exact o_s15 | exact o_s16 | exact o_r 1 | exact o_r 2 | exact o_r 3 | exact o_r 4 | exact o_r 5 | exact o_r 6 | exact o_r 7 | exact o_r 8 | exact o_r 9 | exact o_r 10 | exact o_r 11 | exact o_r 12 | exact o_r 13 | exact o_r 14 | exact o_r 15 | exact o_r 16 | exact o_u1 | exact o_u2 | exact o_u3 | exact o_e1 | exact o_e2 | exact o_e3 | exact o_e4 | exact o_m1 | exact o_c1 | exact o_c2 | exact o_c3 | exact o_c4 | exact o_c5 | exact o_n1 | exact o_n2 | exact o_n3 | exact o_n4 | exact o_d1 | fail)
  (k_with "OP" => first | k_extra "OB" | exact o_p1 | exact o_p2 | exact o_p3 | exact o_p4 | (refine o_l 1 ?_; k_extra "OB") | (refine o_l 2 ?_; k_extra "OB") | (refine o_l 3 ?_; k_extra "OB") | (refine o_l 4 ?_; k_extra "OB") | fail)
  (k_with "OB" => first | assumption | (refine o_pk ?_; k_extra "OK") | fail)
  (k_with "OK" => first | exact And.left | exact And.right | (refine o_sk ?_; k_extra "OK") | fail)
  (k_with "GO" => repeat' (first | (k_unfold; (try dsimp only)) | (k_end; wrow_close) | walk1 | (dsimp only; k_unfold; (try dsimp only)) | (dsimp only; walk1) | (leave1; (try dsimp only)) | fail "no step"))
  first | walk1 | trivial
section
set_option Elab.async false
set_option maxRecDepth 100000
set_option maxHeartbeats 8000000
set_option pp.deepTerms false
set_option pp.maxSteps 400
theorem noI_bytes_add : typeLookup (.type "bytes") (dunderI "add") = pure none := by rw [typeLookup_type, builtinLookup_eq_fast]; kernel_rfl
theorem word_size {u l a b : Int} : (byteArr (wordZ (walkW u l a b 8))).size = 8 := by simp [byteArr, wordZ, walkW]
open PySem.W.KBy in
theorem iadd_bytes {prog : Program} {w : World} {A : Around} {E : Value → Shared → Prop} {s : Shared} {b c : Array UInt8} {t u : Tok} {Q : Value → Shared → Prop} (hb : 0 < b.size) (hc : 0 < c.size) (hsz : b.size + c.size ≤ 16777216) (h : ∀ t' k, Q (.bytes (b ++ c) t') { s with toks := k }) :
    wpAny (model prog w) A (inplaceOp .Add (.bytes b t) (.bytes c u)) Q E s := by
  refine iconcat_gives (typeIs_bytes s b t) (typeIs_bytes s c u) noI_bytes_add noFill_bytes_add seq_bytes_add FB.slot_bytes_add FB.entry_bytes_add (FB.args_bytes_add_2 _ _) (gives_bytes_add (tooLong_not hsz)) ?_
  rw [if_neg (fun e => by rw [Array.isEmpty_iff] at e; subst e; exact absurd hb (by simp)), if_neg (fun e => by rw [Array.isEmpty_iff] at e; subst e; exact absurd hc (by simp))]
  exact ⟨by rw [Array.size_append, sizeLine_eq]; exact hsz, h s.toks (s.toks + 1)⟩
theorem reg_PG_11 : True := by
  (k_with "inplaceOp Add bytes bytes" => (k_here; refine iadd_bytes ?h1 ?h2 ?h3 ?_; (case h1 => ((try simp only [Array.size_append, word_size]); omega)); (case h2 => ((try simp only [Array.size_append, word_size]); omega)); (case h3 => ((try simp only [Array.size_append, word_size]); omega)); intro t'₉₉ k'₉₉))
  trivial
theorem reg_PG_12 : True := by
  (k_with "call ref" => (k_here; k_dflt (first | (refine' Spec.use (word_spec ?s1 ?s2) ?k1 ?k2 ?k3 ?k4 ?k5 ?kK ?kd ?ku ?kus ?kp ?_;  (case k1 => k_asm); (case k2 => k_asm); (case k3 => k_asm); (case k4 => k_asm); (case k5 => k_asm); (case kK => first | exact rfl | assumption); (case kd => ktr_room); (case ku => first | ktr_units | (have hcL9₉₉ := cLine_is; (simp only [units_in1, units_deeper, Around.mark_units, units_caller] at *); done)); (case kus => (intro p₉₉ hp₉₉; rw [List.mem_singleton.mp hp₉₉]; repeat (first | exact .head _ | refine .tail _ ?_))); (case kp => first | trivial | assumption); (case s1 => assumption); (case s2 => first | assumption | (exact walkW_len));intro v'₉₉ new'₉₉ h'₉₉ tk'₉₉ hp'₉₉ F'₉₉ N'₉₉ l1₉₉; obtain ⟨t'₉₉, e1₉₉, e2₉₉⟩ := hp'₉₉; subst e1₉₉; subst e2₉₉; simp only [List.cons_append, List.nil_append] at N'₉₉; (try (have l2₉₉ := l1₉₉ _ (.head _); simp only [AllLt, and_true] at l2₉₉)); clear l1₉₉; (try dsimp only)))))
  trivial
noncomputable def pG_S (w : World) (p : Program) (loose : List Str) (mean : ExcName → Option Value) (mg : Str → Option Value) (mb : Str → Option Value) (h₀ : Heap) (L : Addr) (f : Addr) (cd : Value) (m : Str → Option Value) (s : Shared) (a : Int) (b : Int) (y1 : Int) (y2 : Int) (y3 : Int) (vs : List Value) (vs8 : List Value) (w1 : List Value) (w2 : List Value) (w3 : List Value) (R : Addr) (M : Addr) (W : Addr) (Z : Addr) (V : Addr) (V1 : Addr) (V2 : Addr) (V3 : Addr) (c : Nat) (c8 : Nat) (cw : Nat) (ct : Nat) (k1 : Nat) (k2 : Nat) (k3 : Nat) (zv : Array Value) (r0 : Array UInt8) (o1 : Obj) (o2 : Obj) (o3 : Obj) (o4 : Obj) (tr : Tok) (t1 : Tok) (t2 : Tok) (t3 : Tok) (p1 : Array Value) (p2 : Array Value) (Q : Flow → Shared → Prop) : Prop :=
  ∀ (hr : r0.size = 8) (i1 : IntsAre w1 (walkW y1 1 a b 8)) (i2 : IntsAre w2 (walkW y2 1 a b 8)) (i3 : IntsAre w3 (walkW y3 1 a b 8)) (B : Below callerA h₀ [] h₀) (F : Fr h₀ L s.heap m) (X : (hd.heap_39 w.params).In h₀) (T : Top p loose mean mg mb h₀) (hC1 : CodeHd h₀ 77 73) (hC2 : CodeHd h₀ 84 80) (mR : m "row" = some (.bytes r0 tr)) (mV : m "walks" = some (.ref V)) (N : News h₀ L s.heap [(V, listOf #[.ref V1, .ref V2, .ref V3] 3), (V1, listOf w1.toArray k1), (V2, listOf w2.toArray k2), (V3, listOf w3.toArray k3), (W, listOf #[.int y1 t1, .int y2 t2, .int y3 t3] cw), (R, listOf vs8.toArray c8), (M, listOf vs.toArray c), (Z, listOf zv ct), (L + 4, o4), (L + 3, o3), (L + 2, o2), (L + 1, o1), (80, tabObj p1), (73, tabObj p2)]) (hret : ∀ h' tk' m' t', m' "row" = some (.bytes (r0 ++ byteArr (wordZ (walkW y1 1 a b 8)) ++ byteArr (wordZ (walkW y2 1 a b 8)) ++ byteArr (wordZ (walkW y3 1 a b 8))) t') → (∀ y : Str, y ≠ "row" → y ≠ "walk" → m' y = m y) →
    Fr h₀ L h' m' → News h₀ L h' [(V, listOf #[.ref V1, .ref V2, .ref V3] 3), (V1, listOf w1.toArray k1), (V2, listOf w2.toArray k2), (V3, listOf w3.toArray k3), (W, listOf #[.int y1 t1, .int y2 t2, .int y3 t3] cw), (R, listOf vs8.toArray c8), (M, listOf vs.toArray c), (Z, listOf zv ct), (L + 4, o4), (L + 3, o3), (L + 2, o2), (L + 1, o1), (80, tabObj p1), (73, tabObj p2)] → Q .next { s with heap := h', toks := tk' }),
    wpAny (model PySem.Challenge.rw_zo0033_01.row.prog w) (lawTop L f cd) (execs [st 16] (lawEnv L f cd)) Q (fun _ _ => False) s
theorem pG {w : World} {p : Program} {loose : List Str} {mean : ExcName → Option Value} {mg : Str → Option Value} {mb : Str → Option Value} {h₀ : Heap} {L : Addr} {f : Addr} {cd : Value} {m : Str → Option Value} {s : Shared} {a : Int} {b : Int} {y1 : Int} {y2 : Int} {y3 : Int} {vs : List Value} {vs8 : List Value} {w1 : List Value} {w2 : List Value} {w3 : List Value} {R : Addr} {M : Addr} {W : Addr} {Z : Addr} {V : Addr} {V1 : Addr} {V2 : Addr} {V3 : Addr} {c : Nat} {c8 : Nat} {cw : Nat} {ct : Nat} {k1 : Nat} {k2 : Nat} {k3 : Nat} {zv : Array Value} {r0 : Array UInt8} {o1 : Obj} {o2 : Obj} {o3 : Obj} {o4 : Obj} {tr : Tok} {t1 : Tok} {t2 : Tok} {t3 : Tok} {p1 : Array Value} {p2 : Array Value} {Q : Flow → Shared → Prop} : pG_S w p loose mean mg mb h₀ L f cd m s a b y1 y2 y3 vs vs8 w1 w2 w3 R M W Z V V1 V2 V3 c c8 cw ct k1 k2 k3 zv r0 o1 o2 o3 o4 tr t1 t2 t3 p1 p2 Q := by
  refine eps_all (fun x : Sv => pG_S x.w x.p x.loose x.mean (x.mf 0) (x.mf 1) (x.hp 0) (x.ad 0) (x.ad 1) (x.val 0) (x.mf 2) (x.sh 0) (x.int 0) (x.int 1) (x.int 2) (x.int 3) (x.int 4) (x.vl 0) (x.vl 1) (x.vl 2) (x.vl 3) (x.vl 4) (x.ad 2) (x.ad 3) (x.ad 4) (x.ad 5) (x.ad 6) (x.ad 7) (x.ad 8) (x.ad 9) (x.nat 0) (x.nat 1) (x.nat 2) (x.nat 3) (x.nat 4) (x.nat 5) (x.nat 6) (x.va 0) (x.ba 0) (x.ob 0) (x.ob 1) (x.ob 2) (x.ob 3) (x.tok 0) (x.tok 1) (x.tok 2) (x.tok 3) (x.va 1) (x.va 2) x.qf) ?_ (Sv.mk w p loose mean (fun _ => h₀) (fun i => [c, c8, cw, ct, k1, k2, k3].getD i c) (fun i => [a, b, y1, y2, y3].getD i a) (fun i => [L, f, R, M, W, Z, V, V1, V2, V3].getD i L) (fun i => [tr, t1, t2, t3].getD i tr) (fun _ => cd) (fun i => [o1, o2, o3, o4].getD i o1) (fun i => [vs, vs8, w1, w2, w3].getD i vs) (fun i => [zv, p1, p2].getD i zv) (fun _ => []) (fun _ => []) (fun i => [mg, mb, m].getD i mg) (fun _ => s) (fun _ => "") (fun _ => fun _ => "") (fun _ => none) (fun _ => r0) (fun _ => none) (fun _ => default) (fun _ => none) (fun _ => []) (fun _ => []) (fun _ => {}) (fun _ => true) Q (fun _ => fun _ _ => True))
  clear Q p2 p1 t3 t2 t1 tr o4 o3 o2 o1 r0 zv k3 k2 k1 ct cw c8 c V3 V2 V1 V Z W M R w3 w2 w1 vs8 vs y3 y2 y1 b a s m cd f L h₀ mb mg mean loose p w
  refine (?_ : ∀ (w : World) (p : Program) (loose : List Str) (mean : ExcName → Option Value) (mg : Str → Option Value) (mb : Str → Option Value) (h₀ : Heap) (L : Addr) (f : Addr) (cd : Value) (m : Str → Option Value) (s : Shared) (a : Int) (b : Int) (y1 : Int) (y2 : Int) (y3 : Int) (vs : List Value) (vs8 : List Value) (w1 : List Value) (w2 : List Value) (w3 : List Value) (R : Addr) (M : Addr) (W : Addr) (Z : Addr) (V : Addr) (V1 : Addr) (V2 : Addr) (V3 : Addr) (c : Nat) (c8 : Nat) (cw : Nat) (ct : Nat) (k1 : Nat) (k2 : Nat) (k3 : Nat) (zv : Array Value) (r0 : Array UInt8) (o1 : Obj) (o2 : Obj) (o3 : Obj) (o4 : Obj) (tr : Tok) (t1 : Tok) (t2 : Tok) (t3 : Tok) (p1 : Array Value) (p2 : Array Value) (Q : Flow → Shared → Prop), pG_S w p loose mean mg mb h₀ L f cd m s a b y1 y2 y3 vs vs8 w1 w2 w3 R M W Z V V1 V2 V3 c c8 cw ct k1 k2 k3 zv r0 o1 o2 o3 o4 tr t1 t2 t3 p1 p2 Q) _ _ _ _ _ _ _ _ _ _ _ _ _ _ _ _ _ _ _ _ _ _ _ _ _ _ _ _ _ _ _ _ _ _ _ _ _ _ _ _ _ _ _ _ _ _ _ _ _ _
  intro w p loose mean mg mb h₀ L f cd m s a b y1 y2 y3 vs vs8 w1 w2 w3 R M W Z V V1 V2 V3 c c8 cw ct k1 k2 k3 zv r0 o1 o2 o3 o4 tr t1 t2 t3 p1 p2 Q hr i1 i2 i3 B F X T hC1 hC2 mR mV N hret
  revert X; k_fill; intro X
  obtain ⟨m, rfl⟩ : ∃ m9, m = fun z : Str => if z = "row" then some (.bytes r0 tr) else if z = "walks" then some (.ref V) else m9 z := ⟨m, by
    funext z
    by_cases hz : z = "row"
    · subst hz; rw [if_pos rfl]; exact mR
    rw [if_neg hz]; clear hz
    by_cases hz : z = "walks"
    · subst hz; rw [if_pos rfl]; exact mV
    rw [if_neg hz]⟩
  unfold lawTop lawEnv
  rw [lawCells_is]
  generalize hS : lawScope = S
  (conv at hS => lhs; whnf)
  subst hS
  generalize hS : st 16 = S
  (conv at hS => lhs; whnf)
  subst hS
  walk_at "GO"
  (rename Fr _ _ _ _ => f9)
  (rename News _ _ _ _ => n9)
  refine hret _ _ _ _ (by rfl) ?_ f9 (n9_mem n9 (by kcj_all))
  intro y h1 h2
  simp only [if_neg h1, if_neg h2]
end
theorem reset_PH : True := by
  w_top off
  k_with_none
  (k_with "OM" => with_reducible first | assumption | decide | (refine Nat.ne_of_lt ?_; k_extra "OP") | (refine o_n ?_; k_extra "OP") | k_extra "OP" | exact o_1 | exact o_2 | exact o_3 | exact o_4 | exact o_5 | exact o_6 | exact o_7 | exact o_8 | exact o_9 | exact o_10 | exact o_11 | exact o_12 | exact o_13 | exact o_14 | exact o_15 | exact o_16 | exact o_17 | exact o_18 | exact o_s1 | exact o_s2 | exact o_s3 | exact o_s4 | exact o_s5 | exact o_s6 | exact o_s7 | exact o_s8 | exact o_s9 | exact o_s10 | exact o_s11 | exact o_s12 | exact o_s13 | exact o_s14 | exact o_s15 | exact o_s16 | exact o_r 1 | exact o_r 2 | exact o_r 3 | exact o_r 4 | exact o_r 5 | exact o_r 6 | exact o_r 7 | exact o_r 8 | exact o_r 9 | exact o_r 10 | exact o_r 11 | exact o_r 12 | exact o_r 13 | exact o_r 14 | exact o_r 15 | exact o_r 16 | exact o_u1 | exact o_u2 | exact o_u3 | exact o_e1 | exact o_e2 | exact o_e3 | exact o_e4 | exact o_m1 | exact o_c1 | exact o_c2 | exact o_c3 | exact o_c4 | exact o_c5 | exact o_n1 | exact o_n2 | exact o_n3 | exact o_n4 | exact o_d1 | fail)
  (k_with "OP" => first | k_extra "OB" | exact o_p1 | exact o_p2 | exact o_p3 | exact o_p4 | (refine o_l 1 ?_; k_extra "OB") | (refine o_l 2 ?_; k_extra "OB") | (refine o_l 3 ?_; k_extra "OB") | (refine o_l 4 ?_; k_extra "OB") | fail)
  (k_with "OB" => first | assumption | (refine o_pk ?_; k_extra "OK") | fail)
  (k_with "OK" => first | exact And.left | exact And.right | (refine o_sk ?_; k_extra "OK") | fail)
  (k_with "GO" => repeat' (first | (k_unfold; (try dsimp only)) | (k_end; wrow_close) | walk1 | (dsimp only; k_unfold; (try dsimp only)) | (dsimp only; walk1) | (leave1; (try dsimp only)) | fail "no step"))
  first | walk1 | trivial
section
set_option Elab.async false
set_option maxRecDepth 100000
set_option maxHeartbeats 8000000
set_option pp.deepTerms false
set_option pp.maxSteps 400
theorem fn_ex {K : Frag} {f : Addr} {name qual : Str} {params : Arguments} {body : List Stmt} {scope : Scope} {dV kV doc pm cdv ct oc : Value} {an od : Option Addr} {osl : Array (Option Value)}
    (ho : K.lookup f = some ⟨oc, od, .func (fnOf name qual params body scope dV kV doc pm an cdv ct), osl⟩) : ∃ o fd, K.lookup f = some o ∧ o.data = .func fd := ⟨_, _, ho, rfl⟩
noncomputable def pH_S (w : World) (p : Program) (loose : List Str) (mean : ExcName → Option Value) (mg : Str → Option Value) (mb : Str → Option Value) (h₀ : Heap) (L : Addr) (f : Addr) (cd : Value) (m : Str → Option Value) (s : Shared) (x : Array UInt8) (news : List (Addr × Obj)) (tr : Tok) (Q : Flow → Shared → Prop) : Prop :=
  ∀ (hx : x.size = 32) (B : Below callerA h₀ [] h₀) (F : Fr h₀ L s.heap m) (X : (hd.heap_39 w.params).In h₀) (T : Top p loose mean mg mb h₀) (mR : m "row" = some (.bytes x tr)) (N : News h₀ L s.heap news) (hret : ∀ h' tk' m' t', m' "turned" = some (.bytes (byteArr (swapI (KBw.bInts x))) t') → (∀ y : Str, y ≠ "turned" → m' y = m y) → Fr h₀ L h' m' → News h₀ L h' news → Q .next { s with heap := h', toks := tk' }),
    wpN (model PySem.Challenge.rw_zo0033_01.row.prog w) (lawTop L f cd) (execs [st 17] (lawEnv L f cd)) Q (fun _ _ => False) s
theorem pH {w : World} {p : Program} {loose : List Str} {mean : ExcName → Option Value} {mg : Str → Option Value} {mb : Str → Option Value} {h₀ : Heap} {L : Addr} {f : Addr} {cd : Value} {m : Str → Option Value} {s : Shared} {x : Array UInt8} {news : List (Addr × Obj)} {tr : Tok} {Q : Flow → Shared → Prop} : pH_S w p loose mean mg mb h₀ L f cd m s x news tr Q := by
  refine eps_all (fun x : Sv => pH_S x.w x.p x.loose x.mean (x.mf 0) (x.mf 1) (x.hp 0) (x.ad 0) (x.ad 1) (x.val 0) (x.mf 2) (x.sh 0) (x.ba 0) (x.ol 0) (x.tok 0) x.qf) ?_ (Sv.mk w p loose mean (fun _ => h₀) (fun _ => 0) (fun _ => 0) (fun i => [L, f].getD i L) (fun _ => tr) (fun _ => cd) (fun _ => default) (fun _ => []) (fun _ => #[]) (fun _ => []) (fun _ => news) (fun i => [mg, mb, m].getD i mg) (fun _ => s) (fun _ => "") (fun _ => fun _ => "") (fun _ => none) (fun _ => x) (fun _ => none) (fun _ => default) (fun _ => none) (fun _ => []) (fun _ => []) (fun _ => {}) (fun _ => true) Q (fun _ => fun _ _ => True))
  clear Q tr news x s m cd f L h₀ mb mg mean loose p w
  refine (?_ : ∀ (w : World) (p : Program) (loose : List Str) (mean : ExcName → Option Value) (mg : Str → Option Value) (mb : Str → Option Value) (h₀ : Heap) (L : Addr) (f : Addr) (cd : Value) (m : Str → Option Value) (s : Shared) (x : Array UInt8) (news : List (Addr × Obj)) (tr : Tok) (Q : Flow → Shared → Prop), pH_S w p loose mean mg mb h₀ L f cd m s x news tr Q) _ _ _ _ _ _ _ _ _ _ _ _ _ _ _ _
  intro w p loose mean mg mb h₀ L f cd m s x news tr Q hx B F X T mR N hret
  revert X; k_fill; intro X
  obtain ⟨m, rfl⟩ : ∃ m9, m = fun z : Str => if z = "row" then some (.bytes x tr) else m9 z := ⟨m, by
    funext z
    by_cases hz : z = "row"
    · subst hz; rw [if_pos rfl]; exact mR
    rw [if_neg hz]⟩
  unfold lawTop lawEnv
  rw [lawCells_is]
  generalize hS : lawScope = S
  (conv at hS => lhs; whnf)
  subst hS
  generalize hS : st 17 = S
  (conv at hS => lhs; whnf)
  subst hS
  have hl : (KBw.bInts x).length = 32 := by simp [KBw.bInts, hx]
  refine wpN_execs_cons (wpN_Assign_Name (wpN_Call ?_))
  walk_at "GO"
  have hk : ∃ o fd, (hd.heap_39 w.params).lookup 113 = some o ∧ o.data = .func fd := by
    refine' fn_ex ?h
    case h => k_is
  obtain ⟨o, fd, hk, hdat⟩ := hk
  have hg : s.heap.get? 113 = some o := F.keep _ _ (X _ _ hk)
  refine callWithN_def hdat ?_
  walk_at "GO"
  all_goals first | exact hg | skip
  refine' swap_spec rfl hl p loose mean mg mb _ _ _ _ _ _ _ _ _ _ _ _ _ _ _ _ _ B F X N T ?kk ?_ ?_ (fun _ h => nomatch h) trivial ?_
  case kk => exact rfl
  · simp only [depth_deeper, depth_caller]; decide
  · simp only [units_deeper, units_caller]; decide +kernel
  · rintro v new h' tk' ⟨t', e1, e2⟩ F' N' l1
    subst e1; subst e2
    walk_at "GO"
    (rename Fr _ _ _ _ => f9)
    (rename News _ _ _ _ => n9)
    refine wpN_of_any (wpAny_execs_nil ?_)
    refine hret _ _ _ _ (by rfl) ?_ f9 n9
    intro y h1
    exact if_neg h1
end
theorem reset_PI : True := by
  w_top off
  k_with_none
  (k_with "OM" => with_reducible first | assumption | decide | (refine Nat.ne_of_lt ?_; k_extra "OP") | (refine o_n ?_; k_extra "OP") | k_extra "OP" | exact o_1 | exact o_2 | exact o_3 | exact o_4 | exact o_5 | exact o_6 | exact o_7 | exact o_8 | exact o_9 | exact o_10 | exact o_11 | exact o_12 | exact o_13 | exact o_14 | exact o_15 | exact o_16 | exact o_17 | exact o_18 | exact o_s1 | exact o_s2 | exact o_s3 | exact o_s4 | exact o_s5 | exact o_s6 | exact o_s7 | exact o_s8 | exact o_s9 | exact o_s10 | exact o_s11 | exact o_s12 | exact o_s13 | exact o_s14 | exact o_s15 | exact o_s16 | exact o_r 1 | exact o_r 2 | exact o_r 3 | exact o_r 4 | exact o_r 5 | exact o_r 6 | exact o_r 7 | exact o_r 8 | exact o_r 9 | exact o_r 10 | exact o_r 11 | exact o_r 12 | exact o_r 13 | exact o_r 14 | exact o_r 15 | exact o_r 16 | exact o_u1 | exact o_u2 | exact o_u3 | exact o_e1 | exact o_e2 | exact o_e3 | exact o_e4 | exact o_m1 | exact o_c1 | exact o_c2 | exact o_c3 | exact o_c4 | exact o_c5 | exact o_n1 | exact o_n2 | exact o_n3 | exact o_n4 | exact o_d1 | fail)
  (k_with "OP" => first | k_extra "OB" | exact o_p1 | exact o_p2 | exact o_p3 | exact o_p4 | (refine o_l 1 ?_; k_extra "OB") | (refine o_l 2 ?_; k_extra "OB") | (refine o_l 3 ?_; k_extra "OB") | (refine o_l 4 ?_; k_extra "OB") | fail)
  (k_with "OB" => first | assumption | (refine o_pk ?_; k_extra "OK") | fail)
  (k_with "OK" => first | exact And.left | exact And.right | (refine o_sk ?_; k_extra "OK") | fail)
  (k_with "GO" => repeat' (first | (k_unfold; (try dsimp only)) | (k_end; wrow_close) | walk1 | (dsimp only; k_unfold; (try dsimp only)) | (dsimp only; walk1) | (leave1; (try dsimp only)) | fail "no step"))
  first | walk1 | trivial
section
set_option Elab.async false
set_option maxRecDepth 100000
set_option maxHeartbeats 8000000
set_option pp.deepTerms false
set_option pp.maxSteps 400
noncomputable def endS : Nat → Str
  | 0 => ".local"
  | 1 => ".net"
  | _ => ".7"
noncomputable def needsZ : Nat → List Int
  | 0 => [8, 7, 6, 5, 4, 3, 2, 1, 0, 9]
  | 1 => [8, 7, 6, 5, 4, 3, 2, 1, 9, 9]
  | _ => [8, 8, 8, 8, 8, 8, 8, 8, 8, 8]
noncomputable def pI_S (w : World) (p : Program) (loose : List Str) (mean : ExcName → Option Value) (mg : Str → Option Value) (mb : Str → Option Value) (h₀ : Heap) (L : Addr) (f : Addr) (cd : Value) (m : Str → Option Value) (s : Shared) (n : Int) (n1 : Int) (n2 : Int) (n3 : Int) (y1 : Int) (y2 : Int) (y3 : Int) (vs : List Value) (vs8 : List Value) (w1 : List Value) (w2 : List Value) (w3 : List Value) (R : Addr) (M : Addr) (W : Addr) (Z : Addr) (V : Addr) (V1 : Addr) (V2 : Addr) (V3 : Addr) (c : Nat) (c8 : Nat) (cw : Nat) (ct : Nat) (k1 : Nat) (k2 : Nat) (k3 : Nat) (x : Array UInt8) (o1 : Obj) (o2 : Obj) (o3 : Obj) (o4 : Obj) (tr : Tok) (t1 : Tok) (t2 : Tok) (t3 : Tok) (u0 : Tok) (u1 : Tok) (u2 : Tok) (u3 : Tok) (p1 : Array Value) (p2 : Array Value) (Q : Flow → Shared → Prop) : Prop :=
  ∀ (r0 : 0 ≤ n ∧ n < 2 ^ 26) (r1 : 0 ≤ n1 ∧ n1 < 2 ^ 26) (r2 : 0 ≤ n2 ∧ n2 < 2 ^ 26) (r3 : 0 ≤ n3 ∧ n3 < 2 ^ 26) (B : Below callerA h₀ [] h₀) (F : Fr h₀ L s.heap m) (X : (hd.heap_39 w.params).In h₀) (T : Top p loose mean mg mb h₀) (mT : m "turned" = some (.bytes x tr)) (mZ : m "seeds" = some (.ref Z)) (N : News h₀ L s.heap [(V, listOf #[.ref V1, .ref V2, .ref V3] 3), (V1, listOf w1.toArray k1), (V2, listOf w2.toArray k2), (V3, listOf w3.toArray k3), (W, listOf #[.int y1 t1, .int y2 t2, .int y3 t3] cw), (R, listOf vs8.toArray c8), (M, listOf vs.toArray c), (Z, listOf #[.int n u0, .int n1 u1, .int n2 u2, .int n3 u3] ct), (L + 4, o4), (L + 3, o3), (L + 2, o2), (L + 1, o1), (80, tabObj p1), (73, tabObj p2)]) (hret : ∀ h' tk' m' (j : Nat) (G : Addr) (nv : List Value) (cn : Nat) (te : Tok), j < 3 → m' "end" = some (.str (endS j) te) → m' "needs" = some (.ref G) → (∀ y : Str, y ≠ "kind" → y ≠ "end" → y ≠ "needs" → m' y = m y) →
    Fr h₀ L h' m' → News h₀ L h' [(G, listOf nv.toArray cn), (V, listOf #[.ref V1, .ref V2, .ref V3] 3), (V1, listOf w1.toArray k1), (V2, listOf w2.toArray k2), (V3, listOf w3.toArray k3), (W, listOf #[.int y1 t1, .int y2 t2, .int y3 t3] cw), (R, listOf vs8.toArray c8), (M, listOf vs.toArray c), (L + 4, o4), (L + 3, o3), (L + 2, o2), (L + 1, o1), (80, tabObj p1), (73, tabObj p2)] → IntsAre nv (needsZ j) → Q .next { s with heap := h', toks := tk' }),
    wpAny (model PySem.Challenge.rw_zo0033_01.row.prog w) (lawTop L f cd) (execs [st 18, st 19, st 20, st 21] (lawEnv L f cd)) Q (fun _ _ => False) s
theorem pI {w : World} {p : Program} {loose : List Str} {mean : ExcName → Option Value} {mg : Str → Option Value} {mb : Str → Option Value} {h₀ : Heap} {L : Addr} {f : Addr} {cd : Value} {m : Str → Option Value} {s : Shared} {n : Int} {n1 : Int} {n2 : Int} {n3 : Int} {y1 : Int} {y2 : Int} {y3 : Int} {vs : List Value} {vs8 : List Value} {w1 : List Value} {w2 : List Value} {w3 : List Value} {R : Addr} {M : Addr} {W : Addr} {Z : Addr} {V : Addr} {V1 : Addr} {V2 : Addr} {V3 : Addr} {c : Nat} {c8 : Nat} {cw : Nat} {ct : Nat} {k1 : Nat} {k2 : Nat} {k3 : Nat} {x : Array UInt8} {o1 : Obj} {o2 : Obj} {o3 : Obj} {o4 : Obj} {tr : Tok} {t1 : Tok} {t2 : Tok} {t3 : Tok} {u0 : Tok} {u1 : Tok} {u2 : Tok} {u3 : Tok} {p1 : Array Value} {p2 : Array Value} {Q : Flow → Shared → Prop} : pI_S w p loose mean mg mb h₀ L f cd m s n n1 n2 n3 y1 y2 y3 vs vs8 w1 w2 w3 R M W Z V V1 V2 V3 c c8 cw ct k1 k2 k3 x o1 o2 o3 o4 tr t1 t2 t3 u0 u1 u2 u3 p1 p2 Q := by
  refine eps_all (fun x : Sv => pI_S x.w x.p x.loose x.mean (x.mf 0) (x.mf 1) (x.hp 0) (x.ad 0) (x.ad 1) (x.val 0) (x.mf 2) (x.sh 0) (x.int 0) (x.int 1) (x.int 2) (x.int 3) (x.int 4) (x.int 5) (x.int 6) (x.vl 0) (x.vl 1) (x.vl 2) (x.vl 3) (x.vl 4) (x.ad 2) (x.ad 3) (x.ad 4) (x.ad 5) (x.ad 6) (x.ad 7) (x.ad 8) (x.ad 9) (x.nat 0) (x.nat 1) (x.nat 2) (x.nat 3) (x.nat 4) (x.nat 5) (x.nat 6) (x.ba 0) (x.ob 0) (x.ob 1) (x.ob 2) (x.ob 3) (x.tok 0) (x.tok 1) (x.tok 2) (x.tok 3) (x.tok 4) (x.tok 5) (x.tok 6) (x.tok 7) (x.va 0) (x.va 1) x.qf) ?_ (Sv.mk w p loose mean (fun _ => h₀) (fun i => [c, c8, cw, ct, k1, k2, k3].getD i c) (fun i => [n, n1, n2, n3, y1, y2, y3].getD i n) (fun i => [L, f, R, M, W, Z, V, V1, V2, V3].getD i L) (fun i => [tr, t1, t2, t3, u0, u1, u2, u3].getD i tr) (fun _ => cd) (fun i => [o1, o2, o3, o4].getD i o1) (fun i => [vs, vs8, w1, w2, w3].getD i vs) (fun i => [p1, p2].getD i p1) (fun _ => []) (fun _ => []) (fun i => [mg, mb, m].getD i mg) (fun _ => s) (fun _ => "") (fun _ => fun _ => "") (fun _ => none) (fun _ => x) (fun _ => none) (fun _ => default) (fun _ => none) (fun _ => []) (fun _ => []) (fun _ => {}) (fun _ => true) Q (fun _ => fun _ _ => True))
  clear Q p2 p1 u3 u2 u1 u0 t3 t2 t1 tr o4 o3 o2 o1 x k3 k2 k1 ct cw c8 c V3 V2 V1 V Z W M R w3 w2 w1 vs8 vs y3 y2 y1 n3 n2 n1 n s m cd f L h₀ mb mg mean loose p w
  refine (?_ : ∀ (w : World) (p : Program) (loose : List Str) (mean : ExcName → Option Value) (mg : Str → Option Value) (mb : Str → Option Value) (h₀ : Heap) (L : Addr) (f : Addr) (cd : Value) (m : Str → Option Value) (s : Shared) (n : Int) (n1 : Int) (n2 : Int) (n3 : Int) (y1 : Int) (y2 : Int) (y3 : Int) (vs : List Value) (vs8 : List Value) (w1 : List Value) (w2 : List Value) (w3 : List Value) (R : Addr) (M : Addr) (W : Addr) (Z : Addr) (V : Addr) (V1 : Addr) (V2 : Addr) (V3 : Addr) (c : Nat) (c8 : Nat) (cw : Nat) (ct : Nat) (k1 : Nat) (k2 : Nat) (k3 : Nat) (x : Array UInt8) (o1 : Obj) (o2 : Obj) (o3 : Obj) (o4 : Obj) (tr : Tok) (t1 : Tok) (t2 : Tok) (t3 : Tok) (u0 : Tok) (u1 : Tok) (u2 : Tok) (u3 : Tok) (p1 : Array Value) (p2 : Array Value) (Q : Flow → Shared → Prop), pI_S w p loose mean mg mb h₀ L f cd m s n n1 n2 n3 y1 y2 y3 vs vs8 w1 w2 w3 R M W Z V V1 V2 V3 c c8 cw ct k1 k2 k3 x o1 o2 o3 o4 tr t1 t2 t3 u0 u1 u2 u3 p1 p2 Q) _ _ _ _ _ _ _ _ _ _ _ _ _ _ _ _ _ _ _ _ _ _ _ _ _ _ _ _ _ _ _ _ _ _ _ _ _ _ _ _ _ _ _ _ _ _ _ _ _ _ _ _ _ _ _
  intro w p loose mean mg mb h₀ L f cd m s n n1 n2 n3 y1 y2 y3 vs vs8 w1 w2 w3 R M W Z V V1 V2 V3 c c8 cw ct k1 k2 k3 x o1 o2 o3 o4 tr t1 t2 t3 u0 u1 u2 u3 p1 p2 Q r0 r1 r2 r3 B F X T mT mZ N hret
  revert X; k_fill; intro X
  obtain ⟨m, rfl⟩ : ∃ m9, m = fun z : Str => if z = "turned" then some (.bytes x tr) else if z = "seeds" then some (.ref Z) else m9 z := ⟨m, by
    funext z
    by_cases hz : z = "turned"
    · subst hz; rw [if_pos rfl]; exact mT
    rw [if_neg hz]; clear hz
    by_cases hz : z = "seeds"
    · subst hz; rw [if_pos rfl]; exact mZ
    rw [if_neg hz]⟩
  unfold lawTop lawEnv
  rw [lawCells_is]
  generalize hS : lawScope = S
  (conv at hS => lhs; whnf)
  subst hS
  generalize hS : st 18 = S
  (conv at hS => lhs; whnf)
  subst hS
  generalize hS : st 19 = S
  (conv at hS => lhs; whnf)
  subst hS
  generalize hS : st 20 = S
  (conv at hS => lhs; whnf)
  subst hS
  generalize hS : st 21 = S
  (conv at hS => lhs; whnf)
  subst hS
  walk_at "GO"
  · (rename Fr _ _ _ _ => f9)
    (rename News _ _ _ _ => n9)
    refine hret _ _ _ 0 _ _ _ _ (by decide) (by rfl) (by rfl) ?_ f9 (n9_mem n9 (by kcj_all)) ?_
    · intro y h1 h2 h3
      simp only [if_neg h1, if_neg h2, if_neg h3]
    · exact .cons _ _ (.cons _ _ (.cons _ _ (.cons _ _ (.cons _ _ (.cons _ _ (.cons _ _ (.cons _ _ (.cons _ _ (.cons _ _ (.nil))))))))))
  · (rename Fr _ _ _ _ => f9)
    (rename News _ _ _ _ => n9)
    refine hret _ _ _ 1 _ _ _ _ (by decide) (by rfl) (by rfl) ?_ f9 (n9_mem n9 (by kcj_all)) ?_
    · intro y h1 h2 h3
      simp only [if_neg h1, if_neg h2, if_neg h3]
    · exact .cons _ _ (.cons _ _ (.cons _ _ (.cons _ _ (.cons _ _ (.cons _ _ (.cons _ _ (.cons _ _ (.cons _ _ (.cons _ _ (.nil))))))))))
  · (rename Fr _ _ _ _ => f9)
    (rename News _ _ _ _ => n9)
    refine hret _ _ _ 2 _ _ _ _ (by decide) (by rfl) (by rfl) ?_ f9 (n9_mem n9 (by kcj_all)) ?_
    · intro y h1 h2 h3
      simp only [if_neg h1, if_neg h2, if_neg h3]
    · exact .cons _ _ (.cons _ _ (.cons _ _ (.cons _ _ (.cons _ _ (.cons _ _ (.cons _ _ (.cons _ _ (.cons _ _ (.cons _ _ (.nil))))))))))
end
theorem reset_PJ0 : True := by
  w_top off
  k_with_none
  (k_with "OM" => with_reducible first | assumption | decide | (refine Nat.ne_of_lt ?_; k_extra "OP") | (refine o_n ?_; k_extra "OP") | k_extra "OP" | exact o_1 | exact o_2 | exact o_3 | exact o_4 | exact o_5 | exact o_6 | exact o_7 | exact o_8 | exact o_9 | exact o_10 | exact o_11 | exact o_12 | exact o_13 | exact o_14 | exact o_15 | exact o_16 | exact o_17 | exact o_18 | exact o_s1 | exact o_s2 | exact o_s3 | exact o_s4 | exact o_s5 | exact o_s6 | exact o_s7 | exact o_s8 | exact o_s9 | exact o_s10 | exact o_s11 | exact o_s12 | exact o_s13 | exact o_s14 | exact o_s15 | exact o_s16 | exact o_r 1 | exact o_r 2 | exact o_r 3 | exact o_r 4 | exact o_r 5 | exact o_r 6 | exact o_r 7 | exact o_r 8 | exact o_r 9 | exact o_r 10 | exact o_r 11 | exact o_r 12 | exact o_r 13 | exact o_r 14 | exact o_r 15 | exact o_r 16 | exact o_u1 | exact o_u2 | exact o_u3 | exact o_e1 | exact o_e2 | exact o_e3 | exact o_e4 | exact o_m1 | exact o_c1 | exact o_c2 | exact o_c3 | exact o_c4 | exact o_c5 | exact o_n1 | exact o_n2 | exact o_n3 | exact o_n4 | exact o_d1 | fail)
  (k_with "OP" => first | k_extra "OB" | exact o_p1 | exact o_p2 | exact o_p3 | exact o_p4 | (refine o_l 1 ?_; k_extra "OB") | (refine o_l 2 ?_; k_extra "OB") | (refine o_l 3 ?_; k_extra "OB") | (refine o_l 4 ?_; k_extra "OB") | fail)
  (k_with "OB" => first | assumption | (refine o_pk ?_; k_extra "OK") | fail)
  (k_with "OK" => first | exact And.left | exact And.right | (refine o_sk ?_; k_extra "OK") | fail)
  (k_with "GO" => repeat' (first | (k_unfold; (try dsimp only)) | (k_end; wrow_close) | walk1 | (dsimp only; k_unfold; (try dsimp only)) | (dsimp only; walk1) | (leave1; (try dsimp only)) | fail "no step"))
  first | walk1 | trivial
section
set_option Elab.async false
set_option maxRecDepth 100000
set_option maxHeartbeats 8000000
set_option pp.deepTerms false
set_option pp.maxSteps 4000
noncomputable def chrS (k : Int) : Str := ⟨#[k.toNat]⟩
noncomputable def chrComp : Expr := match st 23 with
  | .For _ _ [.Expr (.Call _ [.BinOp (.Call _ [c] _ _) _ _ _] _ _) _] _ _ => c
  | _ => .Constant .none 0 default
noncomputable def chrElt : Expr := match chrComp with | .ListComp e _ _ _ => e | c => c
noncomputable def chrIter : Expr := match chrComp with | .ListComp _ [g] _ _ => g.iter | c => c
noncomputable def chrScope : Scope := match chrComp with | .ListComp _ _ s _ => s | _ => default
noncomputable def ChrSrc (A : Around) (h₀ : Heap) (L : Addr) (m : Str → Option Value) (Q : Value → Shared → Prop) (xv : Value) (s₁ : Shared) : Prop :=
  ∃ b t news, xv = .bytes b t ∧ A.handled = none ∧ Fr h₀ L s₁.heap m ∧ News h₀ L s₁.heap news ∧ b.size ≤ 1000 ∧ ∀ D h' tk ys, StrsAre ys ((KBw.bInts b).map chrS) → Fr h₀ L h' m → News h₀ L h' ((D, LCg.lst ys) :: news) → LCg.Off1 D news → Q (.ref D) { s₁ with heap := h', toks := tk }
theorem ChrSrc.intro {A : Around} {h₀ : Heap} {L : Addr} {m : Str → Option Value} {Q : Value → Shared → Prop} {b : Array UInt8} {t : Tok} {news : List (Addr × Obj)} {s₁ : Shared} (hh : A.handled = none) (F : Fr h₀ L s₁.heap m) (N : News h₀ L s₁.heap news) (hb : b.size ≤ 1000)
    (h : ∀ D h' tk ys, StrsAre ys ((KBw.bInts b).map chrS) → Fr h₀ L h' m → News h₀ L h' ((D, LCg.lst ys) :: news) → LCg.Off1 D news → Q (.ref D) { s₁ with heap := h', toks := tk }) : ChrSrc A h₀ L m Q (.bytes b t) s₁ := ⟨b, t, news, rfl, hh, F, N, hb, h⟩
theorem chr_turn {w : World} {p : Program} {loose : List Str} {mean : ExcName → Option Value} {mg mb : Str → Option Value} {h₀ : Heap} {L f : Addr} {cd : Value} {m : Str → Option Value} {s : Shared} {Q : Value → Shared → Prop} {E : Value → Shared → Prop} {C : Addr} {oC : Obj} {m₂ : Str → Option Value} {news : List (Addr × Obj)} {k : Int} {u : Tok} (B : Below callerA h₀ [] h₀) (F : Fr h₀ L s.heap m) (X : (hd.heap_39 w.params).In h₀) (T : Top p loose mean mg mb h₀) (hk : 0 ≤ k ∧ k < 256) (N : News h₀ L s.heap news) (hm : (C, oC) ∈ news) (hC : LCg.NsObj oC m₂) (hx : m₂ "sign" = some (.int k u))
  (hret : ∀ t' tk', Q (.str (chrS k) t') { s with toks := tk' }) : wpAny (model PySem.Challenge.rw_zo0033_01.row.prog w) (lawTop L f cd) (eval chrElt (compEnvC chrScope [] C (lawEnv L f cd))) Q E s := by
  revert X; k_fill; intro X
  generalize hS : chrElt = S
  (conv at hS => lhs; whnf)
  subst hS
  generalize hS : chrScope = S
  (conv at hS => lhs; whnf)
  subst hS
  unfold lawTop lawEnv
  rw [lawCells_is]
  generalize hS : lawScope = S
  (conv at hS => lhs; whnf)
  subst hS
  walk_at "GO"
  exact hret _ _
theorem strs_append {vs ws : List Value} {ys zs : List Str} (h : StrsAre vs ys) (h2 : StrsAre ws zs) : StrsAre (vs ++ ws) (ys ++ zs) := by
  induction h with
  | nil => exact h2
  | cons _ _ _ ih => exact .cons _ _ ih
theorem chr_rest {w : World} {p : Program} {loose : List Str} {mean : ExcName → Option Value} {mg mb : Str → Option Value} {h₀ : Heap} {L f : Addr} {cd : Value} {m : Str → Option Value} {s : Shared} {b : Array UInt8} {news : List (Addr × Obj)}
    (B : Below callerA h₀ [] h₀) (X : (hd.heap_39 w.params).In h₀) (T : Top p loose mean mg mb h₀) : ∀ (k i : Nat) (ys : List Value), i + k = b.size → StrsAre ys (((KBw.bInts b).take i).map chrS) →
    LCg.CompRest PySem.Challenge.rw_zo0033_01.row.prog w (lawTop L f cd) h₀ L m (lawEnv L f cd) chrElt "sign" chrScope [] s (fun _ => True) (fun i v => ∃ c u, b[i]? = some c ∧ v = .int (c.toNat : Int) u) (fun ys nw => nw = news ∧ StrsAre ys ((KBw.bInts b).map chrS)) k i ys news := by
  intro k
  induction k with
  | zero =>
    intro i ys hi hy
    refine LCg.CompRest.zero ⟨rfl, ?_⟩
    have e : (KBw.bInts b).take i = KBw.bInts b := List.take_of_length_le (by rw [KBw.ints_length]; omega)
    rw [e] at hy
    exact hy
  | succ k ih =>
    intro i ys hi hy
    refine LCg.CompRest.succ ?_
    rintro v I oI C oC D m₂ h tk E' ⟨c, u, hc, rfl⟩ hC hx F N off ne
    have hc9 : (c.toNat : Int) < 256 := by have := c.toNat_lt; omega
    refine chr_turn (s := { s with heap := h, toks := tk }) B F X T ⟨Int.natCast_nonneg _, hc9⟩ N (.tail _ (.head _)) hC hx fun t' tk' => ?_
    refine LCg.CompEnd.intro F N news (fun p hp => hp) off trivial ?_
    refine ih (i + 1) _ (by omega) ?_
    have e : (KBw.bInts b).take (i + 1) = (KBw.bInts b).take i ++ [(c.toNat : Int)] := by
      rw [List.take_add_one, KBw.ints_get hc]; rfl
    rw [e, List.map_append]
    exact strs_append hy (.cons _ _ .nil)
noncomputable def comp_chr_S (w : World) (p : Program) (loose : List Str) (mean : ExcName → Option Value) (mg : Str → Option Value) (mb : Str → Option Value) (h₀ : Heap) (L : Addr) (f : Addr) (cd : Value) (m : Str → Option Value) (s : Shared) (Q : Value → Shared → Prop) (E : Value → Shared → Prop) : Prop :=
  ∀ (B : Below callerA h₀ [] h₀) (X : (hd.heap_39 w.params).In h₀) (T : Top p loose mean mg mb h₀) (h : wpAny (model PySem.Challenge.rw_zo0033_01.row.prog w) (lawTop L f cd) (eval chrIter (lawEnv L f cd)) (ChrSrc (lawTop L f cd) h₀ L m Q) E s),
    wpAny (model PySem.Challenge.rw_zo0033_01.row.prog w) (lawTop L f cd) (eval chrComp (lawEnv L f cd)) Q E s
theorem comp_chr {w : World} {p : Program} {loose : List Str} {mean : ExcName → Option Value} {mg : Str → Option Value} {mb : Str → Option Value} {h₀ : Heap} {L : Addr} {f : Addr} {cd : Value} {m : Str → Option Value} {s : Shared} {Q : Value → Shared → Prop} {E : Value → Shared → Prop} : comp_chr_S w p loose mean mg mb h₀ L f cd m s Q E := by
  refine eps_all (fun x : Sv => comp_chr_S x.w x.p x.loose x.mean (x.mf 0) (x.mf 1) (x.hp 0) (x.ad 0) (x.ad 1) (x.val 0) (x.mf 2) (x.sh 0) (x.qv 0) (x.qv 1)) ?_ (Sv.mk w p loose mean (fun _ => h₀) (fun _ => 0) (fun _ => 0) (fun i => [L, f].getD i L) (fun _ => default) (fun _ => cd) (fun _ => default) (fun _ => []) (fun _ => #[]) (fun _ => []) (fun _ => []) (fun i => [mg, mb, m].getD i mg) (fun _ => s) (fun _ => "") (fun _ => fun _ => "") (fun _ => none) (fun _ => #[]) (fun _ => none) (fun _ => default) (fun _ => none) (fun _ => []) (fun _ => []) (fun _ => {}) (fun _ => true) (fun _ _ => True) (fun i => [Q, E].getD i Q))
  clear E Q s m cd f L h₀ mb mg mean loose p w
  refine (?_ : ∀ (w : World) (p : Program) (loose : List Str) (mean : ExcName → Option Value) (mg : Str → Option Value) (mb : Str → Option Value) (h₀ : Heap) (L : Addr) (f : Addr) (cd : Value) (m : Str → Option Value) (s : Shared) (Q : Value → Shared → Prop) (E : Value → Shared → Prop), comp_chr_S w p loose mean mg mb h₀ L f cd m s Q E) _ _ _ _ _ _ _ _ _ _ _ _ _ _
  intro w p loose mean mg mb h₀ L f cd m s Q E B X T h
  have key : ∀ (elt iter : Expr) (x : Str) (px pos : Pos) (scope : Scope), elt = chrElt → iter = chrIter → x = "sign" → scope = chrScope →
      wpAny (model PySem.Challenge.rw_zo0033_01.row.prog w) (lawTop L f cd) (eval (.ListComp elt [⟨.Name x px, iter, [], 0⟩] scope pos) (lawEnv L f cd)) Q E s := by
    rintro elt iter x px pos scope rfl rfl rfl rfl
    rw [eval_ListComp]
    refine wpAny_comprehension_free (use := none) rfl (by intro _; rfl) (cl := []) (by with_unfolding_all rfl) rfl (by decide +kernel) (wpAny_mono h (fun xv s₁ h₁ => ?_) fun _ _ e => e)
    obtain ⟨b, t, news, rfl, hh, F, N, hsz, R⟩ := h₁
    refine KBw.pyIter_bytes ?_
    have up : ∀ (o : Obj) b o', s₁.heap.get? b = some o' → (s₁.heap.push o).get? b = some o' := fun o b o' e => Heap.get?_push_of_some _ e
    refine LCg.block_U (KBw.walks hh s₁.heap.objs.size b t) (by rw [sizeLine_eq]; omega) (fun i h st => by obtain ⟨o, e, _⟩ := st; exact ⟨o, e⟩) (S := fun _ => True)
      (fun i h h' o nw st e e' _ _ _ => by obtain ⟨o', q, r⟩ := st; rw [e] at q; cases q; exact ⟨o, e', r⟩) (by decide +kernel) rfl rfl ⟨_, Heap.get?_push_size _ rfl, rfl, rfl⟩ (fun b' hb => ?_)
      (F.keeps (up _)) (N.grown (up _)) (Nat.ne_of_lt F.ns.lt) (next_is_new F) (fun p hp => Nat.ne_of_lt (Heap.lt_size (N p hp).1)) trivial (chr_rest (news := news) B X T b.size 0 [] (by omega) .nil) ?_
    · rw [List.mem_singleton.mp hb]
      show s₁.heap.objs.size < (s₁.heap.push _).objs.size
      rw [Heap.size_push]; exact Nat.lt_succ_self _
    · rintro D C h tk m' ys news' F' N' o1 hn hC₀ hD₀ hCL hDL hCD offC ⟨rfl, hy⟩
      refine ⟨m', hn, fun h'' hs'' => R D h'' tk ys hy (F'.change hs'' hCL hC₀) (fun p hp => ?_) o1⟩
      refine ⟨hs''.extBut _ _ ?_ (N' p hp).1, (N' p hp).2⟩
      rcases List.mem_cons.mp hp with rfl | hp
      · exact Ne.symm hCD
      · exact offC p hp
  exact key _ _ _ _ _ _ rfl rfl rfl rfl
end
theorem reset_PJ : True := by
  w_top off
  k_with_none
  (k_with "OM" => with_reducible first | assumption | decide | (refine Nat.ne_of_lt ?_; k_extra "OP") | (refine o_n ?_; k_extra "OP") | k_extra "OP" | exact o_1 | exact o_2 | exact o_3 | exact o_4 | exact o_5 | exact o_6 | exact o_7 | exact o_8 | exact o_9 | exact o_10 | exact o_11 | exact o_12 | exact o_13 | exact o_14 | exact o_15 | exact o_16 | exact o_17 | exact o_18 | exact o_s1 | exact o_s2 | exact o_s3 | exact o_s4 | exact o_s5 | exact o_s6 | exact o_s7 | exact o_s8 | exact o_s9 | exact o_s10 | exact o_s11 | exact o_s12 | exact o_s13 | exact o_s14 | exact o_s15 | exact o_s16 | exact o_r 1 | exact o_r 2 | exact o_r 3 | exact o_r 4 | exact o_r 5 | exact o_r 6 | exact o_r 7 | exact o_r 8 | exact o_r 9 | exact o_r 10 | exact o_r 11 | exact o_r 12 | exact o_r 13 | exact o_r 14 | exact o_r 15 | exact o_r 16 | exact o_u1 | exact o_u2 | exact o_u3 | exact o_e1 | exact o_e2 | exact o_e3 | exact o_e4 | exact o_m1 | exact o_c1 | exact o_c2 | exact o_c3 | exact o_c4 | exact o_c5 | exact o_n1 | exact o_n2 | exact o_n3 | exact o_n4 | exact o_d1 | fail)
  (k_with "OP" => first | k_extra "OB" | exact o_p1 | exact o_p2 | exact o_p3 | exact o_p4 | (refine o_l 1 ?_; k_extra "OB") | (refine o_l 2 ?_; k_extra "OB") | (refine o_l 3 ?_; k_extra "OB") | (refine o_l 4 ?_; k_extra "OB") | fail)
  (k_with "OB" => first | assumption | (refine o_pk ?_; k_extra "OK") | fail)
  (k_with "OK" => first | exact And.left | exact And.right | (refine o_sk ?_; k_extra "OK") | fail)
  (k_with "GO" => repeat' (first | (k_unfold; (try dsimp only)) | (k_end; wrow_close) | walk1 | (dsimp only; k_unfold; (try dsimp only)) | (dsimp only; walk1) | (leave1; (try dsimp only)) | fail "no step"))
  first | walk1 | trivial
section
set_option Elab.async false
set_option maxRecDepth 100000
set_option maxHeartbeats 8000000
set_option pp.deepTerms false
set_option pp.maxSteps 400
theorem comp_chr' {w : World} {p : Program} {loose : List Str} {mean : ExcName → Option Value} {mg mb : Str → Option Value} {h₀ : Heap} {L f : Addr} {cd : Value} {m : Str → Option Value} {s : Shared} {Q : Value → Shared → Prop} {E : Value → Shared → Prop} {A : Around} {env : Env} {elt iter tgt : Expr} {scope : Scope} {pos : Pos}
    (F₀ : Fr h₀ L s.heap m) (B : Below callerA h₀ [] h₀) (X : (hd.heap_39 w.params).In h₀) (T : Top p loose mean mg mb h₀) (hA : A = lawTop L f cd) (he : env = lawEnv L f cd) (hc : Expr.ListComp elt [⟨tgt, iter, [], 0⟩] scope pos = chrComp)
    (h : wpAny (model PySem.Challenge.rw_zo0033_01.row.prog w) A (eval iter env) (ChrSrc A h₀ L m Q) E s) : wpAny (model PySem.Challenge.rw_zo0033_01.row.prog w) A (eval (.ListComp elt [⟨tgt, iter, [], 0⟩] scope pos) env) Q E s := by
  have hi : iter = chrIter := by unfold chrIter; rw [← hc]
  rw [hc]
  subst hA he hi
  exact comp_chr B X T h
theorem chr_weight (l : List Int) : (((l.map chrS).map (·.length)).sum + (l.map chrS).length) = 2 * l.length := by
  induction l with
  | nil => rfl
  | cons a r ih =>
    simp only [List.map_cons, List.sum_cons, List.length_cons] at ih ⊢
    have : (chrS a).length = 1 := rfl
    omega
theorem reg_PJ_9 : True := by
  (k_with "eval ListComp" => (k_here; k_dflt (refine' comp_chr' ?F ?B ?X ?T ?A ?e ?c ?_; (case F => k_asm); (case B => k_asm); (case X => k_asm); (case T => k_asm); (case A => with_unfolding_all rfl); (case e => with_unfolding_all rfl); (case c => with_unfolding_all rfl))))
  trivial
theorem host_len (l : List Int) : (Txt.join (Str.ofString ".") (l.map chrS)).length ≤ 2 * l.length := by
  have h := StrLaws.join_length_le (Str.ofString ".") (l.map chrS)
  have h2 := chr_weight l
  have e1 : (Str.ofString ".").length = 1 := by decide +kernel
  rw [e1, Nat.mul_one] at h
  rw [show Txt.join (Str.ofString ".") (l.map chrS) = Str.join (Str.ofString ".") (l.map chrS) from StrLaws.glued_eq_join _ _]
  exact Nat.le_trans h (Nat.le_of_eq h2)
theorem host_sz {x : Array UInt8} {e : Str} {lo hi : Option Int} (hx : x.size = 32) (he : e.length ≤ 6) : (Txt.join (Str.ofString ".") ((KBw.bInts (KBy.picked x lo hi)).map chrS)).length + e.length ≤ sizeLine := by
  have h := host_len (KBw.bInts (KBy.picked x lo hi))
  have h2 := KBc.size_picked_le x lo hi
  rw [KBw.ints_length] at h
  rw [sizeLine_eq]
  omega
theorem host_w {x : Array UInt8} {lo hi : Option Int} (hx : x.size = 32) : (((KBw.bInts (KBy.picked x lo hi)).map chrS).map (·.length)).sum + ((KBw.bInts (KBy.picked x lo hi)).map chrS).length ≤ 1048576 := by
  have h2 := KBc.size_picked_le x lo hi
  rw [chr_weight, KBw.ints_length]
  omega
theorem reg_PJ_13 : True := by
  (k_with "ChrSrc" => (refine' ChrSrc.intro ?a ?F ?N ?b ?_; (case a => exact rfl); (case F => k_asm); (case N => k_asm); (case b => exact Nat.le_trans (KBc.size_picked_le _ _ _) (by omega)); intro D'₉₉ h'₉₉ tk'₉₉ ys'₉₉ hy'₉₉ F'₉₉ N'₉₉ o1'₉₉; (try simp only [LCg.Off1, and_true] at o1'₉₉)))
  trivial
theorem reg_PJ_14 : True := by
  (k_with "subscriptTail" => (k_here; (with_reducible show wpAny _ _ (subscriptTail _ (Expr.Slice _ _ none _) (Value.bytes _ _) (Value.ref _)) _ _ _); (with_reducible rename Fr _ _ _ _ => F'₉₉); (with_reducible rename News _ _ _ _ => N'₉₉); (refine KBc.slice_K (s := ⟨_, _, _, _, _⟩) F'₉₉ N'₉₉ rfl (by constructor) (by constructor) (by rw [KBw.ints_length]; omega) ?_); clear F'₉₉ N'₉₉; intro h'₉₉ t'₉₉ k'₉₉ F'₉₉ N'₉₉ kbcK₉₉; clear kbcK₉₉))
  trivial
theorem reg_PJ_15 : True := by
  (k_with "call builtin:str.join" => (k_here; (rename StrsAre _ _ => hy9₉₉); (refine join_listW (by is_list) hy9₉₉ (by decide +kernel) (host_w (by assumption)) ?_); clear hy9₉₉; intro _ _))
  trivial
theorem reg_PJ_16 : True := by
  (k_with "binaryOp Add str str" => (k_here; (refine SBL.add ?_ (host_sz (by assumption) (by assumption))); intro _ _))
  trivial
theorem reg_PJ_17 : True := by
  (k_with "UnrEnd" => ((rename News _ _ _ _ => nE9₉₉); refine UnrEnd.intro (by assumption) nE9₉₉ _ (fun p hp => hp) (by k_all) ?_))
  trivial
/-- a word's host: its signs with dots between, and the end -/
noncomputable def hostX (x : Array UInt8) (lo hi : Int) (e : Str) : Str := Txt.join (Str.ofString ".") ((KBw.bInts (KBy.picked x (some lo) (some hi))).map chrS) ++ e
noncomputable def hostExpr : Expr := match st 23 with
  | .For _ _ [.Expr (.Call _ [c] _ _) _] _ _ => c
  | _ => .Constant .none 0 default
theorem host_eval {w : World} {p : Program} {loose : List Str} {mean : ExcName → Option Value} {mg mb : Str → Option Value} {h₀ : Heap} {L f : Addr} {cd : Value} {m : Str → Option Value} {s : Shared} {e : Str} {x : Array UInt8} {tr te tb : Tok} {k : Int} {news : List (Addr × Obj)} {Q : Value → Shared → Prop} {E : Value → Shared → Prop} (hx : x.size = 32) (he : e.length ≤ 6) (hk : 0 ≤ k ∧ k ≤ 24) (B : Below callerA h₀ [] h₀) (F : Fr h₀ L s.heap m) (X : (hd.heap_39 w.params).In h₀) (T : Top p loose mean mg mb h₀) (mB : m "begin" = some (.int k tb)) (mT : m "turned" = some (.bytes x tr)) (mE : m "end" = some (.str e te))
  (N : News h₀ L s.heap news)
  (hret : ∀ h' tk' t', Fr h₀ L h' m → News h₀ L h' news → Q (.str (hostX x k (k + 8) e) t') { s with heap := h', toks := tk' }) :
  wpAny (model PySem.Challenge.rw_zo0033_01.row.prog w) (lawTop L f cd) (eval hostExpr (lawEnv L f cd)) Q E s := by
  revert X; k_fill; intro X
  obtain ⟨m, rfl⟩ : ∃ m9, m = fun z : Str => if z = "begin" then some (.int k tb) else if z = "turned" then some (.bytes x tr) else if z = "end" then some (.str e te) else m9 z := ⟨m, by
    funext z
    by_cases hz : z = "begin"
    · subst hz; rw [if_pos rfl]; exact mB
    rw [if_neg hz]; clear hz
    by_cases hz : z = "turned"
    · subst hz; rw [if_pos rfl]; exact mT
    rw [if_neg hz]; clear hz
    by_cases hz : z = "end"
    · subst hz; rw [if_pos rfl]; exact mE
    rw [if_neg hz]⟩
  unfold lawTop lawEnv
  rw [lawCells_is]
  generalize hS : lawScope = S
  (conv at hS => lhs; whnf)
  subst hS
  generalize hS : hostExpr = S
  (conv at hS => lhs; whnf)
  subst hS
  walk_at "GO"
  (rename News _ _ _ _ => n9)
  exact hret _ _ _ (by assumption) (fun p hp => n9 p (.tail _ hp))
theorem host_eval' {A : Around} {env : Env} {c : Expr} {w : World} {p : Program} {loose : List Str} {mean : ExcName → Option Value} {mg mb : Str → Option Value} {h₀ : Heap} {L f : Addr} {cd : Value} {m : Str → Option Value} {s : Shared} {e : Str} {x : Array UInt8} {tr te tb : Tok} {k : Int} {news : List (Addr × Obj)} {Q : Value → Shared → Prop} {E : Value → Shared → Prop} (hx : x.size = 32) (he : e.length ≤ 6) (hk : 0 ≤ k ∧ k ≤ 24) (B : Below callerA h₀ [] h₀) (F : Fr h₀ L s.heap m) (X : (hd.heap_39 w.params).In h₀) (T : Top p loose mean mg mb h₀) (mB : m "begin" = some (.int k tb)) (mT : m "turned" = some (.bytes x tr)) (mE : m "end" = some (.str e te))
  (N : News h₀ L s.heap news) (hA : A = lawTop L f cd) (hv : env = lawEnv L f cd) (hc : c = hostExpr)
  (hret : ∀ h' tk' t', Fr h₀ L h' m → News h₀ L h' news → Q (.str (hostX x k (k + 8) e) t') { s with heap := h', toks := tk' }) :
  wpAny (model PySem.Challenge.rw_zo0033_01.row.prog w) A (eval c env) Q E s := by
  subst hA hv hc
  exact host_eval hx he hk B F X T mB mT mE N hret
theorem reg_PJ_23 : True := by
  (k_with "eval BinOp" => (k_here; (with_reducible show wpAny _ _ (eval (Expr.BinOp (Expr.Call (Expr.Attribute _ _ _) _ _ _) _ _ _) _) _ _ _); k_dflt (refine' host_eval' ?x ?e ?k ?B ?F ?X ?T ?b ?t ?n ?N ?A ?v ?c ?_; (case F => k_asm); (case B => k_asm); (case X => k_asm); (case T => k_asm); (case N => k_asm); (case A => with_unfolding_all rfl); (case v => with_unfolding_all rfl); (case c => with_unfolding_all rfl); (case b => exact rfl); (case t => exact rfl); (case n => exact rfl); (case x => assumption); (case e => assumption); (case k => omega)); intro h'₉₉ tk'₉₉ t'₉₉ F'₉₉ N'₉₉))
  trivial
noncomputable def pJ_S (w : World) (p : Program) (loose : List Str) (mean : ExcName → Option Value) (mg : Str → Option Value) (mb : Str → Option Value) (h₀ : Heap) (L : Addr) (f : Addr) (cd : Value) (m : Str → Option Value) (s : Shared) (e : Str) (x : Array UInt8) (tr : Tok) (te : Tok) (y1 : Int) (y2 : Int) (y3 : Int) (vs : List Value) (vs8 : List Value) (w1 : List Value) (w2 : List Value) (w3 : List Value) (nv : List Value) (R : Addr) (M : Addr) (W : Addr) (V : Addr) (V1 : Addr) (V2 : Addr) (V3 : Addr) (G : Addr) (c : Nat) (c8 : Nat) (cw : Nat) (k1 : Nat) (k2 : Nat) (k3 : Nat) (cn : Nat) (o1 : Obj) (o2 : Obj) (o3 : Obj) (o4 : Obj) (t1 : Tok) (t2 : Tok) (t3 : Tok) (p1 : Array Value) (p2 : Array Value) (Q : Flow → Shared → Prop) : Prop :=
  ∀ (hx : x.size = 32) (he : e.length ≤ 6) (B : Below callerA h₀ [] h₀) (F : Fr h₀ L s.heap m) (X : (hd.heap_39 w.params).In h₀) (T : Top p loose mean mg mb h₀) (mT : m "turned" = some (.bytes x tr)) (mE : m "end" = some (.str e te)) (N : News h₀ L s.heap [(G, listOf nv.toArray cn), (V, listOf #[.ref V1, .ref V2, .ref V3] 3), (V1, listOf w1.toArray k1), (V2, listOf w2.toArray k2), (V3, listOf w3.toArray k3), (W, listOf #[.int y1 t1, .int y2 t2, .int y3 t3] cw), (R, listOf vs8.toArray c8), (M, listOf vs.toArray c), (L + 4, o4), (L + 3, o3), (L + 2, o2), (L + 1, o1), (80, tabObj p1), (73, tabObj p2)]) (hret : ∀ h' tk' m' (H : Addr) (ch : Nat) (b1 b2 b3 b4 : Tok), m' "hosts" = some (.ref H) → (∀ y : Str, y ≠ "hosts" → y ≠ "begin" → m' y = m y) → Fr h₀ L h' m' →
    News h₀ L h' [(H, listOf #[.str (hostX x 0 8 e) b1, .str (hostX x 8 16 e) b2, .str (hostX x 16 24 e) b3, .str (hostX x 24 32 e) b4] ch), (G, listOf nv.toArray cn), (V, listOf #[.ref V1, .ref V2, .ref V3] 3), (V1, listOf w1.toArray k1), (V2, listOf w2.toArray k2), (V3, listOf w3.toArray k3), (W, listOf #[.int y1 t1, .int y2 t2, .int y3 t3] cw), (R, listOf vs8.toArray c8), (M, listOf vs.toArray c), (L + 4, o4), (L + 3, o3), (L + 2, o2), (L + 1, o1), (80, tabObj p1), (73, tabObj p2)] → Q .next { s with heap := h', toks := tk' }),
    wpAny (model PySem.Challenge.rw_zo0033_01.row.prog w) (lawTop L f cd) (execs [st 22, st 23] (lawEnv L f cd)) Q (fun _ _ => False) s
theorem pJ {w : World} {p : Program} {loose : List Str} {mean : ExcName → Option Value} {mg : Str → Option Value} {mb : Str → Option Value} {h₀ : Heap} {L : Addr} {f : Addr} {cd : Value} {m : Str → Option Value} {s : Shared} {e : Str} {x : Array UInt8} {tr : Tok} {te : Tok} {y1 : Int} {y2 : Int} {y3 : Int} {vs : List Value} {vs8 : List Value} {w1 : List Value} {w2 : List Value} {w3 : List Value} {nv : List Value} {R : Addr} {M : Addr} {W : Addr} {V : Addr} {V1 : Addr} {V2 : Addr} {V3 : Addr} {G : Addr} {c : Nat} {c8 : Nat} {cw : Nat} {k1 : Nat} {k2 : Nat} {k3 : Nat} {cn : Nat} {o1 : Obj} {o2 : Obj} {o3 : Obj} {o4 : Obj} {t1 : Tok} {t2 : Tok} {t3 : Tok} {p1 : Array Value} {p2 : Array Value} {Q : Flow → Shared → Prop} : pJ_S w p loose mean mg mb h₀ L f cd m s e x tr te y1 y2 y3 vs vs8 w1 w2 w3 nv R M W V V1 V2 V3 G c c8 cw k1 k2 k3 cn o1 o2 o3 o4 t1 t2 t3 p1 p2 Q := by
  refine eps_all (fun x : Sv => pJ_S x.w x.p x.loose x.mean (x.mf 0) (x.mf 1) (x.hp 0) (x.ad 0) (x.ad 1) (x.val 0) (x.mf 2) (x.sh 0) (x.str 0) (x.ba 0) (x.tok 0) (x.tok 1) (x.int 0) (x.int 1) (x.int 2) (x.vl 0) (x.vl 1) (x.vl 2) (x.vl 3) (x.vl 4) (x.vl 5) (x.ad 2) (x.ad 3) (x.ad 4) (x.ad 5) (x.ad 6) (x.ad 7) (x.ad 8) (x.ad 9) (x.nat 0) (x.nat 1) (x.nat 2) (x.nat 3) (x.nat 4) (x.nat 5) (x.nat 6) (x.ob 0) (x.ob 1) (x.ob 2) (x.ob 3) (x.tok 2) (x.tok 3) (x.tok 4) (x.va 0) (x.va 1) x.qf) ?_ (Sv.mk w p loose mean (fun _ => h₀) (fun i => [c, c8, cw, k1, k2, k3, cn].getD i c) (fun i => [y1, y2, y3].getD i y1) (fun i => [L, f, R, M, W, V, V1, V2, V3, G].getD i L) (fun i => [tr, te, t1, t2, t3].getD i tr) (fun _ => cd) (fun i => [o1, o2, o3, o4].getD i o1) (fun i => [vs, vs8, w1, w2, w3, nv].getD i vs) (fun i => [p1, p2].getD i p1) (fun _ => []) (fun _ => []) (fun i => [mg, mb, m].getD i mg) (fun _ => s) (fun _ => e) (fun _ => fun _ => "") (fun _ => none) (fun _ => x) (fun _ => none) (fun _ => default) (fun _ => none) (fun _ => []) (fun _ => []) (fun _ => {}) (fun _ => true) Q (fun _ => fun _ _ => True))
  clear Q p2 p1 t3 t2 t1 o4 o3 o2 o1 cn k3 k2 k1 cw c8 c G V3 V2 V1 V W M R nv w3 w2 w1 vs8 vs y3 y2 y1 te tr x e s m cd f L h₀ mb mg mean loose p w
  refine (?_ : ∀ (w : World) (p : Program) (loose : List Str) (mean : ExcName → Option Value) (mg : Str → Option Value) (mb : Str → Option Value) (h₀ : Heap) (L : Addr) (f : Addr) (cd : Value) (m : Str → Option Value) (s : Shared) (e : Str) (x : Array UInt8) (tr : Tok) (te : Tok) (y1 : Int) (y2 : Int) (y3 : Int) (vs : List Value) (vs8 : List Value) (w1 : List Value) (w2 : List Value) (w3 : List Value) (nv : List Value) (R : Addr) (M : Addr) (W : Addr) (V : Addr) (V1 : Addr) (V2 : Addr) (V3 : Addr) (G : Addr) (c : Nat) (c8 : Nat) (cw : Nat) (k1 : Nat) (k2 : Nat) (k3 : Nat) (cn : Nat) (o1 : Obj) (o2 : Obj) (o3 : Obj) (o4 : Obj) (t1 : Tok) (t2 : Tok) (t3 : Tok) (p1 : Array Value) (p2 : Array Value) (Q : Flow → Shared → Prop), pJ_S w p loose mean mg mb h₀ L f cd m s e x tr te y1 y2 y3 vs vs8 w1 w2 w3 nv R M W V V1 V2 V3 G c c8 cw k1 k2 k3 cn o1 o2 o3 o4 t1 t2 t3 p1 p2 Q) _ _ _ _ _ _ _ _ _ _ _ _ _ _ _ _ _ _ _ _ _ _ _ _ _ _ _ _ _ _ _ _ _ _ _ _ _ _ _ _ _ _ _ _ _ _ _ _ _ _
  intro w p loose mean mg mb h₀ L f cd m s e x tr te y1 y2 y3 vs vs8 w1 w2 w3 nv R M W V V1 V2 V3 G c c8 cw k1 k2 k3 cn o1 o2 o3 o4 t1 t2 t3 p1 p2 Q hx he B F X T mT mE N hret
  revert X; k_fill; intro X
  obtain ⟨m, rfl⟩ : ∃ m9, m = fun z : Str => if z = "turned" then some (.bytes x tr) else if z = "end" then some (.str e te) else m9 z := ⟨m, by
    funext z
    by_cases hz : z = "turned"
    · subst hz; rw [if_pos rfl]; exact mT
    rw [if_neg hz]; clear hz
    by_cases hz : z = "end"
    · subst hz; rw [if_pos rfl]; exact mE
    rw [if_neg hz]⟩
  unfold lawTop lawEnv
  rw [lawCells_is]
  generalize hS : lawScope = S
  (conv at hS => lhs; whnf)
  subst hS
  generalize hS : st 22 = S
  (conv at hS => lhs; whnf)
  subst hS
  generalize hS : st 23 = S
  (conv at hS => lhs; whnf)
  subst hS
  walk_at "GO"
  (rename Fr _ _ _ _ => f9)
  (rename News _ _ _ _ => n9)
  refine hret _ _ _ _ _ _ _ _ _ (by rfl) ?_ f9 (n9_mem n9 (by kcj_all))
  intro y h1 h2
  simp only [if_neg h1, if_neg h2]
end
theorem reset_PK : True := by
  w_top off
  k_with_none
  (k_with "OM" => with_reducible first | assumption | decide | (refine Nat.ne_of_lt ?_; k_extra "OP") | (refine o_n ?_; k_extra "OP") | k_extra "OP" | exact o_1 | exact o_2 | exact o_3 | exact o_4 | exact o_5 | exact o_6 | exact o_7 | exact o_8 | exact o_9 | exact o_10 | exact o_11 | exact o_12 | exact o_13 | exact o_14 | exact o_15 | exact o_16 | exact o_17 | exact o_18 | exact o_s1 | exact o_s2 | exact o_s3 | exact o_s4 | exact o_s5 | exact o_s6 | exact o_s7 | exact o_s8 | exact o_s9 | exact o_s10 | exact o_s11 | exact o_s12 | exact o_s13 | exact o_s14 | exact o_s15 | exact o_s16 | exact o_r 1 | exact o_r 2 | exact o_r 3 | exact o_r 4 | exact o_r 5 | exact o_r 6 | exact o_r 7 | exact o_r 8 | exact o_r 9 | exact o_r 10 | exact o_r 11 | exact o_r 12 | exact o_r 13 | exact o_r 14 | exact o_r 15 | exact o_r 16 | exact o_u1 | exact o_u2 | exact o_u3 | exact o_e1 | exact o_e2 | exact o_e3 | exact o_e4 | exact o_m1 | exact o_c1 | exact o_c2 | exact o_c3 | exact o_c4 | exact o_c5 | exact o_n1 | exact o_n2 | exact o_n3 | exact o_n4 | exact o_d1 | fail)
  (k_with "OP" => first | k_extra "OB" | exact o_p1 | exact o_p2 | exact o_p3 | exact o_p4 | (refine o_l 1 ?_; k_extra "OB") | (refine o_l 2 ?_; k_extra "OB") | (refine o_l 3 ?_; k_extra "OB") | (refine o_l 4 ?_; k_extra "OB") | fail)
  (k_with "OB" => first | assumption | (refine o_pk ?_; k_extra "OK") | fail)
  (k_with "OK" => first | exact And.left | exact And.right | (refine o_sk ?_; k_extra "OK") | fail)
  (k_with "GO" => repeat' (first | (k_unfold; (try dsimp only)) | (k_end; wrow_close) | walk1 | (dsimp only; k_unfold; (try dsimp only)) | (dsimp only; walk1) | (leave1; (try dsimp only)) | fail "no step"))
  first | walk1 | trivial
section
set_option Elab.async false
set_option maxRecDepth 100000
set_option maxHeartbeats 8000000
set_option pp.deepTerms false
set_option pp.maxSteps 4000
theorem reach_use {w : World} {zs : Nat → Str} {k : Nat} {t : Tok} (hz : ∀ k t, k < 9 → Spec w 57 [.str (Txt.lstripChars (zs k) (Str.ofString ".")) t] 6 [] (fun _ => True) (fun v new => ∃ t, v = .str (zs (k + 1)) t ∧ new = [])) (hk : k < 9) :
    Spec w 57 [.str (Txt.lstripChars (zs k) (Str.ofString ".")) t] 6 [] (fun _ => True) (fun v new => ∃ t, v = .str (zs (k + 1)) t ∧ new = []) := hz k t hk
theorem len9 {zs : Nat → Str} {k : Nat} (h : ∀ k, (zs k).length ≤ 100) : (zs k).length ≤ sizeLine := Nat.le_trans (h k) (by rw [sizeLine_eq]; decide)
theorem zlast {zs : Nat → Str} {i : Nat} : ((List.range (i + 1)).map zs).getD ((-1 + (((List.range (i + 1)).map zs).length : Int))).toNat Str.empty = zs i := by
  rw [List.length_map, List.length_range, show (-1 + ((i + 1 : Nat) : Int)).toNat = i by omega]
  simp
theorem reg_PK_10 : True := by
  (k_with "call builtin:str.lstrip" => (k_here; (try rw [zlast]); (refine SCL.lstripChars (hsz := ?hsz) ?_; (case hsz => exact len9 (by assumption)); intro _ _ _)))
  trivial
theorem reg_PK_11 : True := by
  (k_with "call ref" => (k_here; k_dflt (first | (refine' Spec.use (reach_use ?s1 ?s2) ?k1 ?k2 ?k3 ?k4 ?k5 ?kK ?kd ?ku ?kus ?kp ?_; (case s1 => assumption); (case s2 => assumption); (case k1 => k_asm); (case k2 => k_asm); (case k3 => k_asm); (case k4 => k_asm); (case k5 => k_asm); (case kK => first | exact rfl | assumption); (case kd => ktr_room); (case ku => first | ktr_units | (have hcL9₉₉ := cLine_is; (simp only [units_in1, units_deeper, Around.mark_units, units_caller] at *); done)); (case kus => first | exact (fun _ h => nomatch h) | kcj_all); (case kp => first | trivial | assumption); intro v'₉₉ new'₉₉ h'₉₉ tk'₉₉ hp'₉₉ F'₉₉ N'₉₉ l1₉₉; obtain ⟨t'₉₉, e1₉₉, e2₉₉⟩ := hp'₉₉; subst e1₉₉; subst e2₉₉; simp only [List.cons_append, List.nil_append] at N'₉₉; (try (have l2₉₉ := l1₉₉ _ (.head _); simp only [AllLt, and_true] at l2₉₉)); clear l1₉₉; (try dsimp only)))))
  trivial
local macro_rules | `(tactic| k_all) => `(tactic| assumption)
noncomputable def pK_turn_S (w : World) (p : Program) (loose : List Str) (mean : ExcName → Option Value) (mg : Str → Option Value) (mb : Str → Option Value) (h₀ : Heap) (L : Addr) (f : Addr) (cd : Value) (m : Str → Option Value) (s : Shared) (zs : Nat → Str) (ys : List Value) (Y : Addr) (cy : Nat) (i : Nat) (tail : List (Addr × Obj)) (Q : Flow → Shared → Prop) : Prop :=
  ∀ (hi9 : i < 9) (hlen : ∀ k, (zs k).length ≤ 100) (hz : ∀ k t, k < 9 → Spec w 57 [.str (Txt.lstripChars (zs k) (Str.ofString ".")) t] 6 [] (fun _ => True) (fun v new => ∃ t, v = .str (zs (k + 1)) t ∧ new = [])) (hy : StrsAre ys ((List.range (i + 1)).map zs)) (B : Below callerA h₀ [] h₀) (F : Fr h₀ L s.heap m) (X : (hd.heap_39 w.params).In h₀) (T : Top p loose mean mg mb h₀) (mY : m "zones" = some (.ref Y)) (hoff : ∀ p ∈ tail, @Ne Nat p.1 Y) (N : News h₀ L s.heap ((Y, listOf ys.toArray cy) :: tail)) (hret : ∀ h' tk' d cy', Fr h₀ L h' m → News h₀ L h' ((Y, listOf (ys ++ [Value.str (zs (i + 1)) d]).toArray cy') :: tail) → Q .next { s with heap := h', toks := tk' }),
    wpAny (model PySem.Challenge.rw_zo0033_01.row.prog w) (lawTop L f cd) (execs (forBody (st 25)) (lawEnv L f cd)) Q (fun _ _ => False) s
theorem pK_turn {w : World} {p : Program} {loose : List Str} {mean : ExcName → Option Value} {mg : Str → Option Value} {mb : Str → Option Value} {h₀ : Heap} {L : Addr} {f : Addr} {cd : Value} {m : Str → Option Value} {s : Shared} {zs : Nat → Str} {ys : List Value} {Y : Addr} {cy : Nat} {i : Nat} {tail : List (Addr × Obj)} {Q : Flow → Shared → Prop} : pK_turn_S w p loose mean mg mb h₀ L f cd m s zs ys Y cy i tail Q := by
  refine eps_all (fun x : Sv => pK_turn_S x.w x.p x.loose x.mean (x.mf 0) (x.mf 1) (x.hp 0) (x.ad 0) (x.ad 1) (x.val 0) (x.mf 2) (x.sh 0) (x.sf 0) (x.vl 0) (x.ad 2) (x.nat 0) (x.nat 1) (x.ol 0) x.qf) ?_ (Sv.mk w p loose mean (fun _ => h₀) (fun i9 => [cy, i].getD i9 cy) (fun _ => 0) (fun i9 => [L, f, Y].getD i9 L) (fun _ => default) (fun _ => cd) (fun _ => default) (fun _ => ys) (fun _ => #[]) (fun _ => []) (fun _ => tail) (fun i9 => [mg, mb, m].getD i9 mg) (fun _ => s) (fun _ => "") (fun _ => zs) (fun _ => none) (fun _ => #[]) (fun _ => none) (fun _ => default) (fun _ => none) (fun _ => []) (fun _ => []) (fun _ => {}) (fun _ => true) Q (fun _ => fun _ _ => True))
  clear Q tail i cy Y ys zs s m cd f L h₀ mb mg mean loose p w
  refine (?_ : ∀ (w : World) (p : Program) (loose : List Str) (mean : ExcName → Option Value) (mg : Str → Option Value) (mb : Str → Option Value) (h₀ : Heap) (L : Addr) (f : Addr) (cd : Value) (m : Str → Option Value) (s : Shared) (zs : Nat → Str) (ys : List Value) (Y : Addr) (cy : Nat) (i : Nat) (tail : List (Addr × Obj)) (Q : Flow → Shared → Prop), pK_turn_S w p loose mean mg mb h₀ L f cd m s zs ys Y cy i tail Q) _ _ _ _ _ _ _ _ _ _ _ _ _ _ _ _ _ _ _
  intro w p loose mean mg mb h₀ L f cd m s zs ys Y cy i tail Q hi9 hlen hz hy B F X T mY hoff N hret
  revert X; k_fill; intro X
  obtain ⟨m, rfl⟩ : ∃ m9, m = fun z : Str => if z = "zones" then some (.ref Y) else m9 z := ⟨m, by
    funext z
    by_cases hz : z = "zones"
    · subst hz; rw [if_pos rfl]; exact mY
    rw [if_neg hz]⟩
  unfold lawTop lawEnv
  rw [lawCells_is]
  generalize hS : lawScope = S
  (conv at hS => lhs; whnf)
  subst hS
  generalize hS : st 25 = S
  (conv at hS => lhs; whnf)
  subst hS
  dsimp only [forBody]
  have hyl : ys.length ≤ 9 := by
    have := hy.length
    rw [List.length_map, List.length_range] at this
    omega
  walk_at "GO"
  (rename Fr _ _ _ _ => f9)
  (rename News _ _ _ _ => n9)
  simp only [List.push_toArray] at n9
  exact hret _ _ _ _ f9 n9
local macro_rules | `(tactic| walk_at "pyIter ref") => `(tactic| (k_here; (rename Fr _ _ _ _ => lF'); (rename News _ _ _ _ => lN'); (rename IsRange _ _ _ _ _ _ _ _ => rgX); k_dflt (refine krs_hold 9 rfl rgX (by decide) (by decide) lF' lN' (fun I2 lI2 => ?_)); clear lF' lN' rgX))
theorem allLt_at {d : Nat} : ∀ {l : List (Addr × Obj)}, AllLt d l → ∀ p ∈ l, @LT.lt Nat _ p.1 d
  | [], _, p, h => nomatch h
  | q :: r, hl, p, h => by
    rcases List.mem_cons.mp h with rfl | h
    · exact hl.1
    · exact allLt_at hl.2 p h
noncomputable def pK_all_S (w : World) (p : Program) (loose : List Str) (mean : ExcName → Option Value) (mg : Str → Option Value) (mb : Str → Option Value) (h₀ : Heap) (L : Addr) (f : Addr) (cd : Value) (m : Str → Option Value) (s : Shared) (zs : Nat → Str) (H : Addr) (ch : Nat) (q1 : Str) (q2 : Str) (q3 : Str) (b1 : Tok) (b2 : Tok) (b3 : Tok) (b4 : Tok) (tail : List (Addr × Obj)) (Q : Flow → Shared → Prop) : Prop :=
  ∀ (hlen : ∀ k, (zs k).length ≤ 100) (hz : ∀ k t, k < 9 → Spec w 57 [.str (Txt.lstripChars (zs k) (Str.ofString ".")) t] 6 [] (fun _ => True) (fun v new => ∃ t, v = .str (zs (k + 1)) t ∧ new = [])) (B : Below callerA h₀ [] h₀) (F : Fr h₀ L s.heap m) (X : (hd.heap_39 w.params).In h₀) (T : Top p loose mean mg mb h₀) (mH : m "hosts" = some (.ref H)) (N : News h₀ L s.heap ((H, listOf #[.str (zs 0) b1, .str q1 b2, .str q2 b3, .str q3 b4] ch) :: tail)) (hret : ∀ h' tk' m' (Y : Addr) (ys : List Value) (cy : Nat), StrsAre ys ((List.range 10).map zs) → m' "zones" = some (.ref Y) → (∀ y : Str, y ≠ "zones" → y ≠ "step" → m' y = m y) → Fr h₀ L h' m' → News h₀ L h' ((Y, listOf ys.toArray cy) :: (H, listOf #[.str (zs 0) b1, .str q1 b2, .str q2 b3, .str q3 b4] ch) :: tail) → Q .next { s with heap := h', toks := tk' }),
    wpAny (model PySem.Challenge.rw_zo0033_01.row.prog w) (lawTop L f cd) (execs [st 24, st 25] (lawEnv L f cd)) Q (fun _ _ => False) s
theorem pK_all {w : World} {p : Program} {loose : List Str} {mean : ExcName → Option Value} {mg : Str → Option Value} {mb : Str → Option Value} {h₀ : Heap} {L : Addr} {f : Addr} {cd : Value} {m : Str → Option Value} {s : Shared} {zs : Nat → Str} {H : Addr} {ch : Nat} {q1 : Str} {q2 : Str} {q3 : Str} {b1 : Tok} {b2 : Tok} {b3 : Tok} {b4 : Tok} {tail : List (Addr × Obj)} {Q : Flow → Shared → Prop} : pK_all_S w p loose mean mg mb h₀ L f cd m s zs H ch q1 q2 q3 b1 b2 b3 b4 tail Q := by
  refine eps_all (fun x : Sv => pK_all_S x.w x.p x.loose x.mean (x.mf 0) (x.mf 1) (x.hp 0) (x.ad 0) (x.ad 1) (x.val 0) (x.mf 2) (x.sh 0) (x.sf 0) (x.ad 2) (x.nat 0) (x.str 0) (x.str 1) (x.str 2) (x.tok 0) (x.tok 1) (x.tok 2) (x.tok 3) (x.ol 0) x.qf) ?_ (Sv.mk w p loose mean (fun _ => h₀) (fun _ => ch) (fun _ => 0) (fun i9 => [L, f, H].getD i9 L) (fun i9 => [b1, b2, b3, b4].getD i9 b1) (fun _ => cd) (fun _ => default) (fun _ => []) (fun _ => #[]) (fun _ => []) (fun _ => tail) (fun i9 => [mg, mb, m].getD i9 mg) (fun _ => s) (fun i9 => [q1, q2, q3].getD i9 q1) (fun _ => zs) (fun _ => none) (fun _ => #[]) (fun _ => none) (fun _ => default) (fun _ => none) (fun _ => []) (fun _ => []) (fun _ => {}) (fun _ => true) Q (fun _ => fun _ _ => True))
  clear Q tail b4 b3 b2 b1 q3 q2 q1 ch H zs s m cd f L h₀ mb mg mean loose p w
  refine (?_ : ∀ (w : World) (p : Program) (loose : List Str) (mean : ExcName → Option Value) (mg : Str → Option Value) (mb : Str → Option Value) (h₀ : Heap) (L : Addr) (f : Addr) (cd : Value) (m : Str → Option Value) (s : Shared) (zs : Nat → Str) (H : Addr) (ch : Nat) (q1 : Str) (q2 : Str) (q3 : Str) (b1 : Tok) (b2 : Tok) (b3 : Tok) (b4 : Tok) (tail : List (Addr × Obj)) (Q : Flow → Shared → Prop), pK_all_S w p loose mean mg mb h₀ L f cd m s zs H ch q1 q2 q3 b1 b2 b3 b4 tail Q) _ _ _ _ _ _ _ _ _ _ _ _ _ _ _ _ _ _ _ _ _ _ _ _
  intro w p loose mean mg mb h₀ L f cd m s zs H ch q1 q2 q3 b1 b2 b3 b4 tail Q hlen hz B F X T mH N hret
  revert X; k_fill; intro X
  obtain ⟨m, rfl⟩ : ∃ m9, m = fun z : Str => if z = "hosts" then some (.ref H) else m9 z := ⟨m, by
    funext z
    by_cases hz : z = "hosts"
    · subst hz; rw [if_pos rfl]; exact mH
    rw [if_neg hz]⟩
  unfold lawTop lawEnv
  rw [lawCells_is]
  generalize hS : lawScope = S
  (conv at hS => lhs; whnf)
  subst hS
  generalize hS : st 24 = S
  (conv at hS => lhs; whnf)
  subst hS
  generalize hS : st 25 = S
  (conv at hS => lhs; whnf)
  subst hS
  walk_at "GO"
  (rename News _ _ _ (_ :: _ :: _) => n9)
  (rename ∀ p ∈ _, _ < _ => lI)
  (rename _ ∧ AllLt _ _ => lA)
  rename_i Y9 _ _ _ _ _ _ _ _ _ _ _ I2
  have lt9 : ∀ p ∈ tail, @LT.lt Nat _ p.1 Y9 := allLt_at lA.2
  refine krs_held (m' := fun z => if z = "zones" then some (.ref Y9) else (fun z : Str => if z = "hosts" then some (.ref H) else m z) z) rfl ?_
  refine range_ind (σ := List Value × Nat × (Str → Option Value)) (fun st => (Y9, listOf st.1.toArray st.2.1) :: (H, listOf #[.str (zs 0) b1, .str q1 b2, .str q2 b3, .str q3 b4] ch) :: tail) (fun st => fun z => if z = "zones" then some (.ref Y9) else st.2.2 z) (fun i st => StrsAre st.1 ((List.range (i + 1)).map zs) ∧ ∀ y : Str, y ≠ "zones" → y ≠ "step" → st.2.2 y = (fun z : Str => if z = "hosts" then some (.ref H) else m z) y) ?_ ?_ ([.str (zs 0) b1], 0, _) ⟨.cons _ _ .nil, fun _ _ _ => rfl⟩
  · rintro i ⟨ys, cy, m1⟩ k t h tk hk hi ⟨I1, I4⟩ F1 N1
    dsimp only at I1 I4 F1 N1 ⊢
    have hIY := lI (Y9, listOf #[.str (zs 0) b1] 0) (.head _)
    dsimp only at hIY
    refine pK_turn (cy := cy) (tail := (I2, krsIt (0 + ((i + 1 : Nat) : Int) * 1) (((9 : Nat) : Int) - ((i + 1 : Nat) : Int)) 1) :: (H, listOf #[.str (zs 0) b1, .str q1 b2, .str q2 b3, .str q3 b4] ch) :: tail) (Y := Y9) hi hlen hz I1 B F1 X T ((if_neg (by decide)).trans (if_pos rfl)) (fun p hp => ?_) (fun p hp => N1 p ?_) fun h' tk' d cy' F' N' => ?_
    · rcases List.mem_cons.mp hp with rfl | hp
      · exact Nat.ne_of_gt hIY
      rcases List.mem_cons.mp hp with rfl | hp
      · exact Nat.ne_of_lt lA.1
      · exact Nat.ne_of_lt (lt9 p hp)
    · rcases List.mem_cons.mp hp with rfl | hp
      · exact .tail _ (.head _)
      rcases List.mem_cons.mp hp with rfl | hp
      · exact .head _
      · exact .tail _ (.tail _ hp)
    · refine ⟨h', tk', _, (Y9, listOf (ys ++ [Value.str (zs (i + 1)) d]).toArray cy') :: (H, listOf #[.str (zs 0) b1, .str q1 b2, .str q2 b3, .str q3 b4] ch) :: tail, rfl, F', fun p hp => N' p ?_, fun p hp => ?_, (ys ++ [Value.str (zs (i + 1)) d], cy', fun z : Str => if z = "step" then some (.int k t) else m1 z), ⟨?_, fun y h1 h2 => ?_⟩, rfl, ?_⟩
      · rcases List.mem_cons.mp hp with rfl | hp
        · exact .tail _ (.head _)
        rcases List.mem_cons.mp hp with rfl | hp
        · exact .head _
        · exact .tail _ (.tail _ hp)
      · have lt2 : @LT.lt Nat _ p.1 I2 := by
          rcases List.mem_cons.mp hp with rfl | hp
          · exact hIY
          · exact lI p (.tail _ hp)
        exact Nat.ne_of_lt lt2
      · rw [List.range_succ, List.map_append]
        exact PySem.W.kct_snoc I1
      · exact (if_neg h2).trans (I4 y h1 h2)
      · funext y
        dsimp only
        by_cases hy : y = "zones"
        · subst hy; rfl
        · rw [if_neg hy, if_neg hy]
  · rintro ⟨ys, cy, m1⟩ h tk ⟨I1, I4⟩ F1 N1
    dsimp only at I1 I4 F1 N1
    refine wpAny_execs_nil (hret h tk _ Y9 ys cy I1 (if_pos rfl) (fun y h1 h2 => (if_neg h1).trans (I4 y h1 h2)) F1 N1)
theorem strs_cons {vs : List Value} {x : Str} {xs : List Str} (h : StrsAre vs (x :: xs)) : ∃ d us, vs = .str x d :: us ∧ StrsAre us xs := by
  cases h with
  | cons _ d h => exact ⟨d, _, rfl, h⟩
theorem strs_nil {vs : List Value} (h : StrsAre vs []) : vs = [] := by
  cases h; rfl
theorem strs10 {zs : Nat → Str} {ys : List Value} (h : StrsAre ys ((List.range 10).map zs)) : ∃ d0 d1 d2 d3 d4 d5 d6 d7 d8 d9, ys = [.str (zs 0) d0, .str (zs 1) d1, .str (zs 2) d2, .str (zs 3) d3, .str (zs 4) d4, .str (zs 5) d5, .str (zs 6) d6, .str (zs 7) d7, .str (zs 8) d8, .str (zs 9) d9] := by
  have e : (List.range 10).map zs = [zs 0, zs 1, zs 2, zs 3, zs 4, zs 5, zs 6, zs 7, zs 8, zs 9] := rfl
  rw [e] at h
  refine fold fun Z hZ => ?_
  obtain ⟨d0, y0, e0, h0⟩ := strs_cons h
  obtain ⟨d1, y1, e1, h1⟩ := strs_cons h0
  obtain ⟨d2, y2, e2, h2⟩ := strs_cons h1
  obtain ⟨d3, y3, e3, h3⟩ := strs_cons h2
  obtain ⟨d4, y4, e4, h4⟩ := strs_cons h3
  obtain ⟨d5, y5, e5, h5⟩ := strs_cons h4
  obtain ⟨d6, y6, e6, h6⟩ := strs_cons h5
  obtain ⟨d7, y7, e7, h7⟩ := strs_cons h6
  obtain ⟨d8, y8, e8, h8⟩ := strs_cons h7
  obtain ⟨d9, y9, e9, h9⟩ := strs_cons h8
  exact hZ ⟨d0, d1, d2, d3, d4, d5, d6, d7, d8, d9, by rw [e0, e1, e2, e3, e4, e5, e6, e7, e8, e9, strs_nil h9]⟩
noncomputable def pK_S (w : World) (p : Program) (loose : List Str) (mean : ExcName → Option Value) (mg : Str → Option Value) (mb : Str → Option Value) (h₀ : Heap) (L : Addr) (f : Addr) (cd : Value) (m : Str → Option Value) (s : Shared) (zs : Nat → Str) (H : Addr) (ch : Nat) (q1 : Str) (q2 : Str) (q3 : Str) (b1 : Tok) (b2 : Tok) (b3 : Tok) (b4 : Tok) (y1 : Int) (y2 : Int) (y3 : Int) (vs : List Value) (vs8 : List Value) (w1 : List Value) (w2 : List Value) (w3 : List Value) (nv : List Value) (R : Addr) (M : Addr) (W : Addr) (V : Addr) (V1 : Addr) (V2 : Addr) (V3 : Addr) (G : Addr) (c : Nat) (c8 : Nat) (cw : Nat) (k1 : Nat) (k2 : Nat) (k3 : Nat) (cn : Nat) (o1 : Obj) (o2 : Obj) (o3 : Obj) (o4 : Obj) (t1 : Tok) (t2 : Tok) (t3 : Tok) (p1 : Array Value) (p2 : Array Value) (Q : Flow → Shared → Prop) : Prop :=
  ∀ (hlen : ∀ k, (zs k).length ≤ 100) (hz : ∀ k t, k < 9 → Spec w 57 [.str (Txt.lstripChars (zs k) (Str.ofString ".")) t] 6 [] (fun _ => True) (fun v new => ∃ t, v = .str (zs (k + 1)) t ∧ new = [])) (B : Below callerA h₀ [] h₀) (F : Fr h₀ L s.heap m) (X : (hd.heap_39 w.params).In h₀) (T : Top p loose mean mg mb h₀) (mH : m "hosts" = some (.ref H)) (N : News h₀ L s.heap [(H, listOf #[.str (zs 0) b1, .str q1 b2, .str q2 b3, .str q3 b4] ch), (G, listOf nv.toArray cn), (V, listOf #[.ref V1, .ref V2, .ref V3] 3), (V1, listOf w1.toArray k1), (V2, listOf w2.toArray k2), (V3, listOf w3.toArray k3), (W, listOf #[.int y1 t1, .int y2 t2, .int y3 t3] cw), (R, listOf vs8.toArray c8), (M, listOf vs.toArray c), (L + 4, o4), (L + 3, o3), (L + 2, o2), (L + 1, o1), (80, tabObj p1), (73, tabObj p2)]) (hret : ∀ h' tk' m' (Y : Addr) (cy : Nat) (d0 d1 d2 d3 d4 d5 d6 d7 d8 d9 : Tok), m' "zones" = some (.ref Y) → (∀ y : Str, y ≠ "zones" → y ≠ "step" → m' y = m y) → Fr h₀ L h' m' →
    News h₀ L h' [(Y, listOf #[.str (zs 0) d0, .str (zs 1) d1, .str (zs 2) d2, .str (zs 3) d3, .str (zs 4) d4, .str (zs 5) d5, .str (zs 6) d6, .str (zs 7) d7, .str (zs 8) d8, .str (zs 9) d9] cy), (H, listOf #[.str (zs 0) b1, .str q1 b2, .str q2 b3, .str q3 b4] ch), (G, listOf nv.toArray cn), (V, listOf #[.ref V1, .ref V2, .ref V3] 3), (V1, listOf w1.toArray k1), (V2, listOf w2.toArray k2), (V3, listOf w3.toArray k3), (W, listOf #[.int y1 t1, .int y2 t2, .int y3 t3] cw), (R, listOf vs8.toArray c8), (M, listOf vs.toArray c), (L + 4, o4), (L + 3, o3), (L + 2, o2), (L + 1, o1), (80, tabObj p1), (73, tabObj p2)] → Q .next { s with heap := h', toks := tk' }),
    wpAny (model PySem.Challenge.rw_zo0033_01.row.prog w) (lawTop L f cd) (execs [st 24, st 25] (lawEnv L f cd)) Q (fun _ _ => False) s
theorem pK {w : World} {p : Program} {loose : List Str} {mean : ExcName → Option Value} {mg : Str → Option Value} {mb : Str → Option Value} {h₀ : Heap} {L : Addr} {f : Addr} {cd : Value} {m : Str → Option Value} {s : Shared} {zs : Nat → Str} {H : Addr} {ch : Nat} {q1 : Str} {q2 : Str} {q3 : Str} {b1 : Tok} {b2 : Tok} {b3 : Tok} {b4 : Tok} {y1 : Int} {y2 : Int} {y3 : Int} {vs : List Value} {vs8 : List Value} {w1 : List Value} {w2 : List Value} {w3 : List Value} {nv : List Value} {R : Addr} {M : Addr} {W : Addr} {V : Addr} {V1 : Addr} {V2 : Addr} {V3 : Addr} {G : Addr} {c : Nat} {c8 : Nat} {cw : Nat} {k1 : Nat} {k2 : Nat} {k3 : Nat} {cn : Nat} {o1 : Obj} {o2 : Obj} {o3 : Obj} {o4 : Obj} {t1 : Tok} {t2 : Tok} {t3 : Tok} {p1 : Array Value} {p2 : Array Value} {Q : Flow → Shared → Prop} : pK_S w p loose mean mg mb h₀ L f cd m s zs H ch q1 q2 q3 b1 b2 b3 b4 y1 y2 y3 vs vs8 w1 w2 w3 nv R M W V V1 V2 V3 G c c8 cw k1 k2 k3 cn o1 o2 o3 o4 t1 t2 t3 p1 p2 Q := by
  refine eps_all (fun x : Sv => pK_S x.w x.p x.loose x.mean (x.mf 0) (x.mf 1) (x.hp 0) (x.ad 0) (x.ad 1) (x.val 0) (x.mf 2) (x.sh 0) (x.sf 0) (x.ad 2) (x.nat 0) (x.str 0) (x.str 1) (x.str 2) (x.tok 0) (x.tok 1) (x.tok 2) (x.tok 3) (x.int 0) (x.int 1) (x.int 2) (x.vl 0) (x.vl 1) (x.vl 2) (x.vl 3) (x.vl 4) (x.vl 5) (x.ad 3) (x.ad 4) (x.ad 5) (x.ad 6) (x.ad 7) (x.ad 8) (x.ad 9) (x.ad 10) (x.nat 1) (x.nat 2) (x.nat 3) (x.nat 4) (x.nat 5) (x.nat 6) (x.nat 7) (x.ob 0) (x.ob 1) (x.ob 2) (x.ob 3) (x.tok 4) (x.tok 5) (x.tok 6) (x.va 0) (x.va 1) x.qf) ?_ (Sv.mk w p loose mean (fun _ => h₀) (fun i9 => [ch, c, c8, cw, k1, k2, k3, cn].getD i9 ch) (fun i9 => [y1, y2, y3].getD i9 y1) (fun i9 => [L, f, H, R, M, W, V, V1, V2, V3, G].getD i9 L) (fun i9 => [b1, b2, b3, b4, t1, t2, t3].getD i9 b1) (fun _ => cd) (fun i9 => [o1, o2, o3, o4].getD i9 o1) (fun i9 => [vs, vs8, w1, w2, w3, nv].getD i9 vs) (fun i9 => [p1, p2].getD i9 p1) (fun _ => []) (fun _ => []) (fun i9 => [mg, mb, m].getD i9 mg) (fun _ => s) (fun i9 => [q1, q2, q3].getD i9 q1) (fun _ => zs) (fun _ => none) (fun _ => #[]) (fun _ => none) (fun _ => default) (fun _ => none) (fun _ => []) (fun _ => []) (fun _ => {}) (fun _ => true) Q (fun _ => fun _ _ => True))
  clear Q p2 p1 t3 t2 t1 o4 o3 o2 o1 cn k3 k2 k1 cw c8 c G V3 V2 V1 V W M R nv w3 w2 w1 vs8 vs y3 y2 y1 b4 b3 b2 b1 q3 q2 q1 ch H zs s m cd f L h₀ mb mg mean loose p w
  refine (?_ : ∀ (w : World) (p : Program) (loose : List Str) (mean : ExcName → Option Value) (mg : Str → Option Value) (mb : Str → Option Value) (h₀ : Heap) (L : Addr) (f : Addr) (cd : Value) (m : Str → Option Value) (s : Shared) (zs : Nat → Str) (H : Addr) (ch : Nat) (q1 : Str) (q2 : Str) (q3 : Str) (b1 : Tok) (b2 : Tok) (b3 : Tok) (b4 : Tok) (y1 : Int) (y2 : Int) (y3 : Int) (vs : List Value) (vs8 : List Value) (w1 : List Value) (w2 : List Value) (w3 : List Value) (nv : List Value) (R : Addr) (M : Addr) (W : Addr) (V : Addr) (V1 : Addr) (V2 : Addr) (V3 : Addr) (G : Addr) (c : Nat) (c8 : Nat) (cw : Nat) (k1 : Nat) (k2 : Nat) (k3 : Nat) (cn : Nat) (o1 : Obj) (o2 : Obj) (o3 : Obj) (o4 : Obj) (t1 : Tok) (t2 : Tok) (t3 : Tok) (p1 : Array Value) (p2 : Array Value) (Q : Flow → Shared → Prop), pK_S w p loose mean mg mb h₀ L f cd m s zs H ch q1 q2 q3 b1 b2 b3 b4 y1 y2 y3 vs vs8 w1 w2 w3 nv R M W V V1 V2 V3 G c c8 cw k1 k2 k3 cn o1 o2 o3 o4 t1 t2 t3 p1 p2 Q) _ _ _ _ _ _ _ _ _ _ _ _ _ _ _ _ _ _ _ _ _ _ _ _ _ _ _ _ _ _ _ _ _ _ _ _ _ _ _ _ _ _ _ _ _ _ _ _ _ _ _ _ _ _ _ _
  intro w p loose mean mg mb h₀ L f cd m s zs H ch q1 q2 q3 b1 b2 b3 b4 y1 y2 y3 vs vs8 w1 w2 w3 nv R M W V V1 V2 V3 G c c8 cw k1 k2 k3 cn o1 o2 o3 o4 t1 t2 t3 p1 p2 Q hlen hz B F X T mH N hret
  refine pK_all hlen hz B F X T mH N fun h' tk' m' Y ys cy hy mY hm F' N' => ?_
  obtain ⟨d0, d1, d2, d3, d4, d5, d6, d7, d8, d9, rfl⟩ := strs10 hy
  exact hret h' tk' m' Y cy d0 d1 d2 d3 d4 d5 d6 d7 d8 d9 mY hm F' N'
end
theorem reset_PLA : True := by
  w_top off
  k_with_none
  (k_with "OM" => with_reducible first | assumption | decide | (refine Nat.ne_of_lt ?_; k_extra "OP") | (refine o_n ?_; k_extra "OP") | k_extra "OP" | exact o_1 | exact o_2 | exact o_3 | exact o_4 | exact o_5 | exact o_6 | exact o_7 | exact o_8 | exact o_9 | exact o_10 | exact o_11 | exact o_12 | exact o_13 | exact o_14 | exact o_15 | exact o_16 | exact o_17 | exact o_18 | exact o_s1 | exact o_s2 | exact o_s3 | exact o_s4 | exact o_s5 | exact o_s6 | exact o_s7 | exact o_s8 | exact o_s9 | exact o_s10 | exact o_s11 | exact o_s12 | exact o_s13 | exact o_s14 | exact o_s15 | exact o_s16 | exact o_r 1 | exact o_r 2 | exact o_r 3 | exact o_r 4 | exact o_r 5 | exact o_r 6 | exact o_r 7 | exact o_r 8 | exact o_r 9 | exact o_r 10 | exact o_r 11 | exact o_r 12 | exact o_r 13 | exact o_r 14 | exact o_r 15 | exact o_r 16 | exact o_u1 | exact o_u2 | exact o_u3 | exact o_e1 | exact o_e2 | exact o_e3 | exact o_e4 | exact o_m1 | exact o_c1 | exact o_c2 | exact o_c3 | exact o_c4 | exact o_c5 | exact o_n1 | exact o_n2 | exact o_n3 | exact o_n4 | exact o_d1 | fail)
  (k_with "OP" => first | k_extra "OB" | exact o_p1 | exact o_p2 | exact o_p3 | exact o_p4 | (refine o_l 1 ?_; k_extra "OB") | (refine o_l 2 ?_; k_extra "OB") | (refine o_l 3 ?_; k_extra "OB") | (refine o_l 4 ?_; k_extra "OB") | fail)
  (k_with "OB" => first | assumption | (refine o_pk ?_; k_extra "OK") | fail)
  (k_with "OK" => first | exact And.left | exact And.right | (refine o_sk ?_; k_extra "OK") | fail)
  (k_with "GO" => repeat' (first | (k_unfold; (try dsimp only)) | (k_end; wrow_close) | walk1 | (dsimp only; k_unfold; (try dsimp only)) | (dsimp only; walk1) | (leave1; (try dsimp only)) | fail "no step"))
  first | walk1 | trivial
section
set_option Elab.async false
set_option maxRecDepth 100000
set_option maxHeartbeats 8000000
set_option pp.deepTerms false
set_option pp.maxSteps 4000
/-- a statement of the last loop's body -/
noncomputable def bd (i : Nat) : Stmt := (forBody (st 26)).getD i (.Pass default)
theorem off_tab {h₀ h : Heap} {L : Addr} {us rest : List (Addr × Obj)} (N : News h₀ L h (us ++ rest)) (hu : TabSt us) (hp : ∀ p ∈ rest, Z3.Plain p.2 ∧ @Ne Nat p.1 73 ∧ @Ne Nat p.1 80) : ∀ p ∈ rest, p.1 ∉ us.map (·.1) := by
  intro p hpr hq
  obtain ⟨a1, a2, a3⟩ := hp p hpr
  rcases hu with rfl | ⟨c1, oc1, c2, oc2, rfl, hc1, hc2⟩
  · simp only [List.map_cons, List.map_nil, List.mem_cons, List.not_mem_nil, or_false] at hq
    rcases hq with e | e
    · exact a2 e
    · exact a3 e
  · simp only [List.map_cons, List.map_nil, List.mem_cons, List.not_mem_nil, or_false] at hq
    have g := (N _ (List.mem_append_right _ hpr)).1
    rcases hq with e | e | e | e
    · exact a2 e
    · have q := (N (c1, oc1) (List.mem_append_left _ (.tail _ (.head _)))).1
      rw [e] at g; dsimp only at q; rw [q] at g
      exact a1 _ (Option.some.inj g ▸ hc1)
    · exact a3 e
    · have q := (N (c2, oc2) (List.mem_append_left _ (.tail _ (.tail _ (.tail _ (.head _)))))).1
      rw [e] at g; dsimp only at q; rw [q] at g
      exact a1 _ (Option.some.inj g ▸ hc2)
theorem dm_use {w : World} {z : Int} {t u : Tok} {us rest : List (Addr × Obj)} {p : Program} {loose : List Str} {mean : ExcName → Option Value} {mg mb : Str → Option Value} {dp un : Nat} {gd : Option (List Code)} {cn : Str} {cs : Scope} {a : Addr} {ccd : Value} {cl : List (Str × Addr)} {outer : List Env} {A₀ : Around} {base h₀ : Heap} {L : Addr} {m : Str → Option Value} {s : Shared} {Q E : Value → Shared → Prop}
    (B : Below A₀ base outer h₀) (F : Fr h₀ L s.heap m) (X : (hd.heap_39 w.params).In h₀) (N : News h₀ L s.heap (us ++ rest)) (T : Top p loose mean mg mb h₀) (hz : -(2 ^ 26) < z ∧ z < 2 ^ 26) (hu : TabSt us) (hp : ∀ p ∈ rest, Z3.Plain p.2 ∧ @Ne Nat p.1 73 ∧ @Ne Nat p.1 80)
    (hC1 : CodeHd h₀ 77 73) (hC2 : CodeHd h₀ 84 80) (hk : cs.kind = .function) (hd : dp + 24 < recursionLimit) (hun : un + 8 * 24 < cLine)
    (hret : ∀ D c tq tr us' h' tk', TabSt us' → Fr h₀ L h' m → News h₀ L h' ((D, { cls := .type "tuple", data := .seq #[.int (z.fdiv 256) tq, .int (z.fmod 256) tr] c }) :: (us' ++ rest)) → Q (.ref D) { s with heap := h', toks := tk' }) :
    wpAny (model PySem.Challenge.rw_zo0033_01.row.prog w) (ktrTop dp un gd cn cs L a ccd cl outer) (call (.ref 99) [.int z t, .int 256 u]) Q E s := by
  refine SpecT.use (dm_spec hz.1 hz.2 hu) rest B F X N T hk hd hun (fun _ h => h) (off_tab N hu hp) ⟨hC1, hC2⟩ ?_
  rintro v new us' h' tk' ⟨⟨D, c, tq, tr, rfl, rfl⟩, hg⟩ F' N' l
  exact hret D c tq tr us' h' tk' (.inr hg) F' N'
local macro_rules | `(tactic| walk_at "call ref") => `(tactic| (k_here; k_dflt (refine' dm_use ?B ?F ?X ?N ?T ?z ?u ?p ?c ?d ?k ?r ?n ?_; (case B => k_asm); (case F => k_asm); (case X => k_asm); (case N => k_asm); (case T => k_asm); (case z => assumption); (case u => assumption); (case p => assumption); (case c => assumption); (case d => assumption); (case k => first | exact rfl | assumption); (case r => ktr_room); (case n => first | ktr_units | (have hcL9 := cLine_is; (simp only [units_in1, units_deeper, Around.mark_units, units_caller] at *); done)); intro D' c' tq' tr' us' h' tk' hu' F' N')))
noncomputable def pLA_S (w : World) (p : Program) (loose : List Str) (mean : ExcName → Option Value) (mg : Str → Option Value) (mb : Str → Option Value) (h₀ : Heap) (L : Addr) (f : Addr) (cd : Value) (m : Str → Option Value) (s : Shared) (us : List (Addr × Obj)) (rest : List (Addr × Obj)) (y : Int) (U : Int) (D : Int) (ty : Tok) (tu : Tok) (td : Tok) (Q : Flow → Shared → Prop) : Prop :=
  ∀ (hz : -(2 ^ 26) < D * y - U ∧ D * y - U < 2 ^ 26) (hD : -(2 ^ 8) < D ∧ D < 2 ^ 8) (hY : -6000 < y ∧ y < 6000) (hU : -(2 ^ 16) < U ∧ U < 2 ^ 16) (hu : TabSt us) (hp : ∀ p ∈ rest, Z3.Plain p.2 ∧ @Ne Nat p.1 73 ∧ @Ne Nat p.1 80) (B : Below callerA h₀ [] h₀) (F : Fr h₀ L s.heap m) (X : (hd.heap_39 w.params).In h₀) (T : Top p loose mean mg mb h₀) (hC1 : CodeHd h₀ 77 73) (hC2 : CodeHd h₀ 84 80) (mY : m "number" = some (.int y ty)) (mU : m "upper" = some (.int U tu)) (mD : m "lower" = some (.int D td)) (N : News h₀ L s.heap (us ++ rest)) (hret : ∀ h' tk' m' us' tq tr, TabSt us' → m' "quotient" = some (.int ((D * y - U).fdiv 256) tq) → m' "rest" = some (.int ((D * y - U).fmod 256) tr) → (∀ y : Str, y ≠ "quotient" → y ≠ "rest" → m' y = m y) → Fr h₀ L h' m' → News h₀ L h' (us' ++ rest) → Q .next { s with heap := h', toks := tk' }),
    wpAny (model PySem.Challenge.rw_zo0033_01.row.prog w) (lawTop L f cd) (execs [bd 0, bd 1] (lawEnv L f cd)) Q (fun _ _ => False) s
theorem pLA {w : World} {p : Program} {loose : List Str} {mean : ExcName → Option Value} {mg : Str → Option Value} {mb : Str → Option Value} {h₀ : Heap} {L : Addr} {f : Addr} {cd : Value} {m : Str → Option Value} {s : Shared} {us : List (Addr × Obj)} {rest : List (Addr × Obj)} {y : Int} {U : Int} {D : Int} {ty : Tok} {tu : Tok} {td : Tok} {Q : Flow → Shared → Prop} : pLA_S w p loose mean mg mb h₀ L f cd m s us rest y U D ty tu td Q := by
  refine eps_all (fun x : Sv => pLA_S x.w x.p x.loose x.mean (x.mf 0) (x.mf 1) (x.hp 0) (x.ad 0) (x.ad 1) (x.val 0) (x.mf 2) (x.sh 0) (x.ol 0) (x.ol 1) (x.int 0) (x.int 1) (x.int 2) (x.tok 0) (x.tok 1) (x.tok 2) x.qf) ?_ (Sv.mk w p loose mean (fun _ => h₀) (fun _ => 0) (fun i => [y, U, D].getD i y) (fun i => [L, f].getD i L) (fun i => [ty, tu, td].getD i ty) (fun _ => cd) (fun _ => default) (fun _ => []) (fun _ => #[]) (fun _ => []) (fun i => [us, rest].getD i us) (fun i => [mg, mb, m].getD i mg) (fun _ => s) (fun _ => "") (fun _ => fun _ => "") (fun _ => none) (fun _ => #[]) (fun _ => none) (fun _ => default) (fun _ => none) (fun _ => []) (fun _ => []) (fun _ => {}) (fun _ => true) Q (fun _ => fun _ _ => True))
  clear Q td tu ty D U y rest us s m cd f L h₀ mb mg mean loose p w
  refine (?_ : ∀ (w : World) (p : Program) (loose : List Str) (mean : ExcName → Option Value) (mg : Str → Option Value) (mb : Str → Option Value) (h₀ : Heap) (L : Addr) (f : Addr) (cd : Value) (m : Str → Option Value) (s : Shared) (us : List (Addr × Obj)) (rest : List (Addr × Obj)) (y : Int) (U : Int) (D : Int) (ty : Tok) (tu : Tok) (td : Tok) (Q : Flow → Shared → Prop), pLA_S w p loose mean mg mb h₀ L f cd m s us rest y U D ty tu td Q) _ _ _ _ _ _ _ _ _ _ _ _ _ _ _ _ _ _ _ _ _
  intro w p loose mean mg mb h₀ L f cd m s us rest y U D ty tu td Q hz hD hY hU hu hp B F X T hC1 hC2 mY mU mD N hret
  revert X; k_fill; intro X
  obtain ⟨m, rfl⟩ : ∃ m9, m = fun z : Str => if z = "number" then some (.int y ty) else if z = "upper" then some (.int U tu) else if z = "lower" then some (.int D td) else m9 z := ⟨m, by
    funext z
    by_cases hz : z = "number"
    · subst hz; rw [if_pos rfl]; exact mY
    rw [if_neg hz]; clear hz
    by_cases hz : z = "upper"
    · subst hz; rw [if_pos rfl]; exact mU
    rw [if_neg hz]; clear hz
    by_cases hz : z = "lower"
    · subst hz; rw [if_pos rfl]; exact mD
    rw [if_neg hz]⟩
  unfold lawTop lawEnv
  rw [lawCells_is]
  generalize hS : lawScope = S
  (conv at hS => lhs; whnf)
  subst hS
  generalize hS : bd 0 = S
  (conv at hS => lhs; whnf)
  subst hS
  generalize hS : bd 1 = S
  (conv at hS => lhs; whnf)
  subst hS
  have b1 := Int.fmod_nonneg_of_pos (D * y - U) (show (0 : Int) < 256 by decide)
  have b2 := Int.fmod_lt_of_pos (D * y - U) (show (0 : Int) < 256 by decide)
  walk_at "GO"
  all_goals (first | (exfalso; omega) | skip)
  (rename Fr _ _ _ _ => f9)
  (rename News _ _ _ _ => n9)
  refine hret _ _ _ _ _ _ (by assumption) (by rfl) (by rfl) ?_ f9 (fun p hp => n9 p (.tail _ hp))
  intro y h1 h2
  simp only [if_neg h1, if_neg h2]
end
theorem reset_PLB : True := by
  w_top off
  k_with_none
  (k_with "OM" => with_reducible first | assumption | decide | (refine Nat.ne_of_lt ?_; k_extra "OP") | (refine o_n ?_; k_extra "OP") | k_extra "OP" | exact o_1 | exact o_2 | exact o_3 | exact o_4 | exact o_5 | exact o_6 | exact o_7 | exact o_8 | exact o_9 | exact o_10 | exact o_11 | exact o_12 | exact o_13 | exact o_14 | exact o_15 | exact o_16 | exact o_17 | exact o_18 | exact o_s1 | exact o_s2 | exact o_s3 | exact o_s4 | exact o_s5 | exact o_s6 | exact o_s7 | exact o_s8 | exact o_s9 | exact o_s10 | exact o_s11 | exact o_s12 | exact o_s13 | exact o_s14 | exact o_s15 | exact o_s16 | exact o_r 1 | exact o_r 2 | exact o_r 3 | exact o_r 4 | exact o_r 5 | exact o_r 6 | exact o_r 7 | exact o_r 8 | exact o_r 9 | exact o_r 10 | exact o_r 11 | exact o_r 12 | exact o_r 13 | exact o_r 14 | exact o_r 15 | exact o_r 16 | exact o_u1 | exact o_u2 | exact o_u3 | exact o_e1 | exact o_e2 | exact o_e3 | exact o_e4 | exact o_m1 | exact o_c1 | exact o_c2 | exact o_c3 | exact o_c4 | exact o_c5 | exact o_n1 | exact o_n2 | exact o_n3 | exact o_n4 | exact o_d1 | fail)
  (k_with "OP" => first | k_extra "OB" | exact o_p1 | exact o_p2 | exact o_p3 | exact o_p4 | (refine o_l 1 ?_; k_extra "OB") | (refine o_l 2 ?_; k_extra "OB") | (refine o_l 3 ?_; k_extra "OB") | (refine o_l 4 ?_; k_extra "OB") | fail)
  (k_with "OB" => first | assumption | (refine o_pk ?_; k_extra "OK") | fail)
  (k_with "OK" => first | exact And.left | exact And.right | (refine o_sk ?_; k_extra "OK") | fail)
  (k_with "GO" => repeat' (first | (k_unfold; (try dsimp only)) | (k_end; wrow_close) | walk1 | (dsimp only; k_unfold; (try dsimp only)) | (dsimp only; walk1) | (leave1; (try dsimp only)) | fail "no step"))
  first | walk1 | trivial
section
set_option Elab.async false
set_option maxRecDepth 100000
set_option maxHeartbeats 8000000
set_option pp.deepTerms false
set_option pp.maxSteps 4000
/-- the test and the body of a while loop -/
noncomputable def whTest (x : Stmt) : Expr := match x with | .While t _ _ _ => t | _ => .Constant .none default default
noncomputable def whBody (x : Stmt) : List Stmt := match x with | .While _ b _ _ => b | _ => []
theorem reg_PLB_10 : True := by
  (k_with "loadName" => (k_here; k_dflt (refine loadX_C (by k_asm) (by rfl) (.head _) (by k_asm) ?_)))
  trivial
local macro_rules | `(tactic| k_all) => `(tactic| assumption)
theorem pLB_test {w : World} {p : Program} {loose : List Str} {mean : ExcName → Option Value} {mg mb : Str → Option Value} {h₀ : Heap} {L f : Addr} {cd : Value} {m : Str → Option Value} {s : Shared} {tail : List (Addr × Obj)} {r k : Int} {tr t : Tok} {o4 : Obj}  {Q : Bool → Shared → Prop} (hr : 0 ≤ r ∧ r < 256) (hp : ∀ p ∈ tail, @Ne Nat p.1 (L + 4)) (hk : 0 ≤ k ∧ k ≤ 8) (B : Below callerA h₀ [] h₀) (F : Fr h₀ L s.heap m) (X : (hd.heap_39 w.params).In h₀) (T : Top p loose mean mg mb h₀) (mR : m "rest" = some (.int r tr)) (d4 : o4.data = .cell (some (.int k t)))
  (N : News h₀ L s.heap ((L + 4, o4) :: tail))
  (hret : ∀ tk', Q (r.fmod (2 ^ k.toNat) != 0) { s with toks := tk' }) : wpAny (model PySem.Challenge.rw_zo0033_01.row.prog w) (lawTop L f cd) (isTrue (whTest (bd 3)) (lawEnv L f cd) (eval (whTest (bd 3)) (lawEnv L f cd))) Q (fun _ _ => False) s := by
  revert X; k_fill; intro X
  obtain ⟨m, rfl⟩ : ∃ m9, m = fun z : Str => if z = "rest" then some (.int r tr) else m9 z := ⟨m, by
    funext z
    by_cases hz : z = "rest"
    · subst hz; rw [if_pos rfl]; exact mR
    rw [if_neg hz]⟩
  unfold lawTop lawEnv
  rw [lawCells_is]
  generalize hS : lawScope = S
  (conv at hS => lhs; whnf)
  subst hS
  generalize hS : whTest (bd 3) = S
  (conv at hS => lhs; whnf)
  subst hS
  walk_at "GO"
  all_goals (first | (exfalso; omega) | skip)
  all_goals exact hret _
theorem pLB_body {w : World} {p : Program} {loose : List Str} {mean : ExcName → Option Value} {mg mb : Str → Option Value} {h₀ : Heap} {L f : Addr} {cd : Value} {m : Str → Option Value} {s : Shared} {tail : List (Addr × Obj)} {r k : Int} {tr t : Tok} {o4 : Obj}  {Q : Flow → Shared → Prop} (hr : 0 ≤ r ∧ r < 256) (hp : ∀ p ∈ tail, @Ne Nat p.1 (L + 4)) (hk : 1 ≤ k ∧ k ≤ 8) (B : Below callerA h₀ [] h₀) (F : Fr h₀ L s.heap m) (X : (hd.heap_39 w.params).In h₀) (T : Top p loose mean mg mb h₀) (d4 : o4.data = .cell (some (.int k t)))
  (N : News h₀ L s.heap ((L + 4, o4) :: tail))
  (hret : ∀ h' tk' o4' t', o4'.data = .cell (some (.int (k - 1) t')) → Fr h₀ L h' m → News h₀ L h' ((L + 4, o4') :: tail) → Q .next { s with heap := h', toks := tk' }) : wpAny (model PySem.Challenge.rw_zo0033_01.row.prog w) (lawTop L f cd) (execs (whBody (bd 3)) (lawEnv L f cd)) Q (fun _ _ => False) s := by
  revert X; k_fill; intro X
  unfold lawTop lawEnv
  rw [lawCells_is]
  generalize hS : lawScope = S
  (conv at hS => lhs; whnf)
  subst hS
  generalize hS : whBody (bd 3) = S
  (conv at hS => lhs; whnf)
  subst hS
  walk_at "GO"
  (rename Fr _ _ _ _ => f9)
  (rename News _ _ _ _ => n9)
  exact hret _ _ _ _ (by assumption) f9 n9
theorem pLB_set {w : World} {p : Program} {loose : List Str} {mean : ExcName → Option Value} {mg mb : Str → Option Value} {h₀ : Heap} {L f : Addr} {cd : Value} {m : Str → Option Value} {s : Shared} {tail : List (Addr × Obj)} {r k : Int} {tr t : Tok} {o4 : Obj}  {Q : Flow → Shared → Prop} (hr : 0 ≤ r ∧ r < 256) (hp : ∀ p ∈ tail, @Ne Nat p.1 (L + 4)) (B : Below callerA h₀ [] h₀) (F : Fr h₀ L s.heap m) (X : (hd.heap_39 w.params).In h₀) (T : Top p loose mean mg mb h₀) {ov : Option Value} (d4 : o4.data = .cell ov)
  (N : News h₀ L s.heap ((L + 4, o4) :: tail))
  (hret : ∀ h' tk' o4' t', o4'.data = .cell (some (.int 8 t')) → Fr h₀ L h' m → News h₀ L h' ((L + 4, o4') :: tail) → Q .next { s with heap := h', toks := tk' }) : wpAny (model PySem.Challenge.rw_zo0033_01.row.prog w) (lawTop L f cd) (execs [bd 2] (lawEnv L f cd)) Q (fun _ _ => False) s := by
  revert X; k_fill; intro X
  unfold lawTop lawEnv
  rw [lawCells_is]
  generalize hS : lawScope = S
  (conv at hS => lhs; whnf)
  subst hS
  generalize hS : bd 2 = S
  (conv at hS => lhs; whnf)
  subst hS
  walk_at "GO"
  (rename Fr _ _ _ _ => f9)
  (rename News _ _ _ _ => n9)
  exact hret _ _ _ _ (by assumption) f9 n9
theorem pLB {w : World} {p : Program} {loose : List Str} {mean : ExcName → Option Value} {mg mb : Str → Option Value} {h₀ : Heap} {L f : Addr} {cd : Value} {m : Str → Option Value} {s : Shared} {tail : List (Addr × Obj)} {r : Int} {tr : Tok} {o4 : Obj}  {Q : Flow → Shared → Prop} (hr : 0 ≤ r ∧ r < 256) (hp : ∀ p ∈ tail, @Ne Nat p.1 (L + 4)) (B : Below callerA h₀ [] h₀) (F : Fr h₀ L s.heap m) (X : (hd.heap_39 w.params).In h₀) (T : Top p loose mean mg mb h₀) {ov : Option Value} (mR : m "rest" = some (.int r tr)) (d4 : o4.data = .cell ov)
  (N : News h₀ L s.heap ((L + 4, o4) :: tail))
  (hret : ∀ h' tk' o4' (k : Nat) t', k ≤ 8 → r.fmod (2 ^ k) = 0 → (∀ j, k < j → j ≤ 8 → r.fmod (2 ^ j) ≠ 0) → o4'.data = .cell (some (.int (k : Int) t')) → Fr h₀ L h' m → News h₀ L h' ((L + 4, o4') :: tail) → Q .next { s with heap := h', toks := tk' }) : wpAny (model PySem.Challenge.rw_zo0033_01.row.prog w) (lawTop L f cd) (execs [bd 2, bd 3] (lawEnv L f cd)) Q (fun _ _ => False) s := by
  refine wpAny_append (a := [bd 2]) (b := [bd 3]) ?_
  refine pLB_set (r := r) (k := 0) (tr := tr) (t := tr) hr hp B F X T d4 N fun h1 tk1 o1 t1 d1 F1 N1 => ?_
  obtain ⟨px, e⟩ : ∃ px, bd 3 = .While (whTest (bd 3)) (whBody (bd 3)) [] px := ⟨_, rfl⟩
  rw [e]
  refine wpAny_execs_cons (wpAny_While (codeAny_noE ?_))
  refine codeAny_whileLoop (fun n s' => ∃ h tk o4' t', s' = { s with heap := h, toks := tk } ∧ n ≤ 8 ∧ (∀ j, n < j → j ≤ 8 → r.fmod (2 ^ j) ≠ 0) ∧ o4'.data = .cell (some (.int (n : Int) t')) ∧ Fr h₀ L h m ∧ News h₀ L h ((L + 4, o4') :: tail)) ?_ 8 ⟨h1, tk1, o1, t1, rfl, by decide, fun j a b => by omega, d1, F1, N1⟩
  rintro n s' ⟨h, tk, o4', t', rfl, hn, hj, d', F', N'⟩
  refine wpAny_noE (pLB_test (k := (n : Int)) hr hp ⟨by omega, by omega⟩ B F' X T mR d' N' fun tk' => ?_)
  rw [Int.toNat_natCast]
  by_cases h0 : r.fmod (2 ^ n) = 0
  · rw [h0, if_neg (by decide)]
    exact wpAny_execs_nil (wpAny_execs_nil (hret h tk' o4' n t' hn h0 hj d' F' N'))
  · rw [if_pos (by simpa using h0)]
    have hn1 : 1 ≤ n := by
      rcases Nat.eq_zero_or_pos n with e | e
      · subst e
        exact absurd (Int.fmod_one r) h0
      · exact e
    refine wpAny_noE (pLB_body (k := (n : Int)) (r := r) (tr := tr) hr hp ⟨by omega, by omega⟩ B F' X T d' N' fun h2 tk2 o2 t2 d2 F2 N2 => ?_)
    refine ⟨n - 1, by omega, h2, tk2, o2, t2, rfl, by omega, fun j a b => ?_, by rw [d2, show ((n : Int) - 1) = ((n - 1 : Nat) : Int) by omega], F2, N2⟩
    rcases Nat.lt_or_ge n j with g | g
    · exact hj j g b
    · obtain rfl : j = n := by omega
      exact h0
end
theorem reset_PLC : True := by
  w_top off
  k_with_none
  (k_with "OM" => with_reducible first | assumption | decide | (refine Nat.ne_of_lt ?_; k_extra "OP") | (refine o_n ?_; k_extra "OP") | k_extra "OP" | exact o_1 | exact o_2 | exact o_3 | exact o_4 | exact o_5 | exact o_6 | exact o_7 | exact o_8 | exact o_9 | exact o_10 | exact o_11 | exact o_12 | exact o_13 | exact o_14 | exact o_15 | exact o_16 | exact o_17 | exact o_18 | exact o_s1 | exact o_s2 | exact o_s3 | exact o_s4 | exact o_s5 | exact o_s6 | exact o_s7 | exact o_s8 | exact o_s9 | exact o_s10 | exact o_s11 | exact o_s12 | exact o_s13 | exact o_s14 | exact o_s15 | exact o_s16 | exact o_r 1 | exact o_r 2 | exact o_r 3 | exact o_r 4 | exact o_r 5 | exact o_r 6 | exact o_r 7 | exact o_r 8 | exact o_r 9 | exact o_r 10 | exact o_r 11 | exact o_r 12 | exact o_r 13 | exact o_r 14 | exact o_r 15 | exact o_r 16 | exact o_u1 | exact o_u2 | exact o_u3 | exact o_e1 | exact o_e2 | exact o_e3 | exact o_e4 | exact o_m1 | exact o_c1 | exact o_c2 | exact o_c3 | exact o_c4 | exact o_c5 | exact o_n1 | exact o_n2 | exact o_n3 | exact o_n4 | exact o_d1 | fail)
  (k_with "OP" => first | k_extra "OB" | exact o_p1 | exact o_p2 | exact o_p3 | exact o_p4 | (refine o_l 1 ?_; k_extra "OB") | (refine o_l 2 ?_; k_extra "OB") | (refine o_l 3 ?_; k_extra "OB") | (refine o_l 4 ?_; k_extra "OB") | fail)
  (k_with "OB" => first | assumption | (refine o_pk ?_; k_extra "OK") | fail)
  (k_with "OK" => first | exact And.left | exact And.right | (refine o_sk ?_; k_extra "OK") | fail)
  (k_with "GO" => repeat' (first | (k_unfold; (try dsimp only)) | (k_end; wrow_close) | walk1 | (dsimp only; k_unfold; (try dsimp only)) | (dsimp only; walk1) | (leave1; (try dsimp only)) | fail "no step"))
  first | walk1 | trivial
section
set_option Elab.async false
set_option maxRecDepth 100000
set_option maxHeartbeats 8000000
set_option pp.deepTerms false
set_option pp.maxSteps 4000
/-- needs and zones, pair by pair -/
inductive NZ (w : World) (host : Str) (th : Tok) (sh : Int) : List Value → List Value → Prop
  | nil : NZ w host th sh [] []
  | cons {n : Int} {tn : Tok} {z : Str} {tz : Tok} {vs us : List Value} (h : Spec w 50 [.str host th, .str z tz] 6 [] (fun _ => True) (fun v new => v = .bool (decide (n ≤ sh)) ∧ new = [])) (r : NZ w host th sh vs us) : NZ w host th sh (.int n tn :: vs) (.str z tz :: us)
theorem offW1_all {p : Addr × Obj} : ∀ {its : List (Addr × Obj)}, (∀ q ∈ its, p.1 ≠ q.1) → OffW1 p its
  | [], _ => True.intro
  | q :: r, h => ⟨.inl (h q (.head _)), offW1_all fun x hx => h x (.tail _ hx)⟩
theorem offW_all {its : List (Addr × Obj)} : ∀ {l : List (Addr × Obj)}, (∀ p ∈ l, ∀ q ∈ its, p.1 ≠ q.1) → OffW its l
  | [], _ => True.intro
  | p :: r, h => ⟨offW1_all (h p (.head _)), offW_all fun x hx => h x (.tail _ hx)⟩
theorem n9x {x y : Addr × Obj} {l : List (Addr × Obj)} (h : x ∈ l) : x ∈ y :: l := .tail _ h
section
variable {prog : Program} {w : World} {A : Around} {E : Value → Shared → Prop} {s : Shared} {env : Env} {h₀ : Heap} {target : Expr} {body : List Stmt} {Q : Flow → Shared → Prop}
theorem allObj_mono2 : ∀ {ws : List (Addr × String)} {k k' : List (Addr × Obj) → Prop}, (∀ its, k its → k' its) → AllObj ws k → AllObj ws k'
  | [], _, _, f, h => f _ h
  | _ :: _, _, _, f, h => fun o ho => allObj_mono2 (fun its => f _) (h o ho)
theorem items_nz (mf : (Str → Option Value) → Str → Option Value) (Inv : (Str → Option Value) → Prop) {ws : List (Addr × String)} {keep news : List (Addr × Obj)} {host : Str} {th : Tok} {sh : Int}
    (turn : ∀ (c : Str → Option Value) (n : Int) (tn : Tok) (z : Str) (tz : Tok) (T : Addr) h tk, Spec w 50 [.str host th, .str z tz] 6 [] (fun _ => True) (fun v new => v = .bool (decide (n ≤ sh)) ∧ new = []) → Inv c → IsTup h T #[.int n tn, .str z tz] → Fr h₀ env.locals h (mf c) → AllObj ws (fun its => News h₀ env.locals h (its ++ news) →
      wpAny (model prog w) A (assign target env (.ref T)) (fun _ s₂ => wpAny (model prog w) A (execs body env) (UnrPostW h₀ env.locals { s with heap := h, toks := tk } its (fun m' n' => SubL keep n' ∧ ∃ c', Inv c' ∧ n' = news ∧ m' = mf c') Q) E s₂) E { s with heap := h, toks := tk }))
    (done : ∀ (c : Str → Option Value) h tk, Inv c → Fr h₀ env.locals h (mf c) → News h₀ env.locals h news → Q .next { s with heap := h, toks := tk }) {nv zv : List Value} (hz : NZ w host th sh nv zv) :
    ∀ c, Inv c → ItemsRest prog w A E h₀ env target body Q s ws keep (zipItems nv zv) (mf c) news := by
  induction hz with
  | nil => exact fun c hI h tk F N => done c h tk hI F N
  | @cons n tn z tz vs us hs hr ih =>
    intro c hI u h tk hu F
    obtain ⟨T, t, e, ht⟩ := hu
    subst e
    refine allObj_mono2 (fun its hk N => wpAny_mono (hk N) (fun _ s₂ h₂ => wpAny_mono h₂ (fun f s₃ h₃ => ?_) fun _ _ y => y) fun _ _ y => y) (turn c n tn z tz T h tk hs hI ht F)
    cases f with
    | ret v => exact h₃
    | brk => exact h₃
    | next =>
      obtain ⟨h', tk', m', n', e1, F', N', o', k', c', hI', e2, e3⟩ := h₃
      subst e2; subst e3
      exact ⟨h', tk', _, _, e1, F', N', o', k', ih c' hI'⟩
    | cont =>
      obtain ⟨h', tk', m', n', e1, F', N', o', k', c', hI', e2, e3⟩ := h₃
      subst e2; subst e3
      exact ⟨h', tk', _, _, e1, F', N', o', k', ih c' hI'⟩
end
theorem reg_PLC_17 : True := by
  (k_with "call ref" => (k_here; k_dflt (first | (refine' Spec.use ((by assumption)) ?k1 ?k2 ?k3 ?k4 ?k5 ?kK ?kd ?ku ?kus ?kp ?_;  (case k1 => k_asm); (case k2 => k_asm); (case k3 => k_asm); (case k4 => k_asm); (case k5 => k_asm); (case kK => first | exact rfl | assumption); (case kd => ktr_room); (case ku => first | ktr_units | (have hcL9₉₉ := cLine_is; (simp only [units_in1, units_deeper, Around.mark_units, units_caller] at *); done)); (case kus => first | exact (fun _ h => nomatch h) | kcj_all); (case kp => first | trivial | assumption); intro v'₉₉ new'₉₉ h'₉₉ tk'₉₉ hp'₉₉ F'₉₉ N'₉₉ l1₉₉; obtain ⟨e1₉₉, e2₉₉⟩ := hp'₉₉; subst e1₉₉; subst e2₉₉; simp only [List.cons_append, List.nil_append] at N'₉₉; clear l1₉₉; (try dsimp only)))))
  trivial
theorem reg_PLC_18 : True := by
  (k_with "exec For Tuple Call cons nil" => (k_here; (rename Fr _ _ _ _ => lF'₉₉); (with_unfolding_all refine' For_turns lF'₉₉ ?_; k_whole)))
  trivial
theorem reg_PLC_19 : True := by
  (k_with "call type:zip" => (k_here; (rename Fr _ _ _ _ => lF'₉₉); (rename News _ _ _ _ => lN'₉₉); (with_unfolding_all refine ktu_zip (by rfl) lF'₉₉ lN'₉₉ (.tail _ (by assumption)) (by rfl) (by rfl) (.tail _ (by assumption)) (by rfl) (by rfl) ?_); clear lF'₉₉; intro i'₉₉ l1₉₉))
  trivial
noncomputable def pLC_S (w : World) (p : Program) (loose : List Str) (mean : ExcName → Option Value) (mg : Str → Option Value) (mb : Str → Option Value) (h₀ : Heap) (L : Addr) (f : Addr) (cd : Value) (m : Str → Option Value) (s : Shared) (tail : List (Addr × Obj)) (sh : Int) (host : Str) (th : Tok) (ts : Tok) (o4 : Obj) (G : Addr) (Y : Addr) (nv : List Value) (zv : List Value) (cg : Nat) (cy : Nat) (Q : Flow → Shared → Prop) : Prop :=
  ∀ (hz : NZ w host th sh nv zv) (B : Below callerA h₀ [] h₀) (F : Fr h₀ L s.heap m) (X : (hd.heap_39 w.params).In h₀) (T : Top p loose mean mg mb h₀) (mH : m "host" = some (.str host th)) (mG : m "needs" = some (.ref G)) (mY : m "zones" = some (.ref Y)) (d4 : o4.data = .cell (some (.int sh ts))) (hG : (G, listOf nv.toArray cg) ∈ tail) (hY : (Y, listOf zv.toArray cy) ∈ tail) (N : News h₀ L s.heap ((L + 4, o4) :: tail)) (hret : ∀ h' tk' m', (∀ y : Str, y ≠ "need" → y ≠ "zone" → m' y = m y) → Fr h₀ L h' m' → News h₀ L h' ((L + 4, o4) :: tail) → Q .next { s with heap := h', toks := tk' }),
    wpAny (model PySem.Challenge.rw_zo0033_01.row.prog w) (lawTop L f cd) (execs [bd 4] (lawEnv L f cd)) Q (fun _ _ => False) s
theorem pLC {w : World} {p : Program} {loose : List Str} {mean : ExcName → Option Value} {mg : Str → Option Value} {mb : Str → Option Value} {h₀ : Heap} {L : Addr} {f : Addr} {cd : Value} {m : Str → Option Value} {s : Shared} {tail : List (Addr × Obj)} {sh : Int} {host : Str} {th : Tok} {ts : Tok} {o4 : Obj} {G : Addr} {Y : Addr} {nv : List Value} {zv : List Value} {cg : Nat} {cy : Nat} {Q : Flow → Shared → Prop} : pLC_S w p loose mean mg mb h₀ L f cd m s tail sh host th ts o4 G Y nv zv cg cy Q := by
  refine eps_all (fun x : Sv => pLC_S x.w x.p x.loose x.mean (x.mf 0) (x.mf 1) (x.hp 0) (x.ad 0) (x.ad 1) (x.val 0) (x.mf 2) (x.sh 0) (x.ol 0) (x.int 0) (x.str 0) (x.tok 0) (x.tok 1) (x.ob 0) (x.ad 2) (x.ad 3) (x.vl 0) (x.vl 1) (x.nat 0) (x.nat 1) x.qf) ?_ (Sv.mk w p loose mean (fun _ => h₀) (fun i => [cg, cy].getD i cg) (fun _ => sh) (fun i => [L, f, G, Y].getD i L) (fun i => [th, ts].getD i th) (fun _ => cd) (fun _ => o4) (fun i => [nv, zv].getD i nv) (fun _ => #[]) (fun _ => []) (fun _ => tail) (fun i => [mg, mb, m].getD i mg) (fun _ => s) (fun _ => host) (fun _ => fun _ => "") (fun _ => none) (fun _ => #[]) (fun _ => none) (fun _ => default) (fun _ => none) (fun _ => []) (fun _ => []) (fun _ => {}) (fun _ => true) Q (fun _ => fun _ _ => True))
  clear Q cy cg zv nv Y G o4 ts th host sh tail s m cd f L h₀ mb mg mean loose p w
  refine (?_ : ∀ (w : World) (p : Program) (loose : List Str) (mean : ExcName → Option Value) (mg : Str → Option Value) (mb : Str → Option Value) (h₀ : Heap) (L : Addr) (f : Addr) (cd : Value) (m : Str → Option Value) (s : Shared) (tail : List (Addr × Obj)) (sh : Int) (host : Str) (th : Tok) (ts : Tok) (o4 : Obj) (G : Addr) (Y : Addr) (nv : List Value) (zv : List Value) (cg : Nat) (cy : Nat) (Q : Flow → Shared → Prop), pLC_S w p loose mean mg mb h₀ L f cd m s tail sh host th ts o4 G Y nv zv cg cy Q) _ _ _ _ _ _ _ _ _ _ _ _ _ _ _ _ _ _ _ _ _ _ _ _ _
  intro w p loose mean mg mb h₀ L f cd m s tail sh host th ts o4 G Y nv zv cg cy Q hz B F X T mH mG mY d4 hG hY N hret
  revert X; k_fill; intro X
  obtain ⟨m, rfl⟩ : ∃ m9, m = fun z : Str => if z = "host" then some (.str host th) else if z = "needs" then some (.ref G) else if z = "zones" then some (.ref Y) else m9 z := ⟨m, by
    funext z
    by_cases hz : z = "host"
    · subst hz; rw [if_pos rfl]; exact mH
    rw [if_neg hz]; clear hz
    by_cases hz : z = "needs"
    · subst hz; rw [if_pos rfl]; exact mG
    rw [if_neg hz]; clear hz
    by_cases hz : z = "zones"
    · subst hz; rw [if_pos rfl]; exact mY
    rw [if_neg hz]⟩
  unfold lawTop lawEnv
  rw [lawCells_is]
  generalize hS : lawScope = S
  (conv at hS => lhs; whnf)
  subst hS
  generalize hS : bd 4 = S
  (conv at hS => lhs; whnf)
  subst hS
  walk_at "GO"
  (rename ∀ p ∈ _, _ < _ => lI)
  refine items_nz (fun c => fun z => if z = "host" then some (.str host th) else c z) (fun c => ∀ y : Str, y ≠ "host" → y ≠ "need" → y ≠ "zone" → c y = (fun z : Str => if z = "needs" then some (.ref G) else if z = "zones" then some (.ref Y) else m z) y) ?_ ?_ hz _ (fun y _ _ _ => rfl)
  · intro c n tn z tz T h tk hs hI hT F
    dsimp only at F ⊢
    ktu_objs
    walk_at "GO"
    · exfalso
      (rename (_ != _) = true => hb9)
      rw [bne_self_eq_false] at hb9
      exact absurd hb9 (by decide)
    · (rename Fr _ _ _ _ => f9)
      (rename News _ _ _ _ => n9)
      refine ⟨_, _, _, (L + 4, o4) :: tail, rfl, f9, n9, fun p hp q hq => ?_, ⟨(n9x hG), (n9x hY), True.intro⟩, fun y => if y = "zone" then some (.str z tz) else if y = "need" then some (.int n tn) else c y, fun y h1 h2 h3 => ?_, rfl, ?_⟩
      · have hlt := lI p hp
        simp only [List.mem_cons, List.not_mem_nil, or_false] at hq
        rcases hq with rfl | rfl | rfl | rfl | rfl <;> first | exact Nat.ne_of_lt hlt | exact Nat.ne_of_lt (Nat.lt_of_lt_of_le hlt (Nat.le_add_right _ _))
      · dsimp only
        rw [if_neg h3, if_neg h2]
        exact hI y h1 h2 h3
      · funext y
        dsimp only
        by_cases hy : y = "host"
        · subst hy; rfl
        · rw [if_neg hy, if_neg hy]
  · intro c h tk hI F N
    dsimp only at F
    refine wpAny_execs_nil (hret _ _ _ ?_ F N)
    intro y h1 h2
    dsimp only
    by_cases hy : y = "host"
    · subst hy; rfl
    · rw [if_neg hy, if_neg hy]
      exact hI y hy h1 h2
end
theorem reset_PLD : True := by
  w_top off
  k_with_none
  (k_with "OM" => with_reducible first | assumption | decide | (refine Nat.ne_of_lt ?_; k_extra "OP") | (refine o_n ?_; k_extra "OP") | k_extra "OP" | exact o_1 | exact o_2 | exact o_3 | exact o_4 | exact o_5 | exact o_6 | exact o_7 | exact o_8 | exact o_9 | exact o_10 | exact o_11 | exact o_12 | exact o_13 | exact o_14 | exact o_15 | exact o_16 | exact o_17 | exact o_18 | exact o_s1 | exact o_s2 | exact o_s3 | exact o_s4 | exact o_s5 | exact o_s6 | exact o_s7 | exact o_s8 | exact o_s9 | exact o_s10 | exact o_s11 | exact o_s12 | exact o_s13 | exact o_s14 | exact o_s15 | exact o_s16 | exact o_r 1 | exact o_r 2 | exact o_r 3 | exact o_r 4 | exact o_r 5 | exact o_r 6 | exact o_r 7 | exact o_r 8 | exact o_r 9 | exact o_r 10 | exact o_r 11 | exact o_r 12 | exact o_r 13 | exact o_r 14 | exact o_r 15 | exact o_r 16 | exact o_u1 | exact o_u2 | exact o_u3 | exact o_e1 | exact o_e2 | exact o_e3 | exact o_e4 | exact o_m1 | exact o_c1 | exact o_c2 | exact o_c3 | exact o_c4 | exact o_c5 | exact o_n1 | exact o_n2 | exact o_n3 | exact o_n4 | exact o_d1 | fail)
  (k_with "OP" => first | k_extra "OB" | exact o_p1 | exact o_p2 | exact o_p3 | exact o_p4 | (refine o_l 1 ?_; k_extra "OB") | (refine o_l 2 ?_; k_extra "OB") | (refine o_l 3 ?_; k_extra "OB") | (refine o_l 4 ?_; k_extra "OB") | fail)
  (k_with "OB" => first | assumption | (refine o_pk ?_; k_extra "OK") | fail)
  (k_with "OK" => first | exact And.left | exact And.right | (refine o_sk ?_; k_extra "OK") | fail)
  (k_with "GO" => repeat' (first | (k_unfold; (try dsimp only)) | (k_end; wrow_close) | walk1 | (dsimp only; k_unfold; (try dsimp only)) | (dsimp only; walk1) | (leave1; (try dsimp only)) | fail "no step"))
  first | walk1 | trivial
section
set_option Elab.async false
set_option maxRecDepth 100000
set_option maxHeartbeats 8000000
set_option pp.deepTerms false
set_option pp.maxSteps 4000
/-- the parts of the comprehension with a test -/
noncomputable def pcComp (x : Stmt) : Expr := match x with | .Assign _ c _ => c | _ => .Constant .none default default
noncomputable def pcElt : Expr := match pcComp (bd 5) with | .ListComp e _ _ _ => e | c => c
noncomputable def pcTest : Expr := match pcComp (bd 5) with | .ListComp _ [⟨_, _, [t], _⟩] _ _ => t | c => c
noncomputable def pcIter : Expr := match pcComp (bd 5) with | .ListComp _ [⟨_, i, _, _⟩] _ _ => i | c => c
noncomputable def pcScope : Scope := match pcComp (bd 5) with | .ListComp _ _ s _ => s | _ => default
theorem pc_test {w : World} {p : Program} {loose : List Str} {mean : ExcName → Option Value} {mg mb : Str → Option Value} {h₀ : Heap} {L f : Addr} {cd : Value} {m : Str → Option Value} {s : Shared} {C : Addr} {oC o4 : Obj} {m₂ : Str → Option Value} {news : List (Addr × Obj)} {k sh : Int} {u ts : Tok} {E : Value → Shared → Prop}  {Q : Bool → Shared → Prop} (B : Below callerA h₀ [] h₀) (F : Fr h₀ L s.heap m) (X : (hd.heap_39 w.params).In h₀) (T : Top p loose mean mg mb h₀) (N : News h₀ L s.heap news) (hm : (C, oC) ∈ news) (hC : LCg.NsObj oC m₂) (hx : m₂ "mark" = some (.int k u)) (h4 : (L + 4, o4) ∈ news) (d4 : o4.data = .cell (some (.int sh ts)))
  (hret : ∀ tk', Q (decide (k < sh)) { s with toks := tk' }) : wpAny (model PySem.Challenge.rw_zo0033_01.row.prog w) (lawTop L f cd) (isTrue pcTest (compEnvC pcScope [("shared", L + 4)] C (lawEnv L f cd)) (eval pcTest (compEnvC pcScope [("shared", L + 4)] C (lawEnv L f cd)))) Q E s := by
  revert X; k_fill; intro X
  generalize hS : pcTest = S
  (conv at hS => lhs; whnf)
  subst hS
  generalize hS : pcScope = S
  (conv at hS => lhs; whnf)
  subst hS
  unfold lawTop lawEnv
  rw [lawCells_is]
  generalize hS : lawScope = S
  (conv at hS => lhs; whnf)
  subst hS
  walk_at "GO"
  exact hret _
theorem pc_elt {w : World} {p : Program} {loose : List Str} {mean : ExcName → Option Value} {mg mb : Str → Option Value} {h₀ : Heap} {L f : Addr} {cd : Value} {m : Str → Option Value} {s : Shared} {C : Addr} {oC o4 : Obj} {m₂ : Str → Option Value} {news : List (Addr × Obj)} {k sh : Int} {u ts : Tok} {E : Value → Shared → Prop}  {Q : Value → Shared → Prop} (B : Below callerA h₀ [] h₀) (F : Fr h₀ L s.heap m) (X : (hd.heap_39 w.params).In h₀) (T : Top p loose mean mg mb h₀) (N : News h₀ L s.heap news) (hm : (C, oC) ∈ news) (hC : LCg.NsObj oC m₂) (hx : m₂ "mark" = some (.int k u)) (h4 : (L + 4, o4) ∈ news) (d4 : o4.data = .cell (some (.int sh ts)))
  (hret : ∀ tk', Q (.int k u) { s with toks := tk' }) : wpAny (model PySem.Challenge.rw_zo0033_01.row.prog w) (lawTop L f cd) (eval pcElt (compEnvC pcScope [("shared", L + 4)] C (lawEnv L f cd))) Q E s := by
  revert X; k_fill; intro X
  generalize hS : pcElt = S
  (conv at hS => lhs; whnf)
  subst hS
  generalize hS : pcScope = S
  (conv at hS => lhs; whnf)
  subst hS
  unfold lawTop lawEnv
  rw [lawCells_is]
  generalize hS : lawScope = S
  (conv at hS => lhs; whnf)
  subst hS
  walk_at "GO"
  exact hret _
theorem ints_filter {ms : List Int} {sh : Int} {i : Nat} {k : Int} (h : ms[i]? = some k) : (ms.take (i + 1)).filter (fun x => decide (x < sh)) = (ms.take i).filter (fun x => decide (x < sh)) ++ (if k < sh then [k] else []) := by
  rw [List.take_add_one, h, List.filter_append]
  by_cases hk : k < sh <;> simp [hk]
theorem ints_at {vs : List Value} {ms : List Int} (h : IntsAre vs ms) {i : Nat} {v : Value} (e : vs[i]? = some v) : ∃ k u, ms[i]? = some k ∧ v = .int k u := by
  induction h generalizing i with
  | nil => simp at e
  | cons x tx hr ih =>
    cases i with
    | zero => simp at e; exact ⟨_, _, rfl, e.symm⟩
    | succ i => simp at e; simpa using ih e
theorem ints_snoc {vs : List Value} {ms : List Int} (h : IntsAre vs ms) (k : Int) (u : Tok) : IntsAre (vs ++ [.int k u]) (ms ++ [k]) := by
  induction h with
  | nil => exact .cons _ _ .nil
  | cons x tx hr ih => exact .cons _ _ ih
theorem pc_rest {w : World} {p : Program} {loose : List Str} {mean : ExcName → Option Value} {mg mb : Str → Option Value} {h₀ : Heap} {L f M : Addr} {cd : Value} {m : Str → Option Value} {s : Shared} {vs : List Value} {ms : List Int} {c : Nat} {news : List (Addr × Obj)} {o4 : Obj} {sh : Int} {ts : Tok} {Fin : List Value → List (Addr × Obj) → Prop}
    (B : Below callerA h₀ [] h₀) (X : (hd.heap_39 w.params).In h₀) (T : Top p loose mean mg mb h₀) (hi : IntsAre vs ms) (hM : (M, listOf vs.toArray c) ∈ news) (h4 : (L + 4, o4) ∈ news) (d4 : o4.data = .cell (some (.int sh ts)))
    (hfin : ∀ out, IntsAre out (ms.filter (fun x => decide (x < sh))) → Fin out news) : ∀ (k i : Nat) (ys : List Value), i + k = vs.length → IntsAre ys ((ms.take i).filter (fun x => decide (x < sh))) →
    LCt.CompRestT PySem.Challenge.rw_zo0033_01.row.prog w (lawTop L f cd) h₀ L m (lawEnv L f cd) pcTest pcElt "mark" pcScope [("shared", L + 4)] s (LCg.SrcAt h₀ M vs.toArray) (fun i v => vs.toArray[i]? = some v) Fin k i ys news := by
  intro k
  induction k with
  | zero =>
    intro i ys hi' hy
    refine LCt.CompRestT.zero (hfin _ ?_)
    rwa [List.take_of_length_le (by rw [← hi.length]; omega)] at hy
  | succ k ih =>
    intro i ys hi' hy
    refine LCt.CompRestT.succ ?_
    rintro v I oI C oC D m₂ h tk E' hv hC hx F N off ne
    rw [List.getElem?_toArray] at hv
    obtain ⟨x, u, hk, rfl⟩ := ints_at hi hv
    have hS : LCg.SrcAt h₀ M vs.toArray news := .inr ⟨_, hM, rfl, _, rfl⟩
    have hm4 : (L + 4, o4) ∈ (I, oI) :: (C, oC) :: (D, LCg.lst ys) :: news := .tail _ (.tail _ (.tail _ h4))
    refine pc_test (s := { s with heap := h, toks := tk }) B F X T N (.tail _ (.head _)) hC hx hm4 d4 fun tk1 => ?_
    by_cases hlt : x < sh
    · rw [if_pos (by simpa using hlt)]
      refine pc_elt (s := { s with heap := h, toks := tk1 }) B F X T N (.tail _ (.head _)) hC hx hm4 d4 fun tk2 => ?_
      refine LCg.CompEnd.intro F N news (fun p hp => hp) off hS ?_
      refine ih (i + 1) _ (by omega) ?_
      rw [ints_filter hk, if_pos hlt]
      exact ints_snoc hy _ _
    · rw [if_neg (by simpa using hlt)]
      refine LCg.CompEnd.intro F N news (fun p hp => hp) off hS ?_
      refine ih (i + 1) _ (by omega) ?_
      rw [ints_filter hk, if_neg hlt, List.append_nil]
      exact hy
noncomputable def pLD1_S (w : World) (p : Program) (loose : List Str) (mean : ExcName → Option Value) (mg : Str → Option Value) (mb : Str → Option Value) (h₀ : Heap) (L : Addr) (f : Addr) (cd : Value) (m : Str → Option Value) (s : Shared) (tail : List (Addr × Obj)) (vs : List Value) (ms : List Int) (c : Nat) (M : Addr) (sh : Int) (ts : Tok) (o3 : Obj) (o4 : Obj) (Q : Flow → Shared → Prop) : Prop :=
  ∀ (hi : IntsAre vs ms) (hml : ms.length ≤ 8) (B : Below callerA h₀ [] h₀) (F : Fr h₀ L s.heap m) (X : (hd.heap_39 w.params).In h₀) (T : Top p loose mean mg mb h₀) (d3 : o3.data = .cell (some (.ref M))) (d4 : o4.data = .cell (some (.int sh ts))) (hM : (M, listOf vs.toArray c) ∈ tail) (h3 : (L + 3, o3) ∈ tail) (N : News h₀ L s.heap ((L + 4, o4) :: tail)) (hret : ∀ h' tk' D out, IntsAre out (ms.filter (fun x => decide (x < sh))) → Fr h₀ L h' (fun z => if z = "passed" then some (.ref D) else m z) → News h₀ L h' ((D, LCg.lst out) :: (L + 4, o4) :: tail) → Q .next { s with heap := h', toks := tk' }),
    wpAny (model PySem.Challenge.rw_zo0033_01.row.prog w) (lawTop L f cd) (execs [bd 5] (lawEnv L f cd)) Q (fun _ _ => False) s
theorem pLD1 {w : World} {p : Program} {loose : List Str} {mean : ExcName → Option Value} {mg : Str → Option Value} {mb : Str → Option Value} {h₀ : Heap} {L : Addr} {f : Addr} {cd : Value} {m : Str → Option Value} {s : Shared} {tail : List (Addr × Obj)} {vs : List Value} {ms : List Int} {c : Nat} {M : Addr} {sh : Int} {ts : Tok} {o3 : Obj} {o4 : Obj} {Q : Flow → Shared → Prop} : pLD1_S w p loose mean mg mb h₀ L f cd m s tail vs ms c M sh ts o3 o4 Q := by
  refine eps_all (fun x : Sv => pLD1_S x.w x.p x.loose x.mean (x.mf 0) (x.mf 1) (x.hp 0) (x.ad 0) (x.ad 1) (x.val 0) (x.mf 2) (x.sh 0) (x.ol 0) (x.vl 0) (x.il 0) (x.nat 0) (x.ad 2) (x.int 0) (x.tok 0) (x.ob 0) (x.ob 1) x.qf) ?_ (Sv.mk w p loose mean (fun _ => h₀) (fun _ => c) (fun _ => sh) (fun i => [L, f, M].getD i L) (fun _ => ts) (fun _ => cd) (fun i => [o3, o4].getD i o3) (fun _ => vs) (fun _ => #[]) (fun _ => ms) (fun _ => tail) (fun i => [mg, mb, m].getD i mg) (fun _ => s) (fun _ => "") (fun _ => fun _ => "") (fun _ => none) (fun _ => #[]) (fun _ => none) (fun _ => default) (fun _ => none) (fun _ => []) (fun _ => []) (fun _ => {}) (fun _ => true) Q (fun _ => fun _ _ => True))
  clear Q o4 o3 ts sh M c ms vs tail s m cd f L h₀ mb mg mean loose p w
  refine (?_ : ∀ (w : World) (p : Program) (loose : List Str) (mean : ExcName → Option Value) (mg : Str → Option Value) (mb : Str → Option Value) (h₀ : Heap) (L : Addr) (f : Addr) (cd : Value) (m : Str → Option Value) (s : Shared) (tail : List (Addr × Obj)) (vs : List Value) (ms : List Int) (c : Nat) (M : Addr) (sh : Int) (ts : Tok) (o3 : Obj) (o4 : Obj) (Q : Flow → Shared → Prop), pLD1_S w p loose mean mg mb h₀ L f cd m s tail vs ms c M sh ts o3 o4 Q) _ _ _ _ _ _ _ _ _ _ _ _ _ _ _ _ _ _ _ _ _ _
  intro w p loose mean mg mb h₀ L f cd m s tail vs ms c M sh ts o3 o4 Q hi hml B F X T d3 d4 hM h3 N hret
  have key : ∀ (ct elt iter : Expr) (x y : Str) (px py pos spos : Pos) (scope : Scope), ct = pcTest → elt = pcElt → iter = pcIter → x = "mark" → y = "passed" → scope = pcScope → swapsWith (.ListComp elt [⟨.Name x px, iter, [ct], 0⟩] scope pos) (some (.Name y py)) spos.line (lawEnv L f cd) = pure true →
      wpAny (model PySem.Challenge.rw_zo0033_01.row.prog w) (lawTop L f cd) (execs [.Assign [.Name y py] (.ListComp elt [⟨.Name x px, iter, [ct], 0⟩] scope pos) spos] (lawEnv L f cd)) Q (fun _ _ => False) s := by
    rintro ct elt iter x y px py pos spos scope rfl rfl rfl rfl rfl rfl hsw
    refine wpAny_execs_cons ?_
    refine LCt.Assign_ListComp_T (cl := [("shared", L + 4)]) F rfl hsw (by with_unfolding_all rfl) (by decide +kernel) rfl (by decide +kernel) rfl rfl rfl ?_ (by intro _; rfl)
    generalize hS : pcIter = S
    (conv at hS => lhs; whnf)
    subst hS
    refine nameX_C N (by rfl) (.tail _ h3) d3 ?_
    refine LCt.CompSrcT.ledger rfl F N (.tail _ hM) (by rw [List.size_toArray, hi.length, sizeLine_eq]; omega) fun g => ?_
    refine pc_rest B X T hi (.tail _ hM) (.head _) d4 ?_ _ 0 [] (by simp) .nil
    intro out ho D h tk F' N' off
    exact wpAny_execs_nil (hret h tk D out ho F' N')
  exact key _ _ _ _ _ _ _ _ _ _ rfl rfl rfl rfl rfl rfl (by with_unfolding_all rfl)
end
theorem reset_PLE : True := by
  w_top off
  k_with_none
  (k_with "OM" => with_reducible first | assumption | decide | (refine Nat.ne_of_lt ?_; k_extra "OP") | (refine o_n ?_; k_extra "OP") | k_extra "OP" | exact o_1 | exact o_2 | exact o_3 | exact o_4 | exact o_5 | exact o_6 | exact o_7 | exact o_8 | exact o_9 | exact o_10 | exact o_11 | exact o_12 | exact o_13 | exact o_14 | exact o_15 | exact o_16 | exact o_17 | exact o_18 | exact o_s1 | exact o_s2 | exact o_s3 | exact o_s4 | exact o_s5 | exact o_s6 | exact o_s7 | exact o_s8 | exact o_s9 | exact o_s10 | exact o_s11 | exact o_s12 | exact o_s13 | exact o_s14 | exact o_s15 | exact o_s16 | exact o_r 1 | exact o_r 2 | exact o_r 3 | exact o_r 4 | exact o_r 5 | exact o_r 6 | exact o_r 7 | exact o_r 8 | exact o_r 9 | exact o_r 10 | exact o_r 11 | exact o_r 12 | exact o_r 13 | exact o_r 14 | exact o_r 15 | exact o_r 16 | exact o_u1 | exact o_u2 | exact o_u3 | exact o_e1 | exact o_e2 | exact o_e3 | exact o_e4 | exact o_m1 | exact o_c1 | exact o_c2 | exact o_c3 | exact o_c4 | exact o_c5 | exact o_n1 | exact o_n2 | exact o_n3 | exact o_n4 | exact o_d1 | fail)
  (k_with "OP" => first | k_extra "OB" | exact o_p1 | exact o_p2 | exact o_p3 | exact o_p4 | (refine o_l 1 ?_; k_extra "OB") | (refine o_l 2 ?_; k_extra "OB") | (refine o_l 3 ?_; k_extra "OB") | (refine o_l 4 ?_; k_extra "OB") | fail)
  (k_with "OB" => first | assumption | (refine o_pk ?_; k_extra "OK") | fail)
  (k_with "OK" => first | exact And.left | exact And.right | (refine o_sk ?_; k_extra "OK") | fail)
  (k_with "GO" => repeat' (first | (k_unfold; (try dsimp only)) | (k_end; wrow_close) | walk1 | (dsimp only; k_unfold; (try dsimp only)) | (dsimp only; walk1) | (leave1; (try dsimp only)) | fail "no step"))
  first | walk1 | trivial
section
set_option Elab.async false
set_option maxRecDepth 100000
set_option maxHeartbeats 8000000
set_option pp.deepTerms false
set_option pp.maxSteps 4000
theorem pow_bits {a : Int} {n : Nat} (ha : -3 ≤ a ∧ a ≤ 5) (hn : n ≤ 8) : Builtin.Int.intBits (a ^ n) ≤ 64 := by
  refine intBits_le_iff.mpr ?_
  rw [Int.natAbs_pow]
  have h1 : a.natAbs ≤ 5 := by omega
  have h2 : a.natAbs ^ n ≤ 5 ^ n := Nat.pow_le_pow_left h1 n
  have h3 : (5 : Nat) ^ n ≤ 5 ^ 8 := Nat.pow_le_pow_right (by decide) hn
  have h4 : (5 : Nat) ^ 8 < 2 ^ 64 := by decide
  omega
noncomputable def pLE_S (w : World) (p : Program) (loose : List Str) (mean : ExcName → Option Value) (mg : Str → Option Value) (mb : Str → Option Value) (h₀ : Heap) (L : Addr) (f : Addr) (cd : Value) (m : Str → Option Value) (s : Shared) (tail : List (Addr × Obj)) (ps : List Value) (wv : List Value) (rv : List Value) (ns : List Int) (ws : List Int) (rs : List Int) (cw : Nat) (cr : Nat) (cp : Nat) (P : Addr) (R : Addr) (V : Addr) (a : Int) (q : Int) (r : Int) (D : Int) (sh : Nat) (ta : Tok) (ts : Tok) (tq : Tok) (tr : Tok) (td : Tok) (o1 : Obj) (o4 : Obj) (Q : Flow → Shared → Prop) : Prop :=
  ∀ (ha : -3 ≤ a ∧ a ≤ 5) (hsh : sh ≤ 8) (hp : IntsAre ps ns) (hnl : ns.length ≤ 8) (hw : IntsAre wv ws) (hwl : ws.length = 9) (hr : IntsAre rv rs) (hrl : rs.length = 9) (hrr : 0 ≤ r ∧ r < 256) (hq : -(2 ^ 20) < q ∧ q < 2 ^ 20) (hD : -(2 ^ 8) < D ∧ D < 2 ^ 8) (B : Below callerA h₀ [] h₀) (F : Fr h₀ L s.heap m) (X : (hd.heap_39 w.params).In h₀) (T : Top p loose mean mg mb h₀) (mV : m "walk" = some (.ref V)) (mR : m "ruler" = some (.ref R)) (mP : m "passed" = some (.ref P)) (mD : m "lower" = some (.int D td)) (mq : m "quotient" = some (.int q tq)) (mr : m "rest" = some (.int r tr)) (d1 : o1.data = .cell (some (.int a ta))) (d4 : o4.data = .cell (some (.int (sh : Int) ts))) (h1 : (L + 1, o1) ∈ tail) (hV : (V, listOf wv.toArray cw) ∈ tail) (hR : (R, listOf rv.toArray cr) ∈ tail) (N : News h₀ L s.heap ((P, listOf ps.toArray cp) :: (L + 4, o4) :: tail)) (heq : D * ws.getD sh 0 - rs.getD sh 0 = a ^ ns.length * (q * 2 ^ (8 - sh) + r.fdiv (2 ^ sh))) (hret : ∀ h' tk' m', (∀ y : Str, y ≠ "parted" → m' y = m y) → Fr h₀ L h' m' → News h₀ L h' ((L + 4, o4) :: tail) → Q .next { s with heap := h', toks := tk' }),
    wpAny (model PySem.Challenge.rw_zo0033_01.row.prog w) (lawTop L f cd) (execs [bd 6, bd 7] (lawEnv L f cd)) Q (fun _ _ => False) s
theorem pLE {w : World} {p : Program} {loose : List Str} {mean : ExcName → Option Value} {mg : Str → Option Value} {mb : Str → Option Value} {h₀ : Heap} {L : Addr} {f : Addr} {cd : Value} {m : Str → Option Value} {s : Shared} {tail : List (Addr × Obj)} {ps : List Value} {wv : List Value} {rv : List Value} {ns : List Int} {ws : List Int} {rs : List Int} {cw : Nat} {cr : Nat} {cp : Nat} {P : Addr} {R : Addr} {V : Addr} {a : Int} {q : Int} {r : Int} {D : Int} {sh : Nat} {ta : Tok} {ts : Tok} {tq : Tok} {tr : Tok} {td : Tok} {o1 : Obj} {o4 : Obj} {Q : Flow → Shared → Prop} : pLE_S w p loose mean mg mb h₀ L f cd m s tail ps wv rv ns ws rs cw cr cp P R V a q r D sh ta ts tq tr td o1 o4 Q := by
  refine eps_all (fun x : Sv => pLE_S x.w x.p x.loose x.mean (x.mf 0) (x.mf 1) (x.hp 0) (x.ad 0) (x.ad 1) (x.val 0) (x.mf 2) (x.sh 0) (x.ol 0) (x.vl 0) (x.vl 1) (x.vl 2) (x.il 0) (x.il 1) (x.il 2) (x.nat 0) (x.nat 1) (x.nat 2) (x.ad 2) (x.ad 3) (x.ad 4) (x.int 0) (x.int 1) (x.int 2) (x.int 3) (x.nat 3) (x.tok 0) (x.tok 1) (x.tok 2) (x.tok 3) (x.tok 4) (x.ob 0) (x.ob 1) x.qf) ?_ (Sv.mk w p loose mean (fun _ => h₀) (fun i => [cw, cr, cp, sh].getD i cw) (fun i => [a, q, r, D].getD i a) (fun i => [L, f, P, R, V].getD i L) (fun i => [ta, ts, tq, tr, td].getD i ta) (fun _ => cd) (fun i => [o1, o4].getD i o1) (fun i => [ps, wv, rv].getD i ps) (fun _ => #[]) (fun i => [ns, ws, rs].getD i ns) (fun _ => tail) (fun i => [mg, mb, m].getD i mg) (fun _ => s) (fun _ => "") (fun _ => fun _ => "") (fun _ => none) (fun _ => #[]) (fun _ => none) (fun _ => default) (fun _ => none) (fun _ => []) (fun _ => []) (fun _ => {}) (fun _ => true) Q (fun _ => fun _ _ => True))
  clear Q o4 o1 td tr tq ts ta sh D r q a V R P cp cr cw rs ws ns rv wv ps tail s m cd f L h₀ mb mg mean loose p w
  refine (?_ : ∀ (w : World) (p : Program) (loose : List Str) (mean : ExcName → Option Value) (mg : Str → Option Value) (mb : Str → Option Value) (h₀ : Heap) (L : Addr) (f : Addr) (cd : Value) (m : Str → Option Value) (s : Shared) (tail : List (Addr × Obj)) (ps : List Value) (wv : List Value) (rv : List Value) (ns : List Int) (ws : List Int) (rs : List Int) (cw : Nat) (cr : Nat) (cp : Nat) (P : Addr) (R : Addr) (V : Addr) (a : Int) (q : Int) (r : Int) (D : Int) (sh : Nat) (ta : Tok) (ts : Tok) (tq : Tok) (tr : Tok) (td : Tok) (o1 : Obj) (o4 : Obj) (Q : Flow → Shared → Prop), pLE_S w p loose mean mg mb h₀ L f cd m s tail ps wv rv ns ws rs cw cr cp P R V a q r D sh ta ts tq tr td o1 o4 Q) _ _ _ _ _ _ _ _ _ _ _ _ _ _ _ _ _ _ _ _ _ _ _ _ _ _ _ _ _ _ _ _ _ _ _ _ _ _
  intro w p loose mean mg mb h₀ L f cd m s tail ps wv rv ns ws rs cw cr cp P R V a q r D sh ta ts tq tr td o1 o4 Q ha hsh hp hnl hw hwl hr hrl hrr hq hD B F X T mV mR mP mD mq mr d1 d4 h1 hV hR N heq hret
  revert X; k_fill; intro X
  obtain ⟨m, rfl⟩ : ∃ m9, m = fun z : Str => if z = "walk" then some (.ref V) else if z = "ruler" then some (.ref R) else if z = "passed" then some (.ref P) else if z = "lower" then some (.int D td) else if z = "quotient" then some (.int q tq) else if z = "rest" then some (.int r tr) else m9 z := ⟨m, by
    funext z
    by_cases hz : z = "walk"
    · subst hz; rw [if_pos rfl]; exact mV
    rw [if_neg hz]; clear hz
    by_cases hz : z = "ruler"
    · subst hz; rw [if_pos rfl]; exact mR
    rw [if_neg hz]; clear hz
    by_cases hz : z = "passed"
    · subst hz; rw [if_pos rfl]; exact mP
    rw [if_neg hz]; clear hz
    by_cases hz : z = "lower"
    · subst hz; rw [if_pos rfl]; exact mD
    rw [if_neg hz]; clear hz
    by_cases hz : z = "quotient"
    · subst hz; rw [if_pos rfl]; exact mq
    rw [if_neg hz]; clear hz
    by_cases hz : z = "rest"
    · subst hz; rw [if_pos rfl]; exact mr
    rw [if_neg hz]⟩
  unfold lawTop lawEnv
  rw [lawCells_is]
  generalize hS : lawScope = S
  (conv at hS => lhs; whnf)
  subst hS
  generalize hS : bd 6 = S
  (conv at hS => lhs; whnf)
  subst hS
  generalize hS : bd 7 = S
  (conv at hS => lhs; whnf)
  subst hS
  have hM1 : (R, listOf rv.toArray cr) ∈ (P, listOf ps.toArray cp) :: (L + 4, o4) :: tail := .tail _ (.tail _ hR)
  have hM2 : (V, listOf wv.toArray cw) ∈ (P, listOf ps.toArray cp) :: (L + 4, o4) :: tail := .tail _ (.tail _ hV)
  have hM3 : (L + 1, o1) ∈ (P, listOf ps.toArray cp) :: (L + 4, o4) :: tail := .tail _ (.tail _ h1)
  have hpw : Builtin.Int.intBits (a ^ ((ns.length : Int)).toNat) ≤ 64 := pow_bits ha (by rw [Int.toNat_natCast]; exact hnl)
  walk_at "GO"
  · exfalso
    (rename _ ≠ _ * _ => hne)
    refine hne ?_
    rw [show (8 - (sh : Int)).toNat = 8 - sh by omega, Int.toNat_natCast, Int.toNat_natCast]
    exact heq
  · (rename Fr _ _ _ _ => f9)
    (rename News _ _ _ _ => n9)
    refine hret _ _ _ ?_ f9 (fun p hp => n9 p (.tail _ hp))
    intro y h1
    exact if_neg h1
end
theorem reset_PLF : True := by
  w_top off
  k_with_none
  (k_with "OM" => with_reducible first | assumption | decide | (refine Nat.ne_of_lt ?_; k_extra "OP") | (refine o_n ?_; k_extra "OP") | k_extra "OP" | exact o_1 | exact o_2 | exact o_3 | exact o_4 | exact o_5 | exact o_6 | exact o_7 | exact o_8 | exact o_9 | exact o_10 | exact o_11 | exact o_12 | exact o_13 | exact o_14 | exact o_15 | exact o_16 | exact o_17 | exact o_18 | exact o_s1 | exact o_s2 | exact o_s3 | exact o_s4 | exact o_s5 | exact o_s6 | exact o_s7 | exact o_s8 | exact o_s9 | exact o_s10 | exact o_s11 | exact o_s12 | exact o_s13 | exact o_s14 | exact o_s15 | exact o_s16 | exact o_r 1 | exact o_r 2 | exact o_r 3 | exact o_r 4 | exact o_r 5 | exact o_r 6 | exact o_r 7 | exact o_r 8 | exact o_r 9 | exact o_r 10 | exact o_r 11 | exact o_r 12 | exact o_r 13 | exact o_r 14 | exact o_r 15 | exact o_r 16 | exact o_u1 | exact o_u2 | exact o_u3 | exact o_e1 | exact o_e2 | exact o_e3 | exact o_e4 | exact o_m1 | exact o_c1 | exact o_c2 | exact o_c3 | exact o_c4 | exact o_c5 | exact o_n1 | exact o_n2 | exact o_n3 | exact o_n4 | exact o_d1 | fail)
  (k_with "OP" => first | k_extra "OB" | exact o_p1 | exact o_p2 | exact o_p3 | exact o_p4 | (refine o_l 1 ?_; k_extra "OB") | (refine o_l 2 ?_; k_extra "OB") | (refine o_l 3 ?_; k_extra "OB") | (refine o_l 4 ?_; k_extra "OB") | fail)
  (k_with "OB" => first | assumption | (refine o_pk ?_; k_extra "OK") | fail)
  (k_with "OK" => first | exact And.left | exact And.right | (refine o_sk ?_; k_extra "OK") | fail)
  first | walk1 | trivial
section
set_option Elab.async false
set_option maxRecDepth 100000
set_option maxHeartbeats 4000000
set_option linter.unusedVariables false
/-- an entry that lies apart from the tables, the code objects and the cell of «shared» -/
noncomputable def RestOk (L : Addr) (p : Addr × Obj) : Prop := Z3.Plain p.2 ∧ (p.2.cls ≠ .none ∨ @LT.lt Nat _ 80 p.1) ∧ ((∀ v, p.2.data ≠ .cell v) ∨ @Ne Nat p.1 (L + 4))
theorem news_eq {h₀ h : Heap} {L a : Addr} {o o' : Obj} {l : List (Addr × Obj)} (N : News h₀ L h l) (h1 : (a, o) ∈ l) (h2 : (a, o') ∈ l) : o = o' := by
  have e1 := (N _ h1).1
  have e2 := (N _ h2).1
  dsimp only at e1 e2
  rw [e1] at e2
  exact Option.some.inj e2
theorem tabs_in {us : List (Addr × Obj)} (hu : TabSt us) : (∃ p, (73, tabObj p) ∈ us) ∧ (∃ p, (80, tabObj p) ∈ us) ∧ ∀ q ∈ us, @Eq Nat q.1 73 ∨ @Eq Nat q.1 80 ∨ ∃ qn, CodeAt q.2 qn := by
  rcases hu with rfl | ⟨c1, oc1, c2, oc2, rfl, hc1, hc2⟩
  · refine ⟨⟨_, .head _⟩, ⟨_, .tail _ (.head _)⟩, fun q hq => ?_⟩
    simp only [List.mem_cons, List.not_mem_nil, or_false] at hq
    rcases hq with rfl | rfl
    · exact .inl rfl
    · exact .inr (.inl rfl)
  · refine ⟨⟨_, .head _⟩, ⟨_, .tail _ (.tail _ (.head _))⟩, fun q hq => ?_⟩
    simp only [List.mem_cons, List.not_mem_nil, or_false] at hq
    rcases hq with rfl | rfl | rfl | rfl
    · exact .inl rfl
    · exact .inr (.inr ⟨_, hc1⟩)
    · exact .inr (.inl rfl)
    · exact .inr (.inr ⟨_, hc2⟩)
theorem rest_off {h₀ h : Heap} {L : Addr} {us rest l : List (Addr × Obj)} (N : News h₀ L h l) (hu : TabSt us) (hus : ∀ p ∈ us, p ∈ l) (hrs : ∀ p ∈ rest, p ∈ l) (hr : ∀ p ∈ rest, RestOk L p) : ∀ p ∈ rest, Z3.Plain p.2 ∧ @Ne Nat p.1 73 ∧ @Ne Nat p.1 80 := by
  rintro ⟨a, o⟩ hp
  obtain ⟨⟨t1, h1⟩, ⟨t2, h2⟩, _⟩ := tabs_in hu
  obtain ⟨r1, r2, _⟩ := hr _ hp
  refine ⟨r1, ?_, ?_⟩
  · rintro rfl
    rcases r2 with r2 | r2
    · exact r2 (by rw [news_eq N (hrs _ hp) (hus _ h1)])
    · exact Nat.lt_irrefl _ (Nat.lt_of_lt_of_le r2 (by dsimp only; decide))
  · rintro rfl
    rcases r2 with r2 | r2
    · exact r2 (by rw [news_eq N (hrs _ hp) (hus _ h2)])
    · exact Nat.lt_irrefl _ (Nat.lt_of_lt_of_le r2 (by dsimp only; decide))
theorem rest_cell {h₀ h : Heap} {L : Addr} {us rest l : List (Addr × Obj)} {o4 : Obj} {ov : Option Value} (N : News h₀ L h l) (h80 : @LT.lt Nat _ 80 L) (d4 : o4.data = .cell ov) (h4 : (L + 4, o4) ∈ l) (hu : TabSt us) (hus : ∀ p ∈ us, p ∈ l) (hrs : ∀ p ∈ rest, p ∈ l) (hr : ∀ p ∈ rest, RestOk L p) : ∀ p ∈ us ++ rest, @Ne Nat p.1 (L + 4) := by
  rintro ⟨a, o⟩ hp
  rcases List.mem_append.mp hp with hp | hp
  · rcases (tabs_in hu).2.2 _ hp with e | e | ⟨qn, e⟩
    · exact fun e' => absurd (e.symm.trans e') (by omega)
    · exact fun e' => absurd (e.symm.trans e') (by omega)
    · rintro rfl
      obtain rfl := news_eq N (hus _ hp) h4
      exact Z3.Plain.cell d4 qn e
  · rcases (hr _ hp).2.2 with r | r
    · rintro rfl
      obtain rfl := news_eq N (hrs _ hp) h4
      exact r _ d4
    · exact r
/-- what a turn of the last loop asks of the figures -/
noncomputable def TurnOk (w : World) (U D a : Int) (ms rs : List Int) (y : Int) (ws : List Int) (host : Str) (th : Tok) (nv zv : List Value) : Prop :=
  ∀ k : Nat, k ≤ 8 → ((D * y - U).fmod 256).fmod (2 ^ k) = 0 → (∀ j, k < j → j ≤ 8 → ((D * y - U).fmod 256).fmod (2 ^ j) ≠ 0) →
    NZ w host th (k : Int) nv zv ∧ D * ws.getD k 0 - rs.getD k 0 = a ^ (ms.filter (fun x => decide (x < (k : Int)))).length * ((D * y - U).fdiv 256 * 2 ^ (8 - k) + ((D * y - U).fmod 256).fdiv (2 ^ k))
/-- the names that a turn sets -/
noncomputable def turnNames : List Str := ["number", "walk", "host", "quotient", "rest", "need", "zone", "passed", "parted"]
noncomputable def pLF_S (w : World) (p : Program) (loose : List Str) (mean : ExcName → Option Value) (mg : Str → Option Value) (mb : Str → Option Value) (h₀ : Heap) (L : Addr) (f : Addr) (cd : Value) (m : Str → Option Value) (s : Shared) (us : List (Addr × Obj)) (rest : List (Addr × Obj)) (vs : List Value) (wv : List Value) (rv : List Value) (nv : List Value) (zv : List Value) (ms : List Int) (ws : List Int) (rs : List Int) (cw : Nat) (cr : Nat) (c : Nat) (cg : Nat) (cy : Nat) (M : Addr) (R : Addr) (V : Addr) (G : Addr) (Y : Addr) (a : Int) (U : Int) (D : Int) (y : Int) (host : Str) (ta : Tok) (ty : Tok) (tu : Tok) (td : Tok) (th : Tok) (o1 : Obj) (o3 : Obj) (o4 : Obj) (ov : Option Value) (Q : Flow → Shared → Prop) : Prop :=
  ∀ (ha : -3 ≤ a ∧ a ≤ 5) (hz : -(2 ^ 26) < D * y - U ∧ D * y - U < 2 ^ 26) (hD : -(2 ^ 8) < D ∧ D < 2 ^ 8) (hY : -6000 < y ∧ y < 6000) (hU : -(2 ^ 16) < U ∧ U < 2 ^ 16) (hu : TabSt us) (hrk : ∀ p ∈ rest, RestOk L p) (h80 : @LT.lt Nat _ 80 L) (hi : IntsAre vs ms) (hml : ms.length ≤ 8) (hw : IntsAre wv ws) (hwl : ws.length = 9) (hr : IntsAre rv rs) (hrl : rs.length = 9) (hok : TurnOk w U D a ms rs y ws host th nv zv) (B : Below callerA h₀ [] h₀) (F : Fr h₀ L s.heap m) (X : (hd.heap_39 w.params).In h₀) (T : Top p loose mean mg mb h₀) (hC1 : CodeHd h₀ 77 73) (hC2 : CodeHd h₀ 84 80) (mY : m "number" = some (.int y ty)) (mV : m "walk" = some (.ref V)) (mH : m "host" = some (.str host th)) (mU : m "upper" = some (.int U tu)) (mD : m "lower" = some (.int D td)) (mR : m "ruler" = some (.ref R)) (mG : m "needs" = some (.ref G)) (mZ : m "zones" = some (.ref Y)) (d1 : o1.data = .cell (some (.int a ta))) (d3 : o3.data = .cell (some (.ref M))) (d4 : o4.data = .cell ov) (h1 : (L + 1, o1) ∈ rest) (h3 : (L + 3, o3) ∈ rest) (hM : (M, listOf vs.toArray c) ∈ rest) (hV : (V, listOf wv.toArray cw) ∈ rest) (hR : (R, listOf rv.toArray cr) ∈ rest) (hG : (G, listOf nv.toArray cg) ∈ rest) (hZ : (Y, listOf zv.toArray cy) ∈ rest) (N : News h₀ L s.heap ((L + 4, o4) :: (us ++ rest))) (hret : ∀ h' tk' m' us' o4' ov', TabSt us' → o4'.data = .cell ov' → (∀ y : Str, y ∉ turnNames → m' y = m y) → Fr h₀ L h' m' → News h₀ L h' ((L + 4, o4') :: (us' ++ rest)) → Q .next { s with heap := h', toks := tk' }),
    wpAny (model PySem.Challenge.rw_zo0033_01.row.prog w) (lawTop L f cd) (execs [bd 0, bd 1, bd 2, bd 3, bd 4, bd 5, bd 6, bd 7] (lawEnv L f cd)) Q (fun _ _ => False) s
theorem pLF {w : World} {p : Program} {loose : List Str} {mean : ExcName → Option Value} {mg : Str → Option Value} {mb : Str → Option Value} {h₀ : Heap} {L : Addr} {f : Addr} {cd : Value} {m : Str → Option Value} {s : Shared} {us : List (Addr × Obj)} {rest : List (Addr × Obj)} {vs : List Value} {wv : List Value} {rv : List Value} {nv : List Value} {zv : List Value} {ms : List Int} {ws : List Int} {rs : List Int} {cw : Nat} {cr : Nat} {c : Nat} {cg : Nat} {cy : Nat} {M : Addr} {R : Addr} {V : Addr} {G : Addr} {Y : Addr} {a : Int} {U : Int} {D : Int} {y : Int} {host : Str} {ta : Tok} {ty : Tok} {tu : Tok} {td : Tok} {th : Tok} {o1 : Obj} {o3 : Obj} {o4 : Obj} {ov : Option Value} {Q : Flow → Shared → Prop} : pLF_S w p loose mean mg mb h₀ L f cd m s us rest vs wv rv nv zv ms ws rs cw cr c cg cy M R V G Y a U D y host ta ty tu td th o1 o3 o4 ov Q := by
  refine eps_all (fun x : Sv => pLF_S x.w x.p x.loose x.mean (x.mf 0) (x.mf 1) (x.hp 0) (x.ad 0) (x.ad 1) (x.val 0) (x.mf 2) (x.sh 0) (x.ol 0) (x.ol 1) (x.vl 0) (x.vl 1) (x.vl 2) (x.vl 3) (x.vl 4) (x.il 0) (x.il 1) (x.il 2) (x.nat 0) (x.nat 1) (x.nat 2) (x.nat 3) (x.nat 4) (x.ad 2) (x.ad 3) (x.ad 4) (x.ad 5) (x.ad 6) (x.int 0) (x.int 1) (x.int 2) (x.int 3) (x.str 0) (x.tok 0) (x.tok 1) (x.tok 2) (x.tok 3) (x.tok 4) (x.ob 0) (x.ob 1) (x.ob 2) (x.ov 0) x.qf) ?_ (Sv.mk w p loose mean (fun _ => h₀) (fun i => [cw, cr, c, cg, cy].getD i cw) (fun i => [a, U, D, y].getD i a) (fun i => [L, f, M, R, V, G, Y].getD i L) (fun i => [ta, ty, tu, td, th].getD i ta) (fun _ => cd) (fun i => [o1, o3, o4].getD i o1) (fun i => [vs, wv, rv, nv, zv].getD i vs) (fun _ => #[]) (fun i => [ms, ws, rs].getD i ms) (fun i => [us, rest].getD i us) (fun i => [mg, mb, m].getD i mg) (fun _ => s) (fun _ => host) (fun _ => fun _ => "") (fun _ => none) (fun _ => #[]) (fun _ => ov) (fun _ => default) (fun _ => none) (fun _ => []) (fun _ => []) (fun _ => {}) (fun _ => true) Q (fun _ => fun _ _ => True))
  clear Q ov o4 o3 o1 th td tu ty ta host y D U a Y G V R M cy cg c cr cw rs ws ms zv nv rv wv vs rest us s m cd f L h₀ mb mg mean loose p w
  refine (?_ : ∀ (w : World) (p : Program) (loose : List Str) (mean : ExcName → Option Value) (mg : Str → Option Value) (mb : Str → Option Value) (h₀ : Heap) (L : Addr) (f : Addr) (cd : Value) (m : Str → Option Value) (s : Shared) (us : List (Addr × Obj)) (rest : List (Addr × Obj)) (vs : List Value) (wv : List Value) (rv : List Value) (nv : List Value) (zv : List Value) (ms : List Int) (ws : List Int) (rs : List Int) (cw : Nat) (cr : Nat) (c : Nat) (cg : Nat) (cy : Nat) (M : Addr) (R : Addr) (V : Addr) (G : Addr) (Y : Addr) (a : Int) (U : Int) (D : Int) (y : Int) (host : Str) (ta : Tok) (ty : Tok) (tu : Tok) (td : Tok) (th : Tok) (o1 : Obj) (o3 : Obj) (o4 : Obj) (ov : Option Value) (Q : Flow → Shared → Prop), pLF_S w p loose mean mg mb h₀ L f cd m s us rest vs wv rv nv zv ms ws rs cw cr c cg cy M R V G Y a U D y host ta ty tu td th o1 o3 o4 ov Q) _ _ _ _ _ _ _ _ _ _ _ _ _ _ _ _ _ _ _ _ _ _ _ _ _ _ _ _ _ _ _ _ _ _ _ _ _ _ _ _ _ _ _ _ _ _ _
  intro w p loose mean mg mb h₀ L f cd m s us rest vs wv rv nv zv ms ws rs cw cr c cg cy M R V G Y a U D y host ta ty tu td th o1 o3 o4 ov Q ha hz hD hY hU hu hrk h80 hi hml hw hwl hr hrl hok B F X T hC1 hC2 mY mV mH mU mD mR mG mZ d1 d3 d4 h1 h3 hM hV hR hG hZ N hret
  have ne : ∀ x y : Str, x ∈ turnNames → y ∉ turnNames → y ≠ x := fun x y h1 h2 e => h2 (e ▸ h1)
  refine wpAny_append (a := [bd 0, bd 1]) (b := [bd 2, bd 3, bd 4, bd 5, bd 6, bd 7]) ?_
  have off : ∀ {h : Heap} {o : Obj} {us' : List (Addr × Obj)} {ov' : Option Value}, o.data = .cell ov' → TabSt us' → News h₀ L h ((L + 4, o) :: (us' ++ rest)) → ∀ p ∈ (L + 4, o) :: rest, Z3.Plain p.2 ∧ @Ne Nat p.1 73 ∧ @Ne Nat p.1 80 := fun hd hu N p hp => by
    rcases List.mem_cons.mp hp with rfl | hp
    · exact ⟨Z3.Plain.cell hd, by dsimp only; omega, by dsimp only; omega⟩
    · exact rest_off N hu (fun p hp => .tail _ (List.mem_append_left _ hp)) (fun p hp => .tail _ (List.mem_append_right _ hp)) hrk p hp
  refine pLA hz hD hY hU hu (off d4 hu N) B F X T hC1 hC2 mY mU mD (fun p hp => N p ?_) fun h1' tk1 m1 us1 tq tr hu1 mq mr hm1 F1 N1 => ?_
  · rcases List.mem_append.mp hp with hp | hp
    · exact .tail _ (List.mem_append_left _ hp)
    · rcases List.mem_cons.mp hp with rfl | hp
      · exact .head _
      · exact .tail _ (List.mem_append_right _ hp)
  have N1' : News h₀ L h1' ((L + 4, o4) :: (us1 ++ rest)) := fun p hp => N1 p (by
    rcases List.mem_cons.mp hp with rfl | hp
    · exact List.mem_append_right _ (.head _)
    · rcases List.mem_append.mp hp with hp | hp
      · exact List.mem_append_left _ hp
      · exact List.mem_append_right _ (.tail _ hp))
  have hr0 := Int.fmod_nonneg_of_pos (D * y - U) (show (0 : Int) < 256 by decide)
  have hr1 := Int.fmod_lt_of_pos (D * y - U) (show (0 : Int) < 256 by decide)
  have c1 := rest_cell N1' h80 d4 (.head _) hu1 (fun p hp => .tail _ (List.mem_append_left _ hp)) (fun p hp => .tail _ (List.mem_append_right _ hp)) hrk
  dsimp only
  refine wpAny_append (a := [bd 2, bd 3]) (b := [bd 4, bd 5, bd 6, bd 7]) ?_
  refine pLB ⟨hr0, hr1⟩ c1 B F1 X T mr d4 N1' fun h2 tk2 o4' k ts hk hk0 hkj d4' F2 N2 => ?_
  obtain ⟨hnz, heq⟩ := hok k hk hk0 hkj
  have mem : ∀ {p : Addr × Obj} {us' : List (Addr × Obj)}, p ∈ rest → p ∈ us' ++ rest := fun h => List.mem_append_right _ h
  dsimp only
  refine wpAny_append (a := [bd 4]) (b := [bd 5, bd 6, bd 7]) ?_
  have e1 : ∀ y : Str, y ∉ turnNames → m1 y = m y := fun y h => hm1 y (ne "quotient" y (by decide) h) (ne "rest" y (by decide) h)
  have e2 : ∀ y : Str, y ≠ "quotient" → y ≠ "rest" → m1 y = m y := hm1
  refine pLC hnz B F2 X T ((e2 "host" (by decide) (by decide)).trans mH) ((e2 "needs" (by decide) (by decide)).trans mG) ((e2 "zones" (by decide) (by decide)).trans mZ) d4' (mem hG) (mem hZ) N2 fun h3' tk3 m3 hm3 F3 N3 => ?_
  dsimp only
  refine wpAny_append (a := [bd 5]) (b := [bd 6, bd 7]) ?_
  refine pLD1 hi hml B F3 X T d3 d4' (mem hM) (mem h3) N3 fun h4 tk4 P out ho F4 N4 => ?_
  dsimp only
  have g : ∀ {x : Str} {v : Option Value}, x ≠ "passed" → x ≠ "need" → x ≠ "zone" → m1 x = v → (fun z : Str => if z = "passed" then some (.ref P) else m3 z) x = v := fun a b c e => (if_neg a).trans ((hm3 _ b c).trans e)
  refine pLE ha hk ho (Nat.le_trans (List.length_filter_le _ _) hml) hw hwl hr hrl ⟨hr0, hr1⟩ ?_ hD B F4 X T (g (by decide) (by decide) (by decide) ((e2 "walk" (by decide) (by decide)).trans mV)) (g (by decide) (by decide) (by decide) ((e2 "ruler" (by decide) (by decide)).trans mR)) (if_pos rfl)
    (g (by decide) (by decide) (by decide) ((e2 "lower" (by decide) (by decide)).trans mD)) (g (by decide) (by decide) (by decide) mq) (g (by decide) (by decide) (by decide) mr) d1 d4' (mem h1) (mem hV) (mem hR) N4 heq fun h5 tk5 m5 hm5 F5 N5 => ?_
  · have q1 := Int.mul_fdiv_add_fmod (D * y - U) 256
    omega
  · refine hret h5 tk5 m5 us1 o4' _ hu1 d4' (fun y h => ?_) F5 N5
    refine (hm5 y (ne "parted" y (by decide) h)).trans ?_
    exact g (ne "passed" y (by decide) h) (ne "need" y (by decide) h) (ne "zone" y (by decide) h) (e1 y h)
end
theorem reset_PM : True := by
  w_top off
  k_with_none
  (k_with "OM" => with_reducible first | assumption | decide | (refine Nat.ne_of_lt ?_; k_extra "OP") | (refine o_n ?_; k_extra "OP") | k_extra "OP" | exact o_1 | exact o_2 | exact o_3 | exact o_4 | exact o_5 | exact o_6 | exact o_7 | exact o_8 | exact o_9 | exact o_10 | exact o_11 | exact o_12 | exact o_13 | exact o_14 | exact o_15 | exact o_16 | exact o_17 | exact o_18 | exact o_s1 | exact o_s2 | exact o_s3 | exact o_s4 | exact o_s5 | exact o_s6 | exact o_s7 | exact o_s8 | exact o_s9 | exact o_s10 | exact o_s11 | exact o_s12 | exact o_s13 | exact o_s14 | exact o_s15 | exact o_s16 | exact o_r 1 | exact o_r 2 | exact o_r 3 | exact o_r 4 | exact o_r 5 | exact o_r 6 | exact o_r 7 | exact o_r 8 | exact o_r 9 | exact o_r 10 | exact o_r 11 | exact o_r 12 | exact o_r 13 | exact o_r 14 | exact o_r 15 | exact o_r 16 | exact o_u1 | exact o_u2 | exact o_u3 | exact o_e1 | exact o_e2 | exact o_e3 | exact o_e4 | exact o_m1 | exact o_c1 | exact o_c2 | exact o_c3 | exact o_c4 | exact o_c5 | exact o_n1 | exact o_n2 | exact o_n3 | exact o_n4 | exact o_d1 | fail)
  (k_with "OP" => first | k_extra "OB" | exact o_p1 | exact o_p2 | exact o_p3 | exact o_p4 | (refine o_l 1 ?_; k_extra "OB") | (refine o_l 2 ?_; k_extra "OB") | (refine o_l 3 ?_; k_extra "OB") | (refine o_l 4 ?_; k_extra "OB") | fail)
  (k_with "OB" => first | assumption | (refine o_pk ?_; k_extra "OK") | fail)
  (k_with "OK" => first | exact And.left | exact And.right | (refine o_sk ?_; k_extra "OK") | fail)
  (k_with "GO" => repeat' (first | (k_unfold; (try dsimp only)) | (k_end; wrow_close) | walk1 | (dsimp only; k_unfold; (try dsimp only)) | (dsimp only; walk1) | (leave1; (try dsimp only)) | fail "no step"))
  first | walk1 | trivial
section
set_option Elab.async false
set_option maxRecDepth 100000
set_option maxHeartbeats 8000000
set_option pp.deepTerms false
set_option pp.maxSteps 4000
/-- a loop's target and iterable -/
noncomputable def forTarget (x : Stmt) : Expr := match x with | .For t _ _ _ _ => t | _ => .Constant .none default default
noncomputable def forIter (x : Stmt) : Expr := match x with | .For _ i _ _ _ => i | _ => .Constant .none default default
theorem pM_asg {w : World} {p : Program} {loose : List Str} {mean : ExcName → Option Value} {mg mb : Str → Option Value} {h₀ : Heap} {L f : Addr} {cd : Value} {m : Str → Option Value} {s : Shared} {T9 V : Addr} {y : Int} {ty th : Tok} {host : Str} {tail : List (Addr × Obj)} {E : Value → Shared → Prop} {Q : Unit → Shared → Prop} (B : Below callerA h₀ [] h₀) (F : Fr h₀ L s.heap m) (X : (hd.heap_39 w.params).In h₀) (T : Top p loose mean mg mb h₀) (N : News h₀ L s.heap ((T9, { cls := .type "tuple", data := .seq #[.int y ty, .ref V, .str host th] }) :: tail))
  (hret : ∀ h' tk' m', m' "number" = some (.int y ty) → m' "walk" = some (.ref V) → m' "host" = some (.str host th) → (∀ y : Str, y ≠ "number" → y ≠ "walk" → y ≠ "host" → m' y = m y) → Fr h₀ L h' m' → News h₀ L h' ((T9, { cls := .type "tuple", data := .seq #[.int y ty, .ref V, .str host th] }) :: tail) → Q () { s with heap := h', toks := tk' }) :
  wpAny (model PySem.Challenge.rw_zo0033_01.row.prog w) (lawTop L f cd) (assign (forTarget (st 26)) (lawEnv L f cd) (.ref T9)) Q E s := by
  revert X; k_fill; intro X
  unfold lawTop lawEnv
  rw [lawCells_is]
  generalize hS : lawScope = S
  (conv at hS => lhs; whnf)
  subst hS
  generalize hS : forTarget (st 26) = S
  (conv at hS => lhs; whnf)
  subst hS
  walk_at "GO"
  (rename Fr _ _ _ _ => f9)
  (rename News _ _ _ _ => n9)
  refine hret _ _ _ (by rfl) (by rfl) (by rfl) ?_ f9 n9
  intro y h1 h2 h3
  exact (if_neg h3).trans ((if_neg h2).trans (if_neg h1))
noncomputable def pM_iter_S (w : World) (p : Program) (loose : List Str) (mean : ExcName → Option Value) (mg : Str → Option Value) (mb : Str → Option Value) (h₀ : Heap) (L : Addr) (f : Addr) (cd : Value) (m : Str → Option Value) (s : Shared) (H : Addr) (W : Addr) (V : Addr) (q0 : Str) (q1 : Str) (q2 : Str) (q3 : Str) (b0 : Tok) (b1 : Tok) (b2 : Tok) (b3 : Tok) (ch : Nat) (cw : Nat) (cv : Nat) (xs : List Value) (ys : List Value) (tail : List (Addr × Obj)) (E : Value → Shared → Prop) (Q : Value → Shared → Prop) : Prop :=
  ∀ (B : Below callerA h₀ [] h₀) (F : Fr h₀ L s.heap m) (X : (hd.heap_39 w.params).In h₀) (T : Top p loose mean mg mb h₀) (mW : m "numbers" = some (.ref W)) (mV : m "walks" = some (.ref V)) (mH : m "hosts" = some (.ref H)) (hW : (W, listOf xs.toArray cw) ∈ tail) (hV : (V, listOf ys.toArray cv) ∈ tail) (N : News h₀ L s.heap ((H, listOf #[.str q0 b0, .str q1 b1, .str q2 b2, .str q3 b3] ch) :: tail)) (hret : ∀ h' tk' (HS : Addr) cs (I : Nat), Fr h₀ L h' m → News h₀ L h' ((HS, listOf #[.str q1 b1, .str q2 b2, .str q3 b3] cs) :: (H, listOf #[.str q0 b0, .str q1 b1, .str q2 b2, .str q3 b3] ch) :: tail) → Z3.ZS I W V HS 0 h' → (∀ p ∈ (HS, listOf #[.str q1 b1, .str q2 b2, .str q3 b3] cs) :: (H, listOf #[.str q0 b0, .str q1 b1, .str q2 b2, .str q3 b3] ch) :: tail, @LT.lt Nat _ p.1 I) → @LT.lt Nat _ L I → (∀ j, h₀.get? (I + j) = none) → Q (.ref (I + 5)) { s with heap := h', toks := tk' }),
    wpAny (model PySem.Challenge.rw_zo0033_01.row.prog w) (lawTop L f cd) (eval (forIter (st 26)) (lawEnv L f cd)) Q E s
theorem pM_iter {w : World} {p : Program} {loose : List Str} {mean : ExcName → Option Value} {mg : Str → Option Value} {mb : Str → Option Value} {h₀ : Heap} {L : Addr} {f : Addr} {cd : Value} {m : Str → Option Value} {s : Shared} {H : Addr} {W : Addr} {V : Addr} {q0 : Str} {q1 : Str} {q2 : Str} {q3 : Str} {b0 : Tok} {b1 : Tok} {b2 : Tok} {b3 : Tok} {ch : Nat} {cw : Nat} {cv : Nat} {xs : List Value} {ys : List Value} {tail : List (Addr × Obj)} {E : Value → Shared → Prop} {Q : Value → Shared → Prop} : pM_iter_S w p loose mean mg mb h₀ L f cd m s H W V q0 q1 q2 q3 b0 b1 b2 b3 ch cw cv xs ys tail E Q := by
  refine eps_all (fun x : Sv => pM_iter_S x.w x.p x.loose x.mean (x.mf 0) (x.mf 1) (x.hp 0) (x.ad 0) (x.ad 1) (x.val 0) (x.mf 2) (x.sh 0) (x.ad 2) (x.ad 3) (x.ad 4) (x.str 0) (x.str 1) (x.str 2) (x.str 3) (x.tok 0) (x.tok 1) (x.tok 2) (x.tok 3) (x.nat 0) (x.nat 1) (x.nat 2) (x.vl 0) (x.vl 1) (x.ol 0) (x.qv 0) (x.qv 1)) ?_ (Sv.mk w p loose mean (fun _ => h₀) (fun i => [ch, cw, cv].getD i ch) (fun _ => 0) (fun i => [L, f, H, W, V].getD i L) (fun i => [b0, b1, b2, b3].getD i b0) (fun _ => cd) (fun _ => default) (fun i => [xs, ys].getD i xs) (fun _ => #[]) (fun _ => []) (fun _ => tail) (fun i => [mg, mb, m].getD i mg) (fun _ => s) (fun i => [q0, q1, q2, q3].getD i q0) (fun _ => fun _ => "") (fun _ => none) (fun _ => #[]) (fun _ => none) (fun _ => default) (fun _ => none) (fun _ => []) (fun _ => []) (fun _ => {}) (fun _ => true) (fun _ _ => True) (fun i => [E, Q].getD i E))
  clear Q E tail ys xs cv cw ch b3 b2 b1 b0 q3 q2 q1 q0 V W H s m cd f L h₀ mb mg mean loose p w
  refine (?_ : ∀ (w : World) (p : Program) (loose : List Str) (mean : ExcName → Option Value) (mg : Str → Option Value) (mb : Str → Option Value) (h₀ : Heap) (L : Addr) (f : Addr) (cd : Value) (m : Str → Option Value) (s : Shared) (H : Addr) (W : Addr) (V : Addr) (q0 : Str) (q1 : Str) (q2 : Str) (q3 : Str) (b0 : Tok) (b1 : Tok) (b2 : Tok) (b3 : Tok) (ch : Nat) (cw : Nat) (cv : Nat) (xs : List Value) (ys : List Value) (tail : List (Addr × Obj)) (E : Value → Shared → Prop) (Q : Value → Shared → Prop), pM_iter_S w p loose mean mg mb h₀ L f cd m s H W V q0 q1 q2 q3 b0 b1 b2 b3 ch cw cv xs ys tail E Q) _ _ _ _ _ _ _ _ _ _ _ _ _ _ _ _ _ _ _ _ _ _ _ _ _ _ _ _ _ _ _
  intro w p loose mean mg mb h₀ L f cd m s H W V q0 q1 q2 q3 b0 b1 b2 b3 ch cw cv xs ys tail E Q B F X T mW mV mH hW hV N hret
  revert X; k_fill; intro X
  obtain ⟨m, rfl⟩ : ∃ m9, m = fun z : Str => if z = "numbers" then some (.ref W) else if z = "walks" then some (.ref V) else if z = "hosts" then some (.ref H) else m9 z := ⟨m, by
    funext z
    by_cases hz : z = "numbers"
    · subst hz; rw [if_pos rfl]; exact mW
    rw [if_neg hz]; clear hz
    by_cases hz : z = "walks"
    · subst hz; rw [if_pos rfl]; exact mV
    rw [if_neg hz]; clear hz
    by_cases hz : z = "hosts"
    · subst hz; rw [if_pos rfl]; exact mH
    rw [if_neg hz]⟩
  unfold lawTop lawEnv
  rw [lawCells_is]
  generalize hS : lawScope = S
  (conv at hS => lhs; whnf)
  subst hS
  generalize hS : forIter (st 26) = S
  (conv at hS => lhs; whnf)
  subst hS
  walk_at "GO"
  (rename Fr _ _ _ _ => f9)
  (rename News _ _ _ _ => n9)
  refine Z3.call_3 (xs := xs.toArray) (ys := ys.toArray) (zs := #[.str q1 b1, .str q2 b2, .str q3 b3]) ⟨_, (n9 _ (.tail _ (.tail _ hW))).1, rfl, _, rfl⟩ ⟨_, (n9 _ (.tail _ (.tail _ hV))).1, rfl, _, rfl⟩ ⟨_, (n9 _ (.head _)).1, rfl, _, rfl⟩ fun h'' z ti to a b c hs hk => ?_
  refine hret h'' _ _ _ _ (f9.keeps hk) (n9.grown hk) ⟨z, ti, ⟨_, _, _, to⟩, a, b, c⟩ (fun p hp => Heap.lt_size (n9 p hp).1) f9.ns.lt (fun j => Heap.get?_none_of_le (Nat.le_trans f9.above (Nat.le_of_lt (Nat.lt_of_lt_of_le f9.ns.lt (Nat.le_add_right _ j)))))
theorem body26 : forBody (st 26) = [bd 0, bd 1, bd 2, bd 3, bd 4, bd 5, bd 6, bd 7] := by with_unfolding_all rfl
theorem six_in {I : Nat} {x0 x1 x2 x3 x4 x5 : Obj} (h0 : Z3.Plain x0) (h1 : Z3.Plain x1) (h2 : Z3.Plain x2) (h3 : Z3.Plain x3) (h4 : Z3.Plain x4) (h5 : Z3.Plain x5) : ∀ p ∈ ([(I, x0), (I + 1, x1), (I + 2, x2), (I + 3, x3), (I + 4, x4), (I + 5, x5)] : List (Addr × Obj)), Z3.Plain p.2 ∧ @LE.le Nat _ I p.1 := by
  intro p hp
  simp only [List.mem_cons, List.not_mem_nil, or_false] at hp
  rcases hp with rfl | rfl | rfl | rfl | rfl | rfl
  · exact ⟨h0, Nat.le_refl _⟩
  · exact ⟨h1, Nat.le_add_right _ _⟩
  · exact ⟨h2, Nat.le_add_right _ _⟩
  · exact ⟨h3, Nat.le_add_right _ _⟩
  · exact ⟨h4, Nat.le_add_right _ _⟩
  · exact ⟨h5, Nat.le_add_right _ _⟩
theorem six_mem {I : Nat} {x0 x1 x2 x3 x4 x5 : Obj} {j : Nat} (h : j < 6) : ∃ x, ((I + j : Nat), x) ∈ ([(I, x0), (I + 1, x1), (I + 2, x2), (I + 3, x3), (I + 4, x4), (I + 5, x5)] : List (Addr × Obj)) := by
  match j, h with
  | 0, _ => exact ⟨x0, .head _⟩
  | 1, _ => exact ⟨x1, .tail _ (.head _)⟩
  | 2, _ => exact ⟨x2, .tail _ (.tail _ (.head _))⟩
  | 3, _ => exact ⟨x3, .tail _ (.tail _ (.tail _ (.head _)))⟩
  | 4, _ => exact ⟨x4, .tail _ (.tail _ (.tail _ (.tail _ (.head _))))⟩
  | 5, _ => exact ⟨x5, .tail _ (.tail _ (.tail _ (.tail _ (.tail _ (.head _)))))⟩
noncomputable def pM_turn_S (w : World) (p : Program) (loose : List Str) (mean : ExcName → Option Value) (mg : Str → Option Value) (mb : Str → Option Value) (h₀ : Heap) (L : Addr) (f : Addr) (cd : Value) (m : Str → Option Value) (s : Shared) (us : List (Addr × Obj)) (rest : List (Addr × Obj)) (vs : List Value) (wv : List Value) (rv : List Value) (nv : List Value) (zv : List Value) (ms : List Int) (ws : List Int) (rs : List Int) (cw : Nat) (cr : Nat) (c : Nat) (cg : Nat) (cy : Nat) (M : Addr) (R : Addr) (V : Addr) (G : Addr) (Y : Addr) (a : Int) (U : Int) (D : Int) (y : Int) (host : Str) (ta : Tok) (ty : Tok) (tu : Tok) (td : Tok) (th : Tok) (o1 : Obj) (o3 : Obj) (o4 : Obj) (x0 : Obj) (x1 : Obj) (x2 : Obj) (x3 : Obj) (x4 : Obj) (x5 : Obj) (ov : Option Value) (I : Nat) (T9 : Nat) (Q : Flow → Shared → Prop) : Prop :=
  ∀ (ha : -3 ≤ a ∧ a ≤ 5) (hz : -(2 ^ 26) < D * y - U ∧ D * y - U < 2 ^ 26) (hD : -(2 ^ 8) < D ∧ D < 2 ^ 8) (hY : -6000 < y ∧ y < 6000) (hU : -(2 ^ 16) < U ∧ U < 2 ^ 16) (hu : TabSt us) (hrk : ∀ p ∈ rest, RestOk L p) (h80 : @LT.lt Nat _ 80 L) (hi : IntsAre vs ms) (hml : ms.length ≤ 8) (hw : IntsAre wv ws) (hwl : ws.length = 9) (hr : IntsAre rv rs) (hrl : rs.length = 9) (hok : TurnOk w U D a ms rs y ws host th nv zv) (B : Below callerA h₀ [] h₀) (F : Fr h₀ L s.heap m) (X : (hd.heap_39 w.params).In h₀) (T : Top p loose mean mg mb h₀) (hC1 : CodeHd h₀ 77 73) (hC2 : CodeHd h₀ 84 80) (mU : m "upper" = some (.int U tu)) (mD : m "lower" = some (.int D td)) (mR : m "ruler" = some (.ref R)) (mG : m "needs" = some (.ref G)) (mZ : m "zones" = some (.ref Y)) (d1 : o1.data = .cell (some (.int a ta))) (d3 : o3.data = .cell (some (.ref M))) (d4 : o4.data = .cell ov) (h1 : (L + 1, o1) ∈ rest) (h3 : (L + 3, o3) ∈ rest) (hM : (M, listOf vs.toArray c) ∈ rest) (hV : (V, listOf wv.toArray cw) ∈ rest) (hR : (R, listOf rv.toArray cr) ∈ rest) (hG : (G, listOf nv.toArray cg) ∈ rest) (hZ : (Y, listOf zv.toArray cy) ∈ rest) (hI : @LT.lt Nat _ (L + 4) I) (hT : @LT.lt Nat _ (I + 5) T9) (p0 : Z3.Plain x0) (p1 : Z3.Plain x1) (p2 : Z3.Plain x2) (p3 : Z3.Plain x3) (p4 : Z3.Plain x4) (p5 : Z3.Plain x5) (ap : Z3.Apt I ((L + 4, o4) :: (us ++ rest))) (N : News h₀ L s.heap ((T9, { cls := .type "tuple", data := .seq #[.int y ty, .ref V, .str host th] }) :: (((L + 4, o4) :: (us ++ rest)) ++ [(I, x0), (I + 1, x1), (I + 2, x2), (I + 3, x3), (I + 4, x4), (I + 5, x5)]))) (hret : ∀ h' tk' m' us' o4' ov', TabSt us' → o4'.data = .cell ov' → (∀ y : Str, y ∉ turnNames → m' y = m y) → Z3.Apt I ((L + 4, o4') :: (us' ++ rest)) → Fr h₀ L h' m' → News h₀ L h' (((L + 4, o4') :: (us' ++ rest)) ++ [(I, x0), (I + 1, x1), (I + 2, x2), (I + 3, x3), (I + 4, x4), (I + 5, x5)]) → Q .next { s with heap := h', toks := tk' }),
    wpAny (model PySem.Challenge.rw_zo0033_01.row.prog w) (lawTop L f cd) (assign (forTarget (st 26)) (lawEnv L f cd) (.ref T9)) (fun _ s₂ => wpAny (model PySem.Challenge.rw_zo0033_01.row.prog w) (lawTop L f cd) (execs (forBody (st 26)) (lawEnv L f cd)) Q (fun _ _ => False) s₂) (fun _ _ => False) s
theorem pM_turn {w : World} {p : Program} {loose : List Str} {mean : ExcName → Option Value} {mg : Str → Option Value} {mb : Str → Option Value} {h₀ : Heap} {L : Addr} {f : Addr} {cd : Value} {m : Str → Option Value} {s : Shared} {us : List (Addr × Obj)} {rest : List (Addr × Obj)} {vs : List Value} {wv : List Value} {rv : List Value} {nv : List Value} {zv : List Value} {ms : List Int} {ws : List Int} {rs : List Int} {cw : Nat} {cr : Nat} {c : Nat} {cg : Nat} {cy : Nat} {M : Addr} {R : Addr} {V : Addr} {G : Addr} {Y : Addr} {a : Int} {U : Int} {D : Int} {y : Int} {host : Str} {ta : Tok} {ty : Tok} {tu : Tok} {td : Tok} {th : Tok} {o1 : Obj} {o3 : Obj} {o4 : Obj} {x0 : Obj} {x1 : Obj} {x2 : Obj} {x3 : Obj} {x4 : Obj} {x5 : Obj} {ov : Option Value} {I : Nat} {T9 : Nat} {Q : Flow → Shared → Prop} : pM_turn_S w p loose mean mg mb h₀ L f cd m s us rest vs wv rv nv zv ms ws rs cw cr c cg cy M R V G Y a U D y host ta ty tu td th o1 o3 o4 x0 x1 x2 x3 x4 x5 ov I T9 Q := by
  refine eps_all (fun x : Sv => pM_turn_S x.w x.p x.loose x.mean (x.mf 0) (x.mf 1) (x.hp 0) (x.ad 0) (x.ad 1) (x.val 0) (x.mf 2) (x.sh 0) (x.ol 0) (x.ol 1) (x.vl 0) (x.vl 1) (x.vl 2) (x.vl 3) (x.vl 4) (x.il 0) (x.il 1) (x.il 2) (x.nat 0) (x.nat 1) (x.nat 2) (x.nat 3) (x.nat 4) (x.ad 2) (x.ad 3) (x.ad 4) (x.ad 5) (x.ad 6) (x.int 0) (x.int 1) (x.int 2) (x.int 3) (x.str 0) (x.tok 0) (x.tok 1) (x.tok 2) (x.tok 3) (x.tok 4) (x.ob 0) (x.ob 1) (x.ob 2) (x.ob 3) (x.ob 4) (x.ob 5) (x.ob 6) (x.ob 7) (x.ob 8) (x.ov 0) (x.nat 5) (x.nat 6) x.qf) ?_ (Sv.mk w p loose mean (fun _ => h₀) (fun i => [cw, cr, c, cg, cy, I, T9].getD i cw) (fun i => [a, U, D, y].getD i a) (fun i => [L, f, M, R, V, G, Y].getD i L) (fun i => [ta, ty, tu, td, th].getD i ta) (fun _ => cd) (fun i => [o1, o3, o4, x0, x1, x2, x3, x4, x5].getD i o1) (fun i => [vs, wv, rv, nv, zv].getD i vs) (fun _ => #[]) (fun i => [ms, ws, rs].getD i ms) (fun i => [us, rest].getD i us) (fun i => [mg, mb, m].getD i mg) (fun _ => s) (fun _ => host) (fun _ => fun _ => "") (fun _ => none) (fun _ => #[]) (fun _ => ov) (fun _ => default) (fun _ => none) (fun _ => []) (fun _ => []) (fun _ => {}) (fun _ => true) Q (fun _ => fun _ _ => True))
  clear Q T9 I ov x5 x4 x3 x2 x1 x0 o4 o3 o1 th td tu ty ta host y D U a Y G V R M cy cg c cr cw rs ws ms zv nv rv wv vs rest us s m cd f L h₀ mb mg mean loose p w
  refine (?_ : ∀ (w : World) (p : Program) (loose : List Str) (mean : ExcName → Option Value) (mg : Str → Option Value) (mb : Str → Option Value) (h₀ : Heap) (L : Addr) (f : Addr) (cd : Value) (m : Str → Option Value) (s : Shared) (us : List (Addr × Obj)) (rest : List (Addr × Obj)) (vs : List Value) (wv : List Value) (rv : List Value) (nv : List Value) (zv : List Value) (ms : List Int) (ws : List Int) (rs : List Int) (cw : Nat) (cr : Nat) (c : Nat) (cg : Nat) (cy : Nat) (M : Addr) (R : Addr) (V : Addr) (G : Addr) (Y : Addr) (a : Int) (U : Int) (D : Int) (y : Int) (host : Str) (ta : Tok) (ty : Tok) (tu : Tok) (td : Tok) (th : Tok) (o1 : Obj) (o3 : Obj) (o4 : Obj) (x0 : Obj) (x1 : Obj) (x2 : Obj) (x3 : Obj) (x4 : Obj) (x5 : Obj) (ov : Option Value) (I : Nat) (T9 : Nat) (Q : Flow → Shared → Prop), pM_turn_S w p loose mean mg mb h₀ L f cd m s us rest vs wv rv nv zv ms ws rs cw cr c cg cy M R V G Y a U D y host ta ty tu td th o1 o3 o4 x0 x1 x2 x3 x4 x5 ov I T9 Q) _ _ _ _ _ _ _ _ _ _ _ _ _ _ _ _ _ _ _ _ _ _ _ _ _ _ _ _ _ _ _ _ _ _ _ _ _ _ _ _ _ _ _ _ _ _ _ _ _ _ _ _ _ _ _
  intro w p loose mean mg mb h₀ L f cd m s us rest vs wv rv nv zv ms ws rs cw cr c cg cy M R V G Y a U D y host ta ty tu td th o1 o3 o4 x0 x1 x2 x3 x4 x5 ov I T9 Q ha hz hD hY hU hu hrk h80 hi hml hw hwl hr hrl hok B F X T hC1 hC2 mU mD mR mG mZ d1 d3 d4 h1 h3 hM hV hR hG hZ hI hT p0 p1 p2 p3 p4 p5 ap N hret
  have ne : ∀ x y : Str, x ∈ turnNames → y ∉ turnNames → y ≠ x := fun x y h1 h2 e => h2 (e ▸ h1)
  refine pM_asg B F X T N fun h1' tk1 m1 mY mV mH hm1 F1 N1 => ?_
  rw [body26]
  have hs6 := six_in p0 p1 p2 p3 p4 p5 (I := I)
  have app := fun p hp j hj => ap p hp j hj
  have g : ∀ {x : Str} {v : Option Value}, x ≠ "number" → x ≠ "walk" → x ≠ "host" → m x = v → m1 x = v := fun a b c e => (hm1 _ a b c).trans e
  refine pLF (rest := rest ++ ((T9, { cls := .type "tuple", data := .seq #[.int y ty, .ref V, .str host th] }) :: [(I, x0), (I + 1, x1), (I + 2, x2), (I + 3, x3), (I + 4, x4), (I + 5, x5)])) ha hz hD hY hU hu ?_ h80 hi hml hw hwl hr hrl hok B F1 X T hC1 hC2 mY mV mH (g (by decide) (by decide) (by decide) mU) (g (by decide) (by decide) (by decide) mD) (g (by decide) (by decide) (by decide) mR) (g (by decide) (by decide) (by decide) mG) (g (by decide) (by decide) (by decide) mZ) d1 d3 d4
    (List.mem_append_left _ h1) (List.mem_append_left _ h3) (List.mem_append_left _ hM) (List.mem_append_left _ hV) (List.mem_append_left _ hR) (List.mem_append_left _ hG) (List.mem_append_left _ hZ) (fun p hp => N1 p ?_) fun h2 tk2 m2 us2 o4' ov' hu2 d4' hm2 F2 N2 => ?_
  · intro p hp
    rcases List.mem_append.mp hp with hp | hp
    · exact hrk p hp
    · rcases List.mem_cons.mp hp with rfl | hp
      · exact ⟨Z3.Plain.seq, .inr (by dsimp only; omega), .inl fun v e => by cases e⟩
      · obtain ⟨a1, a2⟩ := hs6 p hp
        exact ⟨a1, .inr (by omega), .inr (Nat.ne_of_gt (Nat.lt_of_lt_of_le hI a2))⟩
  · rcases List.mem_cons.mp hp with rfl | hp
    · exact .tail _ (.head _)
    rcases List.mem_append.mp hp with hp | hp
    · exact .tail _ (.tail _ (List.mem_append_left _ (List.mem_append_left _ hp)))
    rcases List.mem_append.mp hp with hp | hp
    · exact .tail _ (.tail _ (List.mem_append_left _ (List.mem_append_right _ hp)))
    rcases List.mem_cons.mp hp with rfl | hp
    · exact .head _
    · exact .tail _ (.tail _ (List.mem_append_right _ hp))
  · refine hret h2 tk2 m2 us2 o4' ov' hu2 d4' (fun y h => ?_) (fun p hp j hj => ?_) F2 (fun p hp => N2 p ?_)
    · exact (hm2 y h).trans (hm1 y (ne "number" y (by decide) h) (ne "walk" y (by decide) h) (ne "host" y (by decide) h))
    · rcases List.mem_cons.mp hp with rfl | hp
      · exact Nat.ne_of_lt (Nat.lt_of_lt_of_le hI (Nat.le_add_right _ _))
      rcases List.mem_append.mp hp with hp | hp
      · rcases (tabs_in hu2).2.2 _ hp with e | e | ⟨qn, e⟩
        · omega
        · omega
        · intro eq
          obtain ⟨x, hx⟩ := six_mem (I := I) (x0 := x0) (x1 := x1) (x2 := x2) (x3 := x3) (x4 := x4) (x5 := x5) hj
          obtain ⟨a9, o9⟩ := p
          dsimp only at eq e
          subst eq
          have q := news_eq N2 (.tail _ (List.mem_append_left _ hp)) (.tail _ (List.mem_append_right _ (List.mem_append_right _ (.tail _ hx))))
          subst q
          exact (hs6 _ hx).1 qn e
      · exact ap p (.tail _ (List.mem_append_right _ hp)) j hj
    · rcases List.mem_append.mp hp with hp | hp
      · rcases List.mem_cons.mp hp with rfl | hp
        · exact .head _
        rcases List.mem_append.mp hp with hp | hp
        · exact .tail _ (List.mem_append_left _ hp)
        · exact .tail _ (List.mem_append_right _ (List.mem_append_left _ hp))
      · exact .tail _ (List.mem_append_right _ (List.mem_append_right _ (.tail _ hp)))
end
theorem reset_PN : True := by
  w_top off
  k_with_none
  (k_with "OM" => with_reducible first | assumption | decide | (refine Nat.ne_of_lt ?_; k_extra "OP") | (refine o_n ?_; k_extra "OP") | k_extra "OP" | exact o_1 | exact o_2 | exact o_3 | exact o_4 | exact o_5 | exact o_6 | exact o_7 | exact o_8 | exact o_9 | exact o_10 | exact o_11 | exact o_12 | exact o_13 | exact o_14 | exact o_15 | exact o_16 | exact o_17 | exact o_18 | exact o_s1 | exact o_s2 | exact o_s3 | exact o_s4 | exact o_s5 | exact o_s6 | exact o_s7 | exact o_s8 | exact o_s9 | exact o_s10 | exact o_s11 | exact o_s12 | exact o_s13 | exact o_s14 | exact o_s15 | exact o_s16 | exact o_r 1 | exact o_r 2 | exact o_r 3 | exact o_r 4 | exact o_r 5 | exact o_r 6 | exact o_r 7 | exact o_r 8 | exact o_r 9 | exact o_r 10 | exact o_r 11 | exact o_r 12 | exact o_r 13 | exact o_r 14 | exact o_r 15 | exact o_r 16 | exact o_u1 | exact o_u2 | exact o_u3 | exact o_e1 | exact o_e2 | exact o_e3 | exact o_e4 | exact o_m1 | exact o_c1 | exact o_c2 | exact o_c3 | exact o_c4 | exact o_c5 | exact o_n1 | exact o_n2 | exact o_n3 | exact o_n4 | exact o_d1 | fail)
  (k_with "OP" => first | k_extra "OB" | exact o_p1 | exact o_p2 | exact o_p3 | exact o_p4 | (refine o_l 1 ?_; k_extra "OB") | (refine o_l 2 ?_; k_extra "OB") | (refine o_l 3 ?_; k_extra "OB") | (refine o_l 4 ?_; k_extra "OB") | fail)
  (k_with "OB" => first | assumption | (refine o_pk ?_; k_extra "OK") | fail)
  (k_with "OK" => first | exact And.left | exact And.right | (refine o_sk ?_; k_extra "OK") | fail)
  (k_with "GO" => repeat' (first | (k_unfold; (try dsimp only)) | (k_end; wrow_close) | walk1 | (dsimp only; k_unfold; (try dsimp only)) | (dsimp only; walk1) | (leave1; (try dsimp only)) | fail "no step"))
  first | walk1 | trivial
section
set_option Elab.async false
set_option maxRecDepth 100000
set_option maxHeartbeats 8000000
set_option pp.deepTerms false
set_option pp.maxSteps 4000
theorem pM_ret {w : World} {p : Program} {loose : List Str} {mean : ExcName → Option Value} {mg mb : Str → Option Value} {h₀ : Heap} {L f : Addr} {cd : Value} {m : Str → Option Value} {s : Shared} {Q : Flow → Shared → Prop} {E : Value → Shared → Prop} (B : Below callerA h₀ [] h₀) (F : Fr h₀ L s.heap m) (X : (hd.heap_39 w.params).In h₀) (T : Top p loose mean mg mb h₀) (hret : ∀ tk', Q (.ret (.bool true)) { s with toks := tk' }) : wpAny (model PySem.Challenge.rw_zo0033_01.row.prog w) (lawTop L f cd) (execs [st 27] (lawEnv L f cd)) Q E s := by
  revert X; k_fill; intro X
  unfold lawTop lawEnv
  rw [lawCells_is]
  generalize hS : lawScope = S
  (conv at hS => lhs; whnf)
  subst hS
  generalize hS : st 27 = S
  (conv at hS => lhs; whnf)
  subst hS
  walk_at "GO"
  exact hret _
theorem restok_list {L : Addr} {a : Addr} {vs : Array Value} {n : Nat} : RestOk L (a, listOf vs n) := ⟨Z3.Plain.seq, .inl (by intro e; cases e), .inl fun v e => by cases e⟩
theorem n9_sub {I : Nat} {l l' : List (Addr × Obj)} (h : ∀ p ∈ l, @LT.lt Nat _ p.1 I) (hs : ∀ p ∈ l', p ∈ l) : ∀ p ∈ l', @LT.lt Nat _ p.1 I := fun p hp => h p (hs p hp)
theorem restok_cell {L : Addr} {k : Nat} {o : Obj} {v : Option Value} (hk : k ≠ 4) (h80 : @LT.lt Nat _ 80 L) (d : o.data = .cell v) : RestOk L ((L + k : Nat), o) := ⟨Z3.Plain.cell d, .inr (by dsimp only; omega), .inr (by dsimp only; omega)⟩
noncomputable def pN_S (w : World) (p : Program) (loose : List Str) (mean : ExcName → Option Value) (mg : Str → Option Value) (mb : Str → Option Value) (h₀ : Heap) (L : Addr) (f : Addr) (cd : Value) (m : Str → Option Value) (s : Shared) (vs : List Value) (rv : List Value) (w1 : List Value) (w2 : List Value) (w3 : List Value) (nv : List Value) (zv : List Value) (ms : List Int) (rs : List Int) (i1 : List Int) (i2 : List Int) (i3 : List Int) (cr : Nat) (c : Nat) (cg : Nat) (cy : Nat) (cw : Nat) (k1 : Nat) (k2 : Nat) (k3 : Nat) (ch : Nat) (M : Addr) (R : Addr) (V : Addr) (V1 : Addr) (V2 : Addr) (V3 : Addr) (W : Addr) (H : Addr) (G : Addr) (Y : Addr) (a : Int) (U : Int) (D : Int) (y1 : Int) (y2 : Int) (y3 : Int) (q0 : Str) (q1 : Str) (q2 : Str) (q3 : Str) (ta : Tok) (tu : Tok) (td : Tok) (t1 : Tok) (t2 : Tok) (t3 : Tok) (b0 : Tok) (b1 : Tok) (b2 : Tok) (b3 : Tok) (o1 : Obj) (o2 : Obj) (o3 : Obj) (o4 : Obj) (v2 : Option Value) (v4 : Option Value) (Q : Flow → Shared → Prop) : Prop :=
  ∀ (ha : -3 ≤ a ∧ a ≤ 5) (hD : -(2 ^ 8) < D ∧ D < 2 ^ 8) (hU : -(2 ^ 16) < U ∧ U < 2 ^ 16) (h80 : @LT.lt Nat _ 80 L) (hi : IntsAre vs ms) (hml : ms.length ≤ 8) (hr : IntsAre rv rs) (hrl : rs.length = 9) (hY1 : -6000 < y1 ∧ y1 < 6000) (hw1 : IntsAre w1 i1) (hl1 : i1.length = 9) (ok1 : TurnOk w U D a ms rs y1 i1 q1 b1 nv zv) (hY2 : -6000 < y2 ∧ y2 < 6000) (hw2 : IntsAre w2 i2) (hl2 : i2.length = 9) (ok2 : TurnOk w U D a ms rs y2 i2 q2 b2 nv zv) (hY3 : -6000 < y3 ∧ y3 < 6000) (hw3 : IntsAre w3 i3) (hl3 : i3.length = 9) (ok3 : TurnOk w U D a ms rs y3 i3 q3 b3 nv zv) (B : Below callerA h₀ [] h₀) (F : Fr h₀ L s.heap m) (X : (hd.heap_39 w.params).In h₀) (T : Top p loose mean mg mb h₀) (hC1 : CodeHd h₀ 77 73) (hC2 : CodeHd h₀ 84 80) (mU : m "upper" = some (.int U tu)) (mD : m "lower" = some (.int D td)) (mR : m "ruler" = some (.ref R)) (mG : m "needs" = some (.ref G)) (mZ : m "zones" = some (.ref Y)) (mW : m "numbers" = some (.ref W)) (mV : m "walks" = some (.ref V)) (mH : m "hosts" = some (.ref H)) (d1 : o1.data = .cell (some (.int a ta))) (d2 : o2.data = .cell v2) (d3 : o3.data = .cell (some (.ref M))) (d4 : o4.data = .cell v4) (N : News h₀ L s.heap ((H, listOf #[.str q0 b0, .str q1 b1, .str q2 b2, .str q3 b3] ch) :: ((Y, listOf zv.toArray cy) :: [(G, listOf nv.toArray cg), (V, listOf #[.ref V1, .ref V2, .ref V3] 3), (V1, listOf w1.toArray k1), (V2, listOf w2.toArray k2), (V3, listOf w3.toArray k3), (W, listOf #[.int y1 t1, .int y2 t2, .int y3 t3] cw), (R, listOf rv.toArray cr), (M, listOf vs.toArray c), (L + 4, o4), (L + 3, o3), (L + 2, o2), (L + 1, o1), (80, tabObj #[]), (73, tabObj #[])]))) (hret : ∀ h' tk' m' news' p1 p2, Fr h₀ L h' m' → News h₀ L h' news' → (80, tabObj p1) ∈ news' → (73, tabObj p2) ∈ news' → Q (.ret (.bool true)) { s with heap := h', toks := tk' }),
    wpAny (model PySem.Challenge.rw_zo0033_01.row.prog w) (lawTop L f cd) (execs [st 26, st 27] (lawEnv L f cd)) Q (fun _ _ => False) s
theorem pN {w : World} {p : Program} {loose : List Str} {mean : ExcName → Option Value} {mg : Str → Option Value} {mb : Str → Option Value} {h₀ : Heap} {L : Addr} {f : Addr} {cd : Value} {m : Str → Option Value} {s : Shared} {vs : List Value} {rv : List Value} {w1 : List Value} {w2 : List Value} {w3 : List Value} {nv : List Value} {zv : List Value} {ms : List Int} {rs : List Int} {i1 : List Int} {i2 : List Int} {i3 : List Int} {cr : Nat} {c : Nat} {cg : Nat} {cy : Nat} {cw : Nat} {k1 : Nat} {k2 : Nat} {k3 : Nat} {ch : Nat} {M : Addr} {R : Addr} {V : Addr} {V1 : Addr} {V2 : Addr} {V3 : Addr} {W : Addr} {H : Addr} {G : Addr} {Y : Addr} {a : Int} {U : Int} {D : Int} {y1 : Int} {y2 : Int} {y3 : Int} {q0 : Str} {q1 : Str} {q2 : Str} {q3 : Str} {ta : Tok} {tu : Tok} {td : Tok} {t1 : Tok} {t2 : Tok} {t3 : Tok} {b0 : Tok} {b1 : Tok} {b2 : Tok} {b3 : Tok} {o1 : Obj} {o2 : Obj} {o3 : Obj} {o4 : Obj} {v2 : Option Value} {v4 : Option Value} {Q : Flow → Shared → Prop} : pN_S w p loose mean mg mb h₀ L f cd m s vs rv w1 w2 w3 nv zv ms rs i1 i2 i3 cr c cg cy cw k1 k2 k3 ch M R V V1 V2 V3 W H G Y a U D y1 y2 y3 q0 q1 q2 q3 ta tu td t1 t2 t3 b0 b1 b2 b3 o1 o2 o3 o4 v2 v4 Q := by
  refine eps_all (fun x : Sv => pN_S x.w x.p x.loose x.mean (x.mf 0) (x.mf 1) (x.hp 0) (x.ad 0) (x.ad 1) (x.val 0) (x.mf 2) (x.sh 0) (x.vl 0) (x.vl 1) (x.vl 2) (x.vl 3) (x.vl 4) (x.vl 5) (x.vl 6) (x.il 0) (x.il 1) (x.il 2) (x.il 3) (x.il 4) (x.nat 0) (x.nat 1) (x.nat 2) (x.nat 3) (x.nat 4) (x.nat 5) (x.nat 6) (x.nat 7) (x.nat 8) (x.ad 2) (x.ad 3) (x.ad 4) (x.ad 5) (x.ad 6) (x.ad 7) (x.ad 8) (x.ad 9) (x.ad 10) (x.ad 11) (x.int 0) (x.int 1) (x.int 2) (x.int 3) (x.int 4) (x.int 5) (x.str 0) (x.str 1) (x.str 2) (x.str 3) (x.tok 0) (x.tok 1) (x.tok 2) (x.tok 3) (x.tok 4) (x.tok 5) (x.tok 6) (x.tok 7) (x.tok 8) (x.tok 9) (x.ob 0) (x.ob 1) (x.ob 2) (x.ob 3) (x.ov 0) (x.ov 1) x.qf) ?_ (Sv.mk w p loose mean (fun _ => h₀) (fun i => [cr, c, cg, cy, cw, k1, k2, k3, ch].getD i cr) (fun i => [a, U, D, y1, y2, y3].getD i a) (fun i => [L, f, M, R, V, V1, V2, V3, W, H, G, Y].getD i L) (fun i => [ta, tu, td, t1, t2, t3, b0, b1, b2, b3].getD i ta) (fun _ => cd) (fun i => [o1, o2, o3, o4].getD i o1) (fun i => [vs, rv, w1, w2, w3, nv, zv].getD i vs) (fun _ => #[]) (fun i => [ms, rs, i1, i2, i3].getD i ms) (fun _ => []) (fun i => [mg, mb, m].getD i mg) (fun _ => s) (fun i => [q0, q1, q2, q3].getD i q0) (fun _ => fun _ => "") (fun _ => none) (fun _ => #[]) (fun i => [v2, v4].getD i v2) (fun _ => default) (fun _ => none) (fun _ => []) (fun _ => []) (fun _ => {}) (fun _ => true) Q (fun _ => fun _ _ => True))
  clear Q v4 v2 o4 o3 o2 o1 b3 b2 b1 b0 t3 t2 t1 td tu ta q3 q2 q1 q0 y3 y2 y1 D U a Y G H W V3 V2 V1 V R M ch k3 k2 k1 cw cy cg c cr i3 i2 i1 rs ms zv nv w3 w2 w1 rv vs s m cd f L h₀ mb mg mean loose p w
  refine (?_ : ∀ (w : World) (p : Program) (loose : List Str) (mean : ExcName → Option Value) (mg : Str → Option Value) (mb : Str → Option Value) (h₀ : Heap) (L : Addr) (f : Addr) (cd : Value) (m : Str → Option Value) (s : Shared) (vs : List Value) (rv : List Value) (w1 : List Value) (w2 : List Value) (w3 : List Value) (nv : List Value) (zv : List Value) (ms : List Int) (rs : List Int) (i1 : List Int) (i2 : List Int) (i3 : List Int) (cr : Nat) (c : Nat) (cg : Nat) (cy : Nat) (cw : Nat) (k1 : Nat) (k2 : Nat) (k3 : Nat) (ch : Nat) (M : Addr) (R : Addr) (V : Addr) (V1 : Addr) (V2 : Addr) (V3 : Addr) (W : Addr) (H : Addr) (G : Addr) (Y : Addr) (a : Int) (U : Int) (D : Int) (y1 : Int) (y2 : Int) (y3 : Int) (q0 : Str) (q1 : Str) (q2 : Str) (q3 : Str) (ta : Tok) (tu : Tok) (td : Tok) (t1 : Tok) (t2 : Tok) (t3 : Tok) (b0 : Tok) (b1 : Tok) (b2 : Tok) (b3 : Tok) (o1 : Obj) (o2 : Obj) (o3 : Obj) (o4 : Obj) (v2 : Option Value) (v4 : Option Value) (Q : Flow → Shared → Prop), pN_S w p loose mean mg mb h₀ L f cd m s vs rv w1 w2 w3 nv zv ms rs i1 i2 i3 cr c cg cy cw k1 k2 k3 ch M R V V1 V2 V3 W H G Y a U D y1 y2 y3 q0 q1 q2 q3 ta tu td t1 t2 t3 b0 b1 b2 b3 o1 o2 o3 o4 v2 v4 Q) _ _ _ _ _ _ _ _ _ _ _ _ _ _ _ _ _ _ _ _ _ _ _ _ _ _ _ _ _ _ _ _ _ _ _ _ _ _ _ _ _ _ _ _ _ _ _ _ _ _ _ _ _ _ _ _ _ _ _ _ _ _ _ _ _ _ _ _ _ _
  intro w p loose mean mg mb h₀ L f cd m s vs rv w1 w2 w3 nv zv ms rs i1 i2 i3 cr c cg cy cw k1 k2 k3 ch M R V V1 V2 V3 W H G Y a U D y1 y2 y3 q0 q1 q2 q3 ta tu td t1 t2 t3 b0 b1 b2 b3 o1 o2 o3 o4 v2 v4 Q ha hD hU h80 hi hml hr hrl hY1 hw1 hl1 ok1 hY2 hw2 hl2 ok2 hY3 hw3 hl3 ok3 B F X T hC1 hC2 mU mD mR mG mZ mW mV mH d1 d2 d3 d4 N hret
  have zb : ∀ y : Int, -6000 < y ∧ y < 6000 → -(2 ^ 26) < D * y - U ∧ D * y - U < 2 ^ 26 := by
    intro y hy
    have e1 : D * y ≤ 256 * 6000 := by
      refine Int.le_trans Int.le_natAbs ?_
      rw [Int.natAbs_mul]
      have : D.natAbs * y.natAbs ≤ 256 * 6000 := Nat.mul_le_mul (by omega) (by omega)
      omega
    have e2 : -(D * y) ≤ 256 * 6000 := by
      refine Int.le_trans Int.le_natAbs ?_
      rw [Int.natAbs_neg, Int.natAbs_mul]
      have : D.natAbs * y.natAbs ≤ 256 * 6000 := Nat.mul_le_mul (by omega) (by omega)
      omega
    omega
  refine wpAny_append (a := [st 26]) (b := [st 27]) ?_
  obtain ⟨elts, k, px, pz, e, et⟩ : ∃ elts k px pz, st 26 = .For (.Tuple elts k px) (forIter (st 26)) (forBody (st 26)) [] pz ∧ .Tuple elts k px = forTarget (st 26) := ⟨_, _, _, _, rfl, rfl⟩
  rw [e]
  refine wpAny_execs_cons (wpAny_For ?_ (by intro _; rfl))
  refine pM_iter B F X T mW mV mH (xs := [.int y1 t1, .int y2 t2, .int y3 t3]) (ys := [.ref V1, .ref V2, .ref V3]) (.tail _ (.tail _ (.tail _ (.tail _ (.tail _ (.tail _ (.head _))))))) (.tail _ (.tail _ (.head _))) N fun h1 tk1 HS cs I F1 N1 Z1 lI hLI hI0 => ?_
  refine wpAny_pyIter_zip Z1.z ?_
  have h4I : @LT.lt Nat _ (L + 4) I := lI (L + 4, o4) (by k_mem)
  have hW : @LT.lt Nat _ W I := lI (W, listOf #[.int y1 t1, .int y2 t2, .int y3 t3] cw) (by k_mem)
  have hV : @LT.lt Nat _ V I := lI (V, listOf #[.ref V1, .ref V2, .ref V3] 3) (by k_mem)
  have hHS : @LT.lt Nat _ HS I := lI (HS, listOf #[.str q1 b1, .str q2 b2, .str q3 b3] cs) (by k_mem)
  have rok : ∀ p ∈ ([(HS, listOf #[.str q1 b1, .str q2 b2, .str q3 b3] cs), (H, listOf #[.str q0 b0, .str q1 b1, .str q2 b2, .str q3 b3] ch), (Y, listOf zv.toArray cy), (G, listOf nv.toArray cg), (V, listOf #[.ref V1, .ref V2, .ref V3] 3), (V1, listOf w1.toArray k1), (V2, listOf w2.toArray k2), (V3, listOf w3.toArray k3), (W, listOf #[.int y1 t1, .int y2 t2, .int y3 t3] cw), (R, listOf rv.toArray cr), (M, listOf vs.toArray c), (L + 3, o3), (L + 2, o2), (L + 1, o1)] : List (Addr × Obj)), RestOk L p := by
    intro p hp
    simp only [List.mem_cons, List.not_mem_nil, or_false] at hp
    rcases hp with rfl | rfl | rfl | rfl | rfl | rfl | rfl | rfl | rfl | rfl | rfl | rfl | rfl | rfl
    · exact restok_list
    · exact restok_list
    · exact restok_list
    · exact restok_list
    · exact restok_list
    · exact restok_list
    · exact restok_list
    · exact restok_list
    · exact restok_list
    · exact restok_list
    · exact restok_list
    · exact restok_cell (by decide) h80 d3
    · exact restok_cell (by decide) h80 d2
    · exact restok_cell (by decide) h80 d1
  refine codeAny_noE (Z3.loop (σ := List (Addr × Obj) × Obj × (Str → Option Value)) (fun σ => (L + 4, σ.2.1) :: (σ.1 ++ [(HS, listOf #[.str q1 b1, .str q2 b2, .str q3 b3] cs), (H, listOf #[.str q0 b0, .str q1 b1, .str q2 b2, .str q3 b3] ch), (Y, listOf zv.toArray cy), (G, listOf nv.toArray cg), (V, listOf #[.ref V1, .ref V2, .ref V3] 3), (V1, listOf w1.toArray k1), (V2, listOf w2.toArray k2), (V3, listOf w3.toArray k3), (W, listOf #[.int y1 t1, .int y2 t2, .int y3 t3] cw), (R, listOf rv.toArray cr), (M, listOf vs.toArray c), (L + 3, o3), (L + 2, o2), (L + 1, o1)])) (fun σ => σ.2.2)
    (fun _ σ => TabSt σ.1 ∧ (∃ ov, σ.2.1.data = .cell ov) ∧ (∀ y : Str, y ∉ turnNames → σ.2.2 y = m y) ∧ Z3.Apt I ((L + 4, σ.2.1) :: (σ.1 ++ [(HS, listOf #[.str q1 b1, .str q2 b2, .str q3 b3] cs), (H, listOf #[.str q0 b0, .str q1 b1, .str q2 b2, .str q3 b3] ch), (Y, listOf zv.toArray cy), (G, listOf nv.toArray cg), (V, listOf #[.ref V1, .ref V2, .ref V3] 3), (V1, listOf w1.toArray k1), (V2, listOf w2.toArray k2), (V3, listOf w3.toArray k3), (W, listOf #[.int y1 t1, .int y2 t2, .int y3 t3] cw), (R, listOf rv.toArray cr), (M, listOf vs.toArray c), (L + 3, o3), (L + 2, o2), (L + 1, o1)])))
    (st0 := ([(73, tabObj #[]), (80, tabObj #[])], o4, m)) (xs := #[.int y1 t1, .int y2 t2, .int y3 t3]) (ys := #[.ref V1, .ref V2, .ref V3]) (zs := #[.str q1 b1, .str q2 b2, .str q3 b3]) (I := I) (l1 := W) (l2 := V) (l3 := HS) rfl (Nat.le_refl _) (Nat.le_refl _) ?_ hLI (fun i σ h => h.2.2.2) ?_ ?_ ?_ F1 ?_ Z1 ?_ hI0 ?_ ?_)
  · constructor <;> first | (show @Ne Nat _ _; omega) | (refine ⟨?_, ?_, ?_, ?_, ?_⟩ <;> (show @Ne Nat _ _; omega))
  · exact fun σ => ⟨cw, .tail _ (List.mem_append_right _ (by k_mem))⟩
  · exact fun σ => ⟨3, .tail _ (List.mem_append_right _ (by k_mem))⟩
  · exact fun σ => ⟨cs, .tail _ (List.mem_append_right _ (by k_mem))⟩
  · simp only [List.cons_append, List.nil_append]
    exact n9_mem N1 (by kcj_all)
  · refine ⟨.inl rfl, ⟨_, d4⟩, fun _ _ => rfl, ?_⟩
    simp only [List.cons_append, List.nil_append]
    refine fun p hp j hj => Nat.ne_of_lt (Nat.lt_of_lt_of_le (n9_sub lI ?_ p hp) (Nat.le_add_right _ _))
    kcj_all
  · rintro i ⟨us, o4', m1⟩ x y u T9 h tk x0 x1 x2 x3 x4 x5 hi3 hx hy hu ⟨hus, ⟨ov, d4'⟩, hm1, hap⟩ hT p0 p1 p2 p3 p4 p5 F2 N2
    dsimp only at hus d4' hm1 hap F2 N2
    rw [et]
    have mm : ∀ {p : Addr × Obj}, p ∈ ([(HS, listOf #[.str q1 b1, .str q2 b2, .str q3 b3] cs), (H, listOf #[.str q0 b0, .str q1 b1, .str q2 b2, .str q3 b3] ch), (Y, listOf zv.toArray cy), (G, listOf nv.toArray cg), (V, listOf #[.ref V1, .ref V2, .ref V3] 3), (V1, listOf w1.toArray k1), (V2, listOf w2.toArray k2), (V3, listOf w3.toArray k3), (W, listOf #[.int y1 t1, .int y2 t2, .int y3 t3] cw), (R, listOf rv.toArray cr), (M, listOf vs.toArray c), (L + 3, o3), (L + 2, o2), (L + 1, o1)] : List (Addr × Obj)) → p ∈ ([(HS, listOf #[.str q1 b1, .str q2 b2, .str q3 b3] cs), (H, listOf #[.str q0 b0, .str q1 b1, .str q2 b2, .str q3 b3] ch), (Y, listOf zv.toArray cy), (G, listOf nv.toArray cg), (V, listOf #[.ref V1, .ref V2, .ref V3] 3), (V1, listOf w1.toArray k1), (V2, listOf w2.toArray k2), (V3, listOf w3.toArray k3), (W, listOf #[.int y1 t1, .int y2 t2, .int y3 t3] cw), (R, listOf rv.toArray cr), (M, listOf vs.toArray c), (L + 3, o3), (L + 2, o2), (L + 1, o1)] : List (Addr × Obj)) := fun h => h
    have g : ∀ {x : Str} {v : Option Value}, x ∉ turnNames → m x = v → m1 x = v := fun h e => (hm1 _ h).trans e
    have hi3' : i < 3 := hi3
    match i, hi3' with
    | 0, _ =>
      obtain rfl : Value.int y1 t1 = x := Option.some.inj hx
      obtain rfl : Value.ref V1 = y := Option.some.inj hy
      obtain rfl : Value.str q1 b1 = u := Option.some.inj hu
      refine pM_turn ha (zb y1 hY1) hD hY1 hU hus rok h80 hi hml hw1 hl1 hr hrl ok1 B F2 X T hC1 hC2 (g (by decide) mU) (g (by decide) mD) (g (by decide) mR) (g (by decide) mG) (g (by decide) mZ) d1 d3 d4' (by k_mem) (by k_mem) (by k_mem) (by k_mem) (by k_mem) (by k_mem) (by k_mem) h4I hT p0 p1 p2 p3 p4 p5 hap N2
        fun h' tk' m' us' o4'' ov' a1 a2 a3 a4 a5 a6 => ⟨h', tk', (us', o4'', m'), rfl, ⟨a1, ⟨_, a2⟩, fun y h => (a3 y h).trans (hm1 y h), a4⟩, a5, a6⟩
    | 1, _ =>
      obtain rfl : Value.int y2 t2 = x := Option.some.inj hx
      obtain rfl : Value.ref V2 = y := Option.some.inj hy
      obtain rfl : Value.str q2 b2 = u := Option.some.inj hu
      refine pM_turn ha (zb y2 hY2) hD hY2 hU hus rok h80 hi hml hw2 hl2 hr hrl ok2 B F2 X T hC1 hC2 (g (by decide) mU) (g (by decide) mD) (g (by decide) mR) (g (by decide) mG) (g (by decide) mZ) d1 d3 d4' (by k_mem) (by k_mem) (by k_mem) (by k_mem) (by k_mem) (by k_mem) (by k_mem) h4I hT p0 p1 p2 p3 p4 p5 hap N2
        fun h' tk' m' us' o4'' ov' a1 a2 a3 a4 a5 a6 => ⟨h', tk', (us', o4'', m'), rfl, ⟨a1, ⟨_, a2⟩, fun y h => (a3 y h).trans (hm1 y h), a4⟩, a5, a6⟩
    | 2, _ =>
      obtain rfl : Value.int y3 t3 = x := Option.some.inj hx
      obtain rfl : Value.ref V3 = y := Option.some.inj hy
      obtain rfl : Value.str q3 b3 = u := Option.some.inj hu
      refine pM_turn ha (zb y3 hY3) hD hY3 hU hus rok h80 hi hml hw3 hl3 hr hrl ok3 B F2 X T hC1 hC2 (g (by decide) mU) (g (by decide) mD) (g (by decide) mR) (g (by decide) mG) (g (by decide) mZ) d1 d3 d4' (by k_mem) (by k_mem) (by k_mem) (by k_mem) (by k_mem) (by k_mem) (by k_mem) h4I hT p0 p1 p2 p3 p4 p5 hap N2
        fun h' tk' m' us' o4'' ov' a1 a2 a3 a4 a5 a6 => ⟨h', tk', (us', o4'', m'), rfl, ⟨a1, ⟨_, a2⟩, fun y h => (a3 y h).trans (hm1 y h), a4⟩, a5, a6⟩
  · rintro ⟨us, o4', m1⟩ h tk ⟨hus, ⟨ov, d4'⟩, hm1, hap⟩ F2 N2
    dsimp only at hus d4' hm1 hap F2 N2
    obtain ⟨⟨t1', h1'⟩, ⟨t2', h2'⟩, _⟩ := tabs_in hus
    refine wpAny_execs_nil (pM_ret B F2 X T fun tk' => hret h tk' m1 _ t2' t1' F2 N2 (.tail _ (List.mem_append_left _ h2')) (.tail _ (List.mem_append_left _ h1')))
end
end
end
end
end Mine
end
theorem Mine.reset_PL0 : True := by
  w_top off
  k_with_none
  first | walk1 | trivial
section
open PySem PySem.W PyProof.Rows PySem.Calls
set_option Elab.async false
set_option maxRecDepth 100000
set_option maxHeartbeats 4000000
set_option linter.unusedVariables false
namespace Mine
/-- a name of labels -/
noncomputable def labS (ls : List Int) (e : Str) : Str := Txt.join (Str.ofString ".") (ls.map chrS) ++ e
/-- the zones of a host whose labels are ls -/
noncomputable def zoneS (ls : List Int) : Nat → Nat → Str
  | 0, k => if k = 0 then labS ls (endS 0) else if k ≤ 7 then Str.ofString "." ++ labS (ls.drop k) (endS 0) else if k = 8 then Str.ofString ".local" else Str.ofString "local"
  | 1, k => if k = 0 then labS ls (endS 1) else if k ≤ 7 then Str.ofString "." ++ labS (ls.drop k) (endS 1) else labS (ls.drop 7) (endS 1)
  | j, _ => labS ls (endS j)
/-- eight signs -/
noncomputable def Signs (g : List Int) : Prop := g.length = 8 ∧ ∀ x ∈ g, x = 101 ∨ x = 111
/-- two words agree on the first k signs and no more -/
noncomputable def Agree (g g0 : List Int) (k : Nat) : Prop := (∀ i, i < k → g.getD i 0 = g0.getD i 0) ∧ (k < 8 → g.getD k 0 ≠ g0.getD k 0)
theorem word_signs {u l a b : Int} : Signs (wordZ (walkW u l a b 8)) := by
  refine ⟨by unfold wordZ walkW; simp, fun x hx => ?_⟩
  unfold wordZ at hx
  obtain ⟨y, _, rfl⟩ := List.mem_map.mp hx
  unfold signOf
  split
  · exact .inr rfl
  · exact .inl rfl
noncomputable def figU (n : Int) (kd : Nat) : Int := fracU (fA n) (fB n) (fF n) (f0 n) (f1 n) (enOf kd)
noncomputable def figD (n : Int) (kd : Nat) : Int := fracL (fA n) (f1 n) (enOf kd)
noncomputable def figM (n : Int) (k : Nat) : List Int := marksL (fF n) (f0 n) (f1 n) k
noncomputable def figR (n : Int) (kd : Nat) : List Int := walkW (figU n kd) (figD n kd) (fA n) (fB n) 8
/-- the ruler's marks end so -/
noncomputable def EndsAt (n : Int) (kd k : Nat) : Prop := markAt (fF n) (f0 n) (f1 n) k ≤ 7 ∧ (((if kd = 0 ∨ kd = 2 then some 2 else none) = some k ∨ 7 < markAt (fF n) (f0 n) (f1 n) (k + 1)) ∧ ∀ j, (if kd = 0 ∨ kd = 2 then some 2 else none) = some j → k ≤ j)
noncomputable def RowLaw : Prop := ∀ (n : Int) (kd k : Nat), 0 ≤ n → fK n = (kd : Int) → EndsAt n kd k → rowZ (figM n k) = wordZ (figR n kd) ∧ (-(2 ^ 16) < figU n kd ∧ figU n kd < 2 ^ 16) ∧ (-(2 ^ 8) < figD n kd ∧ figD n kd < 2 ^ 8)
noncomputable def NumLaw : Prop := ∀ (n : Int) (kd k : Nat), 0 ≤ n → fK n = (kd : Int) → EndsAt n kd k → rowZ (figM n k) = wordZ (figR n kd) → ∀ (y : Int) (sh : Nat), sh ≤ 8 → ((figD n kd * y - figU n kd).fmod 256).fmod (2 ^ sh) = 0 → (∀ j, sh < j → j ≤ 8 → ((figD n kd * y - figU n kd).fmod 256).fmod (2 ^ j) ≠ 0) →
  Agree (wordZ (walkW y 1 (fA n) (fB n) 8)) (wordZ (figR n kd)) sh ∧
  figD n kd * (walkW y 1 (fA n) (fB n) 8).getD sh 0 - (figR n kd).getD sh 0 = fA n ^ ((figM n k).filter (fun x => decide (x < (sh : Int)))).length * ((figD n kd * y - figU n kd).fdiv 256 * 2 ^ (8 - sh) + ((figD n kd * y - figU n kd).fmod 256).fdiv (2 ^ sh))
noncomputable def TurnedLaw : Prop := ∀ (g0 g1 g2 g3 : List Int) (e : Str), Signs g0 → Signs g1 → Signs g2 → Signs g3 →
  hostX (byteArr (swapI (KBw.bInts (byteArr g0 ++ byteArr g1 ++ byteArr g2 ++ byteArr g3)))) 0 8 e = labS g0.reverse e ∧ hostX (byteArr (swapI (KBw.bInts (byteArr g0 ++ byteArr g1 ++ byteArr g2 ++ byteArr g3)))) 8 16 e = labS g1.reverse e ∧
  hostX (byteArr (swapI (KBw.bInts (byteArr g0 ++ byteArr g1 ++ byteArr g2 ++ byteArr g3)))) 16 24 e = labS g2.reverse e ∧ hostX (byteArr (swapI (KBw.bInts (byteArr g0 ++ byteArr g1 ++ byteArr g2 ++ byteArr g3)))) 24 32 e = labS g3.reverse e
noncomputable def ZoneLaw : Prop := ∀ (g : List Int) (j : Nat), Signs g → j < 3 → (∀ k, (zoneS g.reverse j k).length ≤ 100) ∧ zoneS g.reverse j 0 = labS g.reverse (endS j) ∧
  ∀ (w : World) k t, k < 9 → Spec w 57 [.str (Txt.lstripChars (zoneS g.reverse j k) (Str.ofString ".")) t] 6 [] (fun _ => True) (fun v new => ∃ t, v = .str (zoneS g.reverse j (k + 1)) t ∧ new = [])
noncomputable def NeedLaw : Prop := ∀ (w : World) (g g0 : List Int) (j i sh : Nat) (t u : Tok), Signs g → Signs g0 → j < 3 → i < 10 → sh ≤ 8 → Agree g g0 sh →
  Spec w 50 [.str (labS g.reverse (endS j)) t, .str (zoneS g0.reverse j i) u] 6 [] (fun _ => True) (fun v new => v = .bool (decide ((needsZ j).getD i 0 ≤ (sh : Int))) ∧ new = [])
theorem cons_of {n : Nat} {g : List Int} (h : g.length = n + 1) : ∃ a t, g = a :: t ∧ t.length = n := by
  cases g with
  | nil => cases h
  | cons a t => exact ⟨a, t, rfl, Nat.succ.inj h⟩
theorem eight {g : List Int} (h : g.length = 8) : ∃ a b c d e f i j, g = [a, b, c, d, e, f, i, j] := by
  refine fold fun Z hZ => ?_
  obtain ⟨a, t1, e1, h1⟩ := cons_of h
  obtain ⟨b, t2, e2, h2⟩ := cons_of h1
  obtain ⟨c, t3, e3, h3⟩ := cons_of h2
  obtain ⟨d, t4, e4, h4⟩ := cons_of h3
  obtain ⟨e, t5, e5, h5⟩ := cons_of h4
  obtain ⟨f, t6, e6, h6⟩ := cons_of h5
  obtain ⟨i, t7, e7, h7⟩ := cons_of h6
  obtain ⟨j, t8, e8, h8⟩ := cons_of h7
  exact hZ ⟨a, b, c, d, e, f, i, j, by rw [e1, e2, e3, e4, e5, e6, e7, e8, List.eq_nil_of_length_eq_zero h8]⟩
end Mine
end
theorem Mine.reset_PZ : True := by
  w_top off
  k_with_none
  (k_with "OM" => with_reducible first | assumption | decide | (refine Nat.ne_of_lt ?_; k_extra "OP") | (refine o_n ?_; k_extra "OP") | k_extra "OP" | exact o_1 | exact o_2 | exact o_3 | exact o_4 | exact o_5 | exact o_6 | exact o_7 | exact o_8 | exact o_9 | exact o_10 | exact o_11 | exact o_12 | exact o_13 | exact o_14 | exact o_15 | exact o_16 | exact o_17 | exact o_18 | exact o_s1 | exact o_s2 | exact o_s3 | exact o_s4 | exact o_s5 | exact o_s6 | exact o_s7 | exact o_s8 | exact o_s9 | exact o_s10 | exact o_s11 | exact o_s12 | exact o_s13 | exact o_s14 | exact o_s15 | exact o_s16 | exact o_r 1 | exact o_r 2 | exact o_r 3 | exact o_r 4 | exact o_r 5 | exact o_r 6 | exact o_r 7 | exact o_r 8 | exact o_r 9 | exact o_r 10 | exact o_r 11 | exact o_r 12 | exact o_r 13 | exact o_r 14 | exact o_r 15 | exact o_r 16 | exact o_u1 | exact o_u2 | exact o_u3 | exact o_e1 | exact o_e2 | exact o_e3 | exact o_e4 | exact o_m1 | exact o_c1 | exact o_c2 | exact o_c3 | exact o_c4 | exact o_c5 | exact o_n1 | exact o_n2 | exact o_n3 | exact o_n4 | exact o_d1 | fail)
  (k_with "OP" => first | k_extra "OB" | exact o_p1 | exact o_p2 | exact o_p3 | exact o_p4 | (refine o_l 1 ?_; k_extra "OB") | (refine o_l 2 ?_; k_extra "OB") | (refine o_l 3 ?_; k_extra "OB") | (refine o_l 4 ?_; k_extra "OB") | fail)
  (k_with "OB" => first | assumption | (refine o_pk ?_; k_extra "OK") | fail)
  (k_with "OK" => first | exact And.left | exact And.right | (refine o_sk ?_; k_extra "OK") | fail)
  first | walk1 | trivial
section
open PySem PySem.W PyProof.Rows PySem.Calls
set_option Elab.async false
set_option maxRecDepth 100000
set_option maxHeartbeats 8000000
set_option linter.unusedVariables false
namespace Mine
theorem wpN_noE {α : Type} {M : Model} {A : Around} {t : Sem α} {Q : α → Shared → Prop} {E : Value → Shared → Prop} {s : Shared} (h : wpN M A t Q (fun _ _ => False) s) : wpN M A t Q E s := fun Γ p hΓ hn =>
  Sem.wp_mono M Γ _ (fun _ _ _ h' => h') (fun _ _ _ h' => h'.elim) _ _ (h Γ p hΓ hn)
theorem lawBody_is : lawBody = [st 0, st 1, st 2, st 3, st 4, st 5, st 6, st 7, st 8, st 9, st 10, st 11, st 12, st 13, st 14, st 15, st 16, st 17, st 18, st 19, st 20, st 21, st 22, st 23, st 24, st 25, st 26, st 27] := by with_unfolding_all rfl
theorem nz_build {w : World} {host : Str} {th : Tok} {sh : Int} {nv : List Value} {ns : List Int} (hi : IntsAre nv ns) : ∀ (zvs : List (Str × Tok)), zvs.length = ns.length →
    (∀ i z u, zvs[i]? = some (z, u) → Spec w 50 [.str host th, .str z u] 6 [] (fun _ => True) (fun v new => v = .bool (decide (ns.getD i 0 ≤ sh)) ∧ new = [])) → NZ w host th sh nv (zvs.map fun p => .str p.1 p.2) := by
  induction hi with
  | nil =>
    intro zvs hl _
    obtain rfl : zvs = [] := List.eq_nil_of_length_eq_zero hl
    exact .nil
  | cons x tx hr ih =>
    intro zvs hl h
    match zvs, hl with
    | (z, u) :: r, hl => exact .cons (h 0 z u rfl) (ih r (by simpa using hl) fun i z u e => h (i + 1) z u (by simpa using e))
theorem nz_zones {w : World} {host : Str} {th : Tok} {sh : Int} {nv : List Value} {j : Nat} (hj : j < 3) (hi : IntsAre nv (needsZ j)) {zs : Nat → Str} {d0 d1 d2 d3 d4 d5 d6 d7 d8 d9 : Tok}
    (h : ∀ i u, i < 10 → Spec w 50 [.str host th, .str (zs i) u] 6 [] (fun _ => True) (fun v new => v = .bool (decide ((needsZ j).getD i 0 ≤ sh)) ∧ new = [])) :
    NZ w host th sh nv [.str (zs 0) d0, .str (zs 1) d1, .str (zs 2) d2, .str (zs 3) d3, .str (zs 4) d4, .str (zs 5) d5, .str (zs 6) d6, .str (zs 7) d7, .str (zs 8) d8, .str (zs 9) d9] := by
  refine nz_build hi [(zs 0, d0), (zs 1, d1), (zs 2, d2), (zs 3, d3), (zs 4, d4), (zs 5, d5), (zs 6, d6), (zs 7, d7), (zs 8, d8), (zs 9, d9)] ?_ fun i z u e => ?_
  · match j, hj with
    | 0, _ => rfl
    | 1, _ => rfl
    | 2, _ => rfl
  · have hi10 : i < 10 := by
      rcases Nat.lt_or_ge i 10 with g | g
      · exact g
      · rw [List.getElem?_eq_none (by simpa using g)] at e; cases e
    match i, hi10 with
    | 0, _ => (injection Option.some.inj e with e1 e2; subst e1; exact h 0 u (by decide))
    | 1, _ => (injection Option.some.inj e with e1 e2; subst e1; exact h 1 u (by decide))
    | 2, _ => (injection Option.some.inj e with e1 e2; subst e1; exact h 2 u (by decide))
    | 3, _ => (injection Option.some.inj e with e1 e2; subst e1; exact h 3 u (by decide))
    | 4, _ => (injection Option.some.inj e with e1 e2; subst e1; exact h 4 u (by decide))
    | 5, _ => (injection Option.some.inj e with e1 e2; subst e1; exact h 5 u (by decide))
    | 6, _ => (injection Option.some.inj e with e1 e2; subst e1; exact h 6 u (by decide))
    | 7, _ => (injection Option.some.inj e with e1 e2; subst e1; exact h 7 u (by decide))
    | 8, _ => (injection Option.some.inj e with e1 e2; subst e1; exact h 8 u (by decide))
    | 9, _ => (injection Option.some.inj e with e1 e2; subst e1; exact h 9 u (by decide))
theorem lawWalk_of (R : RowLaw) (Nm : NumLaw) (Tn : TurnedLaw) (Zn : ZoneLaw) (Nd : NeedLaw) : LawWalk := by
  intro w p loose mean mg mb h₀ L f cd m s o1 o2 o3 o4 l vs ns Q E B F hm X T hC1 hC2 N h80 d1 d2 d3 d4 hl hi hn hg hret
  rw [lawBody_is]
  show wpN (model PySem.Challenge.rw_zo0033_01.row.prog w) (lawTop L f cd) (execs [st 0, st 1, st 2, st 3, st 4, st 5, st 6, st 7, st 8, st 9, st 10, st 11, st 12, st 13, st 14, st 15, st 16, st 17, st 18, st 19, st 20, st 21, st 22, st 23, st 24, st 25, st 26, st 27] (lawEnv L f cd)) Q E s
  refine wpN_append (a := [st 0, st 1, st 2, st 3, st 4, st 5]) (b := [st 6, st 7, st 8, st 9, st 10, st 11, st 12, st 13, st 14, st 15, st 16, st 17, st 18, st 19, st 20, st 21, st 22, st 23, st 24, st 25, st 26, st 27]) (wpN_of_any (pA B F X T hm N h80 d1 d2 d3 d4 hl hi hn fun hA tkA mA n n1 n2 n3 kd tl S Tl M Z o1' o2' o3' ta tb tf t0 t1 u0 u1 u2 u3 cz FA mF mS mT mZ hkd htl d1' d2' d3' NA lA r0 r1 r2 r3 => ?_))
  dsimp only
  have ha : -3 ≤ fA n ∧ fA n ≤ 5 := by
    unfold fA
    have := Int.fmod_nonneg_of_pos n (show (0 : Int) < 5 by decide)
    have := Int.fmod_lt_of_pos n (show (0 : Int) < 5 by decide)
    omega
  have hb : -5 ≤ fB n ∧ fB n ≤ 5 := by
    unfold fB
    have := Int.fmod_nonneg_of_pos (n.fdiv 5) (show (0 : Int) < 6 by decide)
    have := Int.fmod_lt_of_pos (n.fdiv 5) (show (0 : Int) < 6 by decide)
    omega
  have hf : 0 ≤ fF n ∧ fF n ≤ 2 := by
    unfold fF
    have := Int.fmod_nonneg_of_pos ((n.fdiv 5).fdiv 6) (show (0 : Int) < 3 by decide)
    have := Int.fmod_lt_of_pos ((n.fdiv 5).fdiv 6) (show (0 : Int) < 3 by decide)
    omega
  have h0 : 1 ≤ f0 n ∧ f0 n ≤ 3 := by
    unfold f0
    have := Int.fmod_nonneg_of_pos (((n.fdiv 5).fdiv 6).fdiv 3) (show (0 : Int) < 3 by decide)
    have := Int.fmod_lt_of_pos (((n.fdiv 5).fdiv 6).fdiv 3) (show (0 : Int) < 3 by decide)
    omega
  have h1 : 1 ≤ f1 n ∧ f1 n ≤ 3 := by
    unfold f1
    have := Int.fmod_nonneg_of_pos ((((n.fdiv 5).fdiv 6).fdiv 3).fdiv 3) (show (0 : Int) < 3 by decide)
    have := Int.fmod_lt_of_pos ((((n.fdiv 5).fdiv 6).fdiv 3).fdiv 3) (show (0 : Int) < 3 by decide)
    omega
  refine wpN_append (a := [st 6]) (b := [st 7, st 8, st 9, st 10, st 11, st 12, st 13, st 14, st 15, st 16, st 17, st 18, st 19, st 20, st 21, st 22, st 23, st 24, st 25, st 26, st 27]) (wpN_of_any (pB htl hf h0 h1 hg B FA X T mS mT d3' ⟨lA.1, lA.2.1, lA.2.2.1, lA.2.2.2, h80⟩ NA fun hB tkB mB gs k vsM cM hbare hiM hmk hend hmB FB NB => ?_))
  dsimp only
  obtain ⟨hrow, hU, hD⟩ := R n kd k r0.1 hkd ⟨hmk, hend⟩
  refine wpN_append (a := [st 7, st 8]) (b := [st 9, st 10, st 11, st 12, st 13, st 14, st 15, st 16, st 17, st 18, st 19, st 20, st 21, st 22, st 23, st 24, st 25, st 26, st 27]) (wpN_of_any (pC htl ha hb hf h0 h1 B FB X T ((hmB "first" (by decide)).trans mF) ((hmB "sizes" (by decide)).trans mS) ((hmB "tail" (by decide)).trans mT) d1' d2' NB fun hC tkC mC U D Rr vs8 c8 tu td eU eD hi8 mU mD mR hmC FC NC => ?_))
  dsimp only
  obtain rfl : U = figU n kd := eU
  obtain rfl : D = figD n kd := eD
  refine wpN_append (a := [st 9, st 10]) (b := [st 11, st 12, st 13, st 14, st 15, st 16, st 17, st 18, st 19, st 20, st 21, st 22, st 23, st 24, st 25, st 26, st 27]) (wpN_of_any (pD hrow hiM hi8 B FC X T mR d3' NC fun hD9 tkD mD9 tD mRow hmD FD ND => ?_))
  dsimp only
  refine wpN_append (a := [st 11, st 12, st 13, st 14]) (b := [st 15, st 16, st 17, st 18, st 19, st 20, st 21, st 22, st 23, st 24, st 25, st 26, st 27]) (wpN_of_any (wpAny_noE (pE hU hD r0 r1 r2 r3 B FD X T ((hmD "upper" (by decide)).trans mU) ((hmD "lower" (by decide)).trans mD) ((hmD "seeds" (by decide)).trans ((hmC "seeds" (by decide) (by decide) (by decide)).trans ((hmB "seeds" (by decide)).trans mZ))) ND fun hE tkE mE y1 y2 y3 t1 t2 t3 W cw bY1 bY2 bY3 mN hmE FE NE => ?_)))
  dsimp only
  refine wpN_append (a := [st 15]) (b := [st 16, st 17, st 18, st 19, st 20, st 21, st 22, st 23, st 24, st 25, st 26, st 27]) (wpN_of_any (wpAny_noE (pF ha hb B FE X T mN d1' d2' NE fun hF tkF mF9 V V1 V2 V3 w1 w2 w3 k1 k2 k3 i1 i2 i3 mW hmF FF NF => ?_)))
  dsimp only
  have hr8 : (byteArr (rowZ (figM n k))).size = 8 := by rw [byteArr_size, hrow]; exact word_signs.1
  refine wpN_append (a := [st 16]) (b := [st 17, st 18, st 19, st 20, st 21, st 22, st 23, st 24, st 25, st 26, st 27]) (wpN_of_any (wpAny_noE (pG hr8 i1 i2 i3 B FF X T hC1 hC2 ((hmF "row" (by decide)).trans ((hmE "row" (by decide) (by decide) (by decide) (by decide)).trans mRow)) mW NF fun hG tkG mG tG mRow2 hmG FG NG => ?_)))
  dsimp only
  have g1 : Signs (wordZ (walkW y1 1 (fA n) (fB n) 8)) := word_signs
  have g2 : Signs (wordZ (walkW y2 1 (fA n) (fB n) 8)) := word_signs
  have g3 : Signs (wordZ (walkW y3 1 (fA n) (fB n) 8)) := word_signs
  have g0 : Signs (rowZ (figM n k)) := by rw [hrow]; exact word_signs
  refine wpN_append (a := [st 17]) (b := [st 18, st 19, st 20, st 21, st 22, st 23, st 24, st 25, st 26, st 27]) (wpN_noE (pH ?_ B FG X T mRow2 NG fun hH tkH mH tH mTurned hmH FH NH => ?_))
  · simp only [Array.size_append, byteArr_size]; rw [g1.1, g2.1, g3.1]; exact congrArg (· + 8 + 8 + 8) g0.1
  dsimp only
  refine wpN_append (a := [st 18, st 19, st 20, st 21]) (b := [st 22, st 23, st 24, st 25, st 26, st 27]) (wpN_of_any (wpAny_noE (pI r0 r1 r2 r3 B FH X T mTurned ((hmH "seeds" (by decide)).trans ((hmG "seeds" (by decide) (by decide)).trans ((hmF "seeds" (by decide)).trans ((hmE "seeds" (by decide) (by decide) (by decide) (by decide)).trans ((hmD "seeds" (by decide)).trans ((hmC "seeds" (by decide) (by decide) (by decide)).trans ((hmB "seeds" (by decide)).trans mZ))))))) NH fun hI tkI mI j G nv cn te hj mEnd mNeeds hmI FI NI hnv => ?_)))
  dsimp only
  refine wpN_append (a := [st 22, st 23]) (b := [st 24, st 25, st 26, st 27]) (wpN_of_any (wpAny_noE (pJ ?_ ?_ B FI X T ((hmI "turned" (by decide) (by decide) (by decide)).trans mTurned) mEnd NI fun hJ tkJ mJ H ch b1 b2 b3 b4 mHosts hmJ FJ NJ => ?_)))
  · rw [byteArr_size]; unfold swapI; simp
  · match j, hj with
    | 0, _ => decide
    | 1, _ => decide
    | 2, _ => decide
  dsimp only
  obtain ⟨e0, e1, e2, e3⟩ := Tn _ _ _ _ (endS j) g0 g1 g2 g3
  obtain ⟨zl, z0, zn⟩ := Zn _ j g0 hj
  have NJ' := NJ
  rw [e0, e1, e2, e3, ← z0] at NJ'
  refine wpN_append (a := [st 24, st 25]) (b := [st 26, st 27]) (wpN_of_any (wpAny_noE (pK (zs := zoneS (rowZ (figM n k)).reverse j) zl (zn w) B FJ X T mHosts NJ' fun hK tkK mK Y cy c0z c1z c2z c3z c4z c5z c6z c7z c8z c9z mZones hmK FK NK => ?_)))
  dsimp only
  have wl : ∀ {u l a b : Int}, (walkW u l a b 8).length = 9 := fun {u l a b} => by unfold walkW; simp
  have ml : (figM n k).length ≤ 8 := by
    show (marksL _ _ _ _).length ≤ 8
    rw [marksL_len]
    have := (marksL_range hf.1 h0 h1 hmk).1
    omega
  have ok : ∀ (y : Int) (t : Tok), TurnOk w (figU n kd) (figD n kd) (fA n) (figM n k) (figR n kd) y (walkW y 1 (fA n) (fB n) 8) (labS (wordZ (walkW y 1 (fA n) (fB n) 8)).reverse (endS j)) t nv [.str (zoneS (rowZ (figM n k)).reverse j 0) c0z, .str (zoneS (rowZ (figM n k)).reverse j 1) c1z, .str (zoneS (rowZ (figM n k)).reverse j 2) c2z, .str (zoneS (rowZ (figM n k)).reverse j 3) c3z, .str (zoneS (rowZ (figM n k)).reverse j 4) c4z, .str (zoneS (rowZ (figM n k)).reverse j 5) c5z, .str (zoneS (rowZ (figM n k)).reverse j 6) c6z, .str (zoneS (rowZ (figM n k)).reverse j 7) c7z, .str (zoneS (rowZ (figM n k)).reverse j 8) c8z, .str (zoneS (rowZ (figM n k)).reverse j 9) c9z] := by
    intro y t sh hsh hz hnz
    obtain ⟨hag, heq⟩ := Nm n kd k r0.1 hkd ⟨hmk, hend⟩ hrow y sh hsh hz hnz
    refine ⟨nz_zones hj hnv fun i u hi10 => ?_, heq⟩
    exact Nd w _ _ j i sh t u word_signs g0 hj hi10 hsh (by rw [hrow]; exact hag)
  refine wpN_of_any (wpAny_noE (pN ha hD hU h80 hiM ml hi8 wl bY1 i1 wl (ok y1 _) bY2 i2 wl (ok y2 _) bY3 i3 wl (ok y3 _) B FK X T hC1 hC2 ((hmK "upper" (by decide) (by decide)).trans ((hmJ "upper" (by decide) (by decide)).trans ((hmI "upper" (by decide) (by decide) (by decide)).trans ((hmH "upper" (by decide)).trans ((hmG "upper" (by decide) (by decide)).trans ((hmF "upper" (by decide)).trans ((hmE "upper" (by decide) (by decide) (by decide) (by decide)).trans ((hmD "upper" (by decide)).trans mU)))))))) ((hmK "lower" (by decide) (by decide)).trans ((hmJ "lower" (by decide) (by decide)).trans ((hmI "lower" (by decide) (by decide) (by decide)).trans ((hmH "lower" (by decide)).trans ((hmG "lower" (by decide) (by decide)).trans ((hmF "lower" (by decide)).trans ((hmE "lower" (by decide) (by decide) (by decide) (by decide)).trans ((hmD "lower" (by decide)).trans mD)))))))) ((hmK "ruler" (by decide) (by decide)).trans ((hmJ "ruler" (by decide) (by decide)).trans ((hmI "ruler" (by decide) (by decide) (by decide)).trans ((hmH "ruler" (by decide)).trans ((hmG "ruler" (by decide) (by decide)).trans ((hmF "ruler" (by decide)).trans ((hmE "ruler" (by decide) (by decide) (by decide) (by decide)).trans ((hmD "ruler" (by decide)).trans mR)))))))) ((hmK "needs" (by decide) (by decide)).trans ((hmJ "needs" (by decide) (by decide)).trans mNeeds)) mZones ((hmK "numbers" (by decide) (by decide)).trans ((hmJ "numbers" (by decide) (by decide)).trans ((hmI "numbers" (by decide) (by decide) (by decide)).trans ((hmH "numbers" (by decide)).trans ((hmG "numbers" (by decide) (by decide)).trans ((hmF "numbers" (by decide)).trans mN)))))) ((hmK "walks" (by decide) (by decide)).trans ((hmJ "walks" (by decide) (by decide)).trans ((hmI "walks" (by decide) (by decide) (by decide)).trans ((hmH "walks" (by decide)).trans ((hmG "walks" (by decide) (by decide)).trans mW))))) ((hmK "hosts" (by decide) (by decide)).trans mHosts) d1' d2' d3' d4 (n9_mem NK (by kcj_all)) fun h' tk' m' news' p1 p2 F' N' hm1 hm2 => ?_))
  exact hret h' tk' #[gs] m' news' p1 p2 (fun y hy => by simp only [List.mem_toArray, List.mem_cons, List.not_mem_nil, or_false] at hy; rw [hy]; exact hbare) F' N' hm1 hm2
end Mine
end
theorem Mine.reset_R1 : True := by
  w_top off
  k_with_none
  (k_with "OM" => with_reducible first | assumption | decide | (refine Nat.ne_of_lt ?_; k_extra "OP") | (refine o_n ?_; k_extra "OP") | k_extra "OP" | exact o_1 | exact o_2 | exact o_3 | exact o_4 | exact o_5 | exact o_6 | exact o_7 | exact o_8 | exact o_9 | exact o_10 | exact o_11 | exact o_12 | exact o_13 | exact o_14 | exact o_15 | exact o_16 | exact o_17 | exact o_18 | exact o_s1 | exact o_s2 | exact o_s3 | exact o_s4 | exact o_s5 | exact o_s6 | exact o_s7 | exact o_s8 | exact o_s9 | exact o_s10 | exact o_s11 | exact o_s12 | exact o_s13 | exact o_s14 | exact o_s15 | exact o_s16 | exact o_r 1 | exact o_r 2 | exact o_r 3 | exact o_r 4 | exact o_r 5 | exact o_r 6 | exact o_r 7 | exact o_r 8 | exact o_r 9 | exact o_r 10 | exact o_r 11 | exact o_r 12 | exact o_r 13 | exact o_r 14 | exact o_r 15 | exact o_r 16 | exact o_u1 | exact o_u2 | exact o_u3 | exact o_e1 | exact o_e2 | exact o_e3 | exact o_e4 | exact o_m1 | exact o_c1 | exact o_c2 | exact o_c3 | exact o_c4 | exact o_c5 | exact o_n1 | exact o_n2 | exact o_n3 | exact o_n4 | exact o_d1 | fail)
  (k_with "OP" => first | k_extra "OB" | exact o_p1 | exact o_p2 | exact o_p3 | exact o_p4 | (refine o_l 1 ?_; k_extra "OB") | (refine o_l 2 ?_; k_extra "OB") | (refine o_l 3 ?_; k_extra "OB") | (refine o_l 4 ?_; k_extra "OB") | fail)
  (k_with "OB" => first | assumption | (refine o_pk ?_; k_extra "OK") | fail)
  (k_with "OK" => first | exact And.left | exact And.right | (refine o_sk ?_; k_extra "OK") | fail)
  first | walk1 | trivial
section
open PySem PySem.W PyProof.Rows PySem.Calls
set_option Elab.async false
set_option maxRecDepth 100000
set_option maxHeartbeats 4000000
set_option linter.unusedVariables false
namespace Mine
noncomputable def rowOne (a b fi x0 x1 : Int) (kd : Nat) : Bool :=
  decide ((-(2 ^ 16) < fracU a b fi x0 x1 (enOf kd) ∧ fracU a b fi x0 x1 (enOf kd) < 2 ^ 16) ∧ (-(2 ^ 8) < fracL a x1 (enOf kd) ∧ fracL a x1 (enOf kd) < 2 ^ 8)) &&
  (List.range 8).all fun k => !(decide (markAt fi x0 x1 k ≤ 7 ∧ ((kd = 0 ∨ kd = 2) ∧ 2 = k ∨ 7 < markAt fi x0 x1 (k + 1)) ∧ ((kd = 0 ∨ kd = 2) → k ≤ 2))) || decide (rowZ (marksL fi x0 x1 k) = wordZ (walkW (fracU a b fi x0 x1 (enOf kd)) (fracL a x1 (enOf kd)) a b 8))
noncomputable def rowAll (a b : Int) : Bool := [(0 : Int), 1, 2].all fun fi => [(1 : Int), 2, 3].all fun x0 => [(1 : Int), 2, 3].all fun x1 => [0, 1, 2, 3].all fun kd => rowOne a b fi x0 x1 kd
theorem row_a0 : [(-5 : Int), -3, -1, 1, 3, 5].all (fun b => rowAll (-3) b) = true := by decide +kernel
theorem row_a1 : [(-5 : Int), -3, -1, 1, 3, 5].all (fun b => rowAll (-1) b) = true := by decide +kernel
theorem row_a2 : [(-5 : Int), -3, -1, 1, 3, 5].all (fun b => rowAll (1) b) = true := by decide +kernel
theorem row_a3 : [(-5 : Int), -3, -1, 1, 3, 5].all (fun b => rowAll (3) b) = true := by decide +kernel
theorem row_a4 : [(-5 : Int), -3, -1, 1, 3, 5].all (fun b => rowAll (5) b) = true := by decide +kernel
theorem row_pair {a b : Int} (ha : a = -3 ∨ a = -1 ∨ a = 1 ∨ a = 3 ∨ a = 5) (hb : b ∈ [(-5 : Int), -3, -1, 1, 3, 5]) : rowAll a b = true := by
  rcases ha with rfl | rfl | rfl | rfl | rfl
  · exact List.all_eq_true.mp row_a0 b hb
  · exact List.all_eq_true.mp row_a1 b hb
  · exact List.all_eq_true.mp row_a2 b hb
  · exact List.all_eq_true.mp row_a3 b hb
  · exact List.all_eq_true.mp row_a4 b hb
theorem fin_all {P : Int → Prop} (n : Nat) (h : ∀ k : Nat, k < n → P k) (x : Int) (h0 : 0 ≤ x) (h1 : x < (n : Int)) : P x := by
  obtain ⟨k, rfl⟩ := Int.eq_ofNat_of_zero_le h0
  exact h k (Int.ofNat_lt.mp h1)
theorem in_012 : ∀ x ∈ [(0 : Int), 1, 2], 0 ≤ x := by decide
theorem in_123 : ∀ x ∈ [(1 : Int), 2, 3], 1 ≤ x ∧ x ≤ 3 := by decide
theorem in_4 : ∀ k < 4, k ∈ [0, 1, 2, 3] := by decide
theorem fig_ranges (n : Int) : (fA n = -3 ∨ fA n = -1 ∨ fA n = 1 ∨ fA n = 3 ∨ fA n = 5) ∧ fB n ∈ [(-5 : Int), -3, -1, 1, 3, 5] ∧ fF n ∈ [(0 : Int), 1, 2] ∧ f0 n ∈ [(1 : Int), 2, 3] ∧ f1 n ∈ [(1 : Int), 2, 3] ∧ 0 ≤ fK n ∧ fK n < 4 := by
  have a1 := Int.fmod_nonneg_of_pos n (show (0 : Int) < 5 by decide)
  have a2 := Int.fmod_lt_of_pos n (show (0 : Int) < 5 by decide)
  have b1 := Int.fmod_nonneg_of_pos (n.fdiv 5) (show (0 : Int) < 6 by decide)
  have b2 := Int.fmod_lt_of_pos (n.fdiv 5) (show (0 : Int) < 6 by decide)
  have c1 := Int.fmod_nonneg_of_pos ((n.fdiv 5).fdiv 6) (show (0 : Int) < 3 by decide)
  have c2 := Int.fmod_lt_of_pos ((n.fdiv 5).fdiv 6) (show (0 : Int) < 3 by decide)
  have d1 := Int.fmod_nonneg_of_pos (((n.fdiv 5).fdiv 6).fdiv 3) (show (0 : Int) < 3 by decide)
  have d2 := Int.fmod_lt_of_pos (((n.fdiv 5).fdiv 6).fdiv 3) (show (0 : Int) < 3 by decide)
  have e1 := Int.fmod_nonneg_of_pos ((((n.fdiv 5).fdiv 6).fdiv 3).fdiv 3) (show (0 : Int) < 3 by decide)
  have e2 := Int.fmod_lt_of_pos ((((n.fdiv 5).fdiv 6).fdiv 3).fdiv 3) (show (0 : Int) < 3 by decide)
  have k1 := Int.fmod_nonneg_of_pos (((((n.fdiv 5).fdiv 6).fdiv 3).fdiv 3).fdiv 3) (show (0 : Int) < 4 by decide)
  have k2 := Int.fmod_lt_of_pos (((((n.fdiv 5).fdiv 6).fdiv 3).fdiv 3).fdiv 3) (show (0 : Int) < 4 by decide)
  exact ⟨fin_all (P := fun x => 2 * x - 3 = -3 ∨ 2 * x - 3 = -1 ∨ 2 * x - 3 = 1 ∨ 2 * x - 3 = 3 ∨ 2 * x - 3 = 5) 5 (by decide) _ a1 a2, fin_all (P := fun x => 2 * x - 5 ∈ [(-5 : Int), -3, -1, 1, 3, 5]) 6 (by decide) _ b1 b2,
    fin_all (P := fun x => x ∈ [(0 : Int), 1, 2]) 3 (by decide) _ c1 c2, fin_all (P := fun x => x + 1 ∈ [(1 : Int), 2, 3]) 3 (by decide) _ d1 d2, fin_all (P := fun x => x + 1 ∈ [(1 : Int), 2, 3]) 3 (by decide) _ e1 e2, k1, k2⟩
theorem row_law : RowLaw := by
  intro n kd k hn hkd ⟨hm, he, hle⟩
  obtain ⟨ha, hb, hf, h0, h1, k0, k4⟩ := fig_ranges n
  have hkd4 : kd ∈ [0, 1, 2, 3] := in_4 kd (Int.ofNat_lt.mp (hkd ▸ k4))
  have key := row_pair ha hb
  unfold rowAll at key
  have key := List.all_eq_true.mp key _ hf
  have key := List.all_eq_true.mp key _ h0
  have key := List.all_eq_true.mp key _ h1
  have key := List.all_eq_true.mp key _ hkd4
  unfold rowOne at key
  rw [Bool.and_eq_true] at key
  obtain ⟨q1, q2⟩ := key
  obtain ⟨qU, qD⟩ := of_decide_eq_true q1
  refine ⟨?_, qU, qD⟩
  have hk8 : k < 8 := by
    have e0 : markAt (fF n) (f0 n) (f1 n) 0 = fF n := rfl
    exact Nat.lt_succ_of_le (marksL_range (f := fF n) (x0 := f0 n) (x1 := f1 n) (in_012 _ hf) (in_123 _ h0) (in_123 _ h1) hm).1
  have q3 := List.all_eq_true.mp q2 k (List.mem_range.mpr hk8)
  rw [Bool.or_eq_true] at q3
  rcases q3 with q3 | q3
  · exfalso
    rw [Bool.not_eq_true'] at q3
    refine of_decide_eq_false q3 ⟨hm, ?_, fun h => ?_⟩
    · rcases he with he | he
      · by_cases h : kd = 0 ∨ kd = 2
        · rw [if_pos h] at he
          exact .inl ⟨h, Option.some.inj he⟩
        · rw [if_neg h] at he; cases he
      · exact .inr he
    · exact hle 2 (if_pos h)
  · exact of_decide_eq_true q3
noncomputable def cntOne (fi x0 x1 : Int) : Bool := (List.range 8).all fun k => !(decide (markAt fi x0 x1 k ≤ 7)) || (List.range 9).all fun sh => decide (((marksL fi x0 x1 k).filter (fun x => decide (x < (sh : Int)))).length = ((rowZ (marksL fi x0 x1 k)).take sh).count 111)
theorem cnt_all : ([(0 : Int), 1, 2].all fun fi => [(1 : Int), 2, 3].all fun x0 => [(1 : Int), 2, 3].all fun x1 => cntOne fi x0 x1) = true := by decide +kernel
theorem cnt_law {n : Int} {k sh : Nat} (hm : markAt (fF n) (f0 n) (f1 n) k ≤ 7) (hs : sh ≤ 8) : ((figM n k).filter (fun x => decide (x < (sh : Int)))).length = ((rowZ (figM n k)).take sh).count 111 := by
  obtain ⟨ha, hb, hf, h0, h1, k0, k4⟩ := fig_ranges n
  have key := List.all_eq_true.mp cnt_all _ hf
  have key := List.all_eq_true.mp key _ h0
  have key := List.all_eq_true.mp key _ h1
  have hk8 : k < 8 := by
    exact Nat.lt_succ_of_le (marksL_range (f := fF n) (x0 := f0 n) (x1 := f1 n) (in_012 _ hf) (in_123 _ h0) (in_123 _ h1) hm).1
  unfold cntOne at key
  have q3 := List.all_eq_true.mp key k (List.mem_range.mpr hk8)
  rw [Bool.or_eq_true] at q3
  rcases q3 with q3 | q3
  · rw [Bool.not_eq_true'] at q3
    exact absurd hm (of_decide_eq_false q3)
  · exact of_decide_eq_true (List.all_eq_true.mp q3 sh (List.mem_range.mpr (by omega)))
end Mine
end
theorem Mine.reset_R2 : True := by
  w_top off
  k_with_none
  (k_with "OM" => with_reducible first | assumption | decide | (refine Nat.ne_of_lt ?_; k_extra "OP") | (refine o_n ?_; k_extra "OP") | k_extra "OP" | exact o_1 | exact o_2 | exact o_3 | exact o_4 | exact o_5 | exact o_6 | exact o_7 | exact o_8 | exact o_9 | exact o_10 | exact o_11 | exact o_12 | exact o_13 | exact o_14 | exact o_15 | exact o_16 | exact o_17 | exact o_18 | exact o_s1 | exact o_s2 | exact o_s3 | exact o_s4 | exact o_s5 | exact o_s6 | exact o_s7 | exact o_s8 | exact o_s9 | exact o_s10 | exact o_s11 | exact o_s12 | exact o_s13 | exact o_s14 | exact o_s15 | exact o_s16 | exact o_r 1 | exact o_r 2 | exact o_r 3 | exact o_r 4 | exact o_r 5 | exact o_r 6 | exact o_r 7 | exact o_r 8 | exact o_r 9 | exact o_r 10 | exact o_r 11 | exact o_r 12 | exact o_r 13 | exact o_r 14 | exact o_r 15 | exact o_r 16 | exact o_u1 | exact o_u2 | exact o_u3 | exact o_e1 | exact o_e2 | exact o_e3 | exact o_e4 | exact o_m1 | exact o_c1 | exact o_c2 | exact o_c3 | exact o_c4 | exact o_c5 | exact o_n1 | exact o_n2 | exact o_n3 | exact o_n4 | exact o_d1 | fail)
  (k_with "OP" => first | k_extra "OB" | exact o_p1 | exact o_p2 | exact o_p3 | exact o_p4 | (refine o_l 1 ?_; k_extra "OB") | (refine o_l 2 ?_; k_extra "OB") | (refine o_l 3 ?_; k_extra "OB") | (refine o_l 4 ?_; k_extra "OB") | fail)
  (k_with "OB" => first | assumption | (refine o_pk ?_; k_extra "OK") | fail)
  (k_with "OK" => first | exact And.left | exact And.right | (refine o_sk ?_; k_extra "OK") | fail)
  first | walk1 | trivial
section
open PySem PySem.W PyProof.Rows PySem.Calls
set_option Elab.async false
set_option maxRecDepth 100000
set_option maxHeartbeats 4000000
set_option linter.unusedVariables false
namespace Mine
/-- how many of the first steps are odd -/
noncomputable def oddsN (u l a b : Int) : Nat → Nat
  | 0 => 0
  | i + 1 => oddsN u l a b i + (if iterW u l a b i % 2 = 1 then 1 else 0)
theorem step_even {l a b x : Int} (h : x % 2 = 0) : stepW l a b x = x / 2 := by
  unfold stepW
  rw [Int.fmod_eq_emod_of_nonneg _ (by decide), Int.fdiv_eq_ediv_of_nonneg _ (by decide), if_pos h]
theorem step_odd {l a b x : Int} (h : x % 2 = 1) : stepW l a b x = (a * x + b * l) / 2 := by
  unfold stepW
  rw [Int.fmod_eq_emod_of_nonneg _ (by decide), if_neg (by rw [h]; decide), Int.fdiv_eq_ediv_of_nonneg _ (by decide)]
theorem half {w : Int} (h : w % 2 = 0) : w = 2 * (w / 2) := (Int.mul_ediv_cancel' (Int.dvd_of_emod_eq_zero h)).symm
theorem par {x r z w : Int} (h : x - r = 2 * z) (e : x % 2 = w % 2) : w % 2 = r % 2 := by omega
theorem par_no {p q r s : Int} (c : p - q = r) (hr : r % 2 = 1) (hd : p % 2 = s % 2) (h : s % 2 = q % 2) : False := by omega
theorem sum_even {x y : Int} (hx : x % 2 = 1) (hy : y % 2 = 1) : (x + y) % 2 = 0 := by omega
theorem halve {x r z : Int} (h : 2 * x - 2 * r = 2 * z) : x - r = z := by omega
theorem walk_core {a b D U y : Int} (ha : a % 2 = 1) (hb : b % 2 = 1) (hD : D % 2 = 1) : ∀ (i : Nat) (z : Int), D * y - U = 2 ^ i * z →
    D * iterW y 1 a b i - iterW U D a b i = a ^ oddsN U D a b i * z ∧ ∀ j, j < i → iterW y 1 a b j % 2 = iterW U D a b j % 2 := by
  intro i
  induction i with
  | zero =>
    intro z hz
    refine ⟨?_, fun j hj => absurd hj (Nat.not_lt_zero j)⟩
    show D * y - U = a ^ 0 * z
    rw [Int.pow_zero, Int.one_mul, hz, Int.pow_zero, Int.one_mul]
  | succ i ih =>
    intro z hz
    obtain ⟨h1, h2⟩ := ih (2 * z) (by rw [hz, Int.pow_succ, Int.mul_assoc])
    generalize hw : iterW y 1 a b i = w at h1
    generalize hr : iterW U D a b i = r at h1
    generalize hm : oddsN U D a b i = m at h1
    have h1' : D * w - r = 2 * (a ^ m * z) := by rw [h1, ← Int.mul_assoc, Int.mul_comm (a ^ m) 2, Int.mul_assoc]
    have hpar : w % 2 = r % 2 := by
      have e1 : (D * w) % 2 = w % 2 := by rw [Int.mul_emod, hD, Int.one_mul, Int.emod_emod_of_dvd _ (Int.dvd_refl 2)]
      exact par h1' e1
    have sw : iterW y 1 a b (i + 1) = stepW 1 a b w := by rw [← hw]; rfl
    have sr : iterW U D a b (i + 1) = stepW D a b r := by rw [← hr]; rfl
    have so : oddsN U D a b (i + 1) = m + (if r % 2 = 1 then 1 else 0) := by rw [← hm, ← hr]; rfl
    refine ⟨?_, fun j hj => ?_⟩
    · rw [sw, sr, so]
      rcases Int.emod_two_eq r with e | e
      · rw [step_even (hpar.trans e), step_even e, if_neg (by rw [e]; decide), Nat.add_zero]
        have q1 : w = 2 * (w / 2) := half (hpar.trans e)
        have q2 : r = 2 * (r / 2) := half e
        generalize w / 2 = w' at q1 ⊢
        generalize r / 2 = r' at q2 ⊢
        subst q1 q2
        rw [← Int.mul_assoc, Int.mul_comm D 2, Int.mul_assoc] at h1'
        exact halve h1'
      · rw [step_odd (hpar.trans e), step_odd e, if_pos e, Int.mul_one, Int.pow_succ]
        have p1 : (a * w + b) % 2 = 0 := by
          have : (a * w) % 2 = 1 := by rw [Int.mul_emod, ha, hpar, e]; decide
          exact sum_even this hb
        have p2 : (a * r + b * D) % 2 = 0 := by
          have t1 : (a * r) % 2 = 1 := by rw [Int.mul_emod, ha, e]; decide
          have t2 : (b * D) % 2 = 1 := by rw [Int.mul_emod, hb, hD]; decide
          exact sum_even t1 t2
        have q1 : a * w + b = 2 * ((a * w + b) / 2) := half p1
        have q2 : a * r + b * D = 2 * ((a * r + b * D) / 2) := half p2
        generalize (a * w + b) / 2 = w' at q1 ⊢
        generalize (a * r + b * D) / 2 = r' at q2 ⊢
        have q3 : D * (a * w + b) - (a * r + b * D) = a * (D * w - r) := by
          rw [Int.mul_add, Int.mul_sub, Int.mul_comm b D, ← Int.mul_assoc D a w, Int.mul_comm D a, Int.mul_assoc]
          exact Int.add_sub_add_right ..
        rw [q1, q2, h1'] at q3
        have q4 : D * (2 * w') = 2 * (D * w') := by rw [← Int.mul_assoc, Int.mul_comm D 2, Int.mul_assoc]
        have q5 : a * (2 * (a ^ m * z)) = 2 * (a ^ m * a * z) := by
          rw [← Int.mul_assoc, Int.mul_comm a 2, Int.mul_assoc, ← Int.mul_assoc a, Int.mul_comm a (a ^ m)]
        rw [q4, q5] at q3
        exact halve q3
    · rcases Nat.lt_or_ge j i with g | g
      · exact h2 j g
      · obtain rfl : j = i := Nat.le_antisymm (Nat.le_of_lt_succ hj) g
        rw [hw, hr]; exact hpar
theorem frac_odd {a x1 : Int} (ha : a = -3 ∨ a = -1 ∨ a = 1 ∨ a = 3 ∨ a = 5) (h1 : x1 ∈ [(1 : Int), 2, 3]) (en : Bool) : fracL a x1 en % 2 = 1 := by
  simp only [List.mem_cons, List.not_mem_nil, or_false] at h1
  rcases ha with rfl | rfl | rfl | rfl | rfl <;> rcases h1 with rfl | rfl | rfl <;> cases en <;> decide
theorem sign_eq {x : Int} : signOf x = if x % 2 = 1 then 111 else 101 := by
  unfold signOf
  rw [Int.fmod_eq_emod_of_nonneg _ (by decide)]
theorem word_at {u l a b : Int} {i : Nat} (h : i < 8) : (wordZ (walkW u l a b 8))[i]? = some (signOf (iterW u l a b i)) := by
  unfold wordZ walkW
  rw [List.getElem?_map, List.getElem?_take_of_lt h, List.getElem?_map, List.getElem?_range (Nat.lt_succ_of_lt h)]
  rfl
theorem word_getD {u l a b : Int} {i : Nat} (h : i < 8) : (wordZ (walkW u l a b 8)).getD i 0 = signOf (iterW u l a b i) := by
  rw [List.getD_eq_getElem?_getD, word_at h]; rfl
theorem walk_getD {u l a b : Int} {i : Nat} (h : i ≤ 8) : (walkW u l a b 8).getD i 0 = iterW u l a b i := by
  unfold walkW
  rw [List.getD_eq_getElem?_getD, List.getElem?_map, List.getElem?_range (Nat.lt_succ_of_le h)]; rfl
theorem odds_count {u l a b : Int} : ∀ (sh : Nat), sh ≤ 8 → ((wordZ (walkW u l a b 8)).take sh).count 111 = oddsN u l a b sh
  | 0, _ => rfl
  | sh + 1, h => by
    rw [List.take_add_one, word_at h, List.count_append, odds_count sh (Nat.le_of_succ_le h)]
    show _ + List.count 111 [signOf _] = oddsN u l a b sh + _
    rw [sign_eq]
    by_cases e : iterW u l a b sh % 2 = 1
    · rw [if_pos e, if_pos e]; rfl
    · rw [if_neg e, if_neg e]; rfl
theorem pow_odd {a : Int} (ha : a % 2 = 1) : ∀ m : Nat, a ^ m % 2 = 1
  | 0 => by rw [Int.pow_zero]; rfl
  | m + 1 => by rw [Int.pow_succ, Int.mul_emod, pow_odd ha m, ha]; rfl
theorem num_law : NumLaw := by
  intro n kd k hn hkd hE hrow y sh hsh hz hnz
  obtain ⟨ha, hb, hf, h0, h1, k0, k4⟩ := fig_ranges n
  have oa : fA n % 2 = 1 := by rcases ha with e | e | e | e | e <;> (rw [e]; decide)
  have ob : fB n % 2 = 1 := by
    simp only [List.mem_cons, List.not_mem_nil, or_false] at hb
    rcases hb with e | e | e | e | e | e <;> (rw [e]; decide)
  have oD : figD n kd % 2 = 1 := frac_odd ha h1 _
  have eR : figR n kd = walkW (figU n kd) (figD n kd) (fA n) (fB n) 8 := rfl
  rw [cnt_law hE.1 hsh, hrow, eR, odds_count sh hsh, walk_getD hsh, walk_getD hsh]
  generalize figD n kd = D at *
  generalize figU n kd = U at *
  generalize fA n = a at *
  generalize fB n = b at *
  have dv : ∀ j, j ≤ 8 → (2 : Int) ^ j ∣ 256 := fun j hj => ⟨2 ^ (8 - j), by rw [← Int.pow_add, Nat.add_sub_of_le hj]; rfl⟩
  have pp : ∀ j : Nat, (0 : Int) < 2 ^ j := fun j => Int.pow_pos (by decide)
  have em : ∀ j, j ≤ 8 → ((D * y - U).fmod 256).fmod (2 ^ j) = (D * y - U) % 2 ^ j := fun j hj => by
    rw [Int.fmod_eq_emod_of_nonneg _ (Int.le_of_lt (pp j)), Int.fmod_eq_emod_of_nonneg _ (by decide), Int.emod_emod_of_dvd _ (dv j hj)]
  have eZ : D * y - U = 2 ^ sh * ((D * y - U).fdiv 256 * 2 ^ (8 - sh) + ((D * y - U).fmod 256).fdiv (2 ^ sh)) := by
    have q1 := Int.mul_fdiv_add_fmod (D * y - U) 256
    have q2 := Int.mul_fdiv_add_fmod ((D * y - U).fmod 256) (2 ^ sh)
    rw [hz, Int.add_zero] at q2
    rw [Int.mul_add, q2]
    have q3 : (2 : Int) ^ sh * ((D * y - U).fdiv 256 * 2 ^ (8 - sh)) = 256 * (D * y - U).fdiv 256 := by
      rw [Int.mul_comm ((D * y - U).fdiv 256), ← Int.mul_assoc, ← Int.pow_add, Nat.add_sub_of_le hsh]; rfl
    rw [q3]; exact q1.symm
  generalize (D * y - U).fdiv 256 * 2 ^ (8 - sh) + ((D * y - U).fmod 256).fdiv (2 ^ sh) = z at eZ ⊢
  obtain ⟨c1, c2⟩ := walk_core oa ob oD sh z eZ
  refine ⟨⟨fun i hi => ?_, fun h8 => ?_⟩, c1⟩
  · rw [word_getD (Nat.lt_of_lt_of_le hi hsh), word_getD (Nat.lt_of_lt_of_le hi hsh), sign_eq, sign_eq, c2 i hi]
  · rw [word_getD h8, word_getD h8, sign_eq, sign_eq]
    have hodd : z % 2 = 1 := by
      rcases Int.emod_two_eq z with e | e
      · exfalso
        refine hnz (sh + 1) (Nat.lt_succ_self _) h8 ?_
        rw [em _ h8, eZ, half e, ← Int.mul_assoc, ← Int.pow_succ]
        exact Int.mul_emod_right _ _
      · exact e
    have hp : (a ^ oddsN U D a b sh * z) % 2 = 1 := by rw [Int.mul_emod, pow_odd oa, hodd]; decide
    have hd : (D * iterW y 1 a b sh) % 2 = iterW y 1 a b sh % 2 := by rw [Int.mul_emod, oD, Int.one_mul, Int.emod_emod_of_dvd _ (Int.dvd_refl 2)]
    rcases Int.emod_two_eq (iterW y 1 a b sh) with e | e <;> rcases Int.emod_two_eq (iterW U D a b sh) with e' | e' <;> first | exact (par_no c1 hp hd (e.trans e'.symm)).elim | (rw [e, e']; decide)
end Mine
end
theorem Mine.reset_R3 : True := by
  w_top off
  k_with_none
  (k_with "OM" => with_reducible first | assumption | decide | (refine Nat.ne_of_lt ?_; k_extra "OP") | (refine o_n ?_; k_extra "OP") | k_extra "OP" | exact o_1 | exact o_2 | exact o_3 | exact o_4 | exact o_5 | exact o_6 | exact o_7 | exact o_8 | exact o_9 | exact o_10 | exact o_11 | exact o_12 | exact o_13 | exact o_14 | exact o_15 | exact o_16 | exact o_17 | exact o_18 | exact o_s1 | exact o_s2 | exact o_s3 | exact o_s4 | exact o_s5 | exact o_s6 | exact o_s7 | exact o_s8 | exact o_s9 | exact o_s10 | exact o_s11 | exact o_s12 | exact o_s13 | exact o_s14 | exact o_s15 | exact o_s16 | exact o_r 1 | exact o_r 2 | exact o_r 3 | exact o_r 4 | exact o_r 5 | exact o_r 6 | exact o_r 7 | exact o_r 8 | exact o_r 9 | exact o_r 10 | exact o_r 11 | exact o_r 12 | exact o_r 13 | exact o_r 14 | exact o_r 15 | exact o_r 16 | exact o_u1 | exact o_u2 | exact o_u3 | exact o_e1 | exact o_e2 | exact o_e3 | exact o_e4 | exact o_m1 | exact o_c1 | exact o_c2 | exact o_c3 | exact o_c4 | exact o_c5 | exact o_n1 | exact o_n2 | exact o_n3 | exact o_n4 | exact o_d1 | fail)
  (k_with "OP" => first | k_extra "OB" | exact o_p1 | exact o_p2 | exact o_p3 | exact o_p4 | (refine o_l 1 ?_; k_extra "OB") | (refine o_l 2 ?_; k_extra "OB") | (refine o_l 3 ?_; k_extra "OB") | (refine o_l 4 ?_; k_extra "OB") | fail)
  (k_with "OB" => first | assumption | (refine o_pk ?_; k_extra "OK") | fail)
  (k_with "OK" => first | exact And.left | exact And.right | (refine o_sk ?_; k_extra "OK") | fail)
  first | walk1 | trivial
section
open PySem PySem.W PyProof.Rows PySem.Calls
set_option Elab.async false
set_option maxRecDepth 100000
set_option maxHeartbeats 4000000
set_option linter.unusedVariables false
namespace Mine
theorem bytes_back : ∀ {l : List Int}, (∀ x ∈ l, x = 101 ∨ x = 111) → KBw.bInts (byteArr l) = l
  | [], _ => rfl
  | x :: r, h => by
    have e := bytes_back (l := r) fun y hy => h y (.tail _ hy)
    unfold KBw.bInts byteArr at e ⊢
    rw [List.map_cons]
    simp only [List.toList_toArray, List.map_cons] at e ⊢
    rw [e]
    rcases h x (.head _) with rfl | rfl <;> rfl
theorem byteArr_append (a b : List Int) : byteArr a ++ byteArr b = byteArr (a ++ b) := by
  unfold byteArr
  rw [List.map_append]
  simp
theorem picked_all {a0 a1 a2 a3 a4 a5 a6 a7 b0 b1 b2 b3 b4 b5 b6 b7 c0 c1 c2 c3 c4 c5 c6 c7 d0 d1 d2 d3 d4 d5 d6 d7 : UInt8} :
    KBy.picked #[a0, a1, a2, a3, a4, a5, a6, a7, b0, b1, b2, b3, b4, b5, b6, b7, c0, c1, c2, c3, c4, c5, c6, c7, d0, d1, d2, d3, d4, d5, d6, d7] (some 0) (some 8) = #[a0, a1, a2, a3, a4, a5, a6, a7] ∧
    KBy.picked #[a0, a1, a2, a3, a4, a5, a6, a7, b0, b1, b2, b3, b4, b5, b6, b7, c0, c1, c2, c3, c4, c5, c6, c7, d0, d1, d2, d3, d4, d5, d6, d7] (some 8) (some 16) = #[b0, b1, b2, b3, b4, b5, b6, b7] ∧
    KBy.picked #[a0, a1, a2, a3, a4, a5, a6, a7, b0, b1, b2, b3, b4, b5, b6, b7, c0, c1, c2, c3, c4, c5, c6, c7, d0, d1, d2, d3, d4, d5, d6, d7] (some 16) (some 24) = #[c0, c1, c2, c3, c4, c5, c6, c7] ∧
    KBy.picked #[a0, a1, a2, a3, a4, a5, a6, a7, b0, b1, b2, b3, b4, b5, b6, b7, c0, c1, c2, c3, c4, c5, c6, c7, d0, d1, d2, d3, d4, d5, d6, d7] (some 24) (some 32) = #[d0, d1, d2, d3, d4, d5, d6, d7] := by
  refine ⟨?_, ?_, ?_, ?_⟩ <;> with_unfolding_all rfl
theorem turned_law : TurnedLaw := by
  intro g0 g1 g2 g3 e s0 s1 s2 s3
  rw [byteArr_append, byteArr_append, byteArr_append, bytes_back (by
    intro x hx
    simp only [List.mem_append] at hx
    rcases hx with ((hx | hx) | hx) | hx
    · exact s0.2 x hx
    · exact s1.2 x hx
    · exact s2.2 x hx
    · exact s3.2 x hx)]
  have r0 := bytes_back (l := g0.reverse) fun x hx => s0.2 x (List.mem_reverse.mp hx)
  have r1 := bytes_back (l := g1.reverse) fun x hx => s1.2 x (List.mem_reverse.mp hx)
  have r2 := bytes_back (l := g2.reverse) fun x hx => s2.2 x (List.mem_reverse.mp hx)
  have r3 := bytes_back (l := g3.reverse) fun x hx => s3.2 x (List.mem_reverse.mp hx)
  refine fold fun Z hZ => ?_
  obtain ⟨a0, a1, a2, a3, a4, a5, a6, a7, x0⟩ := eight s0.1
  obtain ⟨b0, b1, b2, b3, b4, b5, b6, b7, x1⟩ := eight s1.1
  obtain ⟨c0, c1, c2, c3, c4, c5, c6, c7, x2⟩ := eight s2.1
  obtain ⟨d0, d1, d2, d3, d4, d5, d6, d7, x3⟩ := eight s3.1
  refine hZ ?_
  clear hZ Z
  subst x0 x1 x2 x3
  have eS : swapI ([a0, a1, a2, a3, a4, a5, a6, a7] ++ [b0, b1, b2, b3, b4, b5, b6, b7] ++ [c0, c1, c2, c3, c4, c5, c6, c7] ++ [d0, d1, d2, d3, d4, d5, d6, d7]) =
      [a7, a6, a5, a4, a3, a2, a1, a0, b7, b6, b5, b4, b3, b2, b1, b0, c7, c6, c5, c4, c3, c2, c1, c0, d7, d6, d5, d4, d3, d2, d1, d0] := rfl
  rw [eS]
  unfold hostX labS
  refine ⟨?_, ?_, ?_, ?_⟩
  · exact congrArg (fun l : List Int => Txt.join (Str.ofString ".") (l.map chrS) ++ e) ((congrArg KBw.bInts picked_all.1).trans r0)
  · exact congrArg (fun l : List Int => Txt.join (Str.ofString ".") (l.map chrS) ++ e) ((congrArg KBw.bInts picked_all.2.1).trans r1)
  · exact congrArg (fun l : List Int => Txt.join (Str.ofString ".") (l.map chrS) ++ e) ((congrArg KBw.bInts picked_all.2.2.1).trans r2)
  · exact congrArg (fun l : List Int => Txt.join (Str.ofString ".") (l.map chrS) ++ e) ((congrArg KBw.bInts picked_all.2.2.2).trans r3)
end Mine
end
theorem Mine.reset_R4 : True := by
  w_top off
  k_with_none
  (k_with "OM" => with_reducible first | assumption | decide | (refine Nat.ne_of_lt ?_; k_extra "OP") | (refine o_n ?_; k_extra "OP") | k_extra "OP" | exact o_1 | exact o_2 | exact o_3 | exact o_4 | exact o_5 | exact o_6 | exact o_7 | exact o_8 | exact o_9 | exact o_10 | exact o_11 | exact o_12 | exact o_13 | exact o_14 | exact o_15 | exact o_16 | exact o_17 | exact o_18 | exact o_s1 | exact o_s2 | exact o_s3 | exact o_s4 | exact o_s5 | exact o_s6 | exact o_s7 | exact o_s8 | exact o_s9 | exact o_s10 | exact o_s11 | exact o_s12 | exact o_s13 | exact o_s14 | exact o_s15 | exact o_s16 | exact o_r 1 | exact o_r 2 | exact o_r 3 | exact o_r 4 | exact o_r 5 | exact o_r 6 | exact o_r 7 | exact o_r 8 | exact o_r 9 | exact o_r 10 | exact o_r 11 | exact o_r 12 | exact o_r 13 | exact o_r 14 | exact o_r 15 | exact o_r 16 | exact o_u1 | exact o_u2 | exact o_u3 | exact o_e1 | exact o_e2 | exact o_e3 | exact o_e4 | exact o_m1 | exact o_c1 | exact o_c2 | exact o_c3 | exact o_c4 | exact o_c5 | exact o_n1 | exact o_n2 | exact o_n3 | exact o_n4 | exact o_d1 | fail)
  (k_with "OP" => first | k_extra "OB" | exact o_p1 | exact o_p2 | exact o_p3 | exact o_p4 | (refine o_l 1 ?_; k_extra "OB") | (refine o_l 2 ?_; k_extra "OB") | (refine o_l 3 ?_; k_extra "OB") | (refine o_l 4 ?_; k_extra "OB") | fail)
  (k_with "OB" => first | assumption | (refine o_pk ?_; k_extra "OK") | fail)
  (k_with "OK" => first | exact And.left | exact And.right | (refine o_sk ?_; k_extra "OK") | fail)
  first | walk1 | trivial
section
open PySem PySem.W PyProof.Rows PySem.Calls
set_option Elab.async false
set_option maxRecDepth 100000
set_option maxHeartbeats 4000000
set_option linter.unusedVariables false
namespace Mine
namespace Tx
open Builtin Builtin.Str
/-- a text of its signs -/
noncomputable def mk (l : List Nat) : PySem.Str := ⟨l.toArray⟩
theorem mk_len (l : List Nat) : (mk l).length = l.length := by show l.toArray.size = _; simp
theorem mk_app (a b : List Nat) : mk a ++ mk b = mk (a ++ b) := by
  show PySem.Str.mk (a.toArray ++ b.toArray) = PySem.Str.mk (a ++ b).toArray
  simp
theorem mk_inj {a b : List Nat} (h : mk a = mk b) : a = b := by
  have := congrArg (fun x : PySem.Str => x.cps.toList) h
  simpa [mk] using this
theorem mk_beq {a b : List Nat} : (mk a == mk b) = decide (a = b) := by
  by_cases h : a = b
  · subst h; simp
  · rw [decide_eq_false h]
    exact beq_eq_false_iff_ne.mpr fun e => h (mk_inj e)
theorem dot_is : Str.ofString "." = mk [46] := by decide +kernel
theorem subAt_is (x y : List Nat) (i : Nat) : subAt (mk x) (mk y) i = decide ((x.drop i).take y.length = y) := by
  unfold subAt
  have e : ((mk x).cps.extract i (i + (mk y).length) == (mk y).cps) = decide ((mk x).cps.extract i (i + (mk y).length) = (mk y).cps) := by
    by_cases h : (mk x).cps.extract i (i + (mk y).length) = (mk y).cps
    · rw [h, decide_eq_true rfl, beq_self_eq_true]
    · rw [decide_eq_false h]; exact beq_eq_false_iff_ne.mpr h
  rw [e]
  have e2 : (mk x).cps.extract i (i + (mk y).length) = (mk y).cps ↔ (x.drop i).take y.length = y := by
    rw [← Array.toList_inj, Array.toList_extract, mk_len]
    show List.extract x i (i + y.length) = y ↔ _
    rw [List.extract_eq_drop_take, Nat.add_sub_cancel_left]
  exact decide_eq_decide.mpr e2
theorem still_mk {l : List Nat} (h : ∀ c ∈ l, 33 ≤ c ∧ c < 127 ∧ (c < 65 ∨ 90 < c)) : Txt.lower (mk l) = mk l := KXs.lower_still (fun c hc => h c (by simpa [mk] using hc))
/-- the last place where it lies -/
noncomputable def rf (p : Nat → Bool) : List Nat → Option Nat → Option Nat
  | [], o => o
  | i :: r, o => rf p r (if p i = true then some i else o)
theorem rf_no {p : Nat → Bool} : ∀ {l : List Nat} {o : Option Nat}, (∀ i ∈ l, p i = false) → rf p l o = o
  | [], _, _ => rfl
  | i :: r, o, h => by
    show rf p r (if p i = true then some i else o) = o
    rw [h i (.head _), if_neg Bool.false_ne_true]
    exact rf_no fun j hj => h j (.tail _ hj)
theorem rf_app {p : Nat → Bool} : ∀ {a b : List Nat} {o : Option Nat}, rf p (a ++ b) o = rf p b (rf p a o)
  | [], _, _ => rfl
  | i :: r, b, o => rf_app (a := r) (b := b)
theorem last_eq (s sub : PySem.Str) (hi : Nat) : lastOccurrence s sub 0 hi = rf (fun i => decide (i + sub.length ≤ hi) && subAt s sub i) (List.range' 0 (hi + 1)) none := by
  have key : ∀ (l : List Nat) (o : Option Nat), (forIn (m := Id) l o (fun i r => if i + sub.length ≤ hi ∧ subAt s sub i = true then pure (ForInStep.yield (some i)) else pure (ForInStep.yield r))).run = rf (fun i => decide (i + sub.length ≤ hi) && subAt s sub i) l o := by
    intro l
    induction l with
    | nil => intro o; rfl
    | cons i r ih =>
      intro o
      rw [List.forIn_cons]
      by_cases h : i + sub.length ≤ hi ∧ subAt s sub i = true
      · rw [if_pos h]
        show _ = rf _ r (if (decide (i + sub.length ≤ hi) && subAt s sub i) = true then some i else o)
        rw [if_pos (by simpa using h)]
        exact ih _
      · rw [if_neg h]
        show _ = rf _ r (if (decide (i + sub.length ≤ hi) && subAt s sub i) = true then some i else o)
        rw [if_neg (by simpa using h)]
        exact ih _
  rw [← key]
  unfold lastOccurrence
  simp
theorem rfind_no {x y : List Nat} (h : ∀ i, (x.drop i).take y.length ≠ y) : Txt.rfind (mk x) (mk y) = -1 := by
  unfold Txt.rfind
  rw [last_eq, rf_no]
  intro i _
  rw [subAt_is, decide_eq_false (h i), Bool.and_false]
theorem rfind_end {a y : List Nat} (ha : a ≠ []) : 0 < Txt.rfind (mk (a ++ y)) (mk y) := by
  unfold Txt.rfind
  rw [last_eq]
  have e : List.range' 0 ((mk (a ++ y)).length + 1) = List.range' 0 a.length ++ (a.length :: List.range' (a.length + 1) y.length) := by
    rw [mk_len, List.length_append, Nat.add_assoc a.length, ← List.range'_append_1, Nat.zero_add]
    rfl
  rw [e, rf_app]
  show 0 < (match rf _ (List.range' (a.length + 1) y.length) (if (decide (a.length + (mk y).length ≤ (mk (a ++ y)).length) && subAt (mk (a ++ y)) (mk y) a.length) = true then some a.length else _) with | some i => (i : Int) | none => -1)
  rw [subAt_is, mk_len, mk_len, List.length_append, List.drop_left, List.take_length, decide_eq_true (Nat.le_refl _), decide_eq_true rfl, Bool.and_self, if_pos rfl, rf_no]
  · show (0 : Int) < (a.length : Int)
    exact Int.ofNat_lt.mpr (List.length_pos_iff.mpr ha)
  · intro i hi
    rw [List.mem_range'_1] at hi
    rw [decide_eq_false (by omega), Bool.false_and]
theorem starts_dot (l : List Nat) : Txt.startswith (mk (46 :: l)) (Str.ofString ".") = true := by
  unfold Txt.startswith
  rw [dot_is, subAt_is, mk_len, mk_len, decide_eq_true (by simp), decide_eq_true (by simp)]; rfl
theorem starts_no {c : Nat} (l : List Nat) (h : c ≠ 46) : Txt.startswith (mk (c :: l)) (Str.ofString ".") = false := by
  unfold Txt.startswith
  rw [dot_is, subAt_is, decide_eq_false (p := _ = _) (by simp [h]), Bool.and_false]
theorem lstrip_is (x : List Nat) : Txt.lstripChars (mk x) (Str.ofString ".") = mk (x.drop ((x.takeWhile (fun c => c == 46)).length)) := by
  unfold Txt.lstripChars
  rw [W.stripBy_eq]
  unfold W.stripped strSub
  rw [dot_is]
  show PySem.Str.mk (x.toArray.extract ((x.toArray.toList.takeWhile _).length) (mk x).length) = PySem.Str.mk _
  congr 1
  rw [← Array.toList_inj, Array.toList_extract, mk_len]
  show List.extract x _ x.length = _
  have e : (fun c => (mk [46]).cps.contains c) = (fun c => c == 46) := by
    funext c
    show (#[46] : Array Nat).contains c = _
    by_cases h : c = 46 <;> simp [h]
  show List.extract x ((x.takeWhile (fun c => (mk [46]).cps.contains c)).length) x.length = _
  rw [e, List.extract_eq_drop_take, List.take_of_length_le (by rw [List.length_drop]; exact Nat.le_refl _)]
theorem lstrip_no {c : Nat} (l : List Nat) (h : c ≠ 46) : Txt.lstripChars (mk (c :: l)) (Str.ofString ".") = mk (c :: l) := by
  rw [lstrip_is, List.takeWhile_cons_of_neg (by simp [h])]; rfl
theorem lstrip_dot {c : Nat} (l : List Nat) (h : c ≠ 46) : Txt.lstripChars (mk (46 :: c :: l)) (Str.ofString ".") = mk (c :: l) := by
  rw [lstrip_is, List.takeWhile_cons_of_pos (by simp), List.takeWhile_cons_of_neg (by simp [h])]; rfl
theorem slice_is (x : List Nat) (i : Nat) (h : i ≤ x.length) : Txt.slice (mk x) (some (i : Int)) none = mk (x.drop i) := by
  have e : strSliceIndices (some (i : Int)) none 1 (mk x).length = List.range' i (x.length - i) := by
    unfold strSliceIndices sliceRange
    rw [mk_len]
    have e0 : ¬ ((i : Int) < 0) := Int.not_lt.mpr (Int.natCast_nonneg i)
    simp only [show (1 : Int) > 0 by decide, if_true, e0, if_false]
    have e1 : max (0 : Int) (min (i : Int) (x.length : Int)) = (i : Int) := by rw [Int.min_eq_left (Int.ofNat_le.mpr h), Int.max_eq_right (Int.natCast_nonneg i)]
    rw [e1]
    have e2 : ((if (i : Int) < (x.length : Int) then ((x.length : Int) - i + 1 - 1) / 1 else 0)).toNat = x.length - i := by
      split
      · rw [Int.add_sub_cancel, Int.ediv_one, ← Int.ofNat_sub h]; rfl
      · rename_i q
        exact (Nat.sub_eq_zero_of_le (Int.ofNat_le.mp (Int.not_lt.mp q))).symm
    rw [e2, List.range'_eq_map_range]
    exact List.map_congr_left fun k _ => by rw [Int.one_mul, ← Int.natCast_add]; rfl
  unfold Txt.slice
  rw [e]
  split
  · rename_i hs
    have hl : x.length - i = x.length := by simpa [mk_len] using hs
    rcases Nat.eq_zero_or_pos i with e0 | e0
    · subst e0; rfl
    · obtain rfl : x = [] := List.length_eq_zero_iff.mp (by omega)
      simp
  · show PySem.Str.mk _ = PySem.Str.mk _
    congr 2
    apply List.ext_getElem?
    intro k
    have e3 : ∀ (n j : Nat), j + n = x.length → (List.range' j n).filterMap (fun c => (mk x).cps[c]?) = x.drop j := by
      intro n
      induction n with
      | zero => intro j hj; rw [List.drop_of_length_le (by omega)]; rfl
      | succ n ih =>
        intro j hj
        rw [List.range'_succ, List.filterMap_cons]
        have hlt : j < x.length := by omega
        have eg : (mk x).cps[j]? = some x[j] := by show x.toArray[j]? = _; simp [hlt]
        rw [eg, List.drop_eq_getElem_cons hlt, ih (j + 1) (by omega)]
    rw [e3 _ i (by omega)]
theorem find_1 {c : Nat} (l : List Nat) (h : c ≠ 46) : Txt.find (mk (c :: 46 :: l)) (Str.ofString ".") = 1 := by
  unfold Txt.find
  rw [dot_is, StrLaws.occ_eq]
  have stay2 : ∀ (x y : PySem.Str) (hi : Nat) (l : List Nat) (k : Nat) (a : Array Nat), a.size = 1 → (forIn (m := Id) l (a, k) (StrLaws.occBody x y hi 1)).run.fst = a := by
    intro x y hi l; induction l with
    | nil => intro k a _; rfl
    | cons i r ih =>
      intro k a ha
      rw [List.forIn_cons]
      unfold StrLaws.occBody
      rw [if_neg (fun q => by have := q.1.1.1; dsimp only at this; omega)]
      exact ih k a ha
  rw [mk_len, show (c :: 46 :: l).length + 1 - 0 = (l.length + 1) + 1 + 1 by simp, List.range'_succ, List.range'_succ, List.forIn_cons]
  have b0 : StrLaws.occBody (mk (c :: 46 :: l)) (mk [46]) (c :: 46 :: l).length 1 0 (#[], 0) = pure (ForInStep.yield (#[], 0)) := by
    unfold StrLaws.occBody
    rw [if_neg]
    rintro ⟨_, q⟩
    rw [subAt_is] at q
    have := of_decide_eq_true q
    simp [h] at this
  have b1 : StrLaws.occBody (mk (c :: 46 :: l)) (mk [46]) (c :: 46 :: l).length 1 (0 + 1) (#[], 0) = pure (ForInStep.yield (#[1], 2)) := by
    unfold StrLaws.occBody
    rw [if_pos]
    · rfl
    · refine ⟨⟨⟨by decide, by decide⟩, by rw [mk_len]; simp⟩, ?_⟩
      rw [subAt_is]
      exact decide_eq_true (by simp)
  rw [b0]
  show (match ((forIn (m := Id) ((0 + 1) :: List.range' (0 + 1 + 1) (l.length + 1)) ((#[] : Array Nat), 0) (StrLaws.occBody (mk (c :: 46 :: l)) (mk [46]) (c :: 46 :: l).length 1)).run.fst).toList with | i :: _ => (i : Int) | [] => -1) = 1
  rw [List.forIn_cons, b1]
  show (match ((forIn (m := Id) (List.range' (0 + 1 + 1) (l.length + 1)) ((#[1] : Array Nat), 2) (StrLaws.occBody (mk (c :: 46 :: l)) (mk [46]) (c :: 46 :: l).length 1)).run.fst).toList with | i :: _ => (i : Int) | [] => -1) = 1
  rw [stay2 _ _ _ _ _ _ rfl]
  rfl
end Tx
end Mine
end
theorem Mine.reset_R5 : True := by
  w_top off
  k_with_none
  (k_with "OM" => with_reducible first | assumption | decide | (refine Nat.ne_of_lt ?_; k_extra "OP") | (refine o_n ?_; k_extra "OP") | k_extra "OP" | exact o_1 | exact o_2 | exact o_3 | exact o_4 | exact o_5 | exact o_6 | exact o_7 | exact o_8 | exact o_9 | exact o_10 | exact o_11 | exact o_12 | exact o_13 | exact o_14 | exact o_15 | exact o_16 | exact o_17 | exact o_18 | exact o_s1 | exact o_s2 | exact o_s3 | exact o_s4 | exact o_s5 | exact o_s6 | exact o_s7 | exact o_s8 | exact o_s9 | exact o_s10 | exact o_s11 | exact o_s12 | exact o_s13 | exact o_s14 | exact o_s15 | exact o_s16 | exact o_r 1 | exact o_r 2 | exact o_r 3 | exact o_r 4 | exact o_r 5 | exact o_r 6 | exact o_r 7 | exact o_r 8 | exact o_r 9 | exact o_r 10 | exact o_r 11 | exact o_r 12 | exact o_r 13 | exact o_r 14 | exact o_r 15 | exact o_r 16 | exact o_u1 | exact o_u2 | exact o_u3 | exact o_e1 | exact o_e2 | exact o_e3 | exact o_e4 | exact o_m1 | exact o_c1 | exact o_c2 | exact o_c3 | exact o_c4 | exact o_c5 | exact o_n1 | exact o_n2 | exact o_n3 | exact o_n4 | exact o_d1 | fail)
  (k_with "OP" => first | k_extra "OB" | exact o_p1 | exact o_p2 | exact o_p3 | exact o_p4 | (refine o_l 1 ?_; k_extra "OB") | (refine o_l 2 ?_; k_extra "OB") | (refine o_l 3 ?_; k_extra "OB") | (refine o_l 4 ?_; k_extra "OB") | fail)
  (k_with "OB" => first | assumption | (refine o_pk ?_; k_extra "OK") | fail)
  (k_with "OK" => first | exact And.left | exact And.right | (refine o_sk ?_; k_extra "OK") | fail)
  first | walk1 | trivial
section
open PySem PySem.W PyProof.Rows PySem.Calls
set_option Elab.async false
set_option maxRecDepth 100000
set_option maxHeartbeats 4000000
set_option linter.unusedVariables false
namespace Mine
open Tx
noncomputable def labL : List Int → List Nat
  | [] => []
  | [c] => [c.toNat]
  | c :: d :: r => c.toNat :: 46 :: labL (d :: r)
theorem chrS_is (c : Int) : chrS c = mk [c.toNat] := rfl
theorem join_is : ∀ ls : List Int, Str.join (mk [46]) (ls.map chrS) = mk (labL ls)
  | [] => rfl
  | [c] => rfl
  | c :: d :: r => by
    show chrS c ++ mk [46] ++ Str.join (mk [46]) ((d :: r).map chrS) = _
    rw [join_is (d :: r), chrS_is, mk_app, mk_app]
    rfl
theorem lab_eq (ls : List Int) (e : List Nat) : labS ls (mk e) = mk (labL ls ++ e) := by
  unfold labS Txt.join
  rw [PySem.StrLaws.glued_eq_join, dot_is, join_is, mk_app]
noncomputable def eL : Nat → List Nat
  | 0 => [46, 108, 111, 99, 97, 108]
  | 1 => [46, 110, 101, 116]
  | _ => [46, 55]
theorem end0 : endS 0 = mk (eL 0) := by decide +kernel
theorem end1 : endS 1 = mk (eL 1) := by decide +kernel
theorem end2 : endS 2 = mk (eL 2) := by decide +kernel
noncomputable def Sg (ls : List Int) : Prop := ∀ x ∈ ls, x = 101 ∨ x = 111
theorem lab_chars : ∀ {ls : List Int}, Sg ls → ∀ c ∈ labL ls, c = 46 ∨ c = 101 ∨ c = 111
  | [], _, c, h => nomatch h
  | [x], hs, c, h => by
    obtain rfl : c = x.toNat := by simpa [labL] using h
    rcases hs x (.head _) with rfl | rfl
    · exact .inr (.inl rfl)
    · exact .inr (.inr rfl)
  | x :: y :: r, hs, c, h => by
    have h' : c = x.toNat ∨ c = 46 ∨ c ∈ labL (y :: r) := by simpa [labL] using h
    rcases h' with rfl | rfl | h'
    · rcases hs x (.head _) with rfl | rfl
      · exact .inr (.inl rfl)
      · exact .inr (.inr rfl)
    · exact .inl rfl
    · exact lab_chars (fun z hz => hs z (.tail _ hz)) c h'
theorem lab_len : ∀ ls : List Int, (labL ls).length ≤ 2 * ls.length
  | [] => Nat.le_refl _
  | [c] => by simp [labL]
  | c :: d :: r => by
    have := lab_len (d :: r)
    simp only [labL, List.length_cons] at this ⊢
    omega
theorem lab_lenq : ∀ {a b : List Int}, a.length = b.length → (labL a).length = (labL b).length
  | [], [], _ => rfl
  | [_], [_], _ => rfl
  | x :: y :: r, z :: u :: q, h => by
    have := lab_lenq (a := y :: r) (b := u :: q) (by simpa using h)
    simp only [labL, List.length_cons] at this ⊢
    omega
theorem lab_inj : ∀ {a b : List Int}, Sg a → Sg b → a.length = b.length → labL a = labL b → a = b
  | [], [], _, _, _, _ => rfl
  | [x], [y], ha, hb, _, e => by
    have e : x.toNat = y.toNat := by simpa [labL] using e
    rcases ha x (.head _) with rfl | rfl <;> rcases hb y (.head _) with rfl | rfl <;> first | rfl | (revert e; decide)
  | x :: y :: r, z :: u :: q, ha, hb, h, e => by
    have e : x.toNat = z.toNat ∧ labL (y :: r) = labL (u :: q) := by simpa [labL] using e
    have e1 : x = z := by
      have e := e.1
      rcases ha x (.head _) with rfl | rfl <;> rcases hb z (.head _) with rfl | rfl <;> first | rfl | (revert e; decide)
    rw [e1, lab_inj (fun z hz => ha z (.tail _ hz)) (fun z hz => hb z (.tail _ hz)) (by simpa using h) e.2]
theorem lab_split : ∀ {a b : List Int}, a ≠ [] → b ≠ [] → labL (a ++ b) = labL a ++ 46 :: labL b
  | [], _, h, _ => absurd rfl h
  | [x], [], _, h => absurd rfl h
  | [x], y :: r, _, _ => rfl
  | x :: y :: r, b, _, hb => by
    show x.toNat :: 46 :: labL (y :: r ++ b) = x.toNat :: 46 :: (labL (y :: r)) ++ 46 :: labL b
    rw [lab_split (by simp) hb]
    rfl
theorem lab_head {c : Int} {r : List Int} : ∃ t, labL (c :: r) = c.toNat :: t := by
  cases r with
  | nil => exact ⟨_, rfl⟩
  | cons d r => exact ⟨_, rfl⟩
theorem sg_ne {c : Int} (h : c = 101 ∨ c = 111) : c.toNat ≠ 46 := by rcases h with rfl | rfl <;> decide
/-- the signs of hosts and zones -/
noncomputable def Okc (c : Nat) : Prop := c = 46 ∨ c = 101 ∨ c = 111 ∨ c = 108 ∨ c = 99 ∨ c = 97 ∨ c = 110 ∨ c = 116 ∨ c = 55
theorem okc_still {l : List Nat} (h : ∀ c ∈ l, Okc c) : Txt.lower (mk l) = mk l := still_mk fun c hc => by rcases h c hc with rfl | rfl | rfl | rfl | rfl | rfl | rfl | rfl | rfl <;> decide
theorem item_0 {c : Nat} {r : List Nat} : Txt.item (mk (c :: r)) 0 = mk [c] := by
  unfold Txt.item Txt.charAt seqIndex?
  rw [mk_len]
  simp [mk]
theorem item_last {d : Nat} {r : List Nat} : Txt.item (mk (r ++ [d])) (-1) = mk [d] := by
  unfold Txt.item Txt.charAt seqIndex?
  rw [mk_len]
  simp only [show ((-1 : Int) < 0) by decide, if_true]
  have e : ((-1 : Int) + ((r ++ [d]).length : Nat)) = (r.length : Int) := by rw [List.length_append, Int.natCast_add, Int.add_comm]; exact Int.add_neg_cancel_right _ 1
  rw [e, if_pos (by simp; omega), Int.toNat_natCast]
  simp [mk]
theorem hostok {c d : Nat} {m : List Nat} (h : ∀ x ∈ c :: m ++ [d], x < 48 ∨ 57 < x) (hc : c ≠ 46) (hd : d ≠ 46) (hl : m.length ≤ 90) : HostOk (mk (c :: m ++ [d])) := by
  have hsz : (mk (c :: m ++ [d])).cps.size = m.length + 2 := by show (c :: m ++ [d]).toArray.size = _; simp
  refine ⟨searches_no _ fun s hs _ hs1 => ?_, by rw [hsz]; omega, by show 1 ≤ (mk _).length; rw [mk_len]; simp, ?_, ?_, ?_⟩
  · have e : (mk (c :: m ++ [d])).cps[s + 1]? = some ((c :: m ++ [d])[s + 1]'(by rw [hsz] at hs1; simp; omega)) := by
      show (c :: m ++ [d]).toArray[s + 1]? = _
      rw [List.getElem?_toArray, List.getElem?_eq_getElem]
    rw [e]
    have := h _ (List.getElem_mem (l := c :: m ++ [d]) (n := s + 1) (by rw [hsz] at hs1; simp; omega))
    show (48 ≤ _ && _ ≤ 57) = false
    rw [Option.getD_some]
    rcases this with q | q
    · rw [decide_eq_false (Nat.not_le.mpr q), Bool.false_and]
    · rw [decide_eq_false (p := _ ≤ 57) (Nat.not_le.mpr q), Bool.and_false]
  · show (mk (c :: m ++ [d]) == mk []) = false
    rw [mk_beq]; exact decide_eq_false (by simp)
  · rw [List.cons_append, item_0, dot_is, mk_beq]; exact decide_eq_false (by simpa using hc)
  · rw [item_last, dot_is, mk_beq]; exact decide_eq_false (by simpa using hd)
theorem hostip {p : List Nat} (h : ∀ x ∈ p, x < 48 ∨ 57 < x) (hl : p.length ≤ 90) : HostIp (mk (p ++ [46, 55])) := by
  have hsz : (mk (p ++ [46, 55])).cps.size = p.length + 2 := by show (p ++ [46, 55]).toArray.size = _; simp
  have hg : ∀ i, (mk (p ++ [46, 55])).cps[i]? = (p ++ [46, 55])[i]? := fun i => List.getElem?_toArray
  refine ⟨searches_yes _ p.length (by rw [hsz]) ?_ ?_ fun s hs _ => ?_, by rw [hsz]; omega⟩
  · rw [hg, List.getElem?_append_right (Nat.le_refl _), Nat.sub_self]; rfl
  · rw [hg, List.getElem?_append_right (Nat.le_succ _), show p.length.succ - p.length = 1 by omega]; decide
  · rw [hg]
    rcases Nat.lt_or_ge (s + 1) p.length with q | q
    · rw [List.getElem?_append_left q, List.getElem?_eq_getElem q, Option.getD_some]
      show (48 ≤ _ && _ ≤ 57) = false
      rcases h _ (List.getElem_mem q) with r | r
      · rw [decide_eq_false (Nat.not_le.mpr r), Bool.false_and]
      · rw [decide_eq_false (p := _ ≤ 57) (Nat.not_le.mpr r), Bool.and_false]
    · obtain e : s + 1 = p.length := Nat.le_antisymm hs q
      rw [e, List.getElem?_append_right (Nat.le_refl _), Nat.sub_self]; decide
end Mine
end
theorem Mine.reset_R6 : True := by
  w_top off
  k_with_none
  (k_with "OM" => with_reducible first | assumption | decide | (refine Nat.ne_of_lt ?_; k_extra "OP") | (refine o_n ?_; k_extra "OP") | k_extra "OP" | exact o_1 | exact o_2 | exact o_3 | exact o_4 | exact o_5 | exact o_6 | exact o_7 | exact o_8 | exact o_9 | exact o_10 | exact o_11 | exact o_12 | exact o_13 | exact o_14 | exact o_15 | exact o_16 | exact o_17 | exact o_18 | exact o_s1 | exact o_s2 | exact o_s3 | exact o_s4 | exact o_s5 | exact o_s6 | exact o_s7 | exact o_s8 | exact o_s9 | exact o_s10 | exact o_s11 | exact o_s12 | exact o_s13 | exact o_s14 | exact o_s15 | exact o_s16 | exact o_r 1 | exact o_r 2 | exact o_r 3 | exact o_r 4 | exact o_r 5 | exact o_r 6 | exact o_r 7 | exact o_r 8 | exact o_r 9 | exact o_r 10 | exact o_r 11 | exact o_r 12 | exact o_r 13 | exact o_r 14 | exact o_r 15 | exact o_r 16 | exact o_u1 | exact o_u2 | exact o_u3 | exact o_e1 | exact o_e2 | exact o_e3 | exact o_e4 | exact o_m1 | exact o_c1 | exact o_c2 | exact o_c3 | exact o_c4 | exact o_c5 | exact o_n1 | exact o_n2 | exact o_n3 | exact o_n4 | exact o_d1 | fail)
  (k_with "OP" => first | k_extra "OB" | exact o_p1 | exact o_p2 | exact o_p3 | exact o_p4 | (refine o_l 1 ?_; k_extra "OB") | (refine o_l 2 ?_; k_extra "OB") | (refine o_l 3 ?_; k_extra "OB") | (refine o_l 4 ?_; k_extra "OB") | fail)
  (k_with "OB" => first | assumption | (refine o_pk ?_; k_extra "OK") | fail)
  (k_with "OK" => first | exact And.left | exact And.right | (refine o_sk ?_; k_extra "OK") | fail)
  first | walk1 | trivial
section
open PySem PySem.W PyProof.Rows PySem.Calls
set_option Elab.async false
set_option maxRecDepth 100000
set_option maxHeartbeats 4000000
set_option linter.unusedVariables false
namespace Mine
open Tx
/-- an end with a name, no number -/
noncomputable def EndOk (e : List Nat) : Prop := ∃ m d, e = 46 :: m ++ [d] ∧ d ≠ 46 ∧ m.length ≤ 10 ∧ ∀ c ∈ e, Okc c ∧ c ≠ 55
theorem endok0 : EndOk (eL 0) := ⟨[108, 111, 99, 97], 108, rfl, by decide, by decide, by unfold eL Okc; decide⟩
theorem endok1 : EndOk (eL 1) := ⟨[110, 101], 116, rfl, by decide, by decide, by unfold eL Okc; decide⟩
theorem okc_num {c : Nat} (h : Okc c) (h7 : c ≠ 55) : c < 48 ∨ 57 < c := by
  rcases h with rfl | rfl | rfl | rfl | rfl | rfl | rfl | rfl | rfl <;> first | decide | exact absurd rfl h7
theorem chars_ok {c : Nat} (h : c = 46 ∨ c = 101 ∨ c = 111) : Okc c ∧ c ≠ 55 := by
  rcases h with rfl | rfl | rfl <;> exact ⟨by unfold Okc; decide, by decide⟩
theorem lab_okc {ls : List Int} {e : List Nat} (hs : Sg ls) (he : ∀ c ∈ e, Okc c) : ∀ c ∈ labL ls ++ e, Okc c := fun c hc => by
  rcases List.mem_append.mp hc with h | h
  · exact (chars_ok (lab_chars hs c h)).1
  · exact he c h
theorem host_ok {ls : List Int} {e : List Nat} (hs : Sg ls) (hl : ls ≠ []) (h8 : ls.length ≤ 8) (he : EndOk e) : HostOk (mk (labL ls ++ e)) := by
  obtain ⟨m, d, rfl, hd, hm, hc⟩ := he
  match ls, hl with
  | c :: r, _ =>
    obtain ⟨t, ht⟩ := lab_head (c := c) (r := r)
    have hln := lab_len (c :: r)
    rw [ht] at hln ⊢
    have e : c.toNat :: t ++ (46 :: m ++ [d]) = c.toNat :: (t ++ 46 :: m) ++ [d] := by simp
    rw [e]
    refine hostok (fun x hx => ?_) (sg_ne (hs c (.head _))) hd ?_
    · rw [← e, ← ht] at hx
      rcases List.mem_append.mp hx with h | h
      · have := chars_ok (lab_chars hs x h); exact okc_num this.1 this.2
      · exact okc_num (hc x h).1 (hc x h).2
    · simp only [List.length_cons, List.length_append] at hln h8 ⊢; omega
theorem local_is : Str.ofString "local" = mk [108, 111, 99, 97, 108] := by decide +kernel
theorem dlocal_is : Str.ofString ".local" = mk [46, 108, 111, 99, 97, 108] := by decide +kernel
theorem local_ok : HostOk (mk [108, 111, 99, 97, 108]) := hostok (c := 108) (m := [111, 99, 97]) (d := 108) (by decide) (by decide) (by decide) (by decide)
theorem host_ip {ls : List Int} (hs : Sg ls) (h8 : ls.length ≤ 8) : HostIp (mk (labL ls ++ eL 2)) := hostip (fun x hx => by
  have := chars_ok (lab_chars hs x hx); exact okc_num this.1 this.2) (by have := lab_len ls; omega)
theorem sg_drop {ls : List Int} (h : Sg ls) (k : Nat) : Sg (ls.drop k) := fun x hx => h x (List.mem_of_mem_drop hx)
theorem lstrip_lab {c : Int} {r : List Int} {e : List Nat} (hc : c = 101 ∨ c = 111) : Txt.lstripChars (mk (labL (c :: r) ++ e)) (Str.ofString ".") = mk (labL (c :: r) ++ e) := by
  obtain ⟨t, ht⟩ := lab_head (c := c) (r := r)
  rw [ht]; exact lstrip_no _ (sg_ne hc)
theorem lstrip_dlab {c : Int} {r : List Int} {e : List Nat} (hc : c = 101 ∨ c = 111) : Txt.lstripChars (mk (46 :: (labL (c :: r) ++ e))) (Str.ofString ".") = mk (labL (c :: r) ++ e) := by
  obtain ⟨t, ht⟩ := lab_head (c := c) (r := r)
  rw [ht]; exact lstrip_dot _ (sg_ne hc)
theorem dot_app (l : List Nat) : Str.ofString "." ++ mk l = mk (46 :: l) := by rw [dot_is, mk_app]; rfl
/-- reach, two labels or more -/
theorem reach_two {c d : Int} {r : List Int} {e : List Nat} (hs : Sg (c :: d :: r)) (he : ∃ m, e = 46 :: m) : Mine.reachF (mk (labL (c :: d :: r) ++ e)) = mk (46 :: (labL (d :: r) ++ e)) := by
  have e1 : labL (c :: d :: r) ++ e = c.toNat :: 46 :: (labL (d :: r) ++ e) := rfl
  have f1 : Txt.find (mk (labL (c :: d :: r) ++ e)) (Str.ofString ".") = 1 := by rw [e1]; exact find_1 _ (sg_ne (hs c (.head _)))
  have s1 : Txt.slice (mk (labL (c :: d :: r) ++ e)) (some (1 + 1)) none = mk (labL (d :: r) ++ e) := by
    rw [e1]
    exact slice_is (c.toNat :: 46 :: (labL (d :: r) ++ e)) 2 (by simp)
  have f2 : Txt.find (mk (labL (d :: r) ++ e)) (Str.ofString ".") = 1 := by
    cases r with
    | nil =>
      obtain ⟨m, rfl⟩ := he
      exact find_1 _ (sg_ne (hs d (.tail _ (.head _))))
    | cons x r => exact find_1 _ (sg_ne (hs d (.tail _ (.head _))))
  rw [Mine.reachF_a (by rw [f1]; decide) (by rw [f1, s1, f2]; decide), f1, s1, dot_app]
theorem reach_one0 {c : Int} (hc : c = 101 ∨ c = 111) : Mine.reachF (mk (labL [c] ++ eL 0)) = mk [46, 108, 111, 99, 97, 108] := by
  rcases hc with rfl | rfl <;> decide +kernel
theorem reach_one1 {c : Int} (hc : c = 101 ∨ c = 111) : Mine.reachF (mk (labL [c] ++ eL 1)) = mk (labL [c] ++ eL 1) := by
  rcases hc with rfl | rfl <;> decide +kernel
theorem reach_local : Mine.reachF (mk [108, 111, 99, 97, 108]) = mk [108, 111, 99, 97, 108] := by decide +kernel
theorem lstrip_dlocal : Txt.lstripChars (mk [46, 108, 111, 99, 97, 108]) (Str.ofString ".") = mk [108, 111, 99, 97, 108] := lstrip_dot _ (by decide)
theorem zoneS_0 (ls : List Int) (k : Nat) : zoneS ls 0 k = if k = 0 then labS ls (endS 0) else if k ≤ 7 then Str.ofString "." ++ labS (ls.drop k) (endS 0) else if k = 8 then Str.ofString ".local" else Str.ofString "local" := rfl
theorem zoneS_1 (ls : List Int) (k : Nat) : zoneS ls 1 k = if k = 0 then labS ls (endS 1) else if k ≤ 7 then Str.ofString "." ++ labS (ls.drop k) (endS 1) else labS (ls.drop 7) (endS 1) := rfl
/-- the zones, sign by sign -/
theorem zone0 {ls : List Int} {k : Nat} (h : k ≤ 7) (h0 : 1 ≤ k) : zoneS ls 0 k = mk (46 :: (labL (ls.drop k) ++ eL 0)) := by
  rw [zoneS_0, if_neg (by omega), if_pos h, end0, lab_eq, dot_app]
theorem zone1 {ls : List Int} {k : Nat} (h : k ≤ 7) (h0 : 1 ≤ k) : zoneS ls 1 k = mk (46 :: (labL (ls.drop k) ++ eL 1)) := by
  rw [zoneS_1, if_neg (by omega), if_pos h, end1, lab_eq, dot_app]
theorem reachU {w : World} {x y : PySem.Str} {t : Tok} (h : HostOk x) (e : Mine.reachF x = y) : Spec w 57 [.str x t] 6 [] (fun _ => True) (fun v new => ∃ t, v = .str y t ∧ new = []) := e ▸ reach_spec h
theorem len_ok {l : List Nat} (h : l.length ≤ 100) : (mk l).length ≤ 100 := by rw [mk_len]; exact h
theorem zone_law : ZoneLaw := by
  intro g j ⟨hl, hg⟩ hj
  have hs : Sg g.reverse := fun x hx => hg x (List.mem_reverse.mp hx)
  have hrl : g.reverse.length = 8 := by rw [List.length_reverse, hl]
  generalize g.reverse = ls at hs hrl
  have hlen : ∀ (k : Nat) (e : List Nat), e.length ≤ 10 → (mk (labL (ls.drop k) ++ e)).length ≤ 100 := fun k e he => len_ok (by
    have := lab_len (ls.drop k)
    rw [List.length_drop, hrl] at this
    rw [List.length_append]; omega)
  have hlen' : ∀ (k : Nat) (e : List Nat), e.length ≤ 10 → (mk (46 :: (labL (ls.drop k) ++ e))).length ≤ 100 := fun k e he => len_ok (by
    have := lab_len (ls.drop k)
    rw [List.length_drop, hrl] at this
    rw [List.length_cons, List.length_append]; omega)
  obtain ⟨c0, c1, c2, c3, c4, c5, c6, c7, rfl⟩ := eight hrl
  have q : ∀ k, Sg ([c0, c1, c2, c3, c4, c5, c6, c7].drop k) := fun k => sg_drop hs k
  have p0 := hs c0 (by simp)
  have p1 := hs c1 (by simp)
  have p2 := hs c2 (by simp)
  have p3 := hs c3 (by simp)
  have p4 := hs c4 (by simp)
  have p5 := hs c5 (by simp)
  have p6 := hs c6 (by simp)
  have p7 := hs c7 (by simp)
  match j, hj with
  | 0, _ =>
    refine ⟨fun k => ?_, rfl, fun w k t hk => ?_⟩
    · rw [zoneS_0]
      split
      · rw [end0, lab_eq]; exact hlen 0 (eL 0) (by decide)
      split
      · rw [end0, lab_eq, dot_app]; exact hlen' k (eL 0) (by decide)
      split
      · decide
      · decide
    · have zz : zoneS [c0, c1, c2, c3, c4, c5, c6, c7] 0 0 = mk (labL [c0, c1, c2, c3, c4, c5, c6, c7] ++ eL 0) := by show labS _ (endS 0) = _; rw [end0, lab_eq]
      have z8 : zoneS [c0, c1, c2, c3, c4, c5, c6, c7] 0 8 = mk [46, 108, 111, 99, 97, 108] := dlocal_is
      have z9 : zoneS [c0, c1, c2, c3, c4, c5, c6, c7] 0 9 = mk [108, 111, 99, 97, 108] := local_is
      match k, hk with
      | 0, _ =>
        rw [zz, lstrip_lab p0, zone0 (by decide) (by decide)]
        exact reachU (host_ok (q 0) (by simp) (by simp) endok0) (reach_two (q 0) ⟨_, rfl⟩)
      | 1, _ =>
        rw [zone0 (by decide) (by decide), zone0 (by decide) (by decide)]
        rw [show Txt.lstripChars (mk (46 :: (labL (List.drop 1 [c0, c1, c2, c3, c4, c5, c6, c7]) ++ eL 0))) (Str.ofString ".") = mk (labL [c1, c2, c3, c4, c5, c6, c7] ++ eL 0) from lstrip_dlab p1]
        exact reachU (host_ok (q 1) (by simp) (by simp) endok0) (reach_two (q 1) ⟨_, rfl⟩)
      | 2, _ =>
        rw [zone0 (by decide) (by decide), zone0 (by decide) (by decide)]
        rw [show Txt.lstripChars (mk (46 :: (labL (List.drop 2 [c0, c1, c2, c3, c4, c5, c6, c7]) ++ eL 0))) (Str.ofString ".") = mk (labL [c2, c3, c4, c5, c6, c7] ++ eL 0) from lstrip_dlab p2]
        exact reachU (host_ok (q 2) (by simp) (by simp) endok0) (reach_two (q 2) ⟨_, rfl⟩)
      | 3, _ =>
        rw [zone0 (by decide) (by decide), zone0 (by decide) (by decide)]
        rw [show Txt.lstripChars (mk (46 :: (labL (List.drop 3 [c0, c1, c2, c3, c4, c5, c6, c7]) ++ eL 0))) (Str.ofString ".") = mk (labL [c3, c4, c5, c6, c7] ++ eL 0) from lstrip_dlab p3]
        exact reachU (host_ok (q 3) (by simp) (by simp) endok0) (reach_two (q 3) ⟨_, rfl⟩)
      | 4, _ =>
        rw [zone0 (by decide) (by decide), zone0 (by decide) (by decide)]
        rw [show Txt.lstripChars (mk (46 :: (labL (List.drop 4 [c0, c1, c2, c3, c4, c5, c6, c7]) ++ eL 0))) (Str.ofString ".") = mk (labL [c4, c5, c6, c7] ++ eL 0) from lstrip_dlab p4]
        exact reachU (host_ok (q 4) (by simp) (by simp) endok0) (reach_two (q 4) ⟨_, rfl⟩)
      | 5, _ =>
        rw [zone0 (by decide) (by decide), zone0 (by decide) (by decide)]
        rw [show Txt.lstripChars (mk (46 :: (labL (List.drop 5 [c0, c1, c2, c3, c4, c5, c6, c7]) ++ eL 0))) (Str.ofString ".") = mk (labL [c5, c6, c7] ++ eL 0) from lstrip_dlab p5]
        exact reachU (host_ok (q 5) (by simp) (by simp) endok0) (reach_two (q 5) ⟨_, rfl⟩)
      | 6, _ =>
        rw [zone0 (by decide) (by decide), zone0 (by decide) (by decide)]
        rw [show Txt.lstripChars (mk (46 :: (labL (List.drop 6 [c0, c1, c2, c3, c4, c5, c6, c7]) ++ eL 0))) (Str.ofString ".") = mk (labL [c6, c7] ++ eL 0) from lstrip_dlab p6]
        exact reachU (host_ok (q 6) (by simp) (by simp) endok0) (reach_two (q 6) ⟨_, rfl⟩)
      | 7, _ =>
        rw [z8, zone0 (by decide) (by decide)]
        rw [show Txt.lstripChars (mk (46 :: (labL (List.drop 7 [c0, c1, c2, c3, c4, c5, c6, c7]) ++ eL 0))) (Str.ofString ".") = mk (labL [c7] ++ eL 0) from lstrip_dlab p7]
        exact reachU (host_ok (q 7) (by simp) (by simp) endok0) (reach_one0 p7)
      | 8, _ =>
        rw [z8, z9, lstrip_dlocal]
        exact reachU local_ok reach_local
  | 1, _ =>
    refine ⟨fun k => ?_, rfl, fun w k t hk => ?_⟩
    · rw [zoneS_1]
      split
      · rw [end1, lab_eq]; exact hlen 0 (eL 1) (by decide)
      split
      · rw [end1, lab_eq, dot_app]; exact hlen' k (eL 1) (by decide)
      · rw [end1, lab_eq]; exact hlen 7 (eL 1) (by decide)
    · have zz : zoneS [c0, c1, c2, c3, c4, c5, c6, c7] 1 0 = mk (labL [c0, c1, c2, c3, c4, c5, c6, c7] ++ eL 1) := by show labS _ (endS 1) = _; rw [end1, lab_eq]
      have z8 : zoneS [c0, c1, c2, c3, c4, c5, c6, c7] 1 8 = mk (labL [c7] ++ eL 1) := by show labS _ (endS 1) = _; rw [end1, lab_eq]; rfl
      have z9 : zoneS [c0, c1, c2, c3, c4, c5, c6, c7] 1 9 = mk (labL [c7] ++ eL 1) := by show labS _ (endS 1) = _; rw [end1, lab_eq]; rfl
      match k, hk with
      | 0, _ =>
        rw [zz, lstrip_lab p0, zone1 (by decide) (by decide)]
        exact reachU (host_ok (q 0) (by simp) (by simp) endok1) (reach_two (q 0) ⟨_, rfl⟩)
      | 1, _ =>
        rw [zone1 (by decide) (by decide), zone1 (by decide) (by decide)]
        rw [show Txt.lstripChars (mk (46 :: (labL (List.drop 1 [c0, c1, c2, c3, c4, c5, c6, c7]) ++ eL 1))) (Str.ofString ".") = mk (labL [c1, c2, c3, c4, c5, c6, c7] ++ eL 1) from lstrip_dlab p1]
        exact reachU (host_ok (q 1) (by simp) (by simp) endok1) (reach_two (q 1) ⟨_, rfl⟩)
      | 2, _ =>
        rw [zone1 (by decide) (by decide), zone1 (by decide) (by decide)]
        rw [show Txt.lstripChars (mk (46 :: (labL (List.drop 2 [c0, c1, c2, c3, c4, c5, c6, c7]) ++ eL 1))) (Str.ofString ".") = mk (labL [c2, c3, c4, c5, c6, c7] ++ eL 1) from lstrip_dlab p2]
        exact reachU (host_ok (q 2) (by simp) (by simp) endok1) (reach_two (q 2) ⟨_, rfl⟩)
      | 3, _ =>
        rw [zone1 (by decide) (by decide), zone1 (by decide) (by decide)]
        rw [show Txt.lstripChars (mk (46 :: (labL (List.drop 3 [c0, c1, c2, c3, c4, c5, c6, c7]) ++ eL 1))) (Str.ofString ".") = mk (labL [c3, c4, c5, c6, c7] ++ eL 1) from lstrip_dlab p3]
        exact reachU (host_ok (q 3) (by simp) (by simp) endok1) (reach_two (q 3) ⟨_, rfl⟩)
      | 4, _ =>
        rw [zone1 (by decide) (by decide), zone1 (by decide) (by decide)]
        rw [show Txt.lstripChars (mk (46 :: (labL (List.drop 4 [c0, c1, c2, c3, c4, c5, c6, c7]) ++ eL 1))) (Str.ofString ".") = mk (labL [c4, c5, c6, c7] ++ eL 1) from lstrip_dlab p4]
        exact reachU (host_ok (q 4) (by simp) (by simp) endok1) (reach_two (q 4) ⟨_, rfl⟩)
      | 5, _ =>
        rw [zone1 (by decide) (by decide), zone1 (by decide) (by decide)]
        rw [show Txt.lstripChars (mk (46 :: (labL (List.drop 5 [c0, c1, c2, c3, c4, c5, c6, c7]) ++ eL 1))) (Str.ofString ".") = mk (labL [c5, c6, c7] ++ eL 1) from lstrip_dlab p5]
        exact reachU (host_ok (q 5) (by simp) (by simp) endok1) (reach_two (q 5) ⟨_, rfl⟩)
      | 6, _ =>
        rw [zone1 (by decide) (by decide), zone1 (by decide) (by decide)]
        rw [show Txt.lstripChars (mk (46 :: (labL (List.drop 6 [c0, c1, c2, c3, c4, c5, c6, c7]) ++ eL 1))) (Str.ofString ".") = mk (labL [c6, c7] ++ eL 1) from lstrip_dlab p6]
        exact reachU (host_ok (q 6) (by simp) (by simp) endok1) (reach_two (q 6) ⟨_, rfl⟩)
      | 7, _ =>
        rw [z8, zone1 (by decide) (by decide)]
        rw [show Txt.lstripChars (mk (46 :: (labL (List.drop 7 [c0, c1, c2, c3, c4, c5, c6, c7]) ++ eL 1))) (Str.ofString ".") = mk (labL [c7] ++ eL 1) from lstrip_dlab p7]
        exact reachU (host_ok (q 7) (by simp) (by simp) endok1) (reach_one1 p7)
      | 8, _ =>
        rw [z8, z9, lstrip_lab p7]
        exact reachU (host_ok (q 7) (by simp) (by simp) endok1) (reach_one1 p7)
  | 2, _ =>
    have zz : ∀ k, zoneS [c0, c1, c2, c3, c4, c5, c6, c7] 2 k = mk (labL [c0, c1, c2, c3, c4, c5, c6, c7] ++ eL 2) := fun k => by show labS _ (endS 2) = _; rw [end2, lab_eq]
    refine ⟨fun k => ?_, rfl, fun w k t hk => ?_⟩
    · rw [zz]; exact hlen 0 (eL 2) (by decide)
    · rw [zz, zz, lstrip_lab p0]
      exact reach_ip (host_ip (q 0) (by simp))
end Mine
end
theorem Mine.reset_R7 : True := by
  w_top off
  k_with_none
  (k_with "OM" => with_reducible first | assumption | decide | (refine Nat.ne_of_lt ?_; k_extra "OP") | (refine o_n ?_; k_extra "OP") | k_extra "OP" | exact o_1 | exact o_2 | exact o_3 | exact o_4 | exact o_5 | exact o_6 | exact o_7 | exact o_8 | exact o_9 | exact o_10 | exact o_11 | exact o_12 | exact o_13 | exact o_14 | exact o_15 | exact o_16 | exact o_17 | exact o_18 | exact o_s1 | exact o_s2 | exact o_s3 | exact o_s4 | exact o_s5 | exact o_s6 | exact o_s7 | exact o_s8 | exact o_s9 | exact o_s10 | exact o_s11 | exact o_s12 | exact o_s13 | exact o_s14 | exact o_s15 | exact o_s16 | exact o_r 1 | exact o_r 2 | exact o_r 3 | exact o_r 4 | exact o_r 5 | exact o_r 6 | exact o_r 7 | exact o_r 8 | exact o_r 9 | exact o_r 10 | exact o_r 11 | exact o_r 12 | exact o_r 13 | exact o_r 14 | exact o_r 15 | exact o_r 16 | exact o_u1 | exact o_u2 | exact o_u3 | exact o_e1 | exact o_e2 | exact o_e3 | exact o_e4 | exact o_m1 | exact o_c1 | exact o_c2 | exact o_c3 | exact o_c4 | exact o_c5 | exact o_n1 | exact o_n2 | exact o_n3 | exact o_n4 | exact o_d1 | fail)
  (k_with "OP" => first | k_extra "OB" | exact o_p1 | exact o_p2 | exact o_p3 | exact o_p4 | (refine o_l 1 ?_; k_extra "OB") | (refine o_l 2 ?_; k_extra "OB") | (refine o_l 3 ?_; k_extra "OB") | (refine o_l 4 ?_; k_extra "OB") | fail)
  (k_with "OB" => first | assumption | (refine o_pk ?_; k_extra "OK") | fail)
  (k_with "OK" => first | exact And.left | exact And.right | (refine o_sk ?_; k_extra "OK") | fail)
  first | walk1 | trivial
section
open PySem PySem.W PyProof.Rows PySem.Calls
set_option Elab.async false
set_option maxRecDepth 100000
set_option maxHeartbeats 4000000
set_option linter.unusedVariables false
namespace Mine
open Tx
section
variable {w : World} {X Y A : List Nat} {t u : Tok}
theorem dmT_same (hX : ∀ c ∈ X, Okc c) (hl : X.length ≤ 100) : Spec w 50 [.str (mk X) t, .str (mk X) u] 6 [] (fun _ => True) (fun v new => v = .bool true ∧ new = []) :=
  dm_eq (len_ok hl) (len_ok hl) (by rw [okc_still hX, mk_beq]; exact decide_eq_true rfl)
theorem dmF_ip (hX : ∀ c ∈ X, Okc c) (hl : X.length ≤ 100) (hY : ∀ c ∈ Y, Okc c) (hl2 : Y.length ≤ 100) (ne : X ≠ Y) (h : HostIp (mk X)) : Spec w 50 [.str (mk X) t, .str (mk Y) u] 6 [] (fun _ => True) (fun v new => v = .bool false ∧ new = []) :=
  dm_ip (len_ok hl) (len_ok hl2) (by rw [okc_still hX, okc_still hY, mk_beq]; exact decide_eq_false ne) (by rw [okc_still hX]; exact h)
theorem dmF_dot {c : Nat} {r : List Nat} (hX : ∀ c ∈ X, Okc c) (hl : X.length ≤ 100) (hY : ∀ c ∈ Y, Okc c) (hl2 : Y.length ≤ 100) (ne : X ≠ Y) (h : HostOk (mk X)) (e : Y = c :: r) (hc : c ≠ 46) : Spec w 50 [.str (mk X) t, .str (mk Y) u] 6 [] (fun _ => True) (fun v new => v = .bool false ∧ new = []) :=
  dm_no (len_ok hl) (len_ok hl2) (by rw [okc_still hX, okc_still hY, mk_beq]; exact decide_eq_false ne) (by rw [okc_still hX]; exact h) (.inr (by rw [okc_still hY, e]; exact starts_no _ hc))
theorem dmF_no (hX : ∀ c ∈ X, Okc c) (hl : X.length ≤ 100) (hY : ∀ c ∈ Y, Okc c) (hl2 : Y.length ≤ 100) (ne : X ≠ Y) (h : HostOk (mk X)) (hn : ∀ i, (X.drop i).take Y.length ≠ Y) : Spec w 50 [.str (mk X) t, .str (mk Y) u] 6 [] (fun _ => True) (fun v new => v = .bool false ∧ new = []) :=
  dm_no (len_ok hl) (len_ok hl2) (by rw [okc_still hX, okc_still hY, mk_beq]; exact decide_eq_false ne) (by rw [okc_still hX]; exact h) (.inl (by rw [okc_still hX, okc_still hY]; exact rfind_no hn))
theorem dmT_end (hX : ∀ c ∈ A ++ 46 :: Y, Okc c) (hl : (A ++ 46 :: Y).length ≤ 100) (hA : A ≠ []) (h : HostOk (mk (A ++ 46 :: Y))) (hY : HostOk (mk Y)) : Spec w 50 [.str (mk (A ++ 46 :: Y)) t, .str (mk (46 :: Y)) u] 6 [] (fun _ => True) (fun v new => v = .bool true ∧ new = []) := by
  have hY' : ∀ c ∈ 46 :: Y, Okc c := fun c hc => hX c (List.mem_append_right _ hc)
  have hs : Txt.slice (mk (46 :: Y)) (some 1) none = mk Y := slice_is (46 :: Y) 1 (by simp)
  refine dm_yes (len_ok hl) (len_ok (by rw [List.length_append] at hl; omega)) ?_ (by rw [okc_still hX]; exact h) (by rw [okc_still hX, okc_still hY']; exact rfind_end hA) (by rw [okc_still hY']; exact starts_dot _) (by rw [okc_still hY', hs]; exact hY)
  rw [okc_still hX, okc_still hY', mk_beq]
  refine decide_eq_false fun e => ?_
  have := congrArg List.length e
  rw [List.length_append] at this
  exact hA (List.length_eq_zero_iff.mp (by omega))
end
theorem no_lie {P Q e : List Nat} {u t : Nat} (hP : ∀ c ∈ P, c = 46 ∨ c = 101 ∨ c = 111) (hu : e[t]? = some u) (h1 : u ≠ 46 ∧ u ≠ 101 ∧ u ≠ 111) (once : ∀ r, e[r]? = some u → r = t) (hne : ∀ i, P.length = i + Q.length → P.drop i ≠ Q) :
    ∀ i, ((P ++ e).drop i).take (Q ++ e).length ≠ Q ++ e := by
  intro i h
  have ht : t < e.length := by
    rcases Nat.lt_or_ge t e.length with g | g
    · exact g
    · rw [List.getElem?_eq_none g] at hu; cases hu
  have k1 : (Q ++ e)[Q.length + t]? = some u := by rw [List.getElem?_append_right (Nat.le_add_right _ _), Nat.add_sub_cancel_left]; exact hu
  rw [← h, List.getElem?_take_of_lt (by rw [List.length_append]; omega), List.getElem?_drop] at k1
  rcases Nat.lt_or_ge (i + (Q.length + t)) P.length with g | g
  · rw [List.getElem?_append_left g] at k1
    have := hP u (List.mem_of_getElem? k1)
    omega
  · rw [List.getElem?_append_right g] at k1
    have hi := once _ k1
    have hL : P.length = i + Q.length := by omega
    refine hne i hL ?_
    rw [List.drop_append_of_le_length (by omega), List.take_of_length_le (by rw [List.length_append, List.length_append, List.length_drop]; omega)] at h
    exact List.append_cancel_right h
theorem agree_all {g g0 : List Int} (h : g.length = 8) (h0 : g0.length = 8) (ha : Agree g g0 8) : g = g0 := by
  apply List.ext_getElem?
  intro i
  rcases Nat.lt_or_ge i 8 with q | q
  · have e := ha.1 i q
    rw [List.getD_eq_getElem?_getD, List.getD_eq_getElem?_getD, List.getElem?_eq_getElem (by omega), List.getElem?_eq_getElem (by omega)] at e
    rw [List.getElem?_eq_getElem (by omega), List.getElem?_eq_getElem (by omega)]
    exact congrArg some e
  · rw [List.getElem?_eq_none (by omega), List.getElem?_eq_none (by omega)]
theorem tail_yes {g g0 : List Int} (h : g.length = 8) (h0 : g0.length = 8) {sh i : Nat} (ha : Agree g g0 sh) (hi : 8 - i ≤ sh) : g.reverse.drop i = g0.reverse.drop i := by
  rw [List.drop_reverse, List.drop_reverse, h, h0]
  congr 1
  apply List.ext_getElem?
  intro k
  rcases Nat.lt_or_ge k (8 - i) with q | q
  · have e := ha.1 k (by omega)
    rw [List.getElem?_take_of_lt q, List.getElem?_take_of_lt q]
    rw [List.getD_eq_getElem?_getD, List.getD_eq_getElem?_getD, List.getElem?_eq_getElem (by omega), List.getElem?_eq_getElem (by omega)] at e
    rw [List.getElem?_eq_getElem (by omega), List.getElem?_eq_getElem (by omega)]
    exact congrArg some e
  · rw [List.getElem?_take_eq_none q, List.getElem?_take_eq_none q]
theorem tail_no {g g0 : List Int} (h : g.length = 8) (h0 : g0.length = 8) {sh i : Nat} (ha : Agree g g0 sh) (hi : sh < 8 - i) : g.reverse.drop i ≠ g0.reverse.drop i := by
  intro e
  rw [List.drop_reverse, List.drop_reverse, h, h0] at e
  have e := List.reverse_inj.mp e
  refine ha.2 (by omega) ?_
  have e1 : (g.take (8 - i)).getD sh 0 = (g0.take (8 - i)).getD sh 0 := congrArg (fun l : List Int => l.getD sh 0) e
  rw [List.getD_eq_getElem?_getD, List.getD_eq_getElem?_getD, List.getElem?_take_of_lt hi, List.getElem?_take_of_lt hi] at e1
  rw [List.getD_eq_getElem?_getD, List.getD_eq_getElem?_getD]
  exact e1
/-- the ends' own sign -/
theorem once0 : ∀ r, (eL 0)[r]? = some 99 → r = 3 := by
  intro r h
  match r, h with
  | 0, h => revert h; decide
  | 1, h => revert h; decide
  | 2, h => revert h; decide
  | 3, _ => rfl
  | 4, h => revert h; decide
  | 5, h => revert h; decide
  | n + 6, h => cases h
theorem once1 : ∀ r, (eL 1)[r]? = some 116 → r = 3 := by
  intro r h
  match r, h with
  | 0, h => revert h; decide
  | 1, h => revert h; decide
  | 2, h => revert h; decide
  | 3, _ => rfl
  | n + 4, h => cases h
/-- zones 1 to 7 -/
theorem need_mid {w : World} {t u : Tok} {g g0 : List Int} {i sh : Nat} {e : List Nat} {v0 t0 : Nat} (s : Signs g) (s0 : Signs g0) (h1 : 1 ≤ i) (h7 : i ≤ 7) (ha : Agree g g0 sh) (he : EndOk e) (hel : e.length ≤ 10) (hu : e[t0]? = some v0) (hv : v0 ≠ 46 ∧ v0 ≠ 101 ∧ v0 ≠ 111) (once : ∀ r, e[r]? = some v0 → r = t0) :
    Spec w 50 [.str (mk (labL g.reverse ++ e)) t, .str (mk (46 :: (labL (g0.reverse.drop i) ++ e))) u] 6 [] (fun _ => True) (fun v new => v = .bool (decide (((8 - i : Nat) : Int) ≤ (sh : Int))) ∧ new = []) := by
  obtain ⟨hl, hg⟩ := s
  obtain ⟨hl0, hg0⟩ := s0
  have hs : Sg g.reverse := fun x hx => hg x (List.mem_reverse.mp hx)
  have hs0 : Sg g0.reverse := fun x hx => hg0 x (List.mem_reverse.mp hx)
  have hrl : g.reverse.length = 8 := by rw [List.length_reverse, hl]
  have hrl0 : g0.reverse.length = 8 := by rw [List.length_reverse, hl0]
  have yes := fun h => tail_yes hl hl0 ha (i := i) h
  have no := fun h => tail_no hl hl0 ha (i := i) h
  generalize g.reverse = R at *
  generalize g0.reverse = R0 at *
  have hec : ∀ c ∈ e, Okc c := by obtain ⟨m, d, _, _, _, hc⟩ := he; exact fun c h => (hc c h).1
  have hX : ∀ c ∈ labL R ++ e, Okc c := lab_okc hs hec
  have hXl : (labL R ++ e).length ≤ 100 := by
    have := lab_len R
    rw [List.length_append]; omega
  have hsp : labL R = labL (R.take i) ++ 46 :: labL (R.drop i) := by
    have e9 := lab_split (a := R.take i) (b := R.drop i) (fun q => by have := congrArg List.length q; rw [List.length_take, hrl] at this; simp at this; omega) (fun q => by have := congrArg List.length q; rw [List.length_drop, hrl] at this; simp at this; omega)
    rw [List.take_append_drop] at e9; exact e9
  have hR : HostOk (mk (labL R ++ e)) := host_ok hs (fun q => by rw [q] at hrl; cases hrl) (by omega) he
  have hdl : (R0.drop i).length ≤ 8 := by rw [List.length_drop]; omega
  have hY' : ∀ c ∈ labL (R0.drop i) ++ e, Okc c := lab_okc (sg_drop hs0 i) hec
  have hA : labL (R.take i) ≠ [] := by
    match hq : R.take i with
    | [] => exact absurd (congrArg List.length hq) (by rw [List.length_take, hrl]; simp; omega)
    | c :: r => obtain ⟨q, hq'⟩ := lab_head (c := c) (r := r); rw [hq']; exact List.cons_ne_nil _ _
  by_cases hc : 8 - i ≤ sh
  · rw [decide_eq_true (by omega)]
    have e1 : labL R ++ e = labL (R.take i) ++ 46 :: (labL (R0.drop i) ++ e) := by rw [hsp, yes hc, List.append_assoc]; rfl
    rw [e1] at hX hXl hR ⊢
    exact dmT_end hX hXl hA hR (host_ok (sg_drop hs0 i) (fun q => by have := congrArg List.length q; rw [List.length_drop, hrl0] at this; simp at this; omega) hdl he)
  · rw [decide_eq_false (by omega)]
    have hY : ∀ c ∈ 46 :: (labL (R0.drop i) ++ e), Okc c := fun c h => by
      rcases List.mem_cons.mp h with rfl | h
      · exact .inl rfl
      · exact hY' c h
    have hYl : (46 :: (labL (R0.drop i) ++ e)).length ≤ 100 := by
      have := lab_len (R0.drop i)
      rw [List.length_cons, List.length_append]; omega
    refine dmF_no hX hXl hY hYl (fun q => ?_) hR ?_
    · match R, hrl with
      | c :: r, _ =>
        obtain ⟨q2, hq2⟩ := lab_head (c := c) (r := r)
        rw [hq2] at q
        exact sg_ne (hs c (.head _)) (List.cons.inj q).1
    · show ∀ j, ((labL R ++ e).drop j).take ((46 :: labL (R0.drop i)) ++ e).length ≠ (46 :: labL (R0.drop i)) ++ e
      refine no_lie (lab_chars hs) hu hv once fun j hj => ?_
      have hq : (labL (R.drop i)).length = (labL (R0.drop i)).length := lab_lenq (by rw [List.length_drop, List.length_drop, hrl, hrl0])
      rw [hsp] at hj ⊢
      have e2 : j = (labL (R.take i)).length := by
        rw [List.length_append, List.length_cons, List.length_cons] at hj
        omega
      rw [e2, List.drop_left]
      intro q
      exact no (by omega) (lab_inj (sg_drop hs i) (sg_drop hs0 i) (by rw [List.length_drop, List.length_drop, hrl, hrl0]) (List.cons.inj q).2)
/-- the first zone -/
theorem need_first {w : World} {t u : Tok} {g g0 : List Int} {sh : Nat} {e : List Nat} (s : Signs g) (s0 : Signs g0) (hsh : sh ≤ 8) (ha : Agree g g0 sh) (hec : ∀ c ∈ e, Okc c) (hel : e.length ≤ 10) (hx : EndOk e ∨ e = eL 2) :
    Spec w 50 [.str (mk (labL g.reverse ++ e)) t, .str (mk (labL g0.reverse ++ e)) u] 6 [] (fun _ => True) (fun v new => v = .bool (decide ((8 : Int) ≤ (sh : Int))) ∧ new = []) := by
  obtain ⟨hl, hg⟩ := s
  obtain ⟨hl0, hg0⟩ := s0
  have hs : Sg g.reverse := fun x hx => hg x (List.mem_reverse.mp hx)
  have hs0 : Sg g0.reverse := fun x hx => hg0 x (List.mem_reverse.mp hx)
  have hrl : g.reverse.length = 8 := by rw [List.length_reverse, hl]
  have hrl0 : g0.reverse.length = 8 := by rw [List.length_reverse, hl0]
  have len : ∀ {R : List Int}, R.length = 8 → (labL R ++ e).length ≤ 100 := fun {R} h => by
    have := lab_len R
    rw [List.length_append]; omega
  by_cases hc : sh = 8
  · subst hc
    rw [decide_eq_true (by decide), agree_all hl hl0 ha]
    exact dmT_same (lab_okc hs0 hec) (len hrl0)
  · rw [decide_eq_false (by omega)]
    have ne : labL g.reverse ++ e ≠ labL g0.reverse ++ e := fun q => by
      have q := List.append_cancel_right q
      have q := lab_inj hs hs0 (by omega) q
      exact ha.2 (by omega) (by rw [List.reverse_inj.mp q])
    rcases hx with he | rfl
    · generalize g0.reverse = R0 at *
      match R0, hrl0 with
      | c :: r, h8 =>
        obtain ⟨q2, hq2⟩ := lab_head (c := c) (r := r)
        exact dmF_dot (lab_okc hs hec) (len hrl) (lab_okc hs0 hec) (len h8) ne (host_ok hs (fun q => by rw [q] at hrl; cases hrl) (by omega) he) (by rw [hq2]; rfl) (sg_ne (hs0 c (.head _)))
    · exact dmF_ip (lab_okc hs hec) (len hrl) (lab_okc hs0 hec) (len hrl0) ne (host_ip hs (by omega))
theorem lab_ge : ∀ ls : List Int, ls.length ≤ (labL ls).length
  | [] => Nat.le_refl _
  | [c] => Nat.le_refl _
  | c :: d :: r => by
    have := lab_ge (d :: r)
    simp only [labL, List.length_cons] at this ⊢
    omega
theorem need_law : NeedLaw := by
  intro w g g0 j i sh t u s s0 hj hi hsh ha
  have ec0 : ∀ c ∈ eL 0, Okc c := by obtain ⟨m, d, _, _, _, hc⟩ := endok0; exact fun c h => (hc c h).1
  have ec1 : ∀ c ∈ eL 1, Okc c := by obtain ⟨m, d, _, _, _, hc⟩ := endok1; exact fun c h => (hc c h).1
  have ec2 : ∀ c ∈ eL 2, Okc c := by unfold eL Okc; decide
  have hs : Sg g.reverse := fun x hx => s.2 x (List.mem_reverse.mp hx)
  have hs0 : Sg g0.reverse := fun x hx => s0.2 x (List.mem_reverse.mp hx)
  have hrl : g.reverse.length = 8 := by rw [List.length_reverse, s.1]
  have hrl0 : g0.reverse.length = 8 := by rw [List.length_reverse, s0.1]
  have hne : g.reverse ≠ [] := fun q => by rw [q] at hrl; cases hrl
  have l1 := lab_len g.reverse
  have l2 := lab_ge g.reverse
  match j, hj with
  | 0, _ =>
    rw [end0, lab_eq]
    match i, hi with
    | 0, _ =>
      rw [show zoneS g0.reverse 0 0 = labS g0.reverse (endS 0) from rfl, end0, lab_eq]
      exact need_first s s0 hsh ha ec0 (by decide) (.inl endok0)
    | 1, _ =>
      rw [zone0 (by decide) (by decide)]
      exact need_mid (i := 1) s s0 (by decide) (by decide) ha endok0 (by decide) (t0 := 3) (v0 := 99) rfl (by decide) once0
    | 2, _ =>
      rw [zone0 (by decide) (by decide)]
      exact need_mid (i := 2) s s0 (by decide) (by decide) ha endok0 (by decide) (t0 := 3) (v0 := 99) rfl (by decide) once0
    | 3, _ =>
      rw [zone0 (by decide) (by decide)]
      exact need_mid (i := 3) s s0 (by decide) (by decide) ha endok0 (by decide) (t0 := 3) (v0 := 99) rfl (by decide) once0
    | 4, _ =>
      rw [zone0 (by decide) (by decide)]
      exact need_mid (i := 4) s s0 (by decide) (by decide) ha endok0 (by decide) (t0 := 3) (v0 := 99) rfl (by decide) once0
    | 5, _ =>
      rw [zone0 (by decide) (by decide)]
      exact need_mid (i := 5) s s0 (by decide) (by decide) ha endok0 (by decide) (t0 := 3) (v0 := 99) rfl (by decide) once0
    | 6, _ =>
      rw [zone0 (by decide) (by decide)]
      exact need_mid (i := 6) s s0 (by decide) (by decide) ha endok0 (by decide) (t0 := 3) (v0 := 99) rfl (by decide) once0
    | 7, _ =>
      rw [zone0 (by decide) (by decide)]
      exact need_mid (i := 7) s s0 (by decide) (by decide) ha endok0 (by decide) (t0 := 3) (v0 := 99) rfl (by decide) once0
    | 8, _ =>
      rw [show zoneS g0.reverse 0 8 = Str.ofString ".local" from rfl, dlocal_is, decide_eq_true (p := (needsZ 0).getD 8 0 ≤ (sh : Int)) (by show (0 : Int) ≤ _; omega)]
      refine dmT_end (A := labL g.reverse) (Y := [108, 111, 99, 97, 108]) (lab_okc hs ec0) ?_ (fun q => ?_) (host_ok hs hne (by omega) endok0) local_ok
      · rw [List.length_append]; simp only [List.length_cons, List.length_nil]; omega
      · rw [q] at l2; simp only [List.length_nil] at l2; omega
    | 9, _ =>
      rw [show zoneS g0.reverse 0 9 = Str.ofString "local" from rfl, local_is, decide_eq_false (p := (needsZ 0).getD 9 0 ≤ (sh : Int)) (by show ¬ (9 : Int) ≤ _; omega)]
      refine dmF_dot (lab_okc hs ec0) ?_ (by unfold Okc; decide) (by decide) (fun q => ?_) (host_ok hs hne (by omega) endok0) rfl (by decide)
      · rw [List.length_append]; simp only [eL, List.length_cons, List.length_nil]; omega
      · have q := congrArg List.length q
        rw [List.length_append] at q
        simp only [eL, List.length_cons, List.length_nil] at q
        omega
  | 1, _ =>
    rw [end1, lab_eq]
    match i, hi with
    | 0, _ =>
      rw [show zoneS g0.reverse 1 0 = labS g0.reverse (endS 1) from rfl, end1, lab_eq]
      exact need_first s s0 hsh ha ec1 (by decide) (.inl endok1)
    | 1, _ =>
      rw [zone1 (by decide) (by decide)]
      exact need_mid (i := 1) s s0 (by decide) (by decide) ha endok1 (by decide) (t0 := 3) (v0 := 116) rfl (by decide) once1
    | 2, _ =>
      rw [zone1 (by decide) (by decide)]
      exact need_mid (i := 2) s s0 (by decide) (by decide) ha endok1 (by decide) (t0 := 3) (v0 := 116) rfl (by decide) once1
    | 3, _ =>
      rw [zone1 (by decide) (by decide)]
      exact need_mid (i := 3) s s0 (by decide) (by decide) ha endok1 (by decide) (t0 := 3) (v0 := 116) rfl (by decide) once1
    | 4, _ =>
      rw [zone1 (by decide) (by decide)]
      exact need_mid (i := 4) s s0 (by decide) (by decide) ha endok1 (by decide) (t0 := 3) (v0 := 116) rfl (by decide) once1
    | 5, _ =>
      rw [zone1 (by decide) (by decide)]
      exact need_mid (i := 5) s s0 (by decide) (by decide) ha endok1 (by decide) (t0 := 3) (v0 := 116) rfl (by decide) once1
    | 6, _ =>
      rw [zone1 (by decide) (by decide)]
      exact need_mid (i := 6) s s0 (by decide) (by decide) ha endok1 (by decide) (t0 := 3) (v0 := 116) rfl (by decide) once1
    | 7, _ =>
      rw [zone1 (by decide) (by decide)]
      exact need_mid (i := 7) s s0 (by decide) (by decide) ha endok1 (by decide) (t0 := 3) (v0 := 116) rfl (by decide) once1
    | 8, _ =>
      rw [show zoneS g0.reverse 1 8 = labS (g0.reverse.drop 7) (endS 1) from rfl, end1, lab_eq, decide_eq_false (p := (needsZ 1).getD 8 0 ≤ (sh : Int)) (by show ¬ (9 : Int) ≤ _; omega)]
      have hd7 : (g0.reverse.drop 7).length = 1 := by rw [List.length_drop, hrl0]
      have l3 := lab_len (g0.reverse.drop 7)
      have sd := sg_drop hs0 7
      generalize g0.reverse.drop 7 = D at *
      match D, hd7 with
      | [c], _ =>
        refine dmF_dot (lab_okc hs ec1) ?_ (lab_okc sd ec1) ?_ (fun q => ?_) (host_ok hs hne (by omega) endok1) rfl (sg_ne (sd c (.head _)))
        · rw [List.length_append]; simp only [eL, List.length_cons, List.length_nil]; omega
        · rw [List.length_append]; simp only [eL, List.length_cons, List.length_nil] at l3 ⊢; omega
        · have q := congrArg List.length q
          rw [List.length_append, List.length_append] at q
          simp only [List.length_cons, List.length_nil] at l3
          omega
    | 9, _ =>
      rw [show zoneS g0.reverse 1 9 = labS (g0.reverse.drop 7) (endS 1) from rfl, end1, lab_eq, decide_eq_false (p := (needsZ 1).getD 9 0 ≤ (sh : Int)) (by show ¬ (9 : Int) ≤ _; omega)]
      have hd7 : (g0.reverse.drop 7).length = 1 := by rw [List.length_drop, hrl0]
      have l3 := lab_len (g0.reverse.drop 7)
      have sd := sg_drop hs0 7
      generalize g0.reverse.drop 7 = D at *
      match D, hd7 with
      | [c], _ =>
        refine dmF_dot (lab_okc hs ec1) ?_ (lab_okc sd ec1) ?_ (fun q => ?_) (host_ok hs hne (by omega) endok1) rfl (sg_ne (sd c (.head _)))
        · rw [List.length_append]; simp only [eL, List.length_cons, List.length_nil]; omega
        · rw [List.length_append]; simp only [eL, List.length_cons, List.length_nil] at l3 ⊢; omega
        · have q := congrArg List.length q
          rw [List.length_append, List.length_append] at q
          simp only [List.length_cons, List.length_nil] at l3
          omega
  | 2, _ =>
    rw [show zoneS g0.reverse 2 i = labS g0.reverse (endS 2) from rfl, end2, lab_eq, lab_eq]
    have e8 : (needsZ 2).getD i 0 = 8 := by
      match i, hi with
      | 0, _ | 1, _ | 2, _ | 3, _ | 4, _ | 5, _ | 6, _ | 7, _ | 8, _ | 9, _ => rfl
    rw [e8]
    exact need_first s s0 hsh ha ec2 (by decide) (.inr rfl)
end Mine
end
set_option maxRecDepth 100000 in
set_option maxHeartbeats 8000000 in
theorem PySem.Challenge.cw_zo0033_01_holds : PySem.Challenge.rw_zo0033_01.Holds := by
  exact Mine.law_of (Mine.lawWalk_of Mine.row_law Mine.num_law Mine.turned_law Mine.zone_law Mine.need_law)
