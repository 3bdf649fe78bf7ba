import PyProof.Rows.All
import Wide.All
import OpenK.AllK
import Wide.FinOn
import PySem.Challenge.RW_zo0001_01
open PySem PySem.W PyProof.Rows
set_option Elab.async false
set_option maxRecDepth 100000
set_option maxHeartbeats 8000000
set_option rowWalk.seconds 0
set_option compiler.extract_closed false
set_option linter.all false
section
open_top hd for PySem.Challenge.rw_zo0001_01
end
section
namespace Mine
local macro_rules | `(tactic| omega) => `(tactic| first | assumption | decide | exact Mine.lt_mono (by assumption) (by decide) | exact Mine.ib3 (by assumption) (by decide) | exact Mine.ib4 (by assumption) (by decide) | exact Mine.ib6 (by assumption) (by decide) | exact Mine.ib7 (by assumption) (by decide) | exact Mine.ib5 (by assumption) (by decide) | exact Mine.ad1 (by assumption) | exact Mine.ad2 (by assumption) (by decide) | exact Mine.ad3 (by decide) | exact Mine.ad4 (by decide) | exact Mine.ad5 (by assumption) | omega +splitDisjunctions)
local macro_rules | `(tactic| walk_at "kx") => `(tactic| first | k_asm | exact rfl | ktr_room | ktr_units)
local macro_rules | `(tactic| walk_at "kt") => `(tactic| ((try dsimp only); (try k_fold)))
local macro_rules | `(tactic| walk_at "kl") => `(tactic| (try (rename (∀ q ∈ (_ : List (Addr × Obj)), q.1 < _) => l9; k_lt l9)))
section
open PySem PySem.W PyProof.Rows
theorem lt_mono {a k j x : Nat} (h : a + j < x) (hk : k ≤ j) : a + k < x := Nat.lt_of_le_of_lt (Nat.add_le_add_left hk a) h
theorem ib3 {x k c : Int} (h : x ≤ k) (hk : k ≤ c) : x ≤ c := Int.le_trans h hk
theorem ib4 {x k c : Int} (h : k ≤ x) (hk : c ≤ k) : c ≤ x := Int.le_trans hk h
theorem ib5 {x k : Int} (h : 0 ≤ x) (hk : 0 ≤ k) : 0 ≤ k * x := Int.mul_nonneg hk h
theorem ib6 {x k c : Int} (h : x ≤ k) (hk : k < c) : x < c := Int.lt_of_le_of_lt h hk
theorem ib7 {x k c : Int} (h : k ≤ x) (hk : c < k) : c < x := Int.lt_of_lt_of_le hk h
theorem ad1 {L k : Nat} (h : 95 < L) : (95 : Nat) ≠ L + 1 + k := Nat.ne_of_lt (Nat.lt_of_lt_of_le h (Nat.le_trans (Nat.le_add_right L 1) (Nat.le_add_right _ k)))
theorem ad2 {L k D : Nat} (h : L + 1 + 3 < D) (hk : k ≤ 3) : D ≠ L + 1 + k := Nat.ne_of_gt (Nat.lt_of_le_of_lt (Nat.add_le_add_left hk (L + 1)) h)
theorem ad3 {L a b : Nat} (h : a ≠ b) : L + 1 + a ≠ L + 1 + b := fun e => h (Nat.add_left_cancel e)
theorem ad4 {L b : Nat} (h : 0 ≠ b) : L + 1 ≠ L + 1 + b := fun e => h (Nat.add_left_cancel (n := L + 1) e)
theorem ad5 {L D : Nat} (h : L + 1 + 3 < D) : D ≠ L + 1 := Nat.ne_of_gt (Nat.lt_of_le_of_lt (Nat.le_add_right _ 3) h)
theorem gd0 {x1} {x2} {x3} {x4} {x5} {x6} (h : wpAny x1 x2 (getMethod (Value.ref 37) (Str.ofString "search") x3) x4 x5 x6) : wpAny x1 x2 (getMethod (Value.ref 37) (Str.ofString "search") x3) x4 x5 x6 := h
theorem gd1 {x1} {x2} {x3} {x4} {x5} {x6} {x7} (h : wpAny x1 x2 (call (Value.builtin "re.Pattern.search") [Value.ref 37, Value.str x3 x4]) x5 x6 x7) : wpAny x1 x2 (call (Value.builtin "re.Pattern.search") [Value.ref 37, Value.str x3 x4]) x5 x6 x7 := h
theorem gd2 {x1} {x2} {x3} {x4} {x5} {x6} {x7} (h : wpAny x1 x2 (getMethod (Value.ref x3) (Str.ofString "group") x4) x5 x6 x7) : wpAny x1 x2 (getMethod (Value.ref x3) (Str.ofString "group") x4) x5 x6 x7 := h
theorem gd3 {x1} {x2} {x3} {x4} {x5} {x6} {x7} {x8} (h : wpAny x1 x2 (call (Value.builtin "re.Match.group") [Value.ref x3, Value.int x4 x5]) x6 x7 x8) : wpAny x1 x2 (call (Value.builtin "re.Match.group") [Value.ref x3, Value.int x4 x5]) x6 x7 x8 := h
theorem gd4 {x1} {x2} {x3} {x4} {x5} {x6} (h : wpAny x1 x2 (truthy (Value.ref x3)) x4 x5 x6) : wpAny x1 x2 (truthy (Value.ref x3)) x4 x5 x6 := h
theorem gd5 {x1} {x2} {x3} {x4} {x5} {x6} {x7} (h : wpAny x1 x2 (call (Value.ref 79) [Value.int x3 x4]) x5 x6 x7) : wpAny x1 x2 (call (Value.ref 79) [Value.int x3 x4]) x5 x6 x7 := h
theorem gd6 {x1} {x2} {x3} {x4} {x5} {x6} {x7} (h : wpAny x1 x2 (call (Value.builtin "len") [Value.bytes (List.toArray x3) x4]) x5 x6 x7) : wpAny x1 x2 (call (Value.builtin "len") [Value.bytes (List.toArray x3) x4]) x5 x6 x7 := h
theorem gd7 {x1} {x2} {x3} {x4} {x5} {x6} (h : wpAny x1 x2 (call (Value.type "bytes") [Value.ref x3]) x4 x5 x6) : wpAny x1 x2 (call (Value.type "bytes") [Value.ref x3]) x4 x5 x6 := h
theorem gd8 {x1} {x2} {x3} {x4} {x5} {x6} {x7} {x8} {x9} {x10} {x11} {x12} (h : wpAny x1 x2 (call (Value.builtin x3) [Value.float x4 x5, Value.float x6 x7, Value.float x8 x9]) x10 x11 x12) : wpAny x1 x2 (call (Value.builtin x3) [Value.float x4 x5, Value.float x6 x7, Value.float x8 x9]) x10 x11 x12 := h
theorem gd9 {x1} {x2} {x3} {x4} {x5} {x6} {x7} {x8} {x9} {x10} {x11} (h : wpAny x1 x2 (call (Value.ref 51) [Value.float x3 x4, Value.float x5 x6, Value.float x7 x8]) x9 x10 x11) : wpAny x1 x2 (call (Value.ref 51) [Value.float x3 x4, Value.float x5 x6, Value.float x7 x8]) x9 x10 x11 := h
theorem gd10 {x1} {x2} {x3} {x4} {x5} {x6} {x7} {x8} {x9} (h : wpAny x1 x2 (binaryOp Operator.Div (Value.int x3 x4) (Value.int x5 x6)) x7 x8 x9) : wpAny x1 x2 (binaryOp Operator.Div (Value.int x3 x4) (Value.int x5 x6)) x7 x8 x9 := h
theorem gd11 {x1} {x2} {x3} {x4} {x5} {x6} {x7} {x8} {x9} (h : wpAny x1 x2 (binaryOp Operator.Mult (Value.float x3 x4) (Value.int x5 x6)) x7 x8 x9) : wpAny x1 x2 (binaryOp Operator.Mult (Value.float x3 x4) (Value.int x5 x6)) x7 x8 x9 := h
theorem gd12 {x1} {x2} {x3} {x4} {x5} {x6} {x7} (h : wpAny x1 x2 (compareOp CmpOp.Eq (Value.ref x3) (Value.ref x4)) x5 x6 x7) : wpAny x1 x2 (compareOp CmpOp.Eq (Value.ref x3) (Value.ref x4)) x5 x6 x7 := h
theorem gd13 {x1} {x2} {x3} {x4} {x5} {x6} {x7} (h : wpAny x1 x2 (call (Value.builtin "round") [Value.float x3 x4]) x5 x6 x7) : wpAny x1 x2 (call (Value.builtin "round") [Value.float x3 x4]) x5 x6 x7 := h
theorem gd14 {x1} {x2} {x3} {x4} {x5} {x6} {x7} {x8} {x9} {x10} (h : wpAny x1 x2 (subscriptTail x3 x4 (Value.ref x5) (Value.int x6 x7)) x8 x9 x10) : wpAny x1 x2 (subscriptTail x3 x4 (Value.ref x5) (Value.int x6 x7)) x8 x9 x10 := h
theorem gd15 {x1} {x2} {x3} {x4} {x5} {x6} {x7} {x8} {x9} {x10} (h : wpAny x1 x2 (binaryOp Operator.Mult (Value.int (2 * (Builtin.bitXor x3 x4 - 1)) x5) (Value.int x6 x7)) x8 x9 x10) : wpAny x1 x2 (binaryOp Operator.Mult (Value.int (2 * (Builtin.bitXor x3 x4 - 1)) x5) (Value.int x6 x7)) x8 x9 x10 := h
theorem gd16 {x1} {x2} {x3} {x4} {x5} {x6} {x7} (h : wpAny x1 x2 (call (Value.ref 86) [Value.int x3 x4]) x5 x6 x7) : wpAny x1 x2 (call (Value.ref 86) [Value.int x3 x4]) x5 x6 x7 := h
theorem gd17 {x1} {x2} {x3} {x4} {x5} {x6} {x7} {x8} {x9} (h : wpAny x1 x2 (call (Value.ref 93) [Value.int x3 x4, Value.int x5 x6]) x7 x8 x9) : wpAny x1 x2 (call (Value.ref 93) [Value.int x3 x4, Value.int x5 x6]) x7 x8 x9 := h
theorem gd18 {x1} {x2} {x3} {x4} {x5} {x6} {x7} {x8} {x9} (h : wpAny x1 x2 (call (Value.ref 121) [Value.int x3 x4, Value.int x5 x6]) x7 x8 x9) : wpAny x1 x2 (call (Value.ref 121) [Value.int x3 x4, Value.int x5 x6]) x7 x8 x9 := h
theorem gd19 {x1} {x2} {x3} {x4} {x5} {x6} {x7} (h : wpAny x1 x2 (call (Value.ref 44) [Value.str x3 x4]) x5 x6 x7) : wpAny x1 x2 (call (Value.ref 44) [Value.str x3 x4]) x5 x6 x7 := h
theorem gd20 {x1} {x2} {x3} {x4} {x5} {x6} {x7} {x8} {x9} {x10} {x11} {x12} {x13} {x14} {x15} {x16} {x17} {x18} {x19} {x20} {x21} (h : wpAny x1 x2 (exec (Stmt.Assign x3 (Expr.ListComp (Expr.BinOp (Expr.Name x4 x5) Operator.Add (Expr.Name x6 x7) x8) [⟨Expr.Tuple x9 x10 x11, x12, x13, x14⟩] x15 x16) x17) x18) x19 x20 x21) : wpAny x1 x2 (exec (Stmt.Assign x3 (Expr.ListComp (Expr.BinOp (Expr.Name x4 x5) Operator.Add (Expr.Name x6 x7) x8) [⟨Expr.Tuple x9 x10 x11, x12, x13, x14⟩] x15 x16) x17) x18) x19 x20 x21 := h
theorem gd21 {x1} {x2} {x3} {x4} {x5} {x6} (h : wpAny x1 x2 (call (Value.ref 100) [Value.ref x3]) x4 x5 x6) : wpAny x1 x2 (call (Value.ref 100) [Value.ref x3]) x4 x5 x6 := h
theorem gd22 {x1} {x2} {x3} {x4} {x5} {x6} {x7} {x8} {x9} {x10} {x11} {x12} {x13} {x14} (h : wpAny x1 x2 (eval (PySem.Expr.ListComp (PySem.Expr.Call (PySem.Expr.Name x3 x4) x5 x6 x7) x8 x9 x10) x11) x12 x13 x14) : wpAny x1 x2 (eval (PySem.Expr.ListComp (PySem.Expr.Call (PySem.Expr.Name x3 x4) x5 x6 x7) x8 x9 x10) x11) x12 x13 x14 := h
theorem gd23 {x1} {x2} {x3} {x4} {x5} {x6} {x7} {x8} {x9} {x10} {x11} (h : wpAny x1 x2 (subscriptTail x3 (Expr.Slice (some x4) none none x5) (Value.bytes x6 x7) (Value.ref x8)) x9 x10 x11) : wpAny x1 x2 (subscriptTail x3 (Expr.Slice (some x4) none none x5) (Value.bytes x6 x7) (Value.ref x8)) x9 x10 x11 := h
theorem gd24 {x1} {x2} {x3} {x4} {x5} {x6} {x7} {x8} {x9} {x10} {x11} (h : wpAny x1 x2 (subscriptTail x3 (Expr.Slice none (some x4) none x5) (Value.bytes x6 x7) (Value.ref x8)) x9 x10 x11) : wpAny x1 x2 (subscriptTail x3 (Expr.Slice none (some x4) none x5) (Value.bytes x6 x7) (Value.ref x8)) x9 x10 x11 := h
theorem gd25 {x1} {x2} {x3} {x4} {x5} {x6} {x7} {x8} {x9} (h : wpAny x1 x2 (binaryOp Operator.Mult (Value.int x3 x4) (Value.int x5 x6)) x7 x8 x9) : wpAny x1 x2 (binaryOp Operator.Mult (Value.int x3 x4) (Value.int x5 x6)) x7 x8 x9 := h
theorem gd26 {x1} {x2} {x3} {x4} {x5} {x6} {x7} (h : wpAny x1 x2 (call (Value.type "list") [Value.bytes x3 x4]) x5 x6 x7) : wpAny x1 x2 (call (Value.type "list") [Value.bytes x3 x4]) x5 x6 x7 := h
theorem gd27 {x1} {x2} {x3} {x4} {x5} {x6} {x7} {x8} {x9} {x10} {x11} {x12} {x13} (h : wpAny x1 x2 (call (Value.ref 107) [Value.int x3 x4, Value.int x5 x6, Value.int x7 x8, Value.int x9 x10]) x11 x12 x13) : wpAny x1 x2 (call (Value.ref 107) [Value.int x3 x4, Value.int x5 x6, Value.int x7 x8, Value.int x9 x10]) x11 x12 x13 := h
theorem gd28 {x1} {x2} {x3} {x4} {x5} {x6} {x7} {x8} {x9} {x10} {x11} {x12} {x13} {x14} (h : wpAny x1 x2 (call (Value.ref 114) [Value.ref x3, Value.int x4 x5, Value.int x6 x7, Value.int x8 x9, Value.int x10 x11]) x12 x13 x14) : wpAny x1 x2 (call (Value.ref 114) [Value.ref x3, Value.int x4 x5, Value.int x6 x7, Value.int x8 x9, Value.int x10 x11]) x12 x13 x14 := h
theorem gd29 {x1} {x2} {x3} {x4} {x5} {x6} {x7} (h : wpAny x1 x2 (call (Value.builtin x3) [Value.ref x4]) x5 x6 x7) : wpAny x1 x2 (call (Value.builtin x3) [Value.ref x4]) x5 x6 x7 := h
theorem gd30 {x1} {x2} {x3} {x4} {x5} {x6} {x7} {x8} {x9} (h : wpAny x1 x2 (call (Value.ref 58) [Value.str x3 x4, Value.str x5 x6]) x7 x8 x9) : wpAny x1 x2 (call (Value.ref 58) [Value.str x3 x4, Value.str x5 x6]) x7 x8 x9 := h
end
section
open PySem PySem.W PyProof.Rows
set_option Elab.async false
set_option maxRecDepth 100000
set_option maxHeartbeats 8000000
section Sl
open PySem.Calls
noncomputable def isDec : Code → Bool
  | .builtin id ⟨_ :: _, _⟩ => Builtin.Bytes.decodersThatHold.contains id
  | _ => false
noncomputable def NoDec (l : List (Code × Pos)) : Prop := ∀ x ∈ l, isDec x.1 = false
noncomputable def wpS {α : Type} (M : Model) (A : Around) (t : Sem α) (Q : α → Shared → Prop) (E : Value → Shared → Prop) (s : Shared) : Prop :=
  ∀ Γ p, Γ.In A → NoDec Γ.below → isDec Γ.code = false → Sem.wp M Γ t (fun a _ s' => Q a s') (fun e _ s' => E e s') p s
noncomputable def codeS (M : Model) (A : Around) (c : Code) (R : Result → Shared → Prop) (s : Shared) : Prop :=
  ∀ Γ p, Γ.code = c → Γ.Below A → NoDec Γ.below → wpCode M Γ R p s
variable {α β : Type} {M : Model} {A : Around} {E : Value → Shared → Prop} {s : Shared}
theorem sl_of {t : Sem α} {Q : α → Shared → Prop} (h : wpAny M A t Q E s) : wpS M A t Q E s := fun Γ p hi _ _ => h Γ p hi
theorem sl_mono {t : Sem α} {Q Q' : α → Shared → Prop} {E' : Value → Shared → Prop} (h : wpS M A t Q E s) (hQ : ∀ a s, Q a s → Q' a s) (hE : ∀ e s, E e s → E' e s) : wpS M A t Q' E' s :=
  fun Γ p hi hn hc => Sem.wp_mono M Γ t (fun a _ s => hQ a s) (fun e _ s => hE e s) p s (h Γ p hi hn hc)
theorem sl_bind {m : Sem α} {f : α → Sem β} {Q : β → Shared → Prop} (h : wpS M A m (fun a s' => wpS M A (f a) Q E s') E s) : wpS M A (m >>= f) Q E s := fun Γ p hi hn hc => by
  rw [Sem.wp_bind']
  exact Sem.wp_mono M Γ m (fun a p' s' h' => h' Γ p' hi hn hc) (fun _ _ _ h' => h') p s (h Γ p hi hn hc)
theorem sl_bindA {m : Sem α} {f : α → Sem β} {Q : β → Shared → Prop} (h : wpAny M A m (fun a s' => wpS M A (f a) Q E s') E s) : wpS M A (m >>= f) Q E s := sl_bind (sl_of h)
theorem sl_pure {a : α} {Q : α → Shared → Prop} (h : Q a s) : wpS M A (pure a) Q E s := fun _ _ _ _ _ => h
theorem sl_onRaise {m : Sem α} {k : Value → Sem Unit} {Q : α → Shared → Prop} (h : wpS M A m Q (fun e s' => wpAny M A (k e) (fun _ s'' => E e s'') E s') s) : wpS M A (m.onRaise k) Q E s := fun Γ p hi hn hc => by
  rw [Sem.wp_onRaise]
  exact Sem.wp_mono M Γ m (fun _ _ _ h' => h') (fun e p' s' h' => h' Γ p' hi) p s (h Γ p hi hn hc)
theorem sl_holding {vs : List Value} {m : Sem α} {Q : α → Shared → Prop} (h : wpS M A m Q E s) : wpS M A (holding vs m) Q E s := fun Γ p hi hn hc => by rw [Sem.wp_holding]; exact h Γ p hi hn hc
theorem sl_keep {vs : List Value} {m : Sem α} {Q : α → Shared → Prop} (h : wpS M A m Q E s) : wpS M A (m.keep vs) Q E s := fun Γ p hi hn hc => by rw [Sem.wp_keep]; exact h Γ p hi hn hc
theorem sl_if {c : Prop} [Decidable c] {a b : Sem α} {Q : α → Shared → Prop} (h : ¬ c) (k : wpS M A b Q E s) : wpS M A (if c then a else b) Q E s := by rw [if_neg h]; exact k
theorem sl_ifp {c : Prop} [Decidable c] {a b : Sem α} {Q : α → Shared → Prop} (h : c) (k : wpS M A a Q E s) : wpS M A (if c then a else b) Q E s := by rw [if_pos h]; exact k
theorem sl_below {Γ : Ctx} (hn : NoDec Γ.below) (hc : isDec Γ.code = false) (p : Pos) : NoDec ((Γ.code, p) :: Γ.below) := by
  intro x hx
  rcases List.mem_cons.mp hx with rfl | hx
  · exact hc
  · exact hn x hx
theorem sl_run {c : Code} {h : Option Value} {Q : Flow → Shared → Prop} (hc : codeS M (A.mark h) c (fun r s' => match r with | .ok f => Q f s' | .error e => E e s') s) (hnb : h ≠ some byPass := by intro x; cases x) : wpS M A (run c h) Q E s :=
  fun Γ p hi hn hd => by rw [Sem.wp_run]; exact hc _ p rfl (hi.enter c h p hnb) (sl_below hn hd p)
theorem sl_runValue {c : Code} {Q : Value → Shared → Prop} (hc : codeS M A c (fun r s' => match r with | .ok (.ret v) => Q v s' | .ok _ => False | .error e => E e s') s) : wpS M A (runValue c) Q E s :=
  fun Γ p hi hn hd => by rw [Sem.wp_runValue]; exact hc _ p rfl (hi.enter c none p (by intro x; cases x)) (sl_below hn hd p)
theorem sl_call {f : Value} {pos : List Value} {kw : List (Str × Value)} {Q : Value → Shared → Prop} (hc : codeS M A (.call f ⟨pos, kw⟩) (fun r s' => match r with | .ok (.ret v) => Q v s' | .ok _ => False | .error e => E e s') s) : wpS M A (call f pos kw) Q E s := sl_runValue hc
theorem sl_code_of {c : Code} {R : Result → Shared → Prop} (h : codeAny M A c R s) : codeS M A c R s := fun Γ p hc hb _ => h Γ p hc hb
theorem sl_code_mono {c : Code} {R R' : Result → Shared → Prop} (h : codeS M A c R s) (hR : ∀ r s, R r s → R' r s) : codeS M A c R' s := fun Γ p hc hb hn => wpCode_mono hR (h Γ p hc hb hn)
theorem sl_tree {c : Code} {R : Result → Shared → Prop} (hd : isDec c = false)
    (h : wpS M (A.under c) (M.den c) (fun fin s' => match fin with | .done f => R (.ok f) s' | .again c' => c'.quiet = true ∧ codeS M A c' R s') (fun e s' => R (.error e) s') s) : codeS M A c R s := fun Γ p hc hb hn => by
  rw [wpCode_iff_wp, hc]
  refine Sem.wp_mono M Γ _ (fun fin p' s' h' => ?_) (fun _ _ _ h' => h') p s (h Γ p (hc ▸ hb.in) hn (hc ▸ hd))
  cases fin with
  | done f => exact h'
  | again c' => exact ⟨h'.1, h'.2 (Γ.goto c') p' rfl (hb.goto c') hn⟩
end Sl
section Sl2
open PySem.Calls
variable {prog : Program} {w : World} {A : Around} {E : Value → Shared → Prop} {s : Shared} {R : Result → Shared → Prop}
theorem sl_call_function {a : Addr} {args : Args} {o : Obj} {fd : FuncData} {body : List Stmt} (hroom : A.depth < recursionLimit) (ho : s.heap.get? a = some o)
    (hd' : o.data = .func fd) (hco : fd.scope.isCoroutine = false) (hgen : fd.scope.isGenerator = false) (hbody : fd.body = .stmts body) (hcd : s.heap.CodeRec fd.code fd.qualname)
    (h : wpAny (model prog w) A.in1 (bindArgs fd args) (fun binds s₁ =>
      wpAny (model prog w) A.in1 (newFunctionEnv fd.scope fd.globals fd.closure binds (fd.qualname ++ ".<locals>.") (some a) fd.code none fd.builtins)
        (fun env s₂ => s₂.heap.NoLimit ∧ codeS (model prog w) A (.func body env) R s₂) (fun e s' => R (.error e) s') s₁) (fun e s' => R (.error e) s') s) :
    codeS (model prog w) A (.call (.ref a) args) R s := by
  refine sl_tree rfl (sl_of ?_)
  show wpAny _ A.in1 (callAny (.ref a) args) _ _ s
  refine wpAny_bind (m := load a) (wpAny_load ho ?_)
  obtain ⟨c, oc, vs, tq, hc, hoc, hdc, hq⟩ := hcd
  rw [hd']
  show wpAny _ A.in1 (callFunction a fd args) _ _ s
  unfold callFunction
  dsimp only
  rw [hco, hgen, hbody, hc]
  dsimp only
  rw [hc] at h
  refine wpAny_bind (m := field (.ref c) 1) (wpAny_field hoc hdc hq (wpAny_bind (wpAny_pure ?_)))
  exact wpAny_bind (wpAny_mono h (fun binds s₁ h₁ => wpAny_bind (wpAny_mono h₁ (fun env s₂ h₂ => wpAny_bind (wpAny_enterFrame h₂.1 hroom
    (wpAny_pure (And.intro rfl h₂.2)))) fun _ _ h' => h')) fun _ _ h' => h')
theorem sl_func {body : List Stmt} {env : Env}
    (h : wpS (model prog w) (A.deeper env) (execs body env) (fun f s' => R (.ok (.ret (match f with | .ret v => v | _ => .none))) s')
      (fun e s' => wpAny (model prog w) (A.deeper env) (leaving env e) (fun _ s'' => R (.error e) s'') (fun e' s'' => R (.error e') s'') s') s) :
    codeS (model prog w) A (.func body env) R s := by
  refine sl_tree rfl ?_
  show wpS _ (A.deeper env) (do point; match ← (execs body env).onRaise (leaving env) with | .ret v => ret v | _ => ret .none) _ _ s
  refine sl_bindA (wpAny_point (sl_bind (sl_onRaise (sl_mono h (fun f s' h' => ?_) fun _ _ h' => h'))))
  cases f <;> exact sl_pure h'
theorem sl_call_def {a : Addr} {o : Obj} {fd : FuncData} {body : List Stmt} {args : Args} {binds : List (Str × Value)}
    (hroom : A.depth < recursionLimit) (ho : s.heap.get? a = some o) (hdata : o.data = .func fd) (hlim : s.heap.NoLimit) (hcd : s.heap.CodeRec fd.code fd.qualname)
    (hbody : fd.body = .stmts body) (hbind : BindsTo s fd args binds)
    (hcell : ∀ x ∈ fd.scope.names, x.2 ≠ .cell) (hloc : ∀ x ∈ binds, fd.scope.names.lookup x.1 = some .local)
    (h : ∀ h₀, h₀.Ns s.heap.objs.size (fun x => binds.reverse.lookup x) → (∀ b o, s.heap.get? b = some o → h₀.get? b = some o) →
      wpS (model prog w) (A.deeper (callEnv fd s.heap.objs.size a)) (execs body (callEnv fd s.heap.objs.size a)) (fun f s' => R (.ok (.ret (match f with | .ret v => v | _ => .none))) s')
        (fun e s' => wpAny (model prog w) (A.deeper (callEnv fd s.heap.objs.size a)) (leaving (callEnv fd s.heap.objs.size a) e) (fun _ s'' => R (.error e) s'') (fun e' s'' => R (.error e') s'') s')
        { s with heap := h₀, toks := s.toks + binds.length })
    (hco : fd.scope.isCoroutine = false := by rfl) (hgen : fd.scope.isGenerator = false := by rfl) (hk : fd.scope.kind = .function := by rfl) :
    codeS (model prog w) A (.call (.ref a) args) R s := by
  refine sl_call_function hroom ho hdata hco hgen hbody hcd (hbind _ _ _ _ ?_)
  refine wpAny_newFunctionEnv hcell hloc (fun h₀ hns₀ hsb₀ => ⟨hlim.fresh _ hsb₀, sl_func (h h₀ hns₀ fun b o e => ?_)⟩) hk
  exact hsb₀.extBut b o (Nat.ne_of_lt (Heap.lt_size e)) (Heap.get?_push_of_some _ e)
end Sl2
end
section
open PySem PySem.W PyProof.Rows
set_option Elab.async false
set_option maxRecDepth 100000
set_option maxHeartbeats 8000000
section Sb
open PySem.Calls PySem.Builtin.Bytes
variable {prog : Program} {w : World} {M : Model} {A : Around} {E : Value → Shared → Prop} {s : Shared} {R : Result → Shared → Prop}
theorem sl_stackAny {f : Code × Pos → Bool} {Q : Bool → Shared → Prop} (hf : ∀ c p, c.isGuard = false → isDec c = false → f (c, p) = false) (hg : A.guards = some []) (h : Q false s) :
    wpS M A (do return (← stack).any f) Q E s := fun Γ p hi hn hc => by
  show Q (((Γ.code, p) :: Γ.below).any f) s
  have hgu : Γ.code.guards ++ guardsOf Γ.below = [] := hi.2.2.2.1 _ hg
  have : ((Γ.code, p) :: Γ.below).any f = false := by
    rw [List.any_eq_false]
    intro x hx
    have hgx : x.1.isGuard = false := by
      cases q : x.1.isGuard with
      | false => rfl
      | true =>
        exfalso
        have : x.1 ∈ guardsOf ((Γ.code, p) :: Γ.below) := by
          unfold guardsOf
          exact List.mem_filter.mpr ⟨List.mem_map_of_mem hx, q⟩
        rw [guardsOf_cons, hgu] at this
        cases this
    have hdx : isDec x.1 = false := sl_below hn hc p x hx
    rw [hf x.1 x.2 hgx hdx]; exact Bool.false_ne_true
  rw [this]; exact h
theorem sl_gd {id : String} {args : Args} (h : guardIds.contains id = true) (hg : (Code.builtin id args).isGuard = false) : False := by
  have : (Code.builtin id args).isGuard = true := h
  rw [hg] at this; cases this
theorem sl_exported {a : Addr} {Q : Bool → Shared → Prop} (hg : A.guards = some []) (h : Q false s) : wpS M A (exported (.ref a)) Q E s := by
  unfold exported
  refine sl_stackAny (fun c p hgc hd => ?_) hg h
  delta PySem.Builtin.Bytes.exported.match_1
  cases c
  all_goals try rfl
  rename_i id args
  obtain ⟨pos, kws⟩ := args
  have n1 : ¬ id = "bytearray.__contains__" := fun e => by subst e; exact sl_gd (by decide +kernel) hgc
  have n2 : ¬ id = "bytearray.__mod__" := fun e => by subst e; exact sl_gd (by decide +kernel) hgc
  have n3 : ¬ id = "bytearray.__rmod__" := fun e => by subst e; exact sl_gd (by decide +kernel) hgc
  have n4 : ¬ id = "_struct.pack_into.held" := fun e => by subst e; exact sl_gd (by decide +kernel) hgc
  have n5 : ¬ id = "bytearray.find.held" := fun e => by subst e; exact sl_gd (by decide +kernel) hgc
  refine (dif_neg n1).trans ((dif_neg n2).trans ((dif_neg n3).trans ((dif_neg n4).trans ((dif_neg n5).trans ?_))))
  cases pos with
  | nil => rfl
  | cons v r =>
    show (Builtin.Bytes.sameRef v (Value.ref a) && decodersThatHold.contains id) = false
    rw [show decodersThatHold.contains id = false from hd, Bool.and_false]
end Sb
end
section
open PySem PySem.W PyProof.Rows
set_option Elab.async false
set_option maxRecDepth 100000
set_option maxHeartbeats 8000000
section Sc
open PySem.Calls PySem.Builtin.Bytes
variable {prog : Program} {w : World} {M : Model} {A : Around} {E : Value → Shared → Prop} {s : Shared} {R : Result → Shared → Prop}
theorem by_mro : mroOf (.type "bytearray") = pure [.type "bytearray", .type "object"] := by rw [mroOf_type]; kernel_rfl
theorem by_new : typeLookup (.type "bytearray") "__new__" = pure (some (.builtin "bytearray.__new__")) := by rw [typeLookup_type, builtinLookup_eq_fast]; kernel_rfl
theorem by_slot_init : Slot "bytearray" "__init__" "bytearray.__init__" :=
  .of (owner := "bytearray") (n := "__init__") (by rw [typeLookup_type, builtinLookup_eq_fast]; kernel_rfl) (by decide +kernel) (by decide +kernel) (by decide +kernel)
    (by first | exact .inl (by decide +kernel) | exact .inr (by decide +kernel)) (by rw [isSubtype_type]; kernel_rfl)
theorem by_called : TypeCalled "bytearray" "bytearray.__new__" "bytearray.__init__" :=
  ⟨by decide +kernel, by decide +kernel, ⟨_, _, by_mro⟩, madeBy_type by_mro by_new (by decide +kernel), by decide +kernel, by rw [isSubtype_type]; kernel_rfl, by_slot_init⟩
theorem by_typeCall (a : Value) : checkTypeCall "bytearray" ⟨[a], []⟩ = pure () := by kernel_rfl
theorem by_newCall (a : Value) : checkBuiltinCall "bytearray.__new__" ⟨[.type "bytearray", a], []⟩ = pure () := by kernel_rfl
theorem by_entry_init : entryFor table "bytearray.__init__" = some Builtin.«bytearray.__init__» := entryFor_of_tree (by kernel_rfl)
theorem by_args_init (a b : Value) : argsOk "bytearray.__init__" ⟨[a, b], []⟩ := by unfold argsOk; kernel_rfl
theorem by_entry_new : entryFor table "bytearray.__new__" = some Builtin.«list.__new__» :=
  entryFor_alias (id' := "list.__new__") (by rw [fastTable_eq_tree]; kernel_rfl) (by decide +kernel) (by decide +kernel) (by rw [fastTable_eq_tree]; kernel_rfl)
theorem by_plain_new : plainId "bytearray.__new__" = true := by decide +kernel
theorem by_sub : isSubtype (.type "bytearray") (.type "bytearray") = pure true := by rw [isSubtype_type]; kernel_rfl
set_option maxRecDepth 1000000 in
theorem by_owner : ("bytearray.__new__".splitOn ".__new__").headD "" = "bytearray" := by simp +decide [String.splitOn, String.splitOnAux]
noncomputable def byObj (b : Array UInt8) : Obj := { cls := .type "bytearray", data := .bytearray b }
theorem by_code_new (a : Value) {Q₁ : Value → Shared → Prop} (h : Q₁ (.ref s.heap.objs.size) { s with heap := s.heap.push (byObj #[]) }) :
    codeAny (model prog w) A (.call (.builtin "bytearray.__new__") ⟨[.type "bytearray", a], []⟩) (wants Q₁ E) s := by
  refine codeAny_of_tree ?_
  show wpAny _ A.in1 (do checkBuiltinCall "bytearray.__new__" ⟨[.type "bytearray", a], []⟩; again (.builtin "bytearray.__new__" ⟨[.type "bytearray", a], []⟩)) _ _ s
  refine wpAny_bind (wpAny_of_eq (by_newCall a) (wpAny_pure ⟨plainId_quiet by_plain_new _, codeAny_builtin_stack by_entry_new rfl fun p st => ?_⟩))
  rw [Around.under_plainId by_plain_new _]
  have hsub := by_sub
  have hown := by_owner
  obtain ⟨hp, g, d, tk, os⟩ := s
  simp only [hown]
  wp_walk
  exact h
end Sc
end
section
open PySem PySem.W PyProof.Rows
set_option Elab.async false
set_option maxRecDepth 100000
set_option maxHeartbeats 8000000
section Sd
open PySem.Calls PySem.Builtin.Bytes
variable {prog : Program} {w : World} {M : Model} {A : Around} {E : Value → Shared → Prop} {s : Shared} {R : Result → Shared → Prop}
theorem by_type {N : Addr} {b : Array UInt8} (ho : s.heap.get? N = some (byObj b)) : s.TypeIs (.ref N) "bytearray" := ⟨_, ho, rfl⟩
theorem by_rel : typeLookup (.type "bytearray") "__release_buffer__" = pure (some (.builtin "bytearray.__release_buffer__")) := by rw [typeLookup_type, builtinLookup_eq_fast]; kernel_rfl
theorem by_bind (v : Value) : bindOptional "bytearray.__init__" "bytearray" ["source", "encoding", "errors"] [v] [] = pure [some v, none, none] := by kernel_rfl
theorem by_int_index : typeLookup (.type "int") "__index__" = pure (some (.builtin "int.__index__")) := by rw [typeLookup_type, builtinLookup_eq_fast]; kernel_rfl
theorem by_ownRelease {N : Addr} {b : Array UInt8} {Q : Bool → Shared → Prop} (ho : s.heap.get? N = some (byObj b)) (h : Q false s) : wpAny M A (ownRelease (.ref N)) Q E s := by
  unfold ownRelease slotIsOwn
  refine wpAny_bind (wpAny_bind (wpAny_specialOf (by_type ho) by_rel ?_))
  dsimp only
  have e1 : ¬ (!String.endsWith "bytearray.__release_buffer__" ("." ++ "__release_buffer__")) = true := by decide +kernel
  rw [if_neg e1]
  have e2 : String.dropRight "bytearray.__release_buffer__" (String.length "__release_buffer__" + 1) = "bytearray" := by decide +kernel
  rw [e2]
  exact wpAny_isInstance (by_type ho) by_sub (wpAny_pure h)
theorem by_write {N : Addr} {b : Array UInt8} {f : Array UInt8 → Array UInt8} {Q : Unit → Shared → Prop} (ho : s.heap.get? N = some (byObj b)) (hz : (f b).size ≤ sizeLine)
    (h : ∀ h', h'.get? N = some (byObj (f b)) → Heap.SameBut N s.heap h' → Q () { s with heap := h' }) : wpAny M A (write (.ref N) f) Q E s := by
  unfold write updateBytearray
  refine wpAny_bind (wpAny_load ho ?_)
  have hn : (s.heap.update N (Obj.mapBytearray f)).get? N = some (byObj (f b)) := Heap.get?_update_self _ ho rfl
  refine wpAny_bind (wpAny_update ho ?_)
  refine wpAny_lookBehind (o := byObj (f b)) hn ?_ (h _ hn (Heap.SameBut.update ..))
  show (if (f b).size > sizeLine then some "bytearray:memory" else none) = none
  rw [if_neg (Nat.not_lt.mpr hz)]
theorem rx4_if {α : Type} {c : Prop} [Decidable c] {a b : Sem α} {Q : α → Shared → Prop} (h : ¬ c) (k : wpAny M A b Q E s) : wpAny M A (if c then a else b) Q E s := by rw [if_neg h]; exact k
theorem by_init {N : Addr} {n : Int} {t : Tok} {Q : Shared → Prop} (hg : A.guards = some []) (ho : s.heap.get? N = some (byObj #[])) (h0 : 0 < n) (hn : n ≤ 1000)
    (h : ∀ h', h'.get? N = some (byObj (Array.replicate n.toNat 0)) → Heap.SameBut N s.heap h' → Q { s with heap := h' }) :
    wpS M A (Builtin.«bytearray.__init__» ⟨[.ref N, .int n t], []⟩) (fun fin s' => fin = .done (.ret .none) ∧ Q s') E s := by
  unfold Builtin.«bytearray.__init__»
  refine sl_bindA (by_ownRelease ho ?_)
  refine sl_if (by decide) ?_
  dsimp only
  rw [by_bind]
  refine sl_bindA (wpAny_pure ?_)
  dsimp only
  refine sl_bindA (m := checkCodecArg "bytearray.__init__" "bytearray" "encoding" none) (wpAny_pure ?_)
  refine sl_bindA (m := checkCodecArg "bytearray.__init__" "bytearray" "errors" none) (wpAny_pure ?_)
  refine sl_bind (sl_bind (sl_exported hg ?_))
  refine sl_of ?_
  refine wpAny_bind (m := exportsOf (.ref N)) ?_
  unfold exportsOf
  refine wpAny_bind (wpAny_load ho (wpAny_pure (wpAny_pure ?_)))
  refine sl_if (by decide) ?_
  refine sl_bindA (by_write ho (Nat.zero_le _) fun h1 g1 sb1 => ?_)
  refine sl_bindA (m := asStr? (.int n t)) (wpAny_pure ?_)
  refine sl_if (by decide) ?_
  refine sl_bindA (rx4_if (by decide) (rx4_if (by decide) (wpAny_pure ?_)))
  refine sl_bindA (wpAny_specialOf (v := .int n t) (T := "int") rfl by_int_index ?_)
  refine sl_ifp rfl ?_
  refine sl_bindA (m := (asIndex (.int n t)).attempt) (wpAny_pure ?_)
  dsimp only
  refine sl_if ?_ ?_
  · have e : fitsIndex n = true := by unfold fitsIndex; simp only [Bool.and_eq_true, decide_eq_true_eq]; omega +splitDisjunctions
    rw [e]; decide
  refine sl_if (by omega +splitDisjunctions) ?_
  refine sl_if (by simp only [beq_iff_eq]; omega +splitDisjunctions) ?_
  refine sl_if ?_ ?_
  · have e : Builtin.Bytes.tooLong n.toNat = false := by
      show decide (n.toNat > sizeLine) = false
      have : n.toNat ≤ sizeLine := Nat.le_trans (by omega +splitDisjunctions) (show 1000 ≤ sizeLine from Nat.le_of_ble_eq_true rfl)
      exact decide_eq_false (Nat.not_lt.mpr this)
    rw [e]; decide
  refine sl_bindA (wpAny_rule ?_)
  refine sl_ifp h0 ?_
  refine sl_bindA (by_write g1 ?_ fun h2 g2 sb2 => ?_)
  · rw [Array.size_replicate]; exact Nat.le_trans (by omega +splitDisjunctions) (show 1000 ≤ sizeLine from Nat.le_of_ble_eq_true rfl)
  exact sl_pure ⟨rfl, h h2 g2 (sb1.trans sb2)⟩
end Sd
end
section
open PySem PySem.W PyProof.Rows
set_option Elab.async false
set_option maxRecDepth 100000
set_option maxHeartbeats 8000000
section Se
open PySem.Calls PySem.Builtin.Bytes
variable {prog : Program} {w : World} {A : Around} {E : Value → Shared → Prop} {s : Shared} {R : Result → Shared → Prop}
theorem sl_nodec {id : String} {args : Args} (h : Builtin.Bytes.decodersThatHold.contains id = false) : isDec (.builtin id args) = false := by
  obtain ⟨pos, kw⟩ := args
  cases pos with
  | nil => rfl
  | cons v r => exact h
theorem by_init_code {N : Addr} {n : Int} {t : Tok} {Q : Shared → Prop} (hg : A.guards = some []) (ho : s.heap.get? N = some (byObj #[])) (h0 : 0 < n) (hn : n ≤ 1000)
    (h : ∀ h', h'.get? N = some (byObj (Array.replicate n.toNat 0)) → Heap.SameBut N s.heap h' → Q { s with heap := h' }) :
    codeS (model prog w) A (.call (.builtin "bytearray.__init__") ⟨[.ref N, .int n t], []⟩) (wants (fun r s' => r = .none ∧ Q s') E) s := by
  refine sl_tree rfl ?_
  show wpS _ A.in1 (do checkBuiltinCall "bytearray.__init__" ⟨[.ref N, .int n t], []⟩; again (.builtin "bytearray.__init__" ⟨[.ref N, .int n t], []⟩)) _ _ s
  refine sl_bindA (by_slot_init.check _ _ _ _ _ _ _ _ (by_type ho) (by_args_init _ _) ?_)
  refine sl_pure ⟨plainId_quiet by_slot_init.plain _, ?_⟩
  refine sl_tree (sl_nodec (by decide +kernel)) ?_
  show wpS _ _ (match entryFor table "bytearray.__init__" with | some b => b ⟨[.ref N, .int n t], []⟩ | none => unsupported ((withoutEnding? "bytearray.__init__" "#data").getD "bytearray.__init__")) _ _ s
  rw [by_entry_init, Around.under_plainId by_slot_init.plain]
  refine sl_mono (by_init hg ho h0 hn h) (fun fin s' hq => ?_) fun _ _ x => x
  obtain ⟨rfl, hq⟩ := hq
  exact ⟨rfl, hq⟩
theorem by_make {n : Int} {t : Tok} {Q : Value → Shared → Prop} (hg : A.guards = some []) (h0 : 0 < n) (hn : n ≤ 1000)
    (h : ∀ h', h'.get? s.heap.objs.size = some (byObj (Array.replicate n.toNat 0)) → (∀ b o, s.heap.get? b = some o → h'.get? b = some o) → Q (.ref s.heap.objs.size) { s with heap := h' }) :
    wpS (model prog w) A (call (.type "bytearray") [.int n t]) Q E s := by
  refine sl_call (sl_tree rfl ?_)
  show wpS _ _ (callAny (.type "bytearray") _) _ _ _
  refine sl_pure ⟨Code.quiet_builtin _ (by decide +kernel), sl_tree (sl_nodec (by decide +kernel)) ?_⟩
  show wpS _ _ (match entryFor table "type.__call__" with | some b => b ⟨[.type "bytearray", .int n t], []⟩ | none => unsupported ((withoutEnding? "type.__call__" "#data").getD "type.__call__")) _ _ s
  rw [F.entry_type_call, Around.under_plain (weight_type_call_type "bytearray" [.int n t] []) rfl]
  have h1 := by_called.notType
  have h2 := by_called.canCreate
  unfold Builtin.«type.__call__»
  refine sl_if (by rw [h1]; decide) ?_
  dsimp only
  refine sl_if (by rw [h2]; decide) ?_
  rw [by_typeCall]
  refine sl_bindA (wpAny_pure ?_)
  rw [by_mro]
  refine sl_bindA (wpAny_pure ?_)
  refine sl_if (by decide) ?_
  rw [by_called.made]
  refine sl_bindA (wpAny_pure ?_)
  refine sl_bindA (wpAny_pure ?_)
  refine sl_bindA (wpAny_holding (wpAny_call (by_code_new _ ?_)))
  have ho : (s.heap.push (byObj #[])).get? s.heap.objs.size = some (byObj #[]) := Heap.get?_push_size _ rfl
  refine sl_bindA (wpAny_isInstance (by_type (s := { s with heap := s.heap.push (byObj #[]) }) ho) by_sub ?_)
  refine sl_if (by decide) ?_
  refine sl_bind (sl_holding ?_)
  unfold callSpecial?
  refine sl_bindA (wpAny_specialOf (by_type (s := { s with heap := s.heap.push (byObj #[]) }) ho) by_slot_init.lookup ?_)
  simp only [by_slot_init.bind]
  refine sl_holding (sl_bindA (wpAny_pure (sl_bind (sl_call (sl_code_mono (by_init_code (E := E) (Q := fun s' => Q (.ref s.heap.objs.size) s') hg ho h0 hn fun h' g sb => ?_) fun r s' hr => ?_)))))
  · exact h h' g fun b o e => sb.extBut b o (Nat.ne_of_lt (Heap.lt_size e)) (Heap.get?_push_of_some _ e)
  · cases r with
    | error e => exact hr
    | ok fl =>
      cases fl with
      | ret v =>
        obtain ⟨rfl, hq⟩ := hr
        exact sl_pure (sl_if (by decide) (sl_pure hq))
      | _ => exact hr.elim
end Se
end
section
open PySem PySem.W PyProof.Rows
set_option Elab.async false
set_option maxRecDepth 100000
set_option maxHeartbeats 8000000
noncomputable abbrev Nev : Value → Shared → Prop := fun _ _ => False
section Sf
open PySem.Calls
variable {prog : Program} {w : World} {M : Model} {A : Around} {E : Value → Shared → Prop} {s : Shared} {env : Env}
theorem sl_execs_cons {st : Stmt} {rest : List Stmt} {Q : Flow → Shared → Prop}
    (h : wpS M A (exec st env) (fun f s' => match f with | .next => wpS M A (execs rest env) Q E s' | f => Q f s') E s) :
    wpS M A (execs (st :: rest) env) Q E s := fun Γ p hi hn hc => by
  rw [execs_cons, Sem.wp_bind']
  refine Sem.wp_mono M Γ _ (fun f p' s' h' => ?_) (fun _ _ _ h' => h') _ _ (h Γ p hi hn hc)
  cases f <;> first | exact h' Γ p' hi hn hc | exact h'
theorem sl_execs_consA {st : Stmt} {rest : List Stmt} {Q : Flow → Shared → Prop}
    (h : wpAny M A (exec st env) (fun f s' => match f with | .next => wpS M A (execs rest env) Q E s' | f => Q f s') E s) :
    wpS M A (execs (st :: rest) env) Q E s := sl_execs_cons (sl_of h)
theorem sl_Assign_Name {x : Str} {pos' : Pos} {value : Expr} {pos : Pos} {Q : Flow → Shared → Prop}
    (h : wpS M A (eval value env) (fun v s₁ => wpAny M A (storeName env x v) (fun _ => Q .next) E s₁) E s)
    (hs : swapsWith value (some (.Name x pos')) pos.line env = pure false := by rfl) :
    wpS M A (exec (.Assign [.Name x pos'] value pos) env) Q E s := fun Γ p hi hn hc => by
  simp only [exec_Assign_Name env x pos' value pos hs, Sem.wp_bind', Sem.wp_cmd_standAt, Sem.wp_bindName, Sem.wp_pure']
  exact Sem.wp_mono M Γ _ (fun v _ s₁ h₁ => h₁ Γ _ hi) (fun _ _ _ h' => h') _ _ (h Γ _ hi hn hc)
theorem sl_callWith_type {pos : Pos} {T : String} {first : List Value} {args : List (Bool × Sem Value)} {Q : Value → Shared → Prop} (hplain : args.any (·.1) = false)
    (h : wpAny M A (evalArgs (.type T) true args []) (fun a s₁ => wpS M A (call (.type T) (first ++ a.pos) a.kw) Q E s₁) E s) :
    wpS M A (callWith pos (.type T) first args []) Q E s := by
  unfold callWith
  refine sl_bindA (wpAny_holding (wpAny_mono h (fun a s₁ h₁ => sl_bindA (wpAny_standAt ?_)) fun _ _ x => x))
  simp -iota only [hplain, List.any_nil, Bool.or_false]
  refine sl_bindA (wpAny_pure ?_)
  exact sl_bind (sl_mono h₁ (fun r s₂ hr => sl_bindA (wpAny_holding (wpAny_point (sl_pure hr)))) fun _ _ x => x)
theorem sl_callWith_function {pos : Pos} {a : Addr} {o : Obj} {fd : FuncData} {first : List Value} {args : List (Bool × Sem Value)} {Q : Value → Shared → Prop}
    (hplain : args.any (·.1) = false) (hlen : ¬ args.length + 2 * 0 > 30)
    (h : wpAny M A (evalArgs (.ref a) true args []) (fun x s₁ => (s₁.heap.get? a = some o ∧ o.data = .func fd) ∧ wpS M A (call (.ref a) (first ++ x.pos) x.kw) Q E s₁) E s) :
    wpS M A (callWith pos (.ref a) first args []) Q E s := by
  unfold callWith
  refine sl_bindA (wpAny_holding (wpAny_mono h (fun x s₁ h₁ => sl_bindA (wpAny_standAt ?_)) fun _ _ x => x))
  simp -iota only [hplain, List.any_nil, Bool.or_false]
  refine sl_bindA (m := keeperOf (.ref a)) ?_
  unfold keeperOf
  refine wpAny_bind (wpAny_load h₁.1.1 ?_)
  rw [h₁.1.2]
  refine wpAny_pure ?_
  dsimp only
  refine sl_if hlen ?_
  refine sl_bind ?_
  refine sl_mono (Q := fun r s' => Q r s') ?_ (fun r s₂ hr => sl_bindA (wpAny_holding (wpAny_point (sl_pure hr)))) fun _ _ x => x
  unfold callMarked
  exact sl_keep h₁.2
theorem sl_eval_Call {func : Expr} {args : List Expr} {pos : Pos} {Q : Value → Shared → Prop} {f : Value}
    (hne : eval (.Call func args [] pos) env = (do callWith pos (← eval func env) [] (backTo pos (starEach args env)) (backToKw pos (keywordEach [] env))))
    (h : wpAny M A (eval func env) (fun v s₁ => v = f ∧ wpS M A (callWith pos f [] (backTo pos (starEach args env)) []) Q E s₁) E s) :
    wpS M A (eval (.Call func args [] pos) env) Q E s := by
  rw [hne]
  refine sl_bindA (wpAny_mono h (fun v s₁ h₁ => ?_) fun _ _ x => x)
  obtain ⟨rfl, h₁⟩ := h₁
  exact h₁
end Sf
section Sg
open PySem.Calls
variable {prog : Program} {w : World} {A : Around} {E : Value → Shared → Prop} {s : Shared} {env : Env} {R : Result → Shared → Prop}
theorem sl_forLoop {target : Expr} {it : Value} {body : List Stmt} (I : Nat → Shared → Prop)
    (turn : ∀ n s, I n s → wpAny (model prog w) A (pyNext it) (fun r s₁ => match r with
      | none => R (.ok .next) s₁
      | some v => wpAny (model prog w) A (assign target env v) (fun _ s₂ => wpS (model prog w) A (execs body env) (fun f s₃ => match f with
          | .next | .cont => ∃ m, m < n ∧ I m s₃
          | .brk => R (.ok .next) s₃
          | .ret v => R (.ok (.ret v)) s₃) Nev s₂) Nev s₁) Nev s)
    (ht : ∀ v, letOwnedTupleGo target it v = pure () := by intro _; rfl) : ∀ (n : Nat) (s : Shared), I n s → codeS (model prog w) A (.forLoop target it body [] env) R s := by
  intro n
  induction n using Nat.strongRecOn with
  | ind n ih =>
    intro s hI
    refine sl_tree rfl ?_
    rw [Around.under_of_weight (c := .forLoop target it body [] env) rfl]
    show wpS _ _ ((forTurn target it body [] env).onRaise (fun x => do noteFrame x env; theTreesLotGoes x)) _ _ s
    refine sl_onRaise (sl_mono (E := Nev) ?_ (fun _ _ x => x) fun _ _ x => x.elim)
    unfold forTurn
    refine sl_bindA (wpAny_standAt (sl_bindA (wpAny_onRaise (wpAny_mono (turn n s hI) (fun r s₁ h₁ => ?_) fun _ _ h' => h'.elim))))
    cases r with
    | none => exact sl_pure ⟨rfl, sl_code_of (codeAny_block (wpAny_execs_nil h₁))⟩
    | some v =>
      refine sl_bindA (wpAny_of_eq (ht v) ?_)
      refine sl_bindA (wpAny_mono h₁ (fun _ s₂ h₂ => sl_bind (sl_mono h₂ (fun f s₃ h₃ => ?_) fun _ _ h' => h')) fun _ _ h' => h')
      cases f with
      | next => obtain ⟨m, hm, hI'⟩ := h₃; exact sl_pure ⟨rfl, ih m hm s₃ hI'⟩
      | cont => obtain ⟨m, hm, hI'⟩ := h₃; exact sl_pure ⟨rfl, ih m hm s₃ hI'⟩
      | brk => exact sl_pure h₃
      | ret v => exact sl_pure h₃
theorem sl_For {target iter : Expr} {body : List Stmt} {pos : Pos} {Q : Flow → Shared → Prop}
    (h : wpAny (model prog w) A (eval iter env) (fun x s₁ => wpAny (model prog w) A (pyIter x) (fun it s₂ =>
      codeS (model prog w) A (.forLoop target it body [] env) (fun r s' => match r with | .ok f => Q f s' | .error _ => False) s₂) Nev s₁) Nev s)
    (hs : ∀ x, foldedSetIterable iter env x = pure x := by intro _; rfl) :
    wpS (model prog w) A (exec (.For target iter body [] pos) env) Q Nev s := by
  rw [exec_For]
  refine sl_bindA (wpAny_standAt (sl_bindA (wpAny_mono h (fun x s₁ h₁ => sl_bindA (wpAny_of_eq (hs x) (sl_bindA (wpAny_standAt (sl_bindA (wpAny_holding
    (wpAny_mono h₁ (fun it s₂ h₂ => ?_) fun _ _ h' => h'))))))) fun _ _ h' => h')))
  unfold runOwn
  refine sl_onRaise (sl_run (sl_code_mono h₂ fun r s' hr => ?_))
  cases r with
  | ok f => exact hr
  | error e => exact hr.elim
end Sg
end
section
open PySem PySem.W PyProof.Rows
set_option Elab.async false
set_option maxRecDepth 100000
set_option maxHeartbeats 8000000
section Sh
theorem sh_thread {prog : Program} {w : World} {t : Sem Fin} {s : Shared} {R : Result → Shared → Prop} (hreg : s.asleep)
    (h : wpS (model prog w) callerA t (fun fin s' => ∃ f, fin = .done f ∧ (R (.ok f) s' ∧ leftWithCleanup s'.gens = false)) (fun e s' => R (.error e) s' ∧ leftWithCleanup s'.gens = false) s) :
    ∃ n r s' s'', runN (denote table) prog w n s ⟨t, .builtin "claim.caller" {}, default, []⟩ = .halted (outcomeOf r) s' ∧
      schedN (denote table) prog w n (.single s ⟨t, .builtin "claim.caller" {}, default, []⟩) = .halted (outcomeOf r) s' ∧ s'.forget = s''.forget ∧ R r s'' := by
  have hw : Sem.wp (model prog w) ⟨.builtin "claim.caller" {}, none, none, [], none⟩ t (Sem.finPost (model prog w) ⟨.builtin "claim.caller" {}, none, none, [], none⟩ fun r s' => R r s' ∧ leftWithCleanup s'.gens = false)
      (fun e _ s' => R (.error e) s' ∧ leftWithCleanup s'.gens = false) default s := by
    refine Sem.wp_mono _ _ t (fun fin p' s' h' => ?_) (fun _ _ _ h' => h') default s (h _ default caller_in (fun x hx => by cases hx) rfl)
    obtain ⟨f, rfl, hf⟩ := h'
    exact hf
  obtain ⟨n, r, s₁, s₂, hs, hn, hfo, hR⟩ := wp_halts_full (M := model prog w) (R := R) hreg hw
  exact ⟨n, r, s₂, s₁, hn, hs, hfo, hR⟩
theorem sh_from {c : ClaimW} {tree : List Value → Sem Fin} {w : World} {s : Shared} {free : Addr → Prop} {gens : Prop} {kept : Heap → Prop} (hz : s.asleep) (hgens : s.gens = #[])
    (hspec : ∀ args, c.pre args = true → WData.layableAll args = true → ∀ ord : List DictEntry → List DictEntry, (∀ l, (ord l).Perm l) →
      ∃ vs s₁, layAllW c.records (classAt s.heap) w.params ord args s = some (vs, s₁) ∧
        wpS (model c.prog w) callerA (tree vs) (fun fin s' => ∃ f, fin = .done f ∧ (c.Ends s args vs s₁ (.ok f) s' ∧ s'.os = s.os ∧ AllBare s'.gens ∧ kept s'.heap))
          (fun e s' => c.Ends s args vs s₁ (.error e) s' ∧ s'.os = s.os ∧ AllBare s'.gens ∧ kept s'.heap) s₁) :
    c.CallFrom (fun vs => ⟨tree vs, .builtin "claim.caller" {}, default, []⟩) w free gens kept s := by
  intro args hpre hlay ord hord
  obtain ⟨vs, s₁, hlaid, hcode⟩ := hspec args hpre hlay ord hord
  have hal := layAllW_rest _ _ _ hlaid
  have hc : wpS (model c.prog w) callerA (tree vs) (fun fin s' => ∃ f, fin = .done f ∧ ((c.Ends s args vs s₁ (.ok f) s' ∧ s'.os = s.os ∧ kept s'.heap) ∧ leftWithCleanup s'.gens = false))
      (fun e s' => (c.Ends s args vs s₁ (.error e) s' ∧ s'.os = s.os ∧ kept s'.heap) ∧ leftWithCleanup s'.gens = false) s₁ :=
    sl_mono hcode (fun fin s' ⟨f, e, h1, h2, h3, h4⟩ => ⟨f, e, ⟨h1, h2, h4⟩, leftWithCleanup_false_of_bare h3⟩) fun e s' ⟨h1, h2, h3, h4⟩ => ⟨⟨h1, h2, h4⟩, leftWithCleanup_false_of_bare h3⟩
  obtain ⟨k, r, s', s'', hrun, hsched, hfo, hcase, hos, hkp⟩ := sh_thread (R := fun r s' => c.Ends s args vs s₁ r s' ∧ s'.os = s.os ∧ kept s'.heap) (Shared.asleep_of_life hal.2.2.2 hz) hc
  obtain ⟨eh, _, _, eo, _⟩ := Shared.forget_eq hfo
  have hcase := hcase.congr eh
  rw [← eh] at hkp
  rw [← eo] at hos
  have hlife : s'.heap.life = s.heap.life := (runN_life _ _ _ hrun).trans hal.2.2.2
  refine ⟨vs, s₁, hlaid, k, _, s', hsched, ?_, (fun _ i x hx => by rw [hgens] at hx; simp at hx), hkp, by rw [hlife], Shared.rest_eq hos⟩
  rcases hcase with ⟨v, rfl, d1, d2, d3, d4, d5⟩ | ⟨e, ob, cls, rfl, d1, d2, d3, d4, d5⟩
  · exact .inl ⟨v, rfl, d1, d2, d3, fun b o y _ => d4 b o y, d5⟩
  · exact .inr ⟨e, ob, cls, rfl, d1, d2, d3, d4, fun b o y _ => d5 b o y⟩
end Sh
end
section
open PySem PySem.W PyProof.Rows
set_option Elab.async false
set_option maxRecDepth 100000
set_option maxHeartbeats 8000000
section Sh2
noncomputable abbrev WalkS (q : Program) (loose : List Str) (XP : (Str → Option Value) → Heap → Prop) (YP : World → Heap → Prop) (r : RowW) (d : DefRec) (kwd : List (Str × Expr)) : Prop :=
  ∀ (w : World) (s₀ s₁ : Shared) (mg mb : Str → Option Value), Ground q loose r.records XP w s₀ mg mb s₁.heap → YP w s₁.heap → ∀ (a : Addr) (o : Obj) (pm cd doc dV kV : Value), s₁.heap.get? a = some o →
    o.data = .func { Calls.docDef d.name d.params d.body d.scope pm cd doc with defaults := dV, kwdefaults := kV } → s₁.heap.CodeRec cd d.name → Dflts mg s₁.heap d.params kwd dV kV → mg d.name = some (.ref a) → s₁.gens = #[] →
    ∀ (args : List WData) (vals : List Value) (as : List Addr), r.claim.pre args = true → WData.layableAll args = true → ReadsAllW r.records (classAt s₀.heap) s₁.heap vals args as → WellAll w.params s₁.heap vals args → (∀ a ∈ as, (a == sysModules) = false) →
      wpS (model r.prog w) callerA (PySem.call (.ref a) vals) (fun v s' => GoodWG r.claim (classAt s₀.heap) (ExcName.means s₀.heap) args s₁ (.ok (.ret v)) s')
        (fun e s' => GoodWG r.claim (classAt s₀.heap) (ExcName.means s₀.heap) args s₁ (.error e) s') s₁
theorem sh_holds {r : OpenRow} {q : Program} {loose : List Str} {Xt : Shared → Bool} {XP : (Str → Option Value) → Heap → Prop} {α : Type} {Yf : Shared → α} {Ya : World → α} {YP : World → Heap → Prop} {d : DefRec} {kwd : List (Str × Expr)} {N : Nat}
    (left : LeftO r.prog q loose Xt Yf Ya N) (hY : ∀ w s, Yf s = Ya w → YP w s.heap) (hYk : ∀ w h h', YP w h → (∀ b o, h.get? b = some o → h'.get? b = some o) → YP w h')
    (hX : ∀ s, Xt s = true → XP (s.heap.nsMap mainGlobals) s.heap) (hXk : ∀ mg h h', XP mg h → (∀ b o, h.get? b = some o → h'.get? b = some o) → XP mg h')
    (hdef : defOf q r.name = some (d, kwd)) (hp : r.prog.theDef r.name = some (d.params, d.body, d.scope)) (hk : kwWritten? d.params.kwonlyargs d.params.kw_defaults = some kwd) (hRf : ∀ s, Xt s = true → RecFacts r.records s.heap) (hwr : (!r.writes || r.records.isEmpty) = true)
    (k1 : r.wellSaid = true) (ok : (chainsOk q && opensWell r.prog && (frees r.toRowW && r.within.isEmpty)) = true) (hb : r.prog.bare) (hw : r.toRowW.promised)
    (call : WalkS q loose XP YP r.toRowW d kwd) : r.Holds := by
  refine ⟨k1, hw, ?_⟩
  obtain ⟨ok, k5⟩ := Bool.and_eq_true_iff.mp ok
  obtain ⟨hch, o1⟩ := Bool.and_eq_true_iff.mp ok
  obtain ⟨k5, k6⟩ := Bool.and_eq_true_iff.mp k5
  obtain ⟨hsame, hu, ha, hap, hm⟩ := frees_parts k5
  refine ⟨⟨hb, o1, by show r.makers.map _ = []; rw [hm]; rfl⟩, hw.witness, fun w => ⟨(left.behind hX hch w).1, fun s' hs' => ?_⟩⟩
  obtain ⟨s₀, hf, hg0, s, hT, hz, hgens, hg, G00, y⟩ := (left.behind (XP := fun mg h => XP mg h ∧ RecFacts r.records h) (fun s hs => ⟨hX s hs, hRf s hs⟩) hch w).2 s' hs'
  have G0 : Ground q loose [] XP w s (s.heap.nsMap mainGlobals) (s.heap.nsMap builtinsNs) s.heap := ⟨G00.T, G00.B, G00.D, G00.TE, G00.TD, G00.W, G00.X.1, G00.cls, G00.has, G00.apart, G00.once, G00.K⟩
  have RF := G00.X.2
  refine ⟨s₀, hf, hg0, s, hT, ?_, RF.1, RF.2.1, ?_⟩
  · intro n hn
    obtain rfl : n = r.name := by split at hn <;> simp_all
    exact pinned_of_view hg G0 hdef hp hk
  have hgens : s.gens = #[] := Array.eq_empty_of_size_eq_zero (beq_iff_eq.mp hgens)
  have G : Ground q loose r.records XP w s _ _ s.heap := RF.ground G0
  have e : callStub r.name = fun vs => ⟨(do match ← nsGet mainNs r.name with
      | some f => do ret (← PySem.call f vs)
      | none => unsupported "claim.caller:no-such-global"), .builtin "claim.caller" {}, default, []⟩ := rfl
  rw [e]
  refine sh_from (c := r.claim) hz hgens fun args hpre hlay ord hord => ?_
  obtain ⟨⟨vs, s₁⟩, hlaid⟩ := Option.isSome_iff_exists.mp (layAllW_isSome (P := w.params) (ord := ord) G.has args r.args s (pre_splitW hpre).1)
  have keeps := layAllW_keeps _ _ _ hlaid
  have hal := layAllW_rest _ _ _ hlaid
  obtain ⟨as, hrd, hin, hold⟩ := reads_layAllW hord _ _ _ hlaid hlay s₁.heap (fun _ _ e => e)
  have L : Laid r.records w s s₁ args vs as := ⟨⟨ord, hord, hlaid⟩, hrd, hin, hold, keeps, hal.1.trans hgens, hal.2.2.1⟩
  have G₁ := G.keeps hXk keeps
  have hi := ident_freeW hu ha hap
  have hwi : r.claim.within = [] := List.isEmpty_iff.mp k6
  obtain ⟨a, o, pm, cd, doc, dV, kV, h1, h2, h3, h4, h5⟩ := G₁.fn hdef
  have main := call w s s₁ _ _ G₁ (hYk _ _ _ (hY w s y) keeps) a o pm cd doc dV kV h2 h3 h4 h5 (defOf_name hdef ▸ h1) L.gens args vs as hpre hlay L.reads L.well (L.low G.low)
  refine ⟨vs, s₁, hlaid, ?_⟩
  refine sl_bindA (wpAny_nsGet G₁.T.g ?_)
  rw [h1]
  refine sl_bind (sl_mono main (fun v s' g => sl_pure ⟨_, rfl, ?_⟩) fun e s' g => ?_)
  · have z := g.laid (c := r.claim) hsame hwi hi L
    exact ⟨z.1, z.2.1, z.2.2, fun q => ⟨namesKept_of hT hg r.keeps keeps g.2.1.old, noTable hwr q⟩⟩
  · have z := g.laid (c := r.claim) hsame hwi hi L
    exact ⟨z.1, z.2.1, z.2.2, fun q => ⟨namesKept_of hT hg r.keeps keeps g.2.1.old, noTable hwr q⟩⟩
end Sh2
end
section
open PySem PySem.W PyProof.Rows
set_option Elab.async false
set_option maxRecDepth 100000
set_option maxHeartbeats 8000000
set_option pp.deepTerms false
set_option pp.deepTerms.threshold 3
set_option pp.proofs false

noncomputable def figS (n : Int) : Str := ⟨#[48 + (n / 10).toNat, 48 + (n % 10).toNat]⟩
theorem figS_len (n : Int) : (figS n).length = 2 := rfl
theorem fig_all : ∀ k : Nat, k < 100 → Txt.slice (Str.ofString (toString (100 + (k : Int)))) (some 1) none = figS (k : Int) := by decide +kernel
theorem fig_text {n : Int} (h0 : 0 ≤ n) (h1 : n ≤ 99) : Txt.slice (Str.ofString (toString (100 + n))) (some 1) none = figS n := by
  obtain ⟨k, rfl⟩ := Int.eq_ofNat_of_zero_le h0
  exact fig_all k (by omega +splitDisjunctions)
theorem fm4a (x : Int) : 0 ≤ x.fmod 4 * 15 := by rw [Int.fmod_eq_emod_of_nonneg _ (by decide)]; omega +splitDisjunctions
theorem fm4b (x : Int) : x.fmod 4 * 15 ≤ 99 := by rw [Int.fmod_eq_emod_of_nonneg _ (by decide)]; omega +splitDisjunctions
theorem fd4a {x : Int} (h : 0 ≤ x) : 0 ≤ x.fdiv 4 := by rw [Int.fdiv_eq_ediv_of_nonneg _ (by decide)]; omega +splitDisjunctions
theorem fd4b {x : Int} (h : x ≤ 255) : x.fdiv 4 ≤ 99 := by rw [Int.fdiv_eq_ediv_of_nonneg _ (by decide)]; omega +splitDisjunctions
theorem ab0 (x : Int) : 0 ≤ (if x < 0 then -x else x) := by split <;> omega +splitDisjunctions
theorem ab1 {x : Int} (h0 : -255 ≤ x) (h1 : x ≤ 255) : (if x < 0 then -x else x) ≤ 255 := by split <;> omega +splitDisjunctions
end
section
open PySem PySem.W PyProof.Rows
set_option Elab.async false
set_option maxRecDepth 100000
set_option maxHeartbeats 8000000
set_option pp.deepTerms false
set_option pp.deepTerms.threshold 3
set_option pp.proofs false

noncomputable def faceS (n : Int) : Str := figS (n.fdiv 4) ++ Str.ofString ":" ++ figS (n.fmod 4 * 15)
theorem faceS_len (n : Int) : (faceS n).length = 5 := by
  unfold faceS; rw [Str.length_append, Str.length_append, figS_len, figS_len]; rfl
noncomputable def absI (n : Int) : Int := if n < 0 then -n else n
noncomputable def zoneS (n d : Int) : Str :=
  if n = 0 ∧ d = 3 then Str.ofString "UTC" else
    (if n < 0 then Str.ofString "-" else if d < 2 then Str.ofString "+" else Str.ofString "") ++
    (if d.fmod 2 = 0 then figS ((absI n).fdiv 4) else Str.ofString (toString ((absI n).fdiv 4))) ++
    (if d < 2 then Str.ofString ":" else Str.ofString "") ++ figS ((absI n).fmod 4 * 15)
theorem dropN {h₀ h : Heap} {L : Addr} {q : Addr × Obj} {news : List (Addr × Obj)} (N : News h₀ L h (q :: news)) : News h₀ L h news := fun p hp => N p (.tail _ hp)
theorem retS {x y : Str} {h₀ h' : Heap} {L : Addr} {m : Str → Option Value} {news : List (Addr × Obj)} {s : Shared} {Q : Value → Shared → Prop} {t : Tok} {tk' : Nat}
    (hret : ∀ (t : Tok) (h' : Heap) (tk' : Nat), Fr h₀ L h' m → News h₀ L h' news → Q (.str x t) { s with heap := h', toks := tk' }) (e : y = x) (F : Fr h₀ L h' m) (N : News h₀ L h' news) : Q (.str y t) { s with heap := h', toks := tk' } := by
  subst e; exact hret t h' tk' F N
theorem retI {x y : Int} {h₀ h' : Heap} {L : Addr} {m : Str → Option Value} {news : List (Addr × Obj)} {s : Shared} {Q : Value → Shared → Prop} {t : Tok} {tk' : Nat}
    (hret : ∀ (t : Tok) (h' : Heap) (tk' : Nat), Fr h₀ L h' m → News h₀ L h' news → Q (.int x t) { s with heap := h', toks := tk' }) (e : y = x) (F : Fr h₀ L h' m) (N : News h₀ L h' news) : Q (.int y t) { s with heap := h', toks := tk' } := by
  subst e; exact hret t h' tk' F N
noncomputable def sideF (p s : Int) : Int := if s = 0 ∨ p.fmod (3 * s) = 0 then 0 else if p.fmod (6 * s) < 3 * s then 1 else -1
end
section
open PySem PySem.W PyProof.Rows
set_option Elab.async false
set_option maxRecDepth 100000
set_option maxHeartbeats 8000000
set_option pp.deepTerms false
set_option pp.deepTerms.threshold 3
set_option pp.proofs false

section Rx
open PySem.Calls PySem.Builtin.Re
theorem rx_plain : PlainAttrs "re.Pattern" :=
  ⟨⟨"object.__getattribute__", by rw [typeLookup_type, builtinLookup_eq_fast]; kernel_rfl, by decide +kernel⟩, by rw [typeLookup_type, builtinLookup_eq_fast]; kernel_rfl⟩
theorem rx_slot_search : Slot "re.Pattern" "search" "re.Pattern.search" :=
  .of (owner := "re.Pattern") (n := "search") (by rw [typeLookup_type, builtinLookup_eq_fast]; kernel_rfl) (by decide +kernel) (by decide +kernel) (by decide +kernel)
    (by first | exact .inl (by decide +kernel) | exact .inr (by decide +kernel)) (by rw [isSubtype_type]; kernel_rfl)
theorem rx_type_search : typeOf (.builtin "re.Pattern.search") = pure (.type "method_descriptor") := by show builtinType _ = _; rw [builtinType_eq_fast]; kernel_rfl
theorem rx_entry_search : entryFor table "re.Pattern.search" = some Builtin.«re.Pattern.search» := entryFor_of_tree (by kernel_rfl)
theorem rx_args_search (a b : Value) : argsOk "re.Pattern.search" ⟨[a, b], []⟩ := by unfold argsOk; kernel_rfl
theorem rm_plain : PlainAttrs "re.Match" :=
  ⟨⟨"object.__getattribute__", by rw [typeLookup_type, builtinLookup_eq_fast]; kernel_rfl, by decide +kernel⟩, by rw [typeLookup_type, builtinLookup_eq_fast]; kernel_rfl⟩
theorem rm_slot_group : Slot "re.Match" "group" "re.Match.group" :=
  .of (owner := "re.Match") (n := "group") (by rw [typeLookup_type, builtinLookup_eq_fast]; kernel_rfl) (by decide +kernel) (by decide +kernel) (by decide +kernel)
    (by first | exact .inl (by decide +kernel) | exact .inr (by decide +kernel)) (by rw [isSubtype_type]; kernel_rfl)
theorem rm_type_group : typeOf (.builtin "re.Match.group") = pure (.type "method_descriptor") := by show builtinType _ = _; rw [builtinType_eq_fast]; kernel_rfl
theorem rm_entry_group : entryFor table "re.Match.group" = some Builtin.«re.Match.group» := entryFor_of_tree (by kernel_rfl)
theorem rm_args_group (a b : Value) : argsOk "re.Match.group" ⟨[a, b], []⟩ := by unfold argsOk; kernel_rfl
end Rx

section Rx2
open PySem.Calls PySem.Builtin.Re
variable {prog : Program} {w : World} {M : Model} {A : Around} {E : Value → Shared → Prop} {s : Shared} {h₀ : Heap} {L : Addr} {m : Str → Option Value} {news : List (Addr × Obj)}
noncomputable def rxRuns : Nat → Sre.M → Option Sre.M
  | 0, _ => none
  | k + 1, x => let y := x.runFor 4; if y.outcome.isSome then some y else rxRuns k y
theorem rx_drive {Q : Sre.M → Shared → Prop} : ∀ (k n : Nat) (x y : Sre.M), rxRuns k x = some y → k ≤ n → Q y s → wpAny M A (reDrive n x) Q E s
  | 0, _, _, _, h, _, _ => by cases h
  | k + 1, 0, _, _, _, h, _ => absurd h (Nat.not_succ_le_zero _)
  | k + 1, n + 1, x, y, h, hn, hq => by
    unfold rxRuns at h
    simp only at h
    unfold reDrive
    show wpAny M A (if (x.runFor 4).outcome.isSome = true then _ else _) Q E s
    split at h
    · rename_i c
      cases h
      rw [if_pos c]
      exact wpAny_pure hq
    · rename_i c
      rw [if_neg c]
      exact wpAny_bind (wpAny_rule (rx_drive k n _ y h (Nat.le_of_succ_le_succ hn) hq))
theorem rx_rules {Q : PUnit → Shared → Prop} (f : Nat → PUnit → Sem (ForInStep PUnit)) (hf : ∀ i u, (∃ t, f i u = (do rule t; pure (.yield ⟨⟩))) ∨ f i u = pure (.yield ⟨⟩)) : ∀ (l : List Nat), Q ⟨⟩ s → wpAny M A (forIn l ⟨⟩ f) Q E s
  | [], h => by rw [List.forIn_nil]; exact wpAny_pure h
  | i :: l, h => by
    rw [List.forIn_cons]
    rcases hf i ⟨⟩ with ⟨t, e⟩ | e
    · rw [e]
      exact wpAny_bind (wpAny_bind (wpAny_rule (wpAny_pure (rx_rules f hf l h))))
    · rw [e]
      exact wpAny_bind (wpAny_pure (rx_rules f hf l h))
theorem rx_end {Q : Option Sre.M → Shared → Prop} {x y : Sre.M} (h : rxRuns 500 x = some y) (ho : y.outcome = some .matched) (hq : Q (some y) s) : wpAny M A (reRunToEnd x) Q E s := by
  unfold reRunToEnd
  refine wpAny_bind (rx_drive 500 _ x y h (by decide) ?_)
  refine wpAny_bind (rx_rules _ (fun i u => ?_) _ ?_)
  · by_cases c : y.seen.has i = true
    · left; exact ⟨_, by rw [if_pos c]⟩
    · right; rw [if_neg c]
  · rw [ho]; exact wpAny_pure hq
end Rx2

section Rx3
open PySem.Calls PySem.Builtin.Re
variable {prog : Program} {w : World} {M : Model} {A : Around} {E : Value → Shared → Prop} {s : Shared} {h₀ : Heap} {L : Addr} {m : Str → Option Value} {news : List (Addr × Obj)}
noncomputable def rxSp (y : Sre.M) (g : Nat) : List Int := if ((2 * g + 1 : Nat) : Int) ≤ y.lastmark then (match y.marks.getD (2 * g) none, y.marks.getD (2 * g + 1) none with | some b, some e => [(b : Int), (e : Int)] | _, _ => [-1, -1]) else [-1, -1]
noncomputable def rxIn (y : Sre.M) (g : Nat) : Bool := match rxSp y g with | [b, e] => decide (b ≤ e) | _ => false
noncomputable def rxLim (x : Array Nat) : Nat := min (9223372036854775807 : Int).toNat x.size
structure RxGot (code : Array Nat) (x : Array Nat) (y : Sre.M) : Prop where
  run : rxRuns 500 (Sre.forSearch code x 3 0 (rxLim x) false) = some y
  out : y.outcome = some .matched
  good : rxIn y 0 = true ∧ rxIn y 1 = true ∧ rxIn y 2 = true
theorem rxSp_two (y : Sre.M) (g : Nat) : ∃ b e, rxSp y g = [b, e] := by
  unfold rxSp
  split
  · split <;> exact ⟨_, _, rfl⟩
  · exact ⟨_, _, rfl⟩
noncomputable def rxMatch (x : Str) (t : Tok) (P : Addr) (y : Sre.M) (T : Addr) : Obj := { cls := .type "re.Match", data := .fields #[.str x t, .ref P, rawInt 0, rawInt (rxLim x.cps), rawInt y.lastindex, .ref T] }
noncomputable def rxTuple (y : Sre.M) : Obj := { cls := .type "tuple", data := .seq (([(y.start : Int), (y.handed : Int)] ++ rxSp y 0 ++ rxSp y 1 ++ rxSp y 2).map rawInt).toArray }
theorem rx_span (y : Sre.M) (g : Nat) : (match if ((2 * g + 1 : Nat) : Int) ≤ y.lastmark then (y.marks.getD (2 * g) none, y.marks.getD (2 * g + 1) none) else (none, none) with | (some b, some e) => [rawInt b, rawInt e] | _ => [rawInt (-1), rawInt (-1)]) = (rxSp y g).map rawInt := by
  unfold rxSp
  by_cases c : ((2 * g + 1 : Nat) : Int) ≤ y.lastmark
  · rw [if_pos c, if_pos c]
    cases y.marks.getD (2 * g) none <;> cases y.marks.getD (2 * g + 1) none <;> rfl
  · rw [if_neg c, if_neg c]; rfl
theorem rx_bad {y : Sre.M} {g : Nat} (h : rxIn y g = true) : (match y.marks.getD (2 * g) none, y.marks.getD (2 * g + 1) none with | some b, some e => (decide (((2 * g + 1 : Nat) : Int) ≤ y.lastmark) && decide (e < b)) | _, _ => false) = false := by
  unfold rxIn rxSp at h
  by_cases c : ((2 * g + 1 : Nat) : Int) ≤ y.lastmark
  · rw [if_pos c] at h
    cases h1 : y.marks.getD (2 * g) none <;> cases h2 : y.marks.getD (2 * g + 1) none <;> simp only [h1, h2] at h ⊢
    simp only [decide_eq_true_eq] at h
    simp only [c, decide_true, Bool.true_and, decide_eq_false_iff_not]
    omega +splitDisjunctions
  · cases y.marks.getD (2 * g) none <;> cases y.marks.getD (2 * g + 1) none <;> simp only [decide_eq_false c, Bool.false_and]
theorem rx_if {α : Type} {c : Prop} [Decidable c] {a b : Sem α} {Q : α → Shared → Prop} (h : ¬ c) (k : wpAny M A b Q E s) : wpAny M A (if c then a else b) Q E s := by rw [if_neg h]; exact k
theorem rx_newMatch {x : Str} {t : Tok} {P : Addr} {y : Sre.M} {Q : Value → Shared → Prop} {code : Array Nat} (R : RxGot code x.cps y)
    (h : Q (.ref (s.heap.objs.size + 1)) { s with heap := (s.heap.push (rxTuple y)).push (rxMatch x t P y s.heap.objs.size) }) :
    wpAny M A (reNewMatch (.ref P) (.str x t) 3 0 (rxLim x.cps) y) Q E s := by
  unfold reNewMatch
  have e1 : ((List.range 3).flatMap fun g => match if ((2 * g + 1 : Nat) : Int) ≤ y.lastmark then (y.marks.getD (2 * g) none, y.marks.getD (2 * g + 1) none) else (none, none) with | (some b, some e) => [rawInt b, rawInt e] | _ => [rawInt (-1), rawInt (-1)]) = (rxSp y 0 ++ rxSp y 1 ++ rxSp y 2).map rawInt := by
    refine Eq.trans (b := (rxSp y 0).map rawInt ++ ((rxSp y 1).map rawInt ++ ((rxSp y 2).map rawInt ++ []))) ?_ ?_
    · exact congr (congrArg HAppend.hAppend (rx_span y 0)) (congr (congrArg HAppend.hAppend (rx_span y 1)) (congr (congrArg HAppend.hAppend (rx_span y 2)) rfl))
    · rw [List.append_nil, List.map_append, List.map_append, List.append_assoc]
  have e2 : ((List.range 3).any fun g => match y.marks.getD (2 * g) none, y.marks.getD (2 * g + 1) none with | some b, some e => (decide (((2 * g + 1 : Nat) : Int) ≤ y.lastmark) && decide (e < b)) | _, _ => false) = false := by
    refine Eq.trans (b := (false || (false || (false || false)))) ?_ rfl
    exact congr (congrArg or (rx_bad R.good.1)) (congr (congrArg or (rx_bad R.good.2.1)) (congr (congrArg or (rx_bad R.good.2.2)) rfl))
  have key : wpAny M A (do
      let tup ← newTuple (rawInt y.start :: rawInt y.handed :: (rxSp y 0 ++ rxSp y 1 ++ rxSp y 2).map rawInt)
      newFields "re.Match" [.str x t, .ref P, rawInt (0 : Nat), rawInt (rxLim x.cps), rawInt y.lastindex, tup]) Q E s := by
    refine wpAny_bind (wpAny_newTuple ?_ ?_)
    · refine wpAny_newObj_type ?_ (by show _ ≤ _; exact Nat.le_of_ble_eq_true rfl)
      have hz : (s.heap.push (rxTuple y)).objs.size = s.heap.objs.size + 1 := Heap.size_push ..
      have e3 : ({ cls := .type "tuple", data := .seq (rawInt y.start :: rawInt y.handed :: (rxSp y 0 ++ rxSp y 1 ++ rxSp y 2).map rawInt).toArray } : Obj) = rxTuple y := by
        unfold rxTuple; simp [rawInt]
      show Q (.ref (s.heap.push _).objs.size) _
      rw [e3, hz]
      exact h
    · obtain ⟨b0, f0, q0⟩ := rxSp_two y 0
      obtain ⟨b1, f1, q1⟩ := rxSp_two y 1
      obtain ⟨b2, f2, q2⟩ := rxSp_two y 2
      rw [q0, q1, q2]
      exact Nat.le_of_ble_eq_true rfl
  rw [← e1] at key
  dsimp only
  exact rx_if (fun h => Bool.false_ne_true (e2.symm.trans h)) key
end Rx3

section Rx4
open PySem.Calls PySem.Builtin.Re
variable {prog : Program} {w : World} {M : Model} {A : Around} {E : Value → Shared → Prop} {s : Shared} {h₀ : Heap} {L : Addr} {m : Str → Option Value} {news : List (Addr × Obj)}
theorem rx_ifp {α : Type} {c : Prop} [Decidable c] {a b : Sem α} {Q : α → Shared → Prop} (h : c) (k : wpAny M A a Q E s) : wpAny M A (if c then a else b) Q E s := by rw [if_pos h]; exact k
theorem rx_target {o oc : Obj} {fs items : Array Value} {n : Nat} {P C : Addr} {x : Str} {t u2 u6 : Tok} {Q : ReTarget → Shared → Prop}
    (ho : s.heap.get? P = some o) (hd : o.data = .fields fs) (h6 : fs.getD 6 .none = .int 0 u6) (h2 : fs.getD 2 .none = .int 3 u2) (h5 : fs.getD 5 .none = .ref C) (hoc : s.heap.get? C = some oc) (hdc : oc.data = .seq items n)
    (h : Q { pattern := .ref P, string := .str x t, code := (items.map reRawOf).map (·.toNat), text := x.cps, kind := 0, groups := 3, pos := 0, lim := rxLim x.cps } s) :
    wpAny M A (reTarget "re.Pattern.search" "search" ⟨[.ref P, .str x t], []⟩) Q E s := by
  unfold reTarget
  have e : reNamed "re.Pattern.search" "search" ["string", "pos", "endpos"] 1 [.str x t] [] = pure [some (.str x t), none, none] := rfl
  show wpAny M A (reNamed "re.Pattern.search" "search" ["string", "pos", "endpos"] 1 [.str x t] [] >>= _) Q E s
  rw [e]
  refine wpAny_bind (wpAny_pure ?_)
  refine wpAny_bind (wpAny_pure ?_)
  refine wpAny_bind (wpAny_pure ?_)
  refine wpAny_bind (wpAny_fieldsOf ho hd ?_)
  refine wpAny_bind (m := reTextOf (.str x t)) (wpAny_pure ?_)
  simp only [h6, h2, h5, reRawNat]
  refine rx_if (by decide) ?_
  refine rx_if (by decide) ?_
  refine wpAny_bind (m := reNoCollectionInside (.str x t) 0) (wpAny_pure ?_)
  refine wpAny_bind (m := reRawItems (.ref C)) ?_
  unfold reRawItems
  refine wpAny_bind (wpAny_seqItems hoc hdc (wpAny_pure ?_))
  exact wpAny_pure h
theorem rx_search {o oc : Obj} {fs items : Array Value} {n : Nat} {P C : Addr} {x : Str} {t u2 u6 : Tok} {y : Sre.M} {Q : Value → Shared → Prop}
    (ho : s.heap.get? P = some o) (hcls : o.cls = .type "re.Pattern") (hd : o.data = .fields fs) (h6 : fs.getD 6 .none = .int 0 u6) (h2 : fs.getD 2 .none = .int 3 u2) (h5 : fs.getD 5 .none = .ref C) (hoc : s.heap.get? C = some oc) (hdc : oc.data = .seq items n)
    (R : RxGot ((items.map reRawOf).map (·.toNat)) x.cps y)
    (h : Q (.ref (s.heap.objs.size + 1)) { s with heap := (s.heap.push (rxTuple y)).push (rxMatch x t P y s.heap.objs.size) }) :
    wpAny (model prog w) A (call (.builtin "re.Pattern.search") [.ref P, .str x t]) Q E s := by
  refine wpAny_call_entry rx_slot_search ⟨o, ho, hcls⟩ rx_entry_search ?_ (rx_args_search _ _)
  unfold Builtin.«re.Pattern.search»
  refine wpAny_bind (rx_target ho hd h6 h2 h5 hoc hdc ?_)
  unfold reAnswer
  refine wpAny_bind (rx_end R.run R.out ?_)
  exact wpAny_bind (rx_newMatch R (wpAny_pure ⟨_, rfl, h⟩))
theorem rx_method {o : Obj} {P : Addr} {pl : Sem Bool} {Q : Value × List Value → Shared → Prop} (ho : s.heap.get? P = some o) (hcls : o.cls = .type "re.Pattern") (hdict : o.dict = none) (h : Q (.builtin "re.Pattern.search", [.ref P]) s) :
    wpAny M A (getMethod (.ref P) "search" pl) Q E s :=
  getMethod_builtin ⟨o, ho, hcls⟩ rx_plain rx_slot_search rx_type_search (fun a e => by cases e; exact ⟨o, ho, hdict⟩) h
theorem rm_method {o : Obj} {P : Addr} {pl : Sem Bool} {Q : Value × List Value → Shared → Prop} (ho : s.heap.get? P = some o) (hcls : o.cls = .type "re.Match") (hdict : o.dict = none) (h : Q (.builtin "re.Match.group", [.ref P]) s) :
    wpAny M A (getMethod (.ref P) "group" pl) Q E s :=
  getMethod_builtin ⟨o, ho, hcls⟩ rm_plain rm_slot_group rm_type_group (fun a e => by cases e; exact ⟨o, ho, hdict⟩) h

noncomputable def rxGroup (x : Str) (b e : Int) : Option Str := if b < 0 ∨ e < 0 then none else some ⟨x.cps.extract b.toNat e.toNat⟩
noncomputable def rxVal (g : Option Str) (t : Tok) : Value := match g with | some y => .str y t | none => .none
theorem rm_group {o oT : Obj} {fs : Array Value} {sp : List Int} {T Mo : Addr} {x : Str} {t tg : Tok} {g : Nat} {n : Nat} {Q : Value → Shared → Prop}
    (ho : s.heap.get? Mo = some o) (hcls : o.cls = .type "re.Match") (hd : o.data = .fields fs) (h0 : fs.getD 0 .none = .str x t) (h5 : fs.getD 5 .none = .ref T) (hoT : s.heap.get? T = some oT) (hdT : oT.data = .seq (sp.map rawInt).toArray n)
    (hg : 2 * g < sp.length) (hx : x.length ≤ sizeLine)
    (h : ∀ tk tk', Q (rxVal (rxGroup x (sp.getD (2 * g) (-1)) (sp.getD (2 * g + 1) (-1))) tk) { s with toks := tk' }) :
    wpAny (model prog w) A (call (.builtin "re.Match.group") [.ref Mo, .int g tg]) Q E s := by
  refine wpAny_call_entry rm_slot_group ⟨o, ho, hcls⟩ rm_entry_group ?_ (rm_args_group _ _)
  unfold Builtin.«re.Match.group»
  have e : noKeywords "Match.group" ⟨[.ref Mo, .int g tg], []⟩ = pure () := rfl
  show wpAny _ _ (noKeywords "Match.group" ⟨[.ref Mo, .int g tg], []⟩ >>= _) _ _ _
  rw [e]
  refine wpAny_bind (wpAny_pure ?_)
  refine wpAny_bind (m := reFound (.ref Mo)) ?_
  unfold reFound
  refine wpAny_bind (wpAny_fieldsOf ho hd ?_)
  rw [h5]
  refine wpAny_bind ?_
  unfold reRawItems
  refine wpAny_bind (wpAny_seqItems hoT hdT (wpAny_pure (wpAny_pure ?_)))
  have hsp : (((some (sp.map rawInt).toArray).getD #[]).map reRawOf) = sp.toArray := by
    simp only [Option.getD_some, List.map_toArray, List.map_map]
    congr 1
    exact (List.map_congr_left fun a _ => rfl).trans (List.map_id _)
  rw [hsp]
  refine wpAny_bind (m := reGroupNumber _ (.int g tg)) ?_
  unfold reGroupNumber
  have ei : asIndex (.int g tg) = pure (g : Int) := rfl
  refine wpAny_bind (m := asInt? (.int g tg)) (wpAny_pure ?_)
  dsimp only
  refine rx_ifp rfl ?_
  rw [ei]
  refine wpAny_bind (wpAny_pure ?_)
  have hc : ¬ ((decide ((g : Int) < 0) || decide (2 * (g : Int) ≥ (sp.toArray.size : Nat))) = true) := by
    simp only [List.size_toArray, Bool.or_eq_true, decide_eq_true_eq]; omega +splitDisjunctions
  refine rx_if hc (wpAny_pure ?_)
  refine wpAny_bind ?_
  unfold reGroupText
  have e1 : sp.toArray.getD (2 * (g : Int).toNat) (-1) = sp.getD (2 * g) (-1) := by simp
  have e2 : sp.toArray.getD (2 * (g : Int).toNat + 1) (-1) = sp.getD (2 * g + 1) (-1) := by simp
  dsimp only
  rw [e1, e2]
  generalize sp.getD (2 * g) (-1) = b at h
  generalize sp.getD (2 * g + 1) (-1) = e at h
  unfold rxGroup at h
  by_cases c : b < 0 ∨ e < 0
  · rw [if_pos c] at h
    refine rx_ifp (by simpa using c) (wpAny_pure (wpAny_pure ⟨_, rfl, h 0 _⟩))
  · rw [if_neg c] at h
    refine rx_if (by simpa using c) ?_
    rw [h0]
    refine wpAny_bind (m := reTextOf (.str x t)) (wpAny_pure ?_)
    unfold reSlice
    refine rx_ifp rfl (wpAny_mkStr ?_ ?_)
    · exact wpAny_pure ⟨_, rfl, h _ _⟩
    · show (x.cps.extract b.toNat e.toNat).size ≤ sizeLine
      have : x.cps.size ≤ sizeLine := hx
      rw [Array.size_extract]; omega +splitDisjunctions
end Rx4

section Rx5
open PySem.Calls PySem.Builtin.Re
variable {prog : Program} {w : World} {M : Model} {A : Around} {E : Value → Shared → Prop} {s : Shared} {h₀ : Heap} {L : Addr} {m : Str → Option Value} {news : List (Addr × Obj)}
theorem rm_nobool : typeLookup (.type "re.Match") "__bool__" = pure none := by rw [typeLookup_type, builtinLookup_eq_fast]; kernel_rfl
theorem rm_nolen : typeLookup (.type "re.Match") "__len__" = pure none := by rw [typeLookup_type, builtinLookup_eq_fast]; kernel_rfl
theorem rm_truthy {o : Obj} {Mo : Addr} {Q : Bool → Shared → Prop} (ho : s.heap.get? Mo = some o) (hcls : o.cls = .type "re.Match") (h : Q true s) : wpAny M A (truthy (.ref Mo)) Q E s := by
  have hT : s.TypeIs (.ref Mo) "re.Match" := ⟨o, ho, hcls⟩
  unfold truthy
  refine wpAny_bind (wpAny_callSpecial?_none hT rm_nobool ?_)
  refine wpAny_bind (wpAny_specialOf hT rm_nolen ?_)
  exact rx_ifp rfl (wpAny_pure h)
end Rx5

section Rx6
open PySem.Calls PySem.Builtin.Re
noncomputable def rxP0 : Params := { strHash := fun _ => 0, shareClass := fun _ => 0, mergeTok := id, idOf := fun _ => 0, idOfShared := fun _ _ => 0, followText := fun _ => false, idOfImm := fun _ => 0 }
noncomputable def rxItems : Array Value := match (hd.heap_39 rxP0).lookup 36 with | some o => (match o.data with | .seq xs _ => xs | _ => #[]) | none => #[]
noncomputable def rxCode : Array Nat := (rxItems.map reRawOf).map (·.toNat)
theorem rx_items (P : Params) : (hd.heap_39 P).lookup 36 = some ({ cls := .type "tuple", data := .seq rxItems } : Obj) := by rfl
noncomputable def rxLook (x : Array Nat) : Option (Int × Int × Int × Int × Int × Int) :=
  match rxRuns 500 (Sre.forSearch rxCode x 3 0 (rxLim x) false) with
  | some y => match y.outcome with
    | some .matched => if rxIn y 0 && rxIn y 1 && rxIn y 2 then (match rxSp y 0, rxSp y 1, rxSp y 2 with | [a, b], [c, d], [e, f] => some (a, b, c, d, e, f) | _, _, _ => none) else none
    | _ => none
  | none => none
end Rx6

noncomputable def rxGrp (x : Str) (y : Sre.M) (g : Nat) : Option Str := match rxSp y (g - 1) with | [b, e] => rxGroup x b e | _ => none
section Rx7
open PySem.Calls PySem.Builtin.Re
variable {prog : Program} {w : World} {A : Around} {E : Value → Shared → Prop} {s : Shared} {h₀ : Heap} {L : Addr} {m : Str → Option Value} {news : List (Addr × Obj)} {Q : Value → Shared → Prop}
theorem rx_pat (P : Params) : ∃ o fs u2 u6, (hd.heap_39 P).lookup 37 = some o ∧ o.cls = .type "re.Pattern" ∧ o.dict = none ∧ o.data = .fields fs ∧ fs.getD 6 .none = .int 0 u6 ∧ fs.getD 2 .none = .int 3 u2 ∧ fs.getD 5 .none = .ref 36 := ⟨_, _, _, _, rfl, rfl, rfl, rfl, rfl, rfl, rfl⟩
theorem rx_method_K {pl : Sem Bool} {Q : Value × List Value → Shared → Prop} (F : Fr h₀ L s.heap m) (X : (hd.heap_39 w.params).In h₀) (h : Q (.builtin "re.Pattern.search", [.ref 37]) s) :
    wpAny (model prog w) A (getMethod (.ref 37) "search" pl) Q E s := by
  obtain ⟨o, fs, u2, u6, hl, hc, hdn, _⟩ := rx_pat w.params
  exact rx_method ((X.keeps F.keep) _ _ hl) hc hdn h
theorem rx_search_K {x : Str} {t : Tok} {y : Sre.M} (F : Fr h₀ L s.heap m) (X : (hd.heap_39 w.params).In h₀) (N : News h₀ L s.heap news) (R : RxGot rxCode x.cps y)
    (h : ∀ T Mo h', Fr h₀ L h' m → News h₀ L h' ((Mo, rxMatch x t 37 y T) :: (T, rxTuple y) :: news) → (∀ p ∈ news, p.1 < T) → T < Mo → Q (.ref Mo) { s with heap := h' }) :
    wpAny (model prog w) A (call (.builtin "re.Pattern.search") [.ref 37, .str x t]) Q E s := by
  obtain ⟨o, fs, u2, u6, hl, hc, hdn, hd, h6, h2, h5⟩ := rx_pat w.params
  have N1 : News h₀ L (s.heap.push (rxTuple y)) ((s.heap.objs.size, rxTuple y) :: news) := News.push F N _
  have F1 : Fr h₀ L (s.heap.push (rxTuple y)) m := F.push _
  have hz : (s.heap.push (rxTuple y)).objs.size = s.heap.objs.size + 1 := Heap.size_push ..
  refine rx_search ((X.keeps F.keep) _ _ hl) hc hd h6 h2 h5 ((X.keeps F.keep) _ _ (rx_items w.params)) rfl R ?_
  have N2 := News.push F1 N1 (rxMatch x t 37 y s.heap.objs.size)
  rw [hz] at N2
  exact h _ _ _ (F1.push _) N2 (fun p hp => Heap.lt_size (N p hp).1) (Nat.lt_succ_self _)
theorem rm_method_K {pl : Sem Bool} {x : Str} {t : Tok} {y : Sre.M} {P T Mo : Addr} {Q : Value × List Value → Shared → Prop} (N : News h₀ L s.heap news) (hm : (Mo, rxMatch x t P y T) ∈ news) (h : Q (.builtin "re.Match.group", [.ref Mo]) s) :
    wpAny (model prog w) A (getMethod (.ref Mo) "group" pl) Q E s := rm_method (N _ hm).1 rfl rfl h
theorem rm_truthy_K {M : Model} {x : Str} {t : Tok} {y : Sre.M} {P T Mo : Addr} {Q : Bool → Shared → Prop} (N : News h₀ L s.heap news) (hm : (Mo, rxMatch x t P y T) ∈ news) (h : Q true s) : wpAny M A (truthy (.ref Mo)) Q E s :=
  rm_truthy (N _ hm).1 rfl h
theorem rm_group_K {x : Str} {t tg : Tok} {y : Sre.M} {P T Mo : Addr} {g : Int} {z : Option Str} (N : News h₀ L s.heap news) (hm : (Mo, rxMatch x t P y T) ∈ news) (ht : (T, rxTuple y) ∈ news) (hg : g = 1 ∨ g = 2 ∨ g = 3) (hx : x.length ≤ sizeLine) (hz : rxGrp x y g.toNat = z)
    (h : ∀ tk tk', Q (rxVal z tk) { s with toks := tk' }) : wpAny (model prog w) A (call (.builtin "re.Match.group") [.ref Mo, .int g tg]) Q E s := by
  obtain ⟨b0, f0, q0⟩ := rxSp_two y 0
  obtain ⟨b1, f1, q1⟩ := rxSp_two y 1
  obtain ⟨b2, f2, q2⟩ := rxSp_two y 2
  unfold rxGrp at hz
  rcases hg with rfl | rfl | rfl
  · refine rm_group (g := 1) (sp := [(y.start : Int), (y.handed : Int)] ++ rxSp y 0 ++ rxSp y 1 ++ rxSp y 2) (N _ hm).1 rfl rfl rfl rfl (N _ ht).1 rfl (by rw [q0, q1, q2]; exact Nat.le_of_ble_eq_true rfl) hx fun tk tk' => ?_
    rw [q0, q1, q2]
    have e : (match rxSp y ((1 : Int).toNat - 1) with | [b, e] => rxGroup x b e | _ => none) = rxGroup x b0 f0 := by show (match rxSp y 0 with | [b, e] => rxGroup x b e | _ => none) = _; rw [q0]
    rw [e] at hz
    show Q (rxVal (rxGroup x b0 f0) tk) _
    rw [hz]; exact h tk tk'
  · refine rm_group (g := 2) (sp := [(y.start : Int), (y.handed : Int)] ++ rxSp y 0 ++ rxSp y 1 ++ rxSp y 2) (N _ hm).1 rfl rfl rfl rfl (N _ ht).1 rfl (by rw [q0, q1, q2]; exact Nat.le_of_ble_eq_true rfl) hx fun tk tk' => ?_
    rw [q0, q1, q2]
    have e : (match rxSp y ((2 : Int).toNat - 1) with | [b, e] => rxGroup x b e | _ => none) = rxGroup x b1 f1 := by show (match rxSp y 1 with | [b, e] => rxGroup x b e | _ => none) = _; rw [q1]
    rw [e] at hz
    show Q (rxVal (rxGroup x b1 f1) tk) _
    rw [hz]; exact h tk tk'
  · refine rm_group (g := 3) (sp := [(y.start : Int), (y.handed : Int)] ++ rxSp y 0 ++ rxSp y 1 ++ rxSp y 2) (N _ hm).1 rfl rfl rfl rfl (N _ ht).1 rfl (by rw [q0, q1, q2]; exact Nat.le_of_ble_eq_true rfl) hx fun tk tk' => ?_
    rw [q0, q1, q2]
    have e : (match rxSp y ((3 : Int).toNat - 1) with | [b, e] => rxGroup x b e | _ => none) = rxGroup x b2 f2 := by show (match rxSp y 2 with | [b, e] => rxGroup x b e | _ => none) = _; rw [q2]
    rw [e] at hz
    show Q (rxVal (rxGroup x b2 f2) tk) _
    rw [hz]; exact h tk tk'
end Rx7
noncomputable def tzKey (x : Str) : Bool := decide (x = { cps := #[71, 77, 84] }) || (decide (x = { cps := #[85, 84, 67] }) || (decide (x = { cps := #[85, 84] }) || (decide (x = { cps := #[90] }) || false)))
structure TzTxt (x : Str) (v : Int) (y : Sre.M) (hx mx : Str) (hh mm : Int) : Prop where
  key : tzKey x = false
  got : RxGot rxCode x.cps y
  len : x.length ≤ 100
  h2 : rxGrp x y 2 = some hx
  h3 : rxGrp x y 3 = some mx
  i2 : PySem.intText? hx = some hh
  i3 : PySem.intText? mx = some mm
  l2 : hx.length ≤ 100
  l3 : mx.length ≤ 100
  n3 : 0 < mx.length
  b2 : 0 ≤ hh ∧ hh ≤ 1000
  b3 : 0 ≤ mm ∧ mm ≤ 1000
  sg : ((rxGrp x y 1 = none ∨ rxGrp x y 1 = some (Str.ofString "+")) ∧ v = 3600 * hh + 60 * mm) ∨ (rxGrp x y 1 = some (Str.ofString "-") ∧ v = -(3600 * hh + 60 * mm))
noncomputable def TzIs (x : Str) (v : Int) : Prop := (tzKey x = true ∧ v = 0) ∨ ∃ y hx mx hh mm, TzTxt x v y hx mx hh mm
end
section
open PySem PySem.W PyProof.Rows
set_option Elab.async false
set_option maxRecDepth 100000
set_option maxHeartbeats 8000000
section Sk
open PySem.Calls
variable {prog : Program} {w : World}
theorem sl_enter {M : Model} {A : Around} {s : Shared} {f : Value} {pos : List Value} {c : ClaimW} {cl : Str → Option Addr} {mean : ExcName → Option Value} {args : List WData} {s₁ : Shared}
    (h : codeS M A (.call f ⟨pos, []⟩) (GoodWG c cl mean args s₁) s) : wpS M A (PySem.call f pos []) (fun v s' => GoodWG c cl mean args s₁ (.ok (.ret v)) s') (fun e s' => GoodWG c cl mean args s₁ (.error e) s') s :=
  sl_call (sl_code_mono h fun res s' g => by rcases g.1 with ⟨v, _, _, rfl, _⟩ | ⟨e, _, _, rfl, _⟩ <;> exact g)
theorem sl_post {M : Model} {A : Around} {cd : Code} {s s₁ : Shared} {cw : ClaimW} {cl : Str → Option Addr} {mean : ExcName → Option Value} {args : List WData} {tabs : List (Addr × Addr)} (hT : TabsAt tabs s₁.heap) (hr : ∀ a x, cw.raises a x = false)
    (h : codeS M A cd (fun r s' => GoodW cw cl mean args { s₁ with heap := ghostOf s₁.heap tabs } r s' ∧ GrownAll tabs s'.heap) s) : codeS M A cd (GoodWG cw cl mean args s₁) s :=
  sl_code_mono h fun r s' hg => by
    let M' : Model := ⟨fun _ => (match r with | .ok f => pure (.done f) | .error e => throw e), M.prog, M.w⟩
    have h1 : codeAny M' callerA (.builtin "claim.caller" {}) (fun r s' => GoodW cw cl mean args { s₁ with heap := ghostOf s₁.heap tabs } r s' ∧ GrownAll tabs s'.heap) s' := by
      refine codeAny_of_tree ?_
      cases r with
      | ok f => exact wpAny_pure hg
      | error e => exact wpAny_throw hg
    have h2 := kn_post (M := M') hT hr h1
    have h3 := (wpCode_iff_wp _ _ _ _ _).mp (h2 ⟨.builtin "claim.caller" {}, none, none, [], none⟩ default rfl ⟨rfl, Nat.zero_le _, fun l hl => by cases hl; rfl, fun g hg => by cases hg; rfl, Nat.zero_le _⟩)
    cases r with
    | ok f => exact h3
    | error e => exact h3
theorem sl_cellsN {A : Around} {R : Result → Shared → Prop} {s : Shared} {name : Str} {params : Arguments} {body : List Stmt} {scope : Scope}
    {pm cd doc : Value} {a : Addr} {o : Obj} {args : List Value} {binds : List (Str × Value)}
    (hroom : A.depth < recursionLimit) (ho : s.heap.get? a = some o) (hdata : o.data = .func (Calls.docDef name params body scope pm cd doc)) (hlim : s.heap.NoLimit) (hcd : s.heap.CodeRec cd name)
    (hbind : bindArgs (Calls.docDef name params body scope pm cd doc) ⟨args, []⟩ = pure binds)
    (hkind : ∀ x ∈ binds, scope.names.lookup x.1 = some .local ∨ (scope.names.lookup x.1 = some .cell ∧ ((cellsFrom (s.heap.objs.size + 1) scope.names []).lookup x.1).isSome = true))
    (hnd : ((cellsFrom 0 scope.names []).map (·.1)).Nodup)
    (h : ∀ h₁ tk cells, Fr s.heap s.heap.objs.size h₁ (bindL (envOfC name scope s.heap.objs.size a cd).kindOf binds fun _ => none) → News s.heap s.heap.objs.size h₁ cells →
      CellsAre (bindC (envOfC name scope s.heap.objs.size a cd).kindOf binds fun _ => none) (cellsFrom (s.heap.objs.size + 1) scope.names []) cells →
      wpS (model prog w) (A.deeper (envOfC name scope s.heap.objs.size a cd)) (execs body (envOfC name scope s.heap.objs.size a cd))
        (fun f s' => R (.ok (.ret (match f with | .ret v => v | _ => .none))) s') Nev { s with heap := h₁, toks := tk })
    (hco : scope.isCoroutine = false := by rfl) (hgen : scope.isGenerator = false := by rfl) (hk : scope.kind = .function := by rfl) :
    codeS (model prog w) A (.call (.ref a) ⟨args, []⟩) R s := by
  refine sl_call_function (fd := Calls.docDef name params body scope pm cd doc) hroom ho hdata hco hgen rfl hcd ?_
  rw [hbind]
  refine wpAny_pure (wpAny_newFunctionEnv_cells hk hkind fun env he s' X => ?_)
  subst he
  refine ⟨hlim.keeps X.toInCall.keep, sl_func ?_⟩
  obtain ⟨h₁, tk, rfl, _⟩ := X.done
  obtain ⟨cells, N, Y⟩ := Cl.news (h₀ := s.heap) (Nat.le_refl _) fun n c hm => ⟨X.cell n c (lookup_of_mem_nodup (cellsFrom_names scope.names 0 (s.heap.objs.size + 1) [] [] rfl ▸ hnd) hm), X.above n c hm⟩
  exact sl_mono (h h₁ tk cells ⟨X.toInCall.ns, X.toInCall.keep, X.toInCall.fresh⟩ N Y) (fun _ _ x => x) fun _ _ x => x.elim
theorem sl_code_def {A A₀ : Around} {base h₀ : Heap} {L : Addr} {m mg mb : Str → Option Value} {s : Shared} {K : Frag} {p : Program} {loose : List Str} {mean : ExcName → Option Value} {news : List (Addr × Obj)}
    {env : Env} {outer : List Env} {R : Result → Shared → Prop} {name qual : Str} {params : Arguments} {body : List Stmt} {scope : Scope} {dV kV doc pm cdv ct oc : Value} {an od : Option Addr} {osl : Array (Option Value)} {f : Addr} {args : Args} {binds : List (Str × Value)}
    (B : Below A₀ base outer h₀) (F : Fr h₀ L s.heap m) (X₀ : K.In h₀) (N : News h₀ L s.heap news) (T : Top p loose mean mg mb h₀) (hA : A.frames = some (env :: outer)) (hf : env.frame = some L) (hke : env.scope.kind = .function)
    (ho : K.lookup f = some ⟨oc, od, .func (fnOf name qual params body scope dV kV doc pm an cdv ct), osl⟩) (hcd : codeIn K cdv qual = true) (hroom : A.depth < recursionLimit)
    (hbind : BindsTo s (fnOf name qual params body scope dV kV doc pm an cdv ct) args binds) (hloc : ∀ y ∈ binds, scope.names.lookup y.1 = some .local)
    (h : ∀ g L' h₁, Fr h₀ L g m → Fr g L' h₁ (fun y => binds.reverse.lookup y) → News g L' h₁ news → Below A base (env :: outer) g → K.In g → Top p loose mean mg mb g →
      wpS (model prog w) (A.deeper (envOf qual scope L' f cdv)) (execs body (envOf qual scope L' f cdv))
        (fun fl s' => LeaveK h₀ L m g R (match fl with | .ret v => v | _ => .none) s')
        (fun e s' => wpAny (model prog w) (A.deeper (envOf qual scope L' f cdv)) (leaving (envOf qual scope L' f cdv) e) (fun _ s'' => R (.error e) s'') (fun e' s'' => R (.error e') s'') s')
        { s with heap := h₁, toks := s.toks + binds.length })
    (hco : scope.isCoroutine = false) (hgen : scope.isGenerator = false) (hk : scope.kind = .function)
    (hcell : ∀ x ∈ scope.names, x.2 ≠ .cell) : codeS (model prog w) A (.call (.ref f) args) R s := by
  obtain ⟨FG, BG, st, lv⟩ := groundX (R := R) B F N hA hf hke
  refine sl_call_def (fd := fnOf name qual params body scope dV kV doc pm an cdv ct) (body := body) (binds := binds) hroom ((X₀.keeps F.keep) _ _ ho) rfl (T.nolimit.keeps F.keep) (codeRec_of (X₀.keeps F.keep) hcd) rfl hbind hcell hloc (fun h₁ hns hk₁ => ?_) hco hgen hk
  exact sl_mono (h _ s.heap.objs.size h₁ FG ⟨hns, fun b o e => hk₁ b o (of_hideAll _ e), Nat.le_of_eq (hideAll_size _ _)⟩
    (fun p hp => ⟨hk₁ _ _ (N p hp).1, Nat.ne_of_lt (Heap.lt_size (N p hp).1), hideAll_none _ (List.mem_map_of_mem hp)⟩) BG (X₀.keeps st) (T.keeps st)) (fun fl s' hl => lv _ _ hl) fun _ _ y => y
end Sk
end
section
set_option maxRecDepth 100000
theorem om1 {x1 : Int} (h1 : x1 < (0 : Int)) (h2 : x1 = (0 : Int)) : False := by lia
theorem om2 {x1 : Int} (h1 : (0 : Int) ≤ x1) (h2 : x1 < (0 : Int)) : False := Int.not_le.mpr h2 h1
theorem om3 {x1 : Int} {x2 : Int} (h1 : (-1074 : Int) ≤ x1) (h2 : (-1074 : Int) ≤ x2) : -(↑(1074 : Nat) : Int) ≤ min x1 x2 := by lia
theorem om4 {x1 : Int} {x2 : Int} {x3 : Nat} {x4 : Nat} (h1 : (2 : Nat) * (x1 - x2).natAbs < x3) (h2 : x4 ≤ (x1 - x2).natAbs) : (2 : Nat) * x4 < x3 := by lia
theorem om5 {x1 : Int} (h1 : (-1074 : Int) ≤ x1) : -(↑(1074 : Nat) : Int) ≤ x1 := h1
theorem om6 {x1 : Int} {x2 : Int} (h1 : (-1074 : Int) ≤ x1) (h2 : x1 ≤ x2) : (x2 + (1074 : Int)).toNat = (x2 - x1).toNat + (x1 + (1074 : Int)).toNat := by rw [← Int.toNat_add (Int.sub_nonneg.mpr h2) (by lia)]; congr 1; lia
theorem om7 {x1 : Nat} {x2 : Nat} (h1 : x1 - x2 + (x2 - x1) < (1 : Nat)) : x1 = x2 := by
  obtain ⟨a, b⟩ := Nat.add_eq_zero_iff.mp (Nat.lt_one_iff.mp h1)
  exact Nat.le_antisymm (Nat.le_of_sub_eq_zero a) (Nat.le_of_sub_eq_zero b)
theorem om8 {x1 : Int} {x2 : Int} {x3 : Nat} (h1 : (2 : Nat) * (x1 - x2).natAbs < x3) (h2 : x2 ≤ -(↑x3 : Int)) : x1 < (0 : Int) := by omega +splitDisjunctions
theorem om9 {x1 : Int} {x2 : Int} {x3 : Nat} (h1 : (2 : Nat) * (x1 - x2).natAbs < x3) (h2 : (↑x3 : Int) ≤ x2) : (0 : Int) < x1 := by lia
theorem om10 {x1 : Nat} {x2 : Nat} {x3 : Nat} {x4 : Nat} {x5 : Nat} (h1 : x1 ≤ x2 + x3) (h2 : x4 ≤ x1 + x5) (h3 : x3 ≤ x5) : x4 ≤ x2 + (2 : Nat) * x5 := by lia
theorem om11 {x1 : Nat} {x2 : Nat} {x3 : Nat} {x4 : Nat} {x5 : Nat} (h1 : x1 ≤ x2 + x3) (h2 : x2 ≤ x4 + x5) (h3 : x3 ≤ x5) : x1 ≤ x4 + (2 : Nat) * x5 := by lia
theorem om12 {x1 : Int} {x2 : Int} (h1 : (x1 + (x2 - x1)).natAbs ≤ x1.natAbs + (x2 - x1).natAbs) : x1 + (x2 - x1) = x2 := by lia
theorem om13 {x1 : Int} (h1 : x1.natAbs = (0 : Nat)) : x1 = (0 : Int) := by lia
theorem om14 {x1 : Int} (h1 : (0 : Int) < x1) : x1 ≠ (0 : Int) := Int.ne_of_gt h1
theorem om15 {x1 : Int} (h1 : (0 : Int) < x1) : (↑x1.natAbs : Int) = x1 := by lia
theorem om16 {x1 : Int} (h1 : (0 : Int) < x1) : (0 : Nat) < x1.natAbs := by grind
theorem om17 {x1 : Int} (h1 : (0 : Int) < x1) (h2 : x1.natAbs = (0 : Nat)) : False := by grind
theorem om18 {x1 : Nat} {x2 : Nat} : x1 - x2 + (x2 - x1) = x2 - x1 + (x1 - x2) := Nat.add_comm _ _
theorem om19 {x1 : Int} (h1 : (0 : Int) < x1) : x1 = (↑x1.natAbs : Int) := by lia
theorem om20 {x1 : Nat} (h1 : (↑x1 : Int) < (0 : Int)) : true = false := by lia
theorem om21 {x1 : Int} {x2 : Int} {x3 : Int} {x4 : Nat} (h1 : (2 : Nat) * (x1 + x2 - x3).natAbs ≤ x4) : (2 : Nat) * (x3 - (x1 + x2)).natAbs ≤ x4 := by rw [← Int.natAbs_neg, Int.neg_sub]; exact h1
theorem om22 {x1 : Int} (h1 : ¬x1 < (0 : Int)) : (↑x1.natAbs : Int) = x1 := by lia
theorem om23 {x1 : Int} (h1 : x1 < (0 : Int)) : -(↑x1.natAbs : Int) = x1 := by grind
theorem om24 {x1 : Nat} {x2 : Nat} : -(↑x1 : Int) - -(↑x2 : Int) = -((↑x1 : Int) - (↑x2 : Int)) := by lia
theorem om25 {x1 : Nat} {x2 : Nat} : ((↑x1 : Int) - (↑x2 : Int)).natAbs = x1 - x2 + (x2 - x1) := by
  rcases Nat.le_total x1 x2 with h | h
  · rw [Nat.sub_eq_zero_of_le h, Nat.zero_add, ← Int.natAbs_neg, Int.neg_sub, ← Int.ofNat_sub h]; rfl
  · rw [Nat.sub_eq_zero_of_le h, Nat.add_zero, ← Int.ofNat_sub h]; rfl
theorem om26 {x1 : Nat} : (2 : Nat) ^ (52 : Nat) + x1 % (2 : Nat) ^ (52 : Nat) ≤ (2 : Nat) ^ (53 : Nat) := by grind
theorem om27 {x1 : Nat} : x1 % (2 : Nat) ^ (52 : Nat) ≤ (2 : Nat) ^ (53 : Nat) := by grind
theorem om28 {x1 : Nat} {x2 : Nat} {x3 : Nat} (h1 : (2 : Nat) * x1 ≤ x2) (h2 : x3 ≤ x1) : (2 : Nat) * x3 ≤ x2 := by lia
theorem om29 {x1 : Nat} (h1 : x1 ≤ (2 : Nat) ^ (52 : Nat) + (1 : Nat)) : x1 ≤ (2 : Nat) ^ (53 : Nat) := Nat.le_trans h1 (by decide)
theorem om30 {x1 : Nat} (h1 : x1 ≤ (1900 : Nat)) : x1 + (52 : Nat) ≤ (2000 : Nat) := by lia
theorem om31 {x1 : Nat} {x2 : Nat} {x3 : Nat} {x4 : Nat} (h1 : x1 < (2 : Nat) * x2) (h2 : (2 : Nat) * x3 + x1 = (2 : Nat) * x4 + x2) : (2 : Nat) * (x4 - x3 + (x3 - x4)) ≤ x2 ∧ x3 ≤ x4 + x2 := by omega +splitDisjunctions
theorem om32 {x1 : Nat} (h1 : (0 : Nat) < x1) : (0 : Nat) < (2 : Nat) * x1 := by lia
theorem om33 {x1 : Nat} {x2 : Nat} (h1 : x1 - x2 + (x2 - x1) = (0 : Nat)) : x1 = x2 := by
  obtain ⟨a, b⟩ := Nat.add_eq_zero_iff.mp h1
  exact Nat.le_antisymm (Nat.le_of_sub_eq_zero a) (Nat.le_of_sub_eq_zero b)
theorem om34 {x1 : Nat} {x2 : Nat} (h1 : (0 : Nat) < x1) (h2 : x1 = (0 : Nat)) : x2 = (0 : Nat) := by lia
theorem om35 {x1 : Nat} : x1 - x1 + (x1 - x1) = (0 : Nat) := by lia
theorem om37 {x1 : Nat} {x2 : Nat} (h1 : x1 ≤ x2) (h2 : x1 ≥ x2) : x1 = x2 := Nat.le_antisymm h1 h2
theorem om38 {x1 : Nat} (h1 : x1 < (2 : Nat) ^ (53 : Nat)) : x1 ≤ (2 : Nat) ^ (53 : Nat) := Nat.le_of_lt h1
theorem om39 {x1 : Nat} (h1 : ¬(2 : Nat) ^ (52 : Nat) ≤ x1) : (2 : Nat) * x1 ≤ (2 : Nat) ^ (53 : Nat) := by lia
theorem om40 {x1 : Int} {x2 : Int} (h1 : ¬x1 < x2) : x2 ≤ x1 := Int.not_lt.mp h1
theorem om41 {x1 : Int} {x2 : Int} {x3 : Int} (h1 : x1 < x2) (h2 : ¬x1 < x3) : x3 ≤ x2 := by lia
theorem om42 {x1 : Int} {x2 : Int} {x3 : Int} (h1 : ¬x1 < x2) (h2 : x1 < x3) : x2 ≤ x3 := by lia
theorem om43 {x1 : Int} {x2 : Int} (h1 : x1 < x2) : x1 ≤ x2 := Int.le_of_lt h1
theorem om44 {x1 : Int} {x2 : Int} {x3 : Int} (h1 : ¬x1 < x2) (h2 : x3 < x2) : x3 ≤ x1 := by lia
theorem om45 {x1 : Int} {x2 : Int} {x3 : Int} (h1 : x1 < x2) (h2 : x3 < x1) : x3 ≤ x2 := by lia
theorem om46 {x1 : Int} {x2 : Int} {x3 : Int} (h1 : x1 < x2) (h2 : ¬x3 < x2) : x1 ≤ x3 := by lia
theorem om47 {x1 : Int} {x2 : Int} {x3 : Int} (h1 : x1 < x2) (h2 : x2 < x3) : x1 ≤ x3 := by lia
theorem om48 {x1 : Int} {x2 : Int} (h1 : x1 ≤ x2) (h2 : x2 < x1) : False := Int.not_le.mpr h2 h1
theorem om49 {x1 : Int} (h1 : (0 : Int) < x1) : (0 : Int) ≤ x1 := Int.le_of_lt h1
theorem om50 {x1 : Int} (h1 : (0 : Int) ≤ x1) : (↑x1.natAbs : Int) = x1 := Int.natAbs_of_nonneg h1
theorem om51 {x1 : Int} (h1 : (0 : Int) < x1) : ¬x1 < (0 : Int) := Int.not_lt.mpr (Int.le_of_lt h1)
theorem om52 {x1 : Nat} : (53 : Nat) + ((1074 : Nat) - x1) ≤ (2000 : Nat) := by omega +splitDisjunctions
theorem om53 {x1 : Nat} (h1 : x1 ≤ (1000 : Nat)) : (1074 : Nat) = x1 + ((1074 : Nat) - x1) := by lia
theorem om54 {x1 : Int} (h1 : (0 : Int) ≤ x1) (h2 : x1 ≤ (2 : Int) ^ (53 : Nat)) : x1.natAbs ≤ (2 : Nat) ^ (53 : Nat) := by lia
theorem om55 {x1 : Int} {x2 : Int} {x3 : Int} (h1 : x1 + x2 ≤ x3) : x1 + x2 < x3 ∨ x1 + x2 = x3 := by lia
theorem om56 {x1 : Nat} (h1 : x1 ≤ (53 : Nat)) : (1073 : Nat) = x1 + ((1073 : Nat) - x1) := by lia
theorem om57 {x1 : Int} {x2 : Int} (h1 : x1 ≠ x2) : x2 - x1 ≠ (0 : Int) := by lia
theorem om58 {x1 : Int} {x2 : Int} (h1 : (0 : Int) ≤ x1 ∧ x1 ≤ x2 ∧ x2 ≤ (2 : Int) ^ (38 : Nat)) (h2 : x1 ≠ x2) : x2 + x1 ≠ (0 : Int) := by lia
theorem om59 {x1 : Int} (h1 : (0 : Int) < x1) : (0 : Int) < (2 : Int) * x1 := Int.mul_pos (by decide) h1
theorem om60 {x1 : Nat} (h1 : x1 ≤ (53 : Nat)) : (1074 : Nat) - x1 = (1073 : Nat) - x1 + (1 : Nat) := Nat.succ_sub (Nat.le_trans h1 (by decide))
theorem om61 {x1 : Nat} : (53 : Nat) + ((1073 : Nat) - x1) ≤ (2000 : Nat) := by omega +splitDisjunctions
theorem om62 {x1 : Int} {x2 : Int} (h1 : (0 : Int) ≤ x1 ∧ x1 ≤ x2 ∧ x2 ≤ (2 : Int) ^ (38 : Nat)) : x2 + x1 ≤ (2 : Int) ^ (53 : Nat) := by lia
theorem om63 {x1 : Int} {x2 : Int} (h1 : (0 : Int) ≤ x1 ∧ x1 ≤ x2 ∧ x2 ≤ (2 : Int) ^ (38 : Nat)) : (0 : Int) ≤ x2 + x1 := by lia
theorem om64 {x1 : Int} {x2 : Int} {x3 : Nat} (h1 : (0 : Int) ≤ x1 ∧ x1 ≤ x2 ∧ x2 ≤ (2 : Int) ^ (38 : Nat)) : (1074 : Nat) - x3 ≤ (1900 : Nat) := by omega +splitDisjunctions
theorem om65 {x1 : Int} {x2 : Int} (h1 : (0 : Int) ≤ x1 ∧ x1 ≤ x2 ∧ x2 ≤ (2 : Int) ^ (38 : Nat)) : x2 - x1 ≤ (2 : Int) ^ (53 : Nat) := by lia
theorem om66 {x1 : Int} {x2 : Int} (h1 : (0 : Int) ≤ x1 ∧ x1 ≤ x2 ∧ x2 ≤ (2 : Int) ^ (38 : Nat)) : (0 : Int) ≤ x2 - x1 := by lia
theorem om67 {x1 : Nat} (h1 : x1 ≤ (1900 : Nat)) : (53 : Nat) + x1 ≤ (2000 : Nat) := by lia
theorem om68 {x1 : Int} {x2 : Int} {x3 : Int} {x4 : Int} (h1 : -((16 : Int) * x1) ≤ x2 - (x3 - x4) ∧ x2 - (x3 - x4) ≤ (16 : Int) * x1) : -((16 : Int) * x1) ≤ x2 - (x3 - x4) := h1.1
theorem om69 {x1 : Int} {x2 : Int} {x3 : Int} {x4 : Int} (h1 : -((16 : Int) * x1) ≤ x2 - (x3 - x4) ∧ x2 - (x3 - x4) ≤ (16 : Int) * x1) : x2 - (x3 - x4) ≤ (16 : Int) * x1 := h1.2
theorem om70 {x1 : Int} {x2 : Int} {x3 : Int} {x4 : Nat} (h1 : (2 : Nat) * (x1 - (x2 - x3)).natAbs ≤ (2 : Nat) ^ (5 : Nat) * x4) : (x1 - (x2 - x3)).natAbs ≤ (16 : Nat) * x4 := by lia
theorem om71 {x1 : Int} {x2 : Int} {x3 : Int} {x4 : Int} (h1 : -((16 : Int) * x1) ≤ x2 - (x3 + x4) ∧ x2 - (x3 + x4) ≤ (16 : Int) * x1) : -((16 : Int) * x1) ≤ x2 - (x3 + x4) := h1.1
theorem om72 {x1 : Int} {x2 : Int} {x3 : Int} {x4 : Int} (h1 : -((16 : Int) * x1) ≤ x2 - (x3 + x4) ∧ x2 - (x3 + x4) ≤ (16 : Int) * x1) : x2 - (x3 + x4) ≤ (16 : Int) * x1 := h1.2
theorem om73 {x1 : Int} {x2 : Int} {x3 : Int} {x4 : Nat} (h1 : (2 : Nat) * (x1 - (x2 + x3)).natAbs ≤ (2 : Nat) ^ (5 : Nat) * x4) : (x1 - (x2 + x3)).natAbs ≤ (16 : Nat) * x4 := by lia
theorem om74 {x1 : Int} {x2 : Int} {x3 : Int} {x4 : Int} (h1 : -x1 ≤ x2 - x3 ∧ x2 - x3 ≤ x1) (h2 : x3 ≤ x4) : x2 ≤ x4 + x1 := by lia
theorem om75 {x1 : Int} {x2 : Int} {x3 : Int} {x4 : Int} (h1 : -x1 ≤ x2 - x3 ∧ x2 - x3 ≤ x1) (h2 : -x4 ≤ x3) : -(x4 + x1) ≤ x2 := by lia
theorem om76 {x1 : Int} {x2 : Nat} : x1.natAbs ≤ x2 ↔ -(↑x2 : Int) ≤ x1 ∧ x1 ≤ (↑x2 : Int) := by omega +splitDisjunctions
theorem om77 {x1 : Int} : x1 - x1 = (0 : Int) := Int.sub_self _
theorem om78 {x1 : Int} {x2 : Int} {x3 : Int} {x4 : Int} {x5 : Int} {x6 : Int} (h1 : -x1 ≤ x2 - x3 ∧ x2 - x3 ≤ x1) (h2 : -x4 ≤ x5 - x6 ∧ x5 - x6 ≤ x4) : -(x1 + x4) ≤ x2 + x5 - (x3 + x6) ∧ x2 + x5 - (x3 + x6) ≤ x1 + x4 := by lia
theorem om79 {x1 : Int} {x2 : Int} {x3 : Int} {x4 : Int} {x5 : Int} {x6 : Int} (h1 : -x1 ≤ x2 - x3 ∧ x2 - x3 ≤ x1) (h2 : -x4 ≤ x5 - x6 ∧ x5 - x6 ≤ x4) : -(x1 + x4) ≤ x2 - x5 - (x3 - x6) ∧ x2 - x5 - (x3 - x6) ≤ x1 + x4 := by lia
theorem om80 {x1 : Int} {x2 : Int} {x3 : Int} {x4 : Int} {x5 : Int} (h1 : -x1 ≤ x2 - x3 ∧ x2 - x3 ≤ x1) (h2 : -x4 ≤ x5 - x2) (h3 : x5 - x2 ≤ x4) : -(x1 + x4) ≤ x5 - x3 ∧ x5 - x3 ≤ x1 + x4 := by lia
theorem om81 {x1 : Int} {x2 : Int} {x3 : Int} {x4 : Int} (h1 : -x1 ≤ x2 - x3 ∧ x2 - x3 ≤ x1) (h2 : x1 ≤ x4) : -x4 ≤ x2 - x3 ∧ x2 - x3 ≤ x4 := by lia
theorem om82 {x1 : Int} {x2 : Int} {x3 : Int} {x4 : Int} {x5 : Int} (h1 : -x1 ≤ x2 - x3 ∧ x2 - x3 ≤ x1) (h2 : -((2097152 : Int) * x4) ≤ x5 - x2 ∧ x5 - x2 ≤ (2097152 : Int) * x4) (h3 : x1 ≤ (21068100 : Int) * x4) : -((23165252 : Int) * x4) ≤ x5 - x3 ∧ x5 - x3 ≤ (23165252 : Int) * x4 := by lia
theorem om83 {x1 : Int} {x2 : Int} (h1 : x1 ≤ (65025 : Int)) (h2 : x2 ≤ (324 : Int) * x1) : x2 ≤ (324 : Int) * (65025 : Int) := by lia
theorem om84 {x1 : Int} (h1 : x1 ≤ (100 : Int)) : x1 + (192 : Int) + (32 : Int) ≤ (324 : Int) := by lia
theorem om85 {x1 : Int} {x2 : Int} {x3 : Nat} (h1 : (2 : Nat) * (x1 - x2).natAbs ≤ (2 : Nat) ^ (22 : Nat) * x3) : (x1 - x2).natAbs ≤ (2097152 : Nat) * x3 := by lia
theorem om86 {x1 : Int} (h1 : x1 ≤ (100 : Int)) : (65025 : Int) * ((11 : Int) * (18014398509481984 : Int) + (x1 + (192 : Int) + (32 : Int))) ≤ (2 : Int) ^ (74 : Nat) := by lia
theorem om87 {x1 : Int} {x2 : Int} {x3 : Int} (h1 : -x1 ≤ x2) (h2 : x2 ≤ x1) (h3 : x1 ≤ x3 * (65025 : Int)) : -(x3 * (65025 : Int)) ≤ x2 ∧ x2 ≤ x3 * (65025 : Int) := by lia
theorem om88 {x1 : Int} (h1 : (0 : Int) < x1) (h2 : x1 ≤ (65025 : Int)) : x1.natAbs ≤ (2 : Nat) ^ (53 : Nat) := by grind
theorem om89 {x1 : Int} {x2 : Int} (h1 : -x1 ≤ x2) (h2 : x2 ≤ (5 : Int) * x1) : x2 ≤ (11 : Int) * x1 := by lia
theorem om90 {x1 : Int} {x2 : Int} (h1 : x1 ≤ (5 : Int) * x2) : x1 + (6 : Int) * x2 ≤ (11 : Int) * x2 := by lia
theorem om91 {x1 : Int} {x2 : Int} (h1 : -x1 ≤ x2) (h2 : x2 ≤ (5 : Int) * x1) : -((11 : Int) * x1) ≤ x2 := by lia
theorem om92 {x1 : Int} {x2 : Int} (h1 : -x1 ≤ x2) (h2 : x2 ≤ (5 : Int) * x1) : -((11 : Int) * x1) ≤ x2 + (6 : Int) * x1 := by lia
theorem om93 {x1 : Int} {x2 : Int} {x3 : Nat} (h1 : (2 : Nat) * (x1 - (6 : Int) * x2).natAbs ≤ (2 : Nat) ^ (6 : Nat) * x3) : (x1 - (6 : Int) * x2).natAbs ≤ (32 : Nat) * x3 := by lia
theorem om94 {x1 : Int} (h1 : x1 ≤ (100 : Int)) : (11 : Int) * (18014398509481984 : Int) + (x1 + (192 : Int)) ≤ (2 : Int) ^ (58 : Nat) := by lia
theorem om95 {x1 : Int} : x1 + (96 : Int) ≤ x1 + (192 : Int) := by lia
theorem om96 {x1 : Int} (h1 : ¬x1 < (0 : Int)) : (0 : Int) ≤ x1 := Int.not_lt.mp h1
theorem om97 {x1 : Int} : x1 + (96 : Int) + (0 : Int) + (96 : Int) ≤ x1 + (192 : Int) := by lia
theorem om98 {x1 : Int} {x2 : Int} {x3 : Int} {x4 : Int} (h1 : -((16 : Int) * x1) ≤ x2 - (x3 + x4) ∧ x2 - (x3 + x4) ≤ (16 : Int) * x1) : (6 : Int) * x2 - ((6 : Int) * x3 + (6 : Int) * x4) ≤ (96 : Int) * x1 := by lia
theorem om99 {x1 : Int} {x2 : Int} {x3 : Int} {x4 : Int} (h1 : -((16 : Int) * x1) ≤ x2 - (x3 + x4) ∧ x2 - (x3 + x4) ≤ (16 : Int) * x1) : -((96 : Int) * x1) ≤ (6 : Int) * x2 - ((6 : Int) * x3 + (6 : Int) * x4) := by lia
theorem om100 {x1 : Int} (h1 : x1 ≤ (100 : Int)) : (5 : Int) * (18014398509481984 : Int) + (x1 + (96 : Int)) ≤ (108086391056891903 : Int) := by lia
theorem om101 {x1 : Int} {x2 : Int} (h1 : x1 ≤ (5 : Int) * x2) : x1 ≤ (5 : Int) * x2 := h1
theorem om102 {x1 : Int} {x2 : Int} (h1 : -x1 ≤ x2) (h2 : x2 ≤ (5 : Int) * x1) : -((5 : Int) * x1) ≤ x2 := by lia
theorem om103 {x1 : Int} {x2 : Int} {x3 : Nat} (h1 : (2 : Nat) * ((6 : Int) * x1 - x2).natAbs ≤ (6 : Nat) * ((2 : Nat) ^ (5 : Nat) * x3)) : ((6 : Int) * x1 - x2).natAbs ≤ (96 : Nat) * x3 := by lia
theorem om104 {x1 : Nat} {x2 : Nat} (h1 : x1 ≤ x2) : x1 ≤ (6 : Nat) * x2 := by lia
theorem om105 {x1 : Int} (h1 : x1 ≤ (100 : Int)) : (5 : Int) * (18014398509481984 : Int) + x1 ≤ (2 : Int) ^ (57 : Nat) := by lia
theorem om106 {x1 : Int} {x2 : Int} {x3 : Int} (h1 : -x1 ≤ x2) (h2 : x2 ≤ x1) (h3 : x1 ≤ x3) : (↑x2.natAbs : Int) ≤ x3 := by omega +splitDisjunctions
theorem om107 {x1 : Int} {x2 : Int} (h1 : (2 : Int) * (↑x1.natAbs : Int) ≤ (2 : Int) * x2) : -x2 ≤ x1 := by lia
theorem om108 {x1 : Int} : -x1 ≤ (↑x1.natAbs : Int) := by omega +splitDisjunctions
theorem om109 {x1 : Int} {x2 : Int} (h1 : (2 : Int) * (↑x1.natAbs : Int) ≤ (2 : Int) * x2) : x1 ≤ x2 := by lia
theorem om110 {x1 : Int} {x2 : Int} (h1 : (0 : Int) ≤ x1) (h2 : x1 ≤ x2) : x1.natAbs ≤ x2.natAbs := Int.ofNat_le.mp (by rw [Int.natAbs_of_nonneg h1, Int.natAbs_of_nonneg (Int.le_trans h1 h2)]; exact h2)
theorem om111 {x1 : Int} {x2 : Int} {x3 : Int} {x4 : Int} {x5 : Int} (h1 : -x1 ≤ x2 - x3 ∧ x2 - x3 ≤ x1) (h2 : x1 ≤ (1099511627776 : Int) * x4) (h3 : -((2199023255552 : Int) * x4) ≤ x5 - x2 ∧ x5 - x2 ≤ (2199023255552 : Int) * x4) : -((3298534883328 : Int) * x4) ≤ x5 - x3 ∧ x5 - x3 ≤ (3298534883328 : Int) * x4 := by lia
theorem om112 {x1 : Int} {x2 : Int} {x3 : Nat} (h1 : (2 : Nat) * (x1 - x2).natAbs ≤ (2 : Nat) ^ (42 : Nat) * x3) : (x1 - x2).natAbs ≤ (2199023255552 : Nat) * x3 := by lia
theorem om113 {x1 : Int} {x2 : Int} {x3 : Int} {x4 : Int} {x5 : Int} (h1 : -x1 ≤ x2 - x3 ∧ x2 - x3 ≤ x1) (h2 : x1 ≤ (1099511627776 : Int) * x4) (h3 : x3 ≤ x5) (h4 : (0 : Int) ≤ x3) : -(x5 + (1099511627776 : Int) * x4) ≤ x2 ∧ x2 ≤ x5 + (1099511627776 : Int) * x4 := by lia
theorem om114 {x1 : Int} (h1 : (0 : Int) < x1) : (0 : Int) ≤ x1 * (18014398509481984 : Int) := by lia
theorem om115 {x1 : Int} {x2 : Int} {x3 : Int} (h1 : x1 - x2 = x3) (h2 : (0 : Int) ≤ x2 ∧ x2 ≤ x1 ∧ x1 ≤ (2 : Int) ^ (38 : Nat)) : x3 * (18014398509481984 : Int) ≤ (549755813888 : Int) * (18014398509481984 : Int) := by lia
theorem om116 {x1 : Int} (h1 : x1 ≤ (549755813888 : Int)) : (2 : Int) * x1 ≤ (1099511627776 : Int) := by lia
theorem om117 {x1 : Int} {x2 : Int} {x3 : Int} (h1 : (0 : Int) ≤ x1 ∧ x1 ≤ x2 ∧ x2 ≤ (2 : Int) ^ (38 : Nat)) (h2 : x2 + x1 = x3) : x3.natAbs ≤ (2 : Nat) ^ (53 : Nat) := by omega +splitDisjunctions
theorem om118 {x1 : Int} {x2 : Int} {x3 : Int} (h1 : (0 : Int) ≤ x1 ∧ x1 ≤ x2 ∧ x2 ≤ (2 : Int) ^ (38 : Nat)) (h2 : x2 + x1 = x3) : x3 ≤ (549755813888 : Int) := by lia
theorem om119 {x1 : Int} {x2 : Int} {x3 : Int} {x4 : Int} (h1 : x1 - x2 = x3) (h2 : (0 : Int) ≤ x2 ∧ x2 ≤ x1 ∧ x1 ≤ (2 : Int) ^ (38 : Nat)) (h3 : x1 + x2 = x4) : x3 ≤ x4 := by omega +splitDisjunctions
theorem om120 {x1 : Int} {x2 : Int} {x3 : Int} {x4 : Int} (h1 : x1 - x2 = x3) (h2 : (0 : Int) < x3) (h3 : (0 : Int) ≤ x2 ∧ x2 ≤ x1 ∧ x1 ≤ (2 : Int) ^ (38 : Nat)) (h4 : x1 + x2 = x4) : (0 : Int) < x4 := by omega +splitDisjunctions
theorem om121 : (53 : Nat) + (1074 : Nat) ≤ (2000 : Nat) := by decide
theorem om122 {x1 : Nat} (h1 : x1 ≤ (53 : Nat)) : (1074 : Nat) = (1074 : Nat) - x1 + x1 := by lia
theorem om123 {x1 : Int} {x2 : Int} {x3 : Int} {x4 : Int} {x5 : Int} (h1 : x1 - x2 = x3) (h2 : x4 = (2 : Int) * x3 + x1 - x2 + (6 : Int) * x5) : x4 = (4 : Int) * x3 + x2 - x1 + (6 : Int) * x5 := by lia
theorem om124 {x1 : Int} {x2 : Int} {x3 : Int} {x4 : Int} {x5 : Int} (h1 : x1 - x2 = x3) (h2 : x4 = x2 - x1 + (6 : Int) * x5) : x4 = (4 : Int) * x3 + x1 - x2 + (6 : Int) * (x5 - x3) := by grind
theorem om125 {x1 : Int} {x2 : Int} {x3 : Int} {x4 : Int} {x5 : Int} (h1 : x1 - x2 = x3) (h2 : x4 = (4 : Int) * x3 + x2 - x1 + (6 : Int) * x5) : x4 = (2 : Int) * x3 + x1 - x2 + (6 : Int) * x5 := by grind
theorem om126 {x1 : Int} {x2 : Int} {x3 : Int} {x4 : Int} {x5 : Int} (h1 : x1 - x2 = x3) (h2 : x4 = x1 - x2 + (6 : Int) * x5) : x4 = (2 : Int) * x3 + x2 - x1 + (6 : Int) * x5 := by grind
theorem om127 {x1 : Int} {x2 : Int} {x3 : Int} {x4 : Int} {x5 : Int} (h1 : x1 - x2 = x3) (h2 : x4 = (4 : Int) * x3 + x1 - x2 + (6 : Int) * x5) : x4 = x2 - x1 + (6 : Int) * (x5 + x3) := by lia
theorem om128 {x1 : Int} {x2 : Int} {x3 : Int} {x4 : Int} {x5 : Int} (h1 : x1 - x2 = x3) (h2 : x4 = (2 : Int) * x3 + x2 - x1 + (6 : Int) * x5) : x4 = x1 - x2 + (6 : Int) * x5 := by grind
theorem om129 {x1 : Int} (h1 : (0 : Int) ≤ x1) (h2 : x1 ≠ (0 : Int)) : (0 : Int) < x1 := by lia
theorem om130 {x1 : Int} {x2 : Int} (h1 : x1 - x2 = (0 : Int)) : x2 = x1 := by lia
theorem om131 {x1 : Int} {x2 : Int} (h1 : (0 : Int) < x1) (h2 : x1 = (0 : Int)) : x2 = (0 : Int) := by lia
theorem om132 {x1 : Int} (h1 : x1 = (0 : Int)) : x1 = (0 : Int) := h1
theorem om133 {x1 : Int} {x2 : Int} {x3 : Int} (h1 : x1 - x2 = x3) (h2 : x2 = x1) : x3 = (0 : Int) := by lia
theorem om134 {x1 : Int} {x2 : Int} {x3 : Int} {x4 : Int} : x1 - x2 + x3 - (x1 - x2 + x4) = x3 - x4 := by lia
theorem om135 {x1 : Int} {x2 : Int} {x3 : Int} : x1 - x2 + x3 = x1 + (x3 - x2) := by lia
theorem om136 {x1 : Int} {x2 : Int} : x1 - x2 + x2 = x1 := Int.sub_add_cancel _ _
theorem om137 {x1 : Int} {x2 : Int} {x3 : Int} {x4 : Int} {x5 : Int} {x6 : Int} (h1 : x1 = (4 : Int) * x2 + x3 - x4 + (6 : Int) * x5) : x1 = (4 : Int) * x2 + (x6 - x4) - (x6 - x3) + (6 : Int) * x5 := by lia
theorem om138 {x1 : Int} {x2 : Int} {x3 : Int} {x4 : Int} {x5 : Int} {x6 : Int} (h1 : x1 - x2 = x3) (h2 : x2 ≤ x4 ∧ x2 ≤ x5 ∧ x2 ≤ x6 ∧ x4 ≤ x1 ∧ x5 ≤ x1 ∧ x6 ≤ x1) : (4 : Int) * x3 + (x1 - x5) - (x1 - x4) ≤ (5 : Int) * x3 := by lia
theorem om139 {x1 : Int} {x2 : Int} {x3 : Int} {x4 : Int} {x5 : Int} {x6 : Int} (h1 : x1 - x2 = x3) (h2 : x2 ≤ x4 ∧ x2 ≤ x5 ∧ x2 ≤ x6 ∧ x4 ≤ x1 ∧ x5 ≤ x1 ∧ x6 ≤ x1) : -x3 ≤ (4 : Int) * x3 + (x1 - x5) - (x1 - x4) := by lia
theorem om140 {x1 : Int} {x2 : Int} {x3 : Int} {x4 : Int} {x5 : Int} {x6 : Int} (h1 : x1 - x2 = x3) (h2 : x2 ≤ x4 ∧ x2 ≤ x5 ∧ x2 ≤ x6 ∧ x4 ≤ x1 ∧ x5 ≤ x1 ∧ x6 ≤ x1) : (4 : Int) * x3 + (x1 - x5) ≤ (5 : Int) * x3 := by lia
theorem om141 {x1 : Int} {x2 : Int} {x3 : Int} {x4 : Int} {x5 : Int} {x6 : Int} (h1 : x1 - x2 = x3) (h2 : x2 ≤ x4 ∧ x2 ≤ x5 ∧ x2 ≤ x6 ∧ x4 ≤ x1 ∧ x5 ≤ x1 ∧ x6 ≤ x1) : -((5 : Int) * x3) ≤ (4 : Int) * x3 + (x1 - x5) := by lia
theorem om142 {x1 : Int} {x2 : Int} {x3 : Int} (h1 : (0 : Int) < x1) (h2 : x1 = (0 : Int)) : x2 = x3 := by lia
theorem om143 {x1 : Int} {x2 : Int} (h1 : x1 - x2 = (0 : Int)) : x1 = x2 := Int.sub_eq_zero.mp h1
theorem om144 {x1 : Int} {x2 : Int} {x3 : Int} {x4 : Int} {x5 : Int} {x6 : Int} (h1 : x1 = x2 + (x3 - x4)) (h2 : x5 = x2 + (x6 - x4)) (h3 : x5 = x1) : x6 - x3 = (0 : Int) := by lia
theorem om145 {x1 : Int} {x2 : Int} {x3 : Int} {x4 : Int} {x5 : Int} {x6 : Int} (h1 : x1 = (2 : Int) * x2 + x3 - x4 + (6 : Int) * x5) : x1 = (2 : Int) * x2 + (x6 - x4) - (x6 - x3) + (6 : Int) * x5 := by lia
theorem om146 {x1 : Int} {x2 : Int} {x3 : Int} {x4 : Int} {x5 : Int} {x6 : Int} (h1 : x1 - x2 = x3) (h2 : x2 ≤ x4 ∧ x2 ≤ x5 ∧ x2 ≤ x6 ∧ x4 ≤ x1 ∧ x5 ≤ x1 ∧ x6 ≤ x1) : (2 : Int) * x3 + (x1 - x4) - (x1 - x6) ≤ (5 : Int) * x3 := by lia
theorem om147 {x1 : Int} {x2 : Int} {x3 : Int} {x4 : Int} {x5 : Int} {x6 : Int} (h1 : x1 - x2 = x3) (h2 : x2 ≤ x4 ∧ x2 ≤ x5 ∧ x2 ≤ x6 ∧ x4 ≤ x1 ∧ x5 ≤ x1 ∧ x6 ≤ x1) : -x3 ≤ (2 : Int) * x3 + (x1 - x4) - (x1 - x6) := by lia
theorem om148 {x1 : Int} {x2 : Int} {x3 : Int} {x4 : Int} {x5 : Int} {x6 : Int} (h1 : x1 - x2 = x3) (h2 : x2 ≤ x4 ∧ x2 ≤ x5 ∧ x2 ≤ x6 ∧ x4 ≤ x1 ∧ x5 ≤ x1 ∧ x6 ≤ x1) : (2 : Int) * x3 + (x1 - x4) ≤ (3 : Int) * x3 := by lia
theorem om149 {x1 : Int} {x2 : Int} {x3 : Int} {x4 : Int} {x5 : Int} {x6 : Int} (h1 : x1 - x2 = x3) (h2 : x2 ≤ x4 ∧ x2 ≤ x5 ∧ x2 ≤ x6 ∧ x4 ≤ x1 ∧ x5 ≤ x1 ∧ x6 ≤ x1) : -((3 : Int) * x3) ≤ (2 : Int) * x3 + (x1 - x4) := by lia
theorem om150 {x1 : Int} {x2 : Int} {x3 : Int} {x4 : Int} {x5 : Int} {x6 : Int} (h1 : x1 = x2 + (x3 - x4)) (h2 : x5 = x2 + (x6 - x4)) (h3 : x1 = x5) : x6 - x3 = (0 : Int) := by lia
theorem om151 {x1 : Int} {x2 : Int} {x3 : Int} {x4 : Int} {x5 : Int} (h1 : x1 = x2 - x3 + (6 : Int) * x4) : x1 = x5 - x3 - (x5 - x2) + (6 : Int) * x4 := by lia
theorem om152 {x1 : Int} {x2 : Int} {x3 : Int} {x4 : Int} {x5 : Int} {x6 : Int} (h1 : x1 - x2 = x3) (h2 : x2 ≤ x4 ∧ x2 ≤ x5 ∧ x2 ≤ x6 ∧ x4 ≤ x1 ∧ x5 ≤ x1 ∧ x6 ≤ x1) : x1 - x6 - (x1 - x5) ≤ (5 : Int) * x3 := by lia
theorem om153 {x1 : Int} {x2 : Int} {x3 : Int} {x4 : Int} {x5 : Int} {x6 : Int} (h1 : x1 - x2 = x3) (h2 : x2 ≤ x4 ∧ x2 ≤ x5 ∧ x2 ≤ x6 ∧ x4 ≤ x1 ∧ x5 ≤ x1 ∧ x6 ≤ x1) : -x3 ≤ x1 - x6 - (x1 - x5) := by lia
theorem om154 {x1 : Int} {x2 : Int} {x3 : Int} (h1 : x1 = x2 + x3) (h2 : x2 = x1) : x3 = (0 : Int) := by lia
theorem om155 {x1 : Int} {x2 : Int} {x3 : Int} {x4 : Int} {x5 : Int} {x6 : Int} (h1 : x1 - x2 = x3) (h2 : x2 ≤ x4 ∧ x2 ≤ x5 ∧ x2 ≤ x6 ∧ x4 ≤ x1 ∧ x5 ≤ x1 ∧ x6 ≤ x1) : x1 - x6 ≤ (1 : Int) * x3 := by lia
theorem om156 {x1 : Int} {x2 : Int} {x3 : Int} {x4 : Int} {x5 : Int} {x6 : Int} (h1 : x1 - x2 = x3) (h2 : x2 ≤ x4 ∧ x2 ≤ x5 ∧ x2 ≤ x6 ∧ x4 ≤ x1 ∧ x5 ≤ x1 ∧ x6 ≤ x1) : -((1 : Int) * x3) ≤ x1 - x6 := by lia
theorem om157 {x1 : Int} {x2 : Int} {x3 : Int} {x4 : Int} {x5 : Int} {x6 : Int} (h1 : x1 - x2 = x3) (h2 : x2 ≤ x4 ∧ x2 ≤ x5 ∧ x2 ≤ x6 ∧ x4 ≤ x1 ∧ x5 ≤ x1 ∧ x6 ≤ x1) : x1 - x5 ≤ (1 : Int) * x3 := by lia
theorem om158 {x1 : Int} {x2 : Int} {x3 : Int} {x4 : Int} {x5 : Int} {x6 : Int} (h1 : x1 - x2 = x3) (h2 : x2 ≤ x4 ∧ x2 ≤ x5 ∧ x2 ≤ x6 ∧ x4 ≤ x1 ∧ x5 ≤ x1 ∧ x6 ≤ x1) : -((1 : Int) * x3) ≤ x1 - x5 := by lia
theorem om159 {x1 : Int} {x2 : Int} {x3 : Int} {x4 : Int} {x5 : Int} {x6 : Int} (h1 : x1 - x2 = x3) (h2 : x2 ≤ x4 ∧ x2 ≤ x5 ∧ x2 ≤ x6 ∧ x4 ≤ x1 ∧ x5 ≤ x1 ∧ x6 ≤ x1) : x1 - x4 ≤ (1 : Int) * x3 := by lia
theorem om160 {x1 : Int} {x2 : Int} {x3 : Int} {x4 : Int} {x5 : Int} {x6 : Int} (h1 : x1 - x2 = x3) (h2 : x2 ≤ x4 ∧ x2 ≤ x5 ∧ x2 ≤ x6 ∧ x4 ≤ x1 ∧ x5 ≤ x1 ∧ x6 ≤ x1) : -((1 : Int) * x3) ≤ x1 - x4 := by lia
theorem om161 {x1 : Int} {x2 : Int} {x3 : Int} {x4 : Int} {x5 : Int} {x6 : Int} (h1 : x1 - x2 = x3) (h2 : x2 ≤ x4 ∧ x2 ≤ x5 ∧ x2 ≤ x6 ∧ x4 ≤ x1 ∧ x5 ≤ x1 ∧ x6 ≤ x1) : x1 - x6 ≤ x3 := by omega +splitDisjunctions
theorem om162 {x1 : Int} {x2 : Int} {x3 : Int} {x4 : Int} {x5 : Int} (h1 : x1 ≤ x2 ∧ x1 ≤ x3 ∧ x1 ≤ x4 ∧ x2 ≤ x5 ∧ x3 ≤ x5 ∧ x4 ≤ x5) : (0 : Int) ≤ x5 - x4 := by lia
theorem om163 {x1 : Int} {x2 : Int} {x3 : Int} {x4 : Int} : x1 + (x2 - x3) - (x1 + (x4 - x3)) - (x2 - x4) = (0 : Int) := by lia
theorem om164 {x1 : Int} {x2 : Int} {x3 : Int} {x4 : Int} {x5 : Int} {x6 : Int} (h1 : x1 - x2 = x3) (h2 : x2 ≤ x4 ∧ x2 ≤ x5 ∧ x2 ≤ x6 ∧ x4 ≤ x1 ∧ x5 ≤ x1 ∧ x6 ≤ x1) : x1 - x5 ≤ x3 := by omega +splitDisjunctions
theorem om165 {x1 : Int} {x2 : Int} {x3 : Int} {x4 : Int} {x5 : Int} (h1 : x1 ≤ x2 ∧ x1 ≤ x3 ∧ x1 ≤ x4 ∧ x2 ≤ x5 ∧ x3 ≤ x5 ∧ x4 ≤ x5) : (0 : Int) ≤ x5 - x3 := by lia
theorem om166 {x1 : Int} {x2 : Int} {x3 : Int} {x4 : Int} {x5 : Int} {x6 : Int} (h1 : x1 - x2 = x3) (h2 : x2 ≤ x4 ∧ x2 ≤ x5 ∧ x2 ≤ x6 ∧ x4 ≤ x1 ∧ x5 ≤ x1 ∧ x6 ≤ x1) : x1 - x4 ≤ x3 := by omega +splitDisjunctions
theorem om167 {x1 : Int} {x2 : Int} {x3 : Int} {x4 : Int} {x5 : Int} (h1 : x1 ≤ x2 ∧ x1 ≤ x3 ∧ x1 ≤ x4 ∧ x2 ≤ x5 ∧ x3 ≤ x5 ∧ x4 ≤ x5) : (0 : Int) ≤ x5 - x2 := by lia
theorem om168 {x1 : Int} {x2 : Int} : x1 + x2 - x1 = x2 := by lia
theorem om169 {x1 : Int} {x2 : Int} {x3 : Int} {x4 : Int} : x1 + (x2 - x3) - (x1 + (x4 - x3)) = x2 - x4 := by lia
theorem om170 {x1 : Int} {x2 : Int} {x3 : Int} : x1 + (6 : Int) * x2 - (x1 + (6 : Int) * x3) = (6 : Int) * x2 - (6 : Int) * x3 := by lia
theorem om171 {x1 : Int} {x2 : Int} : x1 - (x1 + (6 : Int) * x2) = -((6 : Int) * x2) := by lia
theorem om172 {x1 : Nat} : (1074 : Nat) - x1 ≤ (1900 : Nat) := by omega +splitDisjunctions
theorem om173 {x1 : Int} {x2 : Int} {x3 : Int} {x4 : Int} {x5 : Int} (h1 : x1 - x2 = x3) (h2 : x1 - x4 = x5) (h3 : (0 : Int) ≤ x2 ∧ x2 ≤ x1 ∧ x1 ≤ (2 : Int) ^ (38 : Nat)) (h4 : x5 ≤ x3) : x1 - x4 ≤ (2 : Int) ^ (53 : Nat) := by omega +splitDisjunctions
theorem om174 {x1 : Int} {x2 : Int} {x3 : Int} (h1 : x1 - x2 = x3) (h2 : (0 : Int) ≤ x3) : (0 : Int) ≤ x1 - x2 := by lia
theorem om175 {x1 : Int} {x2 : Int} {x3 : Int} : x1 - x2 + (x3 - x1) = x3 - x2 := by lia
theorem om176 {x1 : Int} {x2 : Int} {x3 : Int} {x4 : Int} {x5 : Int} {x6 : Int} {x7 : Int} {x8 : Int} {x9 : Int} (h1 : x1 = x2) (h2 : x3 = x4) (h3 : x5 = x6) (h4 : (0 : Int) ≤ x5 - x7 - (x3 - x8)) (h5 : (0 : Int) ≤ x4 - x9 - (x2 - x7)) : x6 - x9 - (x1 - x8) = x8 + x6 - (x9 + x2) ∧   x4 - x9 - (x2 - x7) = x7 + x4 - (x9 + x2) ∧ x7 + x4 ≤ x8 + x6 ∧ x9 + x2 ≤ x7 + x4 := by lia
theorem om177 {x1 : Int} {x2 : Int} (h1 : x1 ≤ x2) : (0 : Int) ≤ x2 - x1 := Int.sub_nonneg.mpr h1
theorem om178 {x1 : Int} {x2 : Int} {x3 : Int} {x4 : Int} (h1 : x1 ≤ x2) (h2 : x2 ≤ x3) (h3 : x3 ≤ x4) : (0 : Int) ≤ x4 - x1 := by lia
theorem om179 {x1 : Nat} {x2 : Nat} (h1 : x1 < x2) : (0 : Int) < (↑x2 : Int) - (↑x1 : Int) := by lia
theorem om180 {x1 : Nat} (h1 : (↑x1 : Int) ≤ (255 : Int)) : x1 ≤ (255 : Nat) := Int.ofNat_le.mp h1
theorem om181 {x1 : Nat} : ¬(↑x1 : Int) - (↑x1 : Int) < (0 : Int) := by lia
theorem om182 {x1 : Nat} : ¬(0 : Int) < (↑x1 : Int) - (↑x1 : Int) := by lia
theorem om183 {x1 : Nat} {x2 : Nat} (h1 : x1 < x2) : (↑x1 : Int) - (↑x2 : Int) < (0 : Int) := by lia
theorem om184 {x1 : Nat} {x2 : Nat} (h1 : x1 < x2) : ¬(0 : Int) < (↑x1 : Int) - (↑x2 : Int) := by lia
theorem om185 : (1 : Int) * (1 : Int) = (1 : Int) := by decide
theorem om186 {x1 : Int} (h1 : x1 < (0 : Int)) (h2 : (0 : Int) < x1) : (1 : Int) * (1 : Int) = (-1 : Int) := by grind
theorem om187 {x1 : Int} (h1 : x1 < (0 : Int)) (h2 : (0 : Int) < x1) : (1 : Int) * (-1 : Int) = (1 : Int) := by grind
theorem om188 : (1 : Int) * (-1 : Int) = (-1 : Int) := by decide
theorem om189 {x1 : Int} (h1 : x1 < (0 : Int)) (h2 : (0 : Int) < x1) : (-1 : Int) * (1 : Int) = (1 : Int) := by grind
theorem om190 : (-1 : Int) * (1 : Int) = (-1 : Int) := by decide
theorem om191 : (-1 : Int) * (-1 : Int) = (1 : Int) := by decide
theorem om192 {x1 : Int} {x2 : Int} {x3 : Int} {x4 : Int} (h1 : x1 = x2 - x3) : (3 : Int) * x1 < (4 : Int) * x1 + x3 - x4 → x4 - x2 < (0 : Int) := by lia
theorem om193 {x1 : Int} {x2 : Int} {x3 : Int} {x4 : Int} (h1 : x1 = x2 - x3) : (0 : Int) < (4 : Int) * x1 + x3 - x4 → (4 : Int) * x1 + x3 - x4 < (3 : Int) * x1 → (0 : Int) < x4 - x2 := by lia
theorem om194 {x1 : Int} {x2 : Int} {x3 : Int} {x4 : Int} (h1 : x1 = x2 - x3) : (4 : Int) * x1 + x3 - x4 = (3 : Int) * x1 → x4 - x2 = (0 : Int) := by grind
theorem om195 {x1 : Int} {x2 : Int} {x3 : Int} {x4 : Int} (h1 : x1 ≤ x2) (h2 : x2 ≤ x3) (h3 : x4 = x3 - x1) : (4 : Int) * x4 + x1 - x2 = (0 : Int) → x2 - x3 = (0 : Int) := by lia
theorem om196 {x1 : Int} {x2 : Int} {x3 : Int} {x4 : Int} (h1 : x1 ≤ x2) (h2 : x2 ≤ x3) (h3 : x4 = x3 - x1) (h4 : ¬x4 = (0 : Int)) : (4 : Int) * x4 + x1 - x2 < (6 : Int) * x4 := by lia
theorem om197 {x1 : Int} {x2 : Int} {x3 : Int} {x4 : Int} (h1 : x1 ≤ x2) (h2 : x2 ≤ x3) (h3 : x4 = x3 - x1) : (0 : Int) ≤ (4 : Int) * x4 + x1 - x2 := by lia
theorem om198 {x1 : Int} {x2 : Int} {x3 : Int} {x4 : Int} (h1 : x1 ≤ x2) (h2 : x2 ≤ x3) (h3 : x4 = x3 - x1) (h4 : ¬x4 = (0 : Int)) : (0 : Int) < x4 := by lia
theorem om199 {x1 : Int} {x2 : Int} {x3 : Int} {x4 : Int} (h1 : x1 ≤ x2) (h2 : x3 = x2 - x4) : (3 : Int) * x3 < (4 : Int) * x3 + x1 - x4 → x4 - x2 < (0 : Int) := by lia
theorem om200 {x1 : Int} {x2 : Int} {x3 : Int} {x4 : Int} (h1 : x1 ≤ x2) : (0 : Int) < (4 : Int) * x3 + x2 - x1 → (4 : Int) * x3 + x2 - x1 < (3 : Int) * x3 → (0 : Int) < x1 - x4 := by lia
theorem om201 {x1 : Int} {x2 : Int} {x3 : Int} {x4 : Int} (h1 : x1 ≤ x2) (h2 : x2 ≤ x3) (h3 : x4 = x3 - x1) : (4 : Int) * x4 + x2 - x1 = (3 : Int) * x4 → x1 - x3 = (0 : Int) := by lia
theorem om202 {x1 : Int} {x2 : Int} {x3 : Int} {x4 : Int} (h1 : x1 ≤ x2) (h2 : x2 ≤ x3) (h3 : x4 = x3 - x1) : (4 : Int) * x4 + x2 - x1 = (0 : Int) → x1 - x3 = (0 : Int) := by lia
theorem om203 {x1 : Int} {x2 : Int} {x3 : Int} {x4 : Int} (h1 : x1 ≤ x2) (h2 : x2 ≤ x3) (h3 : x4 = x3 - x1) (h4 : ¬x4 = (0 : Int)) : (4 : Int) * x4 + x2 - x1 < (6 : Int) * x4 := by lia
theorem om204 {x1 : Int} {x2 : Int} {x3 : Int} {x4 : Int} (h1 : x1 ≤ x2) (h2 : x2 ≤ x3) (h3 : x4 = x3 - x1) : (0 : Int) ≤ (4 : Int) * x4 + x2 - x1 := by lia
theorem om205 {x1 : Int} {x2 : Int} {x3 : Int} {x4 : Int} (h1 : x1 = x2 - x3) : (3 : Int) * x1 < (2 : Int) * x1 + x4 - x3 → x2 - x4 < (0 : Int) := by lia
theorem om206 {x1 : Int} {x2 : Int} {x3 : Int} {x4 : Int} (h1 : x1 = x2 - x3) : (0 : Int) < (2 : Int) * x1 + x4 - x3 → (2 : Int) * x1 + x4 - x3 < (3 : Int) * x1 → (0 : Int) < x2 - x4 := by lia
theorem om207 {x1 : Int} {x2 : Int} {x3 : Int} {x4 : Int} (h1 : x1 = x2 - x3) : (2 : Int) * x1 + x4 - x3 = (3 : Int) * x1 → x2 - x4 = (0 : Int) := by lia
theorem om208 {x1 : Int} {x2 : Int} {x3 : Int} {x4 : Int} (h1 : x1 ≤ x2) (h2 : x2 ≤ x3) (h3 : x4 = x3 - x1) : (2 : Int) * x4 + x2 - x1 = (0 : Int) → x3 - x2 = (0 : Int) := by lia
theorem om209 {x1 : Int} {x2 : Int} {x3 : Int} {x4 : Int} (h1 : x1 ≤ x2) (h2 : x2 ≤ x3) (h3 : x4 = x3 - x1) (h4 : ¬x4 = (0 : Int)) : (2 : Int) * x4 + x2 - x1 < (6 : Int) * x4 := by lia
theorem om210 {x1 : Int} {x2 : Int} {x3 : Int} {x4 : Int} (h1 : x1 ≤ x2) (h2 : x2 ≤ x3) (h3 : x4 = x3 - x1) : (0 : Int) ≤ (2 : Int) * x4 + x2 - x1 := by lia
theorem om211 {x1 : Int} {x2 : Int} {x3 : Int} {x4 : Int} (h1 : x1 ≤ x2) (h2 : x3 = x4 - x1) : (3 : Int) * x3 < (2 : Int) * x3 + x1 - x2 → x4 - x1 < (0 : Int) := by lia
theorem om212 {x1 : Int} {x2 : Int} {x3 : Int} {x4 : Int} (h1 : x1 = x2 - x3) : (0 : Int) < (2 : Int) * x1 + x3 - x4 → (2 : Int) * x1 + x3 - x4 < (3 : Int) * x1 → (0 : Int) < x2 - x3 := by lia
theorem om213 {x1 : Int} {x2 : Int} {x3 : Int} {x4 : Int} (h1 : x1 ≤ x2) (h2 : x2 ≤ x3) (h3 : x4 = x3 - x1) : (2 : Int) * x4 + x1 - x2 = (3 : Int) * x4 → x3 - x1 = (0 : Int) := by lia
theorem om214 {x1 : Int} {x2 : Int} {x3 : Int} {x4 : Int} (h1 : x1 ≤ x2) (h2 : x2 ≤ x3) (h3 : x4 = x3 - x1) : (2 : Int) * x4 + x1 - x2 = (0 : Int) → x3 - x1 = (0 : Int) := by lia
theorem om215 {x1 : Int} {x2 : Int} {x3 : Int} {x4 : Int} (h1 : x1 ≤ x2) (h2 : x2 ≤ x3) (h3 : x4 = x3 - x1) (h4 : ¬x4 = (0 : Int)) : (2 : Int) * x4 + x1 - x2 < (6 : Int) * x4 := by lia
theorem om216 {x1 : Int} {x2 : Int} {x3 : Int} {x4 : Int} (h1 : x1 ≤ x2) (h2 : x2 ≤ x3) (h3 : x4 = x3 - x1) : (0 : Int) ≤ (2 : Int) * x4 + x1 - x2 := by lia
theorem om217 {x1 : Int} {x2 : Int} {x3 : Int} (h1 : x1 ≤ x2) (h2 : ¬x1 = x2) : (3 : Int) * x3 < x1 - x2 + (6 : Int) * x3 → x1 - x2 < (0 : Int) := by lia
theorem om218 {x1 : Int} {x2 : Int} {x3 : Int} {x4 : Int} (h1 : x1 ≤ x2) (h2 : x3 = x2 - x4) : (0 : Int) < x4 - x1 + (6 : Int) * x3 → x4 - x1 + (6 : Int) * x3 < (3 : Int) * x3 → (0 : Int) < x4 - x1 := by lia
theorem om219 {x1 : Int} {x2 : Int} {x3 : Int} {x4 : Int} (h1 : x1 ≤ x2) (h2 : x2 ≤ x3) (h3 : x4 = x3 - x1) : x1 - x2 + (6 : Int) * x4 = (3 : Int) * x4 → x1 - x2 = (0 : Int) := by lia
theorem om220 {x1 : Int} {x2 : Int} {x3 : Int} {x4 : Int} (h1 : x1 ≤ x2) (h2 : x2 ≤ x3) (h3 : x4 = x3 - x1) : x1 - x2 + (6 : Int) * x4 = (0 : Int) → x1 - x2 = (0 : Int) := by lia
theorem om221 {x1 : Int} {x2 : Int} {x3 : Int} (h1 : x1 ≤ x2) (h2 : ¬x1 = x2) : x1 - x2 + (6 : Int) * x3 < (6 : Int) * x3 := by lia
theorem om222 {x1 : Int} {x2 : Int} {x3 : Int} {x4 : Int} (h1 : x1 ≤ x2) (h2 : x2 ≤ x3) (h3 : x4 = x3 - x1) : (0 : Int) ≤ x1 - x2 + (6 : Int) * x4 := by lia
theorem om223 {x1 : Int} {x2 : Int} {x3 : Int} {x4 : Int} (h1 : x1 ≤ x2) (h2 : x2 ≤ x3) (h3 : x4 = x3 - x1) (h4 : ¬x1 = x2) : (0 : Int) < x4 := by lia
theorem om224 {x1 : Int} {x2 : Int} {x3 : Int} {x4 : Int} (h1 : ¬x1 = x2) : x1 - x2 + (6 : Int) * x3 = x1 - x2 + (6 : Int) * x4 + (6 : Int) * (x3 - x4) := by lia
theorem om225 {x1 : Int} {x2 : Int} {x3 : Int} {x4 : Int} (h1 : x1 ≤ x2) (h2 : x2 ≤ x3) (h3 : x4 = x3 - x1) : (3 : Int) * x4 < x1 - x2 → x1 - x2 < (0 : Int) := by lia
theorem om226 {x1 : Int} {x2 : Int} {x3 : Int} : (0 : Int) < x1 - x2 → x1 - x2 < (3 : Int) * x3 → (0 : Int) < x1 - x2 := by lia
theorem om227 {x1 : Int} {x2 : Int} {x3 : Int} (h1 : x1 = x2) : x1 - x2 = (3 : Int) * x3 → x1 - x2 = (0 : Int) := by lia
theorem om228 {x1 : Int} {x2 : Int} : x1 - x2 = (0 : Int) → x1 - x2 = (0 : Int) := by lia
theorem om229 {x1 : Int} {x2 : Int} {x3 : Int} {x4 : Int} (h1 : x1 ≤ x2) (h2 : x2 ≤ x3) (h3 : x4 = x3 - x1) (h4 : ¬x4 = (0 : Int)) : x1 - x2 < (6 : Int) * x4 := by lia
theorem om230 {x1 : Int} {x2 : Int} (h1 : x1 = x2) : (0 : Int) ≤ x1 - x2 := by lia
theorem om231 {x1 : Int} {x2 : Int} {x3 : Int} {x4 : Int} (h1 : x1 ≤ x2) (h2 : x3 = x2 - x4) : (3 : Int) * x3 < x1 - x4 → x1 - x4 < (0 : Int) := by lia
theorem om232 {x1 : Int} {x2 : Int} {x3 : Int} {x4 : Int} (h1 : x1 ≤ x2) (h2 : x2 ≤ x3) (h3 : x4 = x3 - x1) : x2 - x1 = (3 : Int) * x4 → x2 - x1 = (0 : Int) := by lia
theorem om233 {x1 : Int} {x2 : Int} {x3 : Int} {x4 : Int} (h1 : x1 ≤ x2) (h2 : x2 ≤ x3) (h3 : x4 = x3 - x1) (h4 : ¬x4 = (0 : Int)) : x2 - x1 < (6 : Int) * x4 := by lia
theorem om234 {x1 : Int} {x2 : Int} {x3 : Int} {x4 : Int} (h1 : x1 ≤ x2) (h2 : x2 ≤ x3) (h3 : x4 = x3 - x1) (h4 : x4 = (0 : Int)) : x2 - x1 = (0 : Int) := by lia
theorem om235 {x1 : Int} {x2 : Int} {x3 : Int} {x4 : Int} (h1 : x1 ≤ x2) (h2 : x2 ≤ x3) (h3 : x4 = x3 - x1) (h4 : x4 = (0 : Int)) : x1 - x2 = (0 : Int) := by lia
theorem om236 {x1 : Int} {x2 : Int} {x3 : Int} (h1 : x1 = x2 - x3) (h2 : x1 = (0 : Int)) : x2 - x3 = (0 : Int) := by lia
theorem om237 {x1 : Int} {x2 : Int} {x3 : Int} {x4 : Int} (h1 : x1 ≤ x2) (h2 : x2 ≤ x3) (h3 : x4 = x3 - x1) (h4 : x4 = (0 : Int)) : x3 - x2 = (0 : Int) := by lia
theorem om238 {x1 : Int} {x2 : Int} {x3 : Int} (h1 : x1 = x2 - x3) (h2 : x1 = (0 : Int)) : x3 - x2 = (0 : Int) := by lia
theorem om239 {x1 : Int} {x2 : Int} {x3 : Int} {x4 : Int} (h1 : x1 ≤ x2) (h2 : x2 ≤ x3) (h3 : x4 = x3 - x1) (h4 : x4 = (0 : Int)) : x2 - x3 = (0 : Int) := by lia
theorem om240 {x1 : Int} (h1 : x1 < (0 : Int)) : ¬(0 : Int) < x1 := Int.not_lt.mpr (Int.le_of_lt h1)
theorem om241 {x1 : Int} {x2 : Int} (h1 : ¬x1 = (3 : Int) * x2) (h2 : ¬x1 < (3 : Int) * x2) : (3 : Int) * x2 < x1 := by lia
theorem om242 {x1 : Int} (h1 : (0 : Int) ≤ x1) (h2 : ¬x1 = (0 : Int)) : (0 : Int) < x1 := by lia
theorem om243 {x1 : Int} (h1 : (0 : Int) < x1) : ¬x1 = (0 : Int) := Int.ne_of_gt h1
theorem om244 {x1 : Int} {x2 : Int} (h1 : x1 < (6 : Int) * x2) (h2 : ¬x1 < (3 : Int) * x2) : x1 - (3 : Int) * x2 = (0 : Int) ↔ x1 = (0 : Int) ∨ x1 = (3 : Int) * x2 := by lia
theorem om245 {x1 : Int} {x2 : Int} : x1 - (3 : Int) * x2 = x1 - (3 : Int) * x2 + (3 : Int) * x2 * (1 : Int) - (3 : Int) * x2 := by lia
theorem om246 {x1 : Int} {x2 : Int} (h1 : x1 < (6 : Int) * x2) : x1 - (3 : Int) * x2 < (3 : Int) * x2 := by lia
theorem om247 {x1 : Int} {x2 : Int} (h1 : ¬x1 < (3 : Int) * x2) : (0 : Int) ≤ x1 - (3 : Int) * x2 := by lia
theorem om248 {x1 : Int} {x2 : Int} : x1 = x1 - (3 : Int) * x2 + (3 : Int) * x2 * (1 : Int) := by lia
theorem om249 {x1 : Int} {x2 : Int} (h1 : x1 < (3 : Int) * x2) : x1 = (0 : Int) ↔ x1 = (0 : Int) ∨ x1 = (3 : Int) * x2 := by lia
theorem om250 {x1 : Int} : (6 : Int) * x1 = (3 : Int) * ((2 : Int) * x1) := by lia
theorem om251 {x1 : Int} (h1 : (0 : Int) < x1) : (0 : Int) ≤ (3 : Int) * x1 := by lia
theorem om252 {x1 : Int} {x2 : Int} (h1 : (0 : Int) ≤ x1) (h2 : x1 < (6 : Int) * x2) : (0 : Int) ≤ (6 : Int) * x2 := Int.le_of_lt (Int.lt_of_le_of_lt h1 h2)
theorem om253 {x1 : Int} {x2 : Int} {x3 : Int} {x4 : Int} {x5 : Int} (h1 : x1 = (4 : Int) * x2 + x3 - x4 + (6 : Int) * x5) : x1 - (2 : Int) * x2 = (2 : Int) * x2 + x3 - x4 + (6 : Int) * x5 := by lia
theorem om254 {x1 : Int} {x2 : Int} {x3 : Int} {x4 : Int} {x5 : Int} (h1 : x1 = (2 : Int) * x2 + x3 - x4 + (6 : Int) * x5) : x1 - (2 : Int) * x2 = x3 - x4 + (6 : Int) * x5 := by lia
theorem om255 {x1 : Int} {x2 : Int} {x3 : Int} {x4 : Int} {x5 : Int} (h1 : x1 = x2 - x3 + (6 : Int) * x4) : x1 - (2 : Int) * x5 = (4 : Int) * x5 + x2 - x3 + (6 : Int) * (x4 - x5) := by lia
theorem om256 {x1 : Int} {x2 : Int} : x1 + x2 = x2 + x1 := Int.add_comm _ _
theorem om257 {x1 : Int} {x2 : Int} {x3 : Int} {x4 : Int} {x5 : Int} (h1 : x1 = (4 : Int) * x2 + x3 - x4 + (6 : Int) * x5) : (4 : Int) * x2 - x1 = x4 - x3 + (6 : Int) * -x5 := by lia
theorem om258 {x1 : Int} {x2 : Int} {x3 : Int} {x4 : Int} {x5 : Int} (h1 : x1 = (2 : Int) * x2 + x3 - x4 + (6 : Int) * x5) : (4 : Int) * x2 - x1 = (2 : Int) * x2 + x4 - x3 + (6 : Int) * -x5 := by lia
theorem om259 {x1 : Int} {x2 : Int} {x3 : Int} {x4 : Int} {x5 : Int} (h1 : x1 = x2 - x3 + (6 : Int) * x4) : (4 : Int) * x5 - x1 = (4 : Int) * x5 + x3 - x2 + (6 : Int) * -x4 := by lia
theorem om260 {x1 : Int} {x2 : Int} {x3 : Int} {x4 : Int} {x5 : Int} (h1 : x1 = (4 : Int) * x2 + x3 - x4 + (6 : Int) * x5) : -x1 = (2 : Int) * x2 + x4 - x3 + (6 : Int) * (-x5 - x2) := by lia
theorem om261 {x1 : Int} {x2 : Int} {x3 : Int} {x4 : Int} {x5 : Int} (h1 : x1 = (2 : Int) * x2 + x3 - x4 + (6 : Int) * x5) : -x1 = (4 : Int) * x2 + x4 - x3 + (6 : Int) * (-x5 - x2) := by lia
theorem om262 {x1 : Int} {x2 : Int} {x3 : Int} {x4 : Int} (h1 : x1 = x2 - x3 + (6 : Int) * x4) : -x1 = x3 - x2 + (6 : Int) * -x4 := by lia
theorem om263 {x1 : Int} {x2 : Int} {x3 : Int} {x4 : Int} (h1 : (-65025 : Int) ≤ x1 ∧ x1 ≤ (65025 : Int)) (h2 : x2 = (1 : Int) ∧ x3 = (2 : Int) * x4 + x1 ∨ x2 ≠ (1 : Int) ∧ x3 = (2 : Int) * x4 - x1) (h3 : (-65025 : Int) ≤ x4 ∧ x4 ≤ (130050 : Int)) : (-400000 : Int) ≤ x3 ∧ x3 ≤ (400000 : Int) := by lia
theorem om264 {x1 : Int} {x2 : Int} (h1 : (0 : Int) ≤ x1 ∧ x1 ≤ (65025 : Int)) (h2 : x2 ≤ (2 : Int) * x1) (h3 : (-1 : Int) * x1 ≤ x2) : (-65025 : Int) ≤ x2 ∧ x2 ≤ (130050 : Int) := by lia
theorem om265 {x1 : Int} (h1 : (0 : Int) ≤ x1 ∧ x1 ≤ (3 : Int)) : (-1 : Int) ≤ x1 - (1 : Int) := by lia
theorem om266 {x1 : Int} (h1 : (0 : Int) ≤ x1 ∧ x1 ≤ (3 : Int)) : x1 - (1 : Int) ≤ (2 : Int) := by lia
theorem om267 {x1 : Int} (h1 : x1 = (0 : Int) ∨ x1 = (1 : Int) ∨ x1 = (2 : Int) ∨ x1 = (3 : Int)) : (0 : Int) ≤ x1 ∧ x1 < (4 : Int) := by lia
theorem om268 {x1 : Int} {x2 : Int} (h1 : (0 : Int) ≤ x1 ∧ x1 ≤ (255 : Int)) (h2 : (0 : Int) ≤ x2 ∧ x2 ≤ (255 : Int)) : x2 - x1 ≤ (255 : Int) := by lia
theorem om269 {x1 : Int} {x2 : Int} (h1 : (0 : Int) ≤ x1 ∧ x1 ≤ (255 : Int)) (h2 : (0 : Int) ≤ x2 ∧ x2 ≤ (255 : Int)) : (-255 : Int) ≤ x2 - x1 := by lia
theorem om270 {x1 : Int} {x2 : Int} (h1 : x1 ≤ (255 : Int)) (h2 : (0 : Int) ≤ x2) : x1 - x2 ≤ (255 : Int) := Int.sub_le_sub h1 h2
theorem om271 {x1 : Int} {x2 : Int} (h1 : (0 : Int) ≤ x1) (h2 : x2 ≤ (255 : Int)) : (-255 : Int) ≤ x1 - x2 := Int.sub_le_sub h1 h2
theorem om272 {x1 : Int} {x2 : Int} (h1 : (0 : Int) ≤ x1) (h2 : x2 ≤ (255 : Int)) : x2 - x1 ≤ (255 : Int) := by lia
theorem om273 {x1 : Int} {x2 : Int} (h1 : x1 ≤ (255 : Int)) (h2 : (0 : Int) ≤ x2) : (-255 : Int) ≤ x2 - x1 := by lia
theorem om274 {x1 : Int} {x2 : Int} {x3 : Int} (h1 : x1 ≤ x2) (h2 : x2 ≤ x3) : (0 : Int) ≤ x3 - x1 := Int.sub_nonneg.mpr (Int.le_trans h1 h2)
theorem om275 {x1 : Int} {x2 : Int} (h1 : (-65025 : Int) ≤ x1 - x2 ∧ x1 - x2 ≤ (65025 : Int)) : x1 - x2 ≤ (65025 : Int) := h1.2
theorem om276 {x1 : Int} {x2 : Int} (h1 : (-65025 : Int) ≤ x1 - x2 ∧ x1 - x2 ≤ (65025 : Int)) : x2 - x1 ≤ (65025 : Int) := by lia
theorem om277 {x1 : Int} {x2 : Int} {x3 : Int} {x4 : Int} {x5 : Int} {x6 : Int} {x7 : Int} {x8 : Int} {x9 : Int} (h1 : x1 = x2) (h2 : x3 = x4) (h3 : x5 = x6) : x7 - x2 - (x8 - x4) = x7 + x4 - (x8 + x2) ∧   x1 - x9 - (x5 - x8) = x8 + x2 - (x9 + x5) ∧ x9 - x3 - (x7 - x6) = x9 + x5 - (x7 + x4) := by lia
theorem om278 {x1 : Int} (h1 : x1.natAbs ≤ (65025 : Nat)) : (-65025 : Int) ≤ x1 ∧ x1 ≤ (65025 : Int) := by omega +splitDisjunctions
theorem om279 {x1 : Int} (h1 : (-255 : Int) ≤ x1) (h2 : x1 ≤ (255 : Int)) : x1.natAbs ≤ (255 : Nat) := by lia
theorem om280 {x1 : Int} (h1 : x1 ≤ (255 : Int) * (255 : Int)) : x1 ≤ (65025 : Int) := h1
theorem om281 {x1 : Int} {x2 : Int} {x3 : Int} : (810000 : Int) * (x1 - x2) = (810000 : Int) * (x3 - x2) + (810000 : Int) * (x1 - x3) := by lia
theorem om282 {x1 : Int} {x2 : Int} {x3 : Int} {x4 : Int} {x5 : Int} {x6 : Int} (h1 : (0 : Int) ≤ x1 ∧ x1 ≤ (65025 : Int)) (h2 : x2 - x3 = x1) (h3 : x3 ≤ x4 ∧ x3 ≤ x5 ∧ x3 ≤ x6 ∧ x4 ≤ x2 ∧ x5 ≤ x2 ∧ x6 ≤ x2) : max ((810000 : Int) * (x4 - x3)) (max ((810000 : Int) * (x5 - x3)) ((810000 : Int) * (x6 - x3))) +     min ((810000 : Int) * (x4 - x3)) (min ((810000 : Int) * (x5 - x3)) ((810000 : Int) * (x6 - x3))) ≤   (2 : Int) ^ (37 : Nat) := by
  have b : ∀ y : Int, y ≤ x2 → (810000 : Int) * (y - x3) ≤ 52670250000 := fun y h => by lia
  exact Int.le_trans (Int.add_le_add (Int.max_le.mpr ⟨b _ h3.2.2.2.1, Int.max_le.mpr ⟨b _ h3.2.2.2.2.1, b _ h3.2.2.2.2.2⟩⟩) (Int.le_trans (Int.min_le_left _ _) (b _ h3.2.2.2.1))) (by decide)
theorem om289 {x1 : Int} {x2 : Int} {x3 : Int} : x1 + (810000 : Int) * x2 - (x1 + (810000 : Int) * x3) = (810000 : Int) * (x2 - x3) := by lia
theorem om290 {x1 : Int} {x2 : Int} {x3 : Int} {x4 : Int} : x1 + x2 + x3 + x4 = x1 + x3 + x4 + x2 := by lia
theorem om291 {x1 : Int} {x2 : Int} {x3 : Int} {x4 : Int} : x1 + x2 + x3 + x4 = x1 + x3 + x2 + x4 := by lia
theorem om292 {x1 : Int} {x2 : Int} {x3 : Int} {x4 : Int} {x5 : Int} {x6 : Int} {x7 : Int} {x8 : Int} {x9 : Int} (h1 : x1 = x2) (h2 : x3 = x4) : (810000 : Int) * x5 - (810000 : Int) * x6 - ((810000 : Int) * x1 - (810000 : Int) * x7) +     ((810000 : Int) * x8 - (810000 : Int) * x9 - ((810000 : Int) * x3 - (810000 : Int) * x7)) =   (810000 : Int) * ((2 : Int) * x7) -       ((810000 : Int) * x2 + (810000 : Int) * x6 + (810000 : Int) * x4 + (810000 : Int) * x9) +     ((810000 : Int) * x5 + (810000 : Int) * x8) := by lia
theorem om293 {x1 : Int} {x2 : Int} {x3 : Int} {x4 : Int} (h1 : (262144 : Int) = (2 : Int) ^ (18 : Nat)) : x1 + x2 = x3 + x4 + (1 : Int) * (x1 + x2 - (x3 + x4)) := by lia
theorem om294 {x1 : Int} {x2 : Int} {x3 : Int} {x4 : Int} {x5 : Int} {x6 : Int} (h1 : ((0 : Int) ≤ x1 + x2 ∧ x1 + x2 ≤ (130050 : Int)) ∧   ((0 : Int) ≤ x3 + x4 ∧ x3 + x4 ≤ (130050 : Int)) ∧ (0 : Int) ≤ x5 + x6 ∧ x5 + x6 ≤ (130050 : Int)) : x5 + x6 ≤ (2 : Int) ^ (38 : Nat) := by omega +splitDisjunctions
theorem om295 {x1 : Int} {x2 : Int} {x3 : Int} {x4 : Int} {x5 : Int} {x6 : Int} (h1 : ((0 : Int) ≤ x1 + x2 ∧ x1 + x2 ≤ (130050 : Int)) ∧   ((0 : Int) ≤ x3 + x4 ∧ x3 + x4 ≤ (130050 : Int)) ∧ (0 : Int) ≤ x5 + x6 ∧ x5 + x6 ≤ (130050 : Int)) : x3 + x4 ≤ (2 : Int) ^ (38 : Nat) := by omega +splitDisjunctions
theorem om296 {x1 : Int} {x2 : Int} {x3 : Int} {x4 : Int} {x5 : Int} {x6 : Int} (h1 : ((0 : Int) ≤ x1 + x2 ∧ x1 + x2 ≤ (130050 : Int)) ∧   ((0 : Int) ≤ x3 + x4 ∧ x3 + x4 ≤ (130050 : Int)) ∧ (0 : Int) ≤ x5 + x6 ∧ x5 + x6 ≤ (130050 : Int)) : x1 + x2 ≤ (2 : Int) ^ (38 : Nat) := by omega +splitDisjunctions
theorem om297 {x1 : Int} {x2 : Int} {x3 : Int} {x4 : Int} {x5 : Int} {x6 : Int} (h1 : ((0 : Int) ≤ x1 + x2 ∧ x1 + x2 ≤ (130050 : Int)) ∧   ((0 : Int) ≤ x3 + x4 ∧ x3 + x4 ≤ (130050 : Int)) ∧ (0 : Int) ≤ x5 + x6 ∧ x5 + x6 ≤ (130050 : Int)) : (0 : Int) ≤ x5 + x6 := by omega +splitDisjunctions
theorem om298 {x1 : Int} {x2 : Int} {x3 : Int} {x4 : Int} {x5 : Int} {x6 : Int} (h1 : ((0 : Int) ≤ x1 + x2 ∧ x1 + x2 ≤ (130050 : Int)) ∧   ((0 : Int) ≤ x3 + x4 ∧ x3 + x4 ≤ (130050 : Int)) ∧ (0 : Int) ≤ x5 + x6 ∧ x5 + x6 ≤ (130050 : Int)) : (0 : Int) ≤ x3 + x4 := by omega +splitDisjunctions
theorem om299 {x1 : Int} {x2 : Int} {x3 : Int} {x4 : Int} {x5 : Int} {x6 : Int} (h1 : ((0 : Int) ≤ x1 + x2 ∧ x1 + x2 ≤ (130050 : Int)) ∧   ((0 : Int) ≤ x3 + x4 ∧ x3 + x4 ≤ (130050 : Int)) ∧ (0 : Int) ≤ x5 + x6 ∧ x5 + x6 ≤ (130050 : Int)) : (0 : Int) ≤ x1 + x2 := by omega +splitDisjunctions
theorem om300 {x1 : Int} {x2 : Int} {x3 : Int} {x4 : Int} {x5 : Int} {x6 : Int} (h1 : (0 : Int) ≤ x1 ∧ x1 ≤ (65025 : Int)) (h2 : (0 : Int) ≤ x2 ∧ x2 ≤ (65025 : Int)) (h3 : (0 : Int) ≤ x3 ∧ x3 ≤ (65025 : Int)) (h4 : (0 : Int) ≤ x4 ∧ x4 ≤ (65025 : Int)) (h5 : (0 : Int) ≤ x5 ∧ x5 ≤ (65025 : Int)) (h6 : (0 : Int) ≤ x6 ∧ x6 ≤ (65025 : Int)) : ((0 : Int) ≤ x1 + x2 ∧ x1 + x2 ≤ (130050 : Int)) ∧   ((0 : Int) ≤ x3 + x4 ∧ x3 + x4 ≤ (130050 : Int)) ∧ (0 : Int) ≤ x5 + x6 ∧ x5 + x6 ≤ (130050 : Int) := by lia
theorem om301 {x1 : Int} {x2 : Int} (h1 : (0 : Int) ≤ x1) (h2 : x1 ≤ x2) (h3 : x2 ≠ (0 : Int)) : (0 : Int) < x2 := by lia
theorem om302 {x1 : Int} {x2 : Int} (h1 : (0 : Int) ≤ x1) (h2 : x1 ≤ x2) (h3 : x2 = (0 : Int)) : (810000 : Int) * x1 = (810000 : Int) * (0 : Int) := by lia
theorem om303 {x1 : Int} : x1 = x1 := rfl
theorem om304 {x1 : Int} (h1 : x1 = (0 : Int)) : (0 : Int) = x1 := h1.symm
theorem om305 {x1 : Int} {x2 : Int} (h1 : x1 ≤ x2) (h2 : ¬x1 < (2 : Int) * x2 - x1) : (2 : Int) * x2 - x1 = x1 := by lia
theorem om306 {x1 : Int} {x2 : Int} {x3 : Int} (h1 : x1 = -x2 + (2 : Int) * x3) : -x1 = x2 + (2 : Int) * -x3 := by lia
theorem om307 {x1 : Int} {x2 : Int} (h1 : x1 ≤ x2) (h2 : (2 : Int) * x2 - x1 < x1) : (2 : Int) * x2 - x1 = x1 := by lia
theorem om308 {x1 : Int} {x2 : Int} {x3 : Int} (h1 : x1 = x2 + (2 : Int) * x3) : -x1 = -x2 + (2 : Int) * -x3 := by lia
theorem om309 {x1 : Int} {x2 : Int} (h1 : (0 : Int) ≤ x1) (h2 : ¬x1 = (0 : Int)) : (2 : Int) * x2 - x1 < (2 : Int) * x2 := by lia
theorem om310 {x1 : Int} {x2 : Int} (h1 : (0 : Int) ≤ x1) (h2 : x1 ≤ x2) : (0 : Int) ≤ (2 : Int) * x2 - x1 := by lia
theorem om311 {x1 : Int} {x2 : Int} {x3 : Int} : -x1 + (2 : Int) * x2 = (2 : Int) * x3 - x1 + (2 : Int) * (x2 - x3) := by lia
theorem om312 : (0 : Int) ≤ (0 : Int) := by decide
theorem om313 {x1 : Int} : (-0 : Int) + (2 : Int) * x1 = (0 : Int) + (2 : Int) * x1 := rfl
theorem om314 {x1 : Int} {x2 : Int} (h1 : (0 : Int) < x1) (h2 : x2 ≤ x1) : x2 < (2 : Int) * x1 := by lia
theorem om315 {x1 : Int} {x2 : Int} (h1 : (0 : Int) ≤ x1) (h2 : x1 < (2 : Int) * x2) : (0 : Int) ≤ (2 : Int) * x2 := Int.le_of_lt (Int.lt_of_le_of_lt h1 h2)
theorem om316 {x1 : Int} {x2 : Int} {x3 : Int} {x4 : Int} : (4 : Int) * x1 + x2 - x3 + (2 : Int) * x4 = -(x3 - x2) + (2 : Int) * (x4 + x1 * (2 : Int)) := by lia
theorem om317 {x1 : Int} {x2 : Int} {x3 : Int} {x4 : Int} : (4 : Int) * x1 + x2 - x3 + (2 : Int) * x4 = x2 - x3 + (2 : Int) * (x4 + x1 * (2 : Int)) := by lia
theorem om318 {x1 : Int} {x2 : Int} {x3 : Int} {x4 : Int} : (2 : Int) * x1 + x2 - x3 + (2 : Int) * x4 = x2 - x3 + (2 : Int) * (x4 + x1) := by lia
theorem om319 {x1 : Int} {x2 : Int} {x3 : Int} {x4 : Int} : (2 : Int) * x1 + x2 - x3 + (2 : Int) * x4 = -(x3 - x2) + (2 : Int) * (x4 + x1) := by lia
theorem om320 {x1 : Int} : (6 : Int) * x1 = (2 : Int) * ((3 : Int) * x1) := by lia
theorem om321 {x1 : Int} {x2 : Int} (h1 : (0 : Int) < x1 - x2) (h2 : (900 : Int) * x1 - (900 : Int) * x2 < (1 : Int)) : (1 : Int) = (900 : Int) * x1 - (900 : Int) * x2 := by lia
theorem om322 : (1 : Int) = (1 : Int) := by decide
theorem om323 {x1 : Int} {x2 : Int} {x3 : Int} {x4 : Int} (h1 : x1 ≤ x2) (h2 : x2 ≤ x3) (h3 : x3 ≤ x4) (h4 : x4 - x1 < (0 : Int)) : (-1 : Int) = (900 : Int) * x4 - (900 : Int) * x1 := by lia
theorem om324 {x1 : Int} {x2 : Int} (h1 : x1 - x2 < (0 : Int)) (h2 : ¬(900 : Int) * x1 - (900 : Int) * x2 < (1 : Int)) : (-1 : Int) = (1 : Int) := by lia
theorem om325 {x1 : Int} {x2 : Int} (h1 : ¬x1 - x2 < (0 : Int)) (h2 : (900 : Int) * x1 - (900 : Int) * x2 < (1 : Int)) : (0 : Int) = (900 : Int) * x1 - (900 : Int) * x2 := by lia
theorem om326 {x1 : Int} {x2 : Int} (h1 : ¬(0 : Int) < x1 - x2) (h2 : ¬(900 : Int) * x1 - (900 : Int) * x2 < (1 : Int)) : (0 : Int) = (1 : Int) := by lia
theorem om327 {x1 : Int} {x2 : Int} {x3 : Int} {x4 : Int} (h1 : x1 ≤ x2) (h2 : x2 ≤ x3) (h3 : x3 ≤ x4) (h4 : x4 ≤ (255 : Int)) : x1 ≤ (255 : Int) := by lia
theorem om328 {x1 : Int} (h1 : (0 : Int) ≤ x1) : (0 : Int) ≤ x1 := h1
theorem om329 {x1 : Int} (h1 : x1 ≤ (255 : Int)) : x1 ≤ (255 : Int) := h1
theorem om330 {x1 : Int} {x2 : Int} {x3 : Int} {x4 : Int} (h1 : x1 ≤ x2) (h2 : x2 ≤ x3) (h3 : x3 ≤ x4) (h4 : (0 : Int) ≤ x1) : (0 : Int) ≤ x4 := by lia
theorem om331 {x1 : Nat} {x2 : Nat} {x3 : Nat} (h1 : x1 + (x2 + (1 : Nat)) = x3) : x1 + (1 : Nat) + x2 = x3 := by lia
theorem om332 {x1 : Nat} {x2 : Nat} {x3 : Nat} (h1 : x1 + (x2 + (1 : Nat)) = x3) : x1 < x3 := by lia
theorem om333 {x1 : Nat} {x2 : Nat} (h1 : x1 + (0 : Nat) = x2) : x2 ≤ x1 := by lia
theorem om334 {x1 : Nat} (h1 : (48 : Nat) ≤ x1) : ¬x1 = (10 : Nat) := by lia
theorem om335 {x1 : Nat} (h1 : x1 ≤ (57 : Nat)) : ¬x1 = (58 : Nat) := by lia
theorem om336 {x1 : Nat} (h1 : (48 : Nat) ≤ x1) : ¬x1 = (43 : Nat) := by lia
theorem om337 {x1 : Nat} (h1 : (48 : Nat) ≤ x1) : ¬x1 = (45 : Nat) := by lia
theorem om338 {x1 : Nat} (h1 : (-255 : Int) ≤ -((↑x1 : Int) + (40 : Int))) : x1 < (216 : Nat) := by first | lia | omega +splitDisjunctions
theorem om339 {x1 : Nat} (h1 : (-40 : Int) < -((↑x1 : Int) + (1 : Int)) ∧ -((↑x1 : Int) + (1 : Int)) < (0 : Int)) : x1 < (39 : Nat) := by first | lia | omega +splitDisjunctions
theorem om340 {x1 : Nat} (h1 : (↑x1 : Int) + (40 : Int) ≤ (255 : Int)) : x1 < (216 : Nat) := by first | lia | omega +splitDisjunctions
theorem om341 {x1 : Nat} (h1 : (1 : Int) ≤ (↑x1 : Int) + (1 : Int) ∧ (↑x1 : Int) + (1 : Int) < (40 : Int)) : x1 < (39 : Nat) := by first | lia | omega +splitDisjunctions
theorem om342 {x1 : Nat} (h1 : (↑x1 : Int) ≤ (255 : Int)) : x1 < (256 : Nat) := by first | lia | omega +splitDisjunctions
theorem om343 {x1 : Nat} (h1 : (-255 : Int) ≤ -((↑x1 : Int) + (1 : Int))) : x1 < (255 : Nat) := Int.ofNat_le.mp h1
theorem om344 {x1 : Int} : x1 < (0 : Int) ∨ (0 : Int) ≤ x1 := by first | lia | omega +splitDisjunctions
theorem om345 {x1 : Nat} (h1 : (1 : Int) ≤ (↑x1 : Int) ∧ (↑x1 : Int) < (40 : Int)) : x1 < (40 : Nat) := by first | lia | omega +splitDisjunctions
theorem om346 {x1 : Int} (h1 : (1 : Int) ≤ x1 ∧ x1 < (40 : Int)) : (0 : Int) ≤ x1 := Int.le_trans (by decide) h1.1
theorem om347 {x1 : Nat} (h1 : (↑x1 : Int) = (0 : Int)) : x1 < (40 : Nat) := by first | lia | omega +splitDisjunctions
theorem om348 {x1 : Int} (h1 : x1 = (0 : Int)) : (0 : Int) ≤ x1 := by first | lia | omega +splitDisjunctions
theorem om349 {x1 : Int} (h1 : x1 ≤ (-40 : Int)) : x1 = -((↑(-x1 - (40 : Int)).toNat : Int) + (40 : Int)) := by first | lia | omega +splitDisjunctions
theorem om350 {x1 : Int} (h1 : x1 < (0 : Int)) : x1 = -((↑(-x1 - (1 : Int)).toNat : Int) + (1 : Int)) := by first | lia | omega +splitDisjunctions
theorem om351 {x1 : Int} (h1 : (40 : Int) ≤ x1) : x1 = (↑(x1 - (40 : Int)).toNat : Int) + (40 : Int) := by first | lia | omega +splitDisjunctions
theorem om352 {x1 : Int} (h1 : (1 : Int) ≤ x1) : x1 = (↑(x1 - (1 : Int)).toNat : Int) + (1 : Int) := by first | lia | omega +splitDisjunctions
theorem om353 {x1 : Int} (h1 : (0 : Int) ≤ x1) : x1 = (↑x1.toNat : Int) := by first | lia | omega +splitDisjunctions
theorem om354 {x1 : Int} : x1 = (0 : Int) ∨   (1 : Int) ≤ x1 ∧ x1 < (40 : Int) ∨ (40 : Int) ≤ x1 ∨ (-40 : Int) < x1 ∧ x1 < (0 : Int) ∨ x1 ≤ (-40 : Int) := by first | lia | omega +splitDisjunctions
theorem om355 {x1 : Int} (h1 : (0 : Int) ≤ x1) (h2 : x1 ≤ (3 : Int)) : x1 = (0 : Int) ∨ x1 = (1 : Int) ∨ x1 = (2 : Int) ∨ x1 = (3 : Int) := by first | lia | omega +splitDisjunctions
theorem om356 {x1 : Nat} {x2 : Int} (h1 : -((400000 : Int) + (400000 : Int) * (↑x1 : Int)) ≤ x2 ∧ x2 ≤ (400000 : Int) + (400000 : Int) * (↑x1 : Int)) : -((400000 : Int) + (400000 : Int) * ((↑x1 : Int) + (1 : Int))) ≤ x2 := by first | lia | omega +splitDisjunctions
theorem om357 {x1 : Nat} {x2 : Int} (h1 : -((400000 : Int) + (400000 : Int) * (↑x1 : Int)) ≤ x2 ∧ x2 ≤ (400000 : Int) + (400000 : Int) * (↑x1 : Int)) : x2 ≤ (400000 : Int) + (400000 : Int) * ((↑x1 : Int) + (1 : Int)) := by first | lia | omega +splitDisjunctions
theorem om358 {x1 : Nat} {x2 : Nat} {x3 : Int} (h1 : x1 < x2) (h2 : -((400000 : Int) + (400000 : Int) * (↑x1 : Int)) ≤ x3 ∧ x3 ≤ (400000 : Int) + (400000 : Int) * (↑x1 : Int)) (h3 : x2 ≤ (9 : Nat)) : x3 ≤ (9000000 : Int) := by first | lia | omega +splitDisjunctions
theorem om359 {x1 : Nat} {x2 : Nat} {x3 : Int} (h1 : x1 < x2) (h2 : -((400000 : Int) + (400000 : Int) * (↑x1 : Int)) ≤ x3 ∧ x3 ≤ (400000 : Int) + (400000 : Int) * (↑x1 : Int)) (h3 : x2 ≤ (9 : Nat)) : (-9000000 : Int) ≤ x3 := by first | lia | omega +splitDisjunctions
theorem om360 {x1 : Nat} {x2 : Int} {x3 : Int} (h1 : -((400000 : Int) + (400000 : Int) * (↑x1 : Int)) ≤ x2 ∧ x2 ≤ (400000 : Int) + (400000 : Int) * (↑x1 : Int)) (h2 : (0 : Int) ≤ x3 ∧ x3 ≤ (65025 : Int)) : -((400000 : Int) + (400000 : Int) * ((↑x1 : Int) + (1 : Int))) ≤ (4 : Int) * x3 - x2 := by first | lia | omega +splitDisjunctions
theorem om361 {x1 : Nat} {x2 : Int} {x3 : Int} (h1 : -((400000 : Int) + (400000 : Int) * (↑x1 : Int)) ≤ x2 ∧ x2 ≤ (400000 : Int) + (400000 : Int) * (↑x1 : Int)) (h2 : (0 : Int) ≤ x3 ∧ x3 ≤ (65025 : Int)) : (4 : Int) * x3 - x2 ≤ (400000 : Int) + (400000 : Int) * ((↑x1 : Int) + (1 : Int)) := by first | lia | omega +splitDisjunctions
theorem om362 {x1 : Nat} {x2 : Int} (h1 : -((400000 : Int) + (400000 : Int) * (↑x1 : Int)) ≤ x2 ∧ x2 ≤ (400000 : Int) + (400000 : Int) * (↑x1 : Int)) : -((400000 : Int) + (400000 : Int) * ((↑x1 : Int) + (1 : Int))) ≤ -x2 := by first | lia | omega +splitDisjunctions
theorem om363 {x1 : Nat} {x2 : Int} (h1 : -((400000 : Int) + (400000 : Int) * (↑x1 : Int)) ≤ x2 ∧ x2 ≤ (400000 : Int) + (400000 : Int) * (↑x1 : Int)) : -x2 ≤ (400000 : Int) + (400000 : Int) * ((↑x1 : Int) + (1 : Int)) := by first | lia | omega +splitDisjunctions
theorem om364 {x1 : Nat} {x2 : Nat} {x3 : Nat} (h1 : x1 < x2) (h2 : x2 < x3) : x1 < x3 := Nat.lt_trans h1 h2
theorem om365 {x1 : Nat} {x2 : Nat} {x3 : Nat} (h1 : x1 + (1 : Nat) + (3 : Nat) < x2) (h2 : x2 < x3) : x1 + (1 : Nat) + (3 : Nat) < x3 := Nat.lt_trans h1 h2
theorem om366 {x1 : Nat} {x2 : Nat} {x3 : Nat} {x4 : Nat} (h1 : x1 + (1 : Nat) + (3 : Nat) < x2) (h2 : x2 < x3) (h3 : x3 < x4) : x1 + (1 : Nat) + (3 : Nat) < x4 := by first | lia | omega +splitDisjunctions
theorem om367 {x1 : Nat} {x2 : Nat} (h1 : x1 + (1 : Nat) + (3 : Nat) < x2) (h2 : (95 : Nat) < x1) : (95 : Nat) ≠ x2 := by first | lia | omega +splitDisjunctions
theorem om368 {x1 : Nat} {x2 : Nat} (h1 : x1 < x2) : x1 ≠ x2 := Nat.ne_of_lt h1
theorem om369 {x1 : Nat} {x2 : Nat} (h1 : x1 + (1 : Nat) + (3 : Nat) < x2) : x1 + (1 : Nat) + (3 : Nat) ≠ x2 := Nat.ne_of_lt h1
theorem om370 {x1 : Nat} {x2 : Nat} (h1 : x1 + (1 : Nat) + (3 : Nat) < x2) : x1 + (1 : Nat) + (2 : Nat) ≠ x2 := by first | lia | omega +splitDisjunctions
theorem om371 {x1 : Nat} {x2 : Nat} (h1 : x1 + (1 : Nat) + (3 : Nat) < x2) : x1 + (1 : Nat) + (1 : Nat) ≠ x2 := by first | lia | omega +splitDisjunctions
theorem om372 {x1 : Nat} {x2 : Nat} (h1 : x1 + (1 : Nat) + (3 : Nat) < x2) : x1 + (1 : Nat) ≠ x2 := by first | lia | omega +splitDisjunctions
theorem om373 {x1 : Int} (h1 : x1 ≤ (9000000 : Int)) : x1 ≤ (10000000 : Int) := Int.le_trans h1 (by decide)
theorem om374 {x1 : Int} (h1 : (-9000000 : Int) ≤ x1) : (-10000000 : Int) ≤ x1 := Int.le_trans (by decide) h1
theorem om375 {x1 : Int} {x2 : Int} (h1 : (-9000000 : Int) ≤ x1) (h2 : (0 : Int) ≤ x2 ∧ x2 ≤ (65025 : Int)) : (4 : Int) * x2 - x1 ≤ (10000000 : Int) := by first | lia | omega +splitDisjunctions
theorem om376 {x1 : Int} {x2 : Int} (h1 : x1 ≤ (9000000 : Int)) (h2 : (0 : Int) ≤ x2 ∧ x2 ≤ (65025 : Int)) : (-10000000 : Int) ≤ (4 : Int) * x2 - x1 := by first | lia | omega +splitDisjunctions
theorem om377 {x1 : Int} (h1 : (-9000000 : Int) ≤ x1) : -x1 ≤ (10000000 : Int) := by first | lia | omega +splitDisjunctions
theorem om378 {x1 : Int} (h1 : x1 ≤ (9000000 : Int)) : (-10000000 : Int) ≤ -x1 := by first | lia | omega +splitDisjunctions
theorem om379 {x1 : Nat} {x2 : Nat} {x3 : Nat} {x4 : Nat} {x5 : Nat} {x6 : Nat} {x7 : Nat} {x8 : Nat} (h1 : x1 < x2 ∧   x3 < x2 ∧     x4 < x2 ∧       x5 < x2 ∧         (95 : Nat) < x2 ∧           x6 < x2 ∧             x7 < x2 ∧               x8 + (1 : Nat) + (3 : Nat) < x2 ∧                 x8 + (1 : Nat) + (2 : Nat) < x2 ∧ x8 + (1 : Nat) + (1 : Nat) < x2 ∧ x8 + (1 : Nat) < x2) : x8 + (1 : Nat) + (3 : Nat) < x2 ∧ x6 < x2 ∧ (95 : Nat) < x2 := by first | lia | omega +splitDisjunctions
theorem om380 {x1 : Nat} {x2 : Nat} {x3 : Nat} {x4 : Nat} {x5 : Nat} {x6 : Nat} {x7 : Nat} {x8 : Nat} (h1 : x1 < x2 ∧   x3 < x2 ∧     x4 < x2 ∧       x5 < x2 ∧         (95 : Nat) < x2 ∧           x6 < x2 ∧             x7 < x2 ∧               x8 + (1 : Nat) + (3 : Nat) < x2 ∧                 x8 + (1 : Nat) + (2 : Nat) < x2 ∧ x8 + (1 : Nat) + (1 : Nat) < x2 ∧ x8 + (1 : Nat) < x2) : x7 < x2 := by first | lia | omega +splitDisjunctions
theorem om381 {x1 : Int} (h1 : x1 = (2 : Int) ∨ x1 = (3 : Int) ∨ x1 = (4 : Int)) : x1 = (1 : Int) ∨ x1 = (2 : Int) ∨ x1 = (3 : Int) ∨ x1 = (4 : Int) := by first | lia | omega +splitDisjunctions
theorem om382 {x1 : Int} : x1 % (3 : Int) + (2 : Int) = (2 : Int) ∨ x1 % (3 : Int) + (2 : Int) = (3 : Int) ∨ x1 % (3 : Int) + (2 : Int) = (4 : Int) := by first | lia | omega +splitDisjunctions
theorem om383 {x1 : Nat} {x2 : Nat} : min (min (9 : Nat) x1 - (5 : Nat)) x2 ≤ (4 : Nat) := Nat.le_trans (Nat.min_le_left _ _) (Nat.sub_le_of_le_add (Nat.min_le_left _ _))
theorem om384 {x1 : Int} (h1 : x1 ≠ (0 : Int)) : (2 : Int) * x1 ≠ (0 : Int) := by first | lia | omega +splitDisjunctions
theorem om385 {x1 : Int} {x2 : Int} (h1 : (0 : Int) ≤ x1) (h2 : x2 ≤ (255 : Int)) : (900 : Int) * x2 - (900 : Int) * x1 < (2 : Int) ^ (64 : Nat) := by first | lia | omega +splitDisjunctions
theorem om386 {x1 : Int} {x2 : Int} (h1 : x1 ≤ (255 : Int)) (h2 : (0 : Int) ≤ x2) : -(2 : Int) ^ (64 : Nat) < (900 : Int) * x2 - (900 : Int) * x1 := by first | lia | omega +splitDisjunctions
theorem om387 {x1 : Int} {x2 : Int} (h1 : x1 ≤ x2) (h2 : (0 : Int) ≤ x1) : (0 : Int) ≤ x2 := Int.le_trans h2 h1
theorem om388 {x1 : Int} {x2 : Int} (h1 : x1 ≤ x2) (h2 : x2 ≤ (255 : Int)) : x1 ≤ (255 : Int) := Int.le_trans h1 h2
theorem om389 {x1 : Int} {x2 : Int} {x3 : Int} (h1 : x1 ≤ x2) (h2 : x2 ≤ x3) (h3 : x3 ≤ (255 : Int)) : x1 ≤ (255 : Int) := Int.le_trans (Int.le_trans h1 h2) h3
theorem om390 {x1 : Int} {x2 : Int} (h1 : (0 : Int) ≤ x1) (h2 : x1 ≤ x2) : (0 : Int) ≤ x2 := Int.le_trans h1 h2
theorem om391 {x1 : Nat} (h1 : x1 < (64 : Nat)) : x1 ≤ (16777216 : Nat) := by first | lia | omega +splitDisjunctions
theorem om392 {x1 : Nat} (h1 : x1 < (64 : Nat)) : x1 ≤ (16777216 : Nat) + (1 : Nat) := by first | lia | omega +splitDisjunctions
theorem om393 {x1 : Nat} {x2 : Nat} (h1 : (2 : Nat) ≤ x1) (h2 : x2 = x1) : ¬x2 < (2 : Nat) := by first | lia | omega +splitDisjunctions
theorem om394 {x1 : Nat} : x1 ≤ (0 : Nat) + x1 := Nat.le_add_left _ _
theorem om395 {x1 : Nat} {x2 : Nat} (h1 : x1 < (64 : Nat)) (h2 : x2 ≤ x1) : x2 + (1 : Nat) ≤ (16777216 : Nat) + (1 : Nat) := by first | lia | omega +splitDisjunctions
theorem om396 {x1 : Nat} {x2 : Nat} (h1 : x1 < (64 : Nat)) (h2 : x2 ≤ x1) : x2 ≤ (16777216 : Nat) := by first | lia | omega +splitDisjunctions
theorem om397 {x1 : Nat} {x2 : Nat} {x3 : Nat} (h1 : x1 = min x2 x3) : x1 ≤ x3 := by first | lia | omega +splitDisjunctions
theorem om398 {x1 : Nat} {x2 : Nat} {x3 : Nat} (h1 : x1 - x2 = x3 + (1 : Nat)) : x1 - (x2 + (1 : Nat)) = x3 := by rw [Nat.sub_add_eq, h1]; rfl
theorem om399 {x1 : Nat} {x2 : Nat} {x3 : Nat} {x4 : Nat} (h1 : x1 ≤ x2) (h2 : x1 = x3) (h3 : x4 < x3) : x4 ≤ x2 := by first | lia | omega +splitDisjunctions
theorem om400 {x1 : Nat} {x2 : Nat} {x3 : Nat} (h1 : x1 = x2) (h2 : x3 < x2) : x3 < x1 := by first | lia | omega +splitDisjunctions
theorem om401 {x1 : Nat} {x2 : Nat} {x3 : Nat} (h1 : x1 - x2 = x3 + (1 : Nat)) : x2 < x1 := Nat.lt_of_sub_eq_succ h1
theorem om402 {x1 : Nat} {x2 : Nat} (h1 : x1 - x2 = (0 : Nat)) (h2 : x2 ≤ x1) : x2 = x1 := by first | lia | omega +splitDisjunctions
theorem om403 {x1 : Int} {x2 : Nat} (h1 : (0 : Int) ≤ x1) (h2 : x1 < (↑x2 : Int)) : (0 : Int) ≤ x1 ∧ x1 < (↑x2 : Int) := ⟨h1, h2⟩
theorem om404 {x1 : Int} (h1 : (0 : Int) ≤ x1) : ¬x1 < (0 : Int) := Int.not_lt.mpr h1
theorem om405 {x1 : Int} {x2 : Nat} (h1 : x1 < (↑x2 : Int)) (h2 : x2 ≤ (1000 : Nat)) : x1 < (1000 : Int) := by first | lia | omega +splitDisjunctions
theorem om406 {x1 : Int} (h1 : (0 : Int) ≤ x1) (h2 : x1 < (1000 : Int)) : -(2 : Int) ^ (63 : Nat) ≤ x1 ∧ x1 < (2 : Int) ^ (63 : Nat) := by first | lia | omega +splitDisjunctions
theorem om407 {x1 : Nat} (h1 : x1 < (2 : Nat) ^ (8 : Nat)) : ¬((↑x1 : Int) < (0 : Int) ∨ (↑x1 : Int) ≥ (256 : Int)) := by first | lia | omega +splitDisjunctions
theorem om408 {x1 : Int} (h1 : (-400000 : Int) ≤ x1 ∧ x1 ≤ (400000 : Int)) : (-400000 : Int) ≤ x1 := h1.1
theorem om409 {x1 : Int} (h1 : (-400000 : Int) ≤ x1 ∧ x1 ≤ (400000 : Int)) : x1 ≤ (400000 : Int) := h1.2
theorem om410 {x1 : Int} : (0 : Int) ≤ x1 % (256 : Int) ∧ x1 % (256 : Int) ≤ (255 : Int) := by first | lia | omega +splitDisjunctions
theorem om411 {x1 : Int} (h1 : ¬x1 = (0 : Int)) : (6 : Int) * x1 ≠ (0 : Int) := by first | lia | omega +splitDisjunctions
theorem om412 {x1 : Int} {x2 : Int} {x3 : Int} (h1 : x1 ≤ (2 : Int) ^ (38 : Nat)) (h2 : x2 ≤ (2 : Int) ^ (38 : Nat)) (h3 : x3 ≤ (2 : Int) ^ (38 : Nat)) : max x1 (max x2 x3) + min x1 (min x2 x3) ≤ (2 : Int) ^ (40 : Nat) := Int.le_trans (Int.add_le_add (Int.max_le.mpr ⟨h1, Int.max_le.mpr ⟨h2, h3⟩⟩) (Int.le_trans (Int.min_le_left _ _) h1)) (by decide)
theorem om413 {x1 : Int} {x2 : Int} {x3 : Int} (h1 : (0 : Int) ≤ x1) (h2 : (0 : Int) ≤ x2) (h3 : (0 : Int) ≤ x3) : (0 : Int) ≤ max x1 (max x2 x3) + min x1 (min x2 x3) := Int.add_nonneg (Int.le_trans h1 (Int.le_max_left _ _)) (Int.le_min.mpr ⟨h1, Int.le_min.mpr ⟨h2, h3⟩⟩)
theorem om414 {x1 : Int} (h1 : (1 : Int) ≤ x1) : x1 ≠ (0 : Int) := Int.ne_of_gt h1
theorem om415 {x1 : Int} (h1 : (0 : Int) ≤ x1) (h2 : x1 ≤ (2 : Int) ^ (40 : Nat)) : x1.natAbs ≤ (2 : Nat) ^ (53 : Nat) := by first | lia | omega +splitDisjunctions
theorem om416 {x1 : Int} (h1 : (0 : Int) ≤ x1) (h2 : x1 ≤ (2 : Int) ^ (38 : Nat)) : x1.natAbs ≤ (2 : Nat) ^ (38 : Nat) := by first | lia | omega +splitDisjunctions
theorem om417 {x1 : Int} {x2 : Int} (h1 : ¬(x1 = (0 : Int) ∧ x2 = (3 : Int))) (h2 : x1 = (0 : Int)) (h3 : x2 = (3 : Int)) : False := by first | lia | omega +splitDisjunctions
theorem om418 {x1 : Int} (h1 : (0 : Int) ≤ x1 ∧ x1 ≤ (255 : Int)) : x1.toNat / (4 : Nat) < (64 : Nat) := Nat.div_lt_of_lt_mul (Nat.lt_of_le_of_lt (Int.toNat_le.mpr h1.2) (by decide))
theorem om419 {x1 : Int} (h1 : (0 : Int) ≤ x1 ∧ x1 ≤ (255 : Int)) : x1 / (4 : Int) = (↑(x1.toNat / (4 : Nat)) : Int) := (congrArg (· / (4 : Int)) (Int.toNat_of_nonneg h1.1).symm).trans rfl
theorem om420 {x1 : Int} (h1 : (-255 : Int) ≤ x1) (h2 : x1 < (0 : Int)) : (0 : Int) ≤ -x1 ∧ -x1 ≤ (255 : Int) := by first | lia | omega +splitDisjunctions
theorem om421 {x1 : Int} (h1 : x1 ≤ (255 : Int)) (h2 : ¬x1 < (0 : Int)) : (0 : Int) ≤ x1 ∧ x1 ≤ (255 : Int) := by first | lia | omega +splitDisjunctions
end
section
open PySem PySem.W PyProof.Rows
set_option Elab.async false
set_option maxRecDepth 100000
set_option maxHeartbeats 8000000
section By
open PySem.Calls PySem.Builtin.Bytes
variable {prog : Program} {w : World} {A : Around} {E : Value → Shared → Prop} {s : Shared} {h₀ : Heap} {L : Addr} {m : Str → Option Value} {news : List (Addr × Obj)}
theorem by_slot_set : Slot "bytearray" "__setitem__" "bytearray.__setitem__" :=
  .of (owner := "bytearray") (n := "__setitem__") (by rw [typeLookup_type, builtinLookup_eq_fast]; kernel_rfl) (by decide +kernel) (by decide +kernel) (by decide +kernel)
    (by first | exact .inl (by decide +kernel) | exact .inr (by decide +kernel)) (by rw [isSubtype_type]; kernel_rfl)
theorem by_entry_set : entryFor table "bytearray.__setitem__" = some Builtin.«bytearray.__setitem__» := entryFor_of_tree (by kernel_rfl)
theorem by_args_set (a b c : Value) : argsOk "bytearray.__setitem__" ⟨[a, b, c], []⟩ := by unfold argsOk; kernel_rfl
theorem by_byte {x : UInt8} {u : Tok} {Q : UInt8 → Shared → Prop} (h : Q x s) : wpAny (model prog w) A (byteValue (.int (x.toNat : Int) u)) Q E s := by
  have hx := x.toNat_lt
  unfold byteValue
  refine wpAny_bind (m := asIndex (.int (x.toNat : Int) u)) (wpAny_pure ?_)
  refine rx4_if ?_ ?_
  · simp only [Bool.or_eq_true, decide_eq_true_eq]; (first | exact om407 hx | omega +splitDisjunctions)
  have e : (x.toNat : Int).toNat.toUInt8 = x := by
    rw [Int.toNat_natCast]; exact UInt8.ofNat_toNat
  rw [e]
  exact wpAny_pure h
theorem by_subs {k : Int} {t : Tok} {Q : Option Int → Shared → Prop} (h0 : 0 ≤ k) (h1 : k < 1000) (h : Q (some k) s) : wpAny (model prog w) A (subscript? (.int k t)) Q E s := by
  unfold subscript?
  refine wpAny_bind (wpAny_specialOf (v := .int k t) (T := "int") rfl by_int_index ?_)
  refine rx4_if (by decide) ?_
  refine wpAny_bind (m := asIndex (.int k t)) (wpAny_pure ?_)
  refine rx4_if ?_ (wpAny_pure h)
  have e : fitsIndex k = true := by unfold fitsIndex; simp only [Bool.and_eq_true, decide_eq_true_eq]; (first | exact om406 h0 h1 | omega +splitDisjunctions)
  rw [e]; decide
theorem by_payload {N : Addr} {b : Array UInt8} {Q : Array UInt8 → Shared → Prop} (ho : s.heap.get? N = some (byObj b)) (h : Q b s) : wpAny (model prog w) A (payload (.ref N)) Q E s := by
  unfold payload
  refine wpAny_bind (m := payload? (.ref N)) ?_
  unfold payload?
  refine wpAny_bind (wpAny_load ho (wpAny_pure (wpAny_pure h)))
theorem by_setItem {N : Addr} {b : Array UInt8} {k : Int} {t : Tok} {x : UInt8} {u : Tok} {Q : Unit → Shared → Prop} (ho : s.heap.get? N = some (byObj b)) (h0 : 0 ≤ k) (h1 : k < b.size) (hz : b.size ≤ 1000)
    (h : ∀ h', h'.get? N = some (byObj (b.setIfInBounds k.toNat x)) → Heap.SameBut N s.heap h' → Q () { s with heap := h' }) : wpAny (model prog w) A (setItem (.ref N) (.int k t) (.int (x.toNat : Int) u)) Q E s := by
  have hT := by_type ho
  unfold setItem
  try with_reducible refine wpAny_holding ?_
  refine wpAny_bind (wpAny_sequenceKey hT (by decide) ?_)
  refine wpAny_bind (wpAny_callSpecial?_slot (name := Str.ofString "__setitem__") hT by_slot_set
    (wpAny_call_entry by_slot_set hT by_entry_set ?_ (by_args_set _ _ _)))
  unfold Builtin.«bytearray.__setitem__»
  refine rx4_if Bool.false_ne_true ?_
  dsimp only
  refine wpAny_bind (by_subs h0 (by (first | exact om405 h1 hz | omega +splitDisjunctions)) ?_)
  dsimp only
  refine wpAny_bind (by_byte ?_)
  refine wpAny_bind (by_payload ho ?_)
  have e : PySem.seqIndex? k b.size = some k.toNat := by
    have e0 : ¬ k < 0 := by (first | exact om404 h0 | omega +splitDisjunctions)
    simp only [PySem.seqIndex?, if_neg e0]
    rw [if_pos (by simp only [Bool.and_eq_true, decide_eq_true_eq]; (first | exact om403 h0 h1 | omega +splitDisjunctions))]
  rw [e]
  dsimp only
  refine wpAny_bind (by_write ho ?_ fun h' g sb => ?_)
  · rw [Array.size_setIfInBounds]; exact Nat.le_trans hz (show 1000 ≤ sizeLine from Nat.le_of_ble_eq_true rfl)
  exact wpAny_pure ⟨.none, rfl, wpAny_pure (h h' g sb)⟩
theorem by_no_bytes : typeLookup (.type "bytearray") "__bytes__" = pure none := by rw [typeLookup_type, builtinLookup_eq_fast]; kernel_rfl
theorem by_no_index : typeLookup (.type "bytearray") "__index__" = pure none := by rw [typeLookup_type, builtinLookup_eq_fast]; kernel_rfl
theorem by_buffer : typeLookup (.type "bytearray") "__buffer__" = pure (some (.builtin "bytearray.__buffer__")) := by rw [typeLookup_type, builtinLookup_eq_fast]; kernel_rfl
theorem by_own {N : Addr} {b : Array UInt8} {Q : Bool → Shared → Prop} (ho : s.heap.get? N = some (byObj b)) (h : Q true s) : wpAny (model prog w) A (slotIsOwn (.ref N) "__buffer__") Q E s := by
  unfold slotIsOwn
  refine wpAny_bind (wpAny_specialOf (by_type ho) by_buffer ?_)
  dsimp only
  have e1 : ¬ (!String.endsWith "bytearray.__buffer__" ("." ++ "__buffer__")) = true := by decide +kernel
  rw [if_neg e1]
  have e2 : String.dropRight "bytearray.__buffer__" (String.length "__buffer__" + 1) = "bytearray" := by decide +kernel
  rw [e2]
  exact wpAny_isInstance (by_type ho) by_sub h
theorem by_buf {N : Addr} {b : Array UInt8} {Q : Option (Array UInt8) → Shared → Prop} (ho : s.heap.get? N = some (byObj b)) (h : Q (some b) s) : wpAny (model prog w) A (buffer? "bytes.__new__" (.ref N) true) Q E s := by
  unfold buffer?
  refine wpAny_bind (wpAny_specialOf (by_type ho) by_buffer ?_)
  dsimp only
  refine wpAny_bind (by_own ho ?_)
  refine rx4_if (by decide) ?_
  refine wpAny_bind (wpAny_specialOf (by_type ho) by_buffer ?_)
  try dsimp only
  refine wpAny_bind (by_ownRelease ho ?_)
  refine rx4_if (by decide) ?_
  exact wpAny_bind (by_payload ho (wpAny_pure h))
theorem by_newb {N : Addr} {b : Array UInt8} {Q : Value → Shared → Prop} (ho : s.heap.get? N = some (byObj b)) (hz : b.size ≤ 1000)
    (hQ : ∀ t k, Q (.bytes b t) { s with toks := k }) :
    codeAny (model prog w) A (.call (.builtin "bytes.__new__") ⟨[.type "bytes", .ref N], []⟩) (wants Q E) s := by
  refine codeAny_of_tree ?_
  show wpAny _ A.in1 (do checkBuiltinCall "bytes.__new__" ⟨[.type "bytes", .ref N], []⟩; again (.builtin "bytes.__new__" ⟨[.type "bytes", .ref N], []⟩)) _ _ s
  refine wpAny_bind (wpAny_of_eq (F.bm_newCall _) (wpAny_pure ⟨plainId_quiet F.bm_plain _, codeAny_builtin F.bm_entry ?_⟩))
  rw [Around.under_plainId F.bm_plain _]
  have hT := by_type ho
  unfold Builtin.«bytes.__new__»
  refine wpAny_bind (wpAny_of_eq (a := true) rfl ?_)
  refine rx4_if (by decide) ?_
  refine wpAny_bind (wpAny_of_eq F.bm_sub ?_)
  refine rx4_if (by decide) ?_
  refine wpAny_bind (wpAny_of_eq (F.bm_bind _) ?_)
  refine wpAny_bind (wpAny_of_eq (a := ()) rfl ?_)
  refine wpAny_bind (wpAny_of_eq (a := ()) rfl ?_)
  refine rx4_if Bool.false_ne_true ?_
  refine wpAny_bind (wpAny_specialOf hT by_no_bytes ?_)
  refine wpAny_bind (wpAny_bind ?_)
  show wpAny _ _ (load N >>= _) _ _ _
  refine wpAny_bind (wpAny_load ho ?_)
  refine wpAny_pure (wpAny_pure ?_)
  refine rx4_if Bool.false_ne_true ?_
  refine wpAny_bind (wpAny_specialOf hT by_no_index ?_)
  refine bm_if_true rfl ?_
  first
    | show wpAny _ _ (buffer? "bytes.__new__" (.ref N) true >>= _) _ _ _
    | (refine wpAny_bind ?_; show wpAny _ _ (buffer? "bytes.__new__" (.ref N) true >>= _) _ _ _)
  refine wpAny_bind (by_buf ho ?_)
  dsimp only
  refine wpAny_bind (wpAny_rule ?_)
  refine wpAny_bind ?_
  unfold mkBytes
  refine rx4_if (Nat.not_lt.mpr (Nat.le_trans hz (show 1000 ≤ sizeLine from Nat.le_of_ble_eq_true rfl))) ?_
  refine wpAny_bind (wpAny_fresh (wpAny_pure ?_))
  refine bm_if_true (by decide +kernel) ?_
  exact wpAny_pure (hQ _ _)
theorem by_bytes {N : Addr} {b : Array UInt8} {Q : Value → Shared → Prop} (ho : s.heap.get? N = some (byObj b)) (hz : b.size ≤ 1000)
    (hQ : ∀ t k, Q (.bytes b t) { s with toks := k }) : wpAny (model prog w) A (call (.type "bytes") [.ref N]) Q E s := by
  refine callType_codes (Q₁ := fun obj s₁ => s₁.TypeIs obj "bytes" ∧ Q obj s₁) F.bm_called (F.bm_typeCall _) F.entry_object_init
    (by_newb ho hz fun t k => ⟨PySem.W.typeIs_bytes _ _ _, hQ t k⟩) fun obj s₁ h₁ => ?_
  exact ⟨h₁.1, F.args_object_init_2 obj _, object_init_meets F.bm_called.init.lookup F.bm_called.made (by decide) prog w A.in1 _ s₁ ⟨h₁.1, rfl, h₁.2⟩⟩
end By
end
section
open PySem PySem.W PyProof.Rows
set_option Elab.async false
set_option maxRecDepth 100000
set_option maxHeartbeats 8000000
section By2
open PySem.Calls PySem.Builtin.Bytes
variable {prog : Program} {w : World} {A : Around} {E : Value → Shared → Prop} {s : Shared} {h₀ : Heap} {L : Addr} {m : Str → Option Value} {news : List (Addr × Obj)}
theorem by_setU {D : Addr} {b c : List UInt8} {k : Int} {t : Tok} {x : UInt8} {u : Tok} {news' : List (Addr × Obj)} {Q : Unit → Shared → Prop} (F : Fr h₀ L s.heap m) (N : News h₀ L s.heap news)
    (h0 : 0 ≤ k) (h1 : k < b.length) (hz : b.length ≤ 1000) (e : b.set k.toNat x = c) (U : Upd D (byObj b.toArray) (byObj c.toArray) news news')
    (h : ∀ h', Fr h₀ L h' m → News h₀ L h' news' → Q () { s with heap := h' }) : wpAny (model prog w) A (setItem (.ref D) (.int k t) (.int (x.toNat : Int) u)) Q E s := by
  obtain ⟨pre, post, rfl, rfl, a, b'⟩ := U.split
  have z := N (D, byObj b.toArray) (List.mem_append.mpr (.inr (.head _)))
  refine by_setItem (b := b.toArray) z.1 h0 (by simpa using h1) (by simpa using hz) fun h' g sb => ?_
  refine h h' (F.change sb z.2.1 z.2.2) (news_set N a b' sb ?_)
  rw [g, ← e]
  simp
theorem offLt {D : Addr} {l : List (Addr × Obj)} (h : AllLt D l) : ∀ x ∈ l, x.1 ≠ D := by
  induction l with
  | nil => intro x hx; cases hx
  | cons a l ih =>
    intro x hx
    rcases List.mem_cons.mp hx with rfl | hx
    · exact Nat.ne_of_lt h.1
    · exact ih h.2 x hx
theorem by_makeK {n : Int} {t : Tok} {Q : Value → Shared → Prop} (hg : A.guards = some []) (F : Fr h₀ L s.heap m) (N : News h₀ L s.heap news) (h0 : 0 < n) (hn : n ≤ 1000)
    (h : ∀ D h', Fr h₀ L h' m → News h₀ L h' ((D, byObj (List.replicate n.toNat 0).toArray) :: news) → (∀ q ∈ news, q.1 < D) → (∀ q ∈ news, q.1 ≠ D) → Q (.ref D) { s with heap := h' }) :
    wpS (model prog w) A (call (.type "bytearray") [.int n t]) Q E s := by
  refine by_make hg h0 hn fun h' g hk => ?_
  have lt : ∀ q ∈ news, q.1 < s.heap.objs.size := fun q hq => Heap.lt_size (N q hq).1
  have hL : L < s.heap.objs.size := F.ns.lt
  refine h _ h' (F.keeps hk) (fun p hp => ?_) lt fun q hq => Nat.ne_of_lt (lt q hq)
  rcases List.mem_cons.mp hp with rfl | hp
  · exact ⟨by rw [g]; simp, Nat.ne_of_gt hL, Heap.get?_none_of_le (Nat.le_trans F.above (Nat.le_of_lt hL))⟩
  · exact ⟨hk _ _ (N p hp).1, (N p hp).2⟩
theorem by_bytesK {D : Addr} {b : List UInt8} {Q : Value → Shared → Prop} (N : News h₀ L s.heap news) (hm : (D, byObj b.toArray) ∈ news) (hz : b.length ≤ 1000)
    (hQ : ∀ t k, Q (.bytes b.toArray t) { s with toks := k }) : wpAny (model prog w) A (call (.type "bytes") [.ref D]) Q E s :=
  by_bytes (N _ hm).1 (by simpa using hz) hQ
theorem sl_typeE {T : String} {pos : Pos} {env : Env} {args : List PySem.Expr} {Q : Value → Shared → Prop} (hp : (backTo pos (starEach args env)).any (·.1) = false) (hf : ∃ x r, backTo pos (starEach args env) = (false, x) :: r)
    (h : wpAny (model prog w) A (spliced (backTo pos (starEach args env))) (fun vs s' => wpS (model prog w) A (call (.type T) vs []) Q E s') E s) :
    wpS (model prog w) A (callWith pos (.type T) [] (backTo pos (starEach args env)) []) Q E s := by
  refine sl_callWith_type hp ?_
  obtain ⟨x, r, e⟩ := hf
  rw [e] at h ⊢
  exact PySem.Calls.evalArgs_plain h
theorem sl_funE {a : Addr} {o : Obj} {fd : FuncData} {pos : Pos} {env : Env} {args : List PySem.Expr} {Q : Value → Shared → Prop} (hp : (backTo pos (starEach args env)).any (·.1) = false) (hf : ∃ x r, backTo pos (starEach args env) = (false, x) :: r) (hl : ¬ (backTo pos (starEach args env)).length + 2 * 0 > 30)
    (h : wpAny (model prog w) A (spliced (backTo pos (starEach args env))) (fun vs s' => (s'.heap.get? a = some o ∧ o.data = .func fd) ∧ wpS (model prog w) A (call (.ref a) vs []) Q E s') E s) :
    wpS (model prog w) A (callWith pos (.ref a) [] (backTo pos (starEach args env)) []) Q E s := by
  refine sl_callWith_function (o := o) (fd := fd) hp hl ?_
  obtain ⟨x, r, e⟩ := hf
  rw [e] at h ⊢
  exact PySem.Calls.evalArgs_plain h
theorem by_len {l : List UInt8} {n : Int} {t : Tok} {Q : Value → Shared → Prop} (hz : l.length ≤ 1000) (hn : (l.length : Int) = n) (h : ∀ t tk, Q (.int n t) { s with toks := tk }) : wpAny (model prog w) A (call (.builtin "len") [.bytes l.toArray t]) Q E s := by
  subst hn
  exact PySem.W.len_bytes (by rw [List.size_toArray]; omega +splitDisjunctions) (h _ _)
theorem sl_code_defT {A₀ : Around} {base h₀ : Heap} {m mg mb : Str → Option Value} {K : Frag} {p : Program} {loose : List Str} {mean : ExcName → Option Value}
    {env : Env} {outer : List Env} {R : Result → Shared → Prop} {name qual : Str} {params : Arguments} {body : List Stmt} {scope : Scope} {dV kV doc pm cdv ct oc : Value} {an od : Option Addr} {osl : Array (Option Value)} {f : Addr} {args : Args} {binds : List (Str × Value)}
    (B : Below A₀ base outer h₀) (F : Fr h₀ L s.heap m) (X₀ : K.In h₀) (N : News h₀ L s.heap news) (T : Top p loose mean mg mb h₀) (hA : A.frames = some (env :: outer)) (hf : env.frame = some L) (hke : env.scope.kind = .function)
    (ho : K.lookup f = some ⟨oc, od, .func (fnOf name qual params body scope dV kV doc pm an cdv ct), osl⟩) (hcd : codeIn K cdv qual = true) (hroom : A.depth < recursionLimit)
    (hbind : BindsTo s (fnOf name qual params body scope dV kV doc pm an cdv ct) args binds) (hloc : ∀ y ∈ binds, scope.names.lookup y.1 = some .local)
    (h : ∀ g L' h₁ tk, Fr h₀ L g m → Fr g L' h₁ (fun y => binds.reverse.lookup y) → News g L' h₁ news → Below A base (env :: outer) g → K.In g → Top p loose mean mg mb g →
      wpS (model prog w) (A.deeper (envOf qual scope L' f cdv)) (execs body (envOf qual scope L' f cdv))
        (fun fl s' => LeaveK h₀ L m g R (match fl with | .ret v => v | _ => .none) s') Nev { s with heap := h₁, toks := tk })
    (hco : scope.isCoroutine = false) (hgen : scope.isGenerator = false) (hk : scope.kind = .function)
    (hcell : ∀ x ∈ scope.names, x.2 ≠ .cell) : codeS (model prog w) A (.call (.ref f) args) R s :=
  sl_code_def B F X₀ N T hA hf hke ho hcd hroom hbind hloc (fun g L' h₁ a b c d e i => sl_mono (h g L' h₁ _ a b c d e i) (fun _ _ x => x) fun _ _ x => x.elim) hco hgen hk hcell
theorem by_len1 {a : UInt8} {t : Tok} {Q : Value → Shared → Prop} (h : ∀ t tk, Q (.int 1 t) { s with toks := tk }) : wpAny (model prog w) A (call (.builtin "len") [.bytes #[a] t]) Q E s :=
  by_len (l := [a]) (Nat.le_of_ble_eq_true rfl) rfl h
theorem by_len2 {a b : UInt8} {t : Tok} {Q : Value → Shared → Prop} (h : ∀ t tk, Q (.int 2 t) { s with toks := tk }) : wpAny (model prog w) A (call (.builtin "len") [.bytes #[a, b] t]) Q E s :=
  by_len (l := [a, b]) (Nat.le_of_ble_eq_true rfl) rfl h
theorem by_len3 {a b c : UInt8} {t : Tok} {Q : Value → Shared → Prop} (h : ∀ t tk, Q (.int 3 t) { s with toks := tk }) : wpAny (model prog w) A (call (.builtin "len") [.bytes #[a, b, c] t]) Q E s :=
  by_len (l := [a, b, c]) (Nat.le_of_ble_eq_true rfl) rfl h
theorem by_len4 {a b c d : UInt8} {t : Tok} {Q : Value → Shared → Prop} (h : ∀ t tk, Q (.int 4 t) { s with toks := tk }) : wpAny (model prog w) A (call (.builtin "len") [.bytes #[a, b, c, d] t]) Q E s :=
  by_len (l := [a, b, c, d]) (Nat.le_of_ble_eq_true rfl) rfl h
theorem by_set1 {D : Addr} {b0 c0 : UInt8} {k : Int} {t : Tok} {x : UInt8} {u : Tok} {news' : List (Addr × Obj)} {Q : Unit → Shared → Prop} (F : Fr h₀ L s.heap m) (N : News h₀ L s.heap news)
    (h0 : 0 ≤ k) (h1 : k < 1) (e : List.set [b0] k.toNat x = [c0]) (U : Upd D (byObj #[b0]) (byObj #[c0]) news news')
    (h : ∀ h', Fr h₀ L h' m → News h₀ L h' news' → Q () { s with heap := h' }) : wpAny (model prog w) A (setItem (.ref D) (.int k t) (.int (x.toNat : Int) u)) Q E s :=
  by_setU (b := [b0]) (c := [c0]) F N h0 h1 (Nat.le_of_ble_eq_true rfl) e U h
theorem by_make1 {t : Tok} {Q : Value → Shared → Prop} (hg : A.guards = some []) (F : Fr h₀ L s.heap m) (N : News h₀ L s.heap news)
    (h : ∀ D h', Fr h₀ L h' m → News h₀ L h' ((D, byObj #[0]) :: news) → (∀ q ∈ news, q.1 < D) → (∀ q ∈ news, q.1 ≠ D) → Q (.ref D) { s with heap := h' }) :
    wpS (model prog w) A (call (.type "bytearray") [.int 1 t]) Q E s := by_makeK hg F N (by decide) (by decide) h
theorem by_set2 {D : Addr} {b0 b1 c0 c1 : UInt8} {k : Int} {t : Tok} {x : UInt8} {u : Tok} {news' : List (Addr × Obj)} {Q : Unit → Shared → Prop} (F : Fr h₀ L s.heap m) (N : News h₀ L s.heap news)
    (h0 : 0 ≤ k) (h1 : k < 2) (e : List.set [b0, b1] k.toNat x = [c0, c1]) (U : Upd D (byObj #[b0, b1]) (byObj #[c0, c1]) news news')
    (h : ∀ h', Fr h₀ L h' m → News h₀ L h' news' → Q () { s with heap := h' }) : wpAny (model prog w) A (setItem (.ref D) (.int k t) (.int (x.toNat : Int) u)) Q E s :=
  by_setU (b := [b0, b1]) (c := [c0, c1]) F N h0 h1 (Nat.le_of_ble_eq_true rfl) e U h
theorem by_make2 {t : Tok} {Q : Value → Shared → Prop} (hg : A.guards = some []) (F : Fr h₀ L s.heap m) (N : News h₀ L s.heap news)
    (h : ∀ D h', Fr h₀ L h' m → News h₀ L h' ((D, byObj #[0, 0]) :: news) → (∀ q ∈ news, q.1 < D) → (∀ q ∈ news, q.1 ≠ D) → Q (.ref D) { s with heap := h' }) :
    wpS (model prog w) A (call (.type "bytearray") [.int 2 t]) Q E s := by_makeK hg F N (by decide) (by decide) h
theorem by_set3 {D : Addr} {b0 b1 b2 c0 c1 c2 : UInt8} {k : Int} {t : Tok} {x : UInt8} {u : Tok} {news' : List (Addr × Obj)} {Q : Unit → Shared → Prop} (F : Fr h₀ L s.heap m) (N : News h₀ L s.heap news)
    (h0 : 0 ≤ k) (h1 : k < 3) (e : List.set [b0, b1, b2] k.toNat x = [c0, c1, c2]) (U : Upd D (byObj #[b0, b1, b2]) (byObj #[c0, c1, c2]) news news')
    (h : ∀ h', Fr h₀ L h' m → News h₀ L h' news' → Q () { s with heap := h' }) : wpAny (model prog w) A (setItem (.ref D) (.int k t) (.int (x.toNat : Int) u)) Q E s :=
  by_setU (b := [b0, b1, b2]) (c := [c0, c1, c2]) F N h0 h1 (Nat.le_of_ble_eq_true rfl) e U h
theorem by_make3 {t : Tok} {Q : Value → Shared → Prop} (hg : A.guards = some []) (F : Fr h₀ L s.heap m) (N : News h₀ L s.heap news)
    (h : ∀ D h', Fr h₀ L h' m → News h₀ L h' ((D, byObj #[0, 0, 0]) :: news) → (∀ q ∈ news, q.1 < D) → (∀ q ∈ news, q.1 ≠ D) → Q (.ref D) { s with heap := h' }) :
    wpS (model prog w) A (call (.type "bytearray") [.int 3 t]) Q E s := by_makeK hg F N (by decide) (by decide) h
theorem by_set4 {D : Addr} {b0 b1 b2 b3 c0 c1 c2 c3 : UInt8} {k : Int} {t : Tok} {x : UInt8} {u : Tok} {news' : List (Addr × Obj)} {Q : Unit → Shared → Prop} (F : Fr h₀ L s.heap m) (N : News h₀ L s.heap news)
    (h0 : 0 ≤ k) (h1 : k < 4) (e : List.set [b0, b1, b2, b3] k.toNat x = [c0, c1, c2, c3]) (U : Upd D (byObj #[b0, b1, b2, b3]) (byObj #[c0, c1, c2, c3]) news news')
    (h : ∀ h', Fr h₀ L h' m → News h₀ L h' news' → Q () { s with heap := h' }) : wpAny (model prog w) A (setItem (.ref D) (.int k t) (.int (x.toNat : Int) u)) Q E s :=
  by_setU (b := [b0, b1, b2, b3]) (c := [c0, c1, c2, c3]) F N h0 h1 (Nat.le_of_ble_eq_true rfl) e U h
theorem by_make4 {t : Tok} {Q : Value → Shared → Prop} (hg : A.guards = some []) (F : Fr h₀ L s.heap m) (N : News h₀ L s.heap news)
    (h : ∀ D h', Fr h₀ L h' m → News h₀ L h' ((D, byObj #[0, 0, 0, 0]) :: news) → (∀ q ∈ news, q.1 < D) → (∀ q ∈ news, q.1 ≠ D) → Q (.ref D) { s with heap := h' }) :
    wpS (model prog w) A (call (.type "bytearray") [.int 4 t]) Q E s := by_makeK hg F N (by decide) (by decide) h
theorem sl_BinOp {M : Model} {l r : PySem.Expr} {op : Operator} {pos : Pos} {env : Env} {Q : Value → Shared → Prop}
    (h : wpS M A (eval l env) (fun a s₁ => wpAny M A (eval r env) (fun b s₂ => wpAny M A (binaryOp op a b) Q E s₂) E s₁) E s) : wpS M A (eval (.BinOp l op r pos) env) Q E s := fun Γ p hΓ hn hc => by
  simp only [eval_BinOp, Sem.wp_bind', Sem.wp_holding, Sem.wp_cmd_standAt, Sem.wp_operate]
  exact Sem.wp_mono M Γ _ (fun a p₁ s₁ h₁ => Sem.wp_mono M Γ _ (fun b _ s₂ h₂ => h₂ Γ _ hΓ) (fun _ _ _ h' => h') _ _ (h₁ Γ p₁ hΓ))
    (fun _ _ _ h' => h') _ _ (h Γ p hΓ hn hc)
theorem fn72 {K : Frag} {h : Heap} (X : K.In h) {name qual : Str} {params : Arguments} {body : List Stmt} {scope : Scope} {dV kV doc pm cdv ct oc : Value} {an od : Option Addr} {osl : Array (Option Value)}
    (ho : K.lookup 72 = some ⟨oc, od, .func (fnOf name qual params body scope dV kV doc pm an cdv ct), osl⟩) : ∃ o fd, h.get? 72 = some o ∧ o.data = .func fd := ⟨_, _, X _ _ ho, rfl⟩
end By2
end
section
open PySem PySem.W PyProof.Rows
set_option Elab.async false
set_option maxRecDepth 100000
set_option maxHeartbeats 8000000
section Sh3
noncomputable def snT (h : Heap) : Bool := (h.get? cStatics).isSome && (staticOf h sharingNotToldKey).isNone
noncomputable def SN (h : Heap) : Prop := (∃ o, h.get? cStatics = some o) ∧ staticOf h sharingNotToldKey = none
theorem sn_of {h : Heap} (e : snT h = true) : SN h := by
  unfold snT at e
  simp only [Bool.and_eq_true, Option.isNone_iff_eq_none] at e
  exact ⟨Option.isSome_iff_exists.mp e.1, e.2⟩
theorem sn_keep {h h' : Heap} (x : SN h) (hk : ∀ b o, h.get? b = some o → h'.get? b = some o) : SN h' := by
  obtain ⟨⟨o, e⟩, s⟩ := x
  have e' := hk _ _ e
  exact ⟨⟨o, e'⟩, by unfold staticOf at s ⊢; rw [e']; rw [e] at s; exact s⟩
theorem sn_nb {h : Heap} (x : SN h) (l : h.NoLimit) : NoneBooked h := by
  obtain ⟨mc, hm, _⟩ := l
  exact ⟨mc, hm, by rw [← PySem.Pin.staticOf_of_ns hm]; exact x.2⟩
noncomputable def hkAs : List Addr := (hd.heap_39 rxP0).map (·.1)
theorem hkAs_eq : ∀ P, hkAs = (hd.heap_39 P).map (·.1) := fun _ => by kernel_rfl
noncomputable def hkH : Hook := kmHook hd.heap_39 hkAs hkAs_eq [95]
noncomputable abbrev rwT : RowW := PySem.Challenge.rw_zo0001_01.row.toRowW
noncomputable abbrev hkLoose : List Str := [Str.ofString "UTC_ZONES", Str.ofString "TIMEZONE_RE"]
theorem hk_left : LeftO rwT.prog hd.view_39 hkLoose (fun s => xlAt hd.view_39 [] s && recOk (RowW.records rwT) s && snT s.heap) (Hook.obs hkH) (Hook.val hkH) 1696 :=
  LeftO.of_split "special-get-raises" (fun w => by kernel_rfl)
end Sh3
end
section
open PySem PySem.W PyProof.Rows
set_option Elab.async false
set_option maxRecDepth 100000
set_option maxHeartbeats 8000000
set_option pp.deepTerms false
set_option pp.deepTerms.threshold 3
set_option pp.proofs false
theorem walk_anew_1 : True := by w_top off; trivial
local macro_rules | `(tactic| walk_at "getMethod ref") => `(tactic| (k_here; (with_reducible refine Mine.gd0 ?_); k_dflt (apply Mine.rx_method_K; (iterate 2 k_asm); k_whole)))
local macro_rules | `(tactic| walk_at "call builtin:re.Pattern.search") => `(tactic| (k_here; (with_reducible refine Mine.gd1 ?_); k_dflt (apply Mine.rx_search_K; (iterate 3 k_asm); assumption; k_whole); intro T9 M9 h9 F9 N9 l9 m9; (try k_lt l9); (try k_lt2 m9)))
local macro_rules | `(tactic| walk_at "getMethod ref") => `(tactic| (k_here; (with_reducible refine Mine.gd2 ?_); k_dflt (apply Mine.rm_method_K; k_asm; k_mem; k_whole)))
local macro_rules | `(tactic| walk_at "call builtin:re.Match.group") => `(tactic| (k_here; (with_reducible refine Mine.gd3 ?_); k_dflt (apply Mine.rm_group_K; k_asm; (iterate 2 k_mem); decide; (iterate 2 assumption); k_whole); intros; (try dsimp only [Mine.rxVal])))
local macro_rules | `(tactic| walk_at "truthy ref") => `(tactic| (k_here; k_dflt (apply Mine.rm_truthy_K; k_asm; k_mem; k_whole)))
local macro_rules | `(tactic| walk_at "truthy") => `(tactic| (k_here; (with_reducible refine Mine.gd4 ?_); k_dflt (apply Mine.rm_truthy_K; k_asm; k_mem; k_whole)))
local macro_rules | `(tactic| k_room) => `(tactic| ktr_room)
local macro_rules | `(tactic| k_units) => `(tactic| ktr_units)
local macro_rules | `(tactic| k_all) => `(tactic| assumption)
theorem tz_w {w : World} {p : Program} {loose : List Str} {mean : ExcName → Option Value} {mg mb : Str → Option Value} :
    ∀ {x : Str} {tx : Tok} {v : Int} {dp un : Nat} {gd : Option (List Code)} {cn : Str} {cs : Scope} {a' : Addr} {ccd : Value} {cl : List (Str × Addr)} {outer : List Env} {A₀ : Around} {base h₀ : Heap} {L : Addr} {m : Str → Option Value} {s : Shared} {Q E : Value → Shared → Prop} {news : List (Addr × Obj)},
    Below A₀ base outer h₀ → Fr h₀ L s.heap m → (hd.heap_39 w.params).In h₀ → News h₀ L s.heap (news) → Top p loose mean mg mb h₀ → cs.kind = .function → dp + 40 < recursionLimit → un + 400 < cLine →
    (hv : TzIs x v) → (∀ (t : Tok) (h' : Heap) (tk' : Nat), Fr h₀ L h' m → News h₀ L h' news → Q (.int v t) { s with heap := h', toks := tk' }) →
    wpAny (model PySem.Challenge.rw_zo0001_01.prog w) (ktrTop dp un gd cn cs L a' ccd cl outer) (call (.ref 44) [.str x tx]) Q E s := by
  k_fill
  intros
  rename_i B0 F0 X0 N0 T0 hk0 hdp hun hv hret
  refine wpAny_call ?_
  k_dflt cell_enter
  rcases hv with ⟨hk, hv0⟩ | ⟨y, hx, mx, hh, mm, H⟩
  · k_steps
    all_goals (rename (_ || _) = _ => hc9)
    all_goals first
      | exact absurd (hk.symm.trans hc9) (by decide)
      | (refine Mine.retI hret hv0.symm (by k_asm) (by k_asm))
  · have R := H.got
    have hxl : _ := H.len
    have hx2 := Nat.le_trans hxl (show 100 ≤ sizeLine from Nat.le_of_ble_eq_true rfl)
    have g2 := H.h2
    have g3 := H.h3
    have i2 := H.i2
    have i3 := H.i3
    have l2 := H.l2
    have l3 := H.l3
    have n3 := H.n3
    have b2 := H.b2
    have b3 := H.b3
    k_steps
    all_goals first
      | (rename (_ || _) = _ => hc9; exact absurd (H.key.symm.trans hc9) (by decide))
      | (exfalso; omega)
      | (rcases H.sg with ⟨g1 | g1, hv1⟩ | ⟨g1, hv1⟩
         all_goals k_steps
         all_goals first
           | (exfalso; omega)
           | (refine Mine.retI hret hv1.symm (by k_asm) (Mine.dropN (Mine.dropN (by k_asm)))))
end
section
open PySem PySem.W PyProof.Rows
set_option Elab.async false
set_option maxRecDepth 100000
set_option maxHeartbeats 8000000
set_option pp.deepTerms false
set_option pp.deepTerms.threshold 3
set_option pp.proofs false
theorem walk_anew_2 : True := by w_top off; trivial
theorem figures_w {w : World} {p : Program} {loose : List Str} {mean : ExcName → Option Value} {mg mb : Str → Option Value} :
    ∀ {n : Int} {tn : Tok} {dp un : Nat} {gd : Option (List Code)} {cn : Str} {cs : Scope} {a' : Addr} {ccd : Value} {cl : List (Str × Addr)} {outer : List Env} {A₀ : Around} {base h₀ : Heap} {L : Addr} {m : Str → Option Value} {s : Shared} {Q E : Value → Shared → Prop} {news : List (Addr × Obj)},
    Below A₀ base outer h₀ → Fr h₀ L s.heap m → (hd.heap_39 w.params).In h₀ → News h₀ L s.heap (news) → Top p loose mean mg mb h₀ → cs.kind = .function → dp + 20 < recursionLimit → un + 200 < cLine →
    (h0 : 0 ≤ n) → (h1 : n ≤ 99) → (∀ (t : Tok) (h' : Heap) (tk' : Nat), Fr h₀ L h' m → News h₀ L h' news → Q (.str (figS n) t) { s with heap := h', toks := tk' }) →
    wpAny (model PySem.Challenge.rw_zo0001_01.prog w) (ktrTop dp un gd cn cs L a' ccd cl outer) (call (.ref 79) [.int n tn]) Q E s := by
  k_fill
  intros
  rename_i B0 F0 X0 N0 T0 hk0 hdp hun h0 h1 hret
  refine wpAny_call ?_
  k_dflt cell_enter
  k_steps
  all_goals (rw [fig_text h0 h1]; exact hret _ _ _ (by k_asm) (by k_asm))
end
section
open PySem PySem.W PyProof.Rows
set_option Elab.async false
set_option maxRecDepth 100000
set_option maxHeartbeats 8000000
set_option pp.deepTerms false
set_option pp.deepTerms.threshold 3
set_option pp.proofs false
theorem walk_anew_3 : True := by w_top off; trivial
local macro_rules | `(tactic| walk_at "call ref") => `(tactic| (k_here; (with_reducible refine Mine.gd5 ?_); k_dflt (apply Mine.figures_w; (iterate 8 walk_at "kx"); (first | exact Mine.fm4a _ | exact Mine.fd4a (by assumption) | exact Mine.fd4a (Mine.ab0 _) | l_fact); (first | exact Mine.fm4b _ | exact Mine.fd4b (by assumption) | exact Mine.fd4b (Mine.ab1 (by assumption) (by assumption)) | l_fact); k_whole); intros; have hfl9 := Mine.figS_len; walk_at "kt"))
theorem face_w {w : World} {p : Program} {loose : List Str} {mean : ExcName → Option Value} {mg mb : Str → Option Value} :
    ∀ {n : Int} {tn : Tok} {dp un : Nat} {gd : Option (List Code)} {cn : Str} {cs : Scope} {a' : Addr} {ccd : Value} {cl : List (Str × Addr)} {outer : List Env} {A₀ : Around} {base h₀ : Heap} {L : Addr} {m : Str → Option Value} {s : Shared} {Q E : Value → Shared → Prop} {news : List (Addr × Obj)},
    Below A₀ base outer h₀ → Fr h₀ L s.heap m → (hd.heap_39 w.params).In h₀ → News h₀ L s.heap (news) → Top p loose mean mg mb h₀ → cs.kind = .function → dp + 40 < recursionLimit → un + 400 < cLine →
    (h0 : 0 ≤ n) → (h1 : n ≤ 255) → (∀ (t : Tok) (h' : Heap) (tk' : Nat), Fr h₀ L h' m → News h₀ L h' news → Q (.str (faceS n) t) { s with heap := h', toks := tk' }) →
    wpAny (model PySem.Challenge.rw_zo0001_01.prog w) (ktrTop dp un gd cn cs L a' ccd cl outer) (call (.ref 86) [.int n tn]) Q E s := by
  k_fill
  intros
  rename_i B0 F0 X0 N0 T0 hk0 hdp hun h0 h1 hret
  refine wpAny_call ?_
  k_dflt cell_enter
  k_steps
  all_goals (exact hret _ _ _ (by k_asm) (by k_asm))
end
section
open PySem PySem.W PyProof.Rows
set_option Elab.async false
set_option maxRecDepth 100000
set_option maxHeartbeats 8000000
set_option pp.deepTerms false
set_option pp.deepTerms.threshold 3
set_option pp.proofs false
theorem fr_conv {h₀ h : Heap} {L : Addr} {m : Str → Option Value} (F : Fr h₀ L h m) (l : List (Str × Value)) (hl : ∀ q ∈ l, m q.1 = some q.2) : Fr h₀ L h (fun y => (l.lookup y).or (m y)) := by
  have e : (fun y => (l.lookup y).or (m y)) = m := by
    funext y
    have aux : ∀ l' : List (Str × Value), (∀ q ∈ l', m q.1 = some q.2) → (l'.lookup y).or (m y) = m y := by
      intro l' hl'
      induction l' with
      | nil => rfl
      | cons q r ih =>
        rw [List.lookup_cons]
        by_cases c : (y == q.1) = true
        · rw [c]; have := hl' q (.head _); rw [← eq_of_beq c] at this; rw [this]; rfl
        · rw [Bool.not_eq_true] at c; rw [c]; exact ih fun q hq => hl' q (.tail _ hq)
    exact aux l hl
  rw [e]; exact F
inductive FrAll (m : Str → Option Value) : List (Str × Value) → Prop
  | nil : FrAll m []
  | cons {x : Str} {v : Value} {l : List (Str × Value)} : FrAll m l → m x = some v → FrAll m ((x, v) :: l)
theorem fr_all {m : Str → Option Value} : ∀ {l : List (Str × Value)}, FrAll m l → ∀ q ∈ l, m q.1 = some q.2
  | _, .nil, q, h => by cases h
  | _, .cons r e, q, h => by
    rcases List.mem_cons.mp h with rfl | h
    · exact e
    · exact fr_all r q h
inductive CutAt (R : Shared → Prop) : Flow → Shared → Prop
  | mk {s' : Shared} : R s' → CutAt R .next s'
theorem cutX {P : Program} {w : World} {A : Around} {st : Stmt} {rest : List Stmt} {env : Env} {Q : Flow → Shared → Prop} {E : Value → Shared → Prop} {s : Shared} {R : Shared → Prop}
    (h1 : wpAny (model P w) A (exec st env) (CutAt R) E s) (h2 : ∀ s', R s' → wpAny (model P w) A (execs rest env) Q E s') : wpAny (model P w) A (execs (st :: rest) env) Q E s :=
  wpAny_execs_cons (wpAny_mono h1 (fun f s' h => by cases h with | mk p => exact h2 s' p) (fun _ _ e => e))
inductive CutR (h₀ : Heap) (L : Addr) (news : List (Addr × Obj)) (s : Shared) (f : Tok → Tok → Tok → List (Str × Value)) (s' : Shared) : Prop
  | mk (m' : Str → Option Value) (h' : Heap) (tk' : Nat) (t1 t2 t3 : Tok) (e : s' = { s with heap := h', toks := tk' }) (F : Fr h₀ L h' (fun y => ((f t1 t2 t3).lookup y).or (m' y))) (N : News h₀ L h' news) : CutR h₀ L news s f s'
end
section
open PySem PySem.W PyProof.Rows
set_option Elab.async false
set_option maxRecDepth 100000
set_option maxHeartbeats 8000000
set_option pp.deepTerms false
set_option pp.deepTerms.threshold 3
set_option pp.proofs false
theorem walk_anew_4 : True := by w_top off; trivial
local macro_rules | `(tactic| walk_at "call ref") => `(tactic| (k_here; (with_reducible refine Mine.gd5 ?_); k_dflt (apply Mine.figures_w; (iterate 8 walk_at "kx"); (first | exact Mine.fm4a _ | exact Mine.fd4a (by assumption) | exact Mine.fd4a (Mine.ab0 _) | l_fact); (first | exact Mine.fm4b _ | exact Mine.fd4b (by assumption) | exact Mine.fd4b (Mine.ab1 (by assumption) (by assumption)) | l_fact); k_whole); intros; have hfl9 := Mine.figS_len; walk_at "kt"))
theorem z_pos {c : Prop} [Decidable c] (hc : c) {a b : Str} {t : Tok} : some (Value.str a t) = some (Value.str (if c then a else b) t) := by rw [if_pos hc]
theorem z_neg {c : Prop} [Decidable c] (hc : ¬ c) {a b : Str} {t : Tok} : some (Value.str b t) = some (Value.str (if c then a else b) t) := by rw [if_neg hc]
noncomputable def zSign (n d : Int) : Str := if n < 0 then Str.ofString "-" else if d < 2 then Str.ofString "+" else Str.ofString ""
noncomputable def zHours (n d : Int) : Str := if d.fmod 2 = 0 then figS ((absI n).fdiv 4) else Str.ofString (toString ((absI n).fdiv 4))
noncomputable def zColon (d : Int) : Str := if d < 2 then Str.ofString ":" else Str.ofString ""
theorem zSign_len (n d : Int) : (zSign n d).length ≤ 1 := by
  unfold zSign; split
  · decide
  · split <;> decide
theorem zColon_len (d : Int) : (zColon d).length ≤ 1 := by unfold zColon; split <;> decide
theorem ts_len : ∀ k : Fin 64, (Str.ofString (toString ((k.val : Nat) : Int))).length ≤ 2 := by decide +kernel
theorem zHours_len {n d : Int} (h0 : -255 ≤ n) (h1 : n ≤ 255) : (zHours n d).length ≤ 2 := by
  unfold zHours; split
  · exact Nat.le_of_eq (figS_len _)
  · have a0 : 0 ≤ absI n ∧ absI n ≤ 255 := by unfold absI; split <;> (first | exact om420 h0 (by assumption) | exact om421 h1 (by assumption) | omega)
    have e : (absI n).fdiv 4 = (((absI n).toNat / 4 : Nat) : Int) := by
      rw [Int.fdiv_eq_ediv_of_nonneg _ (by decide)]; (first | exact om419 a0 | omega)
    rw [e]
    exact ts_len ⟨(absI n).toNat / 4, by (first | exact om418 a0 | omega)⟩
theorem zone_w {w : World} {p : Program} {loose : List Str} {mean : ExcName → Option Value} {mg mb : Str → Option Value} :
    ∀ {n d : Int} {tn td : Tok} {dp un : Nat} {gd : Option (List Code)} {cn : Str} {cs : Scope} {a' : Addr} {ccd : Value} {cl : List (Str × Addr)} {outer : List Env} {A₀ : Around} {base h₀ : Heap} {L : Addr} {m : Str → Option Value} {s : Shared} {Q E : Value → Shared → Prop} {news : List (Addr × Obj)},
    Below A₀ base outer h₀ → Fr h₀ L s.heap m → (hd.heap_39 w.params).In h₀ → News h₀ L s.heap (news) → Top p loose mean mg mb h₀ → cs.kind = .function → dp + 40 < recursionLimit → un + 400 < cLine →
    (h0 : -255 ≤ n) → (h1 : n ≤ 255) → (d0 : 0 ≤ d) → (d1 : d ≤ 3) → (∀ (t : Tok) (h' : Heap) (tk' : Nat), Fr h₀ L h' m → News h₀ L h' news → Q (.str (zoneS n d) t) { s with heap := h', toks := tk' }) →
    wpAny (model PySem.Challenge.rw_zo0001_01.prog w) (ktrTop dp un gd cn cs L a' ccd cl outer) (call (.ref 93) [.int n tn, .int d td]) Q E s := by
  k_fill
  intros
  rename_i n d tn td dp un gd cn cs a' ccd cl outer A₀ base h₀ L m s Q E news B0 F0 X0 N0 T0 hk0 hdp hun h0 h1 d0 d1 hret
  refine wpAny_call ?_
  k_dflt cell_enter
  rename_i g' L' h' FG F' N' B' X' T'
  by_cases hz : n = 0 ∧ d = 3
  · obtain ⟨hz1, hz2⟩ := hz
    subst hz1 hz2
    k_steps
    all_goals first
      | (exfalso; omega)
      | (refine Mine.retS hret ?_ (by k_asm) (by k_asm); rfl)
  refine cutX (R := CutR g' L' news s (fun _ _ _ => [(Str.ofString "quarters", .int n tn), (Str.ofString "dress", .int d td)])) ?_ ?_
  · k_steps
    all_goals first
      | (exfalso; (first | exact om417 hz (by assumption) (by assumption) | omega))
      | (exact .mk (.mk _ _ _ s.toks s.toks s.toks rfl (fr_conv (by assumption) _ (fr_all (.cons (.cons .nil (by exact rfl)) (by exact rfl)))) (by assumption)))
  clear F' N'
  rintro _ ⟨m0, h0z, tk0, a0, b0, c0, rfl, F0, N0⟩
  try dsimp only at F0
  refine cutX (R := CutR g' L' news s (fun t1 _ _ => [(Str.ofString "quarters", .int n tn), (Str.ofString "dress", .int d td), (Str.ofString "sign", .str (Str.ofString "") t1)])) ?_ ?_
  · k_steps
    all_goals first
      | (exfalso; omega)
      | (exact .mk (.mk _ _ _ _ s.toks s.toks rfl (fr_conv (by assumption) _ (fr_all (.cons (.cons (.cons .nil (by exact rfl)) (by exact rfl)) (by exact rfl)))) (by assumption)))
  clear F0 N0
  rintro _ ⟨m1, h1z, tk1, a1, b1, c1, rfl, F1, N1⟩
  try dsimp only at F1
  refine cutX (R := CutR g' L' news s (fun t1 _ _ => [(Str.ofString "quarters", .int n tn), (Str.ofString "dress", .int d td), (Str.ofString "sign", .str ((if d < 2 then Str.ofString "+" else Str.ofString "")) t1)])) ?_ ?_
  · k_steps
    all_goals first
      | (exfalso; omega)
      | (rename d < 2 => hc; exact .mk (.mk _ _ _ _ s.toks s.toks rfl (fr_conv (by assumption) _ (fr_all (.cons (.cons (.cons .nil (z_pos hc)) (by exact rfl)) (by exact rfl)))) (by assumption)))
      | (have hc : ¬ (d < 2) := by first | assumption | omega
         exact .mk (.mk _ _ _ _ s.toks s.toks rfl (fr_conv (by assumption) _ (fr_all (.cons (.cons (.cons .nil (z_neg hc)) (by exact rfl)) (by exact rfl)))) (by assumption)))
  clear F1 N1
  rintro _ ⟨m2, h2z, tk2, a2, b2, c2, rfl, F2, N2⟩
  try dsimp only at F2
  refine cutX (R := CutR g' L' news s (fun t1 _ _ => [(Str.ofString "quarters", .int n tn), (Str.ofString "dress", .int d td), (Str.ofString "sign", .str (zSign n d) t1)])) ?_ ?_
  · k_steps
    all_goals first
      | (exfalso; omega)
      | (rename n < 0 => hc; exact .mk (.mk _ _ _ _ s.toks s.toks rfl (fr_conv (by assumption) _ (fr_all (.cons (.cons (.cons .nil (z_pos hc)) (by exact rfl)) (by exact rfl)))) (by assumption)))
      | (have hc : ¬ (n < 0) := by first | assumption | omega
         exact .mk (.mk _ _ _ _ s.toks s.toks rfl (fr_conv (by assumption) _ (fr_all (.cons (.cons (.cons .nil (z_neg hc)) (by exact rfl)) (by exact rfl)))) (by assumption)))
  clear F2 N2
  rintro _ ⟨m3, h3z, tk3, a3, b3, c3, rfl, F3, N3⟩
  try dsimp only at F3
  refine cutX (R := CutR g' L' news s (fun t1 t2 _ => [(Str.ofString "quarters", .int n tn), (Str.ofString "dress", .int d td), (Str.ofString "sign", .str (zSign n d) t1), (Str.ofString "hours", .str (Str.ofString (toString ((absI n).fdiv 4))) t2)])) ?_ ?_
  · k_steps
    all_goals first
      | (exfalso; omega)
      | (exact .mk (.mk _ _ _ _ _ s.toks rfl (fr_conv (by assumption) _ (fr_all (.cons (.cons (.cons (.cons .nil (by exact rfl)) (by exact rfl)) (by exact rfl)) (by exact rfl)))) (by assumption)))
  clear F3 N3
  rintro _ ⟨m4, h4z, tk4, a4, b4, c4, rfl, F4, N4⟩
  try dsimp only at F4
  refine cutX (R := CutR g' L' news s (fun t1 t2 _ => [(Str.ofString "quarters", .int n tn), (Str.ofString "dress", .int d td), (Str.ofString "sign", .str (zSign n d) t1), (Str.ofString "hours", .str (zHours n d) t2)])) ?_ ?_
  · k_steps
    all_goals first
      | (exfalso; omega)
      | (rename d.fmod 2 = 0 => hc; exact .mk (.mk _ _ _ _ _ s.toks rfl (fr_conv (by assumption) _ (fr_all (.cons (.cons (.cons (.cons .nil (z_pos hc)) (by exact rfl)) (by exact rfl)) (by exact rfl)))) (by assumption)))
      | (have hc : ¬ (d.fmod 2 = 0) := by first | assumption | omega
         exact .mk (.mk _ _ _ _ _ s.toks rfl (fr_conv (by assumption) _ (fr_all (.cons (.cons (.cons (.cons .nil (z_neg hc)) (by exact rfl)) (by exact rfl)) (by exact rfl)))) (by assumption)))
  clear F4 N4
  rintro _ ⟨m5, h5z, tk5, a5, b5, c5, rfl, F5, N5⟩
  try dsimp only at F5
  refine cutX (R := CutR g' L' news s (fun t1 t2 t3 => [(Str.ofString "quarters", .int n tn), (Str.ofString "dress", .int d td), (Str.ofString "sign", .str (zSign n d) t1), (Str.ofString "hours", .str (zHours n d) t2), (Str.ofString "colon", .str (Str.ofString "") t3)])) ?_ ?_
  · k_steps
    all_goals first
      | (exfalso; omega)
      | (exact .mk (.mk _ _ _ _ _ _ rfl (fr_conv (by assumption) _ (fr_all (.cons (.cons (.cons (.cons (.cons .nil (by exact rfl)) (by exact rfl)) (by exact rfl)) (by exact rfl)) (by exact rfl)))) (by assumption)))
  clear F5 N5
  rintro _ ⟨m6, h6z, tk6, a6, b6, c6, rfl, F6, N6⟩
  try dsimp only at F6
  refine cutX (R := CutR g' L' news s (fun t1 t2 t3 => [(Str.ofString "quarters", .int n tn), (Str.ofString "dress", .int d td), (Str.ofString "sign", .str (zSign n d) t1), (Str.ofString "hours", .str (zHours n d) t2), (Str.ofString "colon", .str (zColon d) t3)])) ?_ ?_
  · k_steps
    all_goals first
      | (exfalso; omega)
      | (rename d < 2 => hc; exact .mk (.mk _ _ _ _ _ _ rfl (fr_conv (by assumption) _ (fr_all (.cons (.cons (.cons (.cons (.cons .nil (z_pos hc)) (by exact rfl)) (by exact rfl)) (by exact rfl)) (by exact rfl)))) (by assumption)))
      | (have hc : ¬ (d < 2) := by first | assumption | omega
         exact .mk (.mk _ _ _ _ _ _ rfl (fr_conv (by assumption) _ (fr_all (.cons (.cons (.cons (.cons (.cons .nil (z_neg hc)) (by exact rfl)) (by exact rfl)) (by exact rfl)) (by exact rfl)))) (by assumption)))
  clear F6 N6
  rintro _ ⟨m7, h7z, tk7, a7, b7, c7, rfl, F7, N7⟩
  try dsimp only at F7
  have l1 := zSign_len n d
  have l2 := zHours_len (d := d) h0 h1
  have l3 := zColon_len d
  k_steps
  all_goals (refine Mine.retS hret ?_ (by k_asm) (by k_asm); clear hret)
  all_goals (first | (simp only [zoneS, if_neg hz, absI]; rfl) | trace_state)
end
section
open PySem PySem.W PyProof.Rows
set_option Elab.async false
set_option maxRecDepth 100000
set_option maxHeartbeats 8000000
set_option pp.deepTerms false
set_option pp.deepTerms.threshold 3
set_option pp.proofs false
theorem walk_anew_5 : True := by w_top off; trivial
theorem mixed_w {w : World} {p : Program} {loose : List Str} {mean : ExcName → Option Value} {mg mb : Str → Option Value} :
    ∀ {a b c d : Int} {ta tb tc td : Tok} {dp un : Nat} {gd : Option (List Code)} {cn : Str} {cs : Scope} {a' : Addr} {ccd : Value} {cl : List (Str × Addr)} {outer : List Env} {A₀ : Around} {base h₀ : Heap} {L : Addr} {m : Str → Option Value} {s : Shared} {Q E : Value → Shared → Prop} {news : List (Addr × Obj)},
    Below A₀ base outer h₀ → Fr h₀ L s.heap m → (hd.heap_39 w.params).In h₀ → News h₀ L s.heap (news) → Top p loose mean mg mb h₀ → cs.kind = .function → dp + 20 < recursionLimit → un + 200 < cLine →
    (h1 : -2^40 ≤ a) → (h2 : a ≤ 2^40) → (h3 : -2^40 ≤ b) → (h4 : b ≤ 2^40) → (h5 : -2^40 ≤ c) → (h6 : c ≤ 2^40) → (h7 : -2^40 ≤ d) → (h8 : d ≤ 2^40) → (∀ (l : Addr) (t1 t2 t3 : Tok) (h' : Heap) (tk' : Nat), (∀ p ∈ news, p.1 < l) → Fr h₀ L h' m → News h₀ L h' ((l, W.listOf #[.int (a * b + c * d) t1, .int (a * c + b * d) t2, .int (a * d + b * c) t3] 0) :: news) → Q (.ref l) { s with heap := h', toks := tk' }) →
    wpAny (model PySem.Challenge.rw_zo0001_01.prog w) (ktrTop dp un gd cn cs L a' ccd cl outer) (call (.ref 107) [.int a ta, .int b tb, .int c tc, .int d td]) Q E s := by
  k_fill
  intros
  rename_i B0 F0 X0 N0 T0 hk0 hdp hun h1 h2 h3 h4 h5 h6 h7 h8 hret
  refine wpAny_call ?_
  k_dflt cell_enter
  k_steps
  all_goals (exact hret _ _ _ _ _ _ (by assumption) (by k_asm) (by k_asm))
end
section
open PySem PySem.W PyProof.Rows
set_option Elab.async false
set_option maxRecDepth 100000
set_option maxHeartbeats 8000000
set_option pp.deepTerms false
set_option pp.deepTerms.threshold 3
set_option pp.proofs false
theorem walk_anew_6 : True := by w_top off; trivial
noncomputable def collS (x y : Str) : Int := b2i (decide (y.cps.toList < x.cps.toList)) - b2i (decide (x.cps.toList < y.cps.toList))
theorem strcoll_w {w : World} {p : Program} {loose : List Str} {mean : ExcName → Option Value} {mg mb : Str → Option Value} :
    ∀ {x y : Str} {tx ty : Tok} {dp un : Nat} {gd : Option (List Code)} {cn : Str} {cs : Scope} {a' : Addr} {ccd : Value} {cl : List (Str × Addr)} {outer : List Env} {A₀ : Around} {base h₀ : Heap} {L : Addr} {m : Str → Option Value} {s : Shared} {Q E : Value → Shared → Prop} {news : List (Addr × Obj)},
    Below A₀ base outer h₀ → Fr h₀ L s.heap m → (hd.heap_39 w.params).In h₀ → News h₀ L s.heap (news) → Top p loose mean mg mb h₀ → cs.kind = .function → dp + 20 < recursionLimit → un + 200 < cLine →
    (∀ (t : Tok) (h' : Heap) (tk' : Nat), Fr h₀ L h' m → News h₀ L h' news → Q (.int (collS x y) t) { s with heap := h', toks := tk' }) →
    wpAny (model PySem.Challenge.rw_zo0001_01.prog w) (ktrTop dp un gd cn cs L a' ccd cl outer) (call (.ref 58) [.str x tx, .str y ty]) Q E s := by
  k_fill
  intros
  rename_i B0 F0 X0 N0 T0 hk0 hdp hun  hret
  refine wpAny_call ?_
  k_dflt cell_enter
  k_steps
  all_goals (exact hret _ _ _ (by k_asm) (by k_asm))
end
section
open PySem PySem.W PyProof.Rows
set_option Elab.async false
set_option maxRecDepth 100000
set_option maxHeartbeats 8000000
noncomputable def lawStmt : Option Stmt := PySem.Challenge.pw_zo0001_01.main.body.getLast?
noncomputable def lawBody0 : List Stmt := match lawStmt with | some (.FunctionDef _ _ b ..) => b | _ => []
noncomputable def lawScope0 : Scope := match lawStmt with | some (.FunctionDef _ _ _ _ _ _ sc ..) => sc | _ => { kind := .function, names := [], isGenerator := false, isCoroutine := false }
noncomputable def lawBodyP : { b : List Stmt // lawBody0 = b } := ⟨_, by conv => lhs; whnf⟩
noncomputable def lawScopeP : { b : Scope // lawScope0 = b } := ⟨_, by conv => lhs; whnf⟩
noncomputable abbrev lawBody : List Stmt := lawBodyP.1
noncomputable abbrev lawScope : Scope := lawScopeP.1
noncomputable abbrev lawName : Str := Str.ofString "law"
noncomputable abbrev lawCells (L : Addr) : List (Str × Addr) := [(Str.ofString "far", L + 1 + 3), (Str.ofString "place", L + 1 + 2), (Str.ofString "spread", L + 1 + 1), (Str.ofString "noon", L + 1)]
theorem lawCells_eq (L : Addr) : cellsFrom (L + 1) lawScope.names [] = lawCells L := by with_unfolding_all rfl
noncomputable abbrev lawEnv (L a : Addr) (ccd : Value) : Env := envX lawName lawScope L a ccd (lawCells L)
noncomputable abbrev lawA (dp un : Nat) (L a : Addr) (ccd : Value) : Around := ktrTop dp un (some []) lawName lawScope L a ccd (lawCells L) []
theorem lawA_eq (L a : Addr) (ccd : Value) : callerA.deeper (envOfC lawName lawScope L a ccd) = lawA (1 + claimMargin + 1) 7 L a ccd := by with_unfolding_all rfl
end
section
open PySem PySem.W PyProof.Rows
set_option Elab.async false
set_option maxRecDepth 100000
set_option maxHeartbeats 8000000
noncomputable def loopBody0 : List Stmt := match lawBody.drop 15 with | .For _ _ b _ _ :: _ => b | _ => []
noncomputable def loopTarget0 : PySem.Expr := match lawBody.drop 15 with | .For t _ _ _ _ :: _ => t | _ => .Constant (.int 0) 0 default
noncomputable def loopBodyP : { b : List Stmt // loopBody0 = b } := ⟨_, by conv => lhs; whnf⟩
noncomputable def loopTargetP : { b : PySem.Expr // loopTarget0 = b } := ⟨_, by conv => lhs; whnf⟩
noncomputable abbrev loopBody : List Stmt := loopBodyP.1
noncomputable abbrev loopTarget : PySem.Expr := loopTargetP.1
end
section
open PySem PySem.W PyProof.Rows PySem.Calls
set_option Elab.async false
set_option maxRecDepth 100000
set_option maxHeartbeats 4000000
section Zs
open PyProof.Rows.LCg PyProof.Rows.LCp
variable {prog : Program} {w : World} {A : Around} {E : Value → Shared → Prop} {s : Shared} {h₀ : Heap} {L : Addr} {m : Str → Option Value} {env : Env}
theorem zs_elt {x x₂ : Str} {p1 p2 p3 : Pos} {scope : Scope} {cl : List (Str × Addr)} {C : Addr} {m₂ : Str → Option Value} {a b : Int} {ta tb : Tok} {Q : Value → Shared → Prop}
    (hkind : scope.kind = .function) (hx : scope.names.lookup x = some .local) (hx₂ : scope.names.lookup x₂ = some .local) (dx : (x == ("__debug__" : Str)) = false) (dx₂ : (x₂ == ("__debug__" : Str)) = false)
    (hn : s.heap.Ns C m₂) (h1 : m₂ x = some (.int a ta)) (h2 : m₂ x₂ = some (.int b tb)) (hQ : ∀ t tk, Q (.int (a + b) t) { s with toks := tk }) :
    wpAny (model prog w) A (eval (.BinOp (.Name x p1) .Add (.Name x₂ p2) p3) (compEnvC scope cl C env)) Q E s := by
  refine wpAny_BinOp (wpAny_Name (wpAny_loadName_local (m := m₂) hkind (lookup_relabel_local hx) hn h1 (wpAny_Name (wpAny_loadName_local (m := m₂) hkind (lookup_relabel_local hx₂) hn h2 ?_) dx₂)) dx)
  exact wpAny_add_int (hQ _ _)
inductive ZsSrc (h₀ : Heap) (L : Addr) (m : Str → Option Value) (A : Around) (y : Str) (Q : Flow → Shared → Prop) (xv : Value) (s₁ : Shared) : Prop
  | mk (z TI TO i1 i2 l1 l2 : Addr) (us vs : List Value) (as bs : List Int) (news : List (Addr × Obj)) (ez : xv = .ref z) (hh : A.handled = none) (D : ZipApart z TI TO i1 i2 l1 l2)
    (st : IsZip s₁.heap z TI TO .none ∧ IsPair s₁.heap TI (.ref i1) (.ref i2) ∧ (∃ a b, IsPair s₁.heap TO a b) ∧ s₁.heap.IsListIter i1 l1 0 ∧ s₁.heap.IsListIter i2 l2 0 ∧ s₁.heap.IsList l1 us.toArray ∧ s₁.heap.IsList l2 vs.toArray)
    (fp : ∀ b ∈ [z, TI, TO, i1, i2, l1, l2], b < s₁.heap.objs.size) (hus : IntsAre us as) (hvs : IntsAre vs bs) (hsz : us.length ≤ sizeLine) (hL : L ∉ [z, TI, TO, i1, i2, l1, l2]) (hw : ∀ b ∈ [z, TO, i1, i2], h₀.get? b = none) (hn : ∀ p ∈ news, p.1 ∉ [z, TO, i1, i2])
    (F : Fr h₀ L s₁.heap m) (N : News h₀ L s₁.heap news)
    (fin : ∀ D h tk ys, IntsAre ys (List.zipWith (· + ·) as bs) → Fr h₀ L h (fun q => if q = y then some (.ref D) else m q) → News h₀ L h ((D, lst ys) :: news) → (∀ p ∈ news, p.1 < D) → Q .next { s₁ with heap := h, toks := tk }) :
    ZsSrc h₀ L m A y Q xv s₁
inductive ZsInv (h₀ : Heap) (L : Addr) (m : Str → Option Value) (s₁ : Shared) (us vs : List Value) (as bs : List Int) (z TI TO i1 i2 l1 l2 C : Addr) (news : List (Addr × Obj)) (k : Nat) (s' : Shared) : Prop
  | mk (h' : Heap) (tk i : Nat) (ys : List Value) (m' : Str → Option Value) (e : s' = { s₁ with heap := h', toks := tk }) (hi : i ≤ min us.toArray.size vs.toArray.size) (ek : k = min us.toArray.size vs.toArray.size + 1 - i)
    (st : IsZip h' z TI TO .none ∧ IsPair h' TI (.ref i1) (.ref i2) ∧ (∃ a b, IsPair h' TO a b) ∧ h'.IsListIter i1 l1 i ∧ h'.IsListIter i2 l2 i ∧ h'.IsList l1 us.toArray ∧ h'.IsList l2 vs.toArray)
    (hys : IntsAre ys ((List.zipWith (· + ·) as bs).take i)) (F : Fr h₀ L h' m) (n : h'.Ns C m') (N : News h₀ L h' ((s₁.heap.objs.size, lst ys) :: news)) : ZsInv h₀ L m s₁ us vs as bs z TI TO i1 i2 l1 l2 C news k s'
theorem zs_call {l1 l2 : Addr} {us vs : List Value} {as bs : List Int} {k1 k2 : Nat} {y : Str} {news : List (Addr × Obj)} {Q : Flow → Shared → Prop} (hh : A.handled = none) (F : Fr h₀ L s.heap m) (N : News h₀ L s.heap news)
    (m1 : (l1, W.listOf us.toArray k1) ∈ news) (m2 : (l2, W.listOf vs.toArray k2) ∈ news) (i1 : IntsAre us as) (i2 : IntsAre vs bs) (hsz : us.length ≤ sizeLine)
    (h : ∀ D h tk ys, IntsAre ys (List.zipWith (· + ·) as bs) → Fr h₀ L h (fun q => if q = y then some (.ref D) else m q) → News h₀ L h ((D, lst ys) :: news) → (∀ p ∈ news, p.1 < D) → Q .next { s with heap := h, toks := tk }) :
    wpAny (model prog w) A (call (.type "zip") [.ref l1, .ref l2]) (ZsSrc h₀ L m A y Q) E s := by
  have hl1 : s.heap.IsList l1 us.toArray := ⟨_, (N _ m1).1, rfl, _, rfl⟩
  have hl2 : s.heap.IsList l2 vs.toArray := ⟨_, (N _ m2).1, rfl, _, rfl⟩
  have a1 : l1 < s.heap.objs.size := Heap.lt_size (N _ m1).1
  have a2 : l2 < s.heap.objs.size := Heap.lt_size (N _ m2).1
  have hLs : L < s.heap.objs.size := F.ns.lt
  refine call_zip_2 hl1 hl2 fun h' hz hTI hTO hit1 hit2 hsz' hk => ?_
  have nw : ∀ k, h₀.get? (s.heap.objs.size + k) = none := fun k => Heap.get?_none_of_le (Nat.le_trans F.above (Nat.le_trans (Nat.le_of_lt hLs) (Nat.le_add_right _ k)))
  refine ⟨_, _, _, _, _, l1, l2, us, vs, as, bs, news, rfl, hh, zipApart_new a1 a2, ⟨hz, hTI, ⟨_, _, hTO⟩, hit1, hit2, hl1.at fun o e => hk l1 o e, hl2.at fun o e => hk l2 o e⟩, ?_, i1, i2, hsz, ?_, ?_, ?_,
    F.keeps hk, fun p hp => ⟨hk _ _ (N p hp).1, (N p hp).2⟩, fun D g tk ys a b c d => h D g tk ys a b c d⟩
  · intro b hb
    simp only [List.mem_cons, List.not_mem_nil, or_false] at hb
    show @LT.lt Nat _ b h'.objs.size
    rw [hsz']
    rcases hb with rfl | rfl | rfl | rfl | rfl | rfl | rfl
    · exact Nat.add_lt_add_left (by decide) _
    · exact Nat.add_lt_add_left (by decide) _
    · exact Nat.add_lt_add_left (by decide) _
    · exact Nat.lt_add_of_pos_right (by decide)
    · exact Nat.add_lt_add_left (by decide) _
    · exact Nat.lt_of_lt_of_le a1 (Nat.le_add_right _ _)
    · exact Nat.lt_of_lt_of_le a2 (Nat.le_add_right _ _)
  · intro hm
    simp only [List.mem_cons, List.not_mem_nil, or_false] at hm
    have up : ∀ k, L ≠ s.heap.objs.size + k := fun k e => Nat.ne_of_lt (Nat.lt_of_lt_of_le hLs (Nat.le_add_right _ k)) e
    rcases hm with e | e | e | e | e | e | e
    · exact up 4 e
    · exact up 2 e
    · exact up 3 e
    · exact up 0 e
    · exact up 1 e
    · exact (N _ m1).2.1 e.symm
    · exact (N _ m2).2.1 e.symm
  · intro b hb
    simp only [List.mem_cons, List.not_mem_nil, or_false] at hb
    rcases hb with rfl | rfl | rfl | rfl
    · exact nw 4
    · exact nw 3
    · exact nw 0
    · exact nw 1
  · intro p hp hm
    have hq1 : p.1 < s.heap.objs.size := Heap.lt_size (N p hp).1
    simp only [List.mem_cons, List.not_mem_nil, or_false] at hm
    have dn : ∀ k, p.1 ≠ s.heap.objs.size + k := fun k e => Nat.ne_of_lt (Nat.lt_of_lt_of_le hq1 (Nat.le_add_right _ k)) e
    rcases hm with e | e | e | e
    · exact dn 4 e
    · exact dn 3 e
    · exact dn 0 e
    · exact dn 1 e
theorem ints_get {us : List Value} {as : List Int} (h : IntsAre us as) : ∀ (i : Nat) (x : Value), us[i]? = some x → ∃ a t, as[i]? = some a ∧ x = .int a t := by
  induction h with
  | nil => intro i x e; simp at e
  | cons n t h ih =>
    intro i x e
    cases i with
    | zero => simp at e; exact ⟨n, t, rfl, e.symm⟩
    | succ i => exact ih i x (by simpa using e)
theorem Assign_zs {x x₂ y : Str} {p1 p2 p3 px px₂ tp py : Pos} {tk} {iter : PySem.Expr} {scope : Scope} {cl : List (Str × Addr)} {pos spos : Pos} {Q : Flow → Shared → Prop} (_F₀ : Fr h₀ L s.heap m) (hLe : env.locals = L)
    (hsw : swapsWith (.ListComp (.BinOp (.Name x p1) .Add (.Name x₂ p2) p3) [⟨.Tuple [.Name x px, .Name x₂ px₂] tk tp, iter, [], 0⟩] scope pos) (some (.Name y py)) spos.line env = pure true)
    (hclos : closureFor scope env = pure cl) (hcell : ∀ z ∈ scope.names, z.2 ≠ .cell) (hkind : scope.kind = .function)
    (hnames : ∀ z ∈ scope.names, z.2 = .local → scope.names.lookup z.1 = some .local) (hx : scope.names.lookup x = some .local) (hx₂ : scope.names.lookup x₂ = some .local) (hxx : x ≠ x₂)
    (dx : (x == ("__debug__" : Str)) = false) (dx₂ : (x₂ == ("__debug__" : Str)) = false)
    (hy : env.kindOf y = some .local) (hp : (env.scope.kind == .class || (env.scope.kind == .module && env.locals != env.globals)) = false)
    (h : wpAny (model prog w) A (eval iter env) (ZsSrc h₀ L m A y Q) E s)
    (hs : ∀ x, foldedSetIterable iter env x = pure x := by intro _; rfl) :
    wpAny (model prog w) A (exec (.Assign [.Name y py] (.ListComp (.BinOp (.Name x p1) .Add (.Name x₂ p2) p3) [⟨.Tuple [.Name x px, .Name x₂ px₂] tk tp, iter, [], 0⟩] scope pos) spos) env) Q E s := by
  subst hLe
  rw [exec_Assign_Name_used _ _ _ _ hsw]
  refine wpAny_bind (wpAny_standAt (wpAny_bind ?_))
  show wpAny _ A (do let _ ← comprehension (.ListComp (.BinOp (.Name x p1) .Add (.Name x₂ p2) p3) [⟨.Tuple [.Name x px, .Name x₂ px₂] tk tp, iter, [], 0⟩] scope pos) scope env _ (newList []) false (eval iter env) (some (assign (.Name y py) env))) _ _ s
  refine wpAny_bind (wpAny_mono (wpAny_comprehension_free (use := some (assign (.Name y py) env)) (Q := fun _ s' => Q .next s') rfl hs hclos hkind hnames
    (wpAny_mono h (fun xv s₁ h₁ => ?_) fun _ _ e => e)) (fun _ s' hq => wpAny_pure (wpAny_pure hq)) fun _ _ e => e)
  obtain ⟨z, TI, TO, i1, i2, l1, l2, us, vs, as, bs, news, rfl, hh, D, hst, hfp, hus, hvs, hsz, hLf, hwr, hnw, F, N, fin⟩ := h₁
  have W := (WalksT.zip2 (prog := prog) (w := w) hh z TI TO i1 i2 l1 l2 D us.toArray vs.toArray).toU
  refine W.self 0 _ _ _ hst ?_
  refine wpAny_newObj_type (wpAny_newFunctionEnv hcell (by intro y hy; simp at hy) (fun h₁ hns₁ hsb₁ => ?_) hkind)
  dsimp only at hns₁ hsb₁ ⊢
  generalize hH2 : s₁.heap.push { cls := .type "list", dict := none, data := .seq ([] : List Value).toArray } = H2 at hns₁ hsb₁ ⊢
  have hC : H2.objs.size = s₁.heap.objs.size + 1 := by rw [← hH2, Heap.size_push]
  have hDC : s₁.heap.objs.size ≠ H2.objs.size := by rw [hC]; exact Nat.ne_of_lt (Nat.lt_succ_self _)
  have below : ∀ b, b < s₁.heap.objs.size → b ≠ H2.objs.size ∧ b ≠ s₁.heap.objs.size := fun b hb => ⟨by rw [hC]; exact Nat.ne_of_lt (Nat.lt_succ_of_lt hb), Nat.ne_of_lt hb⟩
  have old : ∀ b o, s₁.heap.get? b = some o → h₁.get? b = some o := fun b o e => hsb₁.extBut b o (below b (Heap.lt_size e)).1 (Heap.get?_push_of_some _ (hH2 ▸ Heap.get?_push_of_some _ e))
  have hacc : h₁.get? s₁.heap.objs.size = some (lst []) := hsb₁.extBut _ _ hDC (Heap.get?_push_of_some _ (hH2 ▸ Heap.get?_push_size _ rfl))
  have hst₁ := W.frame _ _ h₁ hst fun b _ o e => old b o e
  have fresh : ∀ a, s₁.heap.objs.size ≤ a → s₁.heap.get? a = none := fun a ha => by
    cases e : s₁.heap.get? a with
    | none => rfl
    | some o' => exact absurd (Heap.lt_size e) (Nat.not_lt.mpr ha)
  have fresh₀ : ∀ a, s₁.heap.objs.size ≤ a → h₀.get? a = none := fun a ha => by
    cases e : h₀.get? a with
    | none => rfl
    | some o' => have := F.keep a o' e; rw [fresh a ha] at this; cases this
  have hD₀ : h₀.get? s₁.heap.objs.size = none := fresh₀ _ (Nat.le_refl _)
  have hC₀ : h₀.get? H2.objs.size = none := fresh₀ _ (by rw [hC]; exact Nat.le_succ _)
  have hLlt : env.locals < s₁.heap.objs.size := F.ns.lt
  have hDL : s₁.heap.objs.size ≠ env.locals := Ne.symm (below _ hLlt).2
  have hCL : H2.objs.size ≠ env.locals := Ne.symm (below _ hLlt).1
  have hwrlt : ∀ b ∈ [z, TO, i1, i2], b < s₁.heap.objs.size := fun b hb => hfp b (W.sub b hb)
  have hDw : s₁.heap.objs.size ∉ [z, TO, i1, i2] := fun hm => Nat.lt_irrefl _ (hwrlt _ hm)
  have hCw : H2.objs.size ∉ [z, TO, i1, i2] := fun hm => by have := hwrlt _ hm; rw [hC] at this; exact Nat.lt_irrefl _ (Nat.lt_of_succ_lt this)
  have hDf : s₁.heap.objs.size ∉ [z, TI, TO, i1, i2, l1, l2] := fun hm => Nat.lt_irrefl _ (hfp _ hm)
  have hCf : H2.objs.size ∉ [z, TI, TO, i1, i2, l1, l2] := fun hm => by have := hfp _ hm; rw [hC] at this; exact Nat.lt_irrefl _ (Nat.lt_of_succ_lt this)
  have hLw : env.locals ∉ [z, TO, i1, i2] := fun hm => hLf (W.sub _ hm)
  have hnD : ∀ p ∈ news, p.1 ≠ s₁.heap.objs.size := fun p hp => Nat.ne_of_lt (Heap.lt_size (N p hp).1)
  have hnC : ∀ p ∈ news, p.1 ≠ H2.objs.size := fun p hp => (below _ (Heap.lt_size (N p hp).1)).1
  have loop : ∀ s₃ : Shared, s₃ = { s₁ with heap := h₁, toks := s₁.toks + ([] : List (Str × Value)).length } →
      codeAny (model prog w) A (.compLoop (.ListComp (.BinOp (.Name x p1) .Add (.Name x₂ p2) p3) [⟨.Tuple [.Name x px, .Name x₂ px₂] tk tp, iter, [], 0⟩] scope pos) 0 (.ref z) (.ref s₁.heap.objs.size) (compEnvC scope cl H2.objs.size env))
        (compPost (model prog w) A E (some (assign (.Name y py) env)) (fun _ s' => Q .next s') (.ref s₁.heap.objs.size) H2.objs.size) s₃ := by
    rintro s₃ rfl
    refine codeAny_compLoop_pair
      (ZsInv h₀ env.locals m s₁ us vs as bs z TI TO i1 i2 l1 l2 H2.objs.size news) ?_ (min us.toArray.size vs.toArray.size + 1)
      ⟨h₁, _, 0, [], _, rfl, Nat.zero_le _, rfl, hst₁, .nil, F.keeps old, hns₁, fun p hp => ?_⟩
    · rintro k s' ⟨h', tk, i, ys, m', rfl, hi, rfl, hst', hys, F', hn', N'⟩
      by_cases hlt : i < min us.toArray.size vs.toArray.size
      · refine W.item i _ _ _ hlt hst' fun T vals h₂ tk₂ hPv hT₂ hM₂ hk₂ => ?_
        obtain ⟨u, v, hu, hv, rfl⟩ := hPv
        obtain ⟨a, ta, ha, rfl⟩ := ints_get hus i u (by simpa using hu)
        obtain ⟨b, tb, hb, rfl⟩ := ints_get hvs i v (by simpa using hv)
        have hTw := W.apart _ _ _ hM₂
        refine W.go _ _ _ i T _ _ _ hM₂ fun h₃ hst₃ hk₃ => ?_
        have hT₃ : h₃.IsTuple T #[.int a ta, .int b tb] := hT₂.at fun o e => hk₃ _ _ hTw e
        refine assign_Tuple_tuple hh hT₃ rfl rfl fun h₅ he => ?_
        have he' : ∀ c o, h₃.get? c = some o → h₅.get? c = some o := fun c o e => he c o (Nat.ne_of_lt (Heap.lt_size e)) e
        have step : ∀ c o, c ∉ [z, TO, i1, i2] → h'.get? c = some o → h₅.get? c = some o := fun c o hc e => he' _ _ (hk₃ _ _ hc (hk₂ _ _ hc e))
        refine assignInOrder_cons (wpAny_assign_Name (wpAny_storeName_local (lookup_relabel_local hx) (hn'.at' fun o e => step _ o hCw e) (fun h₆ hn₆ hs₆ => ?_) (by simp [compEnvC, relabel, hkind])))
        refine assignInOrder_cons (wpAny_assign_Name (wpAny_storeName_local (lookup_relabel_local hx₂) hn₆ (fun h₇ hn₇ hs₇ => ?_) (by simp [compEnvC, relabel, hkind])))
        refine assignInOrder_nil ?_
        refine zs_elt (a := a) (b := b) (ta := ta) (tb := tb) hkind hx hx₂ dx dx₂ hn₇ (by simp [hxx]) (by simp) fun t tk₃ => ?_
        have old3 : ∀ c o, c ∉ [z, TO, i1, i2] → c ≠ H2.objs.size → h'.get? c = some o → h₇.get? c = some o := fun c o hc hb e => hs₇.extBut c o hb (hs₆.extBut c o hb (step c o hc e))
        have zD : h₇.get? s₁.heap.objs.size = some (lst ys) := old3 _ _ hDw hDC (N' _ List.mem_cons_self).1
        have hyl : ys.length ≤ sizeLine := by
          have := hys.length
          rw [List.length_take] at this
          have : ys.length ≤ i := by omega +splitDisjunctions
          have h2 : i < us.toArray.size := Nat.lt_of_lt_of_le hlt (Nat.min_le_left ..)
          rw [List.size_toArray] at h2
          omega +splitDisjunctions
        refine append_at (hsz := by show ys.toArray.size ≤ sizeLine; rw [List.size_toArray]; exact hyl) zD fun h₈ hs₈ hD₈ => ?_
        have fin3 : ∀ c o, c ∉ [z, TO, i1, i2] → c ≠ H2.objs.size → c ≠ s₁.heap.objs.size → h'.get? c = some o → h₈.get? c = some o := fun c o hc hb hd e => hs₈.extBut c o hd (old3 c o hc hb e)
        have hz : (List.zipWith (· + ·) as bs)[i]? = some (a + b) := by rw [List.getElem?_zipWith]; simp [ha, hb]
        refine ⟨_, by omega +splitDisjunctions, h₈, tk₃, i + 1, ys ++ [.int (a + b) t], _, rfl, hlt, rfl, W.frame _ _ _ (W.frame _ _ _ hst₃ fun c hc o e => he' _ _ e) fun c hc o e => ?_, ?_, ?_, hn₇.sameBut hs₈ (Ne.symm hDC), fun p hp => ?_⟩
        · exact hs₈.extBut _ _ (fun q => hDf (q ▸ hc)) (hs₇.extBut _ _ (fun q => hCf ((show c = H2.objs.size from q) ▸ hc)) (hs₆.extBut _ _ (fun q => hCf ((show c = H2.objs.size from q) ▸ hc)) e))
        · rw [List.take_succ, hz]
          exact hys.append (.cons _ _ .nil)
        · refine ⟨F'.ns.at' fun o e => fin3 _ _ hLw (Ne.symm hCL) (Ne.symm hDL) e, fun c o e => ?_, F'.above⟩
          refine fin3 c o (fun hm => by rw [hwr c hm] at e; cases e) (fun q => by rw [q, hC₀] at e; cases e) (fun q => by rw [q, hD₀] at e; cases e) (F'.keep c o e)
        · rcases List.mem_cons.mp hp with rfl | hp
          · exact ⟨hD₈.trans (congrArg some (lst_snoc ys _)), hDL, hD₀⟩
          · exact ⟨fin3 _ _ (hnw p hp) (hnC p hp) (hnD p hp) (N' _ (List.mem_cons_of_mem _ hp)).1, (N p hp).2⟩
      · obtain rfl : i = min us.toArray.size vs.toArray.size := Nat.le_antisymm hi (Nat.not_lt.mp hlt)
        refine W.done _ _ _ hst' fun h₂ tk₂ hk₂ => ?_
        have hys' : IntsAre ys (List.zipWith (· + ·) as bs) := by
          rw [List.take_of_length_le (by rw [List.length_zipWith, ← hus.length, ← hvs.length]; simp)] at hys
          exact hys
        have F₂ : Fr h₀ env.locals h₂ m := ⟨F'.ns.at' fun o e => hk₂ _ _ hLw e, fun c o e => hk₂ c o (fun hm => by rw [hwr c hm] at e; cases e) (F'.keep c o e), F'.above⟩
        show wpAny _ A (assign (.Name y py) env (.ref s₁.heap.objs.size)) _ _ _
        refine wpAny_assign_Name (wpAny_storeName_local hy F₂.ns (fun h₃ hn₃ hs₃ => ?_) hp)
        have hL₀ : h₀.get? env.locals = none := Heap.get?_none_of_le F'.above
        have F₃ : Fr h₀ env.locals h₃ (fun z => if z = y then some (.ref s₁.heap.objs.size) else m z) := ⟨hn₃, fun b o e => hs₃.extBut b o (fun q => by rw [q, hL₀] at e; cases e) (F₂.keep b o e), F₂.above⟩
        refine ⟨m', (hn'.at' fun o e => hk₂ _ _ hCw e).sameBut hs₃ hCL, fun h'' hs'' => fin _ h'' _ ys hys' (F₃.change hs'' hCL hC₀) (fun p hp => ?_) (fun p hp => Heap.lt_size (N p hp).1)⟩
        rcases List.mem_cons.mp hp with rfl | hp
        · exact ⟨hs''.extBut _ _ hDC (hs₃.extBut _ _ hDL (hk₂ _ _ hDw (N' _ List.mem_cons_self).1)), hDL, hD₀⟩
        · exact ⟨hs''.extBut _ _ (hnC p hp) (hs₃.extBut _ _ (N p hp).2.1 (hk₂ _ _ (hnw p hp) (N' _ (List.mem_cons_of_mem _ hp)).1)), (N p hp).2⟩
    · rcases List.mem_cons.mp hp with rfl | hp
      · exact ⟨hacc, hDL, hD₀⟩
      · exact ⟨old _ _ (N p hp).1, (N p hp).2⟩
  exact codeAny_compStart_list (loop _ rfl) (W.self 0 _ _ _ hst₁ (loop _ rfl))
theorem ints_cons {ys : List Value} {a : Int} {as : List Int} (h : IntsAre ys (a :: as)) : ∃ t l, ys = .int a t :: l ∧ IntsAre l as := by
  cases h with | cons _ t h => exact ⟨t, _, rfl, h⟩
theorem ints_nil {ys : List Value} (h : IntsAre ys []) : ys = [] := by cases h; rfl
theorem five_ints {ys : List Value} {a b c d e : Int} (h : IntsAre ys [a, b, c, d, e]) : ∃ t1 t2 t3 t4 t5, ys = [.int a t1, .int b t2, .int c t3, .int d t4, .int e t5] := by
  obtain ⟨t1, _, rfl, h1⟩ := ints_cons h
  obtain ⟨t2, _, rfl, h2⟩ := ints_cons h1
  obtain ⟨t3, _, rfl, h3⟩ := ints_cons h2
  obtain ⟨t4, _, rfl, h4⟩ := ints_cons h3
  obtain ⟨t5, _, rfl, h5⟩ := ints_cons h4
  obtain rfl := ints_nil h5
  exact ⟨_, _, _, _, _, rfl⟩
end Zs
end
section
open PySem PySem.W PyProof.Rows
set_option Elab.async false
set_option maxRecDepth 100000
set_option maxHeartbeats 8000000
noncomputable def rxLit : Array Nat := #[14, 4, 0, 1, 6, 6, 0, 23, 14, 0, 1, 17, 0, 13, 6, 16, 45, 16, 43, 0, 17, 1, 18, 17, 2, 13, 4, 8, 0, 0, 24, 9, 0, 1, 13, 4, 8, 0, 0, 1, 17, 3, 24, 6, 0, 1, 16, 58, 1, 23, 17, 0, 1, 17, 4, 13, 4, 8, 0, 0, 13, 4, 8, 0, 0, 17, 5, 18, 6, 5, 1]
theorem rxCode_lit : rxCode = rxLit := by kernel_rfl
end
section
open PySem PySem.W PyProof.Rows
set_option Elab.async false
set_option maxRecDepth 100000
set_option maxHeartbeats 8000000
noncomputable def inG (s : Sre.Seen) (b1 b2 : Bool) : Except String (Bool × Sre.Seen) := if b1 = true then Except.ok (true, s.add 16) else if b2 = true then Except.ok (true, (s.add 16).add 16) else Except.ok (false, ((s.add 16).add 16).add 0)
theorem in13 (c : Nat) (seen : Sre.Seen) : Sre.accepts rxLit 13 c seen = inG seen (c == 45) (c == 43) := rfl
theorem cat0 {c : Nat} (h : Sre.isDigit c = true) : Sre.category 0 c = .ok true := by
  unfold Sre.category
  rw [h]; rfl
theorem in25 {c : Nat} {seen : Sre.Seen} (h : Sre.isDigit c = true) (h48 : Sre.isDigit 48 = true) : Sre.accepts rxLit 25 c seen = Sre.accepts rxLit 25 48 seen := by
  show (do if ← Sre.category 0 c then pure (true, (seen.add 8).add (55 + 0)) else Sre.inSet rxLit c _ _ true ((seen.add 8).add (55 + 0))) = (do if ← Sre.category 0 48 then pure (true, (seen.add 8).add (55 + 0)) else Sre.inSet rxLit 48 _ _ true ((seen.add 8).add (55 + 0)))
  rw [cat0 h, cat0 h48]
  rfl
theorem in34 (c : Nat) (seen : Sre.Seen) : Sre.accepts rxLit 34 c seen = Sre.accepts rxLit 25 c seen := rfl
theorem in55 (c : Nat) (seen : Sre.Seen) : Sre.accepts rxLit 55 c seen = Sre.accepts rxLit 25 c seen := rfl
theorem in60 (c : Nat) (seen : Sre.Seen) : Sre.accepts rxLit 60 c seen = Sre.accepts rxLit 25 c seen := rfl
theorem in15 (c : Nat) (seen : Sre.Seen) : Sre.accepts rxLit 15 c seen = .ok (c == 45, seen) := rfl
theorem in17 (c : Nat) (seen : Sre.Seen) : Sre.accepts rxLit 17 c seen = .ok (c == 43, seen) := rfl
theorem in46 (c : Nat) (seen : Sre.Seen) : Sre.accepts rxLit 46 c seen = .ok (c == 58, seen) := rfl
theorem in24 (c : Nat) (seen : Sre.Seen) : Sre.accepts rxLit 24 c seen = .ok (c != 10, seen) := rfl
theorem acc_dig {c : Nat} {seen : Sre.Seen} (h0 : 48 ≤ c) (h1 : c ≤ 57) : ∀ i, i < 71 → Sre.accepts rxLit i c seen = Sre.accepts rxLit i 48 seen := by
  have h : Sre.isDigit c = true := by unfold Sre.isDigit; simp [h0, h1]
  have h48 : Sre.isDigit 48 = true := by decide
  have e45 : (c == 45) = false := by simp; (first | exact om337 h0 | omega +splitDisjunctions)
  have e43 : (c == 43) = false := by simp; (first | exact om336 h0 | omega +splitDisjunctions)
  have e58 : (c == 58) = false := by simp; (first | exact om335 h1 | omega +splitDisjunctions)
  have e10 : (c != 10) = true := by simp; (first | exact om334 h0 | omega +splitDisjunctions)
  intro i hi
  match i, hi with
  | 0, _ => rfl
  | 1, _ => rfl
  | 2, _ => rfl
  | 3, _ => rfl
  | 4, _ => rfl
  | 5, _ => rfl
  | 6, _ => rfl
  | 7, _ => rfl
  | 8, _ => rfl
  | 9, _ => rfl
  | 10, _ => rfl
  | 11, _ => rfl
  | 12, _ => rfl
  | 13, _ => rw [in13, in13, e45, e43]; rfl
  | 14, _ => rfl
  | 15, _ => rw [in15, in15, e45]; rfl
  | 16, _ => rfl
  | 17, _ => rw [in17, in17, e43]; rfl
  | 18, _ => rfl
  | 19, _ => rfl
  | 20, _ => rfl
  | 21, _ => rfl
  | 22, _ => rfl
  | 23, _ => rfl
  | 24, _ => rw [in24, in24, e10]; rfl
  | 25, _ => exact in25 h h48
  | 26, _ => rfl
  | 27, _ => rfl
  | 28, _ => rfl
  | 29, _ => rfl
  | 30, _ => rfl
  | 31, _ => rfl
  | 32, _ => rfl
  | 33, _ => rfl
  | 34, _ => rw [in34, in34]; exact in25 h h48
  | 35, _ => rfl
  | 36, _ => rfl
  | 37, _ => rfl
  | 38, _ => rfl
  | 39, _ => rfl
  | 40, _ => rfl
  | 41, _ => rfl
  | 42, _ => rfl
  | 43, _ => rfl
  | 44, _ => rfl
  | 45, _ => rfl
  | 46, _ => rw [in46, in46, e58]; rfl
  | 47, _ => rfl
  | 48, _ => rfl
  | 49, _ => rfl
  | 50, _ => rfl
  | 51, _ => rfl
  | 52, _ => rfl
  | 53, _ => rfl
  | 54, _ => rfl
  | 55, _ => rw [in55, in55]; exact in25 h h48
  | 56, _ => rfl
  | 57, _ => rfl
  | 58, _ => rfl
  | 59, _ => rfl
  | 60, _ => rw [in60, in60]; exact in25 h h48
  | 61, _ => rfl
  | 62, _ => rfl
  | 63, _ => rfl
  | 64, _ => rfl
  | 65, _ => rfl
  | 66, _ => rfl
  | 67, _ => rfl
  | 68, _ => rfl
  | 69, _ => rfl
  | 70, _ => rfl
  | i + 71, hi => omega +splitDisjunctions
end
section
open PySem PySem.W PyProof.Rows
set_option Elab.async false
set_option maxRecDepth 100000
set_option maxHeartbeats 8000000
noncomputable def zc (c : Nat) : Nat := if 48 ≤ c ∧ c ≤ 57 then 48 else c
noncomputable def Zt (T T0 : Array Nat) : Prop := ∀ i, T0.getD i 0 = zc (T.getD i 0)
theorem acc_out {c : Nat} {seen : Sre.Seen} {i : Nat} (h : 71 ≤ i) : Sre.accepts rxLit i c seen = .error "code:not-one-character" := by
  have e : rxLit.getD i 0 = 0 := by
    rw [Array.getD_eq_getD_getElem?, Array.getElem?_eq_none (by exact h)]; rfl
  unfold Sre.accepts
  rw [e]; rfl
theorem acc_z {T T0 : Array Nat} (hT : Zt T T0) (i p : Nat) (seen : Sre.Seen) : Sre.accepts rxLit i (T.getD p 0) seen = Sre.accepts rxLit i (T0.getD p 0) seen := by
  rw [hT p]
  unfold zc
  split
  · rename_i h
    rcases Nat.lt_or_ge i 71 with hi | hi
    · exact acc_dig h.1 h.2 i hi
    · rw [acc_out hi, acc_out hi]
  · rfl
theorem run_z {T T0 : Array Nat} (hT : Zt T T0) (i : Nat) : ∀ (n p found : Nat) (seen : Sre.Seen), Sre.run rxLit T i n p found seen = Sre.run rxLit T0 i n p found seen
  | 0, _, _, _ => rfl
  | n + 1, p, found, seen => by
    unfold Sre.run
    rw [acc_z hT]
    congr 1
    funext r
    obtain ⟨yes, seen'⟩ := r
    cases yes
    · rfl
    · exact run_z hT i n (p + 1) (found + 1) seen'
theorem pr_z {T T0 : Array Nat} (hT : Zt T T0) (f : Nat → Bool) (hf : ∀ k : Nat, k < 10 → f (48 + k) = f 48) (p : Nat) : f (T.getD p 0) = f (T0.getD p 0) := by
  rw [hT p]
  unfold zc
  split
  · rename_i h
    have := hf (T.getD p 0 - 48) (by omega +splitDisjunctions)
    rwa [show 48 + (T.getD p 0 - 48) = T.getD p 0 by omega +splitDisjunctions] at this
  · rfl
theorem at_z {T T0 : Array Nat} (hT : Zt T T0) (m : Sre.M) (k : Nat) : Sre.M.isAt { m with text := T } k = Sre.M.isAt { m with text := T0 } k := by
  have h10 : ∀ p, (T.getD p 0 == 10) = (T0.getD p 0 == 10) := fun p => pr_z hT (· == 10) (by decide) p
  have hW : ∀ p, Sre.isWord (T.getD p 0) = Sre.isWord (T0.getD p 0) := fun p => pr_z hT Sre.isWord (by decide) p
  have hU : ∀ p, Sre.isWordUni (T.getD p 0) = Sre.isWordUni (T0.getD p 0) := fun p => pr_z hT Sre.isWordUni (by decide +kernel) p
  unfold Sre.M.isAt
  dsimp only
  simp -iota only [h10, hW, hU]
noncomputable abbrev wt (m : Sre.M) (T : Array Nat) : Sre.M := { m with text := T }
theorem ite_wt {c : Prop} [Decidable c] {x y a b : Sre.M} {T : Array Nat} (h1 : x = wt a T) (h2 : y = wt b T) : (if c then x else y) = wt (if c then a else b) T := by split <;> assumption
theorem attempt_wt (m : Sre.M) (T : Array Nat) (f : Sre.Frame) (a b : Nat) (o : Bool) : (wt m T).attempt f a b o = wt (m.attempt f a b o) T := by
  unfold Sre.M.attempt; dsimp only; split <;> rfl
theorem afterRun_wt (m : Sre.M) (T : Array Nat) (w : Sre.Wait) (c : Int) (k : Sre.Kept) : (wt m T).afterRun w c k = wt (m.afterRun w c k) T := attempt_wt m T _ _ _ _
theorem afterLoop_wt (m : Sre.M) (T : Array Nat) (w : Sre.Wait) (i : Nat) (c : Int) (f : Option Nat → Bool) : (wt m T).afterLoop w i c f = wt (m.afterLoop w i c f) T := attempt_wt { m with inner := (m.loopAt i).outer } T _ _ _ _
theorem round_wt (m : Sre.M) (T : Array Nat) (w : Sre.Wait) (i : Nat) (c : Int) (g : Bool) (k : Sre.Kept) : (wt m T).round w i c g k = wt (m.round w i c g k) T := attempt_wt (m.setLoop i fun l => { l with count := c, began := if g then some m.pos else l.began }) T _ _ _ _
theorem until_wt (m : Sre.M) (T : Array Nat) (g : Bool) : (wt m T).until_ g = wt (m.until_ g) T := by
  unfold Sre.M.until_
  dsimp only
  cases m.inner with
  | none => rfl
  | some i =>
    dsimp only
    have e : (wt m T).loopAt i = m.loopAt i := rfl
    rw [e]
    split
    · exact round_wt m T _ _ _ _ _
    · split
      · exact afterLoop_wt m T _ _ _ _
      · split
        · exact round_wt m T _ _ _ _ _
        · exact afterLoop_wt m T _ _ _ _
noncomputable def opA : Option Sre.Op → Bool
  | none => true
  | some .FAILURE | some .SUCCESS | some .ANY | some .ANY_ALL | some .ASSERT | some .ASSERT_NOT | some .AT | some .CATEGORY | some .CHARSET | some .IN | some .INFO | some .LITERAL | some .MARK | some .MAX_UNTIL | some .REPEAT | some .REPEAT_ONE => true
  | _ => false
theorem lit_out {i : Nat} (h : 71 ≤ i) : rxLit.getD i 0 = 0 := by
  rw [Array.getD_eq_getD_getElem?, Array.getElem?_eq_none (by exact h)]; rfl
theorem opA_all (i : Nat) : opA (Sre.ops[rxLit.getD i 0]?) = true := by
  rcases Nat.lt_or_ge i 71 with hi | hi
  · have : ∀ i : Nat, i < 71 → opA (Sre.ops[rxLit.getD i 0]?) = true := by decide +kernel
    exact this i hi
  · rw [lit_out hi]; rfl
theorem exec_z {T T0 : Array Nat} (hT : Zt T T0) (m : Sre.M) (hc : m.code = rxLit) : Sre.M.exec { m with text := T } = { Sre.M.exec { m with text := T0 } with text := T } := by
  obtain ⟨code, text, lim, start, lastStart, wholeText, mustAdvance, pc, pos, handed, outermost, marks, lastmark, lastindex, loops, inner, frames, weight, answer, seen, outcome⟩ := m
  dsimp only at hc
  subst hc
  have hA := opA_all (pc + 0)
  have hat := fun k s => at_z hT { code := rxLit, text := T, lim := lim, start := start, lastStart := lastStart, wholeText := wholeText, mustAdvance := mustAdvance, pc := pc, pos := pos, handed := handed, outermost := outermost, marks := marks, lastmark := lastmark, lastindex := lastindex, loops := loops, inner := inner, frames := frames, weight := weight, answer := answer, seen := s, outcome := outcome } k
  unfold Sre.M.exec
  simp -iota only [Sre.M.word, acc_z hT, run_z hT]
  dsimp only at hat
  simp -iota only [hat]
  generalize Sre.ops[rxLit.getD (pc + 0) 0]? = oo at *
  cases oo with
  | none => rfl
  | some op =>
    cases op <;> first | exact absurd hA (by decide) | skip
    case ANY | ANY_ALL | LITERAL | IN =>
      dsimp only
      generalize Sre.accepts rxLit pc (T0.getD pos 0) _ = acc
      by_cases h : pos ≥ lim
      · simp only [if_pos h]; rfl
      · simp only [if_neg h]
        cases acc with
        | error e => rfl
        | ok r =>
          obtain ⟨yes, seen'⟩ := r
          cases yes <;> rfl
    case AT =>
      dsimp only
      generalize Sre.M.isAt _ _ = r
      cases r with
      | error e => rfl
      | ok y => cases y <;> rfl
    case MAX_UNTIL => exact until_wt (Sre.M.mk rxLit T0 lim start lastStart wholeText mustAdvance (pc + 1) pos handed outermost marks lastmark lastindex loops inner frames weight answer (seen.add (rxLit.getD (pc + 0) 0)) outcome) T true
    case REPEAT => exact attempt_wt (Sre.M.mk rxLit T0 lim start lastStart wholeText mustAdvance pc pos handed outermost marks lastmark lastindex (loops.push { pc := pc, outer := inner }) (some loops.size) frames weight answer (seen.add (rxLit.getD (pc + 0) 0)) outcome) T _ _ _ _
    case ASSERT | ASSERT_NOT =>
      refine ite_wt ?_ ?_
      · rfl
      · exact attempt_wt (Sre.M.mk rxLit T0 lim start lastStart wholeText mustAdvance pc pos handed outermost marks lastmark lastindex loops inner frames weight answer (seen.add (rxLit.getD (pc + 0) 0)) outcome) T _ _ _ _
    case REPEAT_ONE =>
      dsimp only
      refine ite_wt ?_ ?_
      · rfl
      · generalize Sre.run rxLit T0 (pc + 4) _ pos 0 _ = rr
        cases rr with
        | error e => rfl
        | ok q =>
          obtain ⟨n, seen'⟩ := q
          dsimp only
          refine ite_wt ?_ ?_
          · rfl
          · first
              | rfl
              | exact afterRun_wt (Sre.M.mk rxLit T0 lim start lastStart wholeText mustAdvance pc (pos + n) handed outermost marks lastmark lastindex loops inner frames weight answer seen' outcome) T _ _ _
    all_goals first
      | rfl
      | (dsimp only [Sre.M.say]; exact ite_wt rfl rfl)
end
section
open PySem PySem.W PyProof.Rows
set_option Elab.async false
set_option maxRecDepth 100000
set_option maxHeartbeats 8000000
noncomputable def okW : Sre.Wait → Bool
  | .nextStart | .giveBack | .closeLoop | .maxBelow | .maxMore | .maxTail => true
  | _ => false
theorem putBack_wt (m : Sre.M) (T : Array Nat) (k : Sre.Kept) : (wt m T).putBack k = wt (m.putBack k) T := rfl
theorem hasFirst_lit : (match Sre.ops[rxLit.getD 0 0]? with | some .INFO => true | _ => false) = true ∧ (rxLit.getD 2 0 == 4) = false := by decide
theorem attemptFrom_wt (m : Sre.M) (T : Array Nat) (hc : m.code = rxLit) (s : Nat) (b : Bool) : (wt m T).attemptFrom s b = wt (m.attemptFrom s b) T := by
  have e : m.hasFirstSet = false := by
    unfold Sre.M.hasFirstSet; rw [hc, hasFirst_lit.2, Bool.and_false]
  have e2 : (wt m T).hasFirstSet = false := by
    unfold Sre.M.hasFirstSet; dsimp only; rw [hc, hasFirst_lit.2, Bool.and_false]
  unfold Sre.M.attemptFrom
  rw [e, e2]
  exact attempt_wt { m with start := s, pos := s, lastmark := -1, lastindex := -1 } T _ _ _ _
theorem resume_wt (m : Sre.M) (T : Array Nat) (hc : m.code = rxLit) (f : Sre.Frame) (yes : Bool) (hw : okW f.wait = true) : Sre.M.resume (wt m T) f yes = wt (Sre.M.resume m f yes) T := by
  obtain ⟨wait, fpc, fpos, fo, count, kept, loop, began⟩ := f
  cases wait <;> try (cases hw)
  case nextStart =>
    refine ite_wt rfl (ite_wt ?_ rfl)
    exact attemptFrom_wt { m with mustAdvance := false } T hc _ _
  case giveBack =>
    refine ite_wt rfl (ite_wt rfl ?_)
    exact afterRun_wt { m.putBack kept with pos := fpos - 1 } T _ _ _
  case closeLoop => rfl
  case maxBelow =>
    exact ite_wt rfl rfl
  case maxMore =>
    refine ite_wt rfl ?_
    exact afterLoop_wt (((m.setLoop loop fun l => { l with began := began }).putBack kept).setLoop loop fun l => { l with count := count - 1 }) T _ _ _ _
  case maxTail => rfl
noncomputable def okS (m : Sre.M) : Bool := decide (m.code = rxLit) && (match m.frames with | [] => true | f :: _ => okW f.wait)
theorem step_z {T T0 : Array Nat} (hT : Zt T T0) (m : Sre.M) (ht : m.text = T0) (ok : okS m = true) : Sre.M.step (wt m T) = wt (Sre.M.step m) T := by
  unfold okS at ok
  simp only [Bool.and_eq_true, decide_eq_true_eq] at ok
  obtain ⟨hc, hf⟩ := ok
  unfold Sre.M.step
  dsimp only
  refine ite_wt rfl ?_
  cases ha : m.answer with
  | none =>
    dsimp only
    refine ite_wt ?_ rfl
    have h := exec_z hT m hc
    have e : ({ m with text := T0 } : Sre.M) = m := by rw [← ht]
    rw [e] at h
    exact h
  | some yes =>
    cases hfr : m.frames with
    | nil => rfl
    | cons f rest =>
      rw [hfr] at hf
      exact resume_wt { m with answer := none, frames := rest, weight := m.weight - (1 + f.kept.marks.size), pc := f.pc, pos := f.pos, outermost := f.outermost } T hc f yes hf
end
section
open PySem PySem.W PyProof.Rows
set_option Elab.async false
set_option maxRecDepth 100000
set_option maxHeartbeats 8000000
noncomputable def chkFor (T0 : Array Nat) : Nat → Sre.M → Bool
  | 0, _ => true
  | n + 1, m => if m.outcome.isSome then true else decide (m.text = T0) && okS m && chkFor T0 n m.step
theorem for_wt {T T0 : Array Nat} (hT : Zt T T0) : ∀ (n : Nat) (m : Sre.M), chkFor T0 n m = true → Sre.M.runFor n (wt m T) = wt (Sre.M.runFor n m) T
  | 0, _, _ => rfl
  | n + 1, m, h => by
    unfold chkFor at h
    unfold Sre.M.runFor
    dsimp only
    split at h
    · rename_i c
      rw [if_pos c, if_pos c]
    · rename_i c
      simp only [Bool.and_eq_true, decide_eq_true_eq] at h
      rw [if_neg c, if_neg c, step_z hT m h.1.1 h.1.2]
      exact for_wt hT n m.step h.2
noncomputable def rxRunsC (T0 : Array Nat) : Nat → Sre.M → Option Sre.M
  | 0, _ => none
  | k + 1, x => if chkFor T0 4 x then (if (x.runFor 4).outcome.isSome then some (x.runFor 4) else rxRunsC T0 k (x.runFor 4)) else none
theorem runs_wt {T T0 : Array Nat} (hT : Zt T T0) {y : Sre.M} : ∀ (k : Nat) (m : Sre.M), rxRunsC T0 k m = some y → rxRuns k (wt m T) = some (wt y T)
  | 0, _, h => by cases h
  | k + 1, m, h => by
    unfold rxRunsC at h
    unfold rxRuns
    split at h
    · rename_i c
      dsimp only
      rw [for_wt hT 4 m c]
      split at h
      · rename_i c2
        cases h
        exact if_pos c2
      · rename_i c2
        refine (if_neg c2).trans ?_
        exact runs_wt hT k _ h
    · cases h
noncomputable def chkShape (T0 : Array Nat) (a b c : List Int) : Bool := match rxRunsC T0 500 (Sre.forSearch rxLit T0 3 0 (rxLim T0) false) with
  | some y => (match y.outcome with | some .matched => true | _ => false) && rxIn y 0 && rxIn y 1 && rxIn y 2 && decide (rxSp y 0 = a) && decide (rxSp y 1 = b) && decide (rxSp y 2 = c)
  | none => false
theorem search_wt (T T0 : Array Nat) (n : Nat) : Sre.forSearch rxLit T 3 0 n false = wt (Sre.forSearch rxLit T0 3 0 n false) T := by
  unfold Sre.forSearch
  dsimp only
  refine ite_wt rfl (Eq.trans ?_ (attemptFrom_wt _ T ?_ 0 true))
  · rfl
  · rfl
theorem shape_got {x T0 : Array Nat} {a b c : List Int} (hT : Zt x T0) (hs : x.size = T0.size) (h : chkShape T0 a b c = true) :
    ∃ y, RxGot rxCode x y ∧ rxSp y 0 = a ∧ rxSp y 1 = b ∧ rxSp y 2 = c := by
  unfold chkShape at h
  cases hy : rxRunsC T0 500 (Sre.forSearch rxLit T0 3 0 (rxLim T0) false) with
  | none => rw [hy] at h; cases h
  | some y =>
    rw [hy] at h
    dsimp only at h
    simp -iota only [Bool.and_eq_true, decide_eq_true_eq] at h
    obtain ⟨⟨⟨⟨⟨⟨h1, h2⟩, h3⟩, h4⟩, h5⟩, h6⟩, h7⟩ := h
    refine ⟨wt y x, ⟨?_, ?_, ⟨h2, h3, h4⟩⟩, h5, h6, h7⟩
    · rw [rxCode_lit, search_wt x T0, show rxLim x = rxLim T0 by unfold rxLim; rw [hs]]
      exact runs_wt hT 500 _ hy
    · show y.outcome = _
      cases ho : y.outcome with
      | none => rw [ho] at h1; cases h1
      | some o => rw [ho] at h1; cases o <;> first | rfl | cases h1
theorem z_map {T T0 : List Nat} (h : T.map zc = T0) : Zt T.toArray T0.toArray := by
  subst h
  intro i
  rw [Array.getD_eq_getD_getElem?, Array.getD_eq_getD_getElem?, List.getElem?_toArray, List.getElem?_toArray, List.getElem?_map]
  cases T[i]? <;> rfl
noncomputable def spG (x : Str) (sp : List Int) : Option Str := match sp with | [b, e] => rxGroup x b e | _ => none
noncomputable def tzVal (x : Str) (v : Int) (a b c : List Int) : Bool := match spG x b, spG x c with
  | some hx, some mx => (match PySem.intText? hx, PySem.intText? mx with
    | some hh, some mm => decide (hx.length ≤ 100) && decide (mx.length ≤ 100) && decide (0 < mx.length) && decide (0 ≤ hh ∧ hh ≤ 1000) && decide (0 ≤ mm ∧ mm ≤ 1000) &&
      (match spG x a with
      | none => v == 3600 * hh + 60 * mm
      | some z => (decide (z = Str.ofString "+") && v == 3600 * hh + 60 * mm) || (decide (z = Str.ofString "-") && v == -(3600 * hh + 60 * mm)))
    | _, _ => false)
  | _, _ => false
structure Shp where
  T0 : List Nat
  a : List Int
  b : List Int
  c : List Int
noncomputable def tzVia (x : Str) (v : Int) (s : Shp) : Bool := decide (x.cps.toList.map zc = s.T0) && !tzKey x && decide (x.length ≤ 100) && tzVal x v s.a s.b s.c
theorem tzVia_is {x : Str} {v : Int} {s : Shp} (hs : chkShape s.T0.toArray s.a s.b s.c = true) (h : tzVia x v s = true) : TzIs x v := by
  unfold tzVia at h
  simp only [Bool.and_eq_true, decide_eq_true_eq, Bool.not_eq_true'] at h
  obtain ⟨⟨⟨hm, hk⟩, hl⟩, h⟩ := h
  have hZ := z_map hm
  obtain ⟨y, hy, s0, s1, s2⟩ := shape_got (x := x.cps) hZ (by have := congrArg List.length hm; simpa using this) hs
  have g1 : rxGrp x y 1 = spG x s.a := by rw [← s0]; rfl
  have g2 : rxGrp x y 2 = spG x s.b := by rw [← s1]; rfl
  have g3 : rxGrp x y 3 = spG x s.c := by rw [← s2]; rfl
  right
  unfold tzVal at h
  rw [← g1, ← g2, ← g3] at h
  cases e2 : rxGrp x y 2 with
  | none => rw [e2] at h; cases h
  | some hx =>
  cases e3 : rxGrp x y 3 with
  | none => rw [e2, e3] at h; cases h
  | some mx =>
  rw [e2, e3] at h
  dsimp only at h
  cases f2 : PySem.intText? hx with
  | none => rw [f2] at h; cases h
  | some hh =>
  cases f3 : PySem.intText? mx with
  | none => rw [f2, f3] at h; cases h
  | some mm =>
  rw [f2, f3] at h
  dsimp only at h
  simp -iota only [Bool.and_eq_true, decide_eq_true_eq] at h
  obtain ⟨⟨⟨⟨⟨a1, a2⟩, a3⟩, a4⟩, a5⟩, h⟩ := h
  refine ⟨y, hx, mx, hh, mm, hk, hy, hl, e2, e3, f2, f3, a1, a2, a3, a4, a5, ?_⟩
  cases g1 : rxGrp x y 1 with
  | none =>
    rw [g1] at h
    exact .inl ⟨.inl rfl, by simpa using h⟩
  | some z =>
    rw [g1] at h
    simp only [Bool.or_eq_true, Bool.and_eq_true, decide_eq_true_eq, beq_iff_eq] at h
    rcases h with ⟨rfl, hv⟩ | ⟨rfl, hv⟩
    · exact .inl ⟨.inr rfl, hv⟩
    · exact .inr ⟨rfl, hv⟩
end
section
open PySem PySem.W PyProof.Rows
set_option Elab.async false
set_option maxRecDepth 100000
set_option maxHeartbeats 8000000
noncomputable def shOk (s : Shp) : Bool := chkShape s.T0.toArray s.a s.b s.c
noncomputable def shF : Shp := ⟨[48, 48, 58, 48, 48], [-1, -1], [0, 2], [3, 5]⟩
noncomputable def sh1 : Shp := ⟨[48, 48, 48], [-1, -1], [0, 1], [1, 3]⟩
noncomputable def sh2 : Shp := ⟨[48, 48, 48, 48], [-1, -1], [0, 2], [2, 4]⟩
noncomputable def sh3 : Shp := ⟨[43, 48, 58, 48, 48], [0, 1], [1, 2], [3, 5]⟩
noncomputable def sh4 : Shp := ⟨[43, 48, 48, 58, 48, 48], [0, 1], [1, 3], [4, 6]⟩
noncomputable def sh5 : Shp := ⟨[45, 48, 58, 48, 48], [0, 1], [1, 2], [3, 5]⟩
noncomputable def sh6 : Shp := ⟨[45, 48, 48, 58, 48, 48], [0, 1], [1, 3], [4, 6]⟩
noncomputable def sh7 : Shp := ⟨[45, 48, 48, 48], [0, 1], [1, 2], [2, 4]⟩
noncomputable def sh8 : Shp := ⟨[45, 48, 48, 48, 48], [0, 1], [1, 3], [3, 5]⟩
theorem shF_ok : shOk shF = true := by decide +kernel
theorem sh1_ok : shOk sh1 = true := by decide +kernel
theorem sh2_ok : shOk sh2 = true := by decide +kernel
theorem sh3_ok : shOk sh3 = true := by decide +kernel
theorem sh4_ok : shOk sh4 = true := by decide +kernel
theorem sh5_ok : shOk sh5 = true := by decide +kernel
theorem sh6_ok : shOk sh6 = true := by decide +kernel
theorem sh7_ok : shOk sh7 = true := by decide +kernel
theorem sh8_ok : shOk sh8 = true := by decide +kernel
theorem all_F : ∀ k : Nat, k < 256 → tzVia (faceS (k : Int)) (900 * (k : Int)) shF = true := by decide +kernel
theorem all_0p : ∀ k : Nat, k < 256 → tzVia (zoneS (k : Int) 0) (900 * (k : Int)) sh4 = true := by decide +kernel
theorem all_0m : ∀ k : Nat, k < 255 → tzVia (zoneS (-((k : Int) + 1)) 0) (900 * (-((k : Int) + 1))) sh6 = true := by decide +kernel
theorem all_1pa : ∀ k : Nat, k < 40 → tzVia (zoneS (k : Int) 1) (900 * (k : Int)) sh3 = true := by decide +kernel
theorem all_1pb : ∀ k : Nat, k < 216 → tzVia (zoneS ((k : Int) + 40) 1) (900 * ((k : Int) + 40)) sh4 = true := by decide +kernel
theorem all_1ma : ∀ k : Nat, k < 39 → tzVia (zoneS (-((k : Int) + 1)) 1) (900 * (-((k : Int) + 1))) sh5 = true := by decide +kernel
theorem all_1mb : ∀ k : Nat, k < 216 → tzVia (zoneS (-((k : Int) + 40)) 1) (900 * (-((k : Int) + 40))) sh6 = true := by decide +kernel
theorem all_2p : ∀ k : Nat, k < 256 → tzVia (zoneS (k : Int) 2) (900 * (k : Int)) sh2 = true := by decide +kernel
theorem all_2m : ∀ k : Nat, k < 255 → tzVia (zoneS (-((k : Int) + 1)) 2) (900 * (-((k : Int) + 1))) sh8 = true := by decide +kernel
theorem all_3pa : ∀ k : Nat, k < 39 → tzVia (zoneS ((k : Int) + 1) 3) (900 * ((k : Int) + 1)) sh1 = true := by decide +kernel
theorem all_3pb : ∀ k : Nat, k < 216 → tzVia (zoneS ((k : Int) + 40) 3) (900 * ((k : Int) + 40)) sh2 = true := by decide +kernel
theorem all_3ma : ∀ k : Nat, k < 39 → tzVia (zoneS (-((k : Int) + 1)) 3) (900 * (-((k : Int) + 1))) sh7 = true := by decide +kernel
theorem all_3mb : ∀ k : Nat, k < 216 → tzVia (zoneS (-((k : Int) + 40)) 3) (900 * (-((k : Int) + 40))) sh8 = true := by decide +kernel
theorem tz_face {n : Int} (h0 : 0 ≤ n) (h1 : n ≤ 255) : TzIs (faceS n) (900 * n) := by
  obtain ⟨k, rfl⟩ := Int.eq_ofNat_of_zero_le h0
  exact tzVia_is shF_ok (all_F k (by (first | exact om342 h1 | omega +splitDisjunctions)))
theorem tz_zone {n d : Int} (h0 : -255 ≤ n) (h1 : n ≤ 255) (h2 : 0 ≤ d) (h3 : d ≤ 3) : TzIs (zoneS n d) (900 * n) := by
  have hd : d = 0 ∨ d = 1 ∨ d = 2 ∨ d = 3 := by (first | exact om355 h2 h3 | omega +splitDisjunctions)
  have hc : n = 0 ∨ (1 ≤ n ∧ n < 40) ∨ 40 ≤ n ∨ (-40 < n ∧ n < 0) ∨ n ≤ -40 := by (first | exact om354 | omega +splitDisjunctions)
  have p0 : 0 ≤ n → ∃ k : Nat, n = (k : Int) := fun h => ⟨n.toNat, by (first | exact om353 h | omega +splitDisjunctions)⟩
  have p1 : 1 ≤ n → ∃ k : Nat, n = (k : Int) + 1 := fun h => ⟨(n - 1).toNat, by (first | exact om352 h | omega +splitDisjunctions)⟩
  have p40 : 40 ≤ n → ∃ k : Nat, n = (k : Int) + 40 := fun h => ⟨(n - 40).toNat, by (first | exact om351 h | omega +splitDisjunctions)⟩
  have m1 : n < 0 → ∃ k : Nat, n = -((k : Int) + 1) := fun h => ⟨(-n - 1).toNat, by (first | exact om350 h | omega +splitDisjunctions)⟩
  have m40 : n ≤ -40 → ∃ k : Nat, n = -((k : Int) + 40) := fun h => ⟨(-n - 40).toNat, by (first | exact om349 h | omega +splitDisjunctions)⟩
  rcases hd with rfl | rfl | rfl | rfl
  · rcases (show n < 0 ∨ 0 ≤ n by (first | exact om344 | omega +splitDisjunctions)) with c | c
    · obtain ⟨k, rfl⟩ := m1 c; exact tzVia_is sh6_ok (all_0m k (by (first | exact om343 h0 | omega +splitDisjunctions)))
    · obtain ⟨k, rfl⟩ := p0 c; exact tzVia_is sh4_ok (all_0p k (by (first | exact om342 h1 | omega +splitDisjunctions)))
  · rcases hc with c | c | c | c | c
    · obtain ⟨k, rfl⟩ := p0 (by (first | exact om348 c | omega +splitDisjunctions)); exact tzVia_is sh3_ok (all_1pa k (by (first | exact om347 c | omega +splitDisjunctions)))
    · obtain ⟨k, rfl⟩ := p0 (by (first | exact om346 c | omega +splitDisjunctions)); exact tzVia_is sh3_ok (all_1pa k (by (first | exact om345 c | omega +splitDisjunctions)))
    · obtain ⟨k, rfl⟩ := p40 c; exact tzVia_is sh4_ok (all_1pb k (by (first | exact om340 h1 | omega +splitDisjunctions)))
    · obtain ⟨k, rfl⟩ := m1 c.2; exact tzVia_is sh5_ok (all_1ma k (by (first | exact om339 c | omega +splitDisjunctions)))
    · obtain ⟨k, rfl⟩ := m40 c; exact tzVia_is sh6_ok (all_1mb k (by (first | exact om338 h0 | omega +splitDisjunctions)))
  · rcases (show n < 0 ∨ 0 ≤ n by (first | exact om344 | omega +splitDisjunctions)) with c | c
    · obtain ⟨k, rfl⟩ := m1 c; exact tzVia_is sh8_ok (all_2m k (by (first | exact om343 h0 | omega +splitDisjunctions)))
    · obtain ⟨k, rfl⟩ := p0 c; exact tzVia_is sh2_ok (all_2p k (by (first | exact om342 h1 | omega +splitDisjunctions)))
  · rcases hc with c | c | c | c | c
    · subst c; exact .inl ⟨by decide +kernel, rfl⟩
    · obtain ⟨k, rfl⟩ := p1 c.1; exact tzVia_is sh1_ok (all_3pa k (by (first | exact om341 c | omega +splitDisjunctions)))
    · obtain ⟨k, rfl⟩ := p40 c; exact tzVia_is sh2_ok (all_3pb k (by (first | exact om340 h1 | omega +splitDisjunctions)))
    · obtain ⟨k, rfl⟩ := m1 c.2; exact tzVia_is sh7_ok (all_3ma k (by (first | exact om339 c | omega +splitDisjunctions)))
    · obtain ⟨k, rfl⟩ := m40 c; exact tzVia_is sh8_ok (all_3mb k (by (first | exact om338 h0 | omega +splitDisjunctions)))
end
section
open PySem PySem.W PyProof.Rows
set_option Elab.async false
set_option maxRecDepth 100000
set_option maxHeartbeats 8000000
set_option pp.deepTerms false
set_option pp.deepTerms.threshold 3
set_option pp.proofs false

inductive SubL {α : Type} : List α → List α → Prop
  | nil {l : List α} : SubL [] l
  | refl (l : List α) : SubL l l
  | keep {a : α} {l l' : List α} : SubL l' l → SubL (a :: l') (a :: l)
  | skip {b : α} {l l' : List α} : SubL l' l → SubL l' (b :: l)
theorem SubL.mem {α : Type} {l' l : List α} (h : SubL l' l) : ∀ q ∈ l', q ∈ l := by
  induction h with
  | nil => intro q hq; cases hq
  | refl l => exact fun q hq => hq
  | keep _ ih => intro q hq; rcases List.mem_cons.mp hq with rfl | hq; exact .head _; exact .tail _ (ih q hq)
  | skip _ ih => intro q hq; exact .tail _ (ih q hq)
theorem sub_news {h₀ h : Heap} {L : Addr} {l l' : List (Addr × Obj)} (N : News h₀ L h l) (S : SubL l' l) : News h₀ L h l' := fun q hq => N q (S.mem q hq)
end
section
open PySem PySem.W PyProof.Rows PySem.Calls
set_option Elab.async false
set_option maxRecDepth 100000
set_option maxHeartbeats 4000000
section Dz
variable {prog : Program} {w : World} {A : Around} {E : Value → Shared → Prop} {s : Shared} {h₀ : Heap} {L : Addr} {m : Str → Option Value} {env : Env}
theorem dz_zip_getattr_none : typeLookup (.type "zip") "__getattr__" = pure none := by rw [typeLookup_type, builtinLookup_eq_fast]; kernel_rfl
theorem dz_zip_keys_none : typeLookup (.type "zip") "keys" = pure none := by rw [typeLookup_type, builtinLookup_eq_fast]; kernel_rfl
theorem dz_entry_zip_getattribute : entryFor table "zip.__getattribute__" = some Builtin.«object.__getattribute__» :=
  entryFor_alias (id' := "object.__getattribute__") (by kernel_rfl) (by decide +kernel) (by decide +kernel) (by kernel_rfl)
theorem dz_meets (a : Addr) (xs : Array Value) (u : Tok) :
    Meets (Builtin.«object.__getattribute__» ⟨[.ref a, .str (Str.ofString "keys") u], []⟩) (fun A R s => s.heap.get? a = some { cls := .type "zip", data := .fields xs } ∧ raisesAttr (.ref a) (Str.ofString "keys") A R s) :=
  Meets.of_wp fun prog w A R s hs => by
    obtain ⟨hp, g, d, tk, os⟩ := s
    obtain ⟨hx, hs⟩ := hs
    have hT : (⟨hp, g, d, tk, os⟩ : Shared).TypeIs (.ref a) "zip" := ⟨_, hx, rfl⟩
    have hmiss := dz_zip_keys_none
    unfold Builtin.«object.__getattribute__»
    repeat (any_goals (first | assumption | wp_step))
    exact wpAny_raiseAttrError hs.1 hs.2 (attrMsg_fits (by decide +kernel) (by decide +kernel))
theorem dz_by {a : Addr} {xs : Array Value} {tk : Tok} {Q : Value → Shared → Prop}
    (hx : s.heap.get? a = some { cls := .type "zip", data := .fields xs }) (hA : A.handled = none)
    (h : ∀ h' tk e, Heap.NewAttrErr s.heap h' e (.ref a) (Str.ofString "keys") → E (.ref e) { s with heap := h', toks := tk }) :
    wpAny (model prog w) A (getAttrBy (.ref a) (.str (Str.ofString "keys") tk) false) Q E s := by
  obtain ⟨hp, g, d, tk, os⟩ := s
  have hT : ∀ tk', (⟨hp, g, d, tk', os⟩ : Shared).TypeIs (.ref a) "zip" := fun _ => ⟨_, hx, rfl⟩
  have f1 := sub_AttributeError
  have f3 := F.slot_zip_getattribute.lookup
  have f4 := F.slot_zip_getattribute.bind (.ref a)
  have f5 := dz_zip_getattr_none
  unfold getAttrBy
  repeat (any_goals (first | assumption | exact hT _ | ((with_reducible show wpAny _ _ (call (Value.builtin "zip.__getattribute__") _ _) _ _ _); refine call_meets F.slot_zip_getattribute (hT _) dz_entry_zip_getattribute (F.args_zip_getattribute_2 _ _) (dz_meets a xs _) ⟨hx, hA, fun h' tk' e hx' => ?_⟩) | wp_step))
  obtain ⟨t', u', he⟩ := hx'.there
  show wpAny _ _ (getattributeRaised _ _ _ _ _ _ _) _ _ _
  unfold getattributeRaised
  repeat (any_goals (first | assumption | wp_step))
  exact h _ _ _ hx'
theorem dz_keys {a : Addr} {xs : Array Value} {Q : Option Value → Shared → Prop}
    (hx : s.heap.get? a = some { cls := .type "zip", data := .fields xs }) (hA : A.handled = none)
    (h : ∀ h' tk, (∀ b o, s.heap.get? b = some o → h'.get? b = some o) → Q none { s with heap := h', toks := tk }) :
    wpAny (model prog w) A (getAttr? (.ref a) "keys") Q E s := by
  obtain ⟨hp, g, d, tk, os⟩ := s
  have f1 := sub_AttributeError
  unfold getAttr? getAttrBy?
  repeat (any_goals (first | assumption | (refine dz_by hx hA fun h' tk' e hx' => ?_; obtain ⟨t', u', he⟩ := hx'.there) | wp_step))
  exact h _ _ hx'.keeps
end Dz
end
section
open PySem PySem.W PyProof.Rows PySem.Calls
set_option Elab.async false
set_option maxRecDepth 100000
set_option maxHeartbeats 4000000
section Dz2
variable {prog : Program} {w : World} {A : Around} {E : Value → Shared → Prop} {s : Shared}
noncomputable abbrev IsZq (h : Heap) (z TI TO T : Addr) (b : Bool) : Prop :=
  h.get? z = some { cls := .type "zip", dict := none, data := .fields #[rawInt T, .bool b, .bool false, .ref TI, .ref TO], slots := #[] }
theorem wpAny_loadIfAlive {M : Model} {a : Addr} {o : Obj} {Q : Option Obj → Shared → Prop} (h : s.heap.get? a = some o) (hQ : Q (some o) s) : wpAny M A (loadIfAlive a) Q E s := fun Γ p _ => by
  unfold loadIfAlive; simp only [Sem.wp_loadIfAlive, Sem.wp_pure', h]; exact hQ
theorem zq_free {z TI TO T : Addr} {b : Bool} {oT : Obj} {Q : Bool → Shared → Prop} (hz : IsZq s.heap z TI TO T b) (hT : s.heap.get? T = some oT)
    (hQ : ∀ h', IsZq h' z TI TO T true → (∀ c o, c ≠ z → s.heap.get? c = some o → h'.get? c = some o) → h'.objs.size = s.heap.objs.size → Q false { s with heap := h' }) :
    wpAny (model prog w) A (Builtin.SmallTypes.ownedTupleIsFree (.ref z)) Q E s := by
  unfold Builtin.SmallTypes.ownedTupleIsFree
  refine wpAny_bind (wpAny_field hz rfl (x := rawInt T) rfl ?_)
  show wpAny _ _ (loadIfAlive (Int.toNat (T : Int)) >>= _) _ _ _
  rw [Int.toNat_natCast]
  refine wpAny_bind (wpAny_loadIfAlive hT ?_)
  refine wpAny_bind (m := field (.ref z) 1) ?_
  refine wpAny_field hz rfl (x := .bool b) rfl ?_
  cases b with
  | false =>
    refine wpAny_bind (m := setField (.ref z) 1 (.bool true)) ?_
    exact wpAny_setField_rec hz (by simp) fun h' hz' hs' => wpAny_pure (hQ h' hz' (fun c o hc e => hs'.extBut _ _ hc e) hs'.1)
  | true => exact wpAny_pure (hQ s.heap hz (fun _ _ _ e => e) rfl)
theorem zq_next_item {z TI TO T i1 i2 l1 l2 : Addr} {k1 k2 : Nat} {xs ys : Array Value} {x y : Value} {bb : Bool} {oT : Obj} {Q : Value → Shared → Prop} (D : ZipApart z TI TO i1 i2 l1 l2)
    (hz : IsZq s.heap z TI TO T bb) (hT : s.heap.get? T = some oT) (hTI : IsPair s.heap TI (.ref i1) (.ref i2))
    (h1 : s.heap.IsListIter i1 l1 k1) (h2 : s.heap.IsListIter i2 l2 k2) (hl1 : s.heap.IsList l1 xs) (hl2 : s.heap.IsList l2 ys) (hx : xs[k1]? = some x) (hy : ys[k2]? = some y)
    (hQ : ∀ h', IsZq h' z TI TO T true → h'.IsListIter i1 l1 (k1 + 1) → h'.IsListIter i2 l2 (k2 + 1) → IsPair h' s.heap.objs.size x y →
      (∀ c o, c ≠ z → c ≠ i1 → c ≠ i2 → s.heap.get? c = some o → h'.get? c = some o) → Q (.ref s.heap.objs.size) { s with heap := h' }) :
    wpAny (model prog w) A (Builtin.«zip.__next__» ⟨[.ref z], []⟩) (fun fin s' => ∃ v, fin = .done (.ret v) ∧ Q v s') E s := by
  show wpAny _ _ (field (.ref z) 2 >>= _) _ _ _
  refine wpAny_bind (wpAny_field hz rfl (x := .bool false) rfl ?_)
  show wpAny _ _ (field (.ref z) 3 >>= _) _ _ _
  refine wpAny_bind (wpAny_field hz rfl (x := .ref TI) rfl ?_)
  refine wpAny_bind (wpAny_seqItems hTI rfl ?_)
  show wpAny _ _ (Builtin.SmallTypes.ownedTupleIsFree (.ref z) >>= _) _ _ _
  refine wpAny_bind (zq_free hz hT fun h₁ hz₁ hk₁ hsz₁ => ?_)
  simp only [Bool.false_eq_true, if_false]
  refine wpAny_bind ?_
  simp only [List.forIn_toArray, ← Array.forIn_toList, List.forIn_cons, List.forIn_nil]
  refine wpAny_bind (wpAny_bind (wpAny_holding ?_))
  show wpAny _ _ (Builtin.SmallTypes.nextOf (.ref i1) >>= _) _ _ _
  refine wpAny_bind (wpAny_nextOf_list_item (h1.at fun o e => hk₁ _ o D.i1z e) (hl1.at fun o e => hk₁ _ o D.l1z e) hx fun h₂ h1₂ hs₂ => wpAny_pure ?_)
  refine wpAny_pure ?_
  refine wpAny_bind (wpAny_bind (wpAny_holding ?_))
  show wpAny _ _ (Builtin.SmallTypes.nextOf (.ref i2) >>= _) _ _ _
  refine wpAny_bind (wpAny_nextOf_list_item ((h2.at fun o e => hk₁ _ o D.i2z e).extBut hs₂.extBut D.i12.symm) ((hl2.at fun o e => hk₁ _ o D.l2z e).extBut hs₂.extBut D.l2i1) hy fun h₃ h2₃ hs₃ => wpAny_pure ?_)
  refine wpAny_pure ?_
  refine wpAny_pure ?_
  have hsz : h₃.objs.size = s.heap.objs.size := by rw [hs₃.1, hs₂.1, hsz₁]
  show wpAny _ _ (newTuple [x, y] >>= _) _ _ _
  refine wpAny_bind (wpAny_newTuple ?_)
  refine wpAny_pure ⟨_, rfl, ?_⟩
  have up : ∀ c o, c ≠ z → c ≠ i1 → c ≠ i2 → s.heap.get? c = some o → (h₃.push { cls := .type "tuple", data := .seq #[x, y] }).get? c = some o := fun c o c1 c3 c4 e =>
    Heap.get?_push_of_some _ (hs₃.extBut _ _ c4 (hs₂.extBut _ _ c3 (hk₁ _ _ c1 e)))
  show Q (.ref h₃.objs.size) _
  have hP : IsPair (h₃.push { cls := .type "tuple", data := .seq #[x, y] }) h₃.objs.size x y := Heap.get?_push_size _ rfl
  rw [hsz] at hP ⊢
  refine hQ _ (Heap.get?_push_of_some _ (hs₃.extBut _ _ D.i2z.symm (hs₂.extBut _ _ D.i1z.symm hz₁))) ?_ ?_ hP up
  · exact (h1₂.extBut hs₃.extBut D.i12).at fun o e => Heap.get?_push_of_some _ e
  · exact h2₃.at fun o e => Heap.get?_push_of_some _ e
theorem zq_next_end {z TI TO T i1 i2 l1 l2 : Addr} {k1 k2 : Nat} {xs ys : Array Value} {bb : Bool} {oT : Obj} {Q : Fin → Shared → Prop} (hh : A.handled = none) (D : ZipApart z TI TO i1 i2 l1 l2)
    (hz : IsZq s.heap z TI TO T bb) (hT : s.heap.get? T = some oT) (hTI : IsPair s.heap TI (.ref i1) (.ref i2))
    (h1 : s.heap.IsListIter i1 l1 k1) (hl1 : s.heap.IsList l1 xs) (hend : xs[k1]? = none)
    (hE : ∀ h' e, (∀ c o, c ≠ z → c ≠ i1 → s.heap.get? c = some o → h'.get? c = some o) → (∃ o, h'.get? e = some o ∧ o.cls = .type "StopIteration") → E (.ref e) { s with heap := h' }) :
    wpAny (model prog w) A (Builtin.«zip.__next__» ⟨[.ref z], []⟩) Q E s := by
  show wpAny _ _ (field (.ref z) 2 >>= _) _ _ _
  refine wpAny_bind (wpAny_field hz rfl (x := .bool false) rfl ?_)
  show wpAny _ _ (field (.ref z) 3 >>= _) _ _ _
  refine wpAny_bind (wpAny_field hz rfl (x := .ref TI) rfl ?_)
  refine wpAny_bind (wpAny_seqItems hTI rfl ?_)
  show wpAny _ _ (Builtin.SmallTypes.ownedTupleIsFree (.ref z) >>= _) _ _ _
  refine wpAny_bind (zq_free hz hT fun h₁ hz₁ hk₁ hsz₁ => ?_)
  simp only [Bool.false_eq_true, if_false]
  refine wpAny_bind ?_
  simp only [List.forIn_toArray, ← Array.forIn_toList, List.forIn_cons, List.forIn_nil]
  refine wpAny_bind (wpAny_bind (wpAny_holding ?_))
  show wpAny _ _ (Builtin.SmallTypes.nextOf (.ref i1) >>= _) _ _ _
  refine wpAny_bind (wpAny_nextOf_list_end hh (h1.at fun o e => hk₁ _ o D.i1z e) (hl1.at fun o e => hk₁ _ o D.l1z e) hend fun h₂ e hs₂ he => ?_)
  exact hE h₂ e (fun c o c1 c3 x => hs₂ _ _ c3 (hk₁ _ _ c1 x)) he
theorem zq_pyNext_item {z TI TO T i1 i2 l1 l2 : Addr} {k1 k2 : Nat} {xs ys : Array Value} {x y : Value} {bb : Bool} {oT : Obj} {Q : Option Value → Shared → Prop} (D : ZipApart z TI TO i1 i2 l1 l2)
    (hz : IsZq s.heap z TI TO T bb) (hT : s.heap.get? T = some oT) (hTI : IsPair s.heap TI (.ref i1) (.ref i2))
    (h1 : s.heap.IsListIter i1 l1 k1) (h2 : s.heap.IsListIter i2 l2 k2) (hl1 : s.heap.IsList l1 xs) (hl2 : s.heap.IsList l2 ys) (hx : xs[k1]? = some x) (hy : ys[k2]? = some y)
    (hQ : ∀ h', IsZq h' z TI TO T true → h'.IsListIter i1 l1 (k1 + 1) → h'.IsListIter i2 l2 (k2 + 1) → IsPair h' s.heap.objs.size x y →
      (∀ c o, c ≠ z → c ≠ i1 → c ≠ i2 → s.heap.get? c = some o → h'.get? c = some o) → Q (some (.ref s.heap.objs.size)) { s with heap := h' }) :
    wpAny (model prog w) A (pyNext (.ref z)) Q E s := by
  have hTT : s.TypeIs (.ref z) "zip" := ⟨_, hz, rfl⟩
  unfold pyNext
  exact wpAny_bind (wpAny_attempt (wpAny_callSpecial?_slot (name := Str.ofString "__next__") hTT F.slot_zip_next
    (wpAny_call_entry F.slot_zip_next hTT F.entry_zip_next
      (zq_next_item D hz hT hTI h1 h2 hl1 hl2 hx hy fun h' a1 a2 a3 a4 a5 => wpAny_pure (hQ h' a1 a2 a3 a4 a5)) (F.args_zip_next_1 _))))
theorem zq_pyNext_end {z TI TO T i1 i2 l1 l2 : Addr} {k1 : Nat} {xs : Array Value} {bb : Bool} {oT : Obj} {Q : Option Value → Shared → Prop} (hh : A.handled = none) (D : ZipApart z TI TO i1 i2 l1 l2)
    (hz : IsZq s.heap z TI TO T bb) (hT : s.heap.get? T = some oT) (hTI : IsPair s.heap TI (.ref i1) (.ref i2)) (h1 : s.heap.IsListIter i1 l1 k1) (hl1 : s.heap.IsList l1 xs) (hend : xs[k1]? = none)
    (hQ : ∀ h', (∀ c o, c ≠ z → c ≠ i1 → s.heap.get? c = some o → h'.get? c = some o) → Q none { s with heap := h' }) : wpAny (model prog w) A (pyNext (.ref z)) Q E s := by
  have hTT : s.TypeIs (.ref z) "zip" := ⟨_, hz, rfl⟩
  unfold pyNext
  refine wpAny_bind (wpAny_attempt (wpAny_callSpecial?_slot (name := Str.ofString "__next__") hTT F.slot_zip_next
    (wpAny_call_entry F.slot_zip_next hTT F.entry_zip_next (zq_next_end (k2 := 0) (ys := #[]) (l2 := l2) hh D hz hT hTI h1 hl1 hend fun h' e hk he => ?_) (F.args_zip_next_1 _))))
  obtain ⟨o, ho, hc⟩ := he
  refine wpAny_bind (wpAny_isInstance (T := "StopIteration") (b := true) ⟨o, ho, hc⟩ isSubtype_stop ?_)
  exact wpAny_pure (hQ _ hk)
end Dz2
end
section
open PySem PySem.W PyProof.Rows PySem.Calls
set_option Elab.async false
set_option maxRecDepth 100000
set_option maxHeartbeats 4000000
section Dz3
variable {prog : Program} {w : World} {A : Around} {E : Value → Shared → Prop} {s : Shared} {h₀ : Heap} {L : Addr} {m : Str → Option Value}
theorem dz_plain_loop : plainId "dict.update.loop" = true := by decide +kernel
theorem dz_entry_loop : entryFor table "dict.update.loop" = some Builtin.«dict.update.loop» := entryFor_of_fast (by kernel_rfl)
noncomputable def AwayF (as : List Int) (g : Int → Int) (i : Nat) (f : Int → Option Value) : Prop := ∀ j a, j < i → as[j]? = some a → ∃ t, f a = some (.int (g a) t)
theorem AwayF.step {as : List Int} {g : Int → Int} {i : Nat} {f : Int → Option Value} {a : Int} {t : Tok} (h : AwayF as g i f) (ha : as[i]? = some a) : AwayF as g (i + 1) (fun x => if x = a then some (.int (g a) t) else f x) := by
  intro j b hj hb
  by_cases hba : b = a
  · subst hba; exact ⟨t, by simp⟩
  · rcases Nat.lt_succ_iff_lt_or_eq.mp hj with hj | rfl
    · obtain ⟨u, hu⟩ := h j b hj hb; exact ⟨u, by simp [hba, hu]⟩
    · rw [ha] at hb; cases hb; exact absurd rfl hba
theorem mem_eq {α : Type} {a b : α} {l : List α} (e : a = b) (h : b ∈ l) : a ∈ l := e ▸ h
theorem dz_loop {z TI TO i1 i2 l1 l2 d : Addr} {us vs : List Value} {as : List Int} {g : Int → Int} {R : Result → Shared → Prop} (hh : A.handled = none) (D : ZipApart z TI TO i1 i2 l1 l2)
    (hus : IntsAre us as) (hvs : IntsAre vs (as.map g)) (hsz : us.length ≤ sizeLine) (hd : d ∉ [z, TI, TO, i1, i2, l1, l2]) :
    ∀ (k i : Nat) (s : Shared) (f : Int → Option Value), as.length - i = k → i ≤ as.length →
      (∃ a b, IsPair s.heap TO a b) → ((i = 0 ∧ IsZip s.heap z TI TO .none) ∨ (∃ T oT b, IsZq s.heap z TI TO T b ∧ s.heap.get? T = some oT ∧ T ∉ [z, TI, TO, i1, i2, l1, l2, d])) →
      IsPair s.heap TI (.ref i1) (.ref i2) → s.heap.IsListIter i1 l1 i → s.heap.IsListIter i2 l2 i → s.heap.IsList l1 us.toArray → s.heap.IsList l2 vs.toArray →
      s.heap.IntMap d f → s.heap.DictLe d i → AwayF as g i f →
      (∀ h' tk f', h'.IntMap d f' → AwayF as g as.length f' → (∀ c o, c ∉ [z, TO, i1, i2, d] → s.heap.get? c = some o → h'.get? c = some o) → R (.ok (.ret .none)) { s with heap := h', toks := tk }) →
      codeAny (model prog w) A (.builtin "dict.update.loop" ⟨[.ref d, .ref z, rawInt i, .none], []⟩) R s := by
  have hul : us.length = as.length := hus.length
  have hvl : vs.length = as.length := by rw [hvs.length, List.length_map]
  have dz : d ≠ z := fun e => hd (mem_eq e (.head _))
  have dTI : d ≠ TI := fun e => hd (mem_eq e (.tail _ (.head _)))
  have dTO : d ≠ TO := fun e => hd (mem_eq e (.tail _ (.tail _ (.head _))))
  have d1 : d ≠ i1 := fun e => hd (mem_eq e (.tail _ (.tail _ (.tail _ (.head _)))))
  have d2 : d ≠ i2 := fun e => hd (mem_eq e (.tail _ (.tail _ (.tail _ (.tail _ (.head _))))))
  have dl1 : d ≠ l1 := fun e => hd (mem_eq e (.tail _ (.tail _ (.tail _ (.tail _ (.tail _ (.head _)))))))
  have dl2 : d ≠ l2 := fun e => hd (mem_eq e (.tail _ (.tail _ (.tail _ (.tail _ (.tail _ (.tail _ (.head _))))))))
  intro k
  induction k with
  | zero =>
    intro i s f hk hi hTO hst hTI h1 h2 hl1 hl2 hm hle hf hR
    have hin : i = as.length := by (first | exact om402 hk hi | omega +splitDisjunctions)
    subst hin
    refine codeAny_builtin dz_entry_loop ?_
    rw [Around.under_plainId dz_plain_loop _]
    show wpAny _ A.in1 (pyNext (.ref z) >>= _) _ _ s
    have hend : us.toArray[as.length]? = none := by simp [hul]
    rcases hst with ⟨_, hz⟩ | ⟨T, oT, b, hz, hT, _⟩
    · obtain ⟨_, _, hTO⟩ := hTO
      refine wpAny_bind (wpAny_pyNext_zip_end hh D hz hTI hTO h1 h2 hl1 hl2 (.inl hend) fun h' hk' => ?_)
      refine wpAny_bind (m := Builtin.Dict.addKeywords d []) ?_
      refine wpAny_pure (wpAny_pure ?_)
      refine hR h' s.toks f ?_ hf fun c o hc e => hk' c o (fun x => hc (mem_eq x (.head _))) (fun x => hc (mem_eq x (.tail _ (.head _)))) (fun x => hc (mem_eq x (.tail _ (.tail _ (.head _))))) (fun x => hc (mem_eq x (.tail _ (.tail _ (.tail _ (.head _)))))) e
      obtain ⟨o, es, ep, ho, r⟩ := hm; exact ⟨o, es, ep, hk' _ _ dz dTO d1 d2 ho, r⟩
    · refine wpAny_bind (zq_pyNext_end hh D hz hT hTI h1 hl1 hend fun h' hk' => ?_)
      refine wpAny_bind (m := Builtin.Dict.addKeywords d []) ?_
      refine wpAny_pure (wpAny_pure ?_)
      refine hR h' s.toks f ?_ hf fun c o hc e => hk' c o (fun x => hc (mem_eq x (.head _))) (fun x => hc (mem_eq x (.tail _ (.tail _ (.head _))))) e
      obtain ⟨o, es, ep, ho, r⟩ := hm; exact ⟨o, es, ep, hk' _ _ dz d1 ho, r⟩
  | succ k ih =>
    intro i s f hk hi hTO hst hTI h1 h2 hl1 hl2 hm hle hf hR
    have hlt : i < as.length := by (first | exact om401 hk | omega +splitDisjunctions)
    obtain ⟨a, ha⟩ : ∃ a, as[i]? = some a := ⟨_, List.getElem?_eq_getElem hlt⟩
    obtain ⟨u, hu⟩ : ∃ u, us[i]? = some u := ⟨_, List.getElem?_eq_getElem (by (first | exact om400 hul hlt | omega +splitDisjunctions))⟩
    obtain ⟨v, hv⟩ : ∃ v, vs[i]? = some v := ⟨_, List.getElem?_eq_getElem (by (first | exact om400 hvl hlt | omega +splitDisjunctions))⟩
    obtain ⟨a', ta, ha', rfl⟩ := ints_get hus i u hu
    obtain ⟨b', tb, hb', rfl⟩ := ints_get hvs i v hv
    rw [ha] at ha'; cases ha'
    rw [List.getElem?_map, ha] at hb'; cases hb'
    have hTn : ∀ c o, s.heap.get? c = some o → s.heap.objs.size ≠ c := fun c o e => Nat.ne_of_gt (Heap.lt_size e)
    have core : ∀ h', (∃ a b, IsPair h' TO a b) → (∃ T oT b, IsZq h' z TI TO T b ∧ h'.get? T = some oT ∧ T ∉ [z, TI, TO, i1, i2, l1, l2, d]) → h'.IsListIter i1 l1 (i + 1) → h'.IsListIter i2 l2 (i + 1) → IsPair h' s.heap.objs.size (.int a ta) (.int (g a) tb) →
        (∀ c o, c ≠ z → c ≠ TO → c ≠ i1 → c ≠ i2 → s.heap.get? c = some o → h'.get? c = some o) →
        wpAny (model prog w) A.in1 (do
            holding [Value.ref s.heap.objs.size] do
              let pair ← (Builtin.Dict.pairItems (.ref s.heap.objs.size)).tryCatch fun e => do
                if !(← isInstance e (.type "TypeError")) then throw e
                rule "dict.update.element-no-sequence"
                raiseError "TypeError" s!"cannot convert dictionary update sequence element #{(i : Int)} to a sequence"
              match pair with
              | [k, v] => holding [k, v] (dictSet d k v)
              | l =>
                rule "dict.update.element-length"
                raiseError "ValueError" s!"dictionary update sequence element #{(i : Int)} has length {l.length}; 2 is required"
            again (.builtin "dict.update.loop" ⟨[.ref d, .ref z, rawInt ((i : Int) + 1), .none], []⟩))
          (fun fin s' => match fin with | .done f => R (.ok f) s' | .again c' => c'.quiet = true ∧ codeAny (model prog w) A c' R s') (fun e s' => R (.error e) s') { s with heap := h' } := by
      intro h' hTO' hzq h1' h2' hP hk'
      have hmem : h'.IntMap d f := by obtain ⟨o, es, ep, ho, r⟩ := hm; exact ⟨o, es, ep, hk' _ _ dz dTO d1 d2 ho, r⟩
      have hle' : h'.DictLe d i := by
        obtain ⟨o, es, ep, ho, r⟩ := hm
        exact hle.of_same ho (hk' _ _ dz dTO d1 d2 ho)
      refine wpAny_bind (wpAny_holding ?_)
      refine wpAny_bind (wpAny_tryCatch ?_)
      unfold Builtin.Dict.pairItems
      refine wpAny_bind (wpAny_typeOf (T := "tuple") ⟨_, hP, rfl⟩ ?_)
      rw [if_pos (by decide)]
      refine wpAny_bind (wpAny_seqItems hP rfl (wpAny_pure ?_))
      show wpAny _ _ (holding [Value.int a ta, Value.int (g a) tb] (dictSet d (.int a ta) (.int (g a) tb))) _ _ _
      refine wpAny_holding (wpAny_dictSet_int_le hmem hle' (by (first | exact om399 hsz hul hlt | omega +splitDisjunctions)) fun h₂ hm₂ hle₂ hs₂ => ?_)
      refine wpAny_pure ⟨plainId_quiet dz_plain_loop _, ?_⟩
      obtain ⟨T, oT, b, hz', hT', hTd⟩ := hzq
      have tk0 : ∀ c o, c ≠ z → c ≠ TO → c ≠ i1 → c ≠ i2 → c ≠ d → s.heap.get? c = some o → h₂.get? c = some o := fun c o c1 c2 c3 c4 c5 e => hs₂.extBut _ _ c5 (hk' c o c1 c2 c3 c4 e)
      refine ih (i + 1) { s with heap := h₂, toks := _ } _ (by (first | exact om398 hk | omega +splitDisjunctions)) hlt (by obtain ⟨x, y, e⟩ := hTO'; exact ⟨x, y, hs₂.extBut _ _ dTO.symm e⟩) (.inr ⟨T, oT, b, hs₂.extBut _ _ dz.symm hz', hs₂.extBut _ _ (fun e => hTd (by simp [e])) hT', hTd⟩)
        (tk0 _ _ D.TIz D.TITO D.TIi1 D.TIi2 dTI.symm hTI) (h1'.extBut hs₂.extBut d1.symm) (h2'.extBut hs₂.extBut d2.symm)
        (hl1.at fun o e => tk0 _ o D.l1z D.l1TO D.l1i1 D.l1i2 dl1.symm e) (hl2.at fun o e => tk0 _ o D.l2z D.l2TO D.l2i1 D.l2i2 dl2.symm e) hm₂ hle₂ (hf.step ha) ?_
      intro h₃ tk₃ f₃ hm₃ hf₃ hk₃
      refine hR h₃ tk₃ f₃ hm₃ hf₃ fun c o hc e => hk₃ c o hc ?_
      exact tk0 c o (fun x => hc (mem_eq x (.head _))) (fun x => hc (mem_eq x (.tail _ (.head _)))) (fun x => hc (mem_eq x (.tail _ (.tail _ (.head _))))) (fun x => hc (mem_eq x (.tail _ (.tail _ (.tail _ (.head _)))))) (fun x => hc (mem_eq x (.tail _ (.tail _ (.tail _ (.tail _ (.head _))))))) e
    refine codeAny_builtin dz_entry_loop ?_
    rw [Around.under_plainId dz_plain_loop _]
    show wpAny _ A.in1 (pyNext (.ref z) >>= _) _ _ s
    have hTnew : s.heap.objs.size ∉ [z, TI, TO, i1, i2, l1, l2, d] := by
      intro hmm
      simp only [List.mem_cons, List.not_mem_nil, or_false] at hmm
      have hzo : ∃ o, s.heap.get? z = some o := by rcases hst with ⟨_, hz⟩ | ⟨_, _, _, hz, _⟩ <;> exact ⟨_, hz⟩
      rcases hmm with e | e | e | e | e | e | e | e
      · obtain ⟨o, ho⟩ := hzo; exact hTn _ _ ho e
      · exact hTn _ _ hTI e
      · obtain ⟨_, _, hTO⟩ := hTO; exact hTn _ _ hTO e
      · obtain ⟨o, ho, _⟩ := h1; exact hTn _ _ ho e
      · obtain ⟨o, ho, _⟩ := h2; exact hTn _ _ ho e
      · obtain ⟨o, ho, _⟩ := hl1; exact hTn _ _ ho e
      · obtain ⟨o, ho, _⟩ := hl2; exact hTn _ _ ho e
      · obtain ⟨o, _, _, ho, _⟩ := hm; exact hTn _ _ ho e
    have hu' : us.toArray[i]? = some (.int a ta) := by simpa using hu
    have hv' : vs.toArray[i]? = some (.int (g a) tb) := by simpa using hv
    rcases hst with ⟨_, hz⟩ | ⟨T, oT, b, hz, hT, hTd⟩
    · obtain ⟨_, _, hTO⟩ := hTO
      refine wpAny_bind (wpAny_pyNext_zip_item D hz hTI hTO h1 h2 hl1 hl2 hu' hv' fun h' hz' hTO' h1' h2' hP _ hk' => ?_)
      exact core h' ⟨_, _, hTO'⟩ ⟨_, _, false, hz', hP, hTnew⟩ h1' h2' hP hk'
    · refine wpAny_bind (zq_pyNext_item D hz hT hTI h1 h2 hl1 hl2 hu' hv' fun h' hz' h1' h2' hP hk' => ?_)
      exact core h' (by obtain ⟨x, y, e⟩ := hTO; exact ⟨x, y, hk' _ _ D.TOz D.TOi1 D.TOi2 e⟩) ⟨T, oT, true, hz', hk' _ _ (fun e => hTd (by simp [e])) (fun e => hTd (by simp [e])) (fun e => hTd (by simp [e])) hT, hTd⟩ h1' h2' hP fun c o c1 _ c3 c4 e => hk' c o c1 c3 c4 e
theorem dz_call_loop {z TI TO i1 i2 l1 l2 : Addr} {us vs : List Value} {as : List Int} {g : Int → Int} {Q : Value → Shared → Prop} (hh : A.handled = none) (D : ZipApart z TI TO i1 i2 l1 l2)
    (hus : IntsAre us as) (hvs : IntsAre vs (as.map g)) (hsz : us.length ≤ sizeLine)
    (hz : IsZip s.heap z TI TO .none) (hTI : IsPair s.heap TI (.ref i1) (.ref i2)) (hTO : ∃ a b, IsPair s.heap TO a b) (h1 : s.heap.IsListIter i1 l1 0) (h2 : s.heap.IsListIter i2 l2 0) (hl1 : s.heap.IsList l1 us.toArray) (hl2 : s.heap.IsList l2 vs.toArray)
    (h : ∀ h' tk f', h'.IntMap s.heap.objs.size f' → AwayF as g as.length f' → (∀ c o, c ∉ [z, TO, i1, i2] → s.heap.get? c = some o → h'.get? c = some o) → Q (.ref s.heap.objs.size) { s with heap := h', toks := tk }) :
    wpAny (model prog w) A (call (.type "dict") [.ref z]) Q E s := by
  refine callType_codes (Q₁ := fun obj s₁ => obj = .ref s.heap.objs.size ∧ s₁ = { s with heap := s.heap.push { cls := .type "dict", data := .dict #[] } }) F.kt_called_dict (F.kt_typeCall_dict_1 _) F.entry_dict_init (kt_code_dict_new _ ⟨rfl, rfl⟩) ?_
  rintro obj s₁ ⟨rfl, rfl⟩
  have hnew : (s.heap.push { cls := .type "dict", data := .dict #[] }).get? s.heap.objs.size = some { cls := .type "dict", data := .dict #[] } := Heap.get?_push_size _ rfl
  have hTnew : Shared.TypeIs { s with heap := s.heap.push { cls := .type "dict", data := .dict #[] } } (.ref s.heap.objs.size) "dict" := ⟨_, hnew, rfl⟩
  have up : ∀ c o, s.heap.get? c = some o → (s.heap.push { cls := .type "dict", data := .dict #[] }).get? c = some o := fun c o e => Heap.get?_push_of_some _ e
  have ne : ∀ c o, s.heap.get? c = some o → s.heap.objs.size ≠ c := fun c o e => Nat.ne_of_gt (Heap.lt_size e)
  have hd : s.heap.objs.size ∉ [z, TI, TO, i1, i2, l1, l2] := by
    intro hmm
    simp only [List.mem_cons, List.not_mem_nil, or_false] at hmm
    rcases hmm with e | e | e | e | e | e | e
    · exact ne _ _ hz e
    · exact ne _ _ hTI e
    · obtain ⟨_, _, hTO⟩ := hTO; exact ne _ _ hTO e
    · obtain ⟨o, ho, _⟩ := h1; exact ne _ _ ho e
    · obtain ⟨o, ho, _⟩ := h2; exact ne _ _ ho e
    · obtain ⟨o, ho, _⟩ := hl1; exact ne _ _ ho e
    · obtain ⟨o, ho, _⟩ := hl2; exact ne _ _ ho e
  have hzT : Shared.TypeIs { s with heap := s.heap.push { cls := .type "dict", data := .dict #[] } } (.ref z) "zip" := ⟨_, up _ _ hz, rfl⟩
  refine ⟨hTnew, F.args_dict_init_2 _ _, ?_⟩
  unfold Builtin.«dict.__init__»
  refine wpAny_bind ?_
  unfold Builtin.Dict.selfAndRest
  refine wpAny_bind (wpAny_notOrdered_dict hTnew ?_)
  show wpAny _ _ (pure (s.heap.objs.size, [Value.ref z])) _ _ _
  refine wpAny_pure ?_
  show wpAny _ _ (Builtin.Dict.updateFrom "dict.__init__" s.heap.objs.size (.ref z) [] .none) _ _ _
  unfold Builtin.Dict.updateFrom
  refine wpAny_bind (wpAny_typeOf hzT ?_)
  rw [if_pos (by decide)]
  refine wpAny_bind (dz_keys (up _ _ hz) hh fun h' tk hk => ?_)
  rw [if_pos (by rfl)]
  refine wpAny_bind (wpAny_rule ?_)
  have kk : ∀ c o, s.heap.get? c = some o → h'.get? c = some o := fun c o e => hk c o (up c o e)
  refine wpAny_bind (wpAny_pyIter_zip (kk _ _ hz) ?_)
  refine wpAny_pure ⟨plainId_quiet dz_plain_loop _, ?_⟩
  refine dz_loop (A := A.in1) (R := wants (fun r s₂ => r = .none ∧ Q (.ref s.heap.objs.size) s₂) E) (f := fun _ => none) hh D hus hvs hsz hd as.length 0 { s with heap := h', toks := tk } rfl (Nat.zero_le _) (by obtain ⟨x, y, e⟩ := hTO; exact ⟨x, y, kk _ _ e⟩) (.inl ⟨rfl, kk _ _ hz⟩) (kk _ _ hTI)
    (h1.at fun o e => kk _ o e) (h2.at fun o e => kk _ o e) (hl1.at fun o e => kk _ o e) (hl2.at fun o e => kk _ o e) ⟨_, #[], _, hk _ _ hnew, rfl, rfl, ?_, fun k => rfl⟩ ?_ (fun j a hj => absurd hj (Nat.not_lt_zero _)) ?_
  · intro e he; simp at he
  · intro o es ep ho hdd
    rw [hk _ _ hnew] at ho; cases ho; cases hdd; exact Nat.zero_le _
  · intro h₂ tk₂ f' hm₂ hf₂ hk₂
    refine ⟨rfl, h h₂ tk₂ f' hm₂ hf₂ fun c o hc e => hk₂ c o (fun hm => ?_) (kk c o e)⟩
    simp only [List.mem_cons, List.not_mem_nil, or_false] at hm hc
    rcases hm with x | x | x | x | x
    · exact hc (.inl x)
    · exact hc (.inr (.inl x))
    · exact hc (.inr (.inr (.inl x)))
    · exact hc (.inr (.inr (.inr x)))
    · exact ne _ _ e x.symm
end Dz3
end
section
open PySem PySem.W PyProof.Rows PySem.Calls
set_option Elab.async false
set_option maxRecDepth 100000
set_option maxHeartbeats 4000000
section Dz4
variable {prog : Program} {w : World} {A : Around} {E : Value → Shared → Prop} {s : Shared} {h₀ : Heap} {L : Addr} {m : Str → Option Value} {news : List (Addr × Obj)}
noncomputable def ZipAt (h₀ : Heap) (L : Addr) (h : Heap) (z : Addr) (us vs : List Value) (news : List (Addr × Obj)) : Prop :=
  ∃ TI TO i1 i2 l1 l2, ZipApart z TI TO i1 i2 l1 l2 ∧ (IsZip h z TI TO .none ∧ IsPair h TI (.ref i1) (.ref i2) ∧ (∃ a b, IsPair h TO a b) ∧ h.IsListIter i1 l1 0 ∧ h.IsListIter i2 l2 0 ∧ h.IsList l1 us.toArray ∧ h.IsList l2 vs.toArray) ∧
    L ∉ [z, TO, i1, i2] ∧ (∀ b ∈ [z, TO, i1, i2], h₀.get? b = none) ∧ (∀ p ∈ news, p.1 ∉ [z, TO, i1, i2])
theorem zip_K {l1 l2 : Addr} {us vs : List Value} {k1 k2 : Nat} {Q : Value → Shared → Prop} (F : Fr h₀ L s.heap m) (N : News h₀ L s.heap news)
    (m1 : (l1, W.listOf us.toArray k1) ∈ news) (m2 : (l2, W.listOf vs.toArray k2) ∈ news)
    (h : ∀ z h', Fr h₀ L h' m → News h₀ L h' news → ZipAt h₀ L h' z us vs news → Q (.ref z) { s with heap := h' }) :
    wpAny (model prog w) A (call (.type "zip") [.ref l1, .ref l2]) Q E s := by
  have hl1 : s.heap.IsList l1 us.toArray := ⟨_, (N _ m1).1, rfl, _, rfl⟩
  have hl2 : s.heap.IsList l2 vs.toArray := ⟨_, (N _ m2).1, rfl, _, rfl⟩
  have a1 : l1 < s.heap.objs.size := Heap.lt_size (N _ m1).1
  have a2 : l2 < s.heap.objs.size := Heap.lt_size (N _ m2).1
  have hLs : L < s.heap.objs.size := F.ns.lt
  refine call_zip_2 hl1 hl2 fun h' hz hTI hTO hit1 hit2 hsz' hk => ?_
  have nw : ∀ k, h₀.get? (s.heap.objs.size + k) = none := fun k => Heap.get?_none_of_le (Nat.le_trans F.above (Nat.le_trans (Nat.le_of_lt hLs) (Nat.le_add_right _ k)))
  refine h _ h' (F.keeps hk) (fun p hp => ⟨hk _ _ (N p hp).1, (N p hp).2⟩) ⟨_, _, _, _, l1, l2, zipApart_new a1 a2, ⟨hz, hTI, ⟨_, _, hTO⟩, hit1, hit2, hl1.at fun o e => hk l1 o e, hl2.at fun o e => hk l2 o e⟩, ?_, ?_, ?_⟩
  · intro hm
    simp only [List.mem_cons, List.not_mem_nil, or_false] at hm
    have up : ∀ k, L ≠ s.heap.objs.size + k := fun k e => Nat.ne_of_lt (Nat.lt_of_lt_of_le hLs (Nat.le_add_right _ k)) e
    rcases hm with e | e | e | e
    · exact up 4 e
    · exact up 3 e
    · exact up 0 e
    · exact up 1 e
  · intro b hb
    simp only [List.mem_cons, List.not_mem_nil, or_false] at hb
    rcases hb with rfl | rfl | rfl | rfl
    · exact nw 4
    · exact nw 3
    · exact nw 0
    · exact nw 1
  · intro p hp hm
    have hq1 : p.1 < s.heap.objs.size := Heap.lt_size (N p hp).1
    simp only [List.mem_cons, List.not_mem_nil, or_false] at hm
    have dn : ∀ k, p.1 ≠ s.heap.objs.size + k := fun k e => Nat.ne_of_lt (Nat.lt_of_lt_of_le hq1 (Nat.le_add_right _ k)) e
    rcases hm with e | e | e | e
    · exact dn 4 e
    · exact dn 3 e
    · exact dn 0 e
    · exact dn 1 e
noncomputable def AwayO (o : Obj) (as : List Int) (g : Int → Int) : Prop := ∃ f, (∀ a ∈ as, ∃ t, f a = some (.int (g a) t)) ∧ ∀ (h : Heap) (d : Addr), h.get? d = some o → h.IntMap d f
theorem dict_zip_K {z : Addr} {us vs : List Value} {as : List Int} {g : Int → Int} {Q : Value → Shared → Prop} (hh : A.handled = none) (F : Fr h₀ L s.heap m) (N : News h₀ L s.heap news)
    (Z : ZipAt h₀ L s.heap z us vs news) (hus : IntsAre us as) (hvs : IntsAre vs (as.map g)) (hsz : us.length ≤ sizeLine)
    (h : ∀ d h' tk o, Fr h₀ L h' m → News h₀ L h' ((d, o) :: news) → (∀ p ∈ news, p.1 < d) → AwayO o as g → Q (.ref d) { s with heap := h', toks := tk }) :
    wpAny (model prog w) A (call (.type "dict") [.ref z]) Q E s := by
  obtain ⟨TI, TO, i1, i2, l1, l2, D, ⟨hz, hTI, hTO, h1, h2, hl1, hl2⟩, hL, hwr, hnw⟩ := Z
  refine dz_call_loop hh D hus hvs hsz hz hTI hTO h1 h2 hl1 hl2 fun h' tk f hm hf hk => ?_
  obtain ⟨o, es, ep, ho, r⟩ := hm
  have hLs : L < s.heap.objs.size := F.ns.lt
  have n0 : h₀.get? s.heap.objs.size = none := Heap.get?_none_of_le (Nat.le_trans F.above (Nat.le_of_lt hLs))
  refine h _ h' tk o ⟨F.ns.at' fun o e => hk _ _ hL e, fun c o e => hk c o (fun hm => by rw [hwr c hm] at e; cases e) (F.keep c o e), F.above⟩ (fun p hp => ?_) (fun p hp => Heap.lt_size (N p hp).1)
    ⟨f, fun a ha => ?_, fun h d e => ⟨o, es, ep, e, r⟩⟩
  · rcases List.mem_cons.mp hp with rfl | hp
    · exact ⟨ho, Nat.ne_of_gt hLs, n0⟩
    · exact ⟨hk _ _ (hnw p hp) (N p hp).1, (N p hp).2⟩
  · obtain ⟨j, hj⟩ := List.getElem?_of_mem ha
    exact hf j a (by rcases Nat.lt_or_ge j as.length with x | x; exact x; rw [List.getElem?_eq_none x] at hj; cases hj) hj
end Dz4
end
section
local macro_rules | `(tactic| k_room) => `(tactic| ktr_room)
local macro_rules | `(tactic| k_units) => `(tactic| ktr_units)
local macro_rules | `(tactic| k_all) => `(tactic| assumption)
local macro_rules | `(tactic| walk_at "UnrEnd") => `(tactic| (refine UnrEnd.intro (by assumption) (by assumption) _ (fun _ h => h) (Mine.offLt (by assumption)) ?_; (try dsimp only)))
local macro_rules | `(tactic| walk_at "call builtin:len") => `(tactic| (k_here; (with_reducible refine Mine.gd6 ?_); k_dflt (first | refine Mine.by_len1 ?_ | refine Mine.by_len2 ?_ | refine Mine.by_len3 ?_ | refine Mine.by_len4 ?_); intros))
local macro_rules | `(tactic| walk_at "call type:bytes") => `(tactic| (k_here; (with_reducible refine Mine.gd7 ?_); k_dflt (apply Mine.by_bytesK; k_asm; k_mem; exact Nat.le_of_ble_eq_true rfl; k_whole); intros))
section
open PySem PySem.W PyProof.Rows
set_option Elab.async false
set_option maxRecDepth 100000
set_option maxHeartbeats 8000000
set_option pp.deepTerms false
set_option pp.deepTerms.threshold 3
set_option pp.proofs false
theorem walk_anew_7 : True := by w_top off; trivial
local macro_rules | `(tactic| walk_at "setItem ref int") => `(tactic| (k_here; k_dflt (refine' Mine.by_set1 ?F ?N ?a ?b ?e ?U ?_; (case F | N => k_asm); (case U => k_upd); (case a | b => decide); (case e => rfl)); intro h9 F9 N9; (try dsimp only [List.nil_append, List.cons_append] at N9)))
theorem bswap1_w {w : World} {p : Program} {loose : List Str} {mean : ExcName → Option Value} {mg mb : Str → Option Value} :
    ∀ {x0 : UInt8} {tx tw : Tok} {dp un : Nat} {cn : Str} {cs : Scope} {a' : Addr} {ccd : Value} {cl : List (Str × Addr)} {outer : List Env} {A₀ : Around} {base h₀ : Heap} {L : Addr} {m : Str → Option Value} {s : Shared} {Q E : Value → Shared → Prop} {news : List (Addr × Obj)},
    Below A₀ base outer h₀ → Fr h₀ L s.heap m → (hd.heap_39 w.params).In h₀ → News h₀ L s.heap news → Top p loose mean mg mb h₀ → cs.kind = .function → dp + 60 < recursionLimit → un + 600 < cLine →
    (∀ {t : Tok} {h' : Heap} {tk' : Nat}, Fr h₀ L h' m → News h₀ L h' news → Q (.bytes #[x0] t) { s with heap := h', toks := tk' }) →
    wpS (model PySem.Challenge.rw_zo0001_01.prog w) (ktrTop dp un (some []) cn cs L a' ccd cl outer) (call (.ref 72) [.bytes #[x0] tx, .int 1 tw]) Q E s := by
  k_fill
  intros
  rename_i B0 F0 X0 N0 T0 hk0 hdp hun hret
  refine' sl_call (sl_code_defT (K := hd.heap_39 w.params) B0 F0 X0 N0 T0 rfl rfl hk0 ?k6 ?k7 ?k8 ?k9 ?kB ?_ ?c1 ?c2 ?c3 ?c4)
  case k6 => k_is
  case k7 => k_is
  case k8 => ktr_room
  case k9 => exact BindsTo.of_eq rfl
  case kB => exact locs rfl
  case c1 => rfl
  case c2 => rfl
  case c3 => rfl
  case c4 => decide
  intro g' L' h' tk0 FG' F' N' B' X' T'
  try dsimp only
  refine sl_execs_cons ?_
  refine sl_Assign_Name ?_ ?_
  · refine sl_eval_Call (f := .type "bytearray") (by with_unfolding_all rfl) ?_
    iterate 1 walk1
    refine ⟨rfl, sl_typeE rfl ⟨_, _, rfl⟩ ?_⟩
    k_steps
    refine' by_make1 ?g ?F ?N (fun D9 h9 F9 N9 l9 n9 => ?_)
    case g => rfl
    case F => assumption
    case N => assumption
    k_steps
    refine sl_execs_consA ?_
    k_steps
    refine sl_execs_consA ?_
    k_steps
    all_goals (exact hret (by assumption) (Mine.dropN (by assumption)))
  · rfl
end
section
open PySem PySem.W PyProof.Rows
set_option Elab.async false
set_option maxRecDepth 100000
set_option maxHeartbeats 8000000
set_option pp.deepTerms false
set_option pp.deepTerms.threshold 3
set_option pp.proofs false
local macro_rules | `(tactic| walk_at "no such node") => `(tactic| fail)
theorem walk_anew_8 : True := by w_top off; trivial
local macro_rules | `(tactic| walk_at "setItem ref int") => `(tactic| (k_here; k_dflt (refine' Mine.by_set2 ?F ?N ?a ?b ?e ?U ?_; (case F | N => k_asm); (case U => k_upd); (case a | b => decide); (case e => rfl)); intro h9 F9 N9; (try dsimp only [List.nil_append, List.cons_append] at N9)))
theorem bswap2_w {w : World} {p : Program} {loose : List Str} {mean : ExcName → Option Value} {mg mb : Str → Option Value} :
    ∀ {x0 x1 : UInt8} {tx tw : Tok} {dp un : Nat} {cn : Str} {cs : Scope} {a' : Addr} {ccd : Value} {cl : List (Str × Addr)} {outer : List Env} {A₀ : Around} {base h₀ : Heap} {L : Addr} {m : Str → Option Value} {s : Shared} {Q E : Value → Shared → Prop} {news : List (Addr × Obj)},
    Below A₀ base outer h₀ → Fr h₀ L s.heap m → (hd.heap_39 w.params).In h₀ → News h₀ L s.heap news → Top p loose mean mg mb h₀ → cs.kind = .function → dp + 60 < recursionLimit → un + 600 < cLine →
    (∀ {t : Tok} {h' : Heap} {tk' : Nat}, Fr h₀ L h' m → News h₀ L h' news → Q (.bytes #[x1, x0] t) { s with heap := h', toks := tk' }) →
    wpS (model PySem.Challenge.rw_zo0001_01.prog w) (ktrTop dp un (some []) cn cs L a' ccd cl outer) (call (.ref 72) [.bytes #[x0, x1] tx, .int 2 tw]) Q E s := by
  k_fill
  intros
  rename_i B0 F0 X0 N0 T0 hk0 hdp hun hret
  refine' sl_call (sl_code_defT (K := hd.heap_39 w.params) B0 F0 X0 N0 T0 rfl rfl hk0 ?k6 ?k7 ?k8 ?k9 ?kB ?_ ?c1 ?c2 ?c3 ?c4)
  case k6 => k_is
  case k7 => k_is
  case k8 => ktr_room
  case k9 => exact BindsTo.of_eq rfl
  case kB => exact locs rfl
  case c1 => rfl
  case c2 => rfl
  case c3 => rfl
  case c4 => decide
  intro g' L' h' tk0 FG' F' N' B' X' T'
  try dsimp only
  refine sl_execs_cons ?_
  refine sl_Assign_Name ?_ ?_
  · refine sl_eval_Call (f := .type "bytearray") (by with_unfolding_all rfl) ?_
    iterate 1 walk1
    refine ⟨rfl, sl_typeE rfl ⟨_, _, rfl⟩ ?_⟩
    k_steps
    refine' by_make2 ?g ?F ?N (fun D9 h9 F9 N9 l9 n9 => ?_)
    case g => rfl
    case F => assumption
    case N => assumption
    k_steps
    refine sl_execs_consA ?_
    k_steps
    refine sl_execs_consA ?_
    k_steps
    all_goals (exact hret (by assumption) (Mine.dropN (by assumption)))
  · rfl
end
section
open PySem PySem.W PyProof.Rows
set_option Elab.async false
set_option maxRecDepth 100000
set_option maxHeartbeats 8000000
set_option pp.deepTerms false
set_option pp.deepTerms.threshold 3
set_option pp.proofs false
theorem walk_anew_9 : True := by w_top off; trivial
local macro_rules | `(tactic| walk_at "setItem ref int") => `(tactic| (k_here; k_dflt (refine' Mine.by_set3 ?F ?N ?a ?b ?e ?U ?_; (case F | N => k_asm); (case U => k_upd); (case a | b => decide); (case e => rfl)); intro h9 F9 N9; (try dsimp only [List.nil_append, List.cons_append] at N9)))
theorem bswap3_w {w : World} {p : Program} {loose : List Str} {mean : ExcName → Option Value} {mg mb : Str → Option Value} :
    ∀ {x0 x1 x2 : UInt8} {tx tw : Tok} {dp un : Nat} {cn : Str} {cs : Scope} {a' : Addr} {ccd : Value} {cl : List (Str × Addr)} {outer : List Env} {A₀ : Around} {base h₀ : Heap} {L : Addr} {m : Str → Option Value} {s : Shared} {Q E : Value → Shared → Prop} {news : List (Addr × Obj)},
    Below A₀ base outer h₀ → Fr h₀ L s.heap m → (hd.heap_39 w.params).In h₀ → News h₀ L s.heap news → Top p loose mean mg mb h₀ → cs.kind = .function → dp + 60 < recursionLimit → un + 600 < cLine →
    (∀ {t : Tok} {h' : Heap} {tk' : Nat}, Fr h₀ L h' m → News h₀ L h' news → Q (.bytes #[x2, x1, x0] t) { s with heap := h', toks := tk' }) →
    wpS (model PySem.Challenge.rw_zo0001_01.prog w) (ktrTop dp un (some []) cn cs L a' ccd cl outer) (call (.ref 72) [.bytes #[x0, x1, x2] tx, .int 3 tw]) Q E s := by
  k_fill
  intros
  rename_i B0 F0 X0 N0 T0 hk0 hdp hun hret
  refine' sl_call (sl_code_defT (K := hd.heap_39 w.params) B0 F0 X0 N0 T0 rfl rfl hk0 ?k6 ?k7 ?k8 ?k9 ?kB ?_ ?c1 ?c2 ?c3 ?c4)
  case k6 => k_is
  case k7 => k_is
  case k8 => ktr_room
  case k9 => exact BindsTo.of_eq rfl
  case kB => exact locs rfl
  case c1 => rfl
  case c2 => rfl
  case c3 => rfl
  case c4 => decide
  intro g' L' h' tk0 FG' F' N' B' X' T'
  try dsimp only
  refine sl_execs_cons ?_
  refine sl_Assign_Name ?_ ?_
  · refine sl_eval_Call (f := .type "bytearray") (by with_unfolding_all rfl) ?_
    iterate 1 walk1
    refine ⟨rfl, sl_typeE rfl ⟨_, _, rfl⟩ ?_⟩
    k_steps
    refine' by_make3 ?g ?F ?N (fun D9 h9 F9 N9 l9 n9 => ?_)
    case g => rfl
    case F => assumption
    case N => assumption
    k_steps
    refine sl_execs_consA ?_
    k_steps
    refine sl_execs_consA ?_
    k_steps
    all_goals (exact hret (by assumption) (Mine.dropN (by assumption)))
  · rfl
end
section
open PySem PySem.W PyProof.Rows
set_option Elab.async false
set_option maxRecDepth 100000
set_option maxHeartbeats 8000000
set_option pp.deepTerms false
set_option pp.deepTerms.threshold 3
set_option pp.proofs false
local macro_rules | `(tactic| walk_at "no such node") => `(tactic| fail)
theorem walk_anew_10 : True := by w_top off; trivial
local macro_rules | `(tactic| walk_at "setItem ref int") => `(tactic| (k_here; k_dflt (refine' Mine.by_set4 ?F ?N ?a ?b ?e ?U ?_; (case F | N => k_asm); (case U => k_upd); (case a | b => decide); (case e => rfl)); intro h9 F9 N9; (try dsimp only [List.nil_append, List.cons_append] at N9)))
theorem bswap4_w {w : World} {p : Program} {loose : List Str} {mean : ExcName → Option Value} {mg mb : Str → Option Value} :
    ∀ {x0 x1 x2 x3 : UInt8} {tx tw : Tok} {dp un : Nat} {cn : Str} {cs : Scope} {a' : Addr} {ccd : Value} {cl : List (Str × Addr)} {outer : List Env} {A₀ : Around} {base h₀ : Heap} {L : Addr} {m : Str → Option Value} {s : Shared} {Q E : Value → Shared → Prop} {news : List (Addr × Obj)},
    Below A₀ base outer h₀ → Fr h₀ L s.heap m → (hd.heap_39 w.params).In h₀ → News h₀ L s.heap news → Top p loose mean mg mb h₀ → cs.kind = .function → dp + 60 < recursionLimit → un + 600 < cLine →
    (∀ {t : Tok} {h' : Heap} {tk' : Nat}, Fr h₀ L h' m → News h₀ L h' news → Q (.bytes #[x3, x2, x1, x0] t) { s with heap := h', toks := tk' }) →
    wpS (model PySem.Challenge.rw_zo0001_01.prog w) (ktrTop dp un (some []) cn cs L a' ccd cl outer) (call (.ref 72) [.bytes #[x0, x1, x2, x3] tx, .int 4 tw]) Q E s := by
  k_fill
  intros
  rename_i B0 F0 X0 N0 T0 hk0 hdp hun hret
  refine' sl_call (sl_code_defT (K := hd.heap_39 w.params) B0 F0 X0 N0 T0 rfl rfl hk0 ?k6 ?k7 ?k8 ?k9 ?kB ?_ ?c1 ?c2 ?c3 ?c4)
  case k6 => k_is
  case k7 => k_is
  case k8 => ktr_room
  case k9 => exact BindsTo.of_eq rfl
  case kB => exact locs rfl
  case c1 => rfl
  case c2 => rfl
  case c3 => rfl
  case c4 => decide
  intro g' L' h' tk0 FG' F' N' B' X' T'
  try dsimp only
  refine sl_execs_cons ?_
  refine sl_Assign_Name ?_ ?_
  · refine sl_eval_Call (f := .type "bytearray") (by with_unfolding_all rfl) ?_
    iterate 1 walk1
    refine ⟨rfl, sl_typeE rfl ⟨_, _, rfl⟩ ?_⟩
    k_steps
    refine' by_make4 ?g ?F ?N (fun D9 h9 F9 N9 l9 n9 => ?_)
    case g => rfl
    case F => assumption
    case N => assumption
    k_steps
    refine sl_execs_consA ?_
    k_steps
    refine sl_execs_consA ?_
    k_steps
    all_goals (exact hret (by assumption) (Mine.dropN (by assumption)))
  · rfl
end
end
section
open PySem PySem.W PyProof.Rows
set_option Elab.async false
set_option maxRecDepth 100000
set_option maxHeartbeats 8000000
section Cut
variable {prog : Program} {w : World} {A : Around} {E : Value → Shared → Prop} {s : Shared} {value slice : PySem.Expr} {t : Tok} {h₀ : Heap} {L : Addr} {m : PySem.Str → Option Value} {news : List (Addr × Obj)} {l u : Value} {Q : Value → Shared → Prop} {a b c d : UInt8}
theorem pickL1 : KBy.picked #[a, b, c, d] none (some 1) = #[a] := by rfl
theorem cutLg {k0 : Int} {xs : Array UInt8} (hF : Fr h₀ L s.heap m) (hN : News h₀ L s.heap news) (hl : IsPart l none) (hu : IsPart u (some k0)) (hp : KBy.picked #[a, b, c, d] none (some k0) = xs)
    (h : ∀ h' t' k, Fr h₀ L h' m → News h₀ L h' news → Q (.bytes xs t') { s with heap := h', toks := k })
    (hs : subscripted slice false (.bytes #[a, b, c, d] t) (.ref s.heap.objs.size) = operate [.ref s.heap.objs.size, .bytes #[a, b, c, d] t] (getItem (.bytes #[a, b, c, d] t) (.ref s.heap.objs.size)) := by with_unfolding_all rfl)
    (ht : ∀ r, letTemporaryGo value (.bytes #[a, b, c, d] t) r = pure () := by intro _; with_unfolding_all rfl) :
    wpAny (model prog w) A (subscriptTail value slice (.bytes #[a, b, c, d] t) (.ref s.heap.objs.size)) Q E { s with heap := s.heap.push { cls := .type "slice", data := .fields #[l, u, .none] } } :=
  KBc.slice_K hF hN rfl hl hu (Nat.le_of_ble_eq_true rfl) (fun h' t' k F N _ => by rw [hp]; exact h h' t' k F N) hs ht
theorem cutRg {k0 : Int} {xs : Array UInt8} (hF : Fr h₀ L s.heap m) (hN : News h₀ L s.heap news) (hl : IsPart l (some k0)) (hu : IsPart u none) (hp : KBy.picked #[a, b, c, d] (some k0) none = xs)
    (h : ∀ h' t' k, Fr h₀ L h' m → News h₀ L h' news → Q (.bytes xs t') { s with heap := h', toks := k })
    (hs : subscripted slice false (.bytes #[a, b, c, d] t) (.ref s.heap.objs.size) = operate [.ref s.heap.objs.size, .bytes #[a, b, c, d] t] (getItem (.bytes #[a, b, c, d] t) (.ref s.heap.objs.size)) := by with_unfolding_all rfl)
    (ht : ∀ r, letTemporaryGo value (.bytes #[a, b, c, d] t) r = pure () := by intro _; with_unfolding_all rfl) :
    wpAny (model prog w) A (subscriptTail value slice (.bytes #[a, b, c, d] t) (.ref s.heap.objs.size)) Q E { s with heap := s.heap.push { cls := .type "slice", data := .fields #[l, u, .none] } } :=
  KBc.slice_K hF hN rfl hl hu (Nat.le_of_ble_eq_true rfl) (fun h' t' k F N _ => by rw [hp]; exact h h' t' k F N) hs ht
theorem pickR1 : KBy.picked #[a, b, c, d] (some 1) none = #[b, c, d] := by rw [KBc.picked_eq]; rfl
theorem pickL2 : KBy.picked #[a, b, c, d] none (some 2) = #[a, b] := by rfl
theorem pickR2 : KBy.picked #[a, b, c, d] (some 2) none = #[c, d] := by rw [KBc.picked_eq]; rfl
theorem pickL3 : KBy.picked #[a, b, c, d] none (some 3) = #[a, b, c] := by rfl
theorem pickR3 : KBy.picked #[a, b, c, d] (some 3) none = #[d] := by rw [KBc.picked_eq]; rfl
theorem pickL4 : KBy.picked #[a, b, c, d] none (some 4) = #[a, b, c, d] := by rfl
theorem pickR4 : KBy.picked #[a, b, c, d] (some 4) none = #[] := by rfl
end Cut
end
section
open PySem PySem.W PyProof.Rows
set_option Elab.async false
set_option maxRecDepth 100000
set_option maxHeartbeats 8000000
set_option pp.deepTerms false
set_option pp.deepTerms.threshold 3
set_option pp.proofs false

section Du
variable {Q : Value → Shared → Prop}
variable {prog : Program} {w : World} {A : Around} {E : Value → Shared → Prop} {s : Shared} {h₀ : Heap} {L : Addr} {m : Str → Option Value} {news : List (Addr × Obj)}
noncomputable abbrev rangeO (b : Int) (t u v : Tok) : Obj := { cls := .type "range", dict := none, data := .fields #[.int 0 t, .int b u, .int 1 v], slots := #[] }
theorem range_K {n : Int} {t : Tok} {Q : Value → Shared → Prop} (F : Fr h₀ L s.heap m) (N : News h₀ L s.heap news)
    (h : ∀ D h' tk t1 t2, Fr h₀ L h' m → News h₀ L h' ((D, rangeO n t1 t t2) :: news) → (∀ q ∈ news, q.1 < D) → Q (.ref D) { s with heap := h', toks := tk }) :
    wpAny (model prog w) A (call (.type "range") [.int n t]) Q E s :=
  call_range_1 (h _ _ _ _ _ (F.push _) (News.push F N _) fun q hq => Heap.lt_size (N q hq).1)
theorem code_collect_range {r : Addr} {b : Int} {t u v : Tok} {n : Nat} {R : Result → Shared → Prop} (hh : A.handled = none) (hr : s.heap.get? r = some (rangeO b t u v)) (hsmall : Builtin.Range.small 0 b 1 = true)
    (hn : Builtin.Range.rangeSize 0 b 1 = n) (hlen : n ≤ 2 ^ 24)
    (hR : ∀ h' tk acc' c' S, (∀ c o, s.heap.get? c = some o → h'.get? c = some o) → h'.get? S = some { cls := .type "list", dict := none, data := .seq acc' c', slots := #[] } → ItemsOf (fun i v => ∃ t, v = .int (0 + i * 1) t) acc' n → R (.ok (.ret (.ref S))) { s with heap := h', toks := tk }) :
    codeAny (model prog w) A (.builtin "proto.collect" ⟨[.ref r], []⟩) R s := by
  refine codeAny_builtin F.entry_proto_collect ?_
  rw [Around.under_plainId F.plain_proto_collect _]
  show wpAny _ A.in1 (newList [] >>= fun l => again (.builtin "list.__iadd__" ⟨[l, .ref r], []⟩)) _ _ s
  refine wpAny_bind (wpAny_newObj_type ?_)
  refine wpAny_pure ⟨plainId_quiet F.plain_list_iadd _, codeAny_builtin F.entry_list_iadd ?_⟩
  rw [Around.under_plainId F.plain_list_iadd _]
  show wpAny _ A.in1 (Builtin.List.listExtendWith (.ref s.heap.objs.size) (.ref r) (.ref s.heap.objs.size)) _ _ _
  exact wpAny_extend_range (s := { s with heap := s.heap.push { cls := .type "list", data := .seq ([] : List Value).toArray } }) (R := R) hh (Heap.get?_push_of_some _ hr) hsmall hn hlen s.heap.objs.size _ 0 (Heap.get?_push_size _ rfl) fun h' tk acc' c' hk hS hacc =>
    hR h' tk acc' c' _ (fun c o e => hk c o (Nat.ne_of_lt (Heap.lt_size e)) (Heap.get?_push_of_some _ e)) hS hacc
theorem collect_range {r : Addr} {b : Int} {t u v : Tok} {n : Nat} {Q : List Value → Shared → Prop} (hh : A.handled = none) (hr : s.heap.get? r = some (rangeO b t u v)) (hsmall : Builtin.Range.small 0 b 1 = true)
    (hn : Builtin.Range.rangeSize 0 b 1 = n) (hlen : n ≤ 2 ^ 24)
    (hQ : ∀ h' tk acc, (∀ c o, s.heap.get? c = some o → h'.get? c = some o) → ItemsOf (fun i v => ∃ t, v = .int i t) acc n → Q acc.toList { s with heap := h', toks := tk }) :
    wpAny (model prog w) A (collect (.ref r)) Q E s := by
  unfold collect
  refine wpAny_bind (wpAny_runValue (code_collect_range hh hr hsmall hn hlen fun h' tk acc' c' S hk hS hacc => ?_))
  show wpAny _ A (load S >>= _) _ _ _
  refine wpAny_bind (wpAny_load hS ?_)
  refine wpAny_pure (hQ h' tk acc' hk ?_)
  refine ⟨hacc.1, fun j v hj => ?_⟩
  obtain ⟨t, e⟩ := hacc.2 j v hj
  exact ⟨t, by rw [e]; congr 1; omega +splitDisjunctions⟩
theorem four_list {α : Type} {l : List α} (h : l.length = 4) : ∃ a b c d, l = [a, b, c, d] := by
  obtain ⟨a, l, rfl⟩ := List.exists_cons_of_length_eq_add_one h
  obtain ⟨b, l, rfl⟩ := List.exists_cons_of_length_eq_add_one (Nat.succ.inj h)
  obtain ⟨c, l, rfl⟩ := List.exists_cons_of_length_eq_add_one (Nat.succ.inj (Nat.succ.inj h))
  obtain ⟨d, l, rfl⟩ := List.exists_cons_of_length_eq_add_one (Nat.succ.inj (Nat.succ.inj (Nat.succ.inj h)))
  obtain rfl := List.eq_nil_of_length_eq_zero (Nat.succ.inj (Nat.succ.inj (Nat.succ.inj (Nat.succ.inj h))))
  exact ⟨a, b, c, d, rfl⟩
theorem items_ints {acc : Array Value} : ∀ {n : Nat}, ItemsOf (fun i v => ∃ t, v = .int i t) acc n → n = 4 → ∃ t0 t1 t2 t3, acc.toList = [.int 0 t0, .int 1 t1, .int 2 t2, .int 3 t3] := by
  intro n h hn
  subst hn
  obtain ⟨hs, hv⟩ := h
  obtain ⟨l⟩ := acc
  simp only [List.size_toArray] at hs
  obtain ⟨x0, x1, x2, x3, rfl⟩ := four_list hs
  obtain ⟨t0, rfl⟩ := hv 0 x0 rfl
  obtain ⟨t1, rfl⟩ := hv 1 x1 rfl
  obtain ⟨t2, rfl⟩ := hv 2 x2 rfl
  obtain ⟨t3, rfl⟩ := hv 3 x3 rfl
  exact ⟨t0, t1, t2, t3, rfl⟩
theorem rs_sorted {kz : List Int} {f : Value} {r : Addr} {t u v : Tok} (hh : A.handled = none) (F : Fr h₀ L s.heap m) (N : News h₀ L s.heap news) (hr : (r, rangeO 4 t u v) ∈ news) (hlen : kz.length = 4)
    (ht : ∀ x, Builtin.«list.sort» ⟨[.ref x], [(Str.ofString "key", f)]⟩ = ksk_tree x f false)
    (turn : ∀ (i : Nat) (k : Int) (t : Tok), i < 4 → kz[i]? = some k → ∀ (h : Heap) (tk : Nat) (own : List (Addr × Obj)), Fr h₀ L h m → News h₀ L h (news ++ own) →
      wpAny (model prog w) A.in1.in1 (call f [.int i t]) (KskEnd h₀ L m (news ++ own) k { s with heap := h, toks := tk }) (fun _ _ => False) { s with heap := h, toks := tk })
    (h : ∀ D h' tk out c t0 t1 t2 t3, Fr h₀ L h' m → News h₀ L h' ((D, seqObj "list" out c) :: news) → (∀ q ∈ news, q.1 < D) → KskOut false kz [.int 0 t0, .int 1 t1, .int 2 t2, .int 3 t3] out.toList → Q (.ref D) { s with heap := h', toks := tk }) :
    wpAny (model prog w) A (call (.builtin "sorted") [.ref r] [(Str.ofString "key", f)]) Q E s := by
  have hro : s.heap.get? r = some (rangeO 4 t u v) := (N _ hr).1
  refine call_function_entry_kw kind_sorted plain_sorted entry_sorted (ksk_s1 _ _) ?_
  unfold Builtin.«sorted»
  refine wpAny_bind (m := checkCount "sorted" 1 1 _) (wpAny_pure ?_)
  refine wpAny_bind (collect_range (n := 4) hh hro (by decide +kernel) (by decide +kernel) (by decide) fun h₁ tk₁ acc hk₁ hacc => ?_)
  obtain ⟨t0, t1, t2, t3, e⟩ := items_ints hacc rfl
  rw [e]
  refine wpAny_bind (wpAny_newList ?_ (by rw [sizeLine_eq]; show 4 ≤ _; decide))
  have hL : L < h₁.objs.size := (F.keeps hk₁).ns.lt
  have keep : ∀ b o, s.heap.get? b = some o → (h₁.push (seqObj "list" ([.int 0 t0, .int 1 t1, .int 2 t2, .int 3 t3] : List Value).toArray 0)).get? b = some o := fun b o q => Heap.get?_push_of_some _ (hk₁ b o q)
  refine wpAny_bind (wpAny_holding (wpAny_call_entry_kw slot_list_sort ⟨_, Heap.get?_push_size _ rfl, rfl⟩ entry_list_sort ?body (ksk_l1 _ _)))
  case body =>
    have ht' := ht h₁.objs.size
    show wpAny (model prog w) A.in1.in1 (Builtin.«list.sort» ⟨[.ref h₁.objs.size], [(Str.ofString "key", f)]⟩) _ _ _
    rw [ht']
    refine ksk_sort (vs := [.int 0 t0, .int 1 t1, .int 2 t2, .int 3 t3]) (kz := kz) (F.keeps keep) (fun p hp => ⟨keep _ _ (N p hp).1, (N p hp).2⟩) (Heap.get?_push_size _ rfl) (Nat.ne_of_gt hL) (Heap.get?_none_of_le (Nat.le_trans F.above (Nat.le_of_lt hL)))
      (fun p hp => Nat.ne_of_lt (Heap.lt_size (hk₁ _ _ (N p hp).1))) (by rw [hlen]; rfl) (show 4 < 64 by decide) (fun i v k hv hk h tk own F' N' => ?_) fun h' tk out c F' N' k' => ⟨_, rfl, ?_⟩
    · have hi : i < 4 := by
        rcases Nat.lt_or_ge i 4 with x | x
        · exact x
        · rw [List.getElem?_eq_none (by simpa using x)] at hv; cases hv
      have : ∃ t, v = .int i t := by
        match i, hi with
        | 0, _ => exact ⟨t0, by simpa using hv.symm⟩
        | 1, _ => exact ⟨t1, by simpa using hv.symm⟩
        | 2, _ => exact ⟨t2, by simpa using hv.symm⟩
        | 3, _ => exact ⟨t3, by simpa using hv.symm⟩
      obtain ⟨t', rfl⟩ := this
      exact turn i k t' hi hk h tk own F' N'
    · exact wpAny_pure ⟨_, rfl, h _ h' tk out c t0 t1 t2 t3 F' N' (fun q hq => Heap.lt_size (hk₁ _ _ (N q hq).1)) k'⟩
noncomputable abbrev keyAt (a b c d : Int) (i : Int) : Int := [a, b, c, d].getD i.toNat 0
theorem rs_rank {a b c d : Int} {t0 t1 t2 t3 : Tok} {out : Array Value} (h : KskOut false [a, b, c, d] [.int 0 t0, .int 1 t1, .int 2 t2, .int 3 t3] out.toList) :
    ∃ p q r s tp tq tr ts, out = #[.int p tp, .int q tq, .int r tr, .int s ts] ∧ [p, q, r, s].Perm [0, 1, 2, 3] ∧ keyAt a b c d p ≤ keyAt a b c d q ∧ keyAt a b c d q ≤ keyAt a b c d r ∧ keyAt a b c d r ≤ keyAt a b c d s := by
  obtain ⟨ps, hp, ho, hs⟩ := h
  have hz : ([a, b, c, d] : List Int).zip ([.int 0 t0, .int 1 t1, .int 2 t2, .int 3 t3] : List Value) = [(a, .int 0 t0), (b, .int 1 t1), (c, .int 2 t2), (d, .int 3 t3)] := rfl
  rw [hz] at hp
  have hrel : ∀ x ∈ ps, ∃ i t, x = (keyAt a b c d i, Value.int i t) := by
    intro x hx
    have := hp.mem_iff.mp hx
    simp only [List.mem_cons, List.not_mem_nil, or_false] at this
    rcases this with rfl | rfl | rfl | rfl
    · exact ⟨0, t0, rfl⟩
    · exact ⟨1, t1, rfl⟩
    · exact ⟨2, t2, rfl⟩
    · exact ⟨3, t3, rfl⟩
  obtain ⟨x0, x1, x2, x3, rfl⟩ := four_list (show ps.length = 4 from hp.length_eq)
  obtain ⟨p, tp, rfl⟩ := hrel x0 (.head _)
  obtain ⟨q, tq, rfl⟩ := hrel x1 (.tail _ (.head _))
  obtain ⟨r, tr, rfl⟩ := hrel x2 (.tail _ (.tail _ (.head _)))
  obtain ⟨s, ts, rfl⟩ := hrel x3 (.tail _ (.tail _ (.tail _ (.head _))))
  have hP := (hp.map Prod.snd).map numOf
  obtain ⟨g1, hs⟩ := List.pairwise_cons.mp hs
  obtain ⟨g2, hs⟩ := List.pairwise_cons.mp hs
  obtain ⟨g3, -⟩ := List.pairwise_cons.mp hs
  refine ⟨p, q, r, s, tp, tq, tr, ts, ?_, hP, ?_, ?_, ?_⟩
  · apply Array.ext'; rw [ho]; rfl
  · exact g1 _ (.head _)
  · exact g2 _ (.head _)
  · exact g3 _ (.head _)
theorem rs_due {a b c d : Int} {ta tb tc td : Tok} {n : Nat} {l : Addr} {f : Value} {r : Addr} {t u v : Tok} (hh : A.handled = none) (F : Fr h₀ L s.heap m) (N : News h₀ L s.heap news) (hr : (r, rangeO 4 t u v) ∈ news)
    (_hl : (l, W.listOf #[.int a ta, .int b tb, .int c tc, .int d td] n) ∈ news)
    (ht : ∀ x, Builtin.«list.sort» ⟨[.ref x], [(Str.ofString "key", f)]⟩ = ksk_tree x f false)
    (turn0 : ∀ (t : Tok) (h : Heap) (tk : Nat) (own : List (Addr × Obj)), Fr h₀ L h m → News h₀ L h (news ++ own) → wpAny (model prog w) A.in1.in1 (call f [.int 0 t]) (KskEnd h₀ L m (news ++ own) a { s with heap := h, toks := tk }) (fun _ _ => False) { s with heap := h, toks := tk })
    (turn1 : ∀ (t : Tok) (h : Heap) (tk : Nat) (own : List (Addr × Obj)), Fr h₀ L h m → News h₀ L h (news ++ own) → wpAny (model prog w) A.in1.in1 (call f [.int 1 t]) (KskEnd h₀ L m (news ++ own) b { s with heap := h, toks := tk }) (fun _ _ => False) { s with heap := h, toks := tk })
    (turn2 : ∀ (t : Tok) (h : Heap) (tk : Nat) (own : List (Addr × Obj)), Fr h₀ L h m → News h₀ L h (news ++ own) → wpAny (model prog w) A.in1.in1 (call f [.int 2 t]) (KskEnd h₀ L m (news ++ own) c { s with heap := h, toks := tk }) (fun _ _ => False) { s with heap := h, toks := tk })
    (turn3 : ∀ (t : Tok) (h : Heap) (tk : Nat) (own : List (Addr × Obj)), Fr h₀ L h m → News h₀ L h (news ++ own) → wpAny (model prog w) A.in1.in1 (call f [.int 3 t]) (KskEnd h₀ L m (news ++ own) d { s with heap := h, toks := tk }) (fun _ _ => False) { s with heap := h, toks := tk })
    (h : ∀ D h' tk c' p q r s' t1 t2 t3 t4, Fr h₀ L h' m → News h₀ L h' ((D, W.listOf #[.int p t1, .int q t2, .int r t3, .int s' t4] c') :: news) → (∀ q ∈ news, q.1 < D) → [p, q, r, s'].Perm [0, 1, 2, 3] →
      keyAt a b c d p ≤ keyAt a b c d q → keyAt a b c d q ≤ keyAt a b c d r → keyAt a b c d r ≤ keyAt a b c d s' → 0 ≤ p → p < 4 → 0 ≤ q → q < 4 → 0 ≤ r → r < 4 → 0 ≤ s' → s' < 4 → Q (.ref D) { s with heap := h', toks := tk }) :
    wpAny (model prog w) A (call (.builtin "sorted") [.ref r] [(Str.ofString "key", f)]) Q E s := by
  refine rs_sorted (kz := [a, b, c, d]) hh F N hr rfl ht (fun i k t hi hk h tk own F' N' => ?_) fun D h' tk out c' t0 t1 t2 t3 F' N' l1 ho => ?_
  · match i, hi with
    | 0, _ => cases hk; exact turn0 t h tk own F' N'
    | 1, _ => cases hk; exact turn1 t h tk own F' N'
    | 2, _ => cases hk; exact turn2 t h tk own F' N'
    | 3, _ => cases hk; exact turn3 t h tk own F' N'
  · obtain ⟨p, q, r, s', tp, tq, tr, ts, rfl, hp, o1, o2, o3⟩ := rs_rank ho
    have bd : ∀ x ∈ [p, q, r, s'], 0 ≤ x ∧ x < 4 := fun x hx => by
      have := hp.mem_iff.mp hx
      simp only [List.mem_cons, List.not_mem_nil, or_false] at this
      omega +splitDisjunctions
    have b1 := bd p (by simp); have b2 := bd q (by simp); have b3 := bd r (by simp); have b4 := bd s' (by simp)
    exact h D h' tk c' p q r s' tp tq tr ts F' N' l1 hp o1 o2 o3 b1.1 b1.2 b2.1 b2.2 b3.1 b3.2 b4.1 b4.2
end Du
end
section
open PySem PySem.W PyProof.Rows
set_option Elab.async false
set_option maxRecDepth 100000
set_option maxHeartbeats 8000000
section Lby
open PySem.Calls
variable {prog : Program} {w : World} {A : Around} {E : Value → Shared → Prop} {s : Shared} {h₀ : Heap} {L : Addr} {m : Str → Option Value} {news : List (Addr × Obj)}
noncomputable def ByteAt (b : Array UInt8) : Nat → Value → Prop := fun i v => ∃ c u, b[i]? = some c ∧ v = .int (c.toNat : Int) u
theorem lby_len : typeLookup (.type "bytes") "__len__" = pure (some (.builtin "bytes.__len__")) := by rw [typeLookup_type, builtinLookup_eq_fast]; kernel_rfl
theorem lby_extend {R : Result → Shared → Prop} (hh : A.handled = none) (x : Array UInt8) (t : Tok) (S : Addr) (res : Value) (c₀ : Nat) (hS : s.heap.get? S = some { cls := .type "list", data := .seq #[] c₀ })
    (hR : ∀ h' tk acc' c', (∀ b o, b ≠ S → s.heap.get? b = some o → h'.get? b = some o) → h'.get? S = some { cls := .type "list", dict := none, data := .seq acc' c', slots := #[] } →
      ItemsOf (ByteAt x) acc' x.size → R (.ok (.ret res)) { s with heap := h', toks := tk }) (hn : x.size ≤ sizeLine) :
    wpAny (model prog w) A.in1 (Builtin.List.listExtendWith (.ref S) (.bytes x t) res)
      (fun fin s' => match fin with | .done f => R (.ok f) s' | .again c' => c'.quiet = true ∧ codeAny (model prog w) A c' R s') (fun e s' => R (.error e) s') s := by
  have hSI : S ≠ s.heap.objs.size := Nat.ne_of_lt (Heap.lt_size hS)
  have hSf : S ∉ [s.heap.objs.size] := fun hm => hSI (List.mem_singleton.mp hm)
  have hT : ∀ s' : Shared, s'.TypeIs (.bytes x t) "bytes" := fun s' => typeIs_bytes _ _ _
  unfold Builtin.List.listExtendWith
  refine wpAny_bind (wpAny_typeOf (hT _) ?_)
  have h1 : Builtin.List.listSameRef (.ref S) (.bytes x t) = false := rfl
  have h2 : (Value.type "bytes" == Value.type "list") = false := by decide
  have h3 : (Value.type "bytes" == Value.type "tuple") = false := by decide
  simp only [h1, h2, h3, Bool.or_false, Bool.false_eq_true, if_false]
  refine wpAny_bind (KBw.pyIter_bytes ?_)
  refine wpAny_bind (wpAny_holding ?_)
  unfold Builtin.List.listLengthHint
  refine wpAny_bind (wpAny_specialOf (hT _) lby_len ?_)
  wp_delta
  refine wpAny_bind (wpAny_isInstance (T := "bytes") (v := .bytes x t) (b := true) (hT _) (by rw [isSubtype_type]; kernel_rfl) ?_)
  show wpAny _ _ (typeOf (Value.bytes x t) >>= _) _ _ _
  refine wpAny_bind (wpAny_typeOf (hT _) ?_)
  refine wpAny_pure ?_
  rw [if_neg (by decide)]
  have hst : KBw.IsBytesIter (s.heap.push { cls := .type "bytes_iterator", data := .fields #[.bytes x t, .int 0 0] }) s.heap.objs.size x t 0 := ⟨_, Heap.get?_push_size _ rfl, rfl, rfl⟩
  refine wpAny_pure ⟨plainId_quiet F.plain_extend_loop _, codeAny_extend_loopS (KBw.walks (A := A.in1) hh s.heap.objs.size x t).toS hn _ hSf _ x.size 0 _ _ _ rfl (Nat.zero_le _) hst (Heap.get?_push_of_some _ hS) (ItemsOf.nil _) fun s' acc' c' hm hS' hacc => ?_⟩
  rw [Moved.eq_with hm]
  refine hR s'.heap s'.toks acc' c' (fun b ob hb e => hm.heap b ob (fun hmem => ?_) (Heap.get?_push_of_some _ e)) hS' hacc
  rcases List.mem_cons.mp hmem with e' | hmem
  · exact hb e'
  · exact absurd (Heap.lt_size e) (by rw [List.mem_singleton.mp hmem]; exact Nat.lt_irrefl _)
theorem lby_init {R : Result → Shared → Prop} (hh : A.handled = none) (x : Array UInt8) (t : Tok) (S : Addr) (hS : s.heap.get? S = some { cls := .type "list", data := .seq #[] })
    (hR : ∀ h' tk acc' c', (∀ b o, b ≠ S → s.heap.get? b = some o → h'.get? b = some o) → h'.get? S = some { cls := .type "list", dict := none, data := .seq acc' c', slots := #[] } →
      ItemsOf (ByteAt x) acc' x.size → R (.ok (.ret .none)) { s with heap := h', toks := tk }) (hn : x.size ≤ sizeLine) :
    wpAny (model prog w) A.in1 (Builtin.«list.__init__» ⟨[.ref S, .bytes x t], []⟩)
      (fun fin s' => match fin with | .done f => R (.ok f) s' | .again c' => c'.quiet = true ∧ codeAny (model prog w) A c' R s') (fun e s' => R (.error e) s') s := by
  show wpAny _ _ (do let old ← Builtin.List.listItems (.ref S); Builtin.List.listUpdate (.ref S) (fun _ => #[]); letGo old.toList.reverse; Builtin.List.listExtendWith (.ref S) (.bytes x t) .none) _ _ s
  refine wpAny_bind ?_
  unfold Builtin.List.listItems
  refine wpAny_bind (wpAny_seqItems hS rfl (wpAny_pure ?_))
  show wpAny _ _ (updateSeq S (fun _ => #[]) >>= fun _ => letGo (#[] : Array Value).toList.reverse >>= fun _ => Builtin.List.listExtendWith (.ref S) (.bytes x t) .none) _ _ s
  refine wpAny_bind (wpAny_updateSeq hS rfl ?_)
  have hS₂ := Heap.get?_update_self (Obj.mapSeq (fun _ => (#[] : Array Value))) hS rfl
  have oth : ∀ b o, b ≠ S → s.heap.get? b = some o → (s.heap.update S (Obj.mapSeq (fun _ => (#[] : Array Value)))).get? b = some o :=
    fun b o hb e => (Heap.get?_update_other _ _ (Ne.symm hb)).trans e
  refine wpAny_bind (wpAny_letGo ?_)
  refine lby_extend hh x t S .none _ hS₂ (fun h' tk acc' c' hk hS' hacc => ?_) hn
  exact hR h' tk acc' c' (fun b o hb e => hk b o hb (oth b o hb e)) hS' hacc
theorem lby_call {Q : Value → Shared → Prop} (hh : A.handled = none) (x : Array UInt8) (t : Tok)
    (hQ : ∀ h' tk acc' c', (∀ b o, s.heap.get? b = some o → h'.get? b = some o) →
      h'.get? s.heap.objs.size = some { cls := .type "list", dict := none, data := .seq acc' c', slots := #[] } → ItemsOf (ByteAt x) acc' x.size → Q (.ref s.heap.objs.size) { s with heap := h', toks := tk }) (hn : x.size ≤ sizeLine) :
    wpAny (model prog w) A (call (.type "list") [.bytes x t]) Q E s := by
  refine callType_codes (Q₁ := fun obj s₁ => obj = .ref s.heap.objs.size ∧ s₁ = { s with heap := s.heap.push { cls := .type "list", data := .seq #[] } }) F.called_list (F.typeCall_list_1 _) F.entry_list_init
    (code_list_new _ ⟨rfl, rfl⟩) fun obj s₁ h₁ => ?_
  obtain ⟨rfl, rfl⟩ := h₁
  have hS : (s.heap.push { cls := .type "list", data := .seq #[] }).get? s.heap.objs.size = some { cls := .type "list", data := .seq #[] } := Heap.get?_push_size _ rfl
  refine ⟨⟨_, hS, rfl⟩, F.args_list_init_2 _ _, lby_init (A := A.in1) hh x t _ hS (fun h' tk acc' c' hk hS' hacc => ?_) hn⟩
  exact ⟨rfl, hQ h' tk acc' c' (fun b o e => hk b o (Nat.ne_of_lt (Heap.lt_size e)) (Heap.get?_push_of_some _ e)) hS' hacc⟩
theorem lby_four {a b c d : UInt8} {acc : Array Value} (h : ItemsOf (ByteAt #[a, b, c, d]) acc 4) : ∃ t0 t1 t2 t3, acc = #[.int (a.toNat : Int) t0, .int (b.toNat : Int) t1, .int (c.toNat : Int) t2, .int (d.toNat : Int) t3] := by
  obtain ⟨hs, hv⟩ := h
  obtain ⟨l⟩ := acc
  simp only [List.size_toArray] at hs
  obtain ⟨x0, x1, x2, x3, rfl⟩ := four_list hs
  obtain ⟨_, t0, e0, rfl⟩ := hv 0 x0 rfl
  obtain ⟨_, t1, e1, rfl⟩ := hv 1 x1 rfl
  obtain ⟨_, t2, e2, rfl⟩ := hv 2 x2 rfl
  obtain ⟨_, t3, e3, rfl⟩ := hv 3 x3 rfl
  obtain rfl := Option.some.inj e0
  obtain rfl := Option.some.inj e1
  obtain rfl := Option.some.inj e2
  obtain rfl := Option.some.inj e3
  exact ⟨t0, t1, t2, t3, rfl⟩
theorem lby_K {a b c d : UInt8} {a1 b1 c1 d1 : Int} {t : Tok} {Q : Value → Shared → Prop} (hh : A.handled = none) (F : Fr h₀ L s.heap m) (N : News h₀ L s.heap news)
    (ea : (a.toNat : Int) = a1) (eb : (b.toNat : Int) = b1) (ec : (c.toNat : Int) = c1) (ed : (d.toNat : Int) = d1)
    (h : ∀ D h' tk n t0 t1 t2 t3, Fr h₀ L h' m → News h₀ L h' ((D, W.listOf #[.int a1 t0, .int b1 t1, .int c1 t2, .int d1 t3] n) :: news) → (∀ q ∈ news, q.1 < D) → Q (.ref D) { s with heap := h', toks := tk }) :
    wpAny (model prog w) A (call (.type "list") [.bytes #[a, b, c, d] t]) Q E s := by
  subst ea eb ec ed
  refine lby_call hh _ t (fun h' tk acc' c' hk hS hacc => ?_) (Nat.le_of_ble_eq_true rfl)
  obtain ⟨t0, t1, t2, t3, rfl⟩ := lby_four hacc
  have hL : L < s.heap.objs.size := F.ns.lt
  refine h _ h' tk c' t0 t1 t2 t3 (F.keeps hk) (fun p hp => ?_) fun q hq => Heap.lt_size (N q hq).1
  rcases List.mem_cons.mp hp with rfl | hp
  · exact ⟨hS, Nat.ne_of_gt hL, Heap.get?_none_of_le (Nat.le_trans F.above (Nat.le_of_lt hL))⟩
  · exact ⟨hk _ _ (N p hp).1, (N p hp).2⟩
end Lby
end
section
open PySem PySem.W PyProof.Rows
set_option Elab.async false
set_option maxRecDepth 100000
set_option maxHeartbeats 8000000
theorem oct_back {a : Int} (h0 : 0 ≤ a) (h1 : a ≤ 255) : ((a.toNat.toUInt8.toNat : Nat) : Int) = a := by
  have e : a.toNat.toUInt8.toNat = a.toNat % 256 := UInt8.toNat_ofNat'
  rw [e]; omega +splitDisjunctions
noncomputable def sideG (p s : Int) : Int := if s = 0 then 0 else if p.fmod (3 * s) = 0 then 0 else if p.fmod (6 * s) < 3 * s then 1 else -1
theorem sl_execs_nil {M : Model} {A : Around} {env : Env} {Q : Flow → Shared → Prop} {E : Value → Shared → Prop} {s : Shared} (h : Q .next s) : wpS M A (execs [] env) Q E s := fun _ _ _ _ _ => h
theorem coll_fit {x y : Str} {b : Int} : PySem.IntMulOk (collS x y) b := by
  refine PySem.IntMulOk.of_left (PySem.intBits_le_64 ?_ ?_) <;>
  · unfold collS b2i
    split <;> split <;> decide
theorem news_in {h₀ h : Heap} {L : Addr} {a b c : Addr × Obj} {l : List (Addr × Obj)} (N : News h₀ L h (a :: b :: c :: l)) : News h₀ L h (c :: a :: b :: l) := fun p hp => N p (by
  simp only [List.mem_cons] at hp ⊢
  rcases hp with h | h | h | h
  · exact .inr (.inr (.inl h))
  · exact .inl h
  · exact .inr (.inl h)
  · exact .inr (.inr (.inr h)))
theorem news_out {h₀ h : Heap} {L : Addr} {a b c : Addr × Obj} {l : List (Addr × Obj)} (N : News h₀ L h (c :: a :: b :: l)) : News h₀ L h (a :: b :: c :: l) := fun p hp => N p (by
  simp only [List.mem_cons] at hp ⊢
  rcases hp with h | h | h | h
  · exact .inr (.inl h)
  · exact .inr (.inr (.inl h))
  · exact .inl h
  · exact .inr (.inr (.inr h)))
end
section
open PySem PySem.W PyProof.Rows
set_option Elab.async false
set_option maxRecDepth 100000
set_option maxHeartbeats 8000000
set_option pp.deepTerms false
set_option pp.deepTerms.threshold 3
set_option pp.proofs false
noncomputable def fgt (a b : UInt64) : Bool := Float64.cmp a b == some Ordering.gt
noncomputable def flt (a b : UInt64) : Bool := Float64.cmp a b == some Ordering.lt
noncomputable def feq (a b : UInt64) : Bool := Float64.cmp a b == some Ordering.eq
noncomputable def fmax3 (a b c : UInt64) : UInt64 := if fgt b a then (if fgt c b then c else b) else (if fgt c a then c else a)
noncomputable def fmin3 (a b c : UInt64) : UInt64 := if flt b a then (if flt c b then c else b) else (if flt c a then c else a)
section
variable {prog : Program} {w : World} {A : Around} {E : Value → Shared → Prop} {s : Shared} {h₀ : Heap} {L : Addr} {m : Str → Option Value} {news : List (Addr × Obj)}
noncomputable def floAt (xs : Array (UInt64 × Tok)) (i : Nat) : UInt64 := (xs[i]?.map (·.1)).getD 0
noncomputable def floItems (xs : Array (UInt64 × Tok)) : Array Value := xs.map fun p => .float p.1 p.2
theorem floItems_at {xs : Array (UInt64 × Tok)} {i : Nat} {v : Value} (h : (floItems xs)[i]? = some v) : ∃ t, v = .float (floAt xs i) t := by
  simp only [floItems, Array.getElem?_map, Option.map_eq_some_iff] at h
  obtain ⟨q, hq, rfl⟩ := h
  exact ⟨q.2, by simp [floAt, hq]⟩
theorem cmp_flo_gt {P : Nat → Value → Prop} (val : Nat → UInt64) (hval : ∀ i v, P i v → ∃ t, v = .float (val i) t) :
    CmpOf prog w A .Gt P (fun i j => fgt (val i) (val j)) := fun i j vi vj s Q E hi hj h => by
  obtain ⟨t, rfl⟩ := hval i vi hi
  obtain ⟨u, rfl⟩ := hval j vj hj
  show wpAny _ _ (compareOp .Gt _ _) _ _ _
  exact AutoFloatOps.gt_0 h
theorem cmp_flo_lt {P : Nat → Value → Prop} (val : Nat → UInt64) (hval : ∀ i v, P i v → ∃ t, v = .float (val i) t) :
    CmpOf prog w A .Lt P (fun i j => flt (val i) (val j)) := fun i j vi vj s Q E hi hj h => by
  obtain ⟨t, rfl⟩ := hval i vi hi
  obtain ⟨u, rfl⟩ := hval j vj hj
  show wpAny _ _ (compareOp .Lt _ _) _ _ _
  exact AutoFloatOps.lt_0 h

theorem tup_hold {xs : Array Value} {h' : Heap} (hk : ∀ b o, b ∉ [s.heap.objs.size + 1] → ((s.heap.push { cls := .type "tuple", data := .seq xs }).push { cls := .type "tuple_iterator", data := .fields #[.ref s.heap.objs.size, .int 0 0] }).get? b = some o → h'.get? b = some o) :
    ∀ d o, s.heap.get? d = some o → h'.get? d = some o := fun d o e => by
  refine hk d o (fun hm => ?_) (Heap.get?_push_of_some _ (Heap.get?_push_of_some _ e))
  have h1 := Heap.lt_size e
  simp only [List.mem_singleton] at hm
  subst hm
  exact absurd h1 (Nat.not_lt.mpr (Nat.le_succ _))

theorem max3_flo {a b c : UInt64} {t u x : Tok} {Q : Value → Shared → Prop} (hh : A.handled = none) (F : Fr h₀ L s.heap m) (N : News h₀ L s.heap news)
    (h : ∀ h' tk tk', Fr h₀ L h' m → News h₀ L h' news → Q (.float (fmax3 a b c) tk) { s with heap := h', toks := tk' }) :
    wpAny (model prog w) A (call (.builtin "max") [.float a t, .float b u, .float c x]) Q E s := by
  have hT : (s.heap.push { cls := .type "tuple", data := .seq #[.float a t, .float b u, .float c x] }).IsTuple s.heap.objs.size (floItems #[(a, t), (b, u), (c, x)]) := ⟨_, Heap.get?_push_size _ rfl, rfl, 0, by simp [floItems]⟩
  refine call_max_three (wpAny_pyIter_tuple hT ?_)
  have hsz : (s.heap.push { cls := .type "tuple", data := .seq #[.float a t, .float b u, .float c x] }).objs.size = s.heap.objs.size + 1 := Heap.size_push ..
  refine ⟨_, [_, s.heap.objs.size], [_], _, _, _, _, rfl, Walks.tuple (A := A.in1) hh _ s.heap.objs.size (by rw [hsz]; exact Nat.ne_of_lt (Nat.lt_succ_self _)) (floItems #[(a, t), (b, u), (c, x)]),
    ⟨⟨_, Heap.get?_push_size _ rfl, rfl, rfl⟩, hT.push _⟩, fun d hd => ?_, by simp [floItems], cmp_flo_gt (floAt #[(a, t), (b, u), (c, x)]) (fun _ _ => floItems_at), fun v h' tk hP hk => ?_⟩
  · show d < ((s.heap.push _).push _).objs.size
    rw [Heap.size_push, hsz]
    simp only [List.mem_cons, List.not_mem_nil, or_false, hsz] at hd
    rcases hd with rfl | rfl
    · exact Nat.lt_succ_self _
    · exact Nat.lt_succ_of_lt (Nat.lt_succ_self _)
  · rw [hsz] at hk
    have hold := tup_hold hk
    have hP' : (floItems #[(a, t), (b, u), (c, x)])[argBest (fun i j => fgt (floAt #[(a, t), (b, u), (c, x)] i) (floAt #[(a, t), (b, u), (c, x)] j)) 2]? = some v := by
      have hsz2 : (floItems #[(a, t), (b, u), (c, x)]).size - 1 = 2 := by simp [floItems]
      rw [← hsz2]; exact hP
    have hv : ∃ tk, v = .float (fmax3 a b c) tk := by
      by_cases h1 : fgt b a <;> by_cases h2 : fgt c b <;> by_cases h3 : fgt c a <;>
        simp [argBest, floAt, floItems, fmax3, h1, h2, h3] at hP' ⊢ <;> exact ⟨_, hP'.symm⟩
    obtain ⟨tk1, rfl⟩ := hv
    exact h h' tk1 tk (F.grownK hold) (N.grown hold)

theorem min3_flo {a b c : UInt64} {t u x : Tok} {Q : Value → Shared → Prop} (hh : A.handled = none) (F : Fr h₀ L s.heap m) (N : News h₀ L s.heap news)
    (h : ∀ h' tk tk', Fr h₀ L h' m → News h₀ L h' news → Q (.float (fmin3 a b c) tk) { s with heap := h', toks := tk' }) :
    wpAny (model prog w) A (call (.builtin "min") [.float a t, .float b u, .float c x]) Q E s := by
  have hT : (s.heap.push { cls := .type "tuple", data := .seq #[.float a t, .float b u, .float c x] }).IsTuple s.heap.objs.size (floItems #[(a, t), (b, u), (c, x)]) := ⟨_, Heap.get?_push_size _ rfl, rfl, 0, by simp [floItems]⟩
  refine call_min_three (wpAny_pyIter_tuple hT ?_)
  have hsz : (s.heap.push { cls := .type "tuple", data := .seq #[.float a t, .float b u, .float c x] }).objs.size = s.heap.objs.size + 1 := Heap.size_push ..
  refine ⟨_, [_, s.heap.objs.size], [_], _, _, _, _, rfl, Walks.tuple (A := A.in1) hh _ s.heap.objs.size (by rw [hsz]; exact Nat.ne_of_lt (Nat.lt_succ_self _)) (floItems #[(a, t), (b, u), (c, x)]),
    ⟨⟨_, Heap.get?_push_size _ rfl, rfl, rfl⟩, hT.push _⟩, fun d hd => ?_, by simp [floItems], cmp_flo_lt (floAt #[(a, t), (b, u), (c, x)]) (fun _ _ => floItems_at), fun v h' tk hP hk => ?_⟩
  · show d < ((s.heap.push _).push _).objs.size
    rw [Heap.size_push, hsz]
    simp only [List.mem_cons, List.not_mem_nil, or_false, hsz] at hd
    rcases hd with rfl | rfl
    · exact Nat.lt_succ_self _
    · exact Nat.lt_succ_of_lt (Nat.lt_succ_self _)
  · rw [hsz] at hk
    have hold := tup_hold hk
    have hP' : (floItems #[(a, t), (b, u), (c, x)])[argBest (fun i j => flt (floAt #[(a, t), (b, u), (c, x)] i) (floAt #[(a, t), (b, u), (c, x)] j)) 2]? = some v := by
      have hsz2 : (floItems #[(a, t), (b, u), (c, x)]).size - 1 = 2 := by simp [floItems]
      rw [← hsz2]; exact hP
    have hv : ∃ tk, v = .float (fmin3 a b c) tk := by
      by_cases h1 : flt b a <;> by_cases h2 : flt c b <;> by_cases h3 : flt c a <;>
        simp [argBest, floAt, floItems, fmin3, h1, h2, h3] at hP' ⊢ <;> exact ⟨_, hP'.symm⟩
    obtain ⟨tk1, rfl⟩ := hv
    exact h h' tk1 tk (F.grownK hold) (N.grown hold)
end
end
section
open PySem PySem.W PyProof.Rows
set_option Elab.async false
set_option maxRecDepth 100000
set_option maxHeartbeats 8000000
set_option pp.deepTerms false
set_option pp.deepTerms.threshold 3
set_option pp.proofs false
theorem walk_anew_11 : True := by w_top off; trivial
local macro_rules | `(tactic| walk_at "call builtin:max") => `(tactic| (k_here; (with_reducible refine Mine.gd8 ?_); k_dflt (apply Mine.max3_flo; (with_unfolding_all rfl); (iterate 2 k_asm); k_whole); intros))
local macro_rules | `(tactic| walk_at "call builtin:min") => `(tactic| (k_here; (with_reducible refine Mine.gd8 ?_); k_dflt (apply Mine.min3_flo; (with_unfolding_all rfl); (iterate 2 k_asm); k_whole); intros))

noncomputable def hlsL (x y z : UInt64) : UInt64 := Float64.div (Float64.add (fmax3 x y z) (fmin3 x y z)) 4611686018427387904
noncomputable def hlsS (x y z : UInt64) : UInt64 := Float64.div (Float64.sub (fmax3 x y z) (fmin3 x y z)) (Float64.add (fmax3 x y z) (fmin3 x y z))
noncomputable def hlsC (x y z v : UInt64) : UInt64 := Float64.div (Float64.sub (fmax3 x y z) v) (Float64.sub (fmax3 x y z) (fmin3 x y z))
noncomputable def hlsW (v : UInt64) : UInt64 := (Float64.divmod (Float64.div v 4618441417868443648) 4607182418800017408).2
noncomputable def hlsH (x y z : UInt64) : UInt64 :=
  if feq x (fmax3 x y z) = true then hlsW (Float64.sub (hlsC x y z z) (hlsC x y z y))
  else if feq y (fmax3 x y z) = true then hlsW (Float64.sub (Float64.add 4611686018427387904 (hlsC x y z x)) (hlsC x y z z))
  else hlsW (Float64.sub (Float64.add 4616189618054758400 (hlsC x y z y)) (hlsC x y z x))
structure HlsOk (x y z : UInt64) : Prop where
  sm : feq (fmin3 x y z) (fmax3 x y z) = false → Float64.isZero (Float64.add (fmax3 x y z) (fmin3 x y z)) = false
  rg : feq (fmin3 x y z) (fmax3 x y z) = false → Float64.isZero (Float64.sub (fmax3 x y z) (fmin3 x y z)) = false
  le : feq (fmin3 x y z) (fmax3 x y z) = false → (flt (hlsL x y z) 4602678819172646912 || feq (hlsL x y z) 4602678819172646912) = true
noncomputable def HlsIs (x y z h l s : UInt64) : Prop := l = hlsL x y z ∧ ((feq (fmin3 x y z) (fmax3 x y z) = true ∧ h = 0 ∧ s = 0) ∨ (feq (fmin3 x y z) (fmax3 x y z) = false ∧ s = hlsS x y z ∧ h = hlsH x y z))
theorem no_eq {a : Bool} {P : Prop} (h : a = false) : a = true → P := fun e => Bool.noConfusion (h.symm.trans e)
section Hp
variable {prog : Program} {w : World} {A : Around} {E : Value → Shared → Prop} {s : Shared} {h₀ : Heap} {L : Addr} {m : Str → Option Value} {news : List (Addr × Obj)} {name : Str} {scope : Scope} {a : Addr} {cd : Value}
theorem st_pos {x : Str} {v : Value} {Q : Unit → Shared → Prop} (F : Fr h₀ L s.heap m) (N : News h₀ L s.heap news)
    (h : ∀ h' tk, 0 < tk → Fr h₀ L h' (fun y => if y = x then some v else m y) → News h₀ L h' news → Q () { s with heap := h', toks := tk })
    (hk : scope.kind = .function := by rfl) (hl : (envOf name scope L a cd).kindOf x = some .local := by rfl) :
    wpAny (model prog w) A (storeName (envOf name scope L a cd) x v) Q E s := stN F N (fun h' F' N' => h h' _ (Nat.succ_pos _) F' N') hk hl
end Hp
noncomputable abbrev tup3f (x y z : UInt64) (tx ty tz : Tok) : Obj := { cls := .type "tuple", data := .seq #[.float x tx, .float y ty, .float z tz] }
local macro_rules | `(tactic| k_room) => `(tactic| ktr_room)
local macro_rules | `(tactic| k_units) => `(tactic| ktr_units)
local macro_rules | `(tactic| k_all) => `(tactic| assumption)
local macro_rules | `(tactic| walk_at "storeName") => `(tactic| (k_here; k_dflt (apply Mine.st_pos; (iterate 2 k_asm); k_whole); intros; walk_at "kt"))
inductive HlsCut (h₀ : Heap) (L : Addr) (news : List (Addr × Obj)) (s : Shared) (x y z : UInt64) (s' : Shared) : Prop
  | mk (m' : Str → Option Value) (h' : Heap) (tk' : Nat) (v : UInt64) (t1 t2 t3 : Tok) (e : s' = { s with heap := h', toks := tk' })
    (F : Fr h₀ L h' (fun q => (List.lookup q [(Str.ofString "h", .float v t1), (Str.ofString "l", .float (hlsL x y z) t2), (Str.ofString "s", .float (hlsS x y z) t3)]).or (m' q))) (N : News h₀ L h' news) (hv : hlsH x y z = hlsW v) : HlsCut h₀ L news s x y z s'
theorem cut_r {x y z : UInt64} (h1 : feq x (fmax3 x y z) = true) : hlsH x y z = hlsW (Float64.sub (hlsC x y z z) (hlsC x y z y)) := by unfold hlsH; rw [if_pos h1]
theorem cut_g {x y z : UInt64} (h1 : feq x (fmax3 x y z) = false) (h2 : feq y (fmax3 x y z) = true) : hlsH x y z = hlsW (Float64.sub (Float64.add 4611686018427387904 (hlsC x y z x)) (hlsC x y z z)) := by unfold hlsH; rw [if_neg (by rw [h1]; decide), if_pos h2]
theorem cut_b {x y z : UInt64} (h1 : feq x (fmax3 x y z) = false) (h2 : feq y (fmax3 x y z) = false) : hlsH x y z = hlsW (Float64.sub (Float64.add 4616189618054758400 (hlsC x y z y)) (hlsC x y z x)) := by unfold hlsH; rw [if_neg (by rw [h1]; decide), if_neg (by rw [h2]; decide)]
theorem ite_t {c : Prop} [Decidable c] {a b : Prop} (hc : c) (h : a) : (if c then a else b) := by rw [if_pos hc]; exact h
theorem ite_f {c : Prop} [Decidable c] {a b : Prop} (hc : ¬ c) (h : b) : (if c then a else b) := by rw [if_neg hc]; exact h
theorem hls_w {w : World} {p : Program} {loose : List Str} {mean : ExcName → Option Value} {mg mb : Str → Option Value} :
    ∀ {x y z : UInt64} {tx ty tz : Tok} {dp un : Nat} {gd : Option (List Code)} {cn : Str} {cs : Scope} {a' : Addr} {ccd : Value} {cl : List (Str × Addr)} {outer : List Env} {A₀ : Around} {base h₀ : Heap} {L : Addr} {m : Str → Option Value} {s : Shared} {Q E : Value → Shared → Prop} {news : List (Addr × Obj)},
    Below A₀ base outer h₀ → Fr h₀ L s.heap m → (hd.heap_39 w.params).In h₀ → News h₀ L s.heap (news) → Top p loose mean mg mb h₀ → cs.kind = .function → dp + 60 < recursionLimit → un + 600 < cLine →
    (ok : HlsOk x y z) → (∀ {D : Addr} {hh ll ss : UInt64} {t1 t2 t3 : Tok} {h' : Heap} {tk' : Nat}, Fr h₀ L h' m → News h₀ L h' ((D, tup3f hh ll ss t1 t2 t3) :: news) → HlsIs x y z hh ll ss → (feq (fmin3 x y z) (fmax3 x y z) = true → t1 ≠ 0 ∧ t3 ≠ 0) → (∀ p ∈ news, p.1 < D) → Q (.ref D) { s with heap := h', toks := tk' }) →
    wpAny (model PySem.Challenge.rw_zo0001_01.prog w) (ktrTop dp un gd cn cs L a' ccd cl outer) (call (.ref 51) [.float x tx, .float y ty, .float z tz]) Q E s := by
  k_fill
  intros
  rename_i x y z tx ty tz dp un gd cn cs a' ccd cl outer A₀ base h₀ L m s Q E news B0 F0 X0 N0 T0 hk0 hdp hun ok hret
  refine wpAny_call ?_
  k_dflt cell_enter
  rename_i g' L' h' FG F' N' B' X' T'
  iterate 57 walk1
  by_cases hq : feq (fmin3 x y z) (fmax3 x y z) = true
  · refine ite_t hq ?_
    k_steps
    all_goals exact hret (by assumption) (by assumption) ⟨rfl, .inl ⟨by assumption, rfl, rfl⟩⟩ (fun _ => ⟨Nat.ne_of_gt (by assumption), Nat.succ_ne_zero _⟩) (by assumption)
  refine ite_f hq ?_
  rw [Bool.not_eq_true] at hq
  iterate 8 walk1
  have z1 := ok.sm hq
  have z2 := ok.rg hq
  refine ite_t (ok.le hq) ?_
  iterate 39 walk1
  all_goals try exact rfl
  refine cutX (R := HlsCut g' L' news s x y z) ?_ ?_
  · k_steps
    all_goals first
      | exact .mk (.mk _ _ _ _ _ _ _ rfl (fr_conv (by assumption) _ (fr_all (.cons (.cons (.cons .nil (by exact rfl)) (by exact rfl)) (by exact rfl)))) (by assumption) (cut_r (by assumption)))
      | exact .mk (.mk _ _ _ _ _ _ _ rfl (fr_conv (by assumption) _ (fr_all (.cons (.cons (.cons .nil (by exact rfl)) (by exact rfl)) (by exact rfl)))) (by assumption) (cut_g (by assumption) (by assumption)))
      | exact .mk (.mk _ _ _ _ _ _ _ rfl (fr_conv (by assumption) _ (fr_all (.cons (.cons (.cons .nil (by exact rfl)) (by exact rfl)) (by exact rfl)))) (by assumption) (cut_b (by assumption) (by assumption)))
  rintro _ ⟨m9, h9, tk9, v9, a9, b9, c9, rfl, F9, N9, hv9⟩
  k_steps
  all_goals exact hret (by assumption) (by assumption) ⟨rfl, .inr ⟨hq, rfl, hv9.symm⟩⟩ (no_eq hq) (by assumption)
end
section
open PySem PySem.W PyProof.Rows
set_option Elab.async false
set_option maxRecDepth 100000
set_option maxHeartbeats 8000000
set_option pp.deepTerms false
set_option pp.deepTerms.threshold 3
set_option pp.proofs false

section Fl
open PySem.Float64
noncomputable def IsF (x : UInt64) (v : Int) : Prop := (∃ a m e, decode x = .fin a m e) ∧ val x = v
noncomputable def Rep (n : Nat) : Prop := ∃ j i, n = j * 2 ^ i ∧ j ≤ 2 ^ 53
theorem V_surj : ∀ (i j : Nat), j ≤ 2 ^ 53 → ∃ t, V t = j * 2 ^ i
  | 0, j, h => ⟨0 * 2 ^ 52 + j, V_at h (.inr rfl)⟩
  | i + 1, j, h => by
    by_cases c : 2 ^ 52 ≤ j
    · exact ⟨(i + 1) * 2 ^ 52 + j, V_at h (.inl c)⟩
    · obtain ⟨t, ht⟩ := V_surj i (2 * j) (by (first | exact om39 c | omega +splitDisjunctions))
      refine ⟨t, ?_⟩
      rw [ht, Nat.pow_succ]
      generalize 2 ^ i = z
      rw [Nat.mul_comm 2 j, Nat.mul_assoc, Nat.mul_comm 2 z]
theorem V_rep {n : Nat} (h : Rep n) : ∃ t, V t = n := by
  obtain ⟨j, i, rfl, hj⟩ := h
  exact V_surj i j hj
theorem rep_V (t : Nat) : Rep (V t) := by
  obtain ⟨k, q, _, h, _, e⟩ := V_form t
  exact ⟨q, k, e, by (first | exact om38 h | omega +splitDisjunctions)⟩
theorem right_val {r : UInt64} {neg : Bool} {W D B : Nat} (h : Right r neg W D) (hB : W ≤ D * 2 ^ B) (hb : B ≤ 2000) (hD : 0 < D) :
    ∃ v : Nat, IsF r (sgn neg v) ∧ Rep v ∧ ∀ n, Rep n → dist W (D * v) ≤ dist W (D * n) := by
  obtain ⟨t, rfl, hle, hov, hn⟩ := h
  have hlt : t < infMag := by
    rcases Nat.lt_or_ge t infMag with c | c
    · exact c
    · exfalso
      have h1 := hov.mp (by (first | exact om37 hle c | omega +splitDisjunctions))
      have h2 : D * 2 ^ B ≤ D * 2 ^ 2000 := Nat.mul_le_mul_left D (Nat.pow_le_pow_right (by decide) hb)
      have h3 : (2 ^ 54 - 1) * 2 ^ 2045 = ((2 ^ 54 - 1) * 2 ^ 45) * 2 ^ 2000 := by
        rw [Nat.mul_assoc, ← Nat.pow_add]
      rw [h3] at h1
      have hz : 0 < 2 ^ 2000 := Nat.two_pow_pos _
      generalize (2 : Nat) ^ 2000 = Z at *
      have h4 : 0 < D * Z := Nat.mul_pos hD hz
      have h5 : D * ((2 ^ 54 - 1) * 2 ^ 45 * Z) = ((2 ^ 54 - 1) * 2 ^ 45) * (D * Z) := by ac_rfl
      rw [h5] at h1
      generalize D * Z = y at *
      (first | exact om36 hB h1 h2 h4 | omega +splitDisjunctions)
  refine ⟨V t, ⟨?_, val_pack neg hlt⟩, rep_V t, fun n hn' => ?_⟩
  · obtain ⟨m, e, hd, _⟩ := decode_pack neg hlt
    exact ⟨_, _, _, hd⟩
  · obtain ⟨t', rfl⟩ := V_rep hn'
    exact (hn hlt t').1
theorem right_exact {r : UInt64} {neg : Bool} {W D n B : Nat} (h : Right r neg W D) (hW : W = D * n) (hn : Rep n) (hB : n ≤ 2 ^ B) (hb : B ≤ 2000) (hD : 0 < D) : IsF r (sgn neg n) := by
  obtain ⟨v, hv, _, hmin⟩ := right_val h (B := B) (by rw [hW]; exact Nat.mul_le_mul_left D hB) hb hD
  have h1 := hmin n hn
  rw [hW, dist_mul, dist_mul] at h1
  have h2 : dist n n = 0 := by unfold dist; (first | exact om35 | omega +splitDisjunctions)
  rw [h2, Nat.mul_zero] at h1
  have h3 : dist n v = 0 := by
    rcases Nat.mul_eq_zero.mp (Nat.le_zero.mp h1) with h | h
    · (first | exact om34 hD h | omega +splitDisjunctions)
    · exact h
  have h4 : n = v := by unfold dist at h3; (first | exact om33 h3 | omega +splitDisjunctions)
  rw [h4]; exact hv
theorem near_mult (W M : Nat) (hM : 0 < M) : ∃ j, 2 * dist W (M * j) ≤ M ∧ (M * j ≤ W + M) := by
  refine ⟨(2 * W + M) / (2 * M), ?_⟩
  have h1 := Nat.div_add_mod (2 * W + M) (2 * M)
  have h2 := Nat.mod_lt (2 * W + M) (show 0 < 2 * M by (first | exact om32 hM | omega +splitDisjunctions))
  generalize (2 * W + M) / (2 * M) = j at *
  rw [Nat.mul_assoc] at h1
  generalize M * j = z at *
  unfold dist
  (first | exact om31 h2 h1 | omega +splitDisjunctions)
theorem right_near {r : UInt64} {neg : Bool} {W D c : Nat} (h : Right r neg W D) (hB : W ≤ D * 2 ^ (c + 52)) (hb : c ≤ 1900) (hD : 0 < D) :
    ∃ v : Nat, IsF r (sgn neg v) ∧ Rep v ∧ 2 * dist W (D * v) ≤ D * 2 ^ c := by
  obtain ⟨v, hv, hr, hmin⟩ := right_val h hB (by (first | exact om30 hb | omega +splitDisjunctions)) hD
  refine ⟨v, hv, hr, ?_⟩
  have hM : 0 < D * 2 ^ c := Nat.mul_pos hD (Nat.two_pow_pos _)
  obtain ⟨j, hj, hj2⟩ := near_mult W (D * 2 ^ c) hM
  have hj3 : j ≤ 2 ^ 53 := by
    have h1 : D * 2 ^ c * j ≤ D * 2 ^ c * (2 ^ 52 + 1) := by
      have e : D * 2 ^ (c + 52) = D * 2 ^ c * 2 ^ 52 := by rw [Nat.pow_add]; ac_rfl
      rw [e] at hB
      generalize D * 2 ^ c = z at *
      omega +splitDisjunctions
    have := Nat.le_of_mul_le_mul_left h1 hM
    (first | exact om29 this | omega +splitDisjunctions)
  have h2 := hmin (j * 2 ^ c) ⟨j, c, rfl, hj3⟩
  have e : D * (j * 2 ^ c) = D * 2 ^ c * j := by ac_rfl
  rw [e] at h2
  (first | exact om28 hj h2 | omega +splitDisjunctions)
theorem isF_dec {x : UInt64} {v : Int} (h : IsF x v) : ∃ a m e, decode x = .fin a m e ∧ v = sgn a (m * 2 ^ (e + 1074).toNat) ∧ v.natAbs = m * 2 ^ (e + 1074).toNat := by
  obtain ⟨⟨a, m, e, hd⟩, hv⟩ := h
  exact ⟨a, m, e, hd, by rw [← hv, val_eq hd], by rw [← hv, val_natAbs hd]⟩
theorem isF_rep {x : UInt64} {v : Int} (h : IsF x v) : Rep v.natAbs := by
  obtain ⟨a, m, e, hd, _, hv⟩ := isF_dec h
  rw [hv]
  refine ⟨m, _, rfl, ?_⟩
  unfold decode at hd
  simp only at hd
  have := Nat.mod_lt x.toNat (show 0 < 2 ^ 52 by decide)
  split at hd
  · split at hd <;> cases hd
  · split at hd
    · cases hd; (first | exact om27 | omega +splitDisjunctions)
    · cases hd; (first | exact om26 | omega +splitDisjunctions)
theorem nat_dist (n v : Nat) : ((n : Int) - v).natAbs = dist n v := by unfold dist; (first | exact om25 | omega +splitDisjunctions)
theorem sgn_dist {a : Bool} {n v : Nat} : (sgn a n - sgn a v).natAbs = dist n v := by
  cases a
  · exact nat_dist n v
  · show (-(n : Int) - -(v : Int)).natAbs = _
    rw [← nat_dist, ← Int.natAbs_neg ((n : Int) - v)]; congr 1; (first | exact om24 | omega +splitDisjunctions)
theorem sgn_decide (s : Int) : sgn (decide (s < 0)) s.natAbs = s := by
  unfold sgn
  by_cases h : s < 0
  · rw [if_pos (by simpa using h)]; (first | exact om23 h | omega +splitDisjunctions)
  · rw [if_neg (by simpa using h)]; (first | exact om22 h | omega +splitDisjunctions)
theorem isF_zero {x : UInt64} {b : Bool} (h : x = zero b) : IsF x 0 := by
  subst h
  obtain ⟨m, e, hd, _⟩ := decode_pack b (t := 0) (by decide)
  refine ⟨⟨_, _, _, hd⟩, ?_⟩
  have := val_pack b (t := 0) (by decide)
  unfold zero
  rw [this]
  have : V 0 = 0 := rfl
  rw [this]
  cases b <;> rfl
theorem add_near {x y : UInt64} {u v : Int} {c : Nat} (hx : IsF x u) (hy : IsF y v) (hB : (u + v).natAbs ≤ 2 ^ (c + 52)) (hb : c ≤ 1900) : ∃ z, IsF (PySem.Float64.add x y) z ∧ 2 * (z - (u + v)).natAbs ≤ 2 ^ c := by
  obtain ⟨⟨a, m, e, hd⟩, rfl⟩ := hx
  obtain ⟨⟨b, k, f, hd'⟩, rfl⟩ := hy
  have h := add_right hd hd'
  by_cases c0 : val x + val y = 0
  · refine ⟨0, isF_zero (h.1 c0), ?_⟩
    rw [c0]; exact Nat.zero_le _
  · obtain ⟨w, hw, _, hd2⟩ := right_near (h.2 c0) (c := c) (by rw [Nat.one_mul]; exact hB) hb (by decide)
    refine ⟨_, hw, ?_⟩
    rw [Nat.one_mul, Nat.one_mul, ← sgn_dist (a := decide (val x + val y < 0)), sgn_decide] at hd2
    (first | exact om21 hd2 | omega +splitDisjunctions)
theorem add_exact {x y : UInt64} {u v : Int} {B : Nat} (hx : IsF x u) (hy : IsF y v) (hr : Rep (u + v).natAbs) (hB : (u + v).natAbs ≤ 2 ^ B) (hb : B ≤ 2000) : IsF (PySem.Float64.add x y) (u + v) := by
  obtain ⟨⟨a, m, e, hd⟩, rfl⟩ := hx
  obtain ⟨⟨b, k, f, hd'⟩, rfl⟩ := hy
  have h := add_right hd hd'
  by_cases c0 : val x + val y = 0
  · rw [c0]; exact isF_zero (h.1 c0)
  · have := right_exact (h.2 c0) (Nat.one_mul _).symm hr hB hb (by decide)
    rwa [sgn_decide] at this
theorem isF_neg {y : UInt64} {v : Int} (h : IsF y v) : IsF (neg y) (-v) := by
  obtain ⟨⟨b, k, f, hd⟩, rfl⟩ := h
  exact ⟨⟨_, _, _, neg_decode hd⟩, neg_val hd⟩
theorem sub_eq' (x y : UInt64) : PySem.Float64.sub x y = PySem.Float64.add x (PySem.Float64.neg y) := by with_unfolding_all rfl
theorem sub_near {x y : UInt64} {u v : Int} {c : Nat} (hx : IsF x u) (hy : IsF y v) (hB : (u - v).natAbs ≤ 2 ^ (c + 52)) (hb : c ≤ 1900) : ∃ z, IsF (PySem.Float64.sub x y) z ∧ 2 * (z - (u - v)).natAbs ≤ 2 ^ c := by
  have := add_near hx (isF_neg hy) (c := c) (by rw [← Int.sub_eq_add_neg]; exact hB) hb
  rw [← Int.sub_eq_add_neg] at this; rw [sub_eq']; exact this
theorem sub_exact {x y : UInt64} {u v : Int} {B : Nat} (hx : IsF x u) (hy : IsF y v) (hr : Rep (u - v).natAbs) (hB : (u - v).natAbs ≤ 2 ^ B) (hb : B ≤ 2000) : IsF (PySem.Float64.sub x y) (u - v) := by
  have := add_exact hx (isF_neg hy) (B := B) (by rw [← Int.sub_eq_add_neg]; exact hr) (by rw [← Int.sub_eq_add_neg]; exact hB) hb
  rw [← Int.sub_eq_add_neg] at this; rw [sub_eq']; exact this
theorem sgn_xor (a b : Bool) (n k : Nat) : sgn a n * sgn b k = sgn (a != b) (n * k) := by
  unfold sgn
  cases a <;> cases b <;> simp [Int.neg_mul, Int.mul_neg]
theorem sgn_mulN (a : Bool) (n k : Nat) : sgn a n * (k : Int) = sgn a (n * k) := (sgn_mul a n k).symm
theorem mul_near {x y : UInt64} {u v : Int} {c : Nat} (hx : IsF x u) (hy : IsF y v) (hB : (u * v).natAbs ≤ 2 ^ 1074 * 2 ^ (c + 52)) (hb : c ≤ 1900) : ∃ z, IsF (PySem.Float64.mul x y) z ∧ 2 * (z * 2 ^ 1074 - u * v).natAbs ≤ 2 ^ 1074 * 2 ^ c := by
  obtain ⟨a, m, e, hd, hu, hu'⟩ := isF_dec hx
  obtain ⟨b, k, f, hd', hv, hv'⟩ := isF_dec hy
  have h := mul_right hd hd'
  rw [hx.2, hy.2] at h
  have huv : u * v = sgn (a != b) (u.natAbs * v.natAbs) := by
    rw [← sgn_xor, hu', hv', ← hu, ← hv]
  rw [Int.natAbs_mul] at hB
  obtain ⟨w, hw, _, hd2⟩ := right_near h hB hb (Nat.two_pow_pos _)
  refine ⟨_, hw, ?_⟩
  have e1 : sgn (a != b) w * 2 ^ 1074 = sgn (a != b) (2 ^ 1074 * w) := by
    rw [Nat.mul_comm, ← sgn_mulN]; (try congr 1)
  rw [huv, e1, sgn_dist]
  rw [show dist (2 ^ 1074 * w) (u.natAbs * v.natAbs) = dist (u.natAbs * v.natAbs) (2 ^ 1074 * w) by unfold dist; (first | exact om18 | omega +splitDisjunctions)]
  exact hd2
theorem mul_exact {x y : UInt64} {u v z : Int} {B : Nat} (hx : IsF x u) (hy : IsF y v) (hz : u * v = 2 ^ 1074 * z) (hr : Rep z.natAbs) (hB : z.natAbs ≤ 2 ^ B) (hb : B ≤ 2000) : IsF (PySem.Float64.mul x y) z := by
  obtain ⟨a, m, e, hd, hu, hu'⟩ := isF_dec hx
  obtain ⟨b, k, f, hd', hv, hv'⟩ := isF_dec hy
  have h := mul_right hd hd'
  rw [hx.2, hy.2] at h
  have hn : u.natAbs * v.natAbs = 2 ^ 1074 * z.natAbs := by
    rw [← Int.natAbs_mul, hz, Int.natAbs_mul]; congr 1
  have := right_exact h hn hr hB hb (Nat.two_pow_pos _)
  have e2 : sgn (a != b) z.natAbs = z := by
    have hpos : (0 : Int) < 2 ^ 1074 := Int.pow_pos (by decide)
    have e3 : 2 ^ 1074 * z = sgn (a != b) (u.natAbs * v.natAbs) := by rw [← hz, ← sgn_xor, hu', hv', ← hu, ← hv]
    rw [hn, Nat.mul_comm, ← sgn_mulN, Int.mul_comm] at e3
    have e4 : ((2 ^ 1074 : Nat) : Int) = 2 ^ 1074 := by norm_cast
    rw [e4] at e3
    exact (Int.eq_of_mul_eq_mul_right (by omega +splitDisjunctions) e3).symm
  rwa [e2] at this
theorem sgn_pos {b : Bool} {n : Nat} (h : 0 < sgn b n) : b = false := by
  unfold sgn at h
  cases b
  · rfl
  · simp at h; (first | exact om20 h | omega +splitDisjunctions)
theorem div_near {x y : UInt64} {u v : Int} {c : Nat} (hx : IsF x u) (hy : IsF y v) (hp : 0 < v) (hB : u.natAbs * 2 ^ 1074 ≤ v.natAbs * 2 ^ (c + 52)) (hb : c ≤ 1900) : ∃ z, IsF (PySem.Float64.div x y) z ∧ 2 * (z * v - u * 2 ^ 1074).natAbs ≤ v.natAbs * 2 ^ c := by
  obtain ⟨a, m, e, hd, hu, hu'⟩ := isF_dec hx
  obtain ⟨b, k, f, hd', hv, hv'⟩ := isF_dec hy
  have hb0 : b = false := sgn_pos (by rw [← hv]; exact hp)
  subst hb0
  have hk : k ≠ 0 := by
    rintro rfl
    rw [Nat.zero_mul] at hv'
    (first | exact om17 hp hv' | omega +splitDisjunctions)
  have h := div_right hd hd' hk
  rw [hx.2, hy.2] at h
  obtain ⟨w, hw, _, hd2⟩ := right_near h hB hb (by (first | exact om16 hp | omega +splitDisjunctions))
  refine ⟨_, hw, ?_⟩
  have e0 : (a != false) = a := by cases a <;> rfl
  rw [e0]
  have e1 : sgn a w * v = sgn a (v.natAbs * w) := by
    rw [Nat.mul_comm, ← sgn_mulN]; congr 1; (first | exact om19 hp | omega +splitDisjunctions)
  have e2 : u * 2 ^ 1074 = sgn a (u.natAbs * 2 ^ 1074) := by
    rw [← sgn_mulN, hu', ← hu]; (try congr 1)
  rw [e1, e2, sgn_dist]
  rw [show dist (v.natAbs * w) (u.natAbs * 2 ^ 1074) = dist (u.natAbs * 2 ^ 1074) (v.natAbs * w) by unfold dist; (first | exact om18 | omega +splitDisjunctions)]
  exact hd2
theorem div_exact {x y : UInt64} {u v z : Int} {B : Nat} (hx : IsF x u) (hy : IsF y v) (hp : 0 < v) (hz : u * 2 ^ 1074 = v * z) (hr : Rep z.natAbs) (hB : z.natAbs ≤ 2 ^ B) (hb : B ≤ 2000) : IsF (PySem.Float64.div x y) z := by
  obtain ⟨a, m, e, hd, hu, hu'⟩ := isF_dec hx
  obtain ⟨b, k, f, hd', hv, hv'⟩ := isF_dec hy
  have hb0 : b = false := sgn_pos (by rw [← hv]; exact hp)
  subst hb0
  have hk : k ≠ 0 := by
    rintro rfl
    rw [Nat.zero_mul] at hv'
    (first | exact om17 hp hv' | omega +splitDisjunctions)
  have h := div_right hd hd' hk
  rw [hx.2, hy.2] at h
  have hn : u.natAbs * 2 ^ 1074 = v.natAbs * z.natAbs := by
    rw [← Int.natAbs_mul, ← hz, Int.natAbs_mul]; congr 1
  have := right_exact h hn hr hB hb (by (first | exact om16 hp | omega +splitDisjunctions))
  have e0 : (a != false) = a := by cases a <;> rfl
  rw [e0] at this
  have e2 : sgn a z.natAbs = z := by
    have e3 : v * z = sgn a (u.natAbs * 2 ^ 1074) := by
      rw [← hz, ← sgn_mulN, hu', ← hu]; (try congr 1)
    rw [hn, Nat.mul_comm, ← sgn_mulN, Int.mul_comm, show ((v.natAbs : Nat) : Int) = v by (first | exact om15 hp | omega +splitDisjunctions)] at e3
    exact (Int.eq_of_mul_eq_mul_right (by (first | exact om14 hp | omega +splitDisjunctions)) e3).symm
  rwa [e2] at this
theorem frac_exact {neg : Bool} {n d z B : Nat} (hd : 0 < d) (hz : n * 2 ^ 1074 = d * z) (hr : Rep z) (hB : z ≤ 2 ^ B) (hb : B ≤ 2000) : IsF (ofFrac neg n d) (sgn neg z) :=
  right_exact (W := n * 2 ^ 1074) (D := d) (ofFrac_right hd rfl hd) hz hr hB hb hd
theorem int_exact {i : Int} (h : i.natAbs ≤ 2 ^ 53) : IsF (ofInt i) (i * 2 ^ 1074) := by
  have hB : i.natAbs * 2 ^ 1074 ≤ 2 ^ (53 + 1074) := by rw [Nat.pow_add]; exact Nat.mul_le_mul_right _ h
  have := right_exact (n := i.natAbs * 2 ^ 1074) (ofInt_right i) (Nat.one_mul _).symm ⟨_, _, rfl, h⟩ hB (by decide) (by decide)
  rw [← sgn_mulN, sgn_decide] at this
  have e4 : ((2 ^ 1074 : Nat) : Int) = 2 ^ 1074 := by norm_cast
  rwa [e4] at this
theorem cmp_isF {x y : UInt64} {u v : Int} (hx : IsF x u) (hy : IsF y v) : cmp x y = some (compare u v) := by
  obtain ⟨⟨a, m, e, hd⟩, rfl⟩ := hx
  obtain ⟨⟨b, k, f, hd'⟩, rfl⟩ := hy
  exact cmp_right hd hd'
theorem cmpInt_isF {x : UInt64} {u : Int} (hx : IsF x u) (i : Int) : cmpInt x i = some (compare u (i * 2 ^ 1074)) := by
  obtain ⟨⟨a, m, e, hd⟩, rfl⟩ := hx
  exact cmpInt_right hd i
theorem isZero_isF {x : UInt64} {u : Int} (hx : IsF x u) : isZero x = true ↔ u = 0 := by
  obtain ⟨a, m, e, hd, hu, hu'⟩ := isF_dec hx
  have h1 : u = 0 ↔ m = 0 := by
    constructor
    · intro h
      rw [h] at hu'
      rcases Nat.mul_eq_zero.mp hu'.symm with h | h
      · exact h
      · exact absurd h (Nat.ne_of_gt (Nat.two_pow_pos _))
    · intro h
      rw [h, Nat.zero_mul] at hu'
      (first | exact om13 hu' | omega +splitDisjunctions)
  rw [h1]
  unfold isZero
  rw [hd]
  cases m with
  | zero => simp
  | succ m => simp
theorem isInf_isF {x : UInt64} {u : Int} (hx : IsF x u) : isInf x = false := by
  obtain ⟨⟨a, m, e, hd⟩, _⟩ := hx
  unfold isInf; rw [hd]
theorem one_isF : IsF one (2 ^ 1074) := by
  have h : IsF (ofInt 1) (1 * 2 ^ 1074) := int_exact (by decide)
  rw [Int.one_mul] at h
  have e : ofInt 1 = one := by decide +kernel
  rwa [e] at h
theorem nearest_eq (a : Bool) (m : Nat) (e : Int) : nearestOf a m e = sgn a (halfEven (shift m 1 e).1 (shift m 1 e).2) := by with_unfolding_all rfl
theorem dist_le {a b k : Nat} (h1 : a ≤ b + k) (h2 : b ≤ a + k) : dist a b ≤ k := by
  unfold dist
  rcases Nat.le_total a b with h | h
  · rw [Nat.sub_eq_zero_of_le h, Nat.zero_add]; exact Nat.sub_le_of_le_add (by rw [Nat.add_comm]; exact h2)
  · rw [Nat.sub_eq_zero_of_le h, Nat.add_zero]; exact Nat.sub_le_of_le_add (by rw [Nat.add_comm]; exact h1)
theorem le_sub_add (a b : Nat) : a ≤ b + (a - b) := by rw [Nat.add_comm]; exact Nat.le_add_of_sub_le (Nat.le_refl _)
theorem dist_l (a b : Nat) : a ≤ b + dist a b := Nat.le_trans (le_sub_add a b) (Nat.add_le_add_left (Nat.le_add_right _ _) _)
theorem dist_r (a b : Nat) : b ≤ a + dist a b := Nat.le_trans (le_sub_add b a) (Nat.add_le_add_left (Nat.le_add_left _ _) _)
theorem dist_int (x y : Int) : dist x.natAbs y.natAbs ≤ (x - y).natAbs := by
  refine dist_le ?_ ?_
  · have := Int.natAbs_add_le y (x - y)
    rwa [show y + (x - y) = x by (first | exact om12 this | omega +splitDisjunctions)] at this
  · have := Int.natAbs_add_le x (y - x)
    rw [show x + (y - x) = y by (first | exact om12 this | omega +splitDisjunctions)] at this
    rwa [← Int.natAbs_neg (x - y), Int.neg_sub]
theorem dist_tri {p x y q : Nat} (a : dist p x ≤ dist p y) (b : 2 * dist p y < q) : dist x y < q * 1 := by
  rw [Nat.mul_one]
  refine Nat.lt_of_le_of_lt (dist_le (k := 2 * dist p y) ?_ ?_) b
  · have h1 := dist_r p x; have h2 := dist_l p y; clear b; generalize dist p x = u at *; generalize dist p y = v at *; (first | exact om11 h1 h2 a | omega +splitDisjunctions)
  · have h1 := dist_l p x; have h2 := dist_r p y; clear b; generalize dist p x = u at *; generalize dist p y = v at *; (first | exact om10 h1 h2 a | omega +splitDisjunctions)
theorem near_pos {u z : Int} {U : Nat} (h : 2 * (u - z).natAbs < U) (k : (U : Int) ≤ z) : 0 < u := by (first | exact om9 h k | omega +splitDisjunctions)
theorem near_neg {u z : Int} {U : Nat} (h : 2 * (u - z).natAbs < U) (k : z ≤ -(U : Int)) : u < 0 := by (first | exact om8 h k | omega +splitDisjunctions)
theorem dist_zero {x y : Nat} (h : dist x y < 1) : x = y := by unfold dist at h; (first | exact om7 h | omega +splitDisjunctions)
theorem min_nat {e f : Int} (he : -1074 ≤ e) (hf : -1074 ≤ f) : (e + 1074).toNat = (e - min e f).toNat + (min e f + 1074).toNat := by
  rcases Int.le_total e f with c | c
  · rw [Int.min_eq_left c, Int.sub_self]; exact (Nat.zero_add _).symm
  · rw [Int.min_eq_right c]; clear he; (first | exact om6 hf c | omega +splitDisjunctions)
theorem nearest_isF {x : UInt64} {u n : Int} {a : Bool} {m : Nat} {e : Int} (hx : IsF x u) (hd : decode x = .fin a m e) (h : 2 * (u - n * 2 ^ 1074).natAbs < 2 ^ 1074) : nearestOf a m e = n := by
  obtain ⟨_, _, _, hd', hu, hu'⟩ := isF_dec hx
  rw [hd] at hd'
  cases hd'
  have hge := decode_ge hd
  rw [nearest_eq]
  have hs := shift_one m e 1074 (by (first | exact om5 hge | omega +splitDisjunctions))
  have hp := shift_pos m 1 e (by decide)
  rw [show (e + ((1074 : Nat) : Int)) = e + 1074 by rfl, ← hu'] at hs
  generalize hP : (shift m 1 e).1 = p at *
  generalize hQ : (shift m 1 e).2 = q at *
  have hn := halfEven_nearest p q hp n.natAbs
  have hU : 0 < 2 ^ 1074 := Nat.two_pow_pos _
  have e4 : ((2 ^ 1074 : Nat) : Int) = 2 ^ 1074 := by norm_cast
  have h5 : (u - n * 2 ^ 1074).natAbs = (u - n * ((2 ^ 1074 : Nat) : Int)).natAbs := by rw [e4]
  rw [h5] at h
  generalize (2 : Nat) ^ 1074 = U at *
  -- dist p (q |n|) * U = q * dist |u| (|n| U)
  have h1 : dist (p * U) (U * (q * n.natAbs)) = q * dist u.natAbs (n.natAbs * U) := by
    rw [hs, ← dist_mul, Nat.mul_comm u.natAbs, show U * (q * n.natAbs) = q * (n.natAbs * U) by ac_rfl]
  rw [Nat.mul_comm p U, dist_mul] at h1
  have h2 : dist u.natAbs (n.natAbs * U) ≤ (u - n * (U : Int)).natAbs := by
    have : (n * (U : Int)).natAbs = n.natAbs * U := by rw [Int.natAbs_mul]; simp
    rw [← this]
    exact dist_int _ _
  have h3 : 2 * (U * dist p (q * n.natAbs)) < U * q := by
    rw [h1]
    have : q * (2 * dist u.natAbs (n.natAbs * U)) < q * U := Nat.mul_lt_mul_of_pos_left (by (first | exact om4 h h2 | omega +splitDisjunctions)) hp
    rw [Nat.mul_comm U q]
    calc 2 * (q * dist u.natAbs (n.natAbs * U)) = q * (2 * dist u.natAbs (n.natAbs * U)) := by ac_rfl
      _ < q * U := this
  have h4 : 2 * dist p (q * n.natAbs) < q := by
    refine Nat.lt_of_mul_lt_mul_left (a := U) ?_
    calc U * (2 * dist p (q * n.natAbs)) = 2 * (U * dist p (q * n.natAbs)) := by ac_rfl
      _ < U * q := h3
  have h6 : q * dist (halfEven p q) n.natAbs < q * 1 := by
    rw [← dist_mul]
    exact dist_tri hn h4
  have h7 : halfEven p q = n.natAbs := by
    exact dist_zero (Nat.lt_of_mul_lt_mul_left h6)
  rw [h7]
  by_cases hn0 : n = 0
  · subst hn0; cases a <;> rfl
  · -- same sign
    have h8 : (0 < n → 0 < u) ∧ (n < 0 → u < 0) := by
      constructor
      · intro hh
        have t := Int.mul_le_mul_of_nonneg_right (show (1 : Int) ≤ n from hh) (Int.natCast_nonneg U)
        rw [Int.one_mul] at t
        exact near_pos h t
      · intro hh
        have t := Int.mul_le_mul_of_nonneg_right (show n ≤ (-1 : Int) from Int.le_sub_one_of_lt hh) (Int.natCast_nonneg U)
        rw [Int.neg_one_mul] at t
        exact near_neg h t
    cases a
    · have k : 0 ≤ u := by rw [hu]; exact Int.natCast_nonneg _
      have k2 : 0 ≤ n := Int.not_lt.mp fun hh => Int.not_le.mpr (h8.2 hh) k
      exact Int.natAbs_of_nonneg k2
    · have k : u ≤ 0 := by rw [hu]; exact Int.neg_nonpos_of_nonneg (Int.natCast_nonneg _)
      have k2 : n ≤ 0 := Int.not_lt.mp fun hh => Int.not_le.mpr (h8.1 hh) k
      show -((n.natAbs : Nat) : Int) = n
      rw [Int.ofNat_natAbs_of_nonpos k2, Int.neg_neg]
theorem fmod1_isF {x : UInt64} {u : Int} (hx : IsF x u) (h : u.natAbs < 2 ^ 1074) : IsF (fmod x one) u := by
  obtain ⟨a, m, e, hd, hu, hu'⟩ := isF_dec hx
  obtain ⟨b, k, f, hd', hv, hv'⟩ := isF_dec one_isF
  have hb0 : b = false := sgn_pos (by rw [← hv]; exact Int.pow_pos (by decide))
  subst hb0
  have e4 : ((2 ^ 1074 : Int)).natAbs = 2 ^ 1074 := by rw [Int.natAbs_pow]; rfl
  rw [e4] at hv'
  have he := decode_ge hd
  have hf := decode_ge hd'
  have hk : k ≠ 0 := by
    rintro rfl
    rw [Nat.zero_mul] at hv'
    exact absurd hv' (Nat.ne_of_gt (Nat.two_pow_pos _))
  have hfm : fmod x one = ofBin a ((m * 2 ^ (e - min e f).toNat) % (k * 2 ^ (f - min e f).toNat)) (min e f) := by
    unfold fmod
    rw [hd, hd']
    simp only
    rw [if_neg (by simpa using hk)]
    rfl
  have hlt : m * 2 ^ (e - min e f).toNat < k * 2 ^ (f - min e f).toNat := by
    have h1 : m * 2 ^ (e + 1074).toNat < k * 2 ^ (f + 1074).toNat := by rw [← hu', ← hv']; exact h
    have e1 : (e + 1074).toNat = (e - min e f).toNat + (min e f + 1074).toNat := min_nat he hf
    have e2 : (f + 1074).toNat = (f - min e f).toNat + (min e f + 1074).toNat := by rw [Int.min_comm]; exact min_nat hf he
    rw [e1, e2, Nat.pow_add, Nat.pow_add, ← Nat.mul_assoc, ← Nat.mul_assoc] at h1
    exact Nat.lt_of_mul_lt_mul_right h1
  rw [Nat.mod_eq_of_lt hlt] at hfm
  rw [hfm]
  have hs := shift_one (m * 2 ^ (e - min e f).toNat) (min e f) 1074 (by (first | exact om3 he hf | omega +splitDisjunctions))
  have e3 : m * 2 ^ (e - min e f).toNat * 2 ^ (min e f + 1074).toNat = u.natAbs := by
    rw [hu', Nat.mul_assoc, ← Nat.pow_add]
    congr 2
    exact (min_nat he hf).symm
  rw [show (min e f + ((1074 : Nat) : Int)) = min e f + 1074 by rfl, e3] at hs
  have hp := shift_pos (m * 2 ^ (e - min e f).toNat) 1 (min e f) (by decide)
  have := frac_exact (neg := a) (n := (shift (m * 2 ^ (e - min e f).toNat) 1 (min e f)).1) hp (by rw [hs, Nat.mul_comm]) (isF_rep hx) (B := 1074) (Nat.le_of_lt h) (by decide)
  have e5 : sgn a u.natAbs = u := by rw [hu', ← hu]
  rw [e5] at this
  exact this
theorem zero_isF (b : Bool) : IsF (zero b) 0 := isF_zero rfl
theorem mod1_nonneg {x : UInt64} {u : Int} (hx : IsF x u) (h : u.natAbs < 2 ^ 1074) (h0 : 0 ≤ u) : IsF (divmod x one).2 u := by
  have hm := fmod1_isF hx h
  unfold divmod
  simp only
  by_cases hz : isZero (fmod x one) = true
  · have : u = 0 := (isZero_isF hm).mp hz
    rw [if_pos hz, this]
    have e : copysign (zero false) one = zero false := by decide +kernel
    rw [e]; exact zero_isF _
  · rw [if_neg hz]
    have h1 : lt one (zero false) = false := by decide +kernel
    have h2 : lt (fmod x one) (zero false) = false := by
      unfold lt
      rw [cmp_isF hm (zero_isF false)]
      rw [Bool.eq_false_iff]
      intro hh
      have := eq_of_beq hh
      injection this with this
      have := Int.compare_eq_lt.mp this
      (first | exact om2 h0 this | omega +splitDisjunctions)
    rw [h1, h2, if_neg (by decide)]
    exact hm
theorem mod1_neg {x : UInt64} {u : Int} {c : Nat} (hx : IsF x u) (h : u.natAbs < 2 ^ 1074) (h0 : u < 0) (hc : (u + 2 ^ 1074).natAbs ≤ 2 ^ (c + 52)) (hb : c ≤ 1900) : ∃ z, IsF (divmod x one).2 z ∧ 2 * (z - (u + 2 ^ 1074)).natAbs ≤ 2 ^ c := by
  have hm := fmod1_isF hx h
  unfold divmod
  simp only
  have hz : ¬ isZero (fmod x one) = true := fun hz => by
    have : u = 0 := (isZero_isF hm).mp hz
    (first | exact om1 h0 this | omega +splitDisjunctions)
  rw [if_neg hz]
  have h1 : lt one (zero false) = false := by decide +kernel
  have h2 : lt (fmod x one) (zero false) = true := by
    unfold lt
    rw [cmp_isF hm (zero_isF false), Int.compare_eq_lt.mpr h0]
    rfl
  rw [h1, h2, if_pos (by decide)]
  exact add_near hm one_isF hc hb
end Fl
end
section
open PySem PySem.W PyProof.Rows
set_option Elab.async false
set_option maxRecDepth 100000
set_option maxHeartbeats 8000000
set_option pp.deepTerms false
set_option pp.deepTerms.threshold 3
set_option pp.proofs false
theorem walk_anew_12 : True := by w_top off; trivial
local macro_rules | `(tactic| walk_at "call builtin:max") => `(tactic| (k_here; (with_reducible refine Mine.gd8 ?_); k_dflt (apply Mine.max3_flo; (with_unfolding_all rfl); (iterate 2 k_asm); k_whole); intros))
local macro_rules | `(tactic| walk_at "call builtin:min") => `(tactic| (k_here; (with_reducible refine Mine.gd8 ?_); k_dflt (apply Mine.min3_flo; (with_unfolding_all rfl); (iterate 2 k_asm); k_whole); intros))
local macro_rules | `(tactic| walk_at "call ref") => `(tactic| (k_here; (with_reducible refine Mine.gd9 ?_); k_dflt (apply Mine.hls_w; (iterate 8 walk_at "kx"); (first | assumption | l_fact); k_whole); intros; walk_at "kl"; walk_at "kt"))

noncomputable def quo (a b : Int) : UInt64 := Float64.ofFrac (decide (a < 0) != decide (b < 0)) a.natAbs b.natAbs
section Sn
variable {prog : Program} {w : World} {A : Around} {E : Value → Shared → Prop} {s : Shared} {Q : Value → Shared → Prop}
theorem divq_K {a b : Int} {t u : Tok} (hA : A.handled = none) (hb : b ≠ 0) (hf : a.natAbs < 2 ^ 1023) (h : ∀ t tk, Q (.float (quo a b) t) { s with toks := tk }) : wpAny (model prog w) A (binaryOp .Div (.int a t) (.int b u)) Q E s := PySem.Flt.div_ii_fits hA hf (fun e => absurd e hb) (fun _ _ => h _ _)
theorem mulfi_K {a : UInt64} {n : Int} {t u : Tok} (ho : n.natAbs ≤ 2 ^ 53) (h : ∀ t tk, Q (.float (Float64.mul a (Float64.ofInt n)) t) { s with toks := tk }) : wpAny (model prog w) A (binaryOp .Mult (.float a t) (.int n u)) Q E s :=
  PySem.AutoFloatOps.mul_fi_1 (by rw [isInf_isF (int_exact ho)]; decide) (h _ _)
noncomputable abbrev tup2f (x y : UInt64) (tx ty : Tok) : Obj := { cls := .type "tuple", data := .seq #[.float x tx, .float y ty] }
theorem isSame_flo0 {M : Model} {t u : Tok} {R : Bool → Shared → Prop} (h0 : (t == 0 || u == 0) = false) (hb : NoneBooked s.heap) (hq : ∀ b, R b s) : wpAny M A (isSame (.float 0 t) (.float 0 u)) R E s := by
  have h := wpAny_isSame_str (M := M) (A := A) (E := E) (y := Str.ofString "") (z := Str.ofString "") h0 hb hq
  have e : (((0 : UInt64) == 0) && !Float64.isNaN 0) = (Str.ofString "" == Str.ofString "") := by decide +kernel
  have e2 : isSame (.float 0 t) (.float 0 u) = isSame (.str (Str.ofString "") t) (.str (Str.ofString "") u) := by
    show isSame.created (((0 : UInt64) == 0) && !Float64.isNaN 0) t u = isSame.created (Str.ofString "" == Str.ofString "") t u
    rw [e]
  rw [e2]; exact h
theorem flo_eqAt0 {t u : Tok} (h0 : (t == 0 || u == 0) = false) (hb : NoneBooked s.heap) : PySem.SeqAt.EqAt A s (.float 0 t) (.float 0 u) true := fun prog w E Q hq => by
  unfold eqBool
  refine wpAny_holding ?_
  refine wpAny_ite_split (fun hab => wpAny_bind (wpAny_rule (wpAny_pure hq))) (fun _ => ?_)
  have e : (Float64.cmp 0 0 == some Ordering.eq) = true := by decide +kernel
  refine wpAny_bind (m := isSame (.float 0 t) (.float 0 u)) (isSame_flo0 h0 hb fun b => ?_)
  cases b
  · refine wpAny_bind (m := compareOp .Eq (.float 0 t) (.float 0 u)) ?_
    refine PySem.AutoFloatOps.eq_0 ?_
    rw [e]; exact wpAny_truthy_bool hq
  · exact wpAny_pure hq
theorem tup_eq0 {base h₀ : Heap} {L : Addr} {m : Str → Option Value} {outer : List Env} {A₀ : Around} {news : List (Addr × Obj)} {a b : Addr} {t1 t2 t3 t4 : Tok} (B : Below A₀ base outer h₀) (F : Fr h₀ L s.heap m) (hb : NoneBooked base) (N : News h₀ L s.heap news) (h1 : (a, tup2f 0 0 t1 t2) ∈ news) (h2 : (b, tup2f 0 0 t3 t4) ∈ news)
    (n1 : t1 ≠ 0) (n2 : t2 ≠ 0) (n3 : t3 ≠ 0) (n4 : t4 ≠ 0) (hu : A.units < cLine) (h : Q (.bool true) s) :
    wpAny (model prog w) A (compareOp .Eq (.ref a) (.ref b)) Q E s := by
  have hb' : NoneBooked s.heap := by
    obtain ⟨mc, hm, e⟩ := hb
    exact ⟨mc, hm.keeps (fun b o e => F.keep b o (B.stays b o e)), e⟩
  have hz : ∀ {t u : Tok}, t ≠ 0 → u ≠ 0 → (t == 0 || u == 0) = false := fun {t u} h1 h2 => by
    rw [Bool.or_eq_false_iff]; exact ⟨beq_false_of_ne h1, beq_false_of_ne h2⟩
  exact PySem.SeqAt.eq_tupleAt (items := #[.float 0 t1, .float 0 t2]) (items2 := #[.float 0 t3, .float 0 t4]) (e := fun _ => true) ⟨_, (N _ h1).1, rfl, 0, rfl⟩ ⟨_, (N _ h2).1, rfl, 0, rfl⟩ hu
    (fun j h1 h2 => by
      match j, h1 with
      | 0, _ => exact flo_eqAt0 (hz n1 n3) hb'
      | 1, _ => exact flo_eqAt0 (hz n2 n4) hb') h
theorem fin_nan {x : UInt64} (h : Float64.isFinite x = true) : ¬ Float64.isNaN x = true := by
  unfold Float64.isFinite at h; unfold Float64.isNaN; intro h2; split at h2 <;> simp_all
theorem fin_inf {x : UInt64} (h : Float64.isFinite x = true) : ¬ Float64.isInf x = true := by
  unfold Float64.isFinite at h; unfold Float64.isInf; intro h2; split at h2 <;> simp_all
theorem round_K {x : UInt64} {t : Tok} (hA : A.handled = none) (hf : Float64.isFinite x = true) (h : ∀ t tk, Q (.int (PySem.Flt.toInt Float64.nearestOf x) t) { s with toks := tk }) : wpAny (model prog w) A (call (.builtin "round") [.float x t]) Q E s :=
  PySem.Flt.call_round_float hA (fun e => absurd e (fin_nan hf)) (fun e => absurd e (fin_inf hf)) (fun _ => h _ _)
theorem fit_q {a : Int} (h0 : 0 ≤ a) (h1 : a ≤ 2 ^ 38) : a.natAbs < 2 ^ 1023 := by
  have h2 : a.natAbs ≤ 2 ^ 38 := by (first | exact om416 h0 h1 | omega)
  exact Nat.lt_of_le_of_lt h2 (Nat.pow_lt_pow_right (by decide) (by decide))
noncomputable def mx3 (a b c : Int) : Int := max a (max b c)
noncomputable def mn3 (a b c : Int) : Int := min a (min b c)
theorem mx_ub (X Y Z : Int) : X ≤ mx3 X Y Z ∧ Y ≤ mx3 X Y Z ∧ Z ≤ mx3 X Y Z :=
  ⟨Int.le_max_left _ _, Int.le_trans (Int.le_max_left _ _) (Int.le_max_right _ _), Int.le_trans (Int.le_max_right _ _) (Int.le_max_right _ _)⟩
theorem mn_lb (X Y Z : Int) : mn3 X Y Z ≤ X ∧ mn3 X Y Z ≤ Y ∧ mn3 X Y Z ≤ Z :=
  ⟨Int.min_le_left _ _, Int.le_trans (Int.min_le_right _ _) (Int.min_le_left _ _), Int.le_trans (Int.min_le_right _ _) (Int.min_le_right _ _)⟩
theorem mx_of {X Y Z m : Int} (h : m = X ∨ m = Y ∨ m = Z) (a : X ≤ m) (b : Y ≤ m) (c : Z ≤ m) : mx3 X Y Z = m := by
  refine Int.le_antisymm (Int.max_le.mpr ⟨a, Int.max_le.mpr ⟨b, c⟩⟩) ?_
  rcases h with rfl | rfl | rfl
  · exact (mx_ub _ _ _).1
  · exact (mx_ub _ _ _).2.1
  · exact (mx_ub _ _ _).2.2
theorem mn_of {X Y Z m : Int} (h : m = X ∨ m = Y ∨ m = Z) (a : m ≤ X) (b : m ≤ Y) (c : m ≤ Z) : mn3 X Y Z = m := by
  refine Int.le_antisymm ?_ (Int.le_min.mpr ⟨a, Int.le_min.mpr ⟨b, c⟩⟩)
  rcases h with rfl | rfl | rfl
  · exact (mn_lb _ _ _).1
  · exact (mn_lb _ _ _).2.1
  · exact (mn_lb _ _ _).2.2
theorem mx_1 {X Y Z : Int} (b : Y ≤ X) (c : Z ≤ X) : mx3 X Y Z = X := mx_of (.inl rfl) (Int.le_refl _) b c
theorem mx_2 {X Y Z : Int} (a : X ≤ Y) (c : Z ≤ Y) : mx3 X Y Z = Y := mx_of (.inr (.inl rfl)) a (Int.le_refl _) c
theorem mx_3 {X Y Z : Int} (a : X ≤ Z) (b : Y ≤ Z) : mx3 X Y Z = Z := mx_of (.inr (.inr rfl)) a b (Int.le_refl _)
theorem mn_1 {X Y Z : Int} (b : X ≤ Y) (c : X ≤ Z) : mn3 X Y Z = X := mn_of (.inl rfl) (Int.le_refl _) b c
theorem mn_2 {X Y Z : Int} (a : Y ≤ X) (c : Y ≤ Z) : mn3 X Y Z = Y := mn_of (.inr (.inl rfl)) a (Int.le_refl _) c
theorem mn_3 {X Y Z : Int} (a : Z ≤ X) (b : Z ≤ Y) : mn3 X Y Z = Z := mn_of (.inr (.inr rfl)) a b (Int.le_refl _)
theorem mx_cases (X Y Z : Int) : (mx3 X Y Z = X ∧ Y ≤ X ∧ Z ≤ X) ∨ (mx3 X Y Z = Y ∧ X ≤ Y ∧ Z ≤ Y) ∨ (mx3 X Y Z = Z ∧ X ≤ Z ∧ Y ≤ Z) := by
  rcases Int.le_total X Y with a | a <;> rcases Int.le_total Y Z with b | b
  · exact .inr (.inr ⟨mx_3 (Int.le_trans a b) b, Int.le_trans a b, b⟩)
  · exact .inr (.inl ⟨mx_2 a b, a, b⟩)
  · rcases Int.le_total X Z with c | c
    · exact .inr (.inr ⟨mx_3 c b, c, b⟩)
    · exact .inl ⟨mx_1 a c, a, c⟩
  · exact .inl ⟨mx_1 a (Int.le_trans b a), a, Int.le_trans b a⟩
theorem mn_cases (X Y Z : Int) : (mn3 X Y Z = X ∧ X ≤ Y ∧ X ≤ Z) ∨ (mn3 X Y Z = Y ∧ Y ≤ X ∧ Y ≤ Z) ∨ (mn3 X Y Z = Z ∧ Z ≤ X ∧ Z ≤ Y) := by
  rcases Int.le_total X Y with a | a <;> rcases Int.le_total Y Z with b | b
  · exact .inl ⟨mn_1 a (Int.le_trans a b), a, Int.le_trans a b⟩
  · rcases Int.le_total X Z with c | c
    · exact .inl ⟨mn_1 a c, a, c⟩
    · exact .inr (.inr ⟨mn_3 c b, c, b⟩)
  · exact .inr (.inl ⟨mn_2 a b, a, b⟩)
  · exact .inr (.inr ⟨mn_3 (Int.le_trans b a) b, Int.le_trans b a, b⟩)
theorem mx3_eq {x a b c : Int} (h : x = a ∨ x = b ∨ x = c) (h2 : a ≤ x ∧ b ≤ x ∧ c ≤ x) : x = mx3 a b c := (mx_of h h2.1 h2.2.1 h2.2.2).symm
theorem mn3_eq {x a b c : Int} (h : x = a ∨ x = b ∨ x = c) (h2 : x ≤ a ∧ x ≤ b ∧ x ≤ c) : x = mn3 a b c := (mn_of h h2.1 h2.2.1 h2.2.2).symm
structure SeenF (p0 p1 p2 wh ar sp pl : Int) (h l s : UInt64) : Prop where
  light : (Float64.cmpInt (Float64.mul (Float64.mul l (Float64.ofInt 2)) (Float64.ofInt wh)) (mx3 p0 p1 p2 + mn3 p0 p1 p2) == some Ordering.eq) = true
  nil0 : sp = 0 → feq (fmin3 (quo p0 wh) (quo p1 wh) (quo p2 wh)) (fmax3 (quo p0 wh) (quo p1 wh) (quo p2 wh)) = true
  nil1 : sp = 0 → h = 0
  nil2 : sp = 0 → s = 0
  fin1 : sp ≠ 0 → Float64.isFinite (Float64.mul s (Float64.ofInt (mx3 p0 p1 p2 + mn3 p0 p1 p2))) = true
  fin2 : sp ≠ 0 → Float64.isFinite (Float64.mul (Float64.mul h (Float64.ofInt 6)) (Float64.ofInt sp)) = true
  share : sp ≠ 0 → PySem.Flt.toInt Float64.nearestOf (Float64.mul s (Float64.ofInt (mx3 p0 p1 p2 + mn3 p0 p1 p2))) = ar * sp
  hue : sp ≠ 0 → (PySem.Flt.toInt Float64.nearestOf (Float64.mul (Float64.mul h (Float64.ofInt 6)) (Float64.ofInt sp)) - pl).fmod (6 * sp) = 0
theorem fit_53 {a : Int} (h0 : 0 ≤ a) (h1 : a ≤ 2 ^ 40) : a.natAbs ≤ 2 ^ 53 := by (first | exact om415 h0 h1 | omega)
end Sn
local macro_rules | `(tactic| k_room) => `(tactic| ktr_room)
local macro_rules | `(tactic| k_units) => `(tactic| ktr_units)
local macro_rules | `(tactic| k_all) => `(tactic| assumption)
local macro_rules | `(tactic| walk_at "binaryOp Div int int") => `(tactic| (k_here; (with_reducible refine Mine.gd10 ?_); k_dflt (apply Mine.divq_K; exact rfl; assumption; exact Mine.fit_q (by assumption) (by assumption); k_whole); intros))
local macro_rules | `(tactic| walk_at "binaryOp Mult float int") => `(tactic| (k_here; (with_reducible refine Mine.gd11 ?_); k_dflt (apply Mine.mulfi_K; (first | decide | exact Mine.fit_53 (by assumption) (by assumption) | assumption); k_whole); intros))
local macro_rules | `(tactic| walk_at "compareOp Eq ref ref") => `(tactic| (k_here; (with_reducible refine Mine.gd12 ?_); k_dflt (refine' Mine.tup_eq0 ?k0 ?kF ?kB ?k1 ?k2 ?k3 ?n1 ?n2 ?n3 ?n4 ?k4 ?_; (case k0 | kF => k_asm); (case kB => assumption); (case k1 => k_asm); (case k2 | k3 => k_mem); (case n1 | n2 | n3 | n4 => first | assumption | exact Nat.succ_ne_zero _); (case k4 => ktr_units); k_whole)))
local macro_rules | `(tactic| walk_at "call builtin:round") => `(tactic| (k_here; (with_reducible refine Mine.gd13 ?_); k_dflt (apply Mine.round_K; exact rfl; assumption; k_whole); intros))
local macro_rules | `(tactic| walk_at "binaryOp Mod int int") => `(tactic| (k_here; (with_reducible refine mod_int' ?kbe ?_); (case kbe => assumption)))
theorem seen_w {w : World} {p : Program} {loose : List Str} {mean : ExcName → Option Value} {mg mb : Str → Option Value} :
    ∀ {r : Addr} {p0 p1 p2 wh ar sp pl : Int} {t0 t1 t2 t3 t4 t5 t6 : Tok} {n : Nat} {dp un : Nat} {gd : Option (List Code)} {cn : Str} {cs : Scope} {a' : Addr} {ccd : Value} {cl : List (Str × Addr)} {outer : List Env} {A₀ : Around} {base h₀ : Heap} {L : Addr} {m : Str → Option Value} {s : Shared} {Q E : Value → Shared → Prop} {news : List (Addr × Obj)},
    Below A₀ base outer h₀ → Fr h₀ L s.heap m → (hd.heap_39 w.params).In h₀ → News h₀ L s.heap ((r, W.listOf #[.int p0 t0, .int p1 t1, .int p2 t2] n) :: news) → Top p loose mean mg mb h₀ → cs.kind = .function → dp + 80 < recursionLimit → un + 800 < cLine →
    (h1 : 0 ≤ p0) → (h2 : p0 ≤ 2^38) → (h3 : 0 ≤ p1) → (h4 : p1 ≤ 2^38) → (h5 : 0 ≤ p2) → (h6 : p2 ≤ 2^38) → (h7 : 1 ≤ wh) → (h8 : wh ≤ 2^40) → (h9 : 1 ≤ ar) → (h10 : ar ≤ 2^20) → (h11 : 0 ≤ sp) → (h12 : sp ≤ 2^40) → (h13 : -2^40 ≤ pl) → (h14 : pl ≤ 2^40) → (hNB : NoneBooked base) → (ok : HlsOk (quo p0 wh) (quo p1 wh) (quo p2 wh)) → (ok2 : ∀ {hh ll ss : UInt64}, HlsIs (quo p0 wh) (quo p1 wh) (quo p2 wh) hh ll ss → SeenF p0 p1 p2 wh ar sp pl hh ll ss) → (∀ {h' : Heap} {tk' : Nat}, Fr h₀ L h' m → News h₀ L h' ((r, W.listOf #[.int p0 t0, .int p1 t1, .int p2 t2] n) :: news) → Q (.bool true) { s with heap := h', toks := tk' }) →
    wpAny (model PySem.Challenge.rw_zo0001_01.prog w) (ktrTop dp un gd cn cs L a' ccd cl outer) (call (.ref 114) [.ref r, .int wh t3, .int ar t4, .int sp t5, .int pl t6]) Q E s := by
  k_fill
  intro r p0 p1 p2 wh ar sp pl t0 t1 t2 t3 t4 t5 t6 n
  intros
  rename_i B0 F0 X0 N0 T0 hk0 hdp hun h1 h2 h3 h4 h5 h6 h7 h8 h9 h10 h11 h12 h13 h14 hNB ok ok2 hret
  refine wpAny_call ?_
  k_dflt cell_enter
  have hw1 : 0 ≤ wh := by omega
  have hw0 : wh ≠ 0 := by (first | exact om414 h7 | omega)
  iterate 65 walk1
  rename (HlsIs _ _ _ _ _ _) => hl9
  have sf := ok2 hl9
  rename (feq _ _ = true → _ ∧ _) => ht9
  have ht8 := fun e : sp = 0 => ht9 (sf.nil0 e)
  clear hl9 ht9 ok2 ok
  rename (_ ≤ p0 ∧ _ ≤ p1 ∧ _ ≤ p2) => x1
  rename (_ = p0 ∨ _ = p1 ∨ _ = p2) => x2
  have x3 := mn3_eq x2 x1
  clear x1 x2
  subst x3
  rename (p0 ≤ _ ∧ p1 ≤ _ ∧ p2 ≤ _) => x1
  rename (_ = p0 ∨ _ = p1 ∨ _ = p2) => x2
  have x3 := mx3_eq x2 x1
  clear x1 x2
  subst x3
  have hb0 : 0 ≤ mx3 p0 p1 p2 + mn3 p0 p1 p2 := by unfold mx3 mn3; (first | exact om413 h1 h3 h5 | omega)
  have hb1 : mx3 p0 p1 p2 + mn3 p0 p1 p2 ≤ 2 ^ 40 := by unfold mx3 mn3; (first | exact om412 h2 h4 h6 | omega)
  iterate 12 walk1
  rw [if_neg (by unfold bne; rw [sf.light]; decide)]
  iterate 8 walk1
  by_cases hsp : sp = 0
  · rw [if_pos (by rw [hsp]; rfl)]
    have n1 := sf.nil1 hsp
    have n2 := sf.nil2 hsp
    have n3 := ht8 hsp
    obtain ⟨n4, n5⟩ := n3
    clear sf ht8
    subst n1 n2
    k_steps
    all_goals (exact hret (by assumption) (sub_news (by assumption) (by repeat (first | exact SubL.nil | exact SubL.refl _ | refine SubL.keep ?_ | refine SubL.skip ?_))))
  · rw [if_neg (by simpa using hsp)]
    have n1 := sf.fin1 hsp
    have n2 := sf.fin2 hsp
    clear ht8
    have n3 : 6 * sp ≠ 0 := by (first | exact om411 hsp | omega)
    iterate 20 walk1
    rw [if_neg (by rw [sf.share hsp]; simp)]
    k_steps
    all_goals (rw [sf.hue hsp]; exact hret (by assumption) (sub_news (by assumption) (by repeat (first | exact SubL.nil | exact SubL.refl _ | refine SubL.keep ?_ | refine SubL.skip ?_))))
end
section
open PySem PySem.W PyProof.Rows PySem.Calls
set_option Elab.async false
set_option maxRecDepth 100000
set_option maxHeartbeats 4000000
section M3
variable {prog : Program} {w : World} {A : Around} {E : Value → Shared → Prop} {s : Shared} {h₀ : Heap} {L : Addr} {m : Str → Option Value} {news : List (Addr × Obj)}
theorem min3_K {p q r : Int} {t1 t2 t3 : Tok} {k : Nat} {l : Addr} {Q : Value → Shared → Prop} (hh : A.handled = none) (F : Fr h₀ L s.heap m) (N : News h₀ L s.heap news) (hm : (l, W.listOf #[.int p t1, .int q t2, .int r t3] k) ∈ news)
    (h : ∀ h' t tk, Fr h₀ L h' m → News h₀ L h' news → Q (.int (mn3 p q r) t) { s with heap := h', toks := tk }) : wpAny (model prog w) A (call (.builtin "min") [.ref l]) Q E s :=
  kso_min (vs := [.int p t1, .int q t2, .int r t3]) (ns := [p, q, r]) F N ⟨_, (N _ hm).1, rfl, k, rfl⟩ (.cons _ _ (.cons _ _ (.cons _ _ .nil))) (Nat.succ_pos _) hh fun h' M t tk F' N' hM hle => by
    have e : M = mn3 p q r := by
      refine mn3_eq ?_ ⟨hle p (by simp), hle q (by simp), hle r (by simp)⟩
      simpa using hM
    subst e
    exact h h' t tk F' N'
end M3
end
section
open PySem PySem.W PyProof.Rows PySem.Calls
set_option Elab.async false
set_option maxRecDepth 100000
set_option maxHeartbeats 4000000
section Aw
variable {prog : Program} {w : World} {A : Around} {E : Value → Shared → Prop} {s : Shared} {h₀ : Heap} {L : Addr} {news : List (Addr × Obj)} {value slice : PySem.Expr} {Q : Value → Shared → Prop}
theorem away_K {d : Addr} {o : Obj} {as : List Int} {g : Int → Int} {k : Int} {u : Tok} (N : News h₀ L s.heap news) (hm : (d, o) ∈ news) (hA : AwayO o as g) (hk : k ∈ as)
    (h : ∀ t tk, Q (.int (g k) t) { s with toks := tk })
    (hs : subscripted slice false (.ref d) (.int k u) = operate [.ref d, .int k u] (getItem (.ref d) (.int k u)) := by with_unfolding_all rfl) (hg : ∀ x, letTemporaryGo value (.ref d) x = pure () := by intro _; with_unfolding_all rfl) :
    wpAny (model prog w) A (subscriptTail value slice (.ref d) (.int k u)) Q E s := by
  obtain ⟨f, hf, hM⟩ := hA
  obtain ⟨t, ht⟩ := hf k hk
  have hMap := hM s.heap d (N _ hm).1
  exact subscriptTail_builtin hMap.typeIs slot_dict_getitem.lookup (wpAny_getItem_intMap hMap ht (h t _)) hs hg
end Aw
end
section
open PySem PySem.W PyProof.Rows
set_option Elab.async false
set_option maxRecDepth 100000
set_option maxHeartbeats 8000000
section Cb
open PySem.Calls
variable {prog : Program} {w : World} {A : Around} {E : Value → Shared → Prop} {s : Shared} {h₀ : Heap} {L : Addr} {m : Str → Option Value} {env : Env}
noncomputable abbrev CbP (ks : List Int) : Nat → Value → Prop := fun i v => ∃ t, v = .int (ks.getD i 0) t
theorem cb_walks (hh : A.handled = none) (I : Addr) (b : Array UInt8) (t : Tok) {ks : List Int} (hk : KBw.bInts b = ks) :
    Walks prog w A I [I] [I] b.size (CbP ks) (fun i h => KBw.IsBytesIter h I b t i) :=
  let W := KBw.walks (prog := prog) (w := w) (A := A) hh I b t
  { sub := W.sub, frame := W.frame, done := W.done, self := W.self,
    item := fun i s Q E hi st hQ => W.item i s Q E hi st fun v h' tk hP => hQ v h' tk (by
      obtain ⟨c, u, e, rfl⟩ := hP
      refine ⟨u, ?_⟩
      subst hk
      have : (KBw.bInts b).getD i 0 = (c.toNat : Int) := by
        unfold KBw.bInts
        rw [List.getD_eq_getElem?_getD, List.getElem?_map, Array.getElem?_toList, e]
        rfl
      rw [this]) }
noncomputable def CbSrc (prog : Program) (w : World) (A : Around) (h₀ : Heap) (L : Addr) (m : Str → Option Value) (env : Env) (elt : PySem.Expr) (x : Str) (scope : Scope) (cl : List (Str × Addr)) (Q : Value → Shared → Prop) (ks : List Int) (xv : Value) (s₁ : Shared) : Prop :=
  ∃ b t news, xv = .bytes b t ∧ A.handled = none ∧ KBw.bInts b = ks ∧ b.size ≤ sizeLine ∧ Fr h₀ L s₁.heap m ∧ News h₀ L s₁.heap news ∧
    ∀ g, LCg.CompRest prog w A h₀ L m env elt x scope cl { s₁ with heap := g } (fun _ => True) (CbP ks) (LCg.FinE h₀ L m { s₁ with heap := g } Q) b.size 0 [] news
theorem cb_comp {elt iter : PySem.Expr} {x : Str} {px : Pos} {scope : Scope} {cl : List (Str × Addr)} {pos : Pos} {Q : Value → Shared → Prop} (ks : List Int) (_F₀ : Fr h₀ L s.heap m)
    (hclos : closureFor scope env = pure cl) (hcell : ∀ y ∈ scope.names, y.2 ≠ .cell) (hkind : scope.kind = .function)
    (hnames : ∀ y ∈ scope.names, y.2 = .local → scope.names.lookup y.1 = some .local) (hx : scope.names.lookup x = some .local)
    (h : wpAny (model prog w) A (eval iter env) (CbSrc prog w A h₀ L m env elt x scope cl Q ks) E s)
    (hs : ∀ x, foldedSetIterable iter env x = pure x := by intro _; rfl) :
    wpAny (model prog w) A (eval (.ListComp elt [⟨.Name x px, iter, [], 0⟩] scope pos) env) Q E s := by
  rw [eval_ListComp]
  refine wpAny_comprehension_free (use := none) rfl hs hclos hkind hnames (wpAny_mono h (fun xv s₁ h₁ => ?_) fun _ _ e => e)
  obtain ⟨b, t, news, rfl, hh, hk, hsz, F, N, R⟩ := h₁
  refine KBw.pyIter_bytes ?_
  refine LCg.block_U (S := fun _ => True) (cb_walks hh s₁.heap.objs.size b t hk) hsz (fun i h st => ?_) (fun i h h' o nw st e e' _ _ _ => ?_) hcell hkind hx ⟨_, Heap.get?_push_size _ rfl, rfl, rfl⟩ (fun c hc => ?_)
    (F.keeps fun _ _ e => Heap.get?_push_of_some _ e) (N.grown fun _ _ e => Heap.get?_push_of_some _ e) (Nat.ne_of_lt F.ns.lt) (next_is_new F) (fun p hp => Nat.ne_of_lt (Heap.lt_size (N p hp).1)) trivial (R _) ?_
  · obtain ⟨o, e, _⟩ := st; exact ⟨o, e⟩
  · obtain ⟨o', q, r⟩ := st
    rw [e] at q; cases q
    exact ⟨o, e', r⟩
  · rw [List.mem_singleton.mp hc]
    show s₁.heap.objs.size < (s₁.heap.push _).objs.size
    rw [Heap.size_push]; exact Nat.lt_succ_self _
  · intro D C h tk m' ys news' F' N' o1 hn hC₀ hD₀ hCL hDL hCD offC fin
    refine ⟨m', hn, fun h'' hs'' => fin D h'' tk (F'.change hs'' hCL hC₀) (fun p hp => ?_) o1⟩
    refine ⟨hs''.extBut _ _ ?_ (N' p hp).1, (N' p hp).2⟩
    rcases List.mem_cons.mp hp with rfl | hp
    · exact Ne.symm hCD
    · exact offC p hp
end Cb
end
section
open PySem PySem.W PyProof.Rows
set_option Elab.async false
set_option maxRecDepth 100000
set_option maxHeartbeats 8000000
set_option pp.deepTerms false
set_option pp.deepTerms.threshold 3
set_option pp.proofs false
local macro_rules | `(tactic| walk_at "call type:range") => `(tactic| (k_here; k_dflt (apply Mine.range_K; (iterate 2 k_asm); k_whole); intros; walk_at "kl"))
local macro_rules | `(tactic| walk_at "call builtin:sorted") => `(tactic| (k_here; ksk_kw; ksk_show; (with_unfolding_all refine' Mine.rs_due ?k1 ?k2 ?k3 ?k4 ?k5 ?a3 ?_ ?_ ?_ ?_ ?_; (case k1 => exact rfl); (case k2 | k3 => k_asm); (case k4 | k5 => k_mem); (case a3 => (intro x'; ksk_a3))); (all_goals intros); (all_goals walk_at "kl")))

section Ki
variable {prog : Program} {w : World} {A : Around} {E : Value → Shared → Prop} {s : Shared} {h₀ : Heap} {L : Addr} {news : List (Addr × Obj)} {value slice : PySem.Expr} {Q : Value → Shared → Prop}
theorem key_get {a b c d : Int} {ta tb tc td : Tok} {i : Int} (h0 : 0 ≤ i) (h1 : i < 4) : ∃ t, ([.int a ta, .int b tb, .int c tc, .int d td] : List Value)[i.toNat]? = some (.int (keyAt a b c d i) t) := by
  obtain ⟨k, rfl⟩ := Int.eq_ofNat_of_zero_le h0
  match k, h1 with
  | 0, _ => exact ⟨ta, rfl⟩
  | 1, _ => exact ⟨tb, rfl⟩
  | 2, _ => exact ⟨tc, rfl⟩
  | 3, _ => exact ⟨td, rfl⟩
  | k + 4, h => exact absurd h (by omega +splitDisjunctions)
theorem sub4_K {r : Addr} {a b c d : Int} {ta tb tc td : Tok} {n : Nat} {i : Int} {u : Tok} (N : News h₀ L s.heap news) (hm : (r, W.listOf #[.int a ta, .int b tb, .int c tc, .int d td] n) ∈ news) (h0 : 0 ≤ i) (h1 : i < 4)
    (h : ∀ t, Q (.int (keyAt a b c d i) t) s)
    (hs : subscripted slice false (.ref r) (.int i u) = operate [.ref r, .int i u] (getItem (.ref r) (.int i u)) := by with_unfolding_all rfl) (hg : ∀ x, letTemporaryGo value (.ref r) x = pure () := by intro _; with_unfolding_all rfl) :
    wpAny (model prog w) A (subscriptTail value slice (.ref r) (.int i u)) Q E s := by
  obtain ⟨t, ht⟩ := key_get (a := a) (b := b) (c := c) (d := d) (ta := ta) (tb := tb) (tc := tc) (td := td) h0 h1
  exact item_listL (l := [.int a ta, .int b tb, .int c tc, .int d td]) ⟨_, (N _ hm).1, rfl, n, rfl⟩ h0 (by omega +splitDisjunctions) ht (h t) hs hg
theorem xor_bnd {p q : Int} (h0 : 0 ≤ p) (h1 : p < 4) (h2 : 0 ≤ q) (h3 : q < 4) : 0 ≤ Builtin.bitXor p q ∧ Builtin.bitXor p q ≤ 3 := by
  obtain ⟨k, rfl⟩ := Int.eq_ofNat_of_zero_le h0
  obtain ⟨j, rfl⟩ := Int.eq_ofNat_of_zero_le h2
  have hk : k < 4 := by omega +splitDisjunctions
  have hj : j < 4 := by omega +splitDisjunctions
  have aux : ∀ k, k < 4 → ∀ j, j < 4 → 0 ≤ Builtin.bitXor (k : Nat) (j : Nat) ∧ Builtin.bitXor (k : Nat) (j : Nat) ≤ 3 := by decide +kernel
  exact aux k hk j hj
theorem xor_fit {p q : Int} (h0 : 0 ≤ p) (h1 : p < 4) (h2 : 0 ≤ q) (h3 : q < 4) : Builtin.Int.intBits (2 * (Builtin.bitXor p q - 1)) ≤ 64 := by
  have := xor_bnd h0 h1 h2 h3
  exact PySem.intBits_le_64 (by omega +splitDisjunctions) (by omega +splitDisjunctions)
theorem mul_K {a b : Int} {t u : Tok} (hm : IntMulOk a b) (h : ∀ t tk, Q (.int (a * b) t) { s with toks := tk }) : wpAny (model prog w) A (binaryOp .Mult (.int a t) (.int b u)) Q E s := PySem.P.mul_int (h _ _) hm
end Ki
end
section
open PySem PySem.W PyProof.Rows
set_option Elab.async false
set_option maxRecDepth 100000
set_option maxHeartbeats 4000000
section F2
theorem U_e : (2 : Int) ^ 1074 = 18014398509481984 * 2 ^ 1020 := by
  rw [show (1074 : Nat) = 54 + 1020 from rfl, Int.pow_add]; rfl
theorem two_pos (n : Nat) : (0 : Int) < 2 ^ n := Int.pow_pos (by decide)
theorem natAbs_two (n : Nat) : ((2 : Int) ^ n).natAbs = 2 ^ n := by rw [Int.natAbs_pow]; rfl
theorem quo_isF {p : Int} {K : Nat} (h0 : 0 ≤ p) (h1 : p ≤ 2 ^ 53) (hK : K ≤ 1000) : IsF (quo p (2 ^ K)) (p * 2 ^ (1074 - K)) := by
  have hn : p.natAbs ≤ 2 ^ 53 := by (first | exact om54 h0 h1 | omega +splitDisjunctions)
  have hb : p.natAbs * 2 ^ (1074 - K) ≤ 2 ^ (53 + (1074 - K)) := by rw [Nat.pow_add]; exact Nat.mul_le_mul_right _ hn
  have h := frac_exact (neg := (decide (p < 0) != decide ((2 : Int) ^ K < 0))) (n := p.natAbs) (d := ((2 : Int) ^ K).natAbs) (z := p.natAbs * 2 ^ (1074 - K)) (B := 53 + (1074 - K))
    (by rw [natAbs_two]; exact Nat.two_pow_pos _) (by
      rw [natAbs_two]
      have : (2 : Nat) ^ 1074 = 2 ^ K * 2 ^ (1074 - K) := by rw [← Nat.pow_add]; congr 1; (first | exact om53 hK | omega +splitDisjunctions)
      rw [this]; ac_rfl) ⟨_, _, rfl, hn⟩ hb (by (first | exact om52 | omega +splitDisjunctions))
  have e1 : decide (p < 0) = false := by simpa using h0
  have e2 : decide ((2 : Int) ^ K < 0) = false := by have := two_pos K; simp only [decide_eq_false_iff_not]; (first | exact om51 this | omega +splitDisjunctions)
  rw [e1, e2] at h
  have e3 : Float64.sgn (false != false) (p.natAbs * 2 ^ (1074 - K)) = p * 2 ^ (1074 - K) := by
    show (((p.natAbs * 2 ^ (1074 - K) : Nat)) : Int) = _
    rw [Int.natCast_mul, Int.natCast_pow]
    congr 1; (first | exact om50 h0 | omega +splitDisjunctions)
  rw [e3] at h
  show IsF (Float64.ofFrac (decide (p < 0) != decide ((2 : Int) ^ K < 0)) p.natAbs ((2 : Int) ^ K).natAbs) _
  rw [e1, e2]; exact h
theorem fgt_isF {x y : UInt64} {p q g : Int} (hx : IsF x (p * g)) (hy : IsF y (q * g)) (hg : 0 < g) : fgt x y = decide (q < p) := by
  unfold fgt
  rw [cmp_isF hx hy]
  by_cases h : q < p
  · rw [Int.compare_eq_gt.mpr (Int.mul_lt_mul_of_pos_right h hg)]; simp [h]
  · have h2 : p * g ≤ q * g := Int.mul_le_mul_of_nonneg_right (by (first | exact om40 h | omega +splitDisjunctions)) (by (first | exact om49 hg | omega +splitDisjunctions))
    have h3 : compare (p * g) (q * g) ≠ .gt := fun e => by have := Int.compare_eq_gt.mp e; (first | exact om48 h2 this | omega +splitDisjunctions)
    simp only [h, decide_false]
    cases hc : compare (p * g) (q * g) <;> simp_all
theorem flt_isF {x y : UInt64} {p q g : Int} (hx : IsF x (p * g)) (hy : IsF y (q * g)) (hg : 0 < g) : flt x y = decide (p < q) := by
  unfold flt
  rw [cmp_isF hx hy]
  by_cases h : p < q
  · rw [Int.compare_eq_lt.mpr (Int.mul_lt_mul_of_pos_right h hg)]; simp [h]
  · have h2 : q * g ≤ p * g := Int.mul_le_mul_of_nonneg_right (by (first | exact om40 h | omega +splitDisjunctions)) (by (first | exact om49 hg | omega +splitDisjunctions))
    have h3 : compare (p * g) (q * g) ≠ .lt := fun e => by have := Int.compare_eq_lt.mp e; (first | exact om48 h2 this | omega +splitDisjunctions)
    simp only [h, decide_false]
    cases hc : compare (p * g) (q * g) <;> simp_all
theorem feq_isF {x y : UInt64} {p q g : Int} (hx : IsF x (p * g)) (hy : IsF y (q * g)) (hg : 0 < g) : feq x y = decide (p = q) := by
  unfold feq
  rw [cmp_isF hx hy]
  by_cases h : p = q
  · subst h; simp
  · have h3 : compare (p * g) (q * g) ≠ .eq := fun e => by
      have := Int.compare_eq_eq.mp e
      exact h (Int.eq_of_mul_eq_mul_right (by (first | exact om14 hg | omega +splitDisjunctions)) this)
    simp only [h, decide_false]
    cases hc : compare (p * g) (q * g) <;> simp_all
theorem fmax3_isF {x y z : UInt64} {p q r g : Int} (hx : IsF x (p * g)) (hy : IsF y (q * g)) (hz : IsF z (r * g)) (hg : 0 < g) : IsF (fmax3 x y z) (mx3 p q r * g) := by
  unfold fmax3
  rw [fgt_isF hy hx hg, fgt_isF hz hy hg, fgt_isF hz hx hg]
  by_cases h1 : p < q <;> by_cases h2 : q < r <;> by_cases h3 : p < r <;> simp only [h1, h2, h3, decide_true, decide_false, if_true, if_false, Bool.false_eq_true]
  all_goals first
    | (have e : mx3 p q r = r := mx_3 (by (first | exact om43 h3 | exact om47 h1 h2 | omega +splitDisjunctions)) (by (first | exact om43 h2 | exact om42 h1 h3 | omega +splitDisjunctions))
       rw [e]; exact hz)
    | (have e : mx3 p q r = q := mx_2 (by (first | exact om44 h2 h3 | exact om43 h1 | omega +splitDisjunctions)) (by (first | exact om40 h2 | omega +splitDisjunctions))
       rw [e]; exact hy)
    | (have e : mx3 p q r = p := mx_1 (by (first | exact om46 h2 h3 | exact om40 h1 | omega +splitDisjunctions)) (by (first | exact om40 h3 | omega +splitDisjunctions))
       rw [e]; exact hx)
theorem fmin3_isF {x y z : UInt64} {p q r g : Int} (hx : IsF x (p * g)) (hy : IsF y (q * g)) (hz : IsF z (r * g)) (hg : 0 < g) : IsF (fmin3 x y z) (mn3 p q r * g) := by
  unfold fmin3
  rw [flt_isF hy hx hg, flt_isF hz hy hg, flt_isF hz hx hg]
  by_cases h1 : q < p <;> by_cases h2 : r < q <;> by_cases h3 : r < p <;> simp only [h1, h2, h3, decide_true, decide_false, if_true, if_false, Bool.false_eq_true]
  all_goals first
    | (have e : mn3 p q r = r := mn_3 (by (first | exact om43 h3 | exact om45 h1 h2 | omega +splitDisjunctions)) (by (first | exact om43 h2 | exact om44 h1 h3 | omega +splitDisjunctions))
       rw [e]; exact hz)
    | (have e : mn3 p q r = q := mn_2 (by (first | exact om42 h2 h3 | exact om43 h1 | omega +splitDisjunctions)) (by (first | exact om40 h2 | omega +splitDisjunctions))
       rw [e]; exact hy)
    | (have e : mn3 p q r = p := mn_1 (by (first | exact om41 h2 h3 | exact om40 h1 | omega +splitDisjunctions)) (by (first | exact om40 h3 | omega +splitDisjunctions))
       rw [e]; exact hx)
theorem lit_isF (n : Nat) (b : UInt64) (hn : n ≤ 2 ^ 53) (e : Float64.ofInt n = b) : IsF b (n * 2 ^ 1074) := by
  rw [← e]; exact int_exact (by rw [Int.natAbs_natCast]; exact hn)
theorem two_isF : IsF 4611686018427387904 (2 * 2 ^ 1074) := lit_isF 2 _ (by decide) (by decide +kernel)
theorem four_isF : IsF 4616189618054758400 (4 * 2 ^ 1074) := lit_isF 4 _ (by decide) (by decide +kernel)
theorem six_isF : IsF 4618441417868443648 (6 * 2 ^ 1074) := lit_isF 6 _ (by decide) (by decide +kernel)
theorem one_isF' : IsF 4607182418800017408 (2 ^ 1074) := by
  have e : (4607182418800017408 : UInt64) = Float64.one := by decide +kernel
  rw [e]; exact one_isF
theorem toInt_isF {x : UInt64} {u n : Int} (hx : IsF x u) (h : 2 * (u - n * 2 ^ 1074).natAbs < 2 ^ 1074) : PySem.Flt.toInt Float64.nearestOf x = n := by
  obtain ⟨a, m, e, hd, _, _⟩ := isF_dec hx
  rw [PySem.Flt.toInt_fin hd]
  exact nearest_isF hx hd h
theorem fin_isF {x : UInt64} {u : Int} (hx : IsF x u) : Float64.isFinite x = true := by
  obtain ⟨a, m, e, hd, _, _⟩ := isF_dec hx
  unfold Float64.isFinite; rw [hd]
end F2
end
section
open PySem PySem.W PyProof.Rows
set_option Elab.async false
set_option maxRecDepth 100000
set_option maxHeartbeats 4000000
section F3
theorem rep_sc {n : Int} {j : Nat} (h0 : 0 ≤ n) (h1 : n ≤ 2 ^ 53) : Rep (n * 2 ^ j).natAbs ∧ (n * 2 ^ j).natAbs ≤ 2 ^ (53 + j) := by
  have e : (n * 2 ^ j).natAbs = n.natAbs * 2 ^ j := by rw [Int.natAbs_mul, natAbs_two]
  have hn : n.natAbs ≤ 2 ^ 53 := by (first | exact om54 h0 h1 | omega +splitDisjunctions)
  rw [e]
  exact ⟨⟨_, _, rfl, hn⟩, by rw [Nat.pow_add]; exact Nat.mul_le_mul_right _ hn⟩
theorem add_sc {x y : UInt64} {p q : Int} {j : Nat} (hx : IsF x (p * 2 ^ j)) (hy : IsF y (q * 2 ^ j)) (h0 : 0 ≤ p + q) (h1 : p + q ≤ 2 ^ 53) (hj : j ≤ 1900) : IsF (PySem.Float64.add x y) ((p + q) * 2 ^ j) := by
  have r := rep_sc (j := j) h0 h1
  rw [Int.add_mul] at r ⊢
  exact add_exact hx hy r.1 r.2 (by (first | exact om67 hj | omega +splitDisjunctions))
theorem sub_sc {x y : UInt64} {p q : Int} {j : Nat} (hx : IsF x (p * 2 ^ j)) (hy : IsF y (q * 2 ^ j)) (h0 : 0 ≤ p - q) (h1 : p - q ≤ 2 ^ 53) (hj : j ≤ 1900) : IsF (PySem.Float64.sub x y) ((p - q) * 2 ^ j) := by
  have r := rep_sc (j := j) h0 h1
  rw [Int.sub_mul] at r ⊢
  exact sub_exact hx hy r.1 r.2 (by (first | exact om67 hj | omega +splitDisjunctions))
theorem zero_sc {x : UInt64} {p : Int} {j : Nat} (hx : IsF x (p * 2 ^ j)) (h : p ≠ 0) : Float64.isZero x = false := by
  rw [Bool.eq_false_iff]
  intro h2
  have := (isZero_isF hx).mp h2
  rcases Int.mul_eq_zero.mp this with e | e
  · exact h e
  · exact absurd e (Int.ne_of_gt (two_pos j))
structure Pt (K : Nat) (p0 p1 p2 : Int) : Prop where
  a0 : 0 ≤ p0
  b0 : 0 ≤ p1
  c0 : 0 ≤ p2
  a1 : p0 ≤ 2 ^ 38
  b1 : p1 ≤ 2 ^ 38
  c1 : p2 ≤ 2 ^ 38
  s : mx3 p0 p1 p2 + mn3 p0 p1 p2 ≤ 2 ^ K
  k : K ≤ 53
variable {K : Nat} {p0 p1 p2 : Int}
theorem mx_b (h : Pt K p0 p1 p2) : 0 ≤ mn3 p0 p1 p2 ∧ mn3 p0 p1 p2 ≤ mx3 p0 p1 p2 ∧ mx3 p0 p1 p2 ≤ 2 ^ 38 := by
  exact ⟨Int.le_min.mpr ⟨h.a0, Int.le_min.mpr ⟨h.b0, h.c0⟩⟩, Int.le_trans (mn_lb _ _ _).1 (mx_ub _ _ _).1, Int.max_le.mpr ⟨h.a1, Int.max_le.mpr ⟨h.b1, h.c1⟩⟩⟩
theorem pt_x (h : Pt K p0 p1 p2) : IsF (quo p0 (2 ^ K)) (p0 * 2 ^ (1074 - K)) := quo_isF h.a0 (Int.le_trans h.a1 (by decide)) (Nat.le_trans h.k (by decide))
theorem pt_y (h : Pt K p0 p1 p2) : IsF (quo p1 (2 ^ K)) (p1 * 2 ^ (1074 - K)) := quo_isF h.b0 (Int.le_trans h.b1 (by decide)) (Nat.le_trans h.k (by decide))
theorem pt_z (h : Pt K p0 p1 p2) : IsF (quo p2 (2 ^ K)) (p2 * 2 ^ (1074 - K)) := quo_isF h.c0 (Int.le_trans h.c1 (by decide)) (Nat.le_trans h.k (by decide))
theorem pt_mx (h : Pt K p0 p1 p2) : IsF (fmax3 (quo p0 (2 ^ K)) (quo p1 (2 ^ K)) (quo p2 (2 ^ K))) (mx3 p0 p1 p2 * 2 ^ (1074 - K)) := fmax3_isF (pt_x h) (pt_y h) (pt_z h) (two_pos _)
theorem pt_mn (h : Pt K p0 p1 p2) : IsF (fmin3 (quo p0 (2 ^ K)) (quo p1 (2 ^ K)) (quo p2 (2 ^ K))) (mn3 p0 p1 p2 * 2 ^ (1074 - K)) := fmin3_isF (pt_x h) (pt_y h) (pt_z h) (two_pos _)
theorem pt_sm (h : Pt K p0 p1 p2) : IsF (PySem.Float64.add (fmax3 (quo p0 (2 ^ K)) (quo p1 (2 ^ K)) (quo p2 (2 ^ K))) (fmin3 (quo p0 (2 ^ K)) (quo p1 (2 ^ K)) (quo p2 (2 ^ K)))) ((mx3 p0 p1 p2 + mn3 p0 p1 p2) * 2 ^ (1074 - K)) := by
  have b := mx_b h
  exact add_sc (pt_mx h) (pt_mn h) (by (first | exact om63 b | omega +splitDisjunctions)) (by (first | exact om62 b | omega +splitDisjunctions)) (by (first | exact om64 b | omega +splitDisjunctions))
theorem pt_rg (h : Pt K p0 p1 p2) : IsF (PySem.Float64.sub (fmax3 (quo p0 (2 ^ K)) (quo p1 (2 ^ K)) (quo p2 (2 ^ K))) (fmin3 (quo p0 (2 ^ K)) (quo p1 (2 ^ K)) (quo p2 (2 ^ K)))) ((mx3 p0 p1 p2 - mn3 p0 p1 p2) * 2 ^ (1074 - K)) := by
  have b := mx_b h
  exact sub_sc (pt_mx h) (pt_mn h) (by (first | exact om66 b | omega +splitDisjunctions)) (by (first | exact om65 b | omega +splitDisjunctions)) (by (first | exact om64 b | omega +splitDisjunctions))
theorem pt_l (h : Pt K p0 p1 p2) : IsF (hlsL (quo p0 (2 ^ K)) (quo p1 (2 ^ K)) (quo p2 (2 ^ K))) ((mx3 p0 p1 p2 + mn3 p0 p1 p2) * 2 ^ (1073 - K)) := by
  have b := mx_b h
  have hk := h.k
  have r := rep_sc (n := mx3 p0 p1 p2 + mn3 p0 p1 p2) (j := 1073 - K) (by (first | exact om63 b | omega +splitDisjunctions)) (by (first | exact om62 b | omega +splitDisjunctions))
  unfold hlsL
  refine div_exact (pt_sm h) two_isF (by have := two_pos 1074; omega +splitDisjunctions) ?_ r.1 r.2 (by (first | exact om61 | omega +splitDisjunctions))
  have e : (2 : Int) ^ (1074 - K) = 2 * 2 ^ (1073 - K) := by
    rw [show 1074 - K = (1073 - K) + 1 by (first | exact om60 hk | omega +splitDisjunctions), Int.pow_succ, Int.mul_comm]
  rw [e]
  generalize (2 : Int) ^ 1074 = U
  generalize (2 : Int) ^ (1073 - K) = v
  generalize mx3 p0 p1 p2 + mn3 p0 p1 p2 = S
  rw [show S * (2 * v) * U = 2 * U * (S * v) by rw [Int.mul_comm 2 U, ← Int.mul_assoc, Int.mul_comm S 2]; ac_rfl]
theorem pt_eq (h : Pt K p0 p1 p2) : feq (fmin3 (quo p0 (2 ^ K)) (quo p1 (2 ^ K)) (quo p2 (2 ^ K))) (fmax3 (quo p0 (2 ^ K)) (quo p1 (2 ^ K)) (quo p2 (2 ^ K))) = decide (mn3 p0 p1 p2 = mx3 p0 p1 p2) := feq_isF (pt_mn h) (pt_mx h) (two_pos _)
theorem half_isF : IsF 4602678819172646912 (2 ^ 1073) := by
  have h := div_exact (z := 2 ^ 1073) (B := 1073) one_isF' two_isF (by have := two_pos 1074; (first | exact om59 this | omega +splitDisjunctions)) (by
      have e : (2 : Int) ^ 1074 = 2 * 2 ^ 1073 := by rw [show (1074 : Nat) = 1073 + 1 from rfl, Int.pow_succ, Int.mul_comm]
      rw [e]; generalize (2 : Int) ^ 1073 = v; ac_rfl) (by rw [natAbs_two]; exact ⟨1, 1073, (Nat.one_mul _).symm, by decide⟩) (by rw [natAbs_two]; exact Nat.le_refl _) (by decide)
  have e : PySem.Float64.div 4607182418800017408 4611686018427387904 = 4602678819172646912 := by decide +kernel
  rwa [e] at h
theorem hls_ok (h : Pt K p0 p1 p2) : HlsOk (quo p0 (2 ^ K)) (quo p1 (2 ^ K)) (quo p2 (2 ^ K)) := by
  have b := mx_b h
  have hne : feq (fmin3 (quo p0 (2 ^ K)) (quo p1 (2 ^ K)) (quo p2 (2 ^ K))) (fmax3 (quo p0 (2 ^ K)) (quo p1 (2 ^ K)) (quo p2 (2 ^ K))) = false → mn3 p0 p1 p2 ≠ mx3 p0 p1 p2 := fun e => by
    rw [pt_eq h] at e; simpa using e
  refine ⟨fun e => zero_sc (pt_sm h) ?_, fun e => zero_sc (pt_rg h) ?_, fun e => ?_⟩
  · have := hne e; (first | exact om58 b this | omega +splitDisjunctions)
  · have := hne e; (first | exact om57 this | omega +splitDisjunctions)
  · have hl := pt_l h
    have hh : IsF 4602678819172646912 (2 ^ K * 2 ^ (1073 - K)) := by
      have := half_isF
      rwa [show 1073 = K + (1073 - K) by have := h.k; (first | exact om56 this | omega +splitDisjunctions), Int.pow_add] at this
    rw [flt_isF hl hh (two_pos _), feq_isF hl hh (two_pos _)]
    have := h.s
    rw [Bool.or_eq_true, decide_eq_true_eq, decide_eq_true_eq]
    generalize (2 : Int) ^ K = w at *
    (first | exact om55 this | omega +splitDisjunctions)
end F3
end
section
open PySem PySem.W PyProof.Rows
set_option Elab.async false
set_option maxRecDepth 100000
set_option maxHeartbeats 4000000
section F4
-- v / U is within n units (2 ^ 1020 / U) of k / sp
noncomputable def Near (sp v k n : Int) : Prop := -(n * (sp * 2 ^ 1020)) ≤ v * sp - k * 2 ^ 1074 ∧ v * sp - k * 2 ^ 1074 ≤ n * (sp * 2 ^ 1020)
theorem near_mono {sp v k n n' : Int} (hs : 0 ≤ sp) (h : Near sp v k n) (hn : n ≤ n') : Near sp v k n' := by
  have h1 : n * (sp * 2 ^ 1020) ≤ n' * (sp * 2 ^ 1020) := Int.mul_le_mul_of_nonneg_right hn (Int.mul_nonneg hs (Int.le_of_lt (two_pos _)))
  unfold Near at *; (first | exact om81 h h1 | omega +splitDisjunctions)
theorem near_off {sp v v' k n r : Int} (hs : 0 ≤ sp) (h : Near sp v k n) (h1 : -(r * 2 ^ 1020) ≤ v' - v) (h2 : v' - v ≤ r * 2 ^ 1020) : Near sp v' k (n + r) := by
  have e1 := Int.mul_le_mul_of_nonneg_right h1 hs
  have e2 := Int.mul_le_mul_of_nonneg_right h2 hs
  unfold Near at *
  rw [Int.sub_mul] at e1 e2
  rw [Int.add_mul]
  rw [Int.neg_mul] at e1
  rw [show r * 2 ^ 1020 * sp = r * (sp * 2 ^ 1020) by ac_rfl] at e1 e2
  (first | exact om80 h e1 e2 | omega +splitDisjunctions)
theorem near_sub {sp v k n v' k' n' : Int} (h : Near sp v k n) (h' : Near sp v' k' n') : Near sp (v - v') (k - k') (n + n') := by
  unfold Near at *
  rw [Int.sub_mul, Int.sub_mul, Int.add_mul]
  (first | exact om79 h h' | omega +splitDisjunctions)
theorem near_add {sp v k n v' k' n' : Int} (h : Near sp v k n) (h' : Near sp v' k' n') : Near sp (v + v') (k + k') (n + n') := by
  unfold Near at *
  rw [Int.add_mul, Int.add_mul, Int.add_mul]
  (first | exact om78 h h' | omega +splitDisjunctions)
theorem near_exact (sp c : Int) : Near sp (c * 2 ^ 1074) (c * sp) 0 := by
  unfold Near
  rw [show c * 2 ^ 1074 * sp - c * sp * 2 ^ 1074 = 0 by rw [show c * 2 ^ 1074 * sp = c * sp * 2 ^ 1074 by ac_rfl]; (first | exact om77 | omega +splitDisjunctions), Int.zero_mul]
  exact ⟨by decide, by decide⟩
theorem natAbs_le_iff {x : Int} {n : Nat} : x.natAbs ≤ n ↔ -(n : Int) ≤ x ∧ x ≤ n := by (first | exact om76 | omega +splitDisjunctions)
-- |x| ≤ c (c * U) for a near value
theorem near_bound {sp v k n c : Int} (hs : 0 < sp) (h : Near sp v k n) (h1 : -(c * sp) ≤ k) (h2 : k ≤ c * sp) : (-((c * 18014398509481984 + n) * 2 ^ 1020) ≤ v ∧ v ≤ (c * 18014398509481984 + n) * 2 ^ 1020) := by
  have hU := U_e
  have hp : (0 : Int) ≤ 2 ^ 1074 := Int.le_of_lt (two_pos _)
  have e1 := Int.mul_le_mul_of_nonneg_right h1 hp
  have e2 := Int.mul_le_mul_of_nonneg_right h2 hp
  unfold Near at h
  rw [Int.neg_mul] at e1
  have x1 : c * sp * 2 ^ 1074 = c * 18014398509481984 * 2 ^ 1020 * sp := by rw [hU]; ac_rfl
  rw [x1] at e1 e2
  have x2 : n * (sp * 2 ^ 1020) = n * 2 ^ 1020 * sp := by ac_rfl
  rw [x2] at h
  have x3 : (c * 18014398509481984 + n) * 2 ^ 1020 * sp = c * 18014398509481984 * 2 ^ 1020 * sp + n * 2 ^ 1020 * sp := by rw [Int.add_mul, Int.add_mul]
  constructor
  · refine Int.le_of_mul_le_mul_right (a := sp) ?_ hs
    rw [Int.neg_mul, x3]; (first | exact om75 h e1 | omega +splitDisjunctions)
  · refine Int.le_of_mul_le_mul_right (a := sp) ?_ hs
    rw [x3]; (first | exact om74 h e2 | omega +splitDisjunctions)
theorem pow_1020 (j : Nat) : (2 : Nat) ^ (1020 + j) = 2 ^ j * 2 ^ 1020 := by rw [Nat.pow_add, Nat.mul_comm]
theorem cast_1020 : ((2 ^ 1020 : Nat) : Int) = 2 ^ 1020 := by norm_cast
-- float add, sub of near values: values up to 8
theorem fadd_near {x y : UInt64} {sp u v k k' n n' c c' : Int} (hs : 0 < sp) (hx : IsF x u) (hy : IsF y v) (h : Near sp u k n) (h' : Near sp v k' n') (hu : (u + v).natAbs ≤ 2 ^ 1077) :
    ∃ w, IsF (PySem.Float64.add x y) w ∧ Near sp w (k + k') (n + n' + 16) := by
  obtain ⟨w, hw, hd⟩ := add_near hx hy (c := 1025) (by exact hu) (by decide)
  refine ⟨w, hw, near_off (Int.le_of_lt hs) (near_add h h') ?_ ?_⟩
  all_goals
    have e := pow_1020 5
    rw [show (1025 : Nat) = 1020 + 5 from rfl, e] at hd
    have h2 : (w - (u + v)).natAbs ≤ 16 * 2 ^ 1020 := by generalize (2 : Nat) ^ 1020 = z at *; (first | exact om73 hd | omega +splitDisjunctions)
    have h3 := natAbs_le_iff.mp h2
    rw [Int.natCast_mul, cast_1020] at h3
    have : ((16 : Nat) : Int) = 16 := rfl
    rw [this] at h3
    (first | exact om71 h3 | exact om72 h3 | omega +splitDisjunctions)
theorem fsub_near {x y : UInt64} {sp u v k k' n n' : Int} (hs : 0 < sp) (hx : IsF x u) (hy : IsF y v) (h : Near sp u k n) (h' : Near sp v k' n') (hu : (u - v).natAbs ≤ 2 ^ 1077) :
    ∃ w, IsF (PySem.Float64.sub x y) w ∧ Near sp w (k - k') (n + n' + 16) := by
  obtain ⟨w, hw, hd⟩ := sub_near hx hy (c := 1025) (by exact hu) (by decide)
  refine ⟨w, hw, near_off (Int.le_of_lt hs) (near_sub h h') ?_ ?_⟩
  all_goals
    have e := pow_1020 5
    rw [show (1025 : Nat) = 1020 + 5 from rfl, e] at hd
    have h2 : (w - (u - v)).natAbs ≤ 16 * 2 ^ 1020 := by generalize (2 : Nat) ^ 1020 = z at *; (first | exact om70 hd | omega +splitDisjunctions)
    have h3 := natAbs_le_iff.mp h2
    rw [Int.natCast_mul, cast_1020] at h3
    have : ((16 : Nat) : Int) = 16 := rfl
    rw [this] at h3
    (first | exact om68 h3 | exact om69 h3 | omega +splitDisjunctions)
end F4
end
section
open PySem PySem.W PyProof.Rows
set_option Elab.async false
set_option maxRecDepth 100000
set_option maxHeartbeats 4000000
section F5
theorem quot_near {x y : UInt64} {k sp q : Int} (hs : 0 < sp) (hq : 0 < q) (h0 : 0 ≤ k) (h1 : k ≤ sp) (hx : IsF x (k * q)) (hy : IsF y (sp * q)) : ∃ w, IsF (PySem.Float64.div x y) w ∧ Near sp w k 2 := by
  have hv : 0 < sp * q := Int.mul_pos hs hq
  have hu : 0 ≤ k * q := Int.mul_nonneg h0 (Int.le_of_lt hq)
  have hle : k * q ≤ sp * q := Int.mul_le_mul_of_nonneg_right h1 (Int.le_of_lt hq)
  obtain ⟨w, hw, hd⟩ := div_near hx hy hv (c := 1022) (by
    rw [show (1022 : Nat) + 52 = 1074 from rfl]
    exact Nat.mul_le_mul_right _ (by (first | exact om110 hu hle | omega +splitDisjunctions))) (by decide)
  refine ⟨w, hw, ?_⟩
  have e1 : w * (sp * q) - k * q * 2 ^ 1074 = (w * sp - k * 2 ^ 1074) * q := by rw [Int.sub_mul]; congr 1 <;> ac_rfl
  rw [e1] at hd
  have e2 : ((2 * ((w * sp - k * 2 ^ 1074) * q).natAbs : Nat) : Int) ≤ (((sp * q).natAbs * 2 ^ 1022 : Nat) : Int) := Int.ofNat_le.mpr hd
  rw [Int.natCast_mul, Int.natCast_mul, Int.natAbs_of_nonneg (Int.le_of_lt hv)] at e2
  have e3 : ((2 ^ 1022 : Nat) : Int) = 4 * 2 ^ 1020 := by
    rw [Int.natCast_pow, show (1022 : Nat) = 2 + 1020 from rfl, Int.pow_add]; rfl
  rw [e3] at e2
  generalize hX : w * sp - k * 2 ^ 1074 = X at *
  have e4 : ((2 : Nat) : Int) = 2 := rfl
  rw [e4] at e2
  have r : sp * q * (4 * 2 ^ 1020) = (2 * (2 * (sp * 2 ^ 1020))) * q := by
    rw [show (4 : Int) = 2 * 2 from rfl]; ac_rfl
  rw [r] at e2
  have a1 : X * q ≤ 2 * (sp * 2 ^ 1020) * q := by
    have : (X * q) ≤ ((X * q).natAbs : Int) := Int.le_natAbs
    have t : 2 * (2 * (sp * 2 ^ 1020)) * q = 2 * (2 * (sp * 2 ^ 1020) * q) := by ac_rfl
    rw [t] at e2; (first | exact om109 e2 | omega +splitDisjunctions)
  have a2 : -(2 * (sp * 2 ^ 1020)) * q ≤ X * q := by
    have : -(X * q) ≤ ((X * q).natAbs : Int) := by (first | exact om108 | omega +splitDisjunctions)
    have t : 2 * (2 * (sp * 2 ^ 1020)) * q = 2 * (2 * (sp * 2 ^ 1020) * q) := by ac_rfl
    rw [t] at e2; rw [Int.neg_mul]; (first | exact om107 e2 | omega +splitDisjunctions)
  unfold Near
  rw [hX]
  exact ⟨Int.le_of_mul_le_mul_right a2 hq, Int.le_of_mul_le_mul_right a1 hq⟩
theorem natAbs_le_of {x : Int} {c : Int} {j : Nat} (h1 : -(c * 2 ^ 1020) ≤ x) (h2 : x ≤ c * 2 ^ 1020) (hc : c ≤ 2 ^ j) : x.natAbs ≤ 2 ^ (1020 + j) := by
  have e : c * 2 ^ 1020 ≤ 2 ^ j * 2 ^ 1020 := Int.mul_le_mul_of_nonneg_right hc (Int.le_of_lt (two_pos _))
  have e2 : ((2 ^ (1020 + j) : Nat) : Int) = 2 ^ j * 2 ^ 1020 := by rw [Int.natCast_pow, Int.pow_add, Int.mul_comm]; rfl
  have : (x.natAbs : Int) ≤ ((2 ^ (1020 + j) : Nat) : Int) := by rw [e2]; (first | exact om106 h1 h2 e | omega +splitDisjunctions)
  exact Int.ofNat_le.mp this
-- the wheel: h / 6 % 1, then times 6 and spread, rounded
theorem wheel {v : UInt64} {sp w H n : Int} (hs : 0 < sp) (hs1 : sp ≤ 65025) (hv : IsF v w) (h : Near sp w H n) (hn0 : 0 ≤ n) (hn : n ≤ 100) (h1 : -sp ≤ H) (h2 : H ≤ 5 * sp) :
    ∃ H', (H' = H ∨ H' = H + 6 * sp) ∧ Float64.isFinite (Float64.mul (Float64.mul (hlsW v) (Float64.ofInt 6)) (Float64.ofInt sp)) = true ∧
      PySem.Flt.toInt Float64.nearestOf (Float64.mul (Float64.mul (hlsW v) (Float64.ofInt 6)) (Float64.ofInt sp)) = H' := by
  have hU := U_e
  have hb := near_bound (c := 5) hs h (by (first | exact om102 h1 h2 | omega +splitDisjunctions)) (by (first | exact om101 h2 | omega +splitDisjunctions))
  have hz : (0 : Int) < 2 ^ 1020 := two_pos _
  have sc : ∀ {a b : Int}, a ≤ b → a * 2 ^ 1020 ≤ b * 2 ^ 1020 := fun h => Int.mul_le_mul_of_nonneg_right h (Int.le_of_lt hz)
  have hUp : (0 : Int) < 2 ^ 1074 := two_pos _
  have hw : w.natAbs ≤ 2 ^ 1077 := natAbs_le_of (c := 5 * 18014398509481984 + n) (j := 57) hb.1 hb.2 (by (first | exact om105 hn | omega +splitDisjunctions))
  obtain ⟨g, hg, hd⟩ := div_near hv six_isF (by omega +splitDisjunctions) (c := 1025) (by
    have e : ((6 * 2 ^ 1074 : Int)).natAbs = 6 * 2 ^ 1074 := by rw [Int.natAbs_mul, natAbs_two]; rfl
    rw [e, show 1025 + 52 = 1077 from rfl]
    have h1 : w.natAbs * 2 ^ 1074 ≤ 2 ^ 1077 * 2 ^ 1074 := Nat.mul_le_mul_right _ hw
    have h2 : 6 * 2 ^ 1074 * 2 ^ 1077 = 6 * (2 ^ 1077 * 2 ^ 1074) := by ac_rfl
    rw [h2]; generalize (2 : Nat) ^ 1077 * 2 ^ 1074 = y at *; (first | exact om104 h1 | omega +splitDisjunctions)) (by decide)
  have hg6 : -(96 * 2 ^ 1020) ≤ 6 * g - w ∧ 6 * g - w ≤ 96 * 2 ^ 1020 := by
    have e1 : g * (6 * 2 ^ 1074) - w * 2 ^ 1074 = (6 * g - w) * 2 ^ 1074 := by rw [Int.sub_mul]; congr 1; ac_rfl
    have e : ((6 * 2 ^ 1074 : Int)).natAbs = 6 * 2 ^ 1074 := by rw [Int.natAbs_mul, natAbs_two]; rfl
    rw [e1, Int.natAbs_mul, natAbs_two, e] at hd
    have h2 : 2 * (6 * g - w).natAbs * 2 ^ 1074 ≤ (6 * 2 ^ 1025) * 2 ^ 1074 := by
      calc 2 * (6 * g - w).natAbs * 2 ^ 1074 = 2 * ((6 * g - w).natAbs * 2 ^ 1074) := by ac_rfl
        _ ≤ _ := hd
        _ = (6 * 2 ^ 1025) * 2 ^ 1074 := by ac_rfl
    have h3 := Nat.le_of_mul_le_mul_right h2 (Nat.two_pow_pos _)
    rw [show (1025 : Nat) = 1020 + 5 from rfl, pow_1020] at h3
    have h4 : (6 * g - w).natAbs ≤ 96 * 2 ^ 1020 := by generalize (2 : Nat) ^ 1020 = z at *; (first | exact om103 h3 | omega +splitDisjunctions)
    have h5 := natAbs_le_iff.mp h4
    rw [Int.natCast_mul, cast_1020] at h5
    exact h5
  have N6 : Near sp (6 * g) H (n + 96) := near_off (Int.le_of_lt hs) h hg6.1 hg6.2
  have b6 := near_bound (c := 5) hs N6 (by (first | exact om102 h1 h2 | omega +splitDisjunctions)) (by (first | exact om101 h2 | omega +splitDisjunctions))
  have hgU : g.natAbs < 2 ^ 1074 := by
    have q1 := sc (show 5 * 18014398509481984 + (n + 96) ≤ (108086391056891903 : Int) by (first | exact om100 hn | omega +splitDisjunctions))
    have q2 : (108086391056891903 : Int) * 2 ^ 1020 < 6 * 2 ^ 1074 := by rw [hU]; omega +splitDisjunctions
    have : (g.natAbs : Int) < 2 ^ 1074 := by omega +splitDisjunctions
    have e : ((2 ^ 1074 : Nat) : Int) = 2 ^ 1074 := by norm_cast
    rw [← e] at this
    exact Int.ofNat_lt.mp this
  obtain ⟨t, H', hH, ht, N6'⟩ : ∃ t H', (H' = H ∨ H' = H + 6 * sp) ∧ IsF (hlsW v) t ∧ Near sp (6 * t) H' (n + 192) := by
    have e1 : (4607182418800017408 : UInt64) = Float64.one := by decide +kernel
    by_cases hneg : g < 0
    · have hc : (g + 2 ^ 1074).natAbs ≤ 2 ^ (1025 + 52) := by
        have : (g + 2 ^ 1074).natAbs ≤ 2 ^ 1074 := by
          have e : ((2 ^ 1074 : Nat) : Int) = 2 ^ 1074 := by norm_cast
          have h1 : ((g + 2 ^ 1074).natAbs : Int) ≤ ((2 ^ 1074 : Nat) : Int) := by
            have h2 : (g.natAbs : Int) < ((2 ^ 1074 : Nat) : Int) := Int.ofNat_lt.mpr hgU
            rw [e] at h2 ⊢; omega +splitDisjunctions
          exact Int.ofNat_le.mp h1
        exact Nat.le_trans this (Nat.pow_le_pow_right (by decide) (by decide))
      obtain ⟨t, ht, hd2⟩ := mod1_neg hg hgU hneg hc (by decide)
      rw [show (1025 : Nat) = 1020 + 5 from rfl, pow_1020] at hd2
      have h4 : (t - (g + 2 ^ 1074)).natAbs ≤ 16 * 2 ^ 1020 := by generalize (2 : Nat) ^ 1020 = z at *; (first | exact om73 hd2 | omega +splitDisjunctions)
      have h5 := natAbs_le_iff.mp h4
      rw [Int.natCast_mul, cast_1020] at h5
      have e16 : ((16 : Nat) : Int) = 16 := rfl
      rw [e16] at h5
      refine ⟨t, H + 6 * sp, .inr rfl, by unfold hlsW; rw [e1]; exact ht, ?_⟩
      have N7 := near_add N6 (near_exact sp 6)
      have N8 := near_off (v' := 6 * t) (r := 96) (Int.le_of_lt hs) N7 (by (first | exact om99 h5 | omega +splitDisjunctions)) (by (first | exact om98 h5 | omega +splitDisjunctions))
      exact near_mono (Int.le_of_lt hs) N8 (by (first | exact om97 | omega +splitDisjunctions))
    · refine ⟨g, H, .inl rfl, by unfold hlsW; rw [e1]; exact mod1_nonneg hg hgU (by (first | exact om96 hneg | omega +splitDisjunctions)), near_mono (Int.le_of_lt hs) N6 (by (first | exact om95 | omega +splitDisjunctions))⟩
  have bt := near_bound (c := 11) hs N6' (by rcases hH with rfl | rfl <;> (first | exact om91 h1 h2 | exact om92 h1 h2 | omega +splitDisjunctions)) (by rcases hH with rfl | rfl <;> (first | exact om89 h1 h2 | exact om90 h2 | omega +splitDisjunctions))
  have h6t : (6 * t).natAbs ≤ 2 ^ 1078 := natAbs_le_of (c := 11 * 18014398509481984 + (n + 192)) (j := 58) bt.1 bt.2 (by (first | exact om94 hn | omega +splitDisjunctions))
  have i6 : IsF (Float64.ofInt 6) (6 * 2 ^ 1074) := int_exact (by decide)
  obtain ⟨r, hr, hd3⟩ := mul_near ht i6 (c := 1026) (by
    have e : (t * (6 * 2 ^ 1074)).natAbs = 2 ^ 1074 * (6 * t).natAbs := by
      rw [show t * (6 * 2 ^ 1074) = 2 ^ 1074 * (6 * t) by ac_rfl, Int.natAbs_mul, natAbs_two]
    rw [e]; exact Nat.mul_le_mul_left _ h6t) (by decide)
  have hr6 : -(32 * 2 ^ 1020) ≤ r - 6 * t ∧ r - 6 * t ≤ 32 * 2 ^ 1020 := by
    have e1 : r * 2 ^ 1074 - t * (6 * 2 ^ 1074) = 2 ^ 1074 * (r - 6 * t) := by rw [Int.mul_sub]; congr 1 <;> ac_rfl
    rw [e1, Int.natAbs_mul, natAbs_two] at hd3
    have h2 : 2 ^ 1074 * (2 * (r - 6 * t).natAbs) ≤ 2 ^ 1074 * 2 ^ 1026 := by
      calc 2 ^ 1074 * (2 * (r - 6 * t).natAbs) = 2 * (2 ^ 1074 * (r - 6 * t).natAbs) := by ac_rfl
        _ ≤ _ := hd3
    have h3 := Nat.le_of_mul_le_mul_left h2 (Nat.two_pow_pos _)
    rw [show (1026 : Nat) = 1020 + 6 from rfl, pow_1020] at h3
    have h4 : (r - 6 * t).natAbs ≤ 32 * 2 ^ 1020 := by generalize (2 : Nat) ^ 1020 = z at *; (first | exact om93 h3 | omega +splitDisjunctions)
    have h5 := natAbs_le_iff.mp h4
    rw [Int.natCast_mul, cast_1020] at h5
    exact h5
  have N9 : Near sp r H' (n + 192 + 32) := near_off (Int.le_of_lt hs) N6' hr6.1 hr6.2
  have br := near_bound (c := 11) hs N9 (by rcases hH with rfl | rfl <;> (first | exact om91 h1 h2 | exact om92 h1 h2 | omega +splitDisjunctions)) (by rcases hH with rfl | rfl <;> (first | exact om89 h1 h2 | exact om90 h2 | omega +splitDisjunctions))
  have isp : IsF (Float64.ofInt sp) (sp * 2 ^ 1074) := int_exact (by (first | exact om88 hs hs1 | omega +splitDisjunctions))
  have hrs : -(65025 * (11 * 18014398509481984 + (n + 192 + 32)) * 2 ^ 1020) ≤ r * sp ∧ r * sp ≤ 65025 * (11 * 18014398509481984 + (n + 192 + 32)) * 2 ^ 1020 := by
    have c0 : 0 ≤ (11 * 18014398509481984 + (n + 192 + 32)) * 2 ^ 1020 := Int.mul_nonneg (by omega +splitDisjunctions) (Int.le_of_lt hz)
    have c1 := Int.mul_le_mul_of_nonneg_right br.1 (Int.le_of_lt hs)
    have c2 := Int.mul_le_mul_of_nonneg_right br.2 (Int.le_of_lt hs)
    have c3 := Int.mul_le_mul_of_nonneg_left hs1 c0
    rw [Int.neg_mul] at c1
    rw [show 65025 * (11 * 18014398509481984 + (n + 192 + 32)) * 2 ^ 1020 = (11 * 18014398509481984 + (n + 192 + 32)) * 2 ^ 1020 * 65025 by ac_rfl]
    (first | exact om87 c1 c2 c3 | omega +splitDisjunctions)
  have hrs2 : (r * sp).natAbs ≤ 2 ^ 1094 := natAbs_le_of (j := 74) hrs.1 hrs.2 (by (first | exact om86 hn | omega +splitDisjunctions))
  obtain ⟨f, hf, hd4⟩ := mul_near hr isp (c := 1042) (by
    have e : (r * (sp * 2 ^ 1074)).natAbs = 2 ^ 1074 * (r * sp).natAbs := by
      rw [show r * (sp * 2 ^ 1074) = 2 ^ 1074 * (r * sp) by ac_rfl, Int.natAbs_mul, natAbs_two]
    rw [e]; exact Nat.mul_le_mul_left _ hrs2) (by decide)
  have hfr : -(2097152 * 2 ^ 1020) ≤ f - r * sp ∧ f - r * sp ≤ 2097152 * 2 ^ 1020 := by
    have e1 : f * 2 ^ 1074 - r * (sp * 2 ^ 1074) = 2 ^ 1074 * (f - r * sp) := by rw [Int.mul_sub]; congr 1 <;> ac_rfl
    rw [e1, Int.natAbs_mul, natAbs_two] at hd4
    have h2 : 2 ^ 1074 * (2 * (f - r * sp).natAbs) ≤ 2 ^ 1074 * 2 ^ 1042 := by
      calc 2 ^ 1074 * (2 * (f - r * sp).natAbs) = 2 * (2 ^ 1074 * (f - r * sp).natAbs) := by ac_rfl
        _ ≤ _ := hd4
    have h3 := Nat.le_of_mul_le_mul_left h2 (Nat.two_pow_pos _)
    rw [show (1042 : Nat) = 1020 + 22 from rfl, pow_1020] at h3
    have h4 : (f - r * sp).natAbs ≤ 2097152 * 2 ^ 1020 := by generalize (2 : Nat) ^ 1020 = z at *; (first | exact om85 h3 | omega +splitDisjunctions)
    have h5 := natAbs_le_iff.mp h4
    rw [Int.natCast_mul, cast_1020] at h5
    exact h5
  refine ⟨H', hH, fin_isF hf, toInt_isF hf ?_⟩
  have hsz : (n + 192 + 32) * (sp * 2 ^ 1020) ≤ 21068100 * 2 ^ 1020 := by
    have c1 : (n + 192 + 32) * sp ≤ 324 * 65025 := by
      have d1 := Int.mul_le_mul_of_nonneg_right (show n + 192 + 32 ≤ 324 by (first | exact om84 hn | omega +splitDisjunctions)) (Int.le_of_lt hs)
      (first | exact om83 hs1 d1 | omega +splitDisjunctions)
    have c2 := sc c1
    rw [← Int.mul_assoc]; omega +splitDisjunctions
  have hfin : -(23165252 * 2 ^ 1020) ≤ f - H' * 2 ^ 1074 ∧ f - H' * 2 ^ 1074 ≤ 23165252 * 2 ^ 1020 := by
    unfold Near at N9; (first | exact om82 N9 hfr hsz | omega +splitDisjunctions)
  have : ((2 * (f - H' * 2 ^ 1074).natAbs : Nat) : Int) < ((2 ^ 1074 : Nat) : Int) := by
    have e : ((2 ^ 1074 : Nat) : Int) = 2 ^ 1074 := by norm_cast
    rw [e, hU]
    rw [hU] at hfin
    omega +splitDisjunctions
  exact Int.ofNat_lt.mp this
end F5
end
section
open PySem PySem.W PyProof.Rows
set_option Elab.async false
set_option maxRecDepth 100000
set_option maxHeartbeats 4000000
section F6
noncomputable def HueI (X Y Z sp pl : Int) : Prop := mx3 X Y Z - mn3 X Y Z = sp ∧
  ∃ q : Int, (mx3 X Y Z = X ∧ pl = Y - Z + 6 * (sp * q)) ∨ (mx3 X Y Z = Y ∧ pl = 2 * sp + Z - X + 6 * (sp * q)) ∨ (mx3 X Y Z = Z ∧ pl = 4 * sp + X - Y + 6 * (sp * q))
theorem hue_x {X Y Z sp pl : Int} (h : HueI X Y Z sp pl) (e : mx3 X Y Z = X) : ∃ q : Int, pl = Y - Z + 6 * (sp * q) := by
  obtain ⟨h1, q, ⟨e2, h2⟩ | ⟨e2, h2⟩ | ⟨e2, h2⟩⟩ := h
  · exact ⟨q, h2⟩
  · have u := (mx_ub X Y Z).2.2
    rw [e] at h1 e2 u
    subst e2
    rw [mn_3 u u] at h1
    refine ⟨q, ?_⟩; clear e u; generalize sp * q = w at *; (first | exact om128 h1 h2 | omega +splitDisjunctions)
  · have u := (mx_ub X Y Z).2.1
    rw [e] at h1 e2 u
    subst e2
    rw [mn_2 u u] at h1
    refine ⟨q + 1, ?_⟩; rw [Int.mul_add, Int.mul_one]; clear e u; generalize sp * q = w at *; (first | exact om127 h1 h2 | omega +splitDisjunctions)
theorem hue_y {X Y Z sp pl : Int} (h : HueI X Y Z sp pl) (e : mx3 X Y Z = Y) : ∃ q : Int, pl = 2 * sp + Z - X + 6 * (sp * q) := by
  obtain ⟨h1, q, ⟨e2, h2⟩ | ⟨e2, h2⟩ | ⟨e2, h2⟩⟩ := h
  · have u := (mx_ub X Y Z).2.2
    rw [e] at h1 e2 u
    subst e2
    rw [mn_3 u u] at h1
    refine ⟨q, ?_⟩; clear e u; generalize sp * q = w at *; (first | exact om126 h1 h2 | omega +splitDisjunctions)
  · exact ⟨q, h2⟩
  · have u := (mx_ub X Y Z).1
    rw [e] at h1 e2 u
    subst e2
    rw [mn_1 u u] at h1
    refine ⟨q, ?_⟩; clear e u; generalize sp * q = w at *; (first | exact om125 h1 h2 | omega +splitDisjunctions)
theorem hue_z {X Y Z sp pl : Int} (h : HueI X Y Z sp pl) (e : mx3 X Y Z = Z) : ∃ q : Int, pl = 4 * sp + X - Y + 6 * (sp * q) := by
  obtain ⟨h1, q, ⟨e2, h2⟩ | ⟨e2, h2⟩ | ⟨e2, h2⟩⟩ := h
  · have u := (mx_ub X Y Z).2.1
    rw [e] at h1 e2 u
    subst e2
    rw [mn_2 u u] at h1
    refine ⟨q - 1, ?_⟩; rw [Int.mul_sub, Int.mul_one]; clear e u; generalize sp * q = w at *; (first | exact om124 h1 h2 | omega +splitDisjunctions)
  · have u := (mx_ub X Y Z).1
    rw [e] at h1 e2 u
    subst e2
    rw [mn_1 u u] at h1
    refine ⟨q, ?_⟩; clear e u; generalize sp * q = w at *; (first | exact om123 h1 h2 | omega +splitDisjunctions)
  · exact ⟨q, h2⟩
theorem mx_sc {ar c X Y Z : Int} (ha : 0 < ar) : mx3 (c + ar * X) (c + ar * Y) (c + ar * Z) = c + ar * mx3 X Y Z := by
  have f : ∀ {u v : Int}, u ≤ v → c + ar * u ≤ c + ar * v := fun h => Int.add_le_add_left (Int.mul_le_mul_of_nonneg_left h (Int.le_of_lt ha)) c
  rcases mx_cases X Y Z with ⟨e, h1, h2⟩ | ⟨e, h1, h2⟩ | ⟨e, h1, h2⟩ <;> rw [e]
  · exact mx_1 (f h1) (f h2)
  · exact mx_2 (f h1) (f h2)
  · exact mx_3 (f h1) (f h2)
theorem mn_sc {ar c X Y Z : Int} (ha : 0 < ar) : mn3 (c + ar * X) (c + ar * Y) (c + ar * Z) = c + ar * mn3 X Y Z := by
  have f : ∀ {u v : Int}, u ≤ v → c + ar * u ≤ c + ar * v := fun h => Int.add_le_add_left (Int.mul_le_mul_of_nonneg_left h (Int.le_of_lt ha)) c
  rcases mn_cases X Y Z with ⟨e, h1, h2⟩ | ⟨e, h1, h2⟩ | ⟨e, h1, h2⟩ <;> rw [e]
  · exact mn_1 (f h1) (f h2)
  · exact mn_2 (f h1) (f h2)
  · exact mn_3 (f h1) (f h2)
variable {K : Nat} {p0 p1 p2 : Int}
theorem pt_light (h : Pt K p0 p1 p2) : (Float64.cmpInt (Float64.mul (Float64.mul (hlsL (quo p0 (2 ^ K)) (quo p1 (2 ^ K)) (quo p2 (2 ^ K))) (Float64.ofInt 2)) (Float64.ofInt (2 ^ K))) (mx3 p0 p1 p2 + mn3 p0 p1 p2) == some Ordering.eq) = true := by
  have b := mx_b h
  have hk := h.k
  have r1 := rep_sc (n := mx3 p0 p1 p2 + mn3 p0 p1 p2) (j := 1074 - K) (by (first | exact om63 b | omega +splitDisjunctions)) (by (first | exact om62 b | omega +splitDisjunctions))
  have r2 := rep_sc (n := mx3 p0 p1 p2 + mn3 p0 p1 p2) (j := 1074) (by (first | exact om63 b | omega +splitDisjunctions)) (by (first | exact om62 b | omega +splitDisjunctions))
  have i2 : IsF (Float64.ofInt 2) (2 * 2 ^ 1074) := int_exact (by decide)
  have iK : IsF (Float64.ofInt (2 ^ K)) (2 ^ K * 2 ^ 1074) := int_exact (by rw [natAbs_two]; exact Nat.pow_le_pow_right (by decide) hk)
  have e1 : (2 : Int) ^ (1074 - K) = 2 * 2 ^ (1073 - K) := by
    rw [show 1074 - K = (1073 - K) + 1 by (first | exact om60 hk | omega +splitDisjunctions), Int.pow_succ, Int.mul_comm]
  have m1 := mul_exact (z := (mx3 p0 p1 p2 + mn3 p0 p1 p2) * 2 ^ (1074 - K)) (pt_l h) i2 (by rw [e1]; ac_rfl) r1.1 r1.2 (by (first | exact om52 | omega +splitDisjunctions))
  have e2 : (2 : Int) ^ 1074 = 2 ^ (1074 - K) * 2 ^ K := by rw [← Int.pow_add]; congr 1; (first | exact om122 hk | omega +splitDisjunctions)
  have m2 := mul_exact (z := (mx3 p0 p1 p2 + mn3 p0 p1 p2) * 2 ^ 1074) m1 iK (by
    generalize mx3 p0 p1 p2 + mn3 p0 p1 p2 = S
    have : S * 2 ^ (1074 - K) * (2 ^ K * 2 ^ 1074) = 2 ^ 1074 * (S * (2 ^ (1074 - K) * 2 ^ K)) := by ac_rfl
    rw [this, ← e2]) r2.1 r2.2 (by (first | exact om121 | omega +splitDisjunctions))
  rw [cmpInt_isF m2]
  simp
theorem share_ok {D : Int} (h : Pt K p0 p1 p2) (hD : mx3 p0 p1 p2 - mn3 p0 p1 p2 = D) (hp : 0 < D) :
    Float64.isFinite (Float64.mul (hlsS (quo p0 (2 ^ K)) (quo p1 (2 ^ K)) (quo p2 (2 ^ K))) (Float64.ofInt (mx3 p0 p1 p2 + mn3 p0 p1 p2))) = true ∧
    PySem.Flt.toInt Float64.nearestOf (Float64.mul (hlsS (quo p0 (2 ^ K)) (quo p1 (2 ^ K)) (quo p2 (2 ^ K))) (Float64.ofInt (mx3 p0 p1 p2 + mn3 p0 p1 p2))) = D := by
  have b := mx_b h
  have hU := U_e
  have hz : (0 : Int) < 2 ^ 1020 := two_pos _
  have sc : ∀ {a b : Int}, a ≤ b → a * 2 ^ 1020 ≤ b * 2 ^ 1020 := fun h => Int.mul_le_mul_of_nonneg_right h (Int.le_of_lt hz)
  have hr := pt_rg h
  have hs := pt_sm h
  rw [hD] at hr
  generalize hS : mx3 p0 p1 p2 + mn3 p0 p1 p2 = S at *
  obtain ⟨w, hw, N⟩ := quot_near (sp := S) (k := D) (q := 2 ^ (1074 - K)) (by (first | exact om120 hD hp b hS | omega +splitDisjunctions)) (two_pos _) (by (first | exact om49 hp | omega +splitDisjunctions)) (by (first | exact om119 hD b hS | omega +splitDisjunctions)) hr hs
  have hS39 : S ≤ 549755813888 := by have : (2 : Int) ^ 38 = 274877906944 := by decide
                                     (first | exact om118 b hS | omega +splitDisjunctions)
  have iS : IsF (Float64.ofInt S) (S * 2 ^ 1074) := int_exact (by (first | exact om117 b hS | omega +splitDisjunctions))
  have s1 := sc (show 2 * S ≤ 1099511627776 by (first | exact om116 hS39 | omega +splitDisjunctions))
  have s2 := sc (show D * 18014398509481984 ≤ 549755813888 * 18014398509481984 by (first | exact om115 hD b | omega +splitDisjunctions))
  have hb : -( (549755813888 * 18014398509481984 + 1099511627776) * 2 ^ 1020) ≤ w * S ∧ w * S ≤ (549755813888 * 18014398509481984 + 1099511627776) * 2 ^ 1020 := by
    unfold Near at N
    rw [hU] at N
    rw [show D * (18014398509481984 * 2 ^ 1020) = D * 18014398509481984 * 2 ^ 1020 by ac_rfl, show 2 * (S * 2 ^ 1020) = 2 * S * 2 ^ 1020 by ac_rfl] at N
    have : 0 ≤ D * 18014398509481984 * 2 ^ 1020 := Int.mul_nonneg (by (first | exact om114 hp | omega +splitDisjunctions)) (Int.le_of_lt hz)
    rw [Int.add_mul]
    (first | exact om113 N s1 s2 this | omega +splitDisjunctions)
  have hb2 : (w * S).natAbs ≤ 2 ^ 1114 := natAbs_le_of (j := 94) hb.1 hb.2 (by decide)
  obtain ⟨f, hf, hd⟩ := mul_near hw iS (c := 1062) (by
    have e : (w * (S * 2 ^ 1074)).natAbs = 2 ^ 1074 * (w * S).natAbs := by
      rw [show w * (S * 2 ^ 1074) = 2 ^ 1074 * (w * S) by ac_rfl, Int.natAbs_mul, natAbs_two]
    rw [e]; exact Nat.mul_le_mul_left _ hb2) (by decide)
  have hfr : -(2199023255552 * 2 ^ 1020) ≤ f - w * S ∧ f - w * S ≤ 2199023255552 * 2 ^ 1020 := by
    have e1 : f * 2 ^ 1074 - w * (S * 2 ^ 1074) = 2 ^ 1074 * (f - w * S) := by rw [Int.mul_sub]; congr 1 <;> ac_rfl
    rw [e1, Int.natAbs_mul, natAbs_two] at hd
    have h2 : 2 ^ 1074 * (2 * (f - w * S).natAbs) ≤ 2 ^ 1074 * 2 ^ 1062 := by
      calc 2 ^ 1074 * (2 * (f - w * S).natAbs) = 2 * (2 ^ 1074 * (f - w * S).natAbs) := by ac_rfl
        _ ≤ _ := hd
    have h3 := Nat.le_of_mul_le_mul_left h2 (Nat.two_pow_pos _)
    rw [show (1062 : Nat) = 1020 + 42 from rfl, pow_1020] at h3
    have h4 : (f - w * S).natAbs ≤ 2199023255552 * 2 ^ 1020 := by generalize (2 : Nat) ^ 1020 = z at *; (first | exact om112 h3 | omega +splitDisjunctions)
    have h5 := natAbs_le_iff.mp h4
    rw [Int.natCast_mul, cast_1020] at h5
    exact h5
  refine ⟨fin_isF hf, toInt_isF hf ?_⟩
  have hfin : -(3298534883328 * 2 ^ 1020) ≤ f - D * 2 ^ 1074 ∧ f - D * 2 ^ 1074 ≤ 3298534883328 * 2 ^ 1020 := by
    unfold Near at N
    rw [show 2 * (S * 2 ^ 1020) = 2 * S * 2 ^ 1020 by ac_rfl] at N
    (first | exact om111 N s1 hfr | omega +splitDisjunctions)
  have : ((2 * (f - D * 2 ^ 1074).natAbs : Nat) : Int) < ((2 ^ 1074 : Nat) : Int) := by
    have e : ((2 ^ 1074 : Nat) : Int) = 2 ^ 1074 := by norm_cast
    rw [e, hU]
    rw [hU] at hfin
    omega +splitDisjunctions
  exact Int.ofNat_lt.mp this
end F6
end
section
open PySem PySem.W PyProof.Rows
set_option Elab.async false
set_option maxRecDepth 100000
set_option maxHeartbeats 4000000
section F7
variable {K : Nat} {p0 p1 p2 : Int}
-- one of the three quotients
theorem hc_near {ar sp k v : Int} {x : UInt64} (h : Pt K p0 p1 p2) (ha : 0 < ar) (hs : 0 < sp) (hD : mx3 p0 p1 p2 - mn3 p0 p1 p2 = ar * sp) (hx : IsF x (v * 2 ^ (1074 - K))) (hk : mx3 p0 p1 p2 - v = ar * k) (h0 : 0 ≤ k) (h1 : k ≤ sp) :
    ∃ w, IsF (hlsC (quo p0 (2 ^ K)) (quo p1 (2 ^ K)) (quo p2 (2 ^ K)) x) w ∧ Near sp w k 2 := by
  have b := mx_b h
  have c0 : 0 ≤ ar * k := Int.mul_nonneg (Int.le_of_lt ha) h0
  have c1 : ar * k ≤ ar * sp := Int.mul_le_mul_of_nonneg_left h1 (Int.le_of_lt ha)
  have hr := pt_rg h
  have hn := sub_sc (pt_mx h) hx (by (first | exact om174 hk c0 | omega +splitDisjunctions)) (by (first | exact om173 hD hk b c1 | omega +splitDisjunctions)) (by (first | exact om172 | omega +splitDisjunctions))
  rw [hD] at hr
  rw [hk] at hn
  rw [show ar * sp * 2 ^ (1074 - K) = sp * (ar * 2 ^ (1074 - K)) by ac_rfl] at hr
  rw [show ar * k * 2 ^ (1074 - K) = k * (ar * 2 ^ (1074 - K)) by ac_rfl] at hn
  exact quot_near hs (Int.mul_pos ha (two_pos _)) h0 h1 hn hr
theorem nb_two {u v : Int} {n : Int} (h1 : -(n * 2 ^ 1020) ≤ u + v ∧ u + v ≤ n * 2 ^ 1020) (hn : n ≤ 144115188075855872) : (u + v).natAbs ≤ 2 ^ 1077 := natAbs_le_of (j := 57) h1.1 h1.2 hn
theorem wheel_ok {x v : UInt64} {sp pl w H n q : Int} (hs : 0 < sp) (hs1 : sp ≤ 65025) (e : x = hlsW v) (hv : IsF v w) (hN : Near sp w H n) (hn0 : 0 ≤ n) (hn1 : n ≤ 100) (hH1 : -sp ≤ H) (hH2 : H ≤ 5 * sp) (hpl : pl = H + 6 * (sp * q)) :
    Float64.isFinite (Float64.mul (Float64.mul x (Float64.ofInt 6)) (Float64.ofInt sp)) = true ∧ (PySem.Flt.toInt Float64.nearestOf (Float64.mul (Float64.mul x (Float64.ofInt 6)) (Float64.ofInt sp)) - pl).fmod (6 * sp) = 0 := by
  obtain ⟨H', hH', hf, ht⟩ := wheel hs hs1 hv hN hn0 hn1 hH1 hH2
  rw [e]
  refine ⟨hf, ?_⟩
  rw [ht, hpl]
  rcases hH' with rfl | rfl
  · rw [show H' - (H' + 6 * (sp * q)) = (6 * sp) * (-q) by rw [Int.mul_neg, Int.mul_assoc]; (first | exact om171 | omega +splitDisjunctions)]
    exact Int.mul_fmod_right _ _
  · rw [show H + 6 * sp - (H + 6 * (sp * q)) = (6 * sp) * (1 - q) by rw [Int.mul_sub, Int.mul_one, Int.mul_assoc 6 sp q]; (first | exact om170 | omega +splitDisjunctions)]
    exact Int.mul_fmod_right _ _
theorem seen_hue {ar sp pl X Y Z : Int} (h : Pt K p0 p1 p2) (ha : 0 < ar) (hs : 0 < sp) (hs1 : sp ≤ 65025) (dY : p1 = p0 + ar * (Y - X)) (dZ : p2 = p0 + ar * (Z - X)) (hue : HueI X Y Z sp pl) :
    Float64.isFinite (Float64.mul (Float64.mul (hlsH (quo p0 (2 ^ K)) (quo p1 (2 ^ K)) (quo p2 (2 ^ K))) (Float64.ofInt 6)) (Float64.ofInt sp)) = true ∧
    (PySem.Flt.toInt Float64.nearestOf (Float64.mul (Float64.mul (hlsH (quo p0 (2 ^ K)) (quo p1 (2 ^ K)) (quo p2 (2 ^ K))) (Float64.ofInt 6)) (Float64.ofInt sp)) - pl).fmod (6 * sp) = 0 := by
  have hz : (0 : Int) < 2 ^ 1020 := two_pos _
  have hU := U_e
  have em : mx3 p0 p1 p2 = p0 + ar * (mx3 X Y Z - X) := by
    have := mx_sc (c := p0 - ar * X) (X := X) (Y := Y) (Z := Z) ha
    rw [show p0 - ar * X + ar * X = p0 by (first | exact om136 | omega +splitDisjunctions), show p0 - ar * X + ar * Y = p1 by rw [dY, Int.mul_sub]; (first | exact om135 | omega +splitDisjunctions), show p0 - ar * X + ar * Z = p2 by rw [dZ, Int.mul_sub]; (first | exact om135 | omega +splitDisjunctions)] at this
    rw [this, Int.mul_sub]; (first | exact om135 | omega +splitDisjunctions)
  have en : mn3 p0 p1 p2 = p0 + ar * (mn3 X Y Z - X) := by
    have := mn_sc (c := p0 - ar * X) (X := X) (Y := Y) (Z := Z) ha
    rw [show p0 - ar * X + ar * X = p0 by (first | exact om136 | omega +splitDisjunctions), show p0 - ar * X + ar * Y = p1 by rw [dY, Int.mul_sub]; (first | exact om135 | omega +splitDisjunctions), show p0 - ar * X + ar * Z = p2 by rw [dZ, Int.mul_sub]; (first | exact om135 | omega +splitDisjunctions)] at this
    rw [this, Int.mul_sub]; (first | exact om135 | omega +splitDisjunctions)
  have hsp := hue.1
  have hD : mx3 p0 p1 p2 - mn3 p0 p1 p2 = ar * sp := by
    rw [em, en, ← hsp, Int.mul_sub, Int.mul_sub, Int.mul_sub]; (first | exact om169 | omega +splitDisjunctions)
  have bmx : mn3 X Y Z ≤ X ∧ mn3 X Y Z ≤ Y ∧ mn3 X Y Z ≤ Z ∧ X ≤ mx3 X Y Z ∧ Y ≤ mx3 X Y Z ∧ Z ≤ mx3 X Y Z := ⟨(mn_lb X Y Z).1, (mn_lb X Y Z).2.1, (mn_lb X Y Z).2.2, mx_ub X Y Z⟩
  obtain ⟨z0, hz0, N0⟩ := hc_near (k := mx3 X Y Z - X) h ha hs hD (pt_x h) (by rw [em]; (first | exact om168 | omega +splitDisjunctions)) (by (first | exact om167 bmx | omega +splitDisjunctions)) (by (first | exact om166 hsp bmx | omega +splitDisjunctions))
  obtain ⟨z1, hz1, N1⟩ := hc_near (k := mx3 X Y Z - Y) h ha hs hD (pt_y h) (by rw [em, dY, ← Int.sub_eq_zero]; rw [Int.mul_sub, Int.mul_sub, Int.mul_sub]; (first | exact om163 | omega +splitDisjunctions)) (by (first | exact om165 bmx | omega +splitDisjunctions)) (by (first | exact om164 hsp bmx | omega +splitDisjunctions))
  obtain ⟨z2, hz2, N2⟩ := hc_near (k := mx3 X Y Z - Z) h ha hs hD (pt_z h) (by rw [em, dZ, ← Int.sub_eq_zero]; rw [Int.mul_sub, Int.mul_sub, Int.mul_sub]; (first | exact om163 | omega +splitDisjunctions)) (by (first | exact om162 bmx | omega +splitDisjunctions)) (by (first | exact om161 hsp bmx | omega +splitDisjunctions))
  have b0 := near_bound (c := 1) hs N0 (by (first | exact om160 hsp bmx | omega +splitDisjunctions)) (by (first | exact om159 hsp bmx | omega +splitDisjunctions))
  have b1 := near_bound (c := 1) hs N1 (by (first | exact om158 hsp bmx | omega +splitDisjunctions)) (by (first | exact om157 hsp bmx | omega +splitDisjunctions))
  have b2 := near_bound (c := 1) hs N2 (by (first | exact om156 hsp bmx | omega +splitDisjunctions)) (by (first | exact om155 hsp bmx | omega +splitDisjunctions))
  by_cases c1 : p0 = mx3 p0 p1 p2
  · have eX : mx3 X Y Z = X := by
      have : ar * (mx3 X Y Z - X) = 0 := by (first | exact om154 em c1 | omega +splitDisjunctions)
      rcases Int.mul_eq_zero.mp this with e | e <;> (first | exact om142 ha e | exact om143 e | omega +splitDisjunctions)
    obtain ⟨q, hq⟩ := hue_x hue eX
    obtain ⟨w, hw, NW⟩ := fsub_near hs hz2 hz1 N2 N1 (by rw [Int.sub_eq_add_neg]; exact nb_two (n := 2 * 18014398509481984 + 4) (by constructor <;> omega +splitDisjunctions) (by decide))
    refine wheel_ok hs hs1 (H := mx3 X Y Z - Z - (mx3 X Y Z - Y)) (q := q) ?_ hw NW (by decide) (by decide) (by (first | exact om153 hsp bmx | omega +splitDisjunctions)) (by (first | exact om152 hsp bmx | omega +splitDisjunctions)) (by (first | exact om151 hq | omega +splitDisjunctions))
    unfold hlsH
    rw [feq_isF (pt_x h) (pt_mx h) (two_pos _), if_pos (by simpa using c1)]
  · by_cases c2 : p1 = mx3 p0 p1 p2
    · have eY : mx3 X Y Z = Y := by
        have : ar * (mx3 X Y Z - Y) = 0 := by rw [Int.mul_sub] at em dY ⊢; (first | exact om150 dY em c2 | omega +splitDisjunctions)
        rcases Int.mul_eq_zero.mp this with e | e <;> (first | exact om142 ha e | exact om143 e | omega +splitDisjunctions)
      obtain ⟨q, hq⟩ := hue_y hue eY
      obtain ⟨w, hw, NW⟩ := fadd_near (c := 0) (c' := 0) hs two_isF hz0 (near_exact sp 2) N0 (nb_two (n := 3 * 18014398509481984 + 2) (by constructor <;> omega +splitDisjunctions) (by decide))
      have bw := near_bound (c := 3) hs NW (by (first | exact om149 hsp bmx | omega +splitDisjunctions)) (by (first | exact om148 hsp bmx | omega +splitDisjunctions))
      obtain ⟨w', hw', NW'⟩ := fsub_near hs hw hz2 NW N2 (by rw [Int.sub_eq_add_neg]; exact nb_two (n := 4 * 18014398509481984 + 40) (by constructor <;> omega +splitDisjunctions) (by decide))
      refine wheel_ok hs hs1 (H := 2 * sp + (mx3 X Y Z - X) - (mx3 X Y Z - Z)) (q := q) ?_ hw' NW' (by decide) (by decide) (by (first | exact om147 hsp bmx | omega +splitDisjunctions)) (by (first | exact om146 hsp bmx | omega +splitDisjunctions)) (by (first | exact om145 hq | omega +splitDisjunctions))
      unfold hlsH
      rw [feq_isF (pt_x h) (pt_mx h) (two_pos _), feq_isF (pt_y h) (pt_mx h) (two_pos _), if_neg (by simpa using c1), if_pos (by simpa using c2)]
    · have eZ : mx3 X Y Z = Z := by
        rcases mx_cases p0 p1 p2 with ⟨e, _, _⟩ | ⟨e, _, _⟩ | ⟨e, _, _⟩
        · exact absurd e.symm c1
        · exact absurd e.symm c2
        · have : ar * (mx3 X Y Z - Z) = 0 := by rw [Int.mul_sub] at em dZ ⊢; (first | exact om144 dZ em e | omega +splitDisjunctions)
          rcases Int.mul_eq_zero.mp this with e | e <;> (first | exact om142 ha e | exact om143 e | omega +splitDisjunctions)
      obtain ⟨q, hq⟩ := hue_z hue eZ
      obtain ⟨w, hw, NW⟩ := fadd_near (c := 0) (c' := 0) hs four_isF hz1 (near_exact sp 4) N1 (nb_two (n := 5 * 18014398509481984 + 2) (by constructor <;> omega +splitDisjunctions) (by decide))
      have bw := near_bound (c := 5) hs NW (by (first | exact om141 hsp bmx | omega +splitDisjunctions)) (by (first | exact om140 hsp bmx | omega +splitDisjunctions))
      obtain ⟨w', hw', NW'⟩ := fsub_near hs hw hz0 NW N0 (by rw [Int.sub_eq_add_neg]; exact nb_two (n := 6 * 18014398509481984 + 40) (by constructor <;> omega +splitDisjunctions) (by decide))
      refine wheel_ok hs hs1 (H := 4 * sp + (mx3 X Y Z - Y) - (mx3 X Y Z - X)) (q := q) ?_ hw' NW' (by decide) (by decide) (by (first | exact om139 hsp bmx | omega +splitDisjunctions)) (by (first | exact om138 hsp bmx | omega +splitDisjunctions)) (by (first | exact om137 hq | omega +splitDisjunctions))
      unfold hlsH
      rw [feq_isF (pt_x h) (pt_mx h) (two_pos _), feq_isF (pt_y h) (pt_mx h) (two_pos _), if_neg (by simpa using c1), if_neg (by simpa using c2)]
theorem seen_ok {ar sp pl X Y Z : Int} (h : Pt K p0 p1 p2) (ha : 0 < ar) (hs1 : sp ≤ 65025) (dY : p1 = p0 + ar * (Y - X)) (dZ : p2 = p0 + ar * (Z - X)) (hue : HueI X Y Z sp pl) :
    ∀ {hh ll ss : UInt64}, HlsIs (quo p0 (2 ^ K)) (quo p1 (2 ^ K)) (quo p2 (2 ^ K)) hh ll ss → SeenF p0 p1 p2 (2 ^ K) ar sp pl hh ll ss := by
  intro hh ll ss hI
  have em : mx3 p0 p1 p2 - mn3 p0 p1 p2 = ar * sp := by
    have e1 := mx_sc (c := p0 - ar * X) (X := X) (Y := Y) (Z := Z) ha
    have e2 := mn_sc (c := p0 - ar * X) (X := X) (Y := Y) (Z := Z) ha
    rw [show p0 - ar * X + ar * X = p0 by (first | exact om136 | omega +splitDisjunctions), show p0 - ar * X + ar * Y = p1 by rw [dY, Int.mul_sub]; (first | exact om135 | omega +splitDisjunctions), show p0 - ar * X + ar * Z = p2 by rw [dZ, Int.mul_sub]; (first | exact om135 | omega +splitDisjunctions)] at e1 e2
    rw [e1, e2, ← hue.1, Int.mul_sub]; (first | exact om134 | omega +splitDisjunctions)
  have b := mx_b h
  have hnn : 0 ≤ sp := by rw [← hue.1]; exact Int.sub_nonneg.mpr (Int.le_trans (mn_lb _ _ _).1 (mx_ub _ _ _).1)
  obtain ⟨rfl, hI⟩ := hI
  have heq : feq (fmin3 (quo p0 (2 ^ K)) (quo p1 (2 ^ K)) (quo p2 (2 ^ K))) (fmax3 (quo p0 (2 ^ K)) (quo p1 (2 ^ K)) (quo p2 (2 ^ K))) = decide (sp = 0) := by
    rw [pt_eq h]
    apply decide_eq_decide.mpr
    constructor
    · intro e
      have : ar * sp = 0 := by (first | exact om133 em e | omega +splitDisjunctions)
      rcases Int.mul_eq_zero.mp this with e | e <;> (first | exact om131 ha e | exact om132 e | omega +splitDisjunctions)
    · intro e
      rw [e, Int.mul_zero] at em; (first | exact om130 em | omega +splitDisjunctions)
  rw [heq] at hI
  have hpos : sp ≠ 0 → 0 < sp := fun e => by (first | exact om129 hnn e | omega +splitDisjunctions)
  have hne : sp ≠ 0 → hh = hlsH (quo p0 (2 ^ K)) (quo p1 (2 ^ K)) (quo p2 (2 ^ K)) ∧ ss = hlsS (quo p0 (2 ^ K)) (quo p1 (2 ^ K)) (quo p2 (2 ^ K)) := fun e => by
    rcases hI with ⟨e2, _⟩ | ⟨_, e2, e3⟩
    · exact absurd (of_decide_eq_true e2) e
    · exact ⟨e3, e2⟩
  have hze : sp = 0 → hh = 0 ∧ ss = 0 := fun e => by
    rcases hI with ⟨_, e2, e3⟩ | ⟨e2, _⟩
    · exact ⟨e2, e3⟩
    · exact absurd e (of_decide_eq_false e2)
  refine ⟨pt_light h, fun e => by rw [heq]; exact decide_eq_true e, fun e => (hze e).1, fun e => (hze e).2, fun e => ?_, fun e => ?_, fun e => ?_, fun e => ?_⟩
  · rw [(hne e).2]; exact (share_ok h em (Int.mul_pos ha (hpos e))).1
  · rw [(hne e).1]; exact (seen_hue h ha (hpos e) hs1 dY dZ hue).1
  · rw [(hne e).2]; exact (share_ok h em (Int.mul_pos ha (hpos e))).2
  · rw [(hne e).1]; exact (seen_hue h ha (hpos e) hs1 dY dZ hue).2
end F7
end
section
open PySem PySem.W PyProof.Rows
set_option Elab.async false
set_option maxRecDepth 100000
set_option maxHeartbeats 8000000
set_option pp.deepTerms false
set_option pp.deepTerms.threshold 3
set_option pp.proofs false
theorem walk_anew_13 : True := by w_top off; trivial
local macro_rules | `(tactic| walk_at "call type:range") => `(tactic| (k_here; k_dflt (apply Mine.range_K; (iterate 2 k_asm); k_whole); intros; walk_at "kl"))
local macro_rules | `(tactic| walk_at "call builtin:sorted") => `(tactic| (k_here; ksk_kw; ksk_show; (with_unfolding_all refine' Mine.rs_due ?k1 ?k2 ?k3 ?k4 ?k5 ?a3 ?_ ?_ ?_ ?_ ?_; (case k1 => exact rfl); (case k2 | k3 => k_asm); (case k4 | k5 => k_mem); (case a3 => (intro x'; ksk_a3))); (all_goals intros); (all_goals walk_at "kl")))
local macro_rules | `(tactic| walk_at "subscriptTail") => `(tactic| (k_here; (with_reducible refine Mine.gd14 ?_); k_dflt (apply Mine.sub4_K; k_asm; k_mem; (iterate 2 (first | assumption | decide | omega)); k_whole); intros))
local macro_rules | `(tactic| walk_at "binaryOp Mult int int") => `(tactic| (k_here; (with_reducible refine Mine.gd15 ?_); k_dflt (apply Mine.mul_K; (with_unfolding_all exact PySem.IntMulOk.of_left (Mine.xor_fit (by assumption) (by assumption) (by assumption) (by assumption))); k_whole); intros))

noncomputable def DueIs (a b c d sp pl : Int) : Prop := ∃ p q r s, [p, q, r, s].Perm [0, 1, 2, 3] ∧ keyAt a b c d p ≤ keyAt a b c d q ∧ keyAt a b c d q ≤ keyAt a b c d r ∧ keyAt a b c d r ≤ keyAt a b c d s ∧
  sp = (keyAt a b c d q - keyAt a b c d p + (keyAt a b c d r - keyAt a b c d q)) * (keyAt a b c d r - keyAt a b c d q + (keyAt a b c d s - keyAt a b c d r)) ∧
  (((Builtin.bitXor p r - 1 - (Builtin.bitXor p q - 1)).fmod 3 = 1 ∧ pl = 2 * (Builtin.bitXor p q - 1) * sp + (keyAt a b c d q - keyAt a b c d p) * (keyAt a b c d s - keyAt a b c d r)) ∨
   ((Builtin.bitXor p r - 1 - (Builtin.bitXor p q - 1)).fmod 3 ≠ 1 ∧ pl = 2 * (Builtin.bitXor p q - 1) * sp - (keyAt a b c d q - keyAt a b c d p) * (keyAt a b c d s - keyAt a b c d r)))
theorem off1_mem {D : Addr} {l : List (Addr × Obj)} (h : LCg.Off1 D l) : ∀ x ∈ l, @Ne Nat x.1 D := by
  induction l with
  | nil => intro x hx; cases hx
  | cons a l ih =>
    intro x hx
    rcases List.mem_cons.mp hx with rfl | hx
    · exact h.1
    · exact ih h.2 x hx
theorem allLt_mem {D : Addr} {l : List (Addr × Obj)} (h : AllLt D l) : ∀ x ∈ l, x.1 < D := by
  induction l with
  | nil => intro x hx; cases hx
  | cons a l ih =>
    intro x hx
    rcases List.mem_cons.mp hx with rfl | hx
    · exact h.1
    · exact ih h.2 x hx
theorem lt_all3 {D : Addr} {p q : Addr × Obj} {l : List (Addr × Obj)} (h1 : @LT.lt Nat _ p.1 D) (h2 : @LT.lt Nat _ q.1 D) (h3 : AllLt D l) : ∀ x ∈ p :: q :: l, x.1 < D :=
  allLt_mem (l := p :: q :: l) ⟨h1, h2, h3⟩
noncomputable abbrev tup2 (x y : Int) (tx ty : Tok) : Obj := { cls := .type "tuple", data := .seq #[.int x tx, .int y ty] }
local macro_rules | `(tactic| k_room) => `(tactic| ktr_room)
local macro_rules | `(tactic| k_units) => `(tactic| ktr_units)
local macro_rules | `(tactic| k_all) => `(tactic| assumption)
theorem due_w {w : World} {p : Program} {loose : List Str} {mean : ExcName → Option Value} {mg mb : Str → Option Value} :
    ∀ {r : Addr} {a b c d : Int} {ta tb tc td : Tok} {n : Nat} {dp un : Nat} {gd : Option (List Code)} {cn : Str} {cs : Scope} {a' : Addr} {ccd : Value} {cl : List (Str × Addr)} {outer : List Env} {A₀ : Around} {base h₀ : Heap} {L : Addr} {m : Str → Option Value} {s : Shared} {Q E : Value → Shared → Prop} {news : List (Addr × Obj)},
    Below A₀ base outer h₀ → Fr h₀ L s.heap m → (hd.heap_39 w.params).In h₀ → News h₀ L s.heap ((95, tabObj #[]) :: (r, W.listOf #[.int a ta, .int b tb, .int c tc, .int d td] n) :: news) → Top p loose mean mg mb h₀ → cs.kind = .function → dp + 60 < recursionLimit → un + 600 < cLine →
    (h1 : 0 ≤ a) → (h2 : a ≤ 255) → (h3 : 0 ≤ b) → (h4 : b ≤ 255) → (h5 : 0 ≤ c) → (h6 : c ≤ 255) → (h7 : 0 ≤ d) → (h8 : d ≤ 255) → (hN : ∀ p ∈ news, @Ne Nat p.1 95) → (hr : @Ne Nat r 95) → (hC : CodeHd base 99 95) → (∀ {D : Addr} {sp pl : Int} {tsp tpl : Tok} {x : Array Value} {h' : Heap} {tk' : Nat}, Fr h₀ L h' m → News h₀ L h' ((D, tup2 sp pl tsp tpl) :: (95, tabObj x) :: (r, W.listOf #[.int a ta, .int b tb, .int c tc, .int d td] n) :: news) → DueIs a b c d sp pl → (∀ q ∈ (95, tabObj x) :: (r, W.listOf #[.int a ta, .int b tb, .int c tc, .int d td] n) :: news, q.1 < D) → Q (.ref D) { s with heap := h', toks := tk' }) →
    wpAny (model PySem.Challenge.rw_zo0001_01.prog w) (ktrTop dp un gd cn cs L a' ccd cl outer) (call (.ref 100) [.ref r]) Q E s := by
  k_fill
  intros
  rename_i B0 F0 X0 N0 T0 hk0 hdp hun h1 h2 h3 h4 h5 h6 h7 h8 hN hr hC hret
  refine wpAny_call ?_
  k_dflt (refine' code_defC ?k1 ?k2 ?k3 ?k4 ?k5 ?kA ?kF ?kK ?k6 ?k7 ?k8 ?k9 ?kB ?kD ?_ ?c2 ?c3 ?c4; (case kA => exact rfl); (case kF => exact rfl); (case kK => assumption); (case k1 => k_asm); (case k2 => k_asm); (case k3 => k_asm); (case k4 => k_asm); (case k5 => k_asm); (case k6 => k_is); (case k7 => k_is); (case k8 => ktr_room); (case k9 => exact BindsTo.of_eq rfl); (case kB => exact rfl); (case kD => decide +kernel); (case c2 => exact rfl); (case c3 => exact rfl); (case c4 => exact rfl); k_whole; intro g' L' h' tk' cells' FG' F' N' Y' B' X' T' l1; (try k_lt l1); k_cells Y'; (try simp only [List.cons_append, List.nil_append] at N'); (try dsimp only); (try k_lift B'); (try k_fold))
  k_steps
  all_goals (refine hret (by assumption) (sub_news (by assumption) (by repeat (first | exact SubL.refl _ | refine SubL.keep ?_ | refine SubL.skip ?_))) ⟨_, _, _, _, by assumption, by assumption, by assumption, by assumption, rfl, by first | exact .inl ⟨by assumption, rfl⟩ | exact .inr ⟨by assumption, rfl⟩⟩ ?_)
  all_goals (rename (_ ∧ _ ∧ _ ∧ _ ∧ _ ∧ _ ∧ _ ∧ AllLt _ _) => hx; exact Mine.lt_all3 hx.2.2.2.2.2.1 hx.2.2.2.2.2.2.1 hx.2.2.2.2.2.2.2)
end
section
open PySem PySem.W PyProof.Rows PySem.Calls
set_option Elab.async false
set_option maxRecDepth 100000
set_option maxHeartbeats 4000000
section Sk
variable {prog : Program} {w : World} {A : Around} {E : Value → Shared → Prop} {s : Shared} {h₀ : Heap} {L l : Addr} {m : Str → Option Value} {news : List (Addr × Obj)} {vs : List Value} {ss : List Str}
noncomputable def IdEnd (h₀ : Heap) (L : Addr) (m : Str → Option Value) (need : List (Addr × Obj)) (s₁ : Shared) (v : Value) (r : Value) (s₂ : Shared) : Prop :=
  r = v ∧ ∃ h' tk, s₂ = { s₁ with heap := h', toks := tk } ∧ Fr h₀ L h' m ∧ News h₀ L h' need
theorem sk_tree {a : Addr} {n : Nat} {f : Value} {P : PySem.Fin → Shared → Prop} (F : Fr h₀ L s.heap m) (N : News h₀ L s.heap news) (ho : s.heap.get? a = some (seqObj "list" vs.toArray n)) (haL : a ≠ L) (ha0 : h₀.get? a = none) (hna : ∀ p ∈ news, p.1 ≠ a)
    (hS : StrsAre vs ss) (h2 : 2 ≤ vs.length) (h64 : vs.length < 64)
    (turn : ∀ v ∈ vs, ∀ (h : Heap) (tk : Nat) (own : List (Addr × Obj)), Fr h₀ L h m → News h₀ L h (news ++ own) → wpAny (model prog w) A (call f [v]) (IdEnd h₀ L m (news ++ own) { s with heap := h, toks := tk } v) (fun _ _ => False) { s with heap := h, toks := tk })
    (h : ∀ h' tk (out : Array Value) c ss', Fr h₀ L h' m → News h₀ L h' ((a, seqObj "list" out c) :: news) → StrsAre out.toList ss' → ss'.Perm ss → sortedS ss' = true → P (.done (.ret .none)) { s with heap := h', toks := tk }) :
    wpAny (model prog w) A (ksk_tree a f false) P E s := by
  have ha : a < s.heap.objs.size := Heap.lt_size ho
  have s1 := Heap.SameBut.update s.heap a (Obj.mapSeq fun _ => (#[] : Array Value))
  obtain ⟨e1, ho1⟩ : ∃ e1, (s.heap.update a (Obj.mapSeq fun _ => (#[] : Array Value))).get? a = some (seqObj "list" #[] e1) := ⟨_, get?_update_seq ho fun _ => #[]⟩
  have F1 := ksk_fr F s1 haL ha0
  have N1 := ksk_news N s1 hna
  have hvsz : vs.toArray.size = vs.length := by simp
  unfold ksk_tree
  refine wpAny_bind (listItems_at ho rfl ?_)
  refine wpAny_bind (listUpdate_at ho rfl ?_ (by rw [List.size_toArray, sizeLine_eq]; (first | exact om391 h64 | omega +splitDisjunctions)) (Nat.zero_le _))
  refine wpAny_bind (seqEpoch_at ho1 rfl ?_)
  refine wpAny_bind (wpAny_newTuple ?_ (by show vs.length ≤ _; rw [sizeLine_eq]; (first | exact om391 h64 | omega +splitDisjunctions)))
  refine wpAny_bind (wpAny_newList ?_ (Nat.zero_le _))
  refine wpAny_holding ?_
  generalize hkS : ((s.heap.update a (Obj.mapSeq fun _ => (#[] : Array Value))).push (seqObj "tuple" vs.toArray 0)).objs.size = kS
  have hkS' : kS = s.heap.objs.size + 1 := by rw [← hkS, size_push', Heap.size_update]
  have hLk : L < kS := by rw [← hkS]; exact (F1.push _).ns.lt
  have hka : kS ≠ a := by rw [hkS']; exact Nat.ne_of_gt (Nat.lt_succ_of_lt ha)
  have hnk : ∀ p ∈ news, p.1 ≠ kS := fun p hp => by rw [hkS']; exact Nat.ne_of_lt (Nat.lt_succ_of_lt (Heap.lt_size (N p hp).1))
  unfold ksk_rest
  refine wpAny_bind (wpAny_rule ?_)
  first
    | rw [List.forIn_toArray]
    | (rw [← Array.forIn_toList]; simp only [List.toList_toArray])
    | rw [← Array.forIn_toList]
  refine wpAny_bind (ksk_fold (fun i s' => ∃ h' tk kA e, s' = { s with heap := h', toks := tk } ∧ Fr h₀ L h' m ∧ News h₀ L h' (news ++ [(kS, seqObj "list" kA e), (a, seqObj "list" #[] e1)]) ∧ kA.toList = vs.take i) vs 0 _
    ⟨_, s.toks, #[], 0, rfl, (F1.push _).push _, fun p hp => ?ini, rfl⟩ ?step ?done)
  case ini =>
    rcases List.mem_append.mp hp with hp | hp
    · exact ⟨Heap.get?_push_of_some _ (Heap.get?_push_of_some _ (N1 p hp).1), (N1 p hp).2⟩
    · rcases List.mem_cons.mp hp with rfl | hp
      · refine ⟨?_, Nat.ne_of_gt hLk, Heap.get?_none_of_le (Nat.le_trans F.above (Nat.le_of_lt hLk))⟩
        show Heap.get? _ kS = _
        rw [← hkS]
        exact Heap.get?_push_size _ rfl
      · rw [List.mem_singleton.mp hp]
        exact ⟨Heap.get?_push_of_some _ (Heap.get?_push_of_some _ ho1), haL, ha0⟩
  case step =>
    rintro j x s' hx ⟨h', tk, kA, e, rfl, F', N', hk⟩
    simp only [Nat.zero_add] at hk ⊢
    have hj : j < vs.length := (List.getElem?_eq_some_iff.mp hx).1
    have hz : kA.size ≤ vs.length := by
      have h1 := congrArg List.length hk
      rw [Array.length_toList, List.length_take] at h1
      (first | exact om397 h1 | omega +splitDisjunctions)
    refine wpAny_bind (wpAny_attempt (wpAny_mono (turn x (List.mem_of_getElem? hx) h' tk _ F' N') (fun v s'' he => ?_) fun _ _ hF => hF.elim))
    obtain ⟨rfl, g, tk2, rfl, F2, N2⟩ := he
    try dsimp only
    have nk := N2 (kS, seqObj "list" kA e) (List.mem_append_right _ (.head _))
    have na := N2 (a, seqObj "list" #[] e1) (List.mem_append_right _ (.tail _ (.head _)))
    have s2 := Heap.SameBut.update g kS (Obj.mapSeq (·.push v))
    obtain ⟨c2, hc2⟩ : ∃ c2, (g.update kS (Obj.mapSeq (·.push v))).get? kS = some (seqObj "list" (kA.push v) c2) := ⟨_, get?_update_seq nk.1 (·.push v)⟩
    refine wpAny_bind (listUpdate_at nk.1 rfl ?_ (by rw [sizeLine_eq]; (first | exact om396 h64 hz | omega +splitDisjunctions)) (Nat.le_trans (Nat.le_of_eq (Array.size_push ..)) (by rw [sizeLine_eq]; (first | exact om395 h64 hz | omega +splitDisjunctions))))
    refine wpAny_pure ⟨rfl, _, _, kA.push v, c2, rfl, ksk_fr F2 s2 nk.2.1 nk.2.2, fun p hp => ?_, by rw [Array.toList_push, hk, List.take_add_one, hx]; rfl⟩
    rcases List.mem_append.mp hp with hp | hp
    · exact ksk_news (fun q hq => N2 q (List.mem_append_left _ hq)) s2 hnk p hp
    · rcases List.mem_cons.mp hp with rfl | hp
      · exact ⟨hc2, nk.2⟩
      · rw [List.mem_singleton.mp hp]
        exact ⟨(s2.2 a hka.symm).trans na.1, na.2⟩
  case done =>
    rintro s' ⟨h', tk, kA, e, rfl, F', N', hk⟩
    have hkv : kA = vs.toArray := by
      apply Array.ext'
      rw [hk, List.take_of_length_le (by (first | exact om394 | omega +splitDisjunctions))]
    subst hkv
    have nk := N' (kS, seqObj "list" vs.toArray e) (List.mem_append_right _ (.head _))
    have na := N' (a, seqObj "list" #[] e1) (List.mem_append_right _ (.tail _ (.head _)))
    try dsimp only
    refine wpAny_bind (listItems_at nk.1 rfl ?_)
    unfold ksk_end
    try dsimp only
    simp only [Bool.false_eq_true, if_false]
    rw [if_neg (by (first | exact om393 h2 hvsz | omega +splitDisjunctions)), if_neg (by (first | exact om393 h2 hvsz | omega +splitDisjunctions))]
    obtain ⟨v₁, v₂, rest, rfl⟩ : ∃ v₁ v₂ rest, vs = v₁ :: v₂ :: rest := by
      match vs, h2 with
      | v₁ :: v₂ :: rest, _ => exact ⟨v₁, v₂, rest, rfl⟩
    rw [keyKind_strs hS]
    refine wpAny_bind (wpAny_pure ?_)
    refine wpAny_bind (wpAny_mono (wpS_sortRunsK (κ := strKind) strKind_oneLt (a₀ := pairsOf (v₁ :: v₂ :: rest)) (st := SortSt.mk' oneType' ((v₁ :: v₂ :: rest).toArray.zip (v₁ :: v₂ :: rest).toArray) #[] 7 none)
      (Q := fun _ st' => (arrOf st').Perm (pairsOf (v₁ :: v₂ :: rest)) ∧ failedOf st' = none ∧ SortedToK strKind (arrOf st') (pairsOf (v₁ :: v₂ :: rest)).size)
      hS.keysOf ⟨Array.Perm.refl _, rfl, rfl, rfl⟩ (by rw [pairsOf_size]; simp) (by rw [pairsOf_size]; exact h64) fun st' a1 a2 a3 => ⟨a1, a2, a3⟩) ?_ fun _ _ e => e)
    rintro ⟨⟨⟩, st'⟩ s' ⟨rfl, hp, hf, hs⟩
    have hsz2 : ((arrOf st').map (·.2)).size = (v₁ :: v₂ :: rest).length := by rw [Array.size_map, hp.size_eq, pairsOf_size]
    have t1 := Heap.SameBut.update h' kS (Obj.mapSeq fun _ => (#[] : Array Value))
    have na1 : (h'.update kS (Obj.mapSeq fun _ => (#[] : Array Value))).get? a = some (seqObj "list" #[] e1) := (t1.2 a hka.symm).trans na.1
    have t2 := Heap.SameBut.update (h'.update kS (Obj.mapSeq fun _ => (#[] : Array Value))) a (Obj.mapSeq fun _ => (arrOf st').map (·.2))
    obtain ⟨c2, hc2⟩ : ∃ c2, ((h'.update kS (Obj.mapSeq fun _ => (#[] : Array Value))).update a (Obj.mapSeq fun _ => (arrOf st').map (·.2))).get? a = some (seqObj "list" ((arrOf st').map (·.2)) c2) := ⟨_, get?_update_seq na1 fun _ => (arrOf st').map (·.2)⟩
    have Nn : News h₀ L h' news := fun p hp => N' p (List.mem_append_left _ hp)
    have N2 := ksk_news (ksk_news Nn t1 hnk) t2 hna
    obtain ⟨ss', x1, x2, x3⟩ := sorted_out_str hS hp hs
    try dsimp only
    unfold ksk_tail
    try dsimp only
    refine wpAny_bind (listUpdate_at nk.1 rfl ?_ (by rw [List.size_toArray, sizeLine_eq]; (first | exact om391 h64 | omega +splitDisjunctions)) (Nat.zero_le _))
    refine wpAny_bind (wpAny_letGo ?_)
    refine wpAny_bind (seqEpoch_at na1 rfl ?_)
    refine wpAny_bind (listUpdate_at na1 rfl ?_ (Nat.zero_le _) (Nat.le_trans (Nat.le_of_eq hsz2) (by rw [sizeLine_eq]; (first | exact om392 h64 | omega +splitDisjunctions))))
    rw [hf]
    simp only [bne_self_eq_false, Bool.false_eq_true, if_false]
    refine wpAny_pure (h _ _ _ c2 ss' (ksk_fr (ksk_fr F' t1 nk.2.1 nk.2.2) t2 na.2.1 na.2.2) (fun p hp => ?_) x1 x2 x3)
    rcases List.mem_cons.mp hp with rfl | hp
    · exact ⟨hc2, na.2⟩
    · exact N2 p hp
theorem sk_sorted {f : Value} {Q : Value → Shared → Prop} (F : Fr h₀ L s.heap m) (N : News h₀ L s.heap news) (hl : s.heap.IsList l vs.toArray) (hS : StrsAre vs ss) (h2 : 2 ≤ vs.length) (h64 : vs.length < 64)
    (ht : ∀ x, Builtin.«list.sort» ⟨[.ref x], [(Str.ofString "key", f)]⟩ = ksk_tree x f false)
    (turn : ∀ v ∈ vs, ∀ (h : Heap) (tk : Nat) (own : List (Addr × Obj)), Fr h₀ L h m → News h₀ L h (news ++ own) → wpAny (model prog w) A.in1.in1 (call f [v]) (IdEnd h₀ L m (news ++ own) { s with heap := h, toks := tk } v) (fun _ _ => False) { s with heap := h, toks := tk })
    (h : ∀ D h' tk (out : List Value) c ss', Fr h₀ L h' m → News h₀ L h' ((D, W.listOf out.toArray c) :: news) → (∀ q ∈ news, q.1 < D) → StrsAre out ss' → ss'.Perm ss → sortedS ss' = true → Q (.ref D) { s with heap := h', toks := tk }) :
    wpAny (model prog w) A (call (.builtin "sorted") [.ref l] [(Str.ofString "key", f)]) Q E s := by
  refine call_function_entry_kw kind_sorted plain_sorted entry_sorted (ksk_s1 _ _) ?_
  unfold Builtin.«sorted»
  refine wpAny_bind (m := checkCount "sorted" 1 1 _) (wpAny_pure ?_)
  refine wpAny_bind (collect_list hl ?_ (by rw [sizeLine_eq]; (first | exact om391 h64 | omega +splitDisjunctions)))
  refine wpAny_bind (wpAny_newList ?_ (by rw [sizeLine_eq]; (first | exact om391 h64 | omega +splitDisjunctions)))
  generalize hH : (s.heap.push (seqObj "list" #[] 0)).update s.heap.objs.size (Obj.mapSeq (· ++ vs.toArray)) = H
  have hsz : H.objs.size = s.heap.objs.size + 1 := by rw [← hH, Heap.size_update, size_push']
  have keep0 : ∀ b o, s.heap.get? b = some o → H.get? b = some o := fun b o q => by
    have hlt : b < s.heap.objs.size := Heap.lt_size q
    rw [← hH, Heap.get?_update_ne _ _ _ _ (Nat.ne_of_lt hlt), Heap.get?_push_ne _ _ _ (Nat.ne_of_lt hlt)]
    exact q
  have keep : ∀ b o, s.heap.get? b = some o → (H.push (seqObj "list" vs.toArray 0)).get? b = some o := fun b o q => Heap.get?_push_of_some _ (keep0 b o q)
  have hL : L < H.objs.size := (F.keeps keep0).ns.lt
  refine wpAny_bind (wpAny_holding (wpAny_call_entry_kw slot_list_sort ⟨_, Heap.get?_push_size _ rfl, rfl⟩ entry_list_sort ?body (ksk_l1 _ _)))
  case body =>
    have ht' := ht H.objs.size
    show wpAny (model prog w) A.in1.in1 (Builtin.«list.sort» ⟨[.ref H.objs.size], [(Str.ofString "key", f)]⟩) _ _ _
    rw [ht']
    refine sk_tree (F.keeps keep) (fun p hp => ⟨keep _ _ (N p hp).1, (N p hp).2⟩) (Heap.get?_push_size _ rfl) (Nat.ne_of_gt hL) (Heap.get?_none_of_le (Nat.le_trans F.above (Nat.le_of_lt hL)))
      (fun p hp => Nat.ne_of_lt (Heap.lt_size (keep0 _ _ (N p hp).1))) hS h2 h64 turn fun h' tk out c ss' F' N' a1 a2 a3 => ⟨_, rfl, ?_⟩
    exact wpAny_pure ⟨_, rfl, h _ h' tk out.toList c ss' F' (by simpa [seqObj] using N') (fun q hq => Heap.lt_size (keep0 _ _ (N q hq).1)) a1 a2 a3⟩
end Sk
end
section
open PySem PySem.W PyProof.Rows PySem.Calls PySem.Spec
set_option Elab.async false
set_option maxRecDepth 100000
set_option maxHeartbeats 4000000
section Sk2
theorem perm_map_inv {α β : Type} {f : α → β} {l : List β} {m : List α} (h : l.Perm (m.map f)) : ∃ m' : List α, l = m'.map f ∧ m'.Perm m := by
  generalize e : m.map f = k at h
  induction h generalizing m with
  | nil => exact ⟨[], rfl, by cases m with | nil => exact .nil | cons a r => cases e⟩
  | cons x _ ih =>
    cases m with
    | nil => cases e
    | cons y m2 =>
      rw [List.map_cons] at e
      injection e with e1 e2
      obtain ⟨m', rfl, hp⟩ := ih e2
      exact ⟨y :: m', by rw [List.map_cons, e1], hp.cons y⟩
  | swap x y l =>
    match m, e with
    | p :: q :: m2, e =>
      rw [List.map_cons, List.map_cons] at e
      injection e with e1 e2
      injection e2 with e2 e3
      exact ⟨q :: p :: m2, by rw [List.map_cons, List.map_cons, e1, e2, e3], .swap ..⟩
  | trans _ _ ih1 ih2 =>
    obtain ⟨m', e', hp'⟩ := ih2 e
    obtain ⟨m'', e'', hp''⟩ := ih1 e'.symm
    exact ⟨m'', e'', hp''.trans hp'⟩
theorem face_step : ∀ n : Nat, n < 255 → decide ((faceS (n : Int)).cps.toList < (faceS ((n + 1 : Nat) : Int)).cps.toList) = true := by decide +kernel
theorem face_lt {m n : Nat} (h : m < n) (hn : n ≤ 255) : (faceS (m : Int)).cps.toList < (faceS (n : Int)).cps.toList := by
  induction n with
  | zero => omega +splitDisjunctions
  | succ n ih =>
    have hs := of_decide_eq_true (face_step n (by omega +splitDisjunctions))
    rcases Nat.lt_succ_iff_lt_or_eq.mp h with h | rfl
    · exact List.lt_trans (ih h (by omega +splitDisjunctions)) hs
    · exact hs
theorem face_le {m n : Int} (hm : 0 ≤ m) (hm' : m ≤ 255) (hn : 0 ≤ n) (h : ltCps (faceS n).cps.toList (faceS m).cps.toList = false) : m ≤ n := by
  obtain ⟨i, rfl⟩ := Int.eq_ofNat_of_zero_le hm
  obtain ⟨j, rfl⟩ := Int.eq_ofNat_of_zero_le hn
  rcases Nat.lt_or_ge j i with hlt | hge
  · have := face_lt hlt (by omega +splitDisjunctions)
    rw [ltCps_eq] at h
    exact absurd this (of_decide_eq_false h)
  · omega +splitDisjunctions
theorem face_sorted {a b c d : Int} {ss' : List Str} (hb : ∀ k ∈ [a, b, c, d], 0 ≤ k ∧ k ≤ 255) (hp : ss'.Perm [faceS a, faceS b, faceS c, faceS d]) (hs : sortedS ss' = true) :
    ∃ p q r s, ss' = [faceS p, faceS q, faceS r, faceS s] ∧ [p, q, r, s].Perm [a, b, c, d] ∧ p ≤ q ∧ q ≤ r ∧ r ≤ s := by
  obtain ⟨m, rfl, hm⟩ := perm_map_inv (f := faceS) (m := [a, b, c, d]) hp
  match m, hm.length_eq with
  | [p, q, r, s], _ =>
    have bb : ∀ k ∈ [p, q, r, s], 0 ≤ k ∧ k ≤ 255 := fun k hk => hb k (hm.mem_iff.mp hk)
    have bp := bb p (by simp); have bq := bb q (by simp); have br := bb r (by simp); have bs := bb s (by simp)
    have hs' : (!ltCps (faceS q).cps.toList (faceS p).cps.toList && (!ltCps (faceS r).cps.toList (faceS q).cps.toList && (!ltCps (faceS s).cps.toList (faceS r).cps.toList && true))) = true := hs
    simp only [Bool.and_eq_true, Bool.not_eq_true', Bool.and_true] at hs'
    exact ⟨p, q, r, s, rfl, hm, face_le bp.1 bp.2 bq.1 hs'.1, face_le bq.1 bq.2 br.1 hs'.2.1, face_le br.1 br.2 bs.1 hs'.2.2⟩
theorem four_strs {ys : List Value} {a b c d : Str} (h : StrsAre ys [a, b, c, d]) : ∃ t1 t2 t3 t4, ys = [.str a t1, .str b t2, .str c t3, .str d t4] := by
  cases h with | cons _ t1 h => cases h with | cons _ t2 h => cases h with | cons _ t3 h => cases h with | cons _ t4 h => cases h; exact ⟨_, _, _, _, rfl⟩
variable {prog : Program} {w : World} {A : Around} {E : Value → Shared → Prop} {s : Shared} {h₀ : Heap} {L l : Addr} {m : Str → Option Value} {news : List (Addr × Obj)}
theorem IdEnd.intro {need news' : List (Addr × Obj)} {h' : Heap} {s₁ : Shared} {v : Value} {tk : Nat} (F : Fr h₀ L h' m) (N : News h₀ L h' news') (hn : SubL need news') : IdEnd h₀ L m need s₁ v v { s₁ with heap := h', toks := tk } :=
  ⟨rfl, h', tk, rfl, F, sub_news N hn⟩
theorem sk_faces {f : Value} {a b c d : Int} {ta tb tc td : Tok} {n : Nat} {Q : Value → Shared → Prop} (F : Fr h₀ L s.heap m) (N : News h₀ L s.heap news)
    (hm : (l, W.listOf #[.str (faceS a) ta, .str (faceS b) tb, .str (faceS c) tc, .str (faceS d) td] n) ∈ news)
    (hb : ∀ k ∈ [a, b, c, d], 0 ≤ k ∧ k ≤ 255)
    (ht : ∀ x, Builtin.«list.sort» ⟨[.ref x], [(Str.ofString "key", f)]⟩ = ksk_tree x f false)
    (turn : ∀ (x : Str) (t : Tok) (h : Heap) (tk : Nat) (own : List (Addr × Obj)), Fr h₀ L h m → News h₀ L h (news ++ own) → wpAny (model prog w) A.in1.in1 (call f [.str x t]) (IdEnd h₀ L m (news ++ own) { s with heap := h, toks := tk } (.str x t)) (fun _ _ => False) { s with heap := h, toks := tk })
    (h : ∀ D h' tk c' p q r s' t1 t2 t3 t4, Fr h₀ L h' m → News h₀ L h' ((D, W.listOf #[.str (faceS p) t1, .str (faceS q) t2, .str (faceS r) t3, .str (faceS s') t4] c') :: news) → (∀ q ∈ news, q.1 < D) → [p, q, r, s'].Perm [a, b, c, d] → p ≤ q → q ≤ r → r ≤ s' → 0 ≤ p → s' ≤ 255 → Q (.ref D) { s with heap := h', toks := tk }) :
    wpAny (model prog w) A (call (.builtin "sorted") [.ref l] [(Str.ofString "key", f)]) Q E s := by
  have hS : StrsAre [.str (faceS a) ta, .str (faceS b) tb, .str (faceS c) tc, .str (faceS d) td] [faceS a, faceS b, faceS c, faceS d] := .cons _ _ (.cons _ _ (.cons _ _ (.cons _ _ .nil)))
  refine sk_sorted F N ⟨_, (N _ hm).1, rfl, n, rfl⟩ hS (show 2 ≤ 4 by decide) (show 4 < 64 by decide) ht (fun v hv h tk own F' N' => ?_) fun D h' tk out c' ss' F' N' l1 so pm sd => ?_
  · obtain ⟨x, t, rfl⟩ := hS.all v hv
    exact turn x t h tk own F' N'
  · obtain ⟨p, q, r, s', rfl, hp, o1, o2, o3⟩ := face_sorted hb pm sd
    obtain ⟨t1, t2, t3, t4, rfl⟩ := four_strs so
    have b1 := hb p (hp.mem_iff.mp (by simp))
    have b2 := hb s' (hp.mem_iff.mp (by simp))
    exact h D h' tk c' p q r s' t1 t2 t3 t4 F' N' l1 hp o1 o2 o3 b1.1 b2.2
end Sk2
end
section
open PySem PySem.W PyProof.Rows
set_option Elab.async false
set_option maxRecDepth 100000
set_option maxHeartbeats 4000000
section Q1
theorem perm2 {x y a b : Int} (h : [x, y].Perm [a, b]) : (x = a ∧ y = b) ∨ (x = b ∧ y = a) := by
  have hm : x ∈ [a, b] := h.mem_iff.mp (.head _)
  simp only [List.mem_cons, List.not_mem_nil, or_false] at hm
  rcases hm with rfl | rfl
  · have := h.cons_inv.mem_iff.mp (List.Mem.head _)
    simp only [List.mem_cons, List.not_mem_nil, or_false] at this
    exact .inl ⟨rfl, this⟩
  · have := (h.trans (List.perm_middle (l₁ := [a]) (a := x) (l₂ := []))).cons_inv.mem_iff.mp (List.Mem.head _)
    simp only [List.nil_append, List.append_nil, List.mem_cons, List.not_mem_nil, or_false] at this
    exact .inr ⟨rfl, this⟩
theorem perm3 {x y z a b c : Int} (h : [x, y, z].Perm [a, b, c]) : (x = a ∧ [y, z].Perm [b, c]) ∨ (x = b ∧ [y, z].Perm [a, c]) ∨ (x = c ∧ [y, z].Perm [a, b]) := by
  have hm : x ∈ [a, b, c] := h.mem_iff.mp (.head _)
  simp only [List.mem_cons, List.not_mem_nil, or_false] at hm
  rcases hm with rfl | rfl | rfl
  · exact .inl ⟨rfl, h.cons_inv⟩
  · exact .inr (.inl ⟨rfl, (h.trans (List.perm_middle (l₁ := [a]) (a := x) (l₂ := [c]))).cons_inv⟩)
  · exact .inr (.inr ⟨rfl, (h.trans (List.perm_middle (l₁ := [a, b]) (a := x) (l₂ := []))).cons_inv⟩)
theorem perm4 {x y z w a b c d : Int} (h : [x, y, z, w].Perm [a, b, c, d]) : (x = a ∧ [y, z, w].Perm [b, c, d]) ∨ (x = b ∧ [y, z, w].Perm [a, c, d]) ∨ (x = c ∧ [y, z, w].Perm [a, b, d]) ∨ (x = d ∧ [y, z, w].Perm [a, b, c]) := by
  have hm : x ∈ [a, b, c, d] := h.mem_iff.mp (.head _)
  simp only [List.mem_cons, List.not_mem_nil, or_false] at hm
  rcases hm with rfl | rfl | rfl | rfl
  · exact .inl ⟨rfl, h.cons_inv⟩
  · exact .inr (.inl ⟨rfl, (h.trans (List.perm_middle (l₁ := [a]) (a := x) (l₂ := [c, d]))).cons_inv⟩)
  · exact .inr (.inr (.inl ⟨rfl, (h.trans (List.perm_middle (l₁ := [a, b]) (a := x) (l₂ := [d]))).cons_inv⟩))
  · exact .inr (.inr (.inr ⟨rfl, (h.trans (List.perm_middle (l₁ := [a, b, c]) (a := x) (l₂ := []))).cons_inv⟩))
-- four in order: the three pairings
theorem four_core {P Q R S : Int} (h1 : P ≤ Q) (h2 : Q ≤ R) (h3 : R ≤ S) :
    (R - P) * (S - Q) = (P * Q + R * S) - (P * S + Q * R) ∧ (Q - P) * (S - R) = (P * R + Q * S) - (P * S + Q * R) ∧ P * R + Q * S ≤ P * Q + R * S ∧ P * S + Q * R ≤ P * R + Q * S := by
  have e1 : 0 ≤ (S - P) * (R - Q) := Int.mul_nonneg (by (first | exact om178 h1 h2 h3 | omega +splitDisjunctions)) (by (first | exact om177 h2 | omega +splitDisjunctions))
  have e2 : 0 ≤ (Q - P) * (S - R) := Int.mul_nonneg (by (first | exact om177 h1 | omega +splitDisjunctions)) (by (first | exact om177 h3 | omega +splitDisjunctions))
  have c1 := Int.mul_comm R P; have c2 := Int.mul_comm S P; have c3 := Int.mul_comm R Q; have c4 := Int.mul_comm S Q; have c5 := Int.mul_comm Q P; have c6 := Int.mul_comm S R
  simp only [Int.sub_mul, Int.mul_sub] at *
  (first | exact om176 c3 c4 c6 e1 e2 | omega +splitDisjunctions)
noncomputable def Six (a b c d M1 M2 M3 : Int) : Prop :=
  let X := a * b + c * d; let Y := a * c + b * d; let Z := a * d + b * c
  (M1 = X ∧ M2 = Y ∧ M3 = Z) ∨ (M1 = X ∧ M2 = Z ∧ M3 = Y) ∨ (M1 = Y ∧ M2 = X ∧ M3 = Z) ∨ (M1 = Y ∧ M2 = Z ∧ M3 = X) ∨ (M1 = Z ∧ M2 = X ∧ M3 = Y) ∨ (M1 = Z ∧ M2 = Y ∧ M3 = X)
theorem pf0 (x y z w : Int) : x * y + z * w = x * y + z * w := rfl
theorem pf1 (x y z w : Int) : y * x + z * w = x * y + z * w := by rw [Int.mul_comm y x]
theorem pf2 (x y z w : Int) : x * y + w * z = x * y + z * w := by rw [Int.mul_comm w z]
theorem pf3 (x y z w : Int) : y * x + w * z = x * y + z * w := by rw [Int.mul_comm y x, Int.mul_comm w z]
theorem pf4 (x y z w : Int) : z * w + x * y = x * y + z * w := Int.add_comm _ _
theorem pf5 (x y z w : Int) : z * w + y * x = x * y + z * w := by rw [Int.mul_comm y x, Int.add_comm]
theorem pf6 (x y z w : Int) : w * z + x * y = x * y + z * w := by rw [Int.mul_comm w z, Int.add_comm]
theorem pf7 (x y z w : Int) : w * z + y * x = x * y + z * w := by rw [Int.mul_comm w z, Int.mul_comm y x, Int.add_comm]
theorem perm_ind {x y z w a b c d : Int} (G : Int → Int → Int → Int → Prop) (h : [x, y, z, w].Perm [a, b, c, d])
    (h0 : G a b c d) (h1 : G a b d c) (h2 : G a c b d) (h3 : G a c d b) (h4 : G a d b c) (h5 : G a d c b) (h6 : G b a c d) (h7 : G b a d c) (h8 : G b c a d) (h9 : G b c d a) (h10 : G b d a c) (h11 : G b d c a) (h12 : G c a b d) (h13 : G c a d b) (h14 : G c b a d) (h15 : G c b d a) (h16 : G c d a b) (h17 : G c d b a) (h18 : G d a b c) (h19 : G d a c b) (h20 : G d b a c) (h21 : G d b c a) (h22 : G d c a b) (h23 : G d c b a) : G x y z w := by
  rcases perm4 h with ⟨e1, g⟩ | ⟨e1, g⟩ | ⟨e1, g⟩ | ⟨e1, g⟩ <;> rcases perm3 g with ⟨e2, k⟩ | ⟨e2, k⟩ | ⟨e2, k⟩ <;> rcases perm2 k with ⟨e3, e4⟩ | ⟨e3, e4⟩ <;> rw [e1, e2, e3, e4] <;> assumption
theorem six_of {P Q R S a b c d : Int} (h : [P, Q, R, S].Perm [a, b, c, d]) : Six a b c d (P * Q + R * S) (P * R + Q * S) (P * S + Q * R) :=
  perm_ind (fun P Q R S => Six a b c d (P * Q + R * S) (P * R + Q * S) (P * S + Q * R)) h
    (.inl ⟨pf0 a b c d, pf0 a c b d, pf0 a d b c⟩)
    (.inr (.inl ⟨pf2 a b c d, pf0 a d b c, pf0 a c b d⟩))
    (.inr (.inr (.inl ⟨pf0 a c b d, pf0 a b c d, pf2 a d b c⟩)))
    (.inr (.inr (.inr (.inl ⟨pf2 a c b d, pf2 a d b c, pf0 a b c d⟩))))
    (.inr (.inr (.inr (.inr (.inl ⟨pf0 a d b c, pf2 a b c d, pf2 a c b d⟩)))))
    (.inr (.inr (.inr (.inr (.inr (⟨pf2 a d b c, pf2 a c b d, pf2 a b c d⟩))))))
    (.inr (.inl ⟨pf1 a b c d, pf4 a d b c, pf4 a c b d⟩))
    (.inl ⟨pf3 a b c d, pf4 a c b d, pf4 a d b c⟩)
    (.inr (.inr (.inr (.inr (.inl ⟨pf4 a d b c, pf1 a b c d, pf5 a c b d⟩)))))
    (.inr (.inr (.inr (.inr (.inr (⟨pf5 a d b c, pf5 a c b d, pf1 a b c d⟩))))))
    (.inr (.inr (.inl ⟨pf4 a c b d, pf3 a b c d, pf5 a d b c⟩)))
    (.inr (.inr (.inr (.inl ⟨pf5 a c b d, pf5 a d b c, pf3 a b c d⟩))))
    (.inr (.inr (.inr (.inl ⟨pf1 a c b d, pf6 a d b c, pf4 a b c d⟩))))
    (.inr (.inr (.inl ⟨pf3 a c b d, pf4 a b c d, pf6 a d b c⟩)))
    (.inr (.inr (.inr (.inr (.inr (⟨pf6 a d b c, pf1 a c b d, pf5 a b c d⟩))))))
    (.inr (.inr (.inr (.inr (.inl ⟨pf7 a d b c, pf5 a b c d, pf1 a c b d⟩)))))
    (.inl ⟨pf4 a b c d, pf3 a c b d, pf7 a d b c⟩)
    (.inr (.inl ⟨pf5 a b c d, pf7 a d b c, pf3 a c b d⟩))
    (.inr (.inr (.inr (.inr (.inr (⟨pf1 a d b c, pf6 a c b d, pf6 a b c d⟩))))))
    (.inr (.inr (.inr (.inr (.inl ⟨pf3 a d b c, pf6 a b c d, pf6 a c b d⟩)))))
    (.inr (.inr (.inr (.inl ⟨pf6 a c b d, pf1 a d b c, pf7 a b c d⟩))))
    (.inr (.inr (.inl ⟨pf7 a c b d, pf7 a b c d, pf1 a d b c⟩)))
    (.inr (.inl ⟨pf6 a b c d, pf3 a d b c, pf7 a c b d⟩))
    (.inl ⟨pf7 a b c d, pf7 a c b d, pf3 a d b c⟩)
theorem six_mx {a b c d M1 M2 M3 : Int} (h : Six a b c d M1 M2 M3) (h1 : M2 ≤ M1) (h2 : M3 ≤ M2) : mx3 (a * b + c * d) (a * c + b * d) (a * d + b * c) = M1 ∧ mn3 (a * b + c * d) (a * c + b * d) (a * d + b * c) = M3 := by
  unfold Six at h
  dsimp only at h
  have h3 := Int.le_trans h2 h1
  rcases h with ⟨rfl, rfl, rfl⟩ | ⟨rfl, rfl, rfl⟩ | ⟨rfl, rfl, rfl⟩ | ⟨rfl, rfl, rfl⟩ | ⟨rfl, rfl, rfl⟩ | ⟨rfl, rfl, rfl⟩
  · exact ⟨mx_1 h1 h3, mn_3 h3 h2⟩
  · exact ⟨mx_1 h3 h1, mn_2 h3 h2⟩
  · exact ⟨mx_2 h1 h3, mn_3 h2 h3⟩
  · exact ⟨mx_2 h3 h1, mn_1 h3 h2⟩
  · exact ⟨mx_3 h1 h3, mn_2 h2 h3⟩
  · exact ⟨mx_3 h3 h1, mn_1 h2 h3⟩
theorem dh1 {X Y Z sp pl : Int} (e1 : sp = X - Y) (e3 : Z ≤ X) (e4 : Y ≤ Z) (hpl : pl = 2 * (1 - 1) * sp - (Z - Y)) : HueI X Y Z sp pl := by
  have hm : mx3 X Y Z = X := mx_1 (Int.le_trans e4 e3) e3
  have hn : mn3 X Y Z = Y := mn_2 (Int.le_trans e4 e3) e4
  refine ⟨by rw [hm, hn]; exact e1.symm, 0, .inl ⟨hm, ?_⟩⟩
  clear hm hn e1 e3 e4; omega +splitDisjunctions
theorem dh2 {X Y Z sp pl : Int} (e1 : sp = Y - X) (e3 : Z ≤ Y) (e4 : X ≤ Z) (hpl : pl = 2 * (2 - 1) * sp + (Z - X)) : HueI X Y Z sp pl := by
  have hm : mx3 X Y Z = Y := mx_2 (Int.le_trans e4 e3) e3
  have hn : mn3 X Y Z = X := mn_1 (Int.le_trans e4 e3) e4
  refine ⟨by rw [hm, hn]; exact e1.symm, 0, .inr (.inl ⟨hm, ?_⟩)⟩
  clear hm hn e1 e3 e4; omega +splitDisjunctions
theorem dh3 {X Y Z sp pl : Int} (e1 : sp = Y - Z) (e3 : X ≤ Y) (e4 : Z ≤ X) (hpl : pl = 2 * (2 - 1) * sp - (X - Z)) : HueI X Y Z sp pl := by
  have hm : mx3 X Y Z = Y := mx_2 e3 (Int.le_trans e4 e3)
  have hn : mn3 X Y Z = Z := mn_3 e4 (Int.le_trans e4 e3)
  refine ⟨by rw [hm, hn]; exact e1.symm, 0, .inr (.inl ⟨hm, ?_⟩)⟩
  clear hm hn e1 e3 e4; omega +splitDisjunctions
theorem dh4 {X Y Z sp pl : Int} (e1 : sp = X - Z) (e3 : Y ≤ X) (e4 : Z ≤ Y) (hpl : pl = 2 * (1 - 1) * sp + (Y - Z)) : HueI X Y Z sp pl := by
  have hm : mx3 X Y Z = X := mx_1 e3 (Int.le_trans e4 e3)
  have hn : mn3 X Y Z = Z := mn_3 (Int.le_trans e4 e3) e4
  refine ⟨by rw [hm, hn]; exact e1.symm, 0, .inl ⟨hm, ?_⟩⟩
  clear hm hn e1 e3 e4; omega +splitDisjunctions
theorem dh5 {X Y Z sp pl : Int} (e1 : sp = Z - X) (e3 : Y ≤ Z) (e4 : X ≤ Y) (hpl : pl = 2 * (3 - 1) * sp - (Y - X)) : HueI X Y Z sp pl := by
  have hm : mx3 X Y Z = Z := mx_3 (Int.le_trans e4 e3) e3
  have hn : mn3 X Y Z = X := mn_1 e4 (Int.le_trans e4 e3)
  refine ⟨by rw [hm, hn]; exact e1.symm, 0, .inr (.inr ⟨hm, ?_⟩)⟩
  clear hm hn e1 e3 e4; omega +splitDisjunctions
theorem dh6 {X Y Z sp pl : Int} (e1 : sp = Z - Y) (e3 : X ≤ Z) (e4 : Y ≤ X) (hpl : pl = 2 * (3 - 1) * sp + (X - Y)) : HueI X Y Z sp pl := by
  have hm : mx3 X Y Z = Z := mx_3 e3 (Int.le_trans e4 e3)
  have hn : mn3 X Y Z = Y := mn_2 e4 (Int.le_trans e4 e3)
  refine ⟨by rw [hm, hn]; exact e1.symm, 0, .inr (.inr ⟨hm, ?_⟩)⟩
  clear hm hn e1 e3 e4; omega +splitDisjunctions
theorem xr01 : Builtin.bitXor 0 1 = 1 := by decide +kernel
theorem xr02 : Builtin.bitXor 0 2 = 2 := by decide +kernel
theorem xr03 : Builtin.bitXor 0 3 = 3 := by decide +kernel
theorem xr10 : Builtin.bitXor 1 0 = 1 := by decide +kernel
theorem xr12 : Builtin.bitXor 1 2 = 3 := by decide +kernel
theorem xr13 : Builtin.bitXor 1 3 = 2 := by decide +kernel
theorem xr20 : Builtin.bitXor 2 0 = 2 := by decide +kernel
theorem xr21 : Builtin.bitXor 2 1 = 3 := by decide +kernel
theorem xr23 : Builtin.bitXor 2 3 = 1 := by decide +kernel
theorem xr30 : Builtin.bitXor 3 0 = 3 := by decide +kernel
theorem xr31 : Builtin.bitXor 3 1 = 2 := by decide +kernel
theorem xr32 : Builtin.bitXor 3 2 = 1 := by decide +kernel
noncomputable def Six6 (X Y Z i j M1 M2 M3 : Int) : Prop :=
  (i = 1 ∧ j = 2 ∧ M1 = X ∧ M2 = Y ∧ M3 = Z) ∨ (i = 1 ∧ j = 3 ∧ M1 = X ∧ M2 = Z ∧ M3 = Y) ∨ (i = 2 ∧ j = 1 ∧ M1 = Y ∧ M2 = X ∧ M3 = Z) ∨ (i = 2 ∧ j = 3 ∧ M1 = Y ∧ M2 = Z ∧ M3 = X) ∨ (i = 3 ∧ j = 1 ∧ M1 = Z ∧ M2 = X ∧ M3 = Y) ∨ (i = 3 ∧ j = 2 ∧ M1 = Z ∧ M2 = Y ∧ M3 = X)
theorem six6_of {p q r s a b c d : Int} (h : [p, q, r, s].Perm [0, 1, 2, 3]) : Six6 (a * b + c * d) (a * c + b * d) (a * d + b * c) (Builtin.bitXor p q) (Builtin.bitXor p r)
    (keyAt a b c d p * keyAt a b c d q + keyAt a b c d r * keyAt a b c d s) (keyAt a b c d p * keyAt a b c d r + keyAt a b c d q * keyAt a b c d s) (keyAt a b c d p * keyAt a b c d s + keyAt a b c d q * keyAt a b c d r) :=
  perm_ind (fun p q r s => Six6 (a * b + c * d) (a * c + b * d) (a * d + b * c) (Builtin.bitXor p q) (Builtin.bitXor p r)
    (keyAt a b c d p * keyAt a b c d q + keyAt a b c d r * keyAt a b c d s) (keyAt a b c d p * keyAt a b c d r + keyAt a b c d q * keyAt a b c d s) (keyAt a b c d p * keyAt a b c d s + keyAt a b c d q * keyAt a b c d r)) h
    (.inl ⟨xr01, xr02, pf0 a b c d, pf0 a c b d, pf0 a d b c⟩)
    (.inr (.inl ⟨xr01, xr03, pf2 a b c d, pf0 a d b c, pf0 a c b d⟩))
    (.inr (.inr (.inl ⟨xr02, xr01, pf0 a c b d, pf0 a b c d, pf2 a d b c⟩)))
    (.inr (.inr (.inr (.inl ⟨xr02, xr03, pf2 a c b d, pf2 a d b c, pf0 a b c d⟩))))
    (.inr (.inr (.inr (.inr (.inl ⟨xr03, xr01, pf0 a d b c, pf2 a b c d, pf2 a c b d⟩)))))
    (.inr (.inr (.inr (.inr (.inr (⟨xr03, xr02, pf2 a d b c, pf2 a c b d, pf2 a b c d⟩))))))
    (.inr (.inl ⟨xr10, xr12, pf1 a b c d, pf4 a d b c, pf4 a c b d⟩))
    (.inl ⟨xr10, xr13, pf3 a b c d, pf4 a c b d, pf4 a d b c⟩)
    (.inr (.inr (.inr (.inr (.inl ⟨xr12, xr10, pf4 a d b c, pf1 a b c d, pf5 a c b d⟩)))))
    (.inr (.inr (.inr (.inr (.inr (⟨xr12, xr13, pf5 a d b c, pf5 a c b d, pf1 a b c d⟩))))))
    (.inr (.inr (.inl ⟨xr13, xr10, pf4 a c b d, pf3 a b c d, pf5 a d b c⟩)))
    (.inr (.inr (.inr (.inl ⟨xr13, xr12, pf5 a c b d, pf5 a d b c, pf3 a b c d⟩))))
    (.inr (.inr (.inr (.inl ⟨xr20, xr21, pf1 a c b d, pf6 a d b c, pf4 a b c d⟩))))
    (.inr (.inr (.inl ⟨xr20, xr23, pf3 a c b d, pf4 a b c d, pf6 a d b c⟩)))
    (.inr (.inr (.inr (.inr (.inr (⟨xr21, xr20, pf6 a d b c, pf1 a c b d, pf5 a b c d⟩))))))
    (.inr (.inr (.inr (.inr (.inl ⟨xr21, xr23, pf7 a d b c, pf5 a b c d, pf1 a c b d⟩)))))
    (.inl ⟨xr23, xr20, pf4 a b c d, pf3 a c b d, pf7 a d b c⟩)
    (.inr (.inl ⟨xr23, xr21, pf5 a b c d, pf7 a d b c, pf3 a c b d⟩))
    (.inr (.inr (.inr (.inr (.inr (⟨xr30, xr31, pf1 a d b c, pf6 a c b d, pf6 a b c d⟩))))))
    (.inr (.inr (.inr (.inr (.inl ⟨xr30, xr32, pf3 a d b c, pf6 a b c d, pf6 a c b d⟩)))))
    (.inr (.inr (.inr (.inl ⟨xr31, xr30, pf6 a c b d, pf1 a d b c, pf7 a b c d⟩))))
    (.inr (.inr (.inl ⟨xr31, xr32, pf7 a c b d, pf7 a b c d, pf1 a d b c⟩)))
    (.inr (.inl ⟨xr32, xr30, pf6 a b c d, pf3 a d b c, pf7 a c b d⟩))
    (.inl ⟨xr32, xr31, pf7 a b c d, pf7 a c b d, pf3 a d b c⟩)
theorem due_hue {a b c d sp pl : Int} (h : DueIs a b c d sp pl) : HueI (a * b + c * d) (a * c + b * d) (a * d + b * c) sp pl := by
  obtain ⟨p, q, r, s, hp, o1, o2, o3, hsp, hpl⟩ := h
  obtain ⟨c1, c2, c3, c4⟩ := four_core o1 o2 o3
  have esp : sp = (keyAt a b c d r - keyAt a b c d p) * (keyAt a b c d s - keyAt a b c d q) := by rw [hsp]; congr 1 <;> (first | exact om175 | omega +splitDisjunctions)
  have h6 := six6_of (a := a) (b := b) (c := c) (d := d) hp
  rw [c1] at esp
  rw [c2] at hpl
  clear hsp o1 o2 o3 c1 c2 hp
  generalize Builtin.bitXor p q = i at *
  generalize Builtin.bitXor p r = j at *
  generalize keyAt a b c d p * keyAt a b c d q + keyAt a b c d r * keyAt a b c d s = M1 at *
  generalize keyAt a b c d p * keyAt a b c d r + keyAt a b c d q * keyAt a b c d s = M2 at *
  generalize keyAt a b c d p * keyAt a b c d s + keyAt a b c d q * keyAt a b c d r = M3 at *
  rcases h6 with ⟨rfl, rfl, rfl, rfl, rfl⟩ | ⟨rfl, rfl, rfl, rfl, rfl⟩ | ⟨rfl, rfl, rfl, rfl, rfl⟩ | ⟨rfl, rfl, rfl, rfl, rfl⟩ | ⟨rfl, rfl, rfl, rfl, rfl⟩ | ⟨rfl, rfl, rfl, rfl, rfl⟩
  · exact dh4 esp c3 c4 (hpl.elim (·.2) fun h => absurd (by decide) h.1)
  · exact dh1 esp c3 c4 (hpl.elim (fun h => absurd h.1 (by decide)) (·.2))
  · exact dh3 esp c3 c4 (hpl.elim (fun h => absurd h.1 (by decide)) (·.2))
  · exact dh2 esp c3 c4 (hpl.elim (·.2) fun h => absurd (by decide) h.1)
  · exact dh6 esp c3 c4 (hpl.elim (·.2) fun h => absurd (by decide) h.1)
  · exact dh5 esp c3 c4 (hpl.elim (fun h => absurd h.1 (by decide)) (·.2))
end Q1
end
section
open PySem PySem.W PyProof.Rows
set_option Elab.async false
set_option maxRecDepth 100000
set_option maxHeartbeats 4000000
section Q2
noncomputable abbrev HueR (a b c d sp pl : Int) : Prop := HueI (a * b + c * d) (a * c + b * d) (a * d + b * c) sp pl
theorem prod_b {a b : Int} (h0 : 0 ≤ a) (h1 : a ≤ 255) (h2 : 0 ≤ b) (h3 : b ≤ 255) : 0 ≤ a * b ∧ a * b ≤ 65025 := by
  refine ⟨Int.mul_nonneg h0 h2, ?_⟩
  have := Int.mul_le_mul h1 h3 h2 (by decide : (0 : Int) ≤ 255)
  (first | exact om280 this | omega +splitDisjunctions)
structure B4 (a b c d : Int) : Prop where
  a0 : 0 ≤ a
  a1 : a ≤ 255
  b0 : 0 ≤ b
  b1 : b ≤ 255
  c0 : 0 ≤ c
  c1 : c ≤ 255
  d0 : 0 ≤ d
  d1 : d ≤ 255
theorem diff_b {a b : Int} (h0 : -255 ≤ a) (h1 : a ≤ 255) (h2 : -255 ≤ b) (h3 : b ≤ 255) : -65025 ≤ a * b ∧ a * b ≤ 65025 := by
  have key : (a * b).natAbs ≤ 65025 := by
    rw [Int.natAbs_mul]
    exact Nat.le_trans (Nat.mul_le_mul (show a.natAbs ≤ 255 by (first | exact om279 h0 h1 | omega +splitDisjunctions)) (show b.natAbs ≤ 255 by (first | exact om279 h2 h3 | omega +splitDisjunctions))) (by decide)
  (first | exact om278 key | omega +splitDisjunctions)
theorem xyz {a b c d : Int} : (a - b) * (c - d) = (a * c + b * d) - (a * d + b * c) ∧ (c - a) * (b - d) = (a * d + b * c) - (a * b + c * d) ∧ (a - d) * (b - c) = (a * b + c * d) - (a * c + b * d) := by
  have c1 := Int.mul_comm c b; have c2 := Int.mul_comm d c; have c3 := Int.mul_comm d b; have c4 := Int.mul_comm c d
  simp only [Int.sub_mul, Int.mul_sub]
  (first | exact om277 c1 c3 c4 | omega +splitDisjunctions)
theorem hue_any {X Y Z sp pl : Int} (h : HueI X Y Z sp pl) :
    (Z ≤ Y ∧ Y ≤ X ∧ sp = X - Z ∧ ∃ q, pl = Y - Z + 6 * (sp * q)) ∨ (Y ≤ Z ∧ Z ≤ X ∧ sp = X - Y ∧ ∃ q, pl = Y - Z + 6 * (sp * q)) ∨
    (Z ≤ X ∧ X ≤ Y ∧ sp = Y - Z ∧ ∃ q, pl = 2 * sp + Z - X + 6 * (sp * q)) ∨ (X ≤ Z ∧ Z ≤ Y ∧ sp = Y - X ∧ ∃ q, pl = 2 * sp + Z - X + 6 * (sp * q)) ∨
    (Y ≤ X ∧ X ≤ Z ∧ sp = Z - Y ∧ ∃ q, pl = 4 * sp + X - Y + 6 * (sp * q)) ∨ (X ≤ Y ∧ Y ≤ Z ∧ sp = Z - X ∧ ∃ q, pl = 4 * sp + X - Y + 6 * (sp * q)) := by
  obtain ⟨h1, q, h⟩ := h
  obtain ⟨u1, u2, u3⟩ := mx_ub X Y Z
  obtain ⟨e, h2⟩ | ⟨e, h2⟩ | ⟨e, h2⟩ := h
  · rw [e] at h1 u1 u2 u3
    rcases Int.le_total Z Y with c | c
    · exact .inl ⟨c, u2, by rw [← h1, mn_of (.inr (.inr rfl)) (Int.le_trans c u2) c (Int.le_refl _)], q, h2⟩
    · exact .inr (.inl ⟨c, u3, by rw [← h1, mn_of (.inr (.inl rfl)) (Int.le_trans c u3) (Int.le_refl _) c], q, h2⟩)
  · rw [e] at h1 u1 u2 u3
    rcases Int.le_total Z X with c | c
    · exact .inr (.inr (.inl ⟨c, u1, by rw [← h1, mn_of (.inr (.inr rfl)) c (Int.le_trans c u1) (Int.le_refl _)], q, h2⟩))
    · exact .inr (.inr (.inr (.inl ⟨c, u3, by rw [← h1, mn_of (.inl rfl) (Int.le_refl _) (Int.le_trans c u3) c], q, h2⟩)))
  · rw [e] at h1 u1 u2 u3
    rcases Int.le_total Y X with c | c
    · exact .inr (.inr (.inr (.inr (.inl ⟨c, u1, by rw [← h1, mn_of (.inr (.inl rfl)) c (Int.le_refl _) (Int.le_trans c u1)], q, h2⟩))))
    · exact .inr (.inr (.inr (.inr (.inr ⟨c, u2, by rw [← h1, mn_of (.inl rfl) (Int.le_refl _) c (Int.le_trans c u2)], q, h2⟩))))
theorem hue_bnd {X Y Z sp pl : Int} (h : HueI X Y Z sp pl) (h1 : -65025 ≤ Y - Z ∧ Y - Z ≤ 65025) (h2 : -65025 ≤ Z - X ∧ Z - X ≤ 65025) (h3 : -65025 ≤ X - Y ∧ X - Y ≤ 65025) : 0 ≤ sp ∧ sp ≤ 65025 := by
  rcases hue_any h with ⟨o1, o2, e, -⟩ | ⟨o1, o2, e, -⟩ | ⟨o1, o2, e, -⟩ | ⟨o1, o2, e, -⟩ | ⟨o1, o2, e, -⟩ | ⟨o1, o2, e, -⟩ <;> (clear h; subst e)
  · clear h1 h3; constructor <;> (first | exact om274 o1 o2 | exact om276 h2 | omega +splitDisjunctions)
  · clear h1 h2; constructor <;> (first | exact om274 o1 o2 | exact om275 h3 | omega +splitDisjunctions)
  · clear h2 h3; constructor <;> (first | exact om274 o1 o2 | exact om275 h1 | omega +splitDisjunctions)
  · clear h1 h2; constructor <;> (first | exact om274 o1 o2 | exact om276 h3 | omega +splitDisjunctions)
  · clear h2 h3; constructor <;> (first | exact om274 o1 o2 | exact om276 h1 | omega +splitDisjunctions)
  · clear h1 h3; constructor <;> (first | exact om274 o1 o2 | exact om275 h2 | omega +splitDisjunctions)
theorem hue_sp {a b c d sp pl : Int} (B : B4 a b c d) (h : HueR a b c d sp pl) : 0 ≤ sp ∧ sp ≤ 65025 := by
  have x := xyz (a := a) (b := b) (c := c) (d := d)
  have := B.a0; have := B.a1; have := B.b0; have := B.b1; have := B.c0; have := B.c1; have := B.d0; have := B.d1
  have h1 := diff_b (a := a - b) (b := c - d) (by (first | exact om271 (by assumption) (by assumption) | omega +splitDisjunctions)) (by (first | exact om270 (by assumption) (by assumption) | omega +splitDisjunctions)) (by (first | exact om271 (by assumption) this | omega +splitDisjunctions)) (by (first | exact om270 (by assumption) (by assumption) | omega +splitDisjunctions))
  have h2 := diff_b (a := c - a) (b := b - d) (by (first | exact om273 (by assumption) (by assumption) | omega +splitDisjunctions)) (by (first | exact om272 (by assumption) (by assumption) | omega +splitDisjunctions)) (by (first | exact om271 (by assumption) this | omega +splitDisjunctions)) (by (first | exact om270 (by assumption) (by assumption) | omega +splitDisjunctions))
  have h3 := diff_b (a := a - d) (b := b - c) (by (first | exact om271 (by assumption) this | omega +splitDisjunctions)) (by (first | exact om270 (by assumption) (by assumption) | omega +splitDisjunctions)) (by (first | exact om271 (by assumption) (by assumption) | omega +splitDisjunctions)) (by (first | exact om270 (by assumption) (by assumption) | omega +splitDisjunctions))
  rw [x.1] at h1; rw [x.2.1] at h2; rw [x.2.2] at h3
  exact hue_bnd h h1 h2 h3
theorem due_pl {a b c d sp pl : Int} (h : DueIs a b c d sp pl) (B : B4 a b c d) : -400000 ≤ pl ∧ pl ≤ 400000 := by
  have hs := hue_sp B (due_hue h)
  obtain ⟨p, q, r, s, hp, o1, o2, o3, hsp, hpl⟩ := h
  have kb : ∀ i, 0 ≤ keyAt a b c d i ∧ keyAt a b c d i ≤ 255 := fun i => by
    have := B.a0; have := B.a1; have := B.b0; have := B.b1; have := B.c0; have := B.c1; have := B.d0; have := B.d1
    show 0 ≤ [a, b, c, d].getD i.toNat 0 ∧ [a, b, c, d].getD i.toNat 0 ≤ 255
    match i.toNat with
    | 0 => exact ⟨B.a0, B.a1⟩
    | 1 => exact ⟨B.b0, B.b1⟩
    | 2 => exact ⟨B.c0, B.c1⟩
    | 3 => exact ⟨B.d0, B.d1⟩
    | _ + 4 => exact ⟨Int.le_refl 0, (by decide : (0 : Int) ≤ 255)⟩
  have bp := kb p; have bq := kb q; have br := kb r; have bs := kb s
  have hu := diff_b (a := keyAt a b c d q - keyAt a b c d p) (b := keyAt a b c d s - keyAt a b c d r) (by (first | exact om269 bp bq | omega +splitDisjunctions)) (by (first | exact om268 bp bq | omega +splitDisjunctions)) (by (first | exact om269 br bs | omega +splitDisjunctions)) (by (first | exact om268 br bs | omega +splitDisjunctions))
  have hx : 0 ≤ Builtin.bitXor p q ∧ Builtin.bitXor p q ≤ 3 := by
    have m : ∀ x ∈ [p, q, r, s], 0 ≤ x ∧ x < 4 := fun x hx => by
      have := hp.mem_iff.mp hx
      simp only [List.mem_cons, List.not_mem_nil, or_false] at this
      (first | exact om267 this | omega +splitDisjunctions)
    exact xor_bnd (m p (by simp)).1 (m p (by simp)).2 (m q (by simp)).1 (m q (by simp)).2
  generalize Builtin.bitXor p q = v at *
  have h2 : -65025 ≤ (v - 1) * sp ∧ (v - 1) * sp ≤ 130050 := by
    have a1 := Int.mul_le_mul_of_nonneg_right (show v - 1 ≤ 2 by (first | exact om266 hx | omega +splitDisjunctions)) hs.1
    have a2 := Int.mul_le_mul_of_nonneg_right (show -1 ≤ v - 1 by (first | exact om265 hx | omega +splitDisjunctions)) hs.1
    (first | exact om264 hs a1 a2 | omega +splitDisjunctions)
  rw [Int.mul_assoc 2 (v - 1) sp] at hpl
  (first | exact om263 hu hpl h2 | omega +splitDisjunctions)
-- turns
theorem hue_rows {X Y Z X' Y' Z' sp pl : Int} (h : HueI X Y Z sp pl) (e1 : X' = X) (e2 : Y' = Y) (e3 : Z' = Z) : HueI X' Y' Z' sp pl := by subst e1 e2 e3; exact h
theorem hk1 {X Y Z sp pl : Int} (o1 : Z ≤ Y) (o2 : Y ≤ X) (e : sp = X - Z) (q : Int) (h : pl = Y - Z + 6 * (sp * q)) : HueI X Y Z sp pl := by
  have hm : mx3 X Y Z = X := mx_of (.inl rfl) (Int.le_refl _) o2 (Int.le_trans o1 o2)
  have hn : mn3 X Y Z = Z := mn_of (.inr (.inr rfl)) (Int.le_trans o1 o2) o1 (Int.le_refl _)
  exact ⟨by rw [hm, hn]; exact e.symm, q, .inl ⟨hm, h⟩⟩
theorem hk2 {X Y Z sp pl : Int} (o1 : Y ≤ Z) (o2 : Z ≤ X) (e : sp = X - Y) (q : Int) (h : pl = Y - Z + 6 * (sp * q)) : HueI X Y Z sp pl := by
  have hm : mx3 X Y Z = X := mx_of (.inl rfl) (Int.le_refl _) (Int.le_trans o1 o2) o2
  have hn : mn3 X Y Z = Y := mn_of (.inr (.inl rfl)) (Int.le_trans o1 o2) (Int.le_refl _) o1
  exact ⟨by rw [hm, hn]; exact e.symm, q, .inl ⟨hm, h⟩⟩
theorem hk3 {X Y Z sp pl : Int} (o1 : Z ≤ X) (o2 : X ≤ Y) (e : sp = Y - Z) (q : Int) (h : pl = 2 * sp + Z - X + 6 * (sp * q)) : HueI X Y Z sp pl := by
  have hm : mx3 X Y Z = Y := mx_of (.inr (.inl rfl)) o2 (Int.le_refl _) (Int.le_trans o1 o2)
  have hn : mn3 X Y Z = Z := mn_of (.inr (.inr rfl)) o1 (Int.le_trans o1 o2) (Int.le_refl _)
  exact ⟨by rw [hm, hn]; exact e.symm, q, .inr (.inl ⟨hm, h⟩)⟩
theorem hk4 {X Y Z sp pl : Int} (o1 : X ≤ Z) (o2 : Z ≤ Y) (e : sp = Y - X) (q : Int) (h : pl = 2 * sp + Z - X + 6 * (sp * q)) : HueI X Y Z sp pl := by
  have hm : mx3 X Y Z = Y := mx_of (.inr (.inl rfl)) (Int.le_trans o1 o2) (Int.le_refl _) o2
  have hn : mn3 X Y Z = X := mn_of (.inl rfl) (Int.le_refl _) (Int.le_trans o1 o2) o1
  exact ⟨by rw [hm, hn]; exact e.symm, q, .inr (.inl ⟨hm, h⟩)⟩
theorem hk5 {X Y Z sp pl : Int} (o1 : Y ≤ X) (o2 : X ≤ Z) (e : sp = Z - Y) (q : Int) (h : pl = 4 * sp + X - Y + 6 * (sp * q)) : HueI X Y Z sp pl := by
  have hm : mx3 X Y Z = Z := mx_of (.inr (.inr rfl)) o2 (Int.le_trans o1 o2) (Int.le_refl _)
  have hn : mn3 X Y Z = Y := mn_of (.inr (.inl rfl)) o1 (Int.le_refl _) (Int.le_trans o1 o2)
  exact ⟨by rw [hm, hn]; exact e.symm, q, .inr (.inr ⟨hm, h⟩)⟩
theorem hk6 {X Y Z sp pl : Int} (o1 : X ≤ Y) (o2 : Y ≤ Z) (e : sp = Z - X) (q : Int) (h : pl = 4 * sp + X - Y + 6 * (sp * q)) : HueI X Y Z sp pl := by
  have hm : mx3 X Y Z = Z := mx_of (.inr (.inr rfl)) (Int.le_trans o1 o2) o2 (Int.le_refl _)
  have hn : mn3 X Y Z = X := mn_of (.inl rfl) (Int.le_refl _) o1 (Int.le_trans o1 o2)
  exact ⟨by rw [hm, hn]; exact e.symm, q, .inr (.inr ⟨hm, h⟩)⟩
theorem hue_two {X Y Z sp pl : Int} (h : HueI X Y Z sp pl) : HueI X Z Y sp (-pl) := by
  rcases hue_any h with ⟨o1, o2, e, q, h⟩ | ⟨o1, o2, e, q, h⟩ | ⟨o1, o2, e, q, h⟩ | ⟨o1, o2, e, q, h⟩ | ⟨o1, o2, e, q, h⟩ | ⟨o1, o2, e, q, h⟩
  · exact hk2 o1 o2 e (-q) (by rw [Int.mul_neg]; clear o1 o2 e; generalize sp * q = w at *; (first | exact om262 h | omega +splitDisjunctions))
  · exact hk1 o1 o2 e (-q) (by rw [Int.mul_neg]; clear o1 o2 e; generalize sp * q = w at *; (first | exact om262 h | omega +splitDisjunctions))
  · exact hk5 o1 o2 e (-q - 1) (by rw [Int.mul_sub, Int.mul_neg, Int.mul_one]; clear o1 o2 e; generalize sp * q = w at *; (first | exact om261 h | omega +splitDisjunctions))
  · exact hk6 o1 o2 e (-q - 1) (by rw [Int.mul_sub, Int.mul_neg, Int.mul_one]; clear o1 o2 e; generalize sp * q = w at *; (first | exact om261 h | omega +splitDisjunctions))
  · exact hk3 o1 o2 e (-q - 1) (by rw [Int.mul_sub, Int.mul_neg, Int.mul_one]; clear o1 o2 e; generalize sp * q = w at *; (first | exact om260 h | omega +splitDisjunctions))
  · exact hk4 o1 o2 e (-q - 1) (by rw [Int.mul_sub, Int.mul_neg, Int.mul_one]; clear o1 o2 e; generalize sp * q = w at *; (first | exact om260 h | omega +splitDisjunctions))
theorem hue_three {X Y Z sp pl : Int} (h : HueI X Y Z sp pl) : HueI Z Y X sp (4 * sp - pl) := by
  rcases hue_any h with ⟨o1, o2, e, q, h⟩ | ⟨o1, o2, e, q, h⟩ | ⟨o1, o2, e, q, h⟩ | ⟨o1, o2, e, q, h⟩ | ⟨o1, o2, e, q, h⟩ | ⟨o1, o2, e, q, h⟩
  · exact hk6 o1 o2 e (-q) (by rw [Int.mul_neg]; clear o1 o2 e; generalize sp * q = w at *; (first | exact om259 h | omega +splitDisjunctions))
  · exact hk5 o1 o2 e (-q) (by rw [Int.mul_neg]; clear o1 o2 e; generalize sp * q = w at *; (first | exact om259 h | omega +splitDisjunctions))
  · exact hk4 o1 o2 e (-q) (by rw [Int.mul_neg]; clear o1 o2 e; generalize sp * q = w at *; (first | exact om258 h | omega +splitDisjunctions))
  · exact hk3 o1 o2 e (-q) (by rw [Int.mul_neg]; clear o1 o2 e; generalize sp * q = w at *; (first | exact om258 h | omega +splitDisjunctions))
  · exact hk2 o1 o2 e (-q) (by rw [Int.mul_neg]; clear o1 o2 e; generalize sp * q = w at *; (first | exact om257 h | omega +splitDisjunctions))
  · exact hk1 o1 o2 e (-q) (by rw [Int.mul_neg]; clear o1 o2 e; generalize sp * q = w at *; (first | exact om257 h | omega +splitDisjunctions))
theorem turn1 {a b c d sp pl : Int} (h : HueR a b c d sp pl) : HueR a b c d sp pl := h
theorem turn2 {a b c d sp pl : Int} (h : HueR a b c d sp pl) : HueR b a c d sp (-pl) :=
  hue_rows (hue_two h) (by rw [Int.mul_comm b a]) (by (first | exact om256 | omega +splitDisjunctions)) (by (first | exact om256 | omega +splitDisjunctions))
theorem turn3 {a b c d sp pl : Int} (h : HueR a b c d sp pl) : HueR c b a d sp (4 * sp - pl) :=
  hue_rows (hue_three h) (by rw [Int.mul_comm c b]; (first | exact om256 | omega +splitDisjunctions)) (by rw [Int.mul_comm c a]) (by rw [Int.mul_comm b a]; (first | exact om256 | omega +splitDisjunctions))
theorem turn4 {a b c d sp pl : Int} (h : HueR a b c d sp pl) : HueR d c b a sp pl :=
  hue_rows h (by rw [Int.mul_comm d c, Int.mul_comm b a]; (first | exact om256 | omega +splitDisjunctions)) (by rw [Int.mul_comm d b, Int.mul_comm c a]; (first | exact om256 | omega +splitDisjunctions)) (by rw [Int.mul_comm d a, Int.mul_comm c b])
-- sides
noncomputable def sgnI (x : Int) : Int := if 0 < x then 1 else if x < 0 then -1 else 0
theorem hue_cyc {X Y Z sp pl : Int} (h : HueI X Y Z sp pl) : HueI Y Z X sp (pl - 2 * sp) := by
  rcases hue_any h with ⟨o1, o2, e, q, h⟩ | ⟨o1, o2, e, q, h⟩ | ⟨o1, o2, e, q, h⟩ | ⟨o1, o2, e, q, h⟩ | ⟨o1, o2, e, q, h⟩ | ⟨o1, o2, e, q, h⟩
  · exact hk5 o1 o2 e (q - 1) (by rw [Int.mul_sub, Int.mul_one]; clear o1 o2 e; generalize sp * q = w at *; (first | exact om255 h | omega +splitDisjunctions))
  · exact hk6 o1 o2 e (q - 1) (by rw [Int.mul_sub, Int.mul_one]; clear o1 o2 e; generalize sp * q = w at *; (first | exact om255 h | omega +splitDisjunctions))
  · exact hk2 o1 o2 e (q) (by clear o1 o2 e; generalize sp * q = w at *; (first | exact om254 h | omega +splitDisjunctions))
  · exact hk1 o1 o2 e (q) (by clear o1 o2 e; generalize sp * q = w at *; (first | exact om254 h | omega +splitDisjunctions))
  · exact hk4 o1 o2 e (q) (by clear o1 o2 e; generalize sp * q = w at *; (first | exact om253 h | omega +splitDisjunctions))
  · exact hk3 o1 o2 e (q) (by clear o1 o2 e; generalize sp * q = w at *; (first | exact om253 h | omega +splitDisjunctions))
theorem side_at {sp H q : Int} (hs : 0 < sp) (h0 : 0 ≤ H) (h1 : H < 6 * sp) : sideG (H + 6 * (sp * q)) sp = if H = 0 ∨ H = 3 * sp then 0 else if H < 3 * sp then 1 else -1 := by
  have e6 : (H + 6 * (sp * q)).fmod (6 * sp) = H := by
    rw [Int.fmod_eq_emod_of_nonneg _ (by (first | exact om252 h0 h1 | omega +splitDisjunctions)), show H + 6 * (sp * q) = H + 6 * sp * q by rw [Int.mul_assoc], Int.add_mul_emod_self_left]
    exact Int.emod_eq_of_lt h0 h1
  have e3 : (H + 6 * (sp * q)).fmod (3 * sp) = 0 ↔ H = 0 ∨ H = 3 * sp := by
    rw [Int.fmod_eq_emod_of_nonneg _ (by (first | exact om251 hs | omega +splitDisjunctions)), show H + 6 * (sp * q) = H + 3 * sp * (2 * q) by rw [Int.mul_assoc]; congr 1; rw [show sp * (2 * q) = 2 * (sp * q) by ac_rfl]; (first | exact om250 | omega +splitDisjunctions), Int.add_mul_emod_self_left]
    by_cases c : H < 3 * sp
    · rw [Int.emod_eq_of_lt h0 c]; (first | exact om249 c | omega +splitDisjunctions)
    · have : H % (3 * sp) = H - 3 * sp := by
        have e : H = (H - 3 * sp) + 3 * sp * 1 := by (first | exact om248 | omega +splitDisjunctions)
        rw [e, Int.add_mul_emod_self_left, Int.emod_eq_of_lt (by (first | exact om247 c | omega +splitDisjunctions)) (by (first | exact om246 h1 | omega +splitDisjunctions))]; (first | exact om245 | omega +splitDisjunctions)
      rw [this]; (first | exact om244 h1 c | omega +splitDisjunctions)
  unfold sideG
  rw [if_neg (by (first | exact om243 hs | omega +splitDisjunctions)), e6]
  by_cases c : H = 0 ∨ H = 3 * sp
  · rw [if_pos (e3.mpr c), if_pos c]
  · rw [if_neg (fun x => c (e3.mp x)), if_neg c]
theorem side_sgn {H sp q y : Int} (hs : 0 < sp) (h0 : 0 ≤ H) (h1 : H < 6 * sp) (z1 : H = 0 → y = 0) (z2 : H = 3 * sp → y = 0) (p : 0 < H → H < 3 * sp → 0 < y) (n : 3 * sp < H → y < 0) : sideG (H + 6 * (sp * q)) sp = sgnI y := by
  rw [side_at hs h0 h1]
  unfold sgnI
  by_cases c : H = 0 ∨ H = 3 * sp
  · have e : y = 0 := c.elim z1 z2
    rw [if_pos c, e]; rfl
  · rw [if_neg c]
    have c1 : ¬ H = 0 := fun x => c (.inl x)
    have c2 : ¬ H = 3 * sp := fun x => c (.inr x)
    clear c z1 z2
    by_cases d : H < 3 * sp
    · rw [if_pos d, if_pos (p (by clear p n d c2 h1 hs; (first | exact om242 h0 c1 | omega +splitDisjunctions)) d)]
    · have k := n (by clear p n h0 h1 hs c1; (first | exact om241 c2 d | omega +splitDisjunctions))
      rw [if_neg d, if_neg (by clear p n h0 h1 hs c1 c2 d; (first | exact om240 k | omega +splitDisjunctions)), if_pos k]
theorem side_hue {X Y Z sp pl : Int} (h : HueI X Y Z sp pl) : sideG pl sp = sgnI (Y - Z) := by
  rcases hue_any h with ⟨o1, o2, e, q, h⟩ | ⟨o1, o2, e, q, h⟩ | ⟨o1, o2, e, q, h⟩ | ⟨o1, o2, e, q, h⟩ | ⟨o1, o2, e, q, h⟩ | ⟨o1, o2, e, q, h⟩
  all_goals
    by_cases hs : sp = 0
    · have e2 : Y - Z = 0 := by clear h; (first | exact om234 o1 o2 e hs | exact om235 o1 o2 e hs | exact om236 e hs | exact om237 o1 o2 e hs | exact om238 e hs | exact om239 o1 o2 e hs | omega +splitDisjunctions)
      rw [e2, hs]; rfl
    subst h
  · exact side_sgn (by (first | exact om198 o1 o2 e hs | omega +splitDisjunctions)) (by (first | exact om177 o1 | omega +splitDisjunctions)) (by (first | exact om233 o1 o2 e hs | omega +splitDisjunctions)) (by (first | exact om228 | omega +splitDisjunctions)) (by (first | exact om232 o1 o2 e | omega +splitDisjunctions)) (by (first | exact om226 | omega +splitDisjunctions)) (by (first | exact om231 o2 e | omega +splitDisjunctions))
  · by_cases c : Y = Z
    · exact side_sgn (by (first | exact om198 o1 o2 e hs | omega +splitDisjunctions)) (by (first | exact om230 c | omega +splitDisjunctions)) (by (first | exact om229 o1 o2 e hs | omega +splitDisjunctions)) (by (first | exact om228 | omega +splitDisjunctions)) (by (first | exact om227 c | omega +splitDisjunctions)) (by (first | exact om226 | omega +splitDisjunctions)) (by (first | exact om225 o1 o2 e | omega +splitDisjunctions))
    · have e2 : Y - Z + 6 * (sp * q) = (Y - Z + 6 * sp) + 6 * (sp * (q - 1)) := by rw [Int.mul_sub, Int.mul_one]; clear o1 o2 e hs; generalize sp * q = w at *; (first | exact om224 c | omega +splitDisjunctions)
      rw [e2]
      exact side_sgn (by (first | exact om223 o1 o2 e c | omega +splitDisjunctions)) (by (first | exact om222 o1 o2 e | omega +splitDisjunctions)) (by (first | exact om221 o1 c | omega +splitDisjunctions)) (by (first | exact om220 o1 o2 e | omega +splitDisjunctions)) (by (first | exact om219 o1 o2 e | omega +splitDisjunctions)) (by (first | exact om218 o2 e | omega +splitDisjunctions)) (by (first | exact om217 o1 c | omega +splitDisjunctions))
  · exact side_sgn (by (first | exact om198 o1 o2 e hs | omega +splitDisjunctions)) (by (first | exact om216 o1 o2 e | omega +splitDisjunctions)) (by (first | exact om215 o1 o2 e hs | omega +splitDisjunctions)) (by (first | exact om214 o1 o2 e | omega +splitDisjunctions)) (by (first | exact om213 o1 o2 e | omega +splitDisjunctions)) (by (first | exact om212 e | omega +splitDisjunctions)) (by (first | exact om211 o1 e | omega +splitDisjunctions))
  · exact side_sgn (by (first | exact om198 o1 o2 e hs | omega +splitDisjunctions)) (by (first | exact om210 o1 o2 e | omega +splitDisjunctions)) (by (first | exact om209 o1 o2 e hs | omega +splitDisjunctions)) (by (first | exact om208 o1 o2 e | omega +splitDisjunctions)) (by (first | exact om207 e | omega +splitDisjunctions)) (by (first | exact om206 e | omega +splitDisjunctions)) (by (first | exact om205 e | omega +splitDisjunctions))
  · exact side_sgn (by (first | exact om198 o1 o2 e hs | omega +splitDisjunctions)) (by (first | exact om204 o1 o2 e | omega +splitDisjunctions)) (by (first | exact om203 o1 o2 e hs | omega +splitDisjunctions)) (by (first | exact om202 o1 o2 e | omega +splitDisjunctions)) (by (first | exact om201 o1 o2 e | omega +splitDisjunctions)) (by (first | exact om200 o1 | omega +splitDisjunctions)) (by (first | exact om199 o2 e | omega +splitDisjunctions))
  · exact side_sgn (by (first | exact om198 o1 o2 e hs | omega +splitDisjunctions)) (by (first | exact om197 o1 o2 e | omega +splitDisjunctions)) (by (first | exact om196 o1 o2 e hs | omega +splitDisjunctions)) (by (first | exact om195 o1 o2 e | omega +splitDisjunctions)) (by (first | exact om194 e | omega +splitDisjunctions)) (by (first | exact om193 e | omega +splitDisjunctions)) (by (first | exact om192 e | omega +splitDisjunctions))
theorem sgn_mul (x y : Int) : sgnI x * sgnI y = sgnI (x * y) := by
  rcases Int.lt_trichotomy x 0 with hx | hx | hx <;> rcases Int.lt_trichotomy y 0 with hy | hy | hy
  · have := Int.mul_pos_of_neg_of_neg hx hy; unfold sgnI; simp only [if_pos this]; (repeat' split) <;> (first | exact om185 | exact om187 hx (by assumption) | exact om189 hy (by assumption) | exact om191 | omega +splitDisjunctions)
  · subst hy; rw [Int.mul_zero]; unfold sgnI; simp
  · have := Int.mul_neg_of_neg_of_pos hx hy; unfold sgnI; (repeat' split) <;> (first | exact om185 | exact om186 hx (by assumption) | exact om189 this (by assumption) | exact om190 | omega +splitDisjunctions)
  · subst hx; rw [Int.zero_mul]; unfold sgnI; simp
  · subst hx; rw [Int.zero_mul]; unfold sgnI; simp
  · subst hx; rw [Int.zero_mul]; unfold sgnI; simp
  · have := Int.mul_neg_of_pos_of_neg hx hy; unfold sgnI; (repeat' split) <;> (first | exact om185 | exact om186 hy (by assumption) | exact om187 this (by assumption) | exact om188 | omega +splitDisjunctions)
  · subst hy; rw [Int.mul_zero]; unfold sgnI; simp
  · have := Int.mul_pos hx hy; unfold sgnI; simp only [if_pos this]; (repeat' split) <;> (first | exact om185 | omega +splitDisjunctions)
theorem coll_face {a b : Int} (h0 : 0 ≤ a) (h1 : a ≤ 255) (h2 : 0 ≤ b) (h3 : b ≤ 255) : collS (faceS a) (faceS b) = sgnI (a - b) := by
  obtain ⟨i, rfl⟩ := Int.eq_ofNat_of_zero_le h0
  obtain ⟨j, rfl⟩ := Int.eq_ofNat_of_zero_le h2
  unfold collS sgnI
  rcases Nat.lt_trichotomy i j with h | h | h
  · have l := face_lt h (by (first | exact om180 h3 | omega +splitDisjunctions))
    have l2 : ¬ (faceS (j : Int)).cps.toList < (faceS (i : Int)).cps.toList := List.lt_asymm l
    rw [decide_eq_true l, decide_eq_false l2, if_neg (by (first | exact om184 h | omega +splitDisjunctions)), if_pos (by (first | exact om183 h | omega +splitDisjunctions))]; rfl
  · subst h
    have l : ¬ (faceS (i : Int)).cps.toList < (faceS (i : Int)).cps.toList := List.lt_irrefl _
    rw [decide_eq_false l, if_neg (by (first | exact om182 | omega +splitDisjunctions)), if_neg (by (first | exact om181 | omega +splitDisjunctions))]; rfl
  · have l := face_lt h (by (first | exact om180 h1 | omega +splitDisjunctions))
    have l2 : ¬ (faceS (i : Int)).cps.toList < (faceS (j : Int)).cps.toList := List.lt_asymm l
    rw [decide_eq_true l, decide_eq_false l2, if_pos (by (first | exact om179 h | omega +splitDisjunctions))]; rfl
theorem sides_ok {a b c d sp pl : Int} (B : B4 a b c d) (h : HueR a b c d sp pl) :
    collS (faceS a) (faceS b) * collS (faceS c) (faceS d) = sideG (pl - 2 * 0 * sp) sp ∧ collS (faceS c) (faceS a) * collS (faceS b) (faceS d) = sideG (pl - 2 * 1 * sp) sp ∧ collS (faceS a) (faceS d) * collS (faceS b) (faceS c) = sideG (pl - 2 * 2 * sp) sp := by
  have x := xyz (a := a) (b := b) (c := c) (d := d)
  rw [coll_face B.a0 B.a1 B.b0 B.b1, coll_face B.c0 B.c1 B.d0 B.d1, coll_face B.c0 B.c1 B.a0 B.a1, coll_face B.b0 B.b1 B.d0 B.d1, coll_face B.a0 B.a1 B.d0 B.d1, coll_face B.b0 B.b1 B.c0 B.c1, sgn_mul, sgn_mul, sgn_mul, x.1, x.2.1, x.2.2]
  refine ⟨?_, ?_, ?_⟩
  · rw [show pl - 2 * 0 * sp = pl by omega +splitDisjunctions]; exact (side_hue h).symm
  · rw [show pl - 2 * 1 * sp = pl - 2 * sp by omega +splitDisjunctions]; exact (side_hue (hue_cyc h)).symm
  · rw [show pl - 2 * 2 * sp = pl - 2 * sp - 2 * sp by omega +splitDisjunctions]; exact (side_hue (hue_cyc (hue_cyc h))).symm
end Q2
end
section
open PySem PySem.W PyProof.Rows
set_option Elab.async false
set_option maxRecDepth 100000
set_option maxHeartbeats 4000000
section Q3
theorem e900 (x y : Int) : 900 * x * (900 * y) = 810000 * (x * y) := by
  rw [show 900 * x * (900 * y) = (900 * 900) * (x * y) by ac_rfl]; rfl
structure F4i (a b c d f0 f1 f2 f3 : Int) : Prop where
  pm : [f0, f1, f2, f3].Perm [a, b, c, d]
  o1 : f0 ≤ f1
  o2 : f1 ≤ f2
  o3 : f2 ≤ f3
  lo : 0 ≤ f0
  hi : f3 ≤ 255
variable {a b c d f0 f1 f2 f3 sp pl : Int}
theorem f_c1 (h : F4i a b c d f0 f1 f2 f3) : collS (faceS f3) (faceS f0) = if 900 * f3 - 900 * f0 < 1 then 900 * f3 - 900 * f0 else 1 := by
  have := h.o1; have := h.o2; have := h.o3; have := h.lo; have := h.hi
  rw [coll_face (by (first | exact om330 (by assumption) (by assumption) (by assumption) (by assumption) | omega +splitDisjunctions)) (by (first | exact om329 this | omega +splitDisjunctions)) (by (first | exact om328 (by assumption) | omega +splitDisjunctions)) (by (first | exact om327 (by assumption) (by assumption) (by assumption) this | omega +splitDisjunctions))]
  unfold sgnI
  split <;> split <;> (try split) <;> (first | exact om321 (by assumption) (by assumption) | exact om322 | exact om323 (by assumption) (by assumption) (by assumption) (by assumption) | exact om324 (by assumption) (by assumption) | exact om325 (by assumption) (by assumption) | exact om326 (by assumption) (by assumption) | omega +splitDisjunctions)
theorem f_core (h : F4i a b c d f0 f1 f2 f3) (hu : HueR a b c d sp pl) : (f2 - f0) * (f3 - f1) = sp ∧ 0 ≤ (f1 - f0) * (f3 - f2) ∧ (f1 - f0) * (f3 - f2) ≤ sp ∧ ∃ k : Int, pl = (f1 - f0) * (f3 - f2) + 2 * (sp * k) ∨ pl = -((f1 - f0) * (f3 - f2)) + 2 * (sp * k) := by
  obtain ⟨c1, c2, c3, c4⟩ := four_core h.o1 h.o2 h.o3
  have s6 := six_of h.pm
  obtain ⟨m1, m2⟩ := six_mx s6 c3 c4
  have hsp := hu.1
  rw [m1, m2] at hsp
  rw [c1, c2]
  have hk : ∀ q : Int, 6 * (sp * q) = 2 * (sp * (3 * q)) := fun q => by rw [show sp * (3 * q) = 3 * (sp * q) by ac_rfl]; (first | exact om320 | omega +splitDisjunctions)
  refine ⟨hsp, Int.sub_nonneg.mpr c4, by rw [← hsp]; exact Int.sub_le_sub_right c3 _, ?_⟩
  clear c1 c2 c3 c4 m2 h
  unfold HueR at hu
  generalize f0 * f1 + f2 * f3 = M1 at *
  generalize f0 * f2 + f1 * f3 = M2 at *
  generalize f0 * f3 + f1 * f2 = M3 at *
  unfold Six at s6
  generalize a * b + c * d = X at *
  generalize a * c + b * d = Y at *
  generalize a * d + b * c = Z at *
  dsimp only at s6
  rcases s6 with ⟨rfl, rfl, rfl⟩ | ⟨rfl, rfl, rfl⟩ | ⟨rfl, rfl, rfl⟩ | ⟨rfl, rfl, rfl⟩ | ⟨rfl, rfl, rfl⟩ | ⟨rfl, rfl, rfl⟩
  · obtain ⟨q, hq⟩ := hue_x hu m1
    exact ⟨3 * q, .inl (by rw [hq, hk])⟩
  · obtain ⟨q, hq⟩ := hue_x hu m1
    exact ⟨3 * q, .inr (by rw [hq, hk, Int.neg_sub])⟩
  · obtain ⟨q, hq⟩ := hue_y hu m1
    refine ⟨3 * q + 1, .inr ?_⟩
    rw [hq, hk, Int.mul_add sp, Int.mul_one]; clear hq hk hu m1 hsp; generalize sp * (3 * q) = w; (first | exact om319 | omega +splitDisjunctions)
  · obtain ⟨q, hq⟩ := hue_y hu m1
    refine ⟨3 * q + 1, .inl ?_⟩
    rw [hq, hk, Int.mul_add sp, Int.mul_one]; clear hq hk hu m1 hsp; generalize sp * (3 * q) = w; (first | exact om318 | omega +splitDisjunctions)
  · obtain ⟨q, hq⟩ := hue_z hu m1
    refine ⟨3 * q + 2, .inl ?_⟩
    rw [hq, hk, Int.mul_add sp]; clear hq hk hu m1 hsp; generalize sp * (3 * q) = w; (first | exact om317 | omega +splitDisjunctions)
  · obtain ⟨q, hq⟩ := hue_z hu m1
    refine ⟨3 * q + 2, .inr ?_⟩
    rw [hq, hk, Int.mul_add sp]; clear hq hk hu m1 hsp; generalize sp * (3 * q) = w; (first | exact om316 | omega +splitDisjunctions)
theorem f_c2 (h : F4i a b c d f0 f1 f2 f3) (hu : HueR a b c d sp pl) : (900 * f2 - 900 * f0) * (900 * f3 - 900 * f1) = 810000 * sp := by
  rw [← Int.mul_sub, ← Int.mul_sub, e900, (f_core h hu).1]
theorem mod_at {sp D k : Int} (hs : 0 < sp) (h0 : 0 ≤ D) (h1 : D < 2 * sp) : (D + 2 * (sp * k)).fmod (2 * sp) = D := by
  rw [Int.fmod_eq_emod_of_nonneg _ (by (first | exact om315 h0 h1 | omega +splitDisjunctions)), show D + 2 * (sp * k) = D + 2 * sp * k by rw [Int.mul_assoc], Int.add_mul_emod_self_left]
  exact Int.emod_eq_of_lt h0 h1
theorem rest_at {sp D k pl : Int} (hs : 0 < sp) (h0 : 0 ≤ D) (h1 : D ≤ sp) (h : pl = D + 2 * (sp * k) ∨ pl = -D + 2 * (sp * k)) : (if (-pl).fmod (2 * sp) < pl.fmod (2 * sp) then (-pl).fmod (2 * sp) else pl.fmod (2 * sp)) = D := by
  have m1 : ∀ k : Int, (D + 2 * (sp * k)).fmod (2 * sp) = D := fun k => mod_at hs h0 (by (first | exact om314 hs h1 | omega +splitDisjunctions))
  have m2 : ∀ k : Int, (-D + 2 * (sp * k)).fmod (2 * sp) = if D = 0 then 0 else 2 * sp - D := fun k => by
    by_cases c : D = 0
    · rw [if_pos c, c, show (-0 + 2 * (sp * k) : Int) = 0 + 2 * (sp * k) by (first | exact om313 | omega +splitDisjunctions)]; exact mod_at hs (by (first | exact om312 | omega +splitDisjunctions)) (by (first | exact om59 hs | omega +splitDisjunctions))
    · rw [if_neg c, show -D + 2 * (sp * k) = (2 * sp - D) + 2 * (sp * (k - 1)) by rw [Int.mul_sub, Int.mul_one]; (first | exact om311 | omega +splitDisjunctions)]; exact mod_at hs (by (first | exact om310 h0 h1 | omega +splitDisjunctions)) (by (first | exact om309 h0 c | omega +splitDisjunctions))
  rcases h with h | h
  · have e : -pl = -D + 2 * (sp * (-k)) := by rw [Int.mul_neg]; (first | exact om308 h | omega +splitDisjunctions)
    rw [e, h, m1, m2]; split <;> split <;> (first | exact om304 (by assumption) | exact om303 | exact om307 h1 (by assumption) | omega +splitDisjunctions)
  · have e : -pl = D + 2 * (sp * (-k)) := by rw [Int.mul_neg]; (first | exact om306 h | omega +splitDisjunctions)
    rw [e, h, m1, m2]; (repeat' split) <;> (first | exact om303 | exact om304 (by assumption) | exact om305 h1 (by assumption) | omega +splitDisjunctions)
theorem f_c3 {X : Int} (h : F4i a b c d f0 f1 f2 f3) (hu : HueR a b c d sp pl) (hX : sp = 0 ∧ X = 0 ∨ sp ≠ 0 ∧ X = if (-pl).fmod (2 * sp) < pl.fmod (2 * sp) then (-pl).fmod (2 * sp) else pl.fmod (2 * sp)) : (900 * f1 - 900 * f0) * (900 * f3 - 900 * f2) = 810000 * X := by
  obtain ⟨_, h0, h1, k, hk⟩ := f_core h hu
  rw [← Int.mul_sub, ← Int.mul_sub, e900]
  generalize (f1 - f0) * (f3 - f2) = D at *
  rcases hX with ⟨e, rfl⟩ | ⟨e, rfl⟩
  · (first | exact om302 h0 h1 e | omega +splitDisjunctions)
  · rw [rest_at (by (first | exact om301 h0 h1 e | omega +splitDisjunctions)) h0 h1 hk]
theorem xyz_b (B : B4 a b c d) : (0 ≤ a * b + c * d ∧ a * b + c * d ≤ 130050) ∧ (0 ≤ a * c + b * d ∧ a * c + b * d ≤ 130050) ∧ (0 ≤ a * d + b * c ∧ a * d + b * c ≤ 130050) := by
  have := prod_b B.a0 B.a1 B.b0 B.b1; have := prod_b B.c0 B.c1 B.d0 B.d1
  have := prod_b B.a0 B.a1 B.c0 B.c1; have := prod_b B.b0 B.b1 B.d0 B.d1
  have := prod_b B.a0 B.a1 B.d0 B.d1; have := prod_b B.b0 B.b1 B.c0 B.c1
  (first | exact om300 (by assumption) (by assumption) (by assumption) (by assumption) (by assumption) this | omega +splitDisjunctions)
theorem pt_near (B : B4 a b c d) : Pt 18 (a * b + c * d) (a * c + b * d) (a * d + b * c) := by
  have x := xyz_b B
  refine ⟨by (first | exact om299 x | omega +splitDisjunctions), by (first | exact om298 x | omega +splitDisjunctions), by (first | exact om297 x | omega +splitDisjunctions), by (first | exact om296 x | omega +splitDisjunctions), by (first | exact om295 x | omega +splitDisjunctions), by (first | exact om294 x | omega +splitDisjunctions), ?_, by decide⟩
  exact Int.le_trans (Int.add_le_add (Int.max_le.mpr ⟨x.1.2, Int.max_le.mpr ⟨x.2.1.2, x.2.2.2⟩⟩) (Int.le_trans (mn_lb _ _ _).1 x.1.2)) (by decide)
theorem near_ok (B : B4 a b c d) (hu : HueR a b c d sp pl) : HlsOk (quo (a * b + c * d) 262144) (quo (a * c + b * d) 262144) (quo (a * d + b * c) 262144) ∧
    ∀ {hh ll ss : UInt64}, HlsIs (quo (a * b + c * d) 262144) (quo (a * c + b * d) 262144) (quo (a * d + b * c) 262144) hh ll ss → SeenF (a * b + c * d) (a * c + b * d) (a * d + b * c) 262144 1 sp pl hh ll ss := by
  have e : (262144 : Int) = 2 ^ 18 := by decide
  rw [e]
  exact ⟨hls_ok (pt_near B), seen_ok (pt_near B) (by decide) (hue_sp B hu).2 (by (first | exact om293 e | omega +splitDisjunctions)) (by (first | exact om293 e | omega +splitDisjunctions)) hu⟩
noncomputable abbrev farP (n p q r s : Int) : Int := 900 * (p - n) * (900 * (q - n)) + 900 * (r - n) * (900 * (s - n))
theorem far_eq (n p q r s : Int) : farP n p q r s = 810000 * (2 * (n * n) - n * (p + q + r + s)) + 810000 * (p * q + r * s) := by
  have c1 := Int.mul_comm p n; have c2 := Int.mul_comm r n
  show 900 * (p - n) * (900 * (q - n)) + 900 * (r - n) * (900 * (s - n)) = _
  rw [e900, e900]
  simp only [Int.sub_mul, Int.mul_sub, Int.mul_add]
  (first | exact om292 c1 c2 | omega +splitDisjunctions)
theorem far_all (n a b c d : Int) : ∃ T : Int, farP n a b c d = T + 810000 * (a * b + c * d) ∧ farP n a c b d = T + 810000 * (a * c + b * d) ∧ farP n a d b c = T + 810000 * (a * d + b * c) := by
  refine ⟨810000 * (2 * (n * n) - n * (a + b + c + d)), far_eq _ _ _ _ _, ?_, ?_⟩
  · rw [far_eq, show a + c + b + d = a + b + c + d by (first | exact om291 | omega +splitDisjunctions)]
  · rw [far_eq, show a + d + b + c = a + b + c + d by (first | exact om290 | omega +splitDisjunctions)]
theorem far_ok {n : Int} (B : B4 a b c d) (hu : HueR a b c d sp pl) :
    let M := mn3 (farP n a b c d) (farP n a c b d) (farP n a d b c)
    ((0 ≤ farP n a b c d - M ∧ farP n a b c d - M ≤ 2 ^ 38) ∧ (0 ≤ farP n a c b d - M ∧ farP n a c b d - M ≤ 2 ^ 38) ∧ (0 ≤ farP n a d b c - M ∧ farP n a d b c - M ≤ 2 ^ 38)) ∧
    HlsOk (quo (farP n a b c d - M) 137438953472) (quo (farP n a c b d - M) 137438953472) (quo (farP n a d b c - M) 137438953472) ∧
    ∀ {hh ll ss : UInt64}, HlsIs (quo (farP n a b c d - M) 137438953472) (quo (farP n a c b d - M) 137438953472) (quo (farP n a d b c - M) 137438953472) hh ll ss → SeenF (farP n a b c d - M) (farP n a c b d - M) (farP n a d b c - M) 137438953472 810000 sp pl hh ll ss := by
  intro M
  obtain ⟨T, e1, e2, e3⟩ := far_all n a b c d
  have hs := hue_sp B hu
  have hM : M = T + 810000 * mn3 (a * b + c * d) (a * c + b * d) (a * d + b * c) := by
    show mn3 _ _ _ = _
    rw [e1, e2, e3]; exact mn_sc (by decide)
  have hd := hu.1
  clear_value M
  rw [e1, e2, e3, hM]
  have hb : mn3 (a * b + c * d) (a * c + b * d) (a * d + b * c) ≤ a * b + c * d ∧ mn3 (a * b + c * d) (a * c + b * d) (a * d + b * c) ≤ a * c + b * d ∧ mn3 (a * b + c * d) (a * c + b * d) (a * d + b * c) ≤ a * d + b * c ∧ a * b + c * d ≤ mx3 (a * b + c * d) (a * c + b * d) (a * d + b * c) ∧ a * c + b * d ≤ mx3 (a * b + c * d) (a * c + b * d) (a * d + b * c) ∧ a * d + b * c ≤ mx3 (a * b + c * d) (a * c + b * d) (a * d + b * c) := ⟨(mn_lb _ _ _).1, (mn_lb _ _ _).2.1, (mn_lb _ _ _).2.2, mx_ub _ _ _⟩
  have hu' := hu
  unfold HueR at hu'
  generalize a * b + c * d = X at *
  generalize a * c + b * d = Y at *
  generalize a * d + b * c = Z at *
  have q1 : T + 810000 * X - (T + 810000 * mn3 X Y Z) = 810000 * (X - mn3 X Y Z) := by (first | exact om289 | omega +splitDisjunctions)
  have q2 : T + 810000 * Y - (T + 810000 * mn3 X Y Z) = 810000 * (Y - mn3 X Y Z) := by (first | exact om289 | omega +splitDisjunctions)
  have q3 : T + 810000 * Z - (T + 810000 * mn3 X Y Z) = 810000 * (Z - mn3 X Y Z) := by (first | exact om289 | omega +splitDisjunctions)
  rw [q1, q2, q3]
  have dn : ∀ u : Int, mn3 X Y Z ≤ u → 0 ≤ 810000 * (u - mn3 X Y Z) := fun u h => Int.mul_nonneg (by decide) (Int.sub_nonneg.mpr h)
  have up : ∀ u : Int, u ≤ mx3 X Y Z → 810000 * (u - mn3 X Y Z) ≤ 2 ^ 38 := fun u h => by
    have h2 := hs.2
    clear hs hb dn q1 q2 q3
    omega +splitDisjunctions
  have P : Pt 37 (810000 * (X - mn3 X Y Z)) (810000 * (Y - mn3 X Y Z)) (810000 * (Z - mn3 X Y Z)) := by
    refine ⟨dn _ hb.1, dn _ hb.2.1, dn _ hb.2.2.1, up _ hb.2.2.2.1, up _ hb.2.2.2.2.1, up _ hb.2.2.2.2.2, ?_, by decide⟩
    generalize mn3 X Y Z = m at *
    generalize mx3 X Y Z = m' at *
    unfold mx3 mn3; (first | exact om282 hs hd hb | omega +splitDisjunctions)
  have e : (137438953472 : Int) = 2 ^ 37 := by decide
  rw [e]
  exact ⟨⟨⟨P.a0, P.a1⟩, ⟨P.b0, P.b1⟩, ⟨P.c0, P.c1⟩⟩, hls_ok P, seen_ok P (by decide) hs.2 (by (first | exact om281 | omega +splitDisjunctions)) (by (first | exact om281 | omega +splitDisjunctions)) hu'⟩
end Q3
end
section
open PySem PySem.W PyProof.Rows
set_option Elab.async false
set_option maxRecDepth 100000
set_option maxHeartbeats 8000000
section Ll
open PySem.Calls
variable {prog : Program} {w : World} {A : Around} {s : Shared} {h₀ : Heap} {L : Addr} {m : Str → Option Value} {news : List (Addr × Obj)} {env : Env} {target : PySem.Expr} {body : List Stmt} {R : Result → Shared → Prop}
theorem sl_list_loop {us : List Value} {WL : Addr} (J : Nat → (Str → Option Value) → List (Addr × Obj) → Prop) (hh : A.handled = none)
    (F : Fr h₀ L s.heap m) (N : News h₀ L s.heap ((WL, W.listOf us.toArray 0) :: news)) (hJ : J 0 m news)
    (turn : ∀ i v I oI h' tk' m' news', us[i]? = some v → J i m' news' → Fr h₀ L h' m' → News h₀ L h' ((I, oI) :: (WL, W.listOf us.toArray 0) :: news') → @LT.lt Nat _ WL I → (∀ p ∈ news', @Ne Nat p.1 I) →
      wpAny (model prog w) A (assign target env v) (fun _ s₂ => wpS (model prog w) A (execs body env) (fun f s₃ => match f with
        | .next | .cont => ∃ h'' tk'' m'' news'', s₃ = { s with heap := h'', toks := tk'' } ∧ Fr h₀ L h'' m'' ∧ News h₀ L h'' ((I, oI) :: (WL, W.listOf us.toArray 0) :: news'') ∧ (∀ p ∈ news'', @Ne Nat p.1 I) ∧ J (i + 1) m'' news''
        | .brk => False
        | .ret v => R (.ok (.ret v)) s₃) Nev s₂) Nev { s with heap := h', toks := tk' })
    (done : ∀ h' tk' m' news', Fr h₀ L h' m' → News h₀ L h' news' → J us.length m' news' → R (.ok .next) { s with heap := h', toks := tk' })
    (ht : ∀ it v, letOwnedTupleGo target it v = pure () := by intro _ _; rfl) :
    wpAny (model prog w) A (pyIter (.ref WL)) (fun it s₂ => codeS (model prog w) A (.forLoop target it body [] env) R s₂) Nev s := by
  have hl : s.heap.IsList WL us.toArray := ⟨_, (N _ (.head _)).1, rfl, 0, rfl⟩
  refine wpAny_pyIter_list hl ?_
  have hL : L < s.heap.objs.size := F.ns.lt
  have hW : WL < s.heap.objs.size := Heap.lt_size (N _ (.head _)).1
  have hI0 : h₀.get? s.heap.objs.size = none := Heap.get?_none_of_le (Nat.le_trans F.above (Nat.le_of_lt hL))
  generalize hIe : s.heap.objs.size = I at *
  have keep : ∀ b o, s.heap.get? b = some o → (s.heap.push { cls := .type "list_iterator", data := .fields #[.ref WL, .int 0 0] }).get? b = some o := fun b o e => Heap.get?_push_of_some _ e
  refine sl_forLoop (I := fun n s' => ∃ i h' tk' m' news' oI, i + n = us.length ∧ s' = { s with heap := h', toks := tk' } ∧ Fr h₀ L h' m' ∧ News h₀ L h' ((I, oI) :: (WL, W.listOf us.toArray 0) :: news') ∧ (∀ p ∈ news', @Ne Nat p.1 I) ∧
    (oI.cls = .type "list_iterator" ∧ oI.data = .fields #[.ref WL, .int i 0]) ∧ J i m' news') ?turn (ht _) us.length _ ?start
  case start =>
    refine ⟨0, _, s.toks, m, news, { cls := .type "list_iterator", data := .fields #[.ref WL, .int 0 0] }, Nat.zero_add _, rfl, F.keeps keep, fun p hp => ?_, fun p hp => Nat.ne_of_lt (by rw [← hIe]; exact Heap.lt_size (N p (.tail _ hp)).1), ⟨rfl, rfl⟩, hJ⟩
    rcases List.mem_cons.mp hp with rfl | hp
    · exact ⟨by rw [← hIe]; exact Heap.get?_push_size _ rfl, Nat.ne_of_gt hL, hI0⟩
    · exact ⟨keep _ _ (N p hp).1, (N p hp).2⟩
  case turn =>
    rintro n s' ⟨i, h', tk', m', news', oI, hi, rfl, F', N', ne', ⟨hc, hd⟩, hJ'⟩
    have z := N' _ (.head _)
    have zw := N' _ (.tail _ (.head _))
    have hit : ({ s with heap := h', toks := tk' } : Shared).heap.IsListIter I WL i := ⟨_, z.1, hc, hd⟩
    have hl' : ({ s with heap := h', toks := tk' } : Shared).heap.IsList WL us.toArray := ⟨_, zw.1, rfl, 0, rfl⟩
    have hWI : ∀ p ∈ (WL, W.listOf us.toArray 0) :: news', p.1 ≠ I := fun p hp => by
      rcases List.mem_cons.mp hp with rfl | hp
      · exact Nat.ne_of_lt hW
      · exact ne' p hp
    cases n with
    | zero =>
      refine wpAny_pyNext_list_end hh hit hl' (by simp; (first | exact om333 hi | omega +splitDisjunctions)) fun h'' hx => ?_
      refine done h'' tk' m' news' (LCg.fr_but F' (fun b o hb e => hx b o (by simpa using hb) e) (Nat.ne_of_lt hL) hI0) (fun p hp => ?_) (by rw [← hi]; exact hJ')
      have y := N' p (.tail _ (.tail _ hp))
      exact ⟨hx _ _ (ne' p hp) y.1, y.2⟩
    | succ n =>
      have hlt : i < us.length := by (first | exact om332 hi | omega +splitDisjunctions)
      refine wpAny_pyNext_list_item (x := us[i]) hit hl' (by simp) fun h'' hit' sb => ?_
      obtain ⟨oI', g1, g2, g3⟩ := hit'
      have F2 := F'.change sb z.2.1 z.2.2
      have N2 : News h₀ L h'' ((I, oI') :: (WL, W.listOf us.toArray 0) :: news') := fun p hp => by
        rcases List.mem_cons.mp hp with rfl | hp
        · exact ⟨g1, z.2⟩
        · have y := N' p (.tail _ hp)
          exact ⟨(sb.2 p.1 (hWI p hp)).trans y.1, y.2⟩
      refine wpAny_mono (turn i us[i] I oI' h'' tk' m' news' (by simp) hJ' F2 N2 hW ne') (fun _ s₂ h₂ => sl_mono h₂ (fun f s₃ h₃ => ?_) fun _ _ x => x) fun _ _ x => x
      cases f with
      | next =>
        obtain ⟨h3, tk3, m3, news3, rfl, F3, N3, ne3, hJ3⟩ := h₃
        exact ⟨n, Nat.lt_succ_self n, i + 1, h3, tk3, m3, news3, oI', by (first | exact om331 hi | omega +splitDisjunctions), rfl, F3, N3, ne3, ⟨g2, g3⟩, hJ3⟩
      | cont =>
        obtain ⟨h3, tk3, m3, news3, rfl, F3, N3, ne3, hJ3⟩ := h₃
        exact ⟨n, Nat.lt_succ_self n, i + 1, h3, tk3, m3, news3, oI', by (first | exact om331 hi | omega +splitDisjunctions), rfl, F3, N3, ne3, ⟨g2, g3⟩, hJ3⟩
      | brk => exact h₃.elim
      | ret v => exact h₃
end Ll
end
section
local macro_rules | `(tactic| k_room) => `(tactic| ktr_room)
local macro_rules | `(tactic| k_units) => `(tactic| ktr_units)
local macro_rules | `(tactic| k_all) => `(tactic| assumption)
local macro_rules | `(tactic| walk_at "call builtin:max") => `(tactic| (k_here; (with_reducible refine Mine.gd8 ?_); k_dflt (apply Mine.max3_flo; (with_unfolding_all rfl); (iterate 2 k_asm); k_whole); intros))
local macro_rules | `(tactic| walk_at "call builtin:min") => `(tactic| (k_here; (with_reducible refine Mine.gd8 ?_); k_dflt (apply Mine.min3_flo; (with_unfolding_all rfl); (iterate 2 k_asm); k_whole); intros))
local macro_rules | `(tactic| walk_at "call ref") => `(tactic| (k_here; (with_reducible refine Mine.gd5 ?_); k_dflt (apply Mine.figures_w; (iterate 8 walk_at "kx"); (first | exact Mine.fm4a _ | exact Mine.fd4a (by assumption) | exact Mine.fd4a (Mine.ab0 _) | l_fact); (first | exact Mine.fm4b _ | exact Mine.fd4b (by assumption) | exact Mine.fd4b (Mine.ab1 (by assumption) (by assumption)) | l_fact); k_whole); intros; have hfl9 := Mine.figS_len; walk_at "kt"))
local macro_rules | `(tactic| walk_at "call ref") => `(tactic| (k_here; (with_reducible refine Mine.gd16 ?_); k_dflt (apply Mine.face_w; (iterate 8 walk_at "kx"); (iterate 2 l_fact); k_whole); intros; have hfc9 := Mine.faceS_len; walk_at "kt"))
local macro_rules | `(tactic| walk_at "call ref") => `(tactic| (k_here; (with_reducible refine Mine.gd17 ?_); k_dflt (apply Mine.zone_w; (iterate 8 walk_at "kx"); (iterate 4 l_fact); k_whole); intros; walk_at "kt"))
local macro_rules | `(tactic| walk_at "getMethod ref") => `(tactic| (k_here; (with_reducible refine Mine.gd0 ?_); k_dflt (apply Mine.rx_method_K; (iterate 2 k_asm); k_whole)))
local macro_rules | `(tactic| walk_at "call builtin:re.Pattern.search") => `(tactic| (k_here; (with_reducible refine Mine.gd1 ?_); k_dflt (apply Mine.rx_search_K; (iterate 3 k_asm); assumption; k_whole); intro T9 M9 h9 F9 N9 l9 m9; (try k_lt l9); (try k_lt2 m9)))
local macro_rules | `(tactic| walk_at "getMethod ref") => `(tactic| (k_here; (with_reducible refine Mine.gd2 ?_); k_dflt (apply Mine.rm_method_K; k_asm; k_mem; k_whole)))
local macro_rules | `(tactic| walk_at "call builtin:re.Match.group") => `(tactic| (k_here; (with_reducible refine Mine.gd3 ?_); k_dflt (apply Mine.rm_group_K; k_asm; (iterate 2 k_mem); decide; (iterate 2 assumption); k_whole); intros; (try dsimp only [Mine.rxVal])))
local macro_rules | `(tactic| walk_at "truthy ref") => `(tactic| (k_here; k_dflt (apply Mine.rm_truthy_K; k_asm; k_mem; k_whole)))
local macro_rules | `(tactic| walk_at "truthy") => `(tactic| (k_here; (with_reducible refine Mine.gd4 ?_); k_dflt (apply Mine.rm_truthy_K; k_asm; k_mem; k_whole)))
section
local macro_rules | `(tactic| walk_at "call ref") => `(tactic| (k_here; (with_reducible refine Mine.gd19 ?_); k_dflt (apply Mine.tz_w; (iterate 8 walk_at "kx"); (first | (with_reducible refine Mine.tz_face ?_ ?_) <;> (first | assumption | l_fact) | (with_reducible refine Mine.tz_zone ?_ ?_ ?_ ?_) <;> (first | assumption | l_fact)); k_whole); intros; walk_at "kt"))
local macro_rules | `(tactic| walk_at "exec Assign cons ListComp") => `(tactic| (k_here; (with_reducible refine Mine.gd20 ?_); k_dflt (apply Mine.Assign_zs; k_asm; rfl; (iterate 2 (with_unfolding_all rfl)); decide; rfl; decide; (iterate 2 rfl); (iterate 3 decide); (iterate 2 (with_unfolding_all rfl)); k_whole)))
section
open PySem PySem.W PyProof.Rows
set_option Elab.async false
set_option maxRecDepth 100000
set_option maxHeartbeats 8000000
set_option pp.deepTerms false
set_option pp.deepTerms.threshold 3
set_option pp.proofs false
theorem walk_anew_14 : True := by w_top off; trivial
--ZS
noncomputable def sc (ns : List Int) (k : Nat) : Int := (ns[k]?).getD 0
theorem drop2 {h₀ h : Heap} {L : Addr} {a b : Addr × Obj} {l : List (Addr × Obj)} (N : News h₀ L h (a :: b :: l)) : News h₀ L h (a :: l) := fun p hp => by
  rcases List.mem_cons.mp hp with rfl | hp
  · exact N _ (.head _)
  · exact N _ (.tail _ (.tail _ hp))
theorem drawn_list (ns : List Int) : List.zipWith (· + ·) [97, 12, 180, 55, 130] (List.take 5 ns ++ (List.replicate (Int.toNat 5) [(0 : Int)]).flatten) = [97 + sc ns 0, 12 + sc ns 1, 180 + sc ns 2, 55 + sc ns 3, 130 + sc ns 4] := by
  cases ns with | nil => rfl | cons a ns => cases ns with | nil => rfl | cons b ns => cases ns with | nil => rfl | cons c ns => cases ns with | nil => rfl | cons d ns => cases ns <;> rfl
theorem stage1 {w : World} {p : Program} {loose : List Str} {mean : ExcName → Option Value} {mg mb : Str → Option Value} :
    ∀ {dp un : Nat} {a' : Addr} {ccd : Value} {A₀ : Around} {base h₀ : Heap} {L : Addr} {m : Str → Option Value} {s : Shared} {Q : Flow → Shared → Prop} {r : Addr} {vs : List Value} {ns : List Int} {o1 o2 o3 o4 : Obj},
    Below A₀ base [] h₀ → Fr h₀ L s.heap m → (hd.heap_39 w.params).In h₀ → News h₀ L s.heap [(L + 1 + 3, o1), (L + 1 + 2, o2), (L + 1 + 1, o3), (L + 1, o4), (95, tabObj #[])] → Top p loose mean mg mb h₀ →
    h₀.IsList r vs.toArray → IntsAre vs ns → m (Str.ofString "script") = some (.ref r) → ¬ (63 : Int) < (ns.length : Int) → dp + 80 < recursionLimit → un + 800 < cLine →
    (∀ D h' tk' t1 t2 t3 t4 t5, Fr h₀ L h' (fun y => if y = Str.ofString "drawn" then some (.ref D) else (List.lookup y [(Str.ofString "script", .ref r)]).or (m y)) → News h₀ L h' ((D, W.listOf #[.int (97 + sc ns 0) t1, .int (12 + sc ns 1) t2, .int (180 + sc ns 2) t3, .int (55 + sc ns 3) t4, .int (130 + sc ns 4) t5] 5) :: [(L + 1 + 3, o1), (L + 1 + 2, o2), (L + 1 + 1, o3), (L + 1, o4), (95, tabObj #[])]) → @LT.lt Nat _ (L + 1 + 3) D →
      wpS (model PySem.Challenge.rw_zo0001_01.prog w) (lawA dp un L a' ccd) (execs (lawBody.drop 1) (lawEnv L a' ccd)) Q Nev { s with heap := h', toks := tk' }) →
    wpS (model PySem.Challenge.rw_zo0001_01.prog w) (lawA dp un L a' ccd) (execs lawBody (lawEnv L a' ccd)) Q Nev s := by
  k_fill
  intro dp un a' ccd A₀ base h₀ L m s Q r vs ns o1 o2 o3 o4 B0 F00 X0 N0 T0 hl0 hi0 hm0 hlen hdp hun hret
  have F0 := fr_conv F00 [(Str.ofString "script", .ref r)] (by intro q hq; simp only [List.mem_singleton] at hq; subst hq; exact hm0)
  clear F00
  refine sl_execs_consA ?_
  k_steps
  rename IntsAre _ (List.take 5 ns ++ _) => hi5
  refine' zs_call rfl ?zF ?zN ?zM ?zO ?z1 hi5 ?z3 ?_
  case zF => k_asm
  case zN => k_asm
  case zM => k_mem
  case zO => k_mem
  case z1 => exact .cons _ _ (.cons _ _ (.cons _ _ (.cons _ _ (.cons _ _ .nil))))
  case z3 => exact Nat.le_of_ble_eq_true rfl
  intro D9 h9 tk9 ys9 hys9 F9 N9 l9
  rw [drawn_list] at hys9
  obtain ⟨t1', t2', t3', t4', t5', e9⟩ := five_ints hys9
  subst e9
  exact hret _ _ _ _ _ _ _ _ F9 (drop2 (drop2 (drop2 (drop2 (drop2 N9))))) (l9 _ (.tail _ (.tail _ (.tail _ (.tail _ (.tail _ (.head _)))))))
end
section
open PySem PySem.W PyProof.Rows
set_option Elab.async false
set_option maxRecDepth 100000
set_option maxHeartbeats 8000000
set_option pp.deepTerms false
set_option pp.deepTerms.threshold 3
set_option pp.proofs false
theorem walk_anew_15 : True := by w_top off; trivial
--ZS
theorem four_ints {ys : List Value} {a b c d : Int} (h : IntsAre ys [a, b, c, d]) : ∃ t1 t2 t3 t4, ys = [.int a t1, .int b t2, .int c t3, .int d t4] := by
  obtain ⟨t1, _, rfl, h1⟩ := ints_cons h
  obtain ⟨t2, _, rfl, h2⟩ := ints_cons h1
  obtain ⟨t3, _, rfl, h3⟩ := ints_cons h2
  obtain ⟨t4, _, rfl, h4⟩ := ints_cons h3
  obtain rfl := ints_nil h4
  exact ⟨_, _, _, _, rfl⟩
noncomputable def Offs : List Addr → Addr → Prop
  | [], _ => True
  | a :: l, L => (@Ne Nat a (L + 1 + 3) ∧ @Ne Nat a (L + 1 + 2) ∧ @Ne Nat a (L + 1 + 1) ∧ @Ne Nat a (L + 1)) ∧ Offs l L
theorem off_of {L a : Nat} {z : Prop} (h : L + 1 + 3 ≠ a ∧ L + 1 + 2 ≠ a ∧ L + 1 + 1 ≠ a ∧ L + 1 ≠ a ∧ z) : a ≠ L + 1 + 3 ∧ a ≠ L + 1 + 2 ∧ a ≠ L + 1 + 1 ∧ a ≠ L + 1 := ⟨h.1.symm, h.2.1.symm, h.2.2.1.symm, h.2.2.2.1.symm⟩
theorem stage2 {w : World} {p : Program} {loose : List Str} {mean : ExcName → Option Value} {mg mb : Str → Option Value} :
    ∀ {dp un : Nat} {a' : Addr} {ccd : Value} {A₀ : Around} {base h₀ : Heap} {L : Addr} {m : Str → Option Value} {s : Shared} {Q : Flow → Shared → Prop} {o1 o2 o3 o4 : Obj} {D r : Addr} {d0 d1 d2 d3 d4 : Int} {t0 t1 t2 t3 t4 : Tok},
    Below A₀ base [] h₀ → Fr h₀ L s.heap m → (hd.heap_39 w.params).In h₀ → News h₀ L s.heap ((D, W.listOf #[.int d0 t0, .int d1 t1, .int d2 t2, .int d3 t3, .int d4 t4] 5) :: [(L + 1 + 3, o1), (L + 1 + 2, o2), (L + 1 + 1, o3), (L + 1, o4), (95, tabObj #[])]) → Top p loose mean mg mb h₀ → @LT.lt Nat _ 95 L → dp + 80 < recursionLimit → un + 800 < cLine →
    m (Str.ofString "drawn") = some (.ref D) → m (Str.ofString "script") = some (.ref r) → (hD : @LT.lt Nat _ (L + 1 + 3) D) → (e1 : o1.data = .cell none) → (e2 : o2.data = .cell none) → (e3 : o3.data = .cell none) → (e4 : o4.data = .cell none) → 
    (hret : ∀ {R T : Addr} {h' : Heap} {tk' : Nat} {m' : Str → Option Value} {o4' : Obj} {u0 u1 u2 u3 v0 v1 v2 v3 tn : Tok}, Fr h₀ L h' m' → m' (Str.ofString "row") = some (.ref R) → m' (Str.ofString "told") = some (.ref T) → m' (Str.ofString "script") = some (.ref r) →
      News h₀ L h' [(T, W.listOf #[.int (900 * (d0.fmod 256 - d4.fmod 256)) u0, .int (900 * (d1.fmod 256 - d4.fmod 256)) u1, .int (900 * (d2.fmod 256 - d4.fmod 256)) u2, .int (900 * (d3.fmod 256 - d4.fmod 256)) u3] 4),
        (R, W.listOf #[.int (d0.fmod 256) v0, .int (d1.fmod 256) v1, .int (d2.fmod 256) v2, .int (d3.fmod 256) v3] 4), (L + 1 + 3, o1), (L + 1 + 2, o2), (L + 1 + 1, o3), (L + 1, o4'), (95, tabObj #[])] →
      o4'.data = .cell (some (.int (d4.fmod 256) tn)) → Offs [R, T] L → @Ne Nat R T →
      wpS (model PySem.Challenge.rw_zo0001_01.prog w) (lawA dp un L a' ccd) (execs (lawBody.drop 5) (lawEnv L a' ccd)) Q Nev { s with heap := h', toks := tk' }) → 
    wpS (model PySem.Challenge.rw_zo0001_01.prog w) (lawA dp un L a' ccd) (execs (lawBody.drop 1) (lawEnv L a' ccd)) Q Nev s := by
  k_fill
  intro dp un a' ccd A₀ base h₀ L m s Q o1 o2 o3 o4 D r d0 d1 d2 d3 d4 t0 t1 t2 t3 t4 B0 F00 X0 N0 T0 h95 hdp hun hm_drawn hm_script hD e1 e2 e3 e4 hret
  have F0 := fr_conv F00 [(Str.ofString "drawn", .ref D), (Str.ofString "script", .ref r)] (fr_all (.cons (.cons .nil hm_script) hm_drawn))
  clear F00
  refine sl_execs_consA ?_
  k_steps
  refine sl_execs_consA ?_
  k_steps
  refine sl_execs_consA ?_
  k_steps
  refine sl_execs_consA ?_
  k_steps
  all_goals first
    | (exfalso; rename (¬ (List.map _ _ = List.map _ _)) => hx; exact hx rfl)
    | (rename IntsAre _ _ => i1; clear i1; rename IntsAre _ _ => i2; obtain ⟨_, _, _, _, e2⟩ := four_ints i2; subst e2; clear i2; rename IntsAre _ _ => i3; obtain ⟨_, _, _, _, e3⟩ := four_ints i3; subst e3; clear i3
       exact hret (by assumption) (by exact rfl) (by exact rfl) (by exact rfl) (sub_news (by assumption) (by repeat (first | exact SubL.nil | refine SubL.keep ?_ | refine SubL.skip ?_))) (by assumption) ⟨off_of (And.right (And.right (by assumption))), off_of (And.right (And.right (And.right (And.right (by assumption))))), trivial⟩ (And.left (And.right (by assumption))))
end
section
local macro_rules | `(tactic| walk_at "call type:zip") => `(tactic| (k_here; (with_reducible show wpAny _ _ _ (fun _ _ => _) _ _); k_dflt (apply Mine.zip_K; (iterate 2 k_asm); (iterate 2 k_mem); k_whole); intros))
local macro_rules | `(tactic| walk_at "call type:dict") => `(tactic| (k_here; k_dflt (apply Mine.dict_zip_K; exact rfl; (iterate 2 k_asm); (iterate 3 assumption); exact Nat.le_of_ble_eq_true rfl; k_whole); intro d9 h9 tk9 o9 F9 N9 l9 A9; (try k_lt l9)))
section
open PySem PySem.W PyProof.Rows
set_option Elab.async false
set_option maxRecDepth 100000
set_option maxHeartbeats 8000000
set_option pp.deepTerms false
set_option pp.deepTerms.threshold 3
set_option pp.proofs false
theorem walk_anew_16 : True := by w_top off; trivial
--ZS
theorem stage3 {w : World} {p : Program} {loose : List Str} {mean : ExcName → Option Value} {mg mb : Str → Option Value} :
    ∀ {dp un : Nat} {a' : Addr} {ccd : Value} {A₀ : Around} {base h₀ : Heap} {L : Addr} {m : Str → Option Value} {s : Shared} {Q : Flow → Shared → Prop} {o1 o2 o3 o4 : Obj} {R T r : Addr} {a b c d n : Int} {v0 v1 v2 v3 u0 u1 u2 u3 : Tok},
    Below A₀ base [] h₀ → Fr h₀ L s.heap m → (hd.heap_39 w.params).In h₀ → News h₀ L s.heap ((T, W.listOf #[.int (900 * (a - n)) u0, .int (900 * (b - n)) u1, .int (900 * (c - n)) u2, .int (900 * (d - n)) u3] 4) :: (R, W.listOf #[.int a v0, .int b v1, .int c v2, .int d v3] 4) :: [(L + 1 + 3, o1), (L + 1 + 2, o2), (L + 1 + 1, o3), (L + 1, o4), (95, tabObj #[])]) → Top p loose mean mg mb h₀ → @LT.lt Nat _ 95 L → dp + 80 < recursionLimit → un + 800 < cLine →
    m (Str.ofString "row") = some (.ref R) → m (Str.ofString "told") = some (.ref T) → m (Str.ofString "script") = some (.ref r) → (hoff : Offs [R, T] L) → (hRT : @Ne Nat R T) → 
    (hret : ∀ {d' : Addr} {h' : Heap} {tk' : Nat} {m' : Str → Option Value} {o' : Obj}, Fr h₀ L h' m' → m' (Str.ofString "row") = some (.ref R) → m' (Str.ofString "away") = some (.ref d') → m' (Str.ofString "script") = some (.ref r) →
      News h₀ L h' [(d', o'), (R, W.listOf #[.int a v0, .int b v1, .int c v2, .int d v3] 4), (L + 1 + 3, o1), (L + 1 + 2, o2), (L + 1 + 1, o3), (L + 1, o4), (95, tabObj #[])] →
      AwayO o' [a, b, c, d] (fun k => 900 * (k - n)) → @LT.lt Nat _ R d' → @LT.lt Nat _ (L + 1 + 3) d' →
      wpS (model PySem.Challenge.rw_zo0001_01.prog w) (lawA dp un L a' ccd) (execs (lawBody.drop 6) (lawEnv L a' ccd)) Q Nev { s with heap := h', toks := tk' }) → 
    wpS (model PySem.Challenge.rw_zo0001_01.prog w) (lawA dp un L a' ccd) (execs (lawBody.drop 5) (lawEnv L a' ccd)) Q Nev s := by
  k_fill
  intro dp un a' ccd A₀ base h₀ L m s Q o1 o2 o3 o4 R T r a b c d n v0 v1 v2 v3 u0 u1 u2 u3 B0 F00 X0 N0 T0 h95 hdp hun hm_row hm_told hm_script hoff hRT hret
  have F0 := fr_conv F00 [(Str.ofString "row", .ref R), (Str.ofString "told", .ref T), (Str.ofString "script", .ref r)] (fr_all (.cons (.cons (.cons .nil hm_script) hm_told) hm_row))
  clear F00
  have hi1 : IntsAre [.int a v0, .int b v1, .int c v2, .int d v3] [a, b, c, d] := .cons _ _ (.cons _ _ (.cons _ _ (.cons _ _ .nil)))
  have hi2 : IntsAre [.int (900 * (a - n)) u0, .int (900 * (b - n)) u1, .int (900 * (c - n)) u2, .int (900 * (d - n)) u3] ([a, b, c, d].map (fun k => 900 * (k - n))) := .cons _ _ (.cons _ _ (.cons _ _ (.cons _ _ .nil)))
  refine sl_execs_consA ?_
  k_steps
  all_goals (exact hret (by assumption) (by exact rfl) (by exact rfl) (by exact rfl) (sub_news (by assumption) (by repeat (first | exact SubL.nil | refine SubL.keep ?_ | refine SubL.skip ?_))) (by assumption) (by omega) (by omega))
end
section
open PySem PySem.W PyProof.Rows
set_option Elab.async false
set_option maxRecDepth 100000
set_option maxHeartbeats 8000000
set_option pp.deepTerms false
set_option pp.deepTerms.threshold 3
set_option pp.proofs false
theorem walk_anew_17 : True := by w_top off; trivial
local macro_rules | `(tactic| walk_at "call ref") => `(tactic| (k_here; (with_reducible refine Mine.gd21 ?_); k_dflt (apply Mine.due_w; (iterate 8 walk_at "kx"); (iterate 8 l_fact); (refine Mine.off1_mem ?_; repeat (first | exact True.intro | refine And.intro (by omega) ?_)); omega; assumption; k_whole); intros; walk_at "kl"; walk_at "kt"))
--ZS
--DUE
theorem stage4 {w : World} {p : Program} {loose : List Str} {mean : ExcName → Option Value} {mg mb : Str → Option Value} :
    ∀ {dp un : Nat} {a' : Addr} {ccd : Value} {A₀ : Around} {base h₀ : Heap} {L : Addr} {m : Str → Option Value} {s : Shared} {Q : Flow → Shared → Prop} {o1 o2 o3 o4 : Obj} {R dA r : Addr} {oA : Obj} {a b c d : Int} {v0 v1 v2 v3 : Tok},
    Below A₀ base [] h₀ → Fr h₀ L s.heap m → (hd.heap_39 w.params).In h₀ → News h₀ L s.heap ((95, tabObj #[]) :: (R, W.listOf #[.int a v0, .int b v1, .int c v2, .int d v3] 4) :: (dA, oA) :: [(L + 1 + 3, o1), (L + 1 + 2, o2), (L + 1 + 1, o3), (L + 1, o4)]) → Top p loose mean mg mb h₀ → @LT.lt Nat _ 95 L → dp + 80 < recursionLimit → un + 800 < cLine →
    m (Str.ofString "row") = some (.ref R) → m (Str.ofString "away") = some (.ref dA) → m (Str.ofString "script") = some (.ref r) → (ha0 : 0 ≤ a) → (ha1 : a ≤ 255) → (hb0 : 0 ≤ b) → (hb1 : b ≤ 255) → (hc0 : 0 ≤ c) → (hc1 : c ≤ 255) → (hd0 : 0 ≤ d) → (hd1 : d ≤ 255) → (hC : CodeHd base 99 95) → (hRl : @LT.lt Nat _ R dA) → (hlA : @LT.lt Nat _ (L + 1 + 3) dA) → (hoff : Offs [R] L) → (e2 : o2.data = .cell none) → (e3 : o3.data = .cell none) → (hR95 : @Ne Nat R 95) → 
    (hret : ∀ {sp pl : Int} {tsp tpl : Tok} {x : Array Value} {h' : Heap} {tk' : Nat} {m' : Str → Option Value} {o2' o3' : Obj}, Fr h₀ L h' m' → m' (Str.ofString "row") = some (.ref R) → m' (Str.ofString "away") = some (.ref dA) → m' (Str.ofString "script") = some (.ref r) →
      News h₀ L h' [(95, tabObj x), (R, W.listOf #[.int a v0, .int b v1, .int c v2, .int d v3] 4), (dA, oA), (L + 1 + 3, o1), (L + 1 + 2, o2'), (L + 1 + 1, o3'), (L + 1, o4)] →
      o2'.data = .cell (some (.int pl tpl)) → o3'.data = .cell (some (.int sp tsp)) → DueIs a b c d sp pl →
      wpS (model PySem.Challenge.rw_zo0001_01.prog w) (lawA dp un L a' ccd) (execs (lawBody.drop 7) (lawEnv L a' ccd)) Q Nev { s with heap := h', toks := tk' }) → 
    wpS (model PySem.Challenge.rw_zo0001_01.prog w) (lawA dp un L a' ccd) (execs (lawBody.drop 6) (lawEnv L a' ccd)) Q Nev s := by
  k_fill
  intro dp un a' ccd A₀ base h₀ L m s Q o1 o2 o3 o4 R dA r oA a b c d v0 v1 v2 v3 B0 F00 X0 N0 T0 h95 hdp hun hm_row hm_away hm_script ha0 ha1 hb0 hb1 hc0 hc1 hd0 hd1 hC hRl hlA hoff e2 e3 hR95 hret
  have F0 := fr_conv F00 [(Str.ofString "row", .ref R), (Str.ofString "away", .ref dA), (Str.ofString "script", .ref r)] (fr_all (.cons (.cons (.cons .nil hm_script) hm_away) hm_row))
  clear F00
  obtain ⟨⟨hf1, hf2, hf3, hf4⟩, -⟩ := hoff
  refine sl_execs_consA ?_
  k_steps
  all_goals (exact hret (by assumption) (by exact rfl) (by exact rfl) (by exact rfl) (sub_news (by assumption) (by repeat (first | exact SubL.nil | refine SubL.keep ?_ | refine SubL.skip ?_))) (by assumption) (by assumption) (by assumption))
end
section
open PySem PySem.W PyProof.Rows
set_option Elab.async false
set_option maxRecDepth 100000
set_option maxHeartbeats 8000000
set_option pp.deepTerms false
set_option pp.deepTerms.threshold 3
set_option pp.proofs false
theorem walk_anew_18 : True := by w_top off; trivial
local macro_rules | `(tactic| walk_at "eval ListComp") => `(tactic| (k_here; (with_reducible refine Mine.gd22 ?_); lcg_calm; k_dflt (refine LCg.ListComp_U (F₀ := by k_asm) (by with_unfolding_all rfl) (by decide) (by rfl) (by decide) (by rfl) ?_); k_dflt lcg_toSrc))
local macro_rules | `(tactic| walk_at "call builtin:sorted") => `(tactic| (k_here; ksk_kw; ksk_show; (with_unfolding_all refine' Mine.sk_faces ?k1 ?k2 ?k3 ?k4 ?a3 ?_ ?_; (case k1 | k2 => k_asm); (case k3 => k_mem); (case k4 => assumption); (case a3 => (intro x'; ksk_a3))); (all_goals intros); (all_goals walk_at "kl")))
local macro_rules | `(tactic| walk_at "IdEnd") => `(tactic| (refine Mine.IdEnd.intro (by assumption) (by assumption) (by repeat (first | exact Mine.SubL.refl _ | exact Mine.SubL.nil | refine Mine.SubL.keep ?_ | refine Mine.SubL.skip ?_))))
local macro_rules | `(tactic| walk_at "CompSrc") => `(tactic| (k_here; k_dflt (refine LCg.CompSrc.ledger (by rfl) (by k_asm) (by k_asm) (by k_mem) (by first | size_fits | exact Nat.le_of_ble_eq_true rfl) ?_; intros; lcg_lit)))
--ZS
--FACE
local macro_rules | `(tactic| lcg_off) => `(tactic| (simp only [LCg.Off3, and_true]; assumption))
theorem stage5 {w : World} {p : Program} {loose : List Str} {mean : ExcName → Option Value} {mg mb : Str → Option Value} :
    ∀ {dp un : Nat} {a' : Addr} {ccd : Value} {A₀ : Around} {base h₀ : Heap} {L : Addr} {m : Str → Option Value} {s : Shared} {Q : Flow → Shared → Prop} {o1 o2 o3 o4 : Obj} {R dA r : Addr} {oA : Obj} {x : Array Value} {a b c d sp pl : Int} {v0 v1 v2 v3 tsp tpl : Tok},
    Below A₀ base [] h₀ → Fr h₀ L s.heap m → (hd.heap_39 w.params).In h₀ → News h₀ L s.heap ((95, tabObj x) :: (R, W.listOf #[.int a v0, .int b v1, .int c v2, .int d v3] 4) :: (dA, oA) :: [(L + 1 + 3, o1), (L + 1 + 2, o2), (L + 1 + 1, o3), (L + 1, o4)]) → Top p loose mean mg mb h₀ → @LT.lt Nat _ 95 L → dp + 80 < recursionLimit → un + 800 < cLine →
    m (Str.ofString "row") = some (.ref R) → m (Str.ofString "away") = some (.ref dA) → m (Str.ofString "script") = some (.ref r) → (ha0 : 0 ≤ a) → (ha1 : a ≤ 255) → (hb0 : 0 ≤ b) → (hb1 : b ≤ 255) → (hc0 : 0 ≤ c) → (hc1 : c ≤ 255) → (hd0 : 0 ≤ d) → (hd1 : d ≤ 255) → (e2 : o2.data = .cell (some (.int pl tpl))) → (e3 : o3.data = .cell (some (.int sp tsp))) → 
    (hret : ∀ {f0 f1 f2 f3 : Int} {FC : Addr} {w0 w1 w2 w3 : Tok} {nF : Nat} {h' : Heap} {tk' : Nat} {m' : Str → Option Value}, Fr h₀ L h' m' → m' (Str.ofString "row") = some (.ref R) → m' (Str.ofString "away") = some (.ref dA) → m' (Str.ofString "script") = some (.ref r) → m' (Str.ofString "faces") = some (.ref FC) →
      News h₀ L h' ((FC, W.listOf #[.str (faceS f0) w0, .str (faceS f1) w1, .str (faceS f2) w2, .str (faceS f3) w3] nF) :: (95, tabObj x) :: (R, W.listOf #[.int a v0, .int b v1, .int c v2, .int d v3] 4) :: (dA, oA) :: [(L + 1 + 3, o1), (L + 1 + 2, o2), (L + 1 + 1, o3), (L + 1, o4)]) →
      [f0, f1, f2, f3].Perm [a, b, c, d] → f0 ≤ f1 → f1 ≤ f2 → f2 ≤ f3 → 0 ≤ f0 → f3 ≤ 255 →
      wpS (model PySem.Challenge.rw_zo0001_01.prog w) (lawA dp un L a' ccd) (execs (lawBody.drop 8) (lawEnv L a' ccd)) Q Nev { s with heap := h', toks := tk' }) → 
    wpS (model PySem.Challenge.rw_zo0001_01.prog w) (lawA dp un L a' ccd) (execs (lawBody.drop 7) (lawEnv L a' ccd)) Q Nev s := by
  k_fill
  intro dp un a' ccd A₀ base h₀ L m s Q o1 o2 o3 o4 R dA r oA x a b c d sp pl v0 v1 v2 v3 tsp tpl B0 F00 X0 N0 T0 h95 hdp hun hm_row hm_away hm_script ha0 ha1 hb0 hb1 hc0 hc1 hd0 hd1 e2 e3 hret
  have F0 := fr_conv F00 [(Str.ofString "row", .ref R), (Str.ofString "away", .ref dA), (Str.ofString "script", .ref r)] (fr_all (.cons (.cons (.cons .nil hm_script) hm_away) hm_row))
  clear F00
  have hb : ∀ k ∈ [a, b, c, d], 0 ≤ k ∧ k ≤ 255 := by intro k hk; simp only [List.mem_cons, List.not_mem_nil, or_false] at hk; rcases hk with rfl | rfl | rfl | rfl <;> exact ⟨by assumption, by assumption⟩
  refine sl_execs_consA ?_
  k_steps
  all_goals (exact hret (by assumption) (by exact rfl) (by exact rfl) (by exact rfl) (by exact rfl) (sub_news (by assumption) (by repeat (first | exact SubL.nil | refine SubL.keep ?_ | refine SubL.skip ?_))) (by assumption) (by assumption) (by assumption) (by assumption) (by assumption) (by assumption))
end
end
end
section
local macro_rules | `(tactic| walk_at "call ref") => `(tactic| (k_here; (with_reducible refine Mine.gd19 ?_); k_dflt (apply Mine.tz_w; (iterate 8 walk_at "kx"); (first | (with_reducible refine Mine.tz_face ?_ ?_) <;> (first | assumption | l_fact) | (with_reducible refine Mine.tz_zone ?_ ?_ ?_ ?_) <;> (first | assumption | l_fact)); k_whole); intros; walk_at "kt"))
section
local macro_rules | `(tactic| lcg_off) => `(tactic| (simp only [LCg.Off3, and_true]; assumption))
section
local macro_rules | `(tactic| walk_at "subscriptTail") => `(tactic| (k_here; (with_reducible refine Mine.gd23 ?_); (refine Mine.cutRg (s := ⟨_, _, _, _, _⟩) (by k_asm) (by k_asm) (by constructor) (by constructor) (by first | exact Mine.pickR1 | exact Mine.pickR2 | exact Mine.pickR3 | exact Mine.pickR4) ?_); intros))
local macro_rules | `(tactic| walk_at "subscriptTail") => `(tactic| (k_here; (with_reducible refine Mine.gd24 ?_); (refine Mine.cutLg (s := ⟨_, _, _, _, _⟩) (by k_asm) (by k_asm) (by constructor) (by constructor) (by first | exact Mine.pickL1 | exact Mine.pickL2 | exact Mine.pickL3 | exact Mine.pickL4) ?_); intros))
section
open PySem PySem.W PyProof.Rows
set_option Elab.async false
set_option maxRecDepth 100000
set_option maxHeartbeats 8000000
set_option pp.deepTerms false
set_option pp.deepTerms.threshold 3
set_option pp.proofs false
theorem walk_anew_19 : True := by w_top off; trivial
--NOZS
theorem body1_1 {w : World} {p : Program} {loose : List Str} {mean : ExcName → Option Value} {mg mb : Str → Option Value} :
    ∀ {dp un : Nat} {a' : Addr} {ccd : Value} {A₀ : Around} {base h₀ : Heap} {L : Addr} {m : Str → Option Value} {s : Shared} {Q : Flow → Shared → Prop} {o1 o2 o3 o4 : Obj} {I WL R dA : Addr} {oI oW oA : Obj} {x : Array Value} {nR : Nat} {a b c d sp pl : Int} {v0 v1 v2 v3 tsp tpl tO tw : Tok},
    Below A₀ base [] h₀ → Fr h₀ L s.heap m → (hd.heap_39 w.params).In h₀ → News h₀ L s.heap ((R, W.listOf #[.int a v0, .int b v1, .int c v2, .int d v3] nR) :: (I, oI) :: (WL, oW) :: (95, tabObj x) :: (dA, oA) :: [(L + 1 + 3, o1), (L + 1 + 2, o2), (L + 1 + 1, o3), (L + 1, o4)]) → Top p loose mean mg mb h₀ → @LT.lt Nat _ 95 L → dp + 120 < recursionLimit → un + 1200 < cLine →
    m (Str.ofString "row") = some (.ref R) → m (Str.ofString "away") = some (.ref dA) → m (Str.ofString "width") = some (.int 1 tw) → m (Str.ofString "octets") = some (.bytes #[a.toNat.toUInt8, b.toNat.toUInt8, c.toNat.toUInt8, d.toNat.toUInt8] tO) → (hI : @LT.lt Nat _ (L + 1 + 3) I) → (hW : @LT.lt Nat _ (L + 1 + 3) WL) → (hWI : @LT.lt Nat _ WL I) → (hA : @LT.lt Nat _ (L + 1 + 3) dA) → (hAI : @LT.lt Nat _ dA I) → (hoff : Offs [R] L) → (hRI : @Ne Nat R I) → (ha0 : 0 ≤ a) → (ha1 : a ≤ 255) → (hb0 : 0 ≤ b) → (hb1 : b ≤ 255) → (hc0 : 0 ≤ c) → (hc1 : c ≤ 255) → (hd0 : 0 ≤ d) → (hd1 : d ≤ 255) → (e2 : o2.data = .cell (some (.int pl tpl))) → (e3 : o3.data = .cell (some (.int sp tsp))) → (s0 : 0 ≤ sp) → (s1 : sp ≤ 65025) → (q0 : -10000000 ≤ pl) → (q1 : pl ≤ 10000000) → 
    (hret : ∀ {R' : Addr} {tO' : Tok} {h' : Heap} {tk' : Nat} {m' : Str → Option Value}, Fr h₀ L h' m' → m' (Str.ofString "row") = some (.ref R') → m' (Str.ofString "away") = some (.ref dA) → m' (Str.ofString "width") = some (.int 1 tw) → m' (Str.ofString "octets") = some (.bytes #[a.toNat.toUInt8, b.toNat.toUInt8, c.toNat.toUInt8, d.toNat.toUInt8] tO') →
      News h₀ L h' ((R', W.listOf #[.int a v0, .int b v1, .int c v2, .int d v3] 0) :: (I, oI) :: (WL, oW) :: (95, tabObj x) :: (dA, oA) :: [(L + 1 + 3, o1), (L + 1 + 2, o2), (L + 1 + 1, o3), (L + 1, o4)]) → Offs [R'] L → @Ne Nat R' I → wpS (model PySem.Challenge.rw_zo0001_01.prog w) (lawA dp un L a' ccd) (execs (loopBody.drop 2) (lawEnv L a' ccd)) Q Nev { s with heap := h', toks := tk' }) → 
    wpS (model PySem.Challenge.rw_zo0001_01.prog w) (lawA dp un L a' ccd) (execs (loopBody.drop 0) (lawEnv L a' ccd)) Q Nev s := by
  k_fill
  intro dp un a' ccd A₀ base h₀ L m s Q o1 o2 o3 o4 I WL R dA oI oW oA x nR a b c d sp pl v0 v1 v2 v3 tsp tpl tO tw B0 F00 X0 N0 T0 h95 hdp hun hm_row hm_away hm_width hm_octets hI hW hWI hA hAI hoff hRI ha0 ha1 hb0 hb1 hc0 hc1 hd0 hd1 e2 e3 s0 s1 q0 q1 hret
  have F0 := fr_conv F00 [(Str.ofString "row", .ref R), (Str.ofString "away", .ref dA), (Str.ofString "width", .int 1 tw), (Str.ofString "octets", .bytes #[a.toNat.toUInt8, b.toNat.toUInt8, c.toNat.toUInt8, d.toNat.toUInt8] tO)] (fr_all (.cons (.cons (.cons (.cons .nil hm_octets) hm_width) hm_away) hm_row))
  clear F00
  obtain ⟨⟨hf1, hf2, hf3, hf4⟩, -⟩ := hoff
  have h72 : ∃ o fd, h₀.get? 72 = some o ∧ o.data = .func fd := by
    refine' fn72 X0 ?k
    case k => k_is
  refine sl_execs_cons (sl_Assign_Name ?_ ?hswap)
  case hswap => rfl
  refine sl_BinOp ?_
  refine sl_eval_Call (f := .ref 72) (by with_unfolding_all rfl) ?_
  iterate 1 walk1
  obtain ⟨o72, f72, g72, d72⟩ := h72
  refine ⟨rfl, sl_funE (o := o72) (fd := f72) rfl ⟨_, _, rfl⟩ ?hl ?h⟩
  case hl => with_unfolding_all exact (by decide : ¬ 2 + 2 * 0 > 30)
  case' h =>
    k_steps
    rename Fr _ _ _ _ => F8
    rename News _ _ _ _ => N8
    refine bswap1_w B0 F8 X0 N8 T0 rfl (by omega) (by omega) ?_
    intro t9 h9 tk9 F9 N9
    k_steps
    refine sl_execs_consA ?_
    k_steps
    all_goals (exact hret (by assumption) (by exact rfl) (by exact rfl) (by exact rfl) (by exact rfl) (sub_news (by assumption) (by repeat (first | exact SubL.nil | exact SubL.refl _ | refine SubL.keep ?_ | refine SubL.skip ?_))) ⟨⟨by omega, by omega, by omega, by omega⟩, trivial⟩ (by omega))
end
section
open PySem PySem.W PyProof.Rows
set_option Elab.async false
set_option maxRecDepth 100000
set_option maxHeartbeats 8000000
set_option pp.deepTerms false
set_option pp.deepTerms.threshold 3
set_option pp.proofs false
theorem walk_anew_20 : True := by w_top off; trivial
--NOZS
theorem body1_2 {w : World} {p : Program} {loose : List Str} {mean : ExcName → Option Value} {mg mb : Str → Option Value} :
    ∀ {dp un : Nat} {a' : Addr} {ccd : Value} {A₀ : Around} {base h₀ : Heap} {L : Addr} {m : Str → Option Value} {s : Shared} {Q : Flow → Shared → Prop} {o1 o2 o3 o4 : Obj} {I WL R dA : Addr} {oI oW oA : Obj} {x : Array Value} {nR : Nat} {a b c d sp pl : Int} {v0 v1 v2 v3 tsp tpl tO tw : Tok},
    Below A₀ base [] h₀ → Fr h₀ L s.heap m → (hd.heap_39 w.params).In h₀ → News h₀ L s.heap ((R, W.listOf #[.int a v0, .int b v1, .int c v2, .int d v3] nR) :: (I, oI) :: (WL, oW) :: (95, tabObj x) :: (dA, oA) :: [(L + 1 + 3, o1), (L + 1 + 2, o2), (L + 1 + 1, o3), (L + 1, o4)]) → Top p loose mean mg mb h₀ → @LT.lt Nat _ 95 L → dp + 120 < recursionLimit → un + 1200 < cLine →
    m (Str.ofString "row") = some (.ref R) → m (Str.ofString "away") = some (.ref dA) → m (Str.ofString "width") = some (.int 2 tw) → m (Str.ofString "octets") = some (.bytes #[a.toNat.toUInt8, b.toNat.toUInt8, c.toNat.toUInt8, d.toNat.toUInt8] tO) → (hI : @LT.lt Nat _ (L + 1 + 3) I) → (hW : @LT.lt Nat _ (L + 1 + 3) WL) → (hWI : @LT.lt Nat _ WL I) → (hA : @LT.lt Nat _ (L + 1 + 3) dA) → (hAI : @LT.lt Nat _ dA I) → (hoff : Offs [R] L) → (hRI : @Ne Nat R I) → (ha0 : 0 ≤ a) → (ha1 : a ≤ 255) → (hb0 : 0 ≤ b) → (hb1 : b ≤ 255) → (hc0 : 0 ≤ c) → (hc1 : c ≤ 255) → (hd0 : 0 ≤ d) → (hd1 : d ≤ 255) → (e2 : o2.data = .cell (some (.int pl tpl))) → (e3 : o3.data = .cell (some (.int sp tsp))) → (s0 : 0 ≤ sp) → (s1 : sp ≤ 65025) → (q0 : -10000000 ≤ pl) → (q1 : pl ≤ 10000000) → 
    (hret : ∀ {R' : Addr} {tO' : Tok} {h' : Heap} {tk' : Nat} {m' : Str → Option Value}, Fr h₀ L h' m' → m' (Str.ofString "row") = some (.ref R') → m' (Str.ofString "away") = some (.ref dA) → m' (Str.ofString "width") = some (.int 2 tw) → m' (Str.ofString "octets") = some (.bytes #[b.toNat.toUInt8, a.toNat.toUInt8, c.toNat.toUInt8, d.toNat.toUInt8] tO') →
      News h₀ L h' ((R', W.listOf #[.int b v1, .int a v0, .int c v2, .int d v3] 0) :: (I, oI) :: (WL, oW) :: (95, tabObj x) :: (dA, oA) :: [(L + 1 + 3, o1), (L + 1 + 2, o2), (L + 1 + 1, o3), (L + 1, o4)]) → Offs [R'] L → @Ne Nat R' I → wpS (model PySem.Challenge.rw_zo0001_01.prog w) (lawA dp un L a' ccd) (execs (loopBody.drop 2) (lawEnv L a' ccd)) Q Nev { s with heap := h', toks := tk' }) → 
    wpS (model PySem.Challenge.rw_zo0001_01.prog w) (lawA dp un L a' ccd) (execs (loopBody.drop 0) (lawEnv L a' ccd)) Q Nev s := by
  k_fill
  intro dp un a' ccd A₀ base h₀ L m s Q o1 o2 o3 o4 I WL R dA oI oW oA x nR a b c d sp pl v0 v1 v2 v3 tsp tpl tO tw B0 F00 X0 N0 T0 h95 hdp hun hm_row hm_away hm_width hm_octets hI hW hWI hA hAI hoff hRI ha0 ha1 hb0 hb1 hc0 hc1 hd0 hd1 e2 e3 s0 s1 q0 q1 hret
  have F0 := fr_conv F00 [(Str.ofString "row", .ref R), (Str.ofString "away", .ref dA), (Str.ofString "width", .int 2 tw), (Str.ofString "octets", .bytes #[a.toNat.toUInt8, b.toNat.toUInt8, c.toNat.toUInt8, d.toNat.toUInt8] tO)] (fr_all (.cons (.cons (.cons (.cons .nil hm_octets) hm_width) hm_away) hm_row))
  clear F00
  obtain ⟨⟨hf1, hf2, hf3, hf4⟩, -⟩ := hoff
  have h72 : ∃ o fd, h₀.get? 72 = some o ∧ o.data = .func fd := by
    refine' fn72 X0 ?k
    case k => k_is
  refine sl_execs_cons (sl_Assign_Name ?_ ?hswap)
  case hswap => rfl
  refine sl_BinOp ?_
  refine sl_eval_Call (f := .ref 72) (by with_unfolding_all rfl) ?_
  iterate 1 walk1
  obtain ⟨o72, f72, g72, d72⟩ := h72
  refine ⟨rfl, sl_funE (o := o72) (fd := f72) rfl ⟨_, _, rfl⟩ ?hl ?h⟩
  case hl => with_unfolding_all exact (by decide : ¬ 2 + 2 * 0 > 30)
  case' h =>
    k_steps
    rename Fr _ _ _ _ => F8
    rename News _ _ _ _ => N8
    refine bswap2_w B0 F8 X0 N8 T0 rfl (by omega) (by omega) ?_
    intro t9 h9 tk9 F9 N9
    k_steps
    refine sl_execs_consA ?_
    k_steps
    all_goals (exact hret (by assumption) (by exact rfl) (by exact rfl) (by exact rfl) (by exact rfl) (sub_news (by assumption) (by repeat (first | exact SubL.nil | exact SubL.refl _ | refine SubL.keep ?_ | refine SubL.skip ?_))) ⟨⟨by omega, by omega, by omega, by omega⟩, trivial⟩ (by omega))
end
section
open PySem PySem.W PyProof.Rows
set_option Elab.async false
set_option maxRecDepth 100000
set_option maxHeartbeats 8000000
set_option pp.deepTerms false
set_option pp.deepTerms.threshold 3
set_option pp.proofs false
theorem walk_anew_21 : True := by w_top off; trivial
--NOZS
theorem body1_3 {w : World} {p : Program} {loose : List Str} {mean : ExcName → Option Value} {mg mb : Str → Option Value} :
    ∀ {dp un : Nat} {a' : Addr} {ccd : Value} {A₀ : Around} {base h₀ : Heap} {L : Addr} {m : Str → Option Value} {s : Shared} {Q : Flow → Shared → Prop} {o1 o2 o3 o4 : Obj} {I WL R dA : Addr} {oI oW oA : Obj} {x : Array Value} {nR : Nat} {a b c d sp pl : Int} {v0 v1 v2 v3 tsp tpl tO tw : Tok},
    Below A₀ base [] h₀ → Fr h₀ L s.heap m → (hd.heap_39 w.params).In h₀ → News h₀ L s.heap ((R, W.listOf #[.int a v0, .int b v1, .int c v2, .int d v3] nR) :: (I, oI) :: (WL, oW) :: (95, tabObj x) :: (dA, oA) :: [(L + 1 + 3, o1), (L + 1 + 2, o2), (L + 1 + 1, o3), (L + 1, o4)]) → Top p loose mean mg mb h₀ → @LT.lt Nat _ 95 L → dp + 120 < recursionLimit → un + 1200 < cLine →
    m (Str.ofString "row") = some (.ref R) → m (Str.ofString "away") = some (.ref dA) → m (Str.ofString "width") = some (.int 3 tw) → m (Str.ofString "octets") = some (.bytes #[a.toNat.toUInt8, b.toNat.toUInt8, c.toNat.toUInt8, d.toNat.toUInt8] tO) → (hI : @LT.lt Nat _ (L + 1 + 3) I) → (hW : @LT.lt Nat _ (L + 1 + 3) WL) → (hWI : @LT.lt Nat _ WL I) → (hA : @LT.lt Nat _ (L + 1 + 3) dA) → (hAI : @LT.lt Nat _ dA I) → (hoff : Offs [R] L) → (hRI : @Ne Nat R I) → (ha0 : 0 ≤ a) → (ha1 : a ≤ 255) → (hb0 : 0 ≤ b) → (hb1 : b ≤ 255) → (hc0 : 0 ≤ c) → (hc1 : c ≤ 255) → (hd0 : 0 ≤ d) → (hd1 : d ≤ 255) → (e2 : o2.data = .cell (some (.int pl tpl))) → (e3 : o3.data = .cell (some (.int sp tsp))) → (s0 : 0 ≤ sp) → (s1 : sp ≤ 65025) → (q0 : -10000000 ≤ pl) → (q1 : pl ≤ 10000000) → 
    (hret : ∀ {R' : Addr} {tO' : Tok} {h' : Heap} {tk' : Nat} {m' : Str → Option Value}, Fr h₀ L h' m' → m' (Str.ofString "row") = some (.ref R') → m' (Str.ofString "away") = some (.ref dA) → m' (Str.ofString "width") = some (.int 3 tw) → m' (Str.ofString "octets") = some (.bytes #[c.toNat.toUInt8, b.toNat.toUInt8, a.toNat.toUInt8, d.toNat.toUInt8] tO') →
      News h₀ L h' ((R', W.listOf #[.int c v2, .int b v1, .int a v0, .int d v3] 0) :: (I, oI) :: (WL, oW) :: (95, tabObj x) :: (dA, oA) :: [(L + 1 + 3, o1), (L + 1 + 2, o2), (L + 1 + 1, o3), (L + 1, o4)]) → Offs [R'] L → @Ne Nat R' I → wpS (model PySem.Challenge.rw_zo0001_01.prog w) (lawA dp un L a' ccd) (execs (loopBody.drop 2) (lawEnv L a' ccd)) Q Nev { s with heap := h', toks := tk' }) → 
    wpS (model PySem.Challenge.rw_zo0001_01.prog w) (lawA dp un L a' ccd) (execs (loopBody.drop 0) (lawEnv L a' ccd)) Q Nev s := by
  k_fill
  intro dp un a' ccd A₀ base h₀ L m s Q o1 o2 o3 o4 I WL R dA oI oW oA x nR a b c d sp pl v0 v1 v2 v3 tsp tpl tO tw B0 F00 X0 N0 T0 h95 hdp hun hm_row hm_away hm_width hm_octets hI hW hWI hA hAI hoff hRI ha0 ha1 hb0 hb1 hc0 hc1 hd0 hd1 e2 e3 s0 s1 q0 q1 hret
  have F0 := fr_conv F00 [(Str.ofString "row", .ref R), (Str.ofString "away", .ref dA), (Str.ofString "width", .int 3 tw), (Str.ofString "octets", .bytes #[a.toNat.toUInt8, b.toNat.toUInt8, c.toNat.toUInt8, d.toNat.toUInt8] tO)] (fr_all (.cons (.cons (.cons (.cons .nil hm_octets) hm_width) hm_away) hm_row))
  clear F00
  obtain ⟨⟨hf1, hf2, hf3, hf4⟩, -⟩ := hoff
  have h72 : ∃ o fd, h₀.get? 72 = some o ∧ o.data = .func fd := by
    refine' fn72 X0 ?k
    case k => k_is
  refine sl_execs_cons (sl_Assign_Name ?_ ?hswap)
  case hswap => rfl
  refine sl_BinOp ?_
  refine sl_eval_Call (f := .ref 72) (by with_unfolding_all rfl) ?_
  iterate 1 walk1
  obtain ⟨o72, f72, g72, d72⟩ := h72
  refine ⟨rfl, sl_funE (o := o72) (fd := f72) rfl ⟨_, _, rfl⟩ ?hl ?h⟩
  case hl => with_unfolding_all exact (by decide : ¬ 2 + 2 * 0 > 30)
  case' h =>
    k_steps
    rename Fr _ _ _ _ => F8
    rename News _ _ _ _ => N8
    refine bswap3_w B0 F8 X0 N8 T0 rfl (by omega) (by omega) ?_
    intro t9 h9 tk9 F9 N9
    k_steps
    refine sl_execs_consA ?_
    k_steps
    all_goals (exact hret (by assumption) (by exact rfl) (by exact rfl) (by exact rfl) (by exact rfl) (sub_news (by assumption) (by repeat (first | exact SubL.nil | exact SubL.refl _ | refine SubL.keep ?_ | refine SubL.skip ?_))) ⟨⟨by omega, by omega, by omega, by omega⟩, trivial⟩ (by omega))
end
section
open PySem PySem.W PyProof.Rows
set_option Elab.async false
set_option maxRecDepth 100000
set_option maxHeartbeats 8000000
set_option pp.deepTerms false
set_option pp.deepTerms.threshold 3
set_option pp.proofs false
theorem walk_anew_22 : True := by w_top off; trivial
--NOZS
theorem body1_4 {w : World} {p : Program} {loose : List Str} {mean : ExcName → Option Value} {mg mb : Str → Option Value} :
    ∀ {dp un : Nat} {a' : Addr} {ccd : Value} {A₀ : Around} {base h₀ : Heap} {L : Addr} {m : Str → Option Value} {s : Shared} {Q : Flow → Shared → Prop} {o1 o2 o3 o4 : Obj} {I WL R dA : Addr} {oI oW oA : Obj} {x : Array Value} {nR : Nat} {a b c d sp pl : Int} {v0 v1 v2 v3 tsp tpl tO tw : Tok},
    Below A₀ base [] h₀ → Fr h₀ L s.heap m → (hd.heap_39 w.params).In h₀ → News h₀ L s.heap ((R, W.listOf #[.int a v0, .int b v1, .int c v2, .int d v3] nR) :: (I, oI) :: (WL, oW) :: (95, tabObj x) :: (dA, oA) :: [(L + 1 + 3, o1), (L + 1 + 2, o2), (L + 1 + 1, o3), (L + 1, o4)]) → Top p loose mean mg mb h₀ → @LT.lt Nat _ 95 L → dp + 120 < recursionLimit → un + 1200 < cLine →
    m (Str.ofString "row") = some (.ref R) → m (Str.ofString "away") = some (.ref dA) → m (Str.ofString "width") = some (.int 4 tw) → m (Str.ofString "octets") = some (.bytes #[a.toNat.toUInt8, b.toNat.toUInt8, c.toNat.toUInt8, d.toNat.toUInt8] tO) → (hI : @LT.lt Nat _ (L + 1 + 3) I) → (hW : @LT.lt Nat _ (L + 1 + 3) WL) → (hWI : @LT.lt Nat _ WL I) → (hA : @LT.lt Nat _ (L + 1 + 3) dA) → (hAI : @LT.lt Nat _ dA I) → (hoff : Offs [R] L) → (hRI : @Ne Nat R I) → (ha0 : 0 ≤ a) → (ha1 : a ≤ 255) → (hb0 : 0 ≤ b) → (hb1 : b ≤ 255) → (hc0 : 0 ≤ c) → (hc1 : c ≤ 255) → (hd0 : 0 ≤ d) → (hd1 : d ≤ 255) → (e2 : o2.data = .cell (some (.int pl tpl))) → (e3 : o3.data = .cell (some (.int sp tsp))) → (s0 : 0 ≤ sp) → (s1 : sp ≤ 65025) → (q0 : -10000000 ≤ pl) → (q1 : pl ≤ 10000000) → 
    (hret : ∀ {R' : Addr} {tO' : Tok} {h' : Heap} {tk' : Nat} {m' : Str → Option Value}, Fr h₀ L h' m' → m' (Str.ofString "row") = some (.ref R') → m' (Str.ofString "away") = some (.ref dA) → m' (Str.ofString "width") = some (.int 4 tw) → m' (Str.ofString "octets") = some (.bytes #[d.toNat.toUInt8, c.toNat.toUInt8, b.toNat.toUInt8, a.toNat.toUInt8] tO') →
      News h₀ L h' ((R', W.listOf #[.int d v3, .int c v2, .int b v1, .int a v0] 0) :: (I, oI) :: (WL, oW) :: (95, tabObj x) :: (dA, oA) :: [(L + 1 + 3, o1), (L + 1 + 2, o2), (L + 1 + 1, o3), (L + 1, o4)]) → Offs [R'] L → @Ne Nat R' I → wpS (model PySem.Challenge.rw_zo0001_01.prog w) (lawA dp un L a' ccd) (execs (loopBody.drop 2) (lawEnv L a' ccd)) Q Nev { s with heap := h', toks := tk' }) → 
    wpS (model PySem.Challenge.rw_zo0001_01.prog w) (lawA dp un L a' ccd) (execs (loopBody.drop 0) (lawEnv L a' ccd)) Q Nev s := by
  k_fill
  intro dp un a' ccd A₀ base h₀ L m s Q o1 o2 o3 o4 I WL R dA oI oW oA x nR a b c d sp pl v0 v1 v2 v3 tsp tpl tO tw B0 F00 X0 N0 T0 h95 hdp hun hm_row hm_away hm_width hm_octets hI hW hWI hA hAI hoff hRI ha0 ha1 hb0 hb1 hc0 hc1 hd0 hd1 e2 e3 s0 s1 q0 q1 hret
  have F0 := fr_conv F00 [(Str.ofString "row", .ref R), (Str.ofString "away", .ref dA), (Str.ofString "width", .int 4 tw), (Str.ofString "octets", .bytes #[a.toNat.toUInt8, b.toNat.toUInt8, c.toNat.toUInt8, d.toNat.toUInt8] tO)] (fr_all (.cons (.cons (.cons (.cons .nil hm_octets) hm_width) hm_away) hm_row))
  clear F00
  obtain ⟨⟨hf1, hf2, hf3, hf4⟩, -⟩ := hoff
  have h72 : ∃ o fd, h₀.get? 72 = some o ∧ o.data = .func fd := by
    refine' fn72 X0 ?k
    case k => k_is
  refine sl_execs_cons (sl_Assign_Name ?_ ?hswap)
  case hswap => rfl
  refine sl_BinOp ?_
  refine sl_eval_Call (f := .ref 72) (by with_unfolding_all rfl) ?_
  iterate 1 walk1
  obtain ⟨o72, f72, g72, d72⟩ := h72
  refine ⟨rfl, sl_funE (o := o72) (fd := f72) rfl ⟨_, _, rfl⟩ ?hl ?h⟩
  case hl => with_unfolding_all exact (by decide : ¬ 2 + 2 * 0 > 30)
  case' h =>
    k_steps
    rename Fr _ _ _ _ => F8
    rename News _ _ _ _ => N8
    refine bswap4_w B0 F8 X0 N8 T0 rfl (by omega) (by omega) ?_
    intro t9 h9 tk9 F9 N9
    k_steps
    refine sl_execs_consA ?_
    k_steps
    all_goals (exact hret (by assumption) (by exact rfl) (by exact rfl) (by exact rfl) (by exact rfl) (sub_news (by assumption) (by repeat (first | exact SubL.nil | exact SubL.refl _ | refine SubL.keep ?_ | refine SubL.skip ?_))) ⟨⟨by omega, by omega, by omega, by omega⟩, trivial⟩ (by omega))
end
end
section
local macro_rules | `(tactic| walk_at "binaryOp Mult int int") => `(tactic| (k_here; (with_reducible refine Mine.gd25 ?_); k_dflt (apply Mine.mul_K; (first | assumption | exact PySem.IntMulOk.of_left (PySem.intBits_le_64 (by decide) (by decide))); k_whole); intros))
local macro_rules | `(tactic| walk_at "exec If") => `(tactic| refine wpAny_If ?_)
section
local macro_rules | `(tactic| walk_at "call type:list") => `(tactic| (k_here; (with_reducible refine Mine.gd26 ?_); k_dflt (apply Mine.lby_K; exact rfl; (iterate 2 k_asm); (iterate 4 assumption); k_whole); intros; walk_at "kl"))
section
open PySem PySem.W PyProof.Rows
set_option Elab.async false
set_option maxRecDepth 100000
set_option maxHeartbeats 8000000
set_option pp.deepTerms false
set_option pp.deepTerms.threshold 3
set_option pp.proofs false
theorem walk_anew_23 : True := by w_top off; trivial
--NOZS
theorem body2_1 {w : World} {p : Program} {loose : List Str} {mean : ExcName → Option Value} {mg mb : Str → Option Value} :
    ∀ {dp un : Nat} {a' : Addr} {ccd : Value} {A₀ : Around} {base h₀ : Heap} {L : Addr} {m : Str → Option Value} {s : Shared} {Q : Flow → Shared → Prop} {o1 o2 o3 o4 : Obj} {I WL R dA : Addr} {oI oW oA : Obj} {x : Array Value} {nR : Nat} {a b c d sp pl : Int} {v0 v1 v2 v3 tsp tpl tO tw : Tok},
    Below A₀ base [] h₀ → Fr h₀ L s.heap m → (hd.heap_39 w.params).In h₀ → News h₀ L s.heap ((R, W.listOf #[.int a v0, .int b v1, .int c v2, .int d v3] nR) :: (I, oI) :: (WL, oW) :: (95, tabObj x) :: (dA, oA) :: [(L + 1 + 3, o1), (L + 1 + 2, o2), (L + 1 + 1, o3), (L + 1, o4)]) → Top p loose mean mg mb h₀ → @LT.lt Nat _ 95 L → dp + 120 < recursionLimit → un + 1200 < cLine →
    m (Str.ofString "row") = some (.ref R) → m (Str.ofString "away") = some (.ref dA) → m (Str.ofString "width") = some (.int 1 tw) → m (Str.ofString "octets") = some (.bytes #[a.toNat.toUInt8, b.toNat.toUInt8, c.toNat.toUInt8, d.toNat.toUInt8] tO) → (hI : @LT.lt Nat _ (L + 1 + 3) I) → (hW : @LT.lt Nat _ (L + 1 + 3) WL) → (hWI : @LT.lt Nat _ WL I) → (hA : @LT.lt Nat _ (L + 1 + 3) dA) → (hAI : @LT.lt Nat _ dA I) → (hoff : Offs [R] L) → (hRI : @Ne Nat R I) → (ha0 : 0 ≤ a) → (ha1 : a ≤ 255) → (hb0 : 0 ≤ b) → (hb1 : b ≤ 255) → (hc0 : 0 ≤ c) → (hc1 : c ≤ 255) → (hd0 : 0 ≤ d) → (hd1 : d ≤ 255) → (e2 : o2.data = .cell (some (.int pl tpl))) → (e3 : o3.data = .cell (some (.int sp tsp))) → (s0 : 0 ≤ sp) → (s1 : sp ≤ 65025) → (q0 : -10000000 ≤ pl) → (q1 : pl ≤ 10000000) → 
    (hret : ∀ {h' : Heap} {tk' : Nat} {m' : Str → Option Value} {o2' : Obj} {tpl' : Tok}, Fr h₀ L h' m' → m' (Str.ofString "row") = some (.ref R) → m' (Str.ofString "away") = some (.ref dA) → m' (Str.ofString "octets") = some (.bytes #[a.toNat.toUInt8, b.toNat.toUInt8, c.toNat.toUInt8, d.toNat.toUInt8] tO) →
      News h₀ L h' ((R, W.listOf #[.int a v0, .int b v1, .int c v2, .int d v3] nR) :: (I, oI) :: (WL, oW) :: (95, tabObj x) :: (dA, oA) :: [(L + 1 + 3, o1), (L + 1 + 2, o2'), (L + 1 + 1, o3), (L + 1, o4)]) → o2'.data = .cell (some (.int (pl) tpl')) → wpS (model PySem.Challenge.rw_zo0001_01.prog w) (lawA dp un L a' ccd) (execs (loopBody.drop 5) (lawEnv L a' ccd)) Q Nev { s with heap := h', toks := tk' }) → 
    wpS (model PySem.Challenge.rw_zo0001_01.prog w) (lawA dp un L a' ccd) (execs (loopBody.drop 2) (lawEnv L a' ccd)) Q Nev s := by
  k_fill
  intro dp un a' ccd A₀ base h₀ L m s Q o1 o2 o3 o4 I WL R dA oI oW oA x nR a b c d sp pl v0 v1 v2 v3 tsp tpl tO tw B0 F00 X0 N0 T0 h95 hdp hun hm_row hm_away hm_width hm_octets hI hW hWI hA hAI hoff hRI ha0 ha1 hb0 hb1 hc0 hc1 hd0 hd1 e2 e3 s0 s1 q0 q1 hret
  have F0 := fr_conv F00 [(Str.ofString "row", .ref R), (Str.ofString "away", .ref dA), (Str.ofString "width", .int 1 tw), (Str.ofString "octets", .bytes #[a.toNat.toUInt8, b.toNat.toUInt8, c.toNat.toUInt8, d.toNat.toUInt8] tO)] (fr_all (.cons (.cons (.cons (.cons .nil hm_octets) hm_width) hm_away) hm_row))
  clear F00
  obtain ⟨⟨hf1, hf2, hf3, hf4⟩, -⟩ := hoff
  have ea : ((a.toNat.toUInt8.toNat : Nat) : Int) = a := oct_back ha0 ha1
  have eb : ((b.toNat.toUInt8.toNat : Nat) : Int) = b := oct_back hb0 hb1
  have ec : ((c.toNat.toUInt8.toNat : Nat) : Int) = c := oct_back hc0 hc1
  have ed : ((d.toNat.toUInt8.toNat : Nat) : Int) = d := oct_back hd0 hd1
  refine sl_execs_consA ?_
  k_steps
  refine sl_execs_consA ?_
  k_steps
  refine sl_execs_consA ?_
  k_steps
  all_goals (exact hret (by assumption) (by exact rfl) (by exact rfl) (by exact rfl) (sub_news (by assumption) (by repeat (first | exact SubL.nil | exact SubL.refl _ | refine SubL.keep ?_ | refine SubL.skip ?_))) (by assumption))
end
section
open PySem PySem.W PyProof.Rows
set_option Elab.async false
set_option maxRecDepth 100000
set_option maxHeartbeats 8000000
set_option pp.deepTerms false
set_option pp.deepTerms.threshold 3
set_option pp.proofs false
theorem walk_anew_24 : True := by w_top off; trivial
--NOZS
theorem body2_2 {w : World} {p : Program} {loose : List Str} {mean : ExcName → Option Value} {mg mb : Str → Option Value} :
    ∀ {dp un : Nat} {a' : Addr} {ccd : Value} {A₀ : Around} {base h₀ : Heap} {L : Addr} {m : Str → Option Value} {s : Shared} {Q : Flow → Shared → Prop} {o1 o2 o3 o4 : Obj} {I WL R dA : Addr} {oI oW oA : Obj} {x : Array Value} {nR : Nat} {a b c d sp pl : Int} {v0 v1 v2 v3 tsp tpl tO tw : Tok},
    Below A₀ base [] h₀ → Fr h₀ L s.heap m → (hd.heap_39 w.params).In h₀ → News h₀ L s.heap ((R, W.listOf #[.int a v0, .int b v1, .int c v2, .int d v3] nR) :: (I, oI) :: (WL, oW) :: (95, tabObj x) :: (dA, oA) :: [(L + 1 + 3, o1), (L + 1 + 2, o2), (L + 1 + 1, o3), (L + 1, o4)]) → Top p loose mean mg mb h₀ → @LT.lt Nat _ 95 L → dp + 120 < recursionLimit → un + 1200 < cLine →
    m (Str.ofString "row") = some (.ref R) → m (Str.ofString "away") = some (.ref dA) → m (Str.ofString "width") = some (.int 2 tw) → m (Str.ofString "octets") = some (.bytes #[a.toNat.toUInt8, b.toNat.toUInt8, c.toNat.toUInt8, d.toNat.toUInt8] tO) → (hI : @LT.lt Nat _ (L + 1 + 3) I) → (hW : @LT.lt Nat _ (L + 1 + 3) WL) → (hWI : @LT.lt Nat _ WL I) → (hA : @LT.lt Nat _ (L + 1 + 3) dA) → (hAI : @LT.lt Nat _ dA I) → (hoff : Offs [R] L) → (hRI : @Ne Nat R I) → (ha0 : 0 ≤ a) → (ha1 : a ≤ 255) → (hb0 : 0 ≤ b) → (hb1 : b ≤ 255) → (hc0 : 0 ≤ c) → (hc1 : c ≤ 255) → (hd0 : 0 ≤ d) → (hd1 : d ≤ 255) → (e2 : o2.data = .cell (some (.int pl tpl))) → (e3 : o3.data = .cell (some (.int sp tsp))) → (s0 : 0 ≤ sp) → (s1 : sp ≤ 65025) → (q0 : -10000000 ≤ pl) → (q1 : pl ≤ 10000000) → 
    (hret : ∀ {h' : Heap} {tk' : Nat} {m' : Str → Option Value} {o2' : Obj} {tpl' : Tok}, Fr h₀ L h' m' → m' (Str.ofString "row") = some (.ref R) → m' (Str.ofString "away") = some (.ref dA) → m' (Str.ofString "octets") = some (.bytes #[a.toNat.toUInt8, b.toNat.toUInt8, c.toNat.toUInt8, d.toNat.toUInt8] tO) →
      News h₀ L h' ((R, W.listOf #[.int a v0, .int b v1, .int c v2, .int d v3] nR) :: (I, oI) :: (WL, oW) :: (95, tabObj x) :: (dA, oA) :: [(L + 1 + 3, o1), (L + 1 + 2, o2'), (L + 1 + 1, o3), (L + 1, o4)]) → o2'.data = .cell (some (.int (-pl) tpl')) → wpS (model PySem.Challenge.rw_zo0001_01.prog w) (lawA dp un L a' ccd) (execs (loopBody.drop 5) (lawEnv L a' ccd)) Q Nev { s with heap := h', toks := tk' }) → 
    wpS (model PySem.Challenge.rw_zo0001_01.prog w) (lawA dp un L a' ccd) (execs (loopBody.drop 2) (lawEnv L a' ccd)) Q Nev s := by
  k_fill
  intro dp un a' ccd A₀ base h₀ L m s Q o1 o2 o3 o4 I WL R dA oI oW oA x nR a b c d sp pl v0 v1 v2 v3 tsp tpl tO tw B0 F00 X0 N0 T0 h95 hdp hun hm_row hm_away hm_width hm_octets hI hW hWI hA hAI hoff hRI ha0 ha1 hb0 hb1 hc0 hc1 hd0 hd1 e2 e3 s0 s1 q0 q1 hret
  have F0 := fr_conv F00 [(Str.ofString "row", .ref R), (Str.ofString "away", .ref dA), (Str.ofString "width", .int 2 tw), (Str.ofString "octets", .bytes #[a.toNat.toUInt8, b.toNat.toUInt8, c.toNat.toUInt8, d.toNat.toUInt8] tO)] (fr_all (.cons (.cons (.cons (.cons .nil hm_octets) hm_width) hm_away) hm_row))
  clear F00
  obtain ⟨⟨hf1, hf2, hf3, hf4⟩, -⟩ := hoff
  have ea : ((a.toNat.toUInt8.toNat : Nat) : Int) = a := oct_back ha0 ha1
  have eb : ((b.toNat.toUInt8.toNat : Nat) : Int) = b := oct_back hb0 hb1
  have ec : ((c.toNat.toUInt8.toNat : Nat) : Int) = c := oct_back hc0 hc1
  have ed : ((d.toNat.toUInt8.toNat : Nat) : Int) = d := oct_back hd0 hd1
  refine sl_execs_consA ?_
  k_steps
  refine sl_execs_consA ?_
  k_steps
  refine sl_execs_consA ?_
  k_steps
  all_goals (exact hret (by assumption) (by exact rfl) (by exact rfl) (by exact rfl) (sub_news (by assumption) (by repeat (first | exact SubL.nil | exact SubL.refl _ | refine SubL.keep ?_ | refine SubL.skip ?_))) (by assumption))
end
section
open PySem PySem.W PyProof.Rows
set_option Elab.async false
set_option maxRecDepth 100000
set_option maxHeartbeats 8000000
set_option pp.deepTerms false
set_option pp.deepTerms.threshold 3
set_option pp.proofs false
theorem walk_anew_25 : True := by w_top off; trivial
--NOZS
theorem body2_3 {w : World} {p : Program} {loose : List Str} {mean : ExcName → Option Value} {mg mb : Str → Option Value} :
    ∀ {dp un : Nat} {a' : Addr} {ccd : Value} {A₀ : Around} {base h₀ : Heap} {L : Addr} {m : Str → Option Value} {s : Shared} {Q : Flow → Shared → Prop} {o1 o2 o3 o4 : Obj} {I WL R dA : Addr} {oI oW oA : Obj} {x : Array Value} {nR : Nat} {a b c d sp pl : Int} {v0 v1 v2 v3 tsp tpl tO tw : Tok},
    Below A₀ base [] h₀ → Fr h₀ L s.heap m → (hd.heap_39 w.params).In h₀ → News h₀ L s.heap ((R, W.listOf #[.int a v0, .int b v1, .int c v2, .int d v3] nR) :: (I, oI) :: (WL, oW) :: (95, tabObj x) :: (dA, oA) :: [(L + 1 + 3, o1), (L + 1 + 2, o2), (L + 1 + 1, o3), (L + 1, o4)]) → Top p loose mean mg mb h₀ → @LT.lt Nat _ 95 L → dp + 120 < recursionLimit → un + 1200 < cLine →
    m (Str.ofString "row") = some (.ref R) → m (Str.ofString "away") = some (.ref dA) → m (Str.ofString "width") = some (.int 3 tw) → m (Str.ofString "octets") = some (.bytes #[a.toNat.toUInt8, b.toNat.toUInt8, c.toNat.toUInt8, d.toNat.toUInt8] tO) → (hI : @LT.lt Nat _ (L + 1 + 3) I) → (hW : @LT.lt Nat _ (L + 1 + 3) WL) → (hWI : @LT.lt Nat _ WL I) → (hA : @LT.lt Nat _ (L + 1 + 3) dA) → (hAI : @LT.lt Nat _ dA I) → (hoff : Offs [R] L) → (hRI : @Ne Nat R I) → (ha0 : 0 ≤ a) → (ha1 : a ≤ 255) → (hb0 : 0 ≤ b) → (hb1 : b ≤ 255) → (hc0 : 0 ≤ c) → (hc1 : c ≤ 255) → (hd0 : 0 ≤ d) → (hd1 : d ≤ 255) → (e2 : o2.data = .cell (some (.int pl tpl))) → (e3 : o3.data = .cell (some (.int sp tsp))) → (s0 : 0 ≤ sp) → (s1 : sp ≤ 65025) → (q0 : -10000000 ≤ pl) → (q1 : pl ≤ 10000000) → 
    (hret : ∀ {h' : Heap} {tk' : Nat} {m' : Str → Option Value} {o2' : Obj} {tpl' : Tok}, Fr h₀ L h' m' → m' (Str.ofString "row") = some (.ref R) → m' (Str.ofString "away") = some (.ref dA) → m' (Str.ofString "octets") = some (.bytes #[a.toNat.toUInt8, b.toNat.toUInt8, c.toNat.toUInt8, d.toNat.toUInt8] tO) →
      News h₀ L h' ((R, W.listOf #[.int a v0, .int b v1, .int c v2, .int d v3] nR) :: (I, oI) :: (WL, oW) :: (95, tabObj x) :: (dA, oA) :: [(L + 1 + 3, o1), (L + 1 + 2, o2'), (L + 1 + 1, o3), (L + 1, o4)]) → o2'.data = .cell (some (.int (4 * sp - pl) tpl')) → wpS (model PySem.Challenge.rw_zo0001_01.prog w) (lawA dp un L a' ccd) (execs (loopBody.drop 5) (lawEnv L a' ccd)) Q Nev { s with heap := h', toks := tk' }) → 
    wpS (model PySem.Challenge.rw_zo0001_01.prog w) (lawA dp un L a' ccd) (execs (loopBody.drop 2) (lawEnv L a' ccd)) Q Nev s := by
  k_fill
  intro dp un a' ccd A₀ base h₀ L m s Q o1 o2 o3 o4 I WL R dA oI oW oA x nR a b c d sp pl v0 v1 v2 v3 tsp tpl tO tw B0 F00 X0 N0 T0 h95 hdp hun hm_row hm_away hm_width hm_octets hI hW hWI hA hAI hoff hRI ha0 ha1 hb0 hb1 hc0 hc1 hd0 hd1 e2 e3 s0 s1 q0 q1 hret
  have F0 := fr_conv F00 [(Str.ofString "row", .ref R), (Str.ofString "away", .ref dA), (Str.ofString "width", .int 3 tw), (Str.ofString "octets", .bytes #[a.toNat.toUInt8, b.toNat.toUInt8, c.toNat.toUInt8, d.toNat.toUInt8] tO)] (fr_all (.cons (.cons (.cons (.cons .nil hm_octets) hm_width) hm_away) hm_row))
  clear F00
  obtain ⟨⟨hf1, hf2, hf3, hf4⟩, -⟩ := hoff
  have ea : ((a.toNat.toUInt8.toNat : Nat) : Int) = a := oct_back ha0 ha1
  have eb : ((b.toNat.toUInt8.toNat : Nat) : Int) = b := oct_back hb0 hb1
  have ec : ((c.toNat.toUInt8.toNat : Nat) : Int) = c := oct_back hc0 hc1
  have ed : ((d.toNat.toUInt8.toNat : Nat) : Int) = d := oct_back hd0 hd1
  refine sl_execs_consA ?_
  k_steps
  refine sl_execs_consA ?_
  k_steps
  refine sl_execs_consA ?_
  k_steps
  all_goals (exact hret (by assumption) (by exact rfl) (by exact rfl) (by exact rfl) (sub_news (by assumption) (by repeat (first | exact SubL.nil | exact SubL.refl _ | refine SubL.keep ?_ | refine SubL.skip ?_))) (by assumption))
end
section
open PySem PySem.W PyProof.Rows
set_option Elab.async false
set_option maxRecDepth 100000
set_option maxHeartbeats 8000000
set_option pp.deepTerms false
set_option pp.deepTerms.threshold 3
set_option pp.proofs false
theorem walk_anew_26 : True := by w_top off; trivial
--NOZS
theorem body2_4 {w : World} {p : Program} {loose : List Str} {mean : ExcName → Option Value} {mg mb : Str → Option Value} :
    ∀ {dp un : Nat} {a' : Addr} {ccd : Value} {A₀ : Around} {base h₀ : Heap} {L : Addr} {m : Str → Option Value} {s : Shared} {Q : Flow → Shared → Prop} {o1 o2 o3 o4 : Obj} {I WL R dA : Addr} {oI oW oA : Obj} {x : Array Value} {nR : Nat} {a b c d sp pl : Int} {v0 v1 v2 v3 tsp tpl tO tw : Tok},
    Below A₀ base [] h₀ → Fr h₀ L s.heap m → (hd.heap_39 w.params).In h₀ → News h₀ L s.heap ((R, W.listOf #[.int a v0, .int b v1, .int c v2, .int d v3] nR) :: (I, oI) :: (WL, oW) :: (95, tabObj x) :: (dA, oA) :: [(L + 1 + 3, o1), (L + 1 + 2, o2), (L + 1 + 1, o3), (L + 1, o4)]) → Top p loose mean mg mb h₀ → @LT.lt Nat _ 95 L → dp + 120 < recursionLimit → un + 1200 < cLine →
    m (Str.ofString "row") = some (.ref R) → m (Str.ofString "away") = some (.ref dA) → m (Str.ofString "width") = some (.int 4 tw) → m (Str.ofString "octets") = some (.bytes #[a.toNat.toUInt8, b.toNat.toUInt8, c.toNat.toUInt8, d.toNat.toUInt8] tO) → (hI : @LT.lt Nat _ (L + 1 + 3) I) → (hW : @LT.lt Nat _ (L + 1 + 3) WL) → (hWI : @LT.lt Nat _ WL I) → (hA : @LT.lt Nat _ (L + 1 + 3) dA) → (hAI : @LT.lt Nat _ dA I) → (hoff : Offs [R] L) → (hRI : @Ne Nat R I) → (ha0 : 0 ≤ a) → (ha1 : a ≤ 255) → (hb0 : 0 ≤ b) → (hb1 : b ≤ 255) → (hc0 : 0 ≤ c) → (hc1 : c ≤ 255) → (hd0 : 0 ≤ d) → (hd1 : d ≤ 255) → (e2 : o2.data = .cell (some (.int pl tpl))) → (e3 : o3.data = .cell (some (.int sp tsp))) → (s0 : 0 ≤ sp) → (s1 : sp ≤ 65025) → (q0 : -10000000 ≤ pl) → (q1 : pl ≤ 10000000) → 
    (hret : ∀ {h' : Heap} {tk' : Nat} {m' : Str → Option Value} {o2' : Obj} {tpl' : Tok}, Fr h₀ L h' m' → m' (Str.ofString "row") = some (.ref R) → m' (Str.ofString "away") = some (.ref dA) → m' (Str.ofString "octets") = some (.bytes #[a.toNat.toUInt8, b.toNat.toUInt8, c.toNat.toUInt8, d.toNat.toUInt8] tO) →
      News h₀ L h' ((R, W.listOf #[.int a v0, .int b v1, .int c v2, .int d v3] nR) :: (I, oI) :: (WL, oW) :: (95, tabObj x) :: (dA, oA) :: [(L + 1 + 3, o1), (L + 1 + 2, o2'), (L + 1 + 1, o3), (L + 1, o4)]) → o2'.data = .cell (some (.int (pl) tpl')) → wpS (model PySem.Challenge.rw_zo0001_01.prog w) (lawA dp un L a' ccd) (execs (loopBody.drop 5) (lawEnv L a' ccd)) Q Nev { s with heap := h', toks := tk' }) → 
    wpS (model PySem.Challenge.rw_zo0001_01.prog w) (lawA dp un L a' ccd) (execs (loopBody.drop 2) (lawEnv L a' ccd)) Q Nev s := by
  k_fill
  intro dp un a' ccd A₀ base h₀ L m s Q o1 o2 o3 o4 I WL R dA oI oW oA x nR a b c d sp pl v0 v1 v2 v3 tsp tpl tO tw B0 F00 X0 N0 T0 h95 hdp hun hm_row hm_away hm_width hm_octets hI hW hWI hA hAI hoff hRI ha0 ha1 hb0 hb1 hc0 hc1 hd0 hd1 e2 e3 s0 s1 q0 q1 hret
  have F0 := fr_conv F00 [(Str.ofString "row", .ref R), (Str.ofString "away", .ref dA), (Str.ofString "width", .int 4 tw), (Str.ofString "octets", .bytes #[a.toNat.toUInt8, b.toNat.toUInt8, c.toNat.toUInt8, d.toNat.toUInt8] tO)] (fr_all (.cons (.cons (.cons (.cons .nil hm_octets) hm_width) hm_away) hm_row))
  clear F00
  obtain ⟨⟨hf1, hf2, hf3, hf4⟩, -⟩ := hoff
  have ea : ((a.toNat.toUInt8.toNat : Nat) : Int) = a := oct_back ha0 ha1
  have eb : ((b.toNat.toUInt8.toNat : Nat) : Int) = b := oct_back hb0 hb1
  have ec : ((c.toNat.toUInt8.toNat : Nat) : Int) = c := oct_back hc0 hc1
  have ed : ((d.toNat.toUInt8.toNat : Nat) : Int) = d := oct_back hd0 hd1
  refine sl_execs_consA ?_
  k_steps
  refine sl_execs_consA ?_
  k_steps
  refine sl_execs_consA ?_
  k_steps
  all_goals (exact hret (by assumption) (by exact rfl) (by exact rfl) (by exact rfl) (sub_news (by assumption) (by repeat (first | exact SubL.nil | exact SubL.refl _ | refine SubL.keep ?_ | refine SubL.skip ?_))) (by assumption))
end
end
section
open PySem PySem.W PyProof.Rows
set_option Elab.async false
set_option maxRecDepth 100000
set_option maxHeartbeats 8000000
set_option pp.deepTerms false
set_option pp.deepTerms.threshold 3
set_option pp.proofs false
theorem walk_anew_27 : True := by w_top off; trivial
--NOZS
local macro_rules | `(tactic| walk_at "call ref") => `(tactic| (k_here; (with_reducible refine Mine.gd27 ?_); k_dflt (apply Mine.mixed_w; (iterate 8 walk_at "kx"); (iterate 8 (first | assumption | omega)); k_whole); intro D9 t19 t29 t39 h9 tk9 l9 F9 N9; (try k_lt l9); walk_at "kt"))
local macro_rules | `(tactic| walk_at "call ref") => `(tactic| (k_here; (with_reducible refine Mine.gd28 ?_); k_dflt (apply Mine.seen_w; (iterate 8 walk_at "kx"); (iterate 14 (first | assumption | decide | l_fact)); (iterate 3 assumption); k_whole); intros; walk_at "kt"))
theorem body3 {w : World} {p : Program} {loose : List Str} {mean : ExcName → Option Value} {mg mb : Str → Option Value} :
    ∀ {dp un : Nat} {a' : Addr} {ccd : Value} {A₀ : Around} {base h₀ : Heap} {L : Addr} {m : Str → Option Value} {s : Shared} {Q : Flow → Shared → Prop} {o1 o2 o3 o4 : Obj} {I WL R dA : Addr} {oI oW oA : Obj} {x : Array Value} {nR : Nat} {a b c d sp pl : Int} {v0 v1 v2 v3 tsp tpl tO : Tok},
    Below A₀ base [] h₀ → Fr h₀ L s.heap m → (hd.heap_39 w.params).In h₀ → News h₀ L s.heap ((R, W.listOf #[.int a v0, .int b v1, .int c v2, .int d v3] nR) :: (I, oI) :: (WL, oW) :: (95, tabObj x) :: (dA, oA) :: [(L + 1 + 3, o1), (L + 1 + 2, o2), (L + 1 + 1, o3), (L + 1, o4)]) → Top p loose mean mg mb h₀ → @LT.lt Nat _ 95 L → dp + 120 < recursionLimit → un + 1200 < cLine →
    m (Str.ofString "row") = some (.ref R) → m (Str.ofString "away") = some (.ref dA) → m (Str.ofString "octets") = some (.bytes #[a.toNat.toUInt8, b.toNat.toUInt8, c.toNat.toUInt8, d.toNat.toUInt8] tO) → (hI : @LT.lt Nat _ (L + 1 + 3) I) → (hW : @LT.lt Nat _ (L + 1 + 3) WL) → (hWI : @LT.lt Nat _ WL I) → (hA : @LT.lt Nat _ (L + 1 + 3) dA) → (hAI : @LT.lt Nat _ dA I) → (hoff : Offs [R] L) → (hRI : @Ne Nat R I) → (ha0 : 0 ≤ a) → (ha1 : a ≤ 255) → (hb0 : 0 ≤ b) → (hb1 : b ≤ 255) → (hc0 : 0 ≤ c) → (hc1 : c ≤ 255) → (hd0 : 0 ≤ d) → (hd1 : d ≤ 255) → (e2 : o2.data = .cell (some (.int pl tpl))) → (e3 : o3.data = .cell (some (.int sp tsp))) → (s0 : 0 ≤ sp) → (s1 : sp ≤ 65025) → (q0 : -10000000 ≤ pl) → (q1 : pl ≤ 10000000) → (x0 : 0 ≤ (a * b + c * d)) → (x1 : (a * b + c * d) ≤ 2 ^ 38) → (y0 : 0 ≤ (a * c + b * d)) → (y1 : (a * c + b * d) ≤ 2 ^ 38) → (z0 : 0 ≤ (a * d + b * c)) → (z1 : (a * d + b * c) ≤ 2 ^ 38) → (hNB : NoneBooked base) → (hk : HlsOk (quo (a * b + c * d) 262144) (quo (a * c + b * d) 262144) (quo (a * d + b * c) 262144)) → (hs : ∀ {hh ll ss : UInt64}, HlsIs (quo (a * b + c * d) 262144) (quo (a * c + b * d) 262144) (quo (a * d + b * c) 262144) hh ll ss → SeenF (a * b + c * d) (a * c + b * d) (a * d + b * c) 262144 1 sp pl hh ll ss) → 
    (hret : ∀ {h' : Heap} {tk' : Nat} {m' : Str → Option Value} {u0 u1 u2 u3 : Tok}, Fr h₀ L h' m' → m' (Str.ofString "a") = some (.int a u0) → m' (Str.ofString "b") = some (.int b u1) → m' (Str.ofString "c") = some (.int c u2) → m' (Str.ofString "d") = some (.int d u3) → m' (Str.ofString "row") = some (.ref R) → m' (Str.ofString "away") = some (.ref dA) → m' (Str.ofString "octets") = some (.bytes #[a.toNat.toUInt8, b.toNat.toUInt8, c.toNat.toUInt8, d.toNat.toUInt8] tO) →
      News h₀ L h' ((R, W.listOf #[.int a v0, .int b v1, .int c v2, .int d v3] nR) :: (I, oI) :: (WL, oW) :: (95, tabObj x) :: (dA, oA) :: [(L + 1 + 3, o1), (L + 1 + 2, o2), (L + 1 + 1, o3), (L + 1, o4)]) → wpS (model PySem.Challenge.rw_zo0001_01.prog w) (lawA dp un L a' ccd) (execs (loopBody.drop 7) (lawEnv L a' ccd)) Q Nev { s with heap := h', toks := tk' }) → 
    wpS (model PySem.Challenge.rw_zo0001_01.prog w) (lawA dp un L a' ccd) (execs (loopBody.drop 5) (lawEnv L a' ccd)) Q Nev s := by
  k_fill
  intro dp un a' ccd A₀ base h₀ L m s Q o1 o2 o3 o4 I WL R dA oI oW oA x nR a b c d sp pl v0 v1 v2 v3 tsp tpl tO B0 F00 X0 N0 T0 h95 hdp hun hm_row hm_away hm_octets hI hW hWI hA hAI hoff hRI ha0 ha1 hb0 hb1 hc0 hc1 hd0 hd1 e2 e3 s0 s1 q0 q1 x0 x1 y0 y1 z0 z1 hNB hk hs hret
  have F0 := fr_conv F00 [(Str.ofString "row", .ref R), (Str.ofString "away", .ref dA), (Str.ofString "octets", .bytes #[a.toNat.toUInt8, b.toNat.toUInt8, c.toNat.toUInt8, d.toNat.toUInt8] tO)] (fr_all (.cons (.cons (.cons .nil hm_octets) hm_away) hm_row))
  clear F00
  obtain ⟨⟨hf1, hf2, hf3, hf4⟩, -⟩ := hoff
  refine sl_execs_consA ?_
  k_steps
  refine sl_execs_consA ?_
  k_steps
  all_goals (exact hret (by assumption) (by exact rfl) (by exact rfl) (by exact rfl) (by exact rfl) (by exact rfl) (by exact rfl) (by exact rfl) (sub_news (by assumption) (by repeat (first | exact SubL.nil | exact SubL.refl _ | refine SubL.keep ?_ | refine SubL.skip ?_))))
end
section
open PySem PySem.W PyProof.Rows
set_option Elab.async false
set_option maxRecDepth 100000
set_option maxHeartbeats 8000000
set_option pp.deepTerms false
set_option pp.deepTerms.threshold 3
set_option pp.proofs false
theorem walk_anew_28 : True := by w_top off; trivial
--NOZS
local macro_rules | `(tactic| walk_at "call ref") => `(tactic| (k_here; (with_reducible refine Mine.gd27 ?_); k_dflt (apply Mine.mixed_w; (iterate 8 walk_at "kx"); (iterate 8 (first | assumption | omega)); k_whole); intro D9 t19 t29 t39 h9 tk9 l9 F9 N9; (try k_lt l9); walk_at "kt"))
local macro_rules | `(tactic| walk_at "call ref") => `(tactic| (k_here; (with_reducible refine Mine.gd28 ?_); k_dflt (apply Mine.seen_w; (iterate 8 walk_at "kx"); (iterate 14 (first | assumption | decide | l_fact)); (iterate 3 assumption); k_whole); intros; walk_at "kt"))
local macro_rules | `(tactic| walk_at "subscriptTail") => `(tactic| (k_here; (with_reducible refine Mine.gd14 ?_); k_dflt (apply Mine.away_K; k_asm; k_mem; (iterate 2 assumption); k_whole); intros))
local macro_rules | `(tactic| walk_at "call builtin:min") => `(tactic| (k_here; (with_reducible refine Mine.gd29 ?_); k_dflt (apply Mine.min3_K; exact rfl; (iterate 2 k_asm); k_mem; k_whole); intros))
local macro_rules | `(tactic| walk_at "eval ListComp") => `(tactic| (k_here; lcg_calm; k_dflt (refine LCg.ListComp_U (F₀ := by k_asm) (by with_unfolding_all rfl) (by decide) (by rfl) (by decide) (by rfl) ?_); k_dflt lcg_toSrc))
local macro_rules | `(tactic| walk_at "CompSrc") => `(tactic| (k_here; k_dflt (refine LCg.CompSrc.ledger (by rfl) (by k_asm) (by k_asm) (by k_mem) (by first | size_fits | exact Nat.le_of_ble_eq_true rfl) ?_; intros; lcg_lit)))
theorem body4 {w : World} {p : Program} {loose : List Str} {mean : ExcName → Option Value} {mg mb : Str → Option Value} :
    ∀ {dp un : Nat} {a' : Addr} {ccd : Value} {A₀ : Around} {base h₀ : Heap} {L : Addr} {m : Str → Option Value} {s : Shared} {Q : Flow → Shared → Prop} {o1 o2 o3 o4 : Obj} {I WL R dA : Addr} {oI oW oA : Obj} {x : Array Value} {nR : Nat} {a b c d n sp pl : Int} {as : List Int} {vf : Option Value} {v0 v1 v2 v3 tsp tpl tO u0 u1 u2 u3 : Tok},
    Below A₀ base [] h₀ → Fr h₀ L s.heap m → (hd.heap_39 w.params).In h₀ → News h₀ L s.heap ((R, W.listOf #[.int a v0, .int b v1, .int c v2, .int d v3] nR) :: (I, oI) :: (WL, oW) :: (95, tabObj x) :: (dA, oA) :: [(L + 1 + 3, o1), (L + 1 + 2, o2), (L + 1 + 1, o3), (L + 1, o4)]) → Top p loose mean mg mb h₀ → @LT.lt Nat _ 95 L → dp + 120 < recursionLimit → un + 1200 < cLine →
    m (Str.ofString "row") = some (.ref R) → m (Str.ofString "away") = some (.ref dA) → m (Str.ofString "octets") = some (.bytes #[a.toNat.toUInt8, b.toNat.toUInt8, c.toNat.toUInt8, d.toNat.toUInt8] tO) → m (Str.ofString "a") = some (.int a u0) → m (Str.ofString "b") = some (.int b u1) → m (Str.ofString "c") = some (.int c u2) → m (Str.ofString "d") = some (.int d u3) → (hI : @LT.lt Nat _ (L + 1 + 3) I) → (hW : @LT.lt Nat _ (L + 1 + 3) WL) → (hWI : @LT.lt Nat _ WL I) → (hA : @LT.lt Nat _ (L + 1 + 3) dA) → (hAI : @LT.lt Nat _ dA I) → (hoff : Offs [R] L) → (hRI : @Ne Nat R I) → (ha0 : 0 ≤ a) → (ha1 : a ≤ 255) → (hb0 : 0 ≤ b) → (hb1 : b ≤ 255) → (hc0 : 0 ≤ c) → (hc1 : c ≤ 255) → (hd0 : 0 ≤ d) → (hd1 : d ≤ 255) → (e1 : o1.data = .cell vf) → (e2 : o2.data = .cell (some (.int pl tpl))) → (e3 : o3.data = .cell (some (.int sp tsp))) → (s0 : 0 ≤ sp) → (s1 : sp ≤ 65025) → (q0 : -10000000 ≤ pl) → (q1 : pl ≤ 10000000) → (n0 : 0 ≤ n) → (n1 : n ≤ 255) → (hw : AwayO oA as (fun k => 900 * (k - n))) → (ma : a ∈ as) → (mb : b ∈ as) → (mc : c ∈ as) → (md : d ∈ as) → (fx0 : 0 ≤ (((900 * (a - n)) * (900 * (b - n)) + (900 * (c - n)) * (900 * (d - n))) - mn3 ((900 * (a - n)) * (900 * (b - n)) + (900 * (c - n)) * (900 * (d - n))) ((900 * (a - n)) * (900 * (c - n)) + (900 * (b - n)) * (900 * (d - n))) ((900 * (a - n)) * (900 * (d - n)) + (900 * (b - n)) * (900 * (c - n))))) → (fy0 : (((900 * (a - n)) * (900 * (b - n)) + (900 * (c - n)) * (900 * (d - n))) - mn3 ((900 * (a - n)) * (900 * (b - n)) + (900 * (c - n)) * (900 * (d - n))) ((900 * (a - n)) * (900 * (c - n)) + (900 * (b - n)) * (900 * (d - n))) ((900 * (a - n)) * (900 * (d - n)) + (900 * (b - n)) * (900 * (c - n)))) ≤ 2 ^ 38) → (fx1 : 0 ≤ (((900 * (a - n)) * (900 * (c - n)) + (900 * (b - n)) * (900 * (d - n))) - mn3 ((900 * (a - n)) * (900 * (b - n)) + (900 * (c - n)) * (900 * (d - n))) ((900 * (a - n)) * (900 * (c - n)) + (900 * (b - n)) * (900 * (d - n))) ((900 * (a - n)) * (900 * (d - n)) + (900 * (b - n)) * (900 * (c - n))))) → (fy1 : (((900 * (a - n)) * (900 * (c - n)) + (900 * (b - n)) * (900 * (d - n))) - mn3 ((900 * (a - n)) * (900 * (b - n)) + (900 * (c - n)) * (900 * (d - n))) ((900 * (a - n)) * (900 * (c - n)) + (900 * (b - n)) * (900 * (d - n))) ((900 * (a - n)) * (900 * (d - n)) + (900 * (b - n)) * (900 * (c - n)))) ≤ 2 ^ 38) → (fx2 : 0 ≤ (((900 * (a - n)) * (900 * (d - n)) + (900 * (b - n)) * (900 * (c - n))) - mn3 ((900 * (a - n)) * (900 * (b - n)) + (900 * (c - n)) * (900 * (d - n))) ((900 * (a - n)) * (900 * (c - n)) + (900 * (b - n)) * (900 * (d - n))) ((900 * (a - n)) * (900 * (d - n)) + (900 * (b - n)) * (900 * (c - n))))) → (fy2 : (((900 * (a - n)) * (900 * (d - n)) + (900 * (b - n)) * (900 * (c - n))) - mn3 ((900 * (a - n)) * (900 * (b - n)) + (900 * (c - n)) * (900 * (d - n))) ((900 * (a - n)) * (900 * (c - n)) + (900 * (b - n)) * (900 * (d - n))) ((900 * (a - n)) * (900 * (d - n)) + (900 * (b - n)) * (900 * (c - n)))) ≤ 2 ^ 38) → (hNB : NoneBooked base) → (hk : HlsOk (quo (((900 * (a - n)) * (900 * (b - n)) + (900 * (c - n)) * (900 * (d - n))) - mn3 ((900 * (a - n)) * (900 * (b - n)) + (900 * (c - n)) * (900 * (d - n))) ((900 * (a - n)) * (900 * (c - n)) + (900 * (b - n)) * (900 * (d - n))) ((900 * (a - n)) * (900 * (d - n)) + (900 * (b - n)) * (900 * (c - n)))) 137438953472) (quo (((900 * (a - n)) * (900 * (c - n)) + (900 * (b - n)) * (900 * (d - n))) - mn3 ((900 * (a - n)) * (900 * (b - n)) + (900 * (c - n)) * (900 * (d - n))) ((900 * (a - n)) * (900 * (c - n)) + (900 * (b - n)) * (900 * (d - n))) ((900 * (a - n)) * (900 * (d - n)) + (900 * (b - n)) * (900 * (c - n)))) 137438953472) (quo (((900 * (a - n)) * (900 * (d - n)) + (900 * (b - n)) * (900 * (c - n))) - mn3 ((900 * (a - n)) * (900 * (b - n)) + (900 * (c - n)) * (900 * (d - n))) ((900 * (a - n)) * (900 * (c - n)) + (900 * (b - n)) * (900 * (d - n))) ((900 * (a - n)) * (900 * (d - n)) + (900 * (b - n)) * (900 * (c - n)))) 137438953472)) → (hs : ∀ {hh ll ss : UInt64}, HlsIs (quo (((900 * (a - n)) * (900 * (b - n)) + (900 * (c - n)) * (900 * (d - n))) - mn3 ((900 * (a - n)) * (900 * (b - n)) + (900 * (c - n)) * (900 * (d - n))) ((900 * (a - n)) * (900 * (c - n)) + (900 * (b - n)) * (900 * (d - n))) ((900 * (a - n)) * (900 * (d - n)) + (900 * (b - n)) * (900 * (c - n)))) 137438953472) (quo (((900 * (a - n)) * (900 * (c - n)) + (900 * (b - n)) * (900 * (d - n))) - mn3 ((900 * (a - n)) * (900 * (b - n)) + (900 * (c - n)) * (900 * (d - n))) ((900 * (a - n)) * (900 * (c - n)) + (900 * (b - n)) * (900 * (d - n))) ((900 * (a - n)) * (900 * (d - n)) + (900 * (b - n)) * (900 * (c - n)))) 137438953472) (quo (((900 * (a - n)) * (900 * (d - n)) + (900 * (b - n)) * (900 * (c - n))) - mn3 ((900 * (a - n)) * (900 * (b - n)) + (900 * (c - n)) * (900 * (d - n))) ((900 * (a - n)) * (900 * (c - n)) + (900 * (b - n)) * (900 * (d - n))) ((900 * (a - n)) * (900 * (d - n)) + (900 * (b - n)) * (900 * (c - n)))) 137438953472) hh ll ss → SeenF (((900 * (a - n)) * (900 * (b - n)) + (900 * (c - n)) * (900 * (d - n))) - mn3 ((900 * (a - n)) * (900 * (b - n)) + (900 * (c - n)) * (900 * (d - n))) ((900 * (a - n)) * (900 * (c - n)) + (900 * (b - n)) * (900 * (d - n))) ((900 * (a - n)) * (900 * (d - n)) + (900 * (b - n)) * (900 * (c - n)))) (((900 * (a - n)) * (900 * (c - n)) + (900 * (b - n)) * (900 * (d - n))) - mn3 ((900 * (a - n)) * (900 * (b - n)) + (900 * (c - n)) * (900 * (d - n))) ((900 * (a - n)) * (900 * (c - n)) + (900 * (b - n)) * (900 * (d - n))) ((900 * (a - n)) * (900 * (d - n)) + (900 * (b - n)) * (900 * (c - n)))) (((900 * (a - n)) * (900 * (d - n)) + (900 * (b - n)) * (900 * (c - n))) - mn3 ((900 * (a - n)) * (900 * (b - n)) + (900 * (c - n)) * (900 * (d - n))) ((900 * (a - n)) * (900 * (c - n)) + (900 * (b - n)) * (900 * (d - n))) ((900 * (a - n)) * (900 * (d - n)) + (900 * (b - n)) * (900 * (c - n)))) 137438953472 810000 sp pl hh ll ss) → 
    (hret : ∀ {h' : Heap} {tk' : Nat} {m' : Str → Option Value} {o1' : Obj} {vf' : Option Value}, Fr h₀ L h' m' → m' (Str.ofString "row") = some (.ref R) → m' (Str.ofString "away") = some (.ref dA) → m' (Str.ofString "octets") = some (.bytes #[a.toNat.toUInt8, b.toNat.toUInt8, c.toNat.toUInt8, d.toNat.toUInt8] tO) →
      News h₀ L h' ((R, W.listOf #[.int a v0, .int b v1, .int c v2, .int d v3] nR) :: (I, oI) :: (WL, oW) :: (95, tabObj x) :: (dA, oA) :: [(L + 1 + 3, o1'), (L + 1 + 2, o2), (L + 1 + 1, o3), (L + 1, o4)]) → o1'.data = .cell vf' → wpS (model PySem.Challenge.rw_zo0001_01.prog w) (lawA dp un L a' ccd) (execs (loopBody.drop 9) (lawEnv L a' ccd)) Q Nev { s with heap := h', toks := tk' }) → 
    wpS (model PySem.Challenge.rw_zo0001_01.prog w) (lawA dp un L a' ccd) (execs (loopBody.drop 7) (lawEnv L a' ccd)) Q Nev s := by
  k_fill
  intro dp un a' ccd A₀ base h₀ L m s Q o1 o2 o3 o4 I WL R dA oI oW oA x nR a b c d n sp pl as vf v0 v1 v2 v3 tsp tpl tO u0 u1 u2 u3 B0 F00 X0 N0 T0 h95 hdp hun hm_row hm_away hm_octets hm_a hm_b hm_c hm_d hI hW hWI hA hAI hoff hRI ha0 ha1 hb0 hb1 hc0 hc1 hd0 hd1 e1 e2 e3 s0 s1 q0 q1 n0 n1 hw ma mb mc md fx0 fy0 fx1 fy1 fx2 fy2 hNB hk hs hret
  have F0 := fr_conv F00 [(Str.ofString "row", .ref R), (Str.ofString "away", .ref dA), (Str.ofString "octets", .bytes #[a.toNat.toUInt8, b.toNat.toUInt8, c.toNat.toUInt8, d.toNat.toUInt8] tO), (Str.ofString "a", .int a u0), (Str.ofString "b", .int b u1), (Str.ofString "c", .int c u2), (Str.ofString "d", .int d u3)] (fr_all (.cons (.cons (.cons (.cons (.cons (.cons (.cons .nil hm_d) hm_c) hm_b) hm_a) hm_octets) hm_away) hm_row))
  clear F00
  obtain ⟨⟨hf1, hf2, hf3, hf4⟩, -⟩ := hoff
  refine sl_execs_consA ?_
  k_steps
  refine sl_execs_consA ?_
  k_steps
  all_goals (exact hret (by assumption) (by exact rfl) (by exact rfl) (by exact rfl) (sub_news (by assumption) (by repeat (first | exact SubL.nil | exact SubL.refl _ | refine SubL.keep ?_ | refine SubL.skip ?_))) (by assumption))
end
section
open PySem PySem.W PyProof.Rows
set_option Elab.async false
set_option maxRecDepth 100000
set_option maxHeartbeats 8000000
set_option pp.deepTerms false
set_option pp.deepTerms.threshold 3
set_option pp.proofs false
theorem walk_anew_29 : True := by w_top off; trivial
--NOZS
local macro_rules | `(tactic| walk_at "call ref") => `(tactic| (k_here; (with_reducible refine Mine.gd16 ?_); k_dflt (apply Mine.face_w; (iterate 8 walk_at "kx"); (iterate 2 (first | assumption | l_fact)); k_whole); intros; have hfc9 := Mine.faceS_len; walk_at "kt"))
theorem body5 {w : World} {p : Program} {loose : List Str} {mean : ExcName → Option Value} {mg mb : Str → Option Value} :
    ∀ {dp un : Nat} {a' : Addr} {ccd : Value} {A₀ : Around} {base h₀ : Heap} {L : Addr} {m : Str → Option Value} {s : Shared} {Q : Flow → Shared → Prop} {o1 o2 o3 o4 : Obj} {I WL R dA : Addr} {oI oW oA : Obj} {x : Array Value} {nR : Nat} {a b c d sp pl : Int} {v0 v1 v2 v3 tsp tpl tO : Tok},
    Below A₀ base [] h₀ → Fr h₀ L s.heap m → (hd.heap_39 w.params).In h₀ → News h₀ L s.heap ((R, W.listOf #[.int a v0, .int b v1, .int c v2, .int d v3] nR) :: (I, oI) :: (WL, oW) :: (95, tabObj x) :: (dA, oA) :: [(L + 1 + 3, o1), (L + 1 + 2, o2), (L + 1 + 1, o3), (L + 1, o4)]) → Top p loose mean mg mb h₀ → @LT.lt Nat _ 95 L → dp + 120 < recursionLimit → un + 1200 < cLine →
    m (Str.ofString "row") = some (.ref R) → m (Str.ofString "away") = some (.ref dA) → m (Str.ofString "octets") = some (.bytes #[a.toNat.toUInt8, b.toNat.toUInt8, c.toNat.toUInt8, d.toNat.toUInt8] tO) → (hI : @LT.lt Nat _ (L + 1 + 3) I) → (hW : @LT.lt Nat _ (L + 1 + 3) WL) → (hWI : @LT.lt Nat _ WL I) → (hA : @LT.lt Nat _ (L + 1 + 3) dA) → (hAI : @LT.lt Nat _ dA I) → (hoff : Offs [R] L) → (hRI : @Ne Nat R I) → (ha0 : 0 ≤ a) → (ha1 : a ≤ 255) → (hb0 : 0 ≤ b) → (hb1 : b ≤ 255) → (hc0 : 0 ≤ c) → (hc1 : c ≤ 255) → (hd0 : 0 ≤ d) → (hd1 : d ≤ 255) → (e2 : o2.data = .cell (some (.int pl tpl))) → (e3 : o3.data = .cell (some (.int sp tsp))) → (s0 : 0 ≤ sp) → (s1 : sp ≤ 65025) → (q0 : -10000000 ≤ pl) → (q1 : pl ≤ 10000000) → 
    (hret : ∀ {h' : Heap} {tk' : Nat} {m' : Str → Option Value} {u0 u1 u2 u3 : Tok}, Fr h₀ L h' m' → m' (Str.ofString "a") = some (.str (faceS a) u0) → m' (Str.ofString "b") = some (.str (faceS b) u1) → m' (Str.ofString "c") = some (.str (faceS c) u2) → m' (Str.ofString "d") = some (.str (faceS d) u3) → m' (Str.ofString "row") = some (.ref R) → m' (Str.ofString "away") = some (.ref dA) → m' (Str.ofString "octets") = some (.bytes #[a.toNat.toUInt8, b.toNat.toUInt8, c.toNat.toUInt8, d.toNat.toUInt8] tO) →
      News h₀ L h' ((R, W.listOf #[.int a v0, .int b v1, .int c v2, .int d v3] nR) :: (I, oI) :: (WL, oW) :: (95, tabObj x) :: (dA, oA) :: [(L + 1 + 3, o1), (L + 1 + 2, o2), (L + 1 + 1, o3), (L + 1, o4)]) → wpS (model PySem.Challenge.rw_zo0001_01.prog w) (lawA dp un L a' ccd) (execs (loopBody.drop 10) (lawEnv L a' ccd)) Q Nev { s with heap := h', toks := tk' }) → 
    wpS (model PySem.Challenge.rw_zo0001_01.prog w) (lawA dp un L a' ccd) (execs (loopBody.drop 9) (lawEnv L a' ccd)) Q Nev s := by
  k_fill
  intro dp un a' ccd A₀ base h₀ L m s Q o1 o2 o3 o4 I WL R dA oI oW oA x nR a b c d sp pl v0 v1 v2 v3 tsp tpl tO B0 F00 X0 N0 T0 h95 hdp hun hm_row hm_away hm_octets hI hW hWI hA hAI hoff hRI ha0 ha1 hb0 hb1 hc0 hc1 hd0 hd1 e2 e3 s0 s1 q0 q1 hret
  have F0 := fr_conv F00 [(Str.ofString "row", .ref R), (Str.ofString "away", .ref dA), (Str.ofString "octets", .bytes #[a.toNat.toUInt8, b.toNat.toUInt8, c.toNat.toUInt8, d.toNat.toUInt8] tO)] (fr_all (.cons (.cons (.cons .nil hm_octets) hm_away) hm_row))
  clear F00
  obtain ⟨⟨hf1, hf2, hf3, hf4⟩, -⟩ := hoff
  have ek : KBw.bInts #[a.toNat.toUInt8, b.toNat.toUInt8, c.toNat.toUInt8, d.toNat.toUInt8] = [a, b, c, d] := by
    show [((a.toNat.toUInt8.toNat : Nat) : Int), ((b.toNat.toUInt8.toNat : Nat) : Int), ((c.toNat.toUInt8.toNat : Nat) : Int), ((d.toNat.toUInt8.toNat : Nat) : Int)] = _
    rw [oct_back ha0 ha1, oct_back hb0 hb1, oct_back hc0 hc1, oct_back hd0 hd1]
  refine sl_execs_consA ?_
  iterate 1 walk1
  k_dflt (refine cb_comp [a, b, c, d] (by k_asm) (by with_unfolding_all rfl) (by decide) (by rfl) (by decide) (by rfl) ?_)
  iterate 1 walk1
  refine ⟨_, _, _, rfl, rfl, ek, Nat.le_of_ble_eq_true rfl, F0, N0, fun g => ?_⟩
  lcg_lit
  k_steps
  all_goals (exact hret (by assumption) (by exact rfl) (by exact rfl) (by exact rfl) (by exact rfl) (by exact rfl) (by exact rfl) (by exact rfl) (sub_news (by assumption) (by repeat (first | exact SubL.nil | exact SubL.refl _ | refine SubL.keep ?_ | refine SubL.skip ?_))))
end
section
open PySem PySem.W PyProof.Rows
set_option Elab.async false
set_option maxRecDepth 100000
set_option maxHeartbeats 8000000
set_option pp.deepTerms false
set_option pp.deepTerms.threshold 3
set_option pp.proofs false
theorem walk_anew_30 : True := by w_top off; trivial
--NOZS
local macro_rules | `(tactic| walk_at "binaryOp Mult int int") => `(tactic| (k_here; (with_reducible refine Mine.gd25 ?_); k_dflt (apply Mine.mul_K; (first | assumption | exact Mine.coll_fit | exact PySem.IntMulOk.of_left (PySem.intBits_le_64 (by decide) (by decide))); k_whole); intros))
local macro_rules | `(tactic| walk_at "call ref") => `(tactic| (k_here; (with_reducible refine Mine.gd30 ?_); k_dflt (apply Mine.strcoll_w; (iterate 8 walk_at "kx"); k_whole); intros; walk_at "kt"))
theorem body6 {w : World} {p : Program} {loose : List Str} {mean : ExcName → Option Value} {mg mb : Str → Option Value} :
    ∀ {dp un : Nat} {a' : Addr} {ccd : Value} {A₀ : Around} {base h₀ : Heap} {L : Addr} {m : Str → Option Value} {s : Shared} {Q : Flow → Shared → Prop} {o1 o2 o3 o4 : Obj} {I WL R dA : Addr} {oI oW oA : Obj} {x : Array Value} {nR : Nat} {a b c d sp pl : Int} {v0 v1 v2 v3 tsp tpl tO u0 u1 u2 u3 : Tok},
    Below A₀ base [] h₀ → Fr h₀ L s.heap m → (hd.heap_39 w.params).In h₀ → News h₀ L s.heap ((R, W.listOf #[.int a v0, .int b v1, .int c v2, .int d v3] nR) :: (I, oI) :: (WL, oW) :: (95, tabObj x) :: (dA, oA) :: [(L + 1 + 3, o1), (L + 1 + 2, o2), (L + 1 + 1, o3), (L + 1, o4)]) → Top p loose mean mg mb h₀ → @LT.lt Nat _ 95 L → dp + 120 < recursionLimit → un + 1200 < cLine →
    m (Str.ofString "row") = some (.ref R) → m (Str.ofString "away") = some (.ref dA) → m (Str.ofString "octets") = some (.bytes #[a.toNat.toUInt8, b.toNat.toUInt8, c.toNat.toUInt8, d.toNat.toUInt8] tO) → m (Str.ofString "a") = some (.str (faceS a) u0) → m (Str.ofString "b") = some (.str (faceS b) u1) → m (Str.ofString "c") = some (.str (faceS c) u2) → m (Str.ofString "d") = some (.str (faceS d) u3) → (hI : @LT.lt Nat _ (L + 1 + 3) I) → (hW : @LT.lt Nat _ (L + 1 + 3) WL) → (hWI : @LT.lt Nat _ WL I) → (hA : @LT.lt Nat _ (L + 1 + 3) dA) → (hAI : @LT.lt Nat _ dA I) → (hoff : Offs [R] L) → (hRI : @Ne Nat R I) → (e2 : o2.data = .cell (some (.int pl tpl))) → (e3 : o3.data = .cell (some (.int sp tsp))) → (s0 : 0 ≤ sp) → (s1 : sp ≤ 65025) → (q0 : -10000000 ≤ pl) → (q1 : pl ≤ 10000000) → (g1 : collS (faceS a) (faceS b) * collS (faceS c) (faceS d) = sideG (pl - 2 * 0 * sp) sp) → (g2 : collS (faceS c) (faceS a) * collS (faceS b) (faceS d) = sideG (pl - 2 * 1 * sp) sp) → (g3 : collS (faceS a) (faceS d) * collS (faceS b) (faceS c) = sideG (pl - 2 * 2 * sp) sp) → 
    (hret : ∀ {h' : Heap} {tk' : Nat} {m' : Str → Option Value}, Fr h₀ L h' m' → m' (Str.ofString "row") = some (.ref R) → m' (Str.ofString "away") = some (.ref dA) → m' (Str.ofString "octets") = some (.bytes #[a.toNat.toUInt8, b.toNat.toUInt8, c.toNat.toUInt8, d.toNat.toUInt8] tO) →
      News h₀ L h' ((R, W.listOf #[.int a v0, .int b v1, .int c v2, .int d v3] nR) :: (I, oI) :: (WL, oW) :: (95, tabObj x) :: (dA, oA) :: [(L + 1 + 3, o1), (L + 1 + 2, o2), (L + 1 + 1, o3), (L + 1, o4)]) → Q .next { s with heap := h', toks := tk' }) → 
    wpS (model PySem.Challenge.rw_zo0001_01.prog w) (lawA dp un L a' ccd) (execs (loopBody.drop 10) (lawEnv L a' ccd)) Q Nev s := by
  k_fill
  intro dp un a' ccd A₀ base h₀ L m s Q o1 o2 o3 o4 I WL R dA oI oW oA x nR a b c d sp pl v0 v1 v2 v3 tsp tpl tO u0 u1 u2 u3 B0 F00 X0 N0 T0 h95 hdp hun hm_row hm_away hm_octets hm_a hm_b hm_c hm_d hI hW hWI hA hAI hoff hRI e2 e3 s0 s1 q0 q1 g1 g2 g3 hret
  have F0 := fr_conv F00 [(Str.ofString "row", .ref R), (Str.ofString "away", .ref dA), (Str.ofString "octets", .bytes #[a.toNat.toUInt8, b.toNat.toUInt8, c.toNat.toUInt8, d.toNat.toUInt8] tO), (Str.ofString "a", .str (faceS a) u0), (Str.ofString "b", .str (faceS b) u1), (Str.ofString "c", .str (faceS c) u2), (Str.ofString "d", .str (faceS d) u3)] (fr_all (.cons (.cons (.cons (.cons (.cons (.cons (.cons .nil hm_d) hm_c) hm_b) hm_a) hm_octets) hm_away) hm_row))
  clear F00
  obtain ⟨⟨hf1, hf2, hf3, hf4⟩, -⟩ := hoff
  refine sl_execs_consA ?_
  k_steps
  refine sl_execs_consA ?_
  k_steps
  · refine sl_execs_nil ?_
    exact hret (by assumption) (by exact rfl) (by exact rfl) (by exact rfl) (sub_news (by assumption) (by repeat (first | exact SubL.nil | exact SubL.refl _ | refine SubL.keep ?_ | refine SubL.skip ?_)))
  · exfalso
    rename (¬ (_ = List.map _ _)) => hx
    exact hx (by rw [g1, g2, g3]; rfl)
end
end
section
open PySem PySem.W PyProof.Rows
set_option Elab.async false
set_option maxRecDepth 100000
set_option maxHeartbeats 8000000
set_option pp.deepTerms false
set_option pp.deepTerms.threshold 3
set_option pp.proofs false
theorem walk_anew_31 : True := by w_top off; trivial
--NOZS
theorem stage6 {w : World} {p : Program} {loose : List Str} {mean : ExcName → Option Value} {mg mb : Str → Option Value} :
    ∀ {dp un : Nat} {a' : Addr} {ccd : Value} {A₀ : Around} {base h₀ : Heap} {L : Addr} {m : Str → Option Value} {s : Shared} {Q : Flow → Shared → Prop} {o1 o2 o3 o4 : Obj} {R dA r FC : Addr} {oA : Obj} {x : Array Value} {a b c d sp pl f0 f1 f2 f3 : Int} {v0 v1 v2 v3 tsp tpl w0 w1 w2 w3 : Tok} {nF : Nat},
    Below A₀ base [] h₀ → Fr h₀ L s.heap m → (hd.heap_39 w.params).In h₀ → News h₀ L s.heap ((FC, W.listOf #[.str (faceS f0) w0, .str (faceS f1) w1, .str (faceS f2) w2, .str (faceS f3) w3] nF) :: (95, tabObj x) :: (R, W.listOf #[.int a v0, .int b v1, .int c v2, .int d v3] 4) :: (dA, oA) :: [(L + 1 + 3, o1), (L + 1 + 2, o2), (L + 1 + 1, o3), (L + 1, o4)]) → Top p loose mean mg mb h₀ → @LT.lt Nat _ 95 L → dp + 80 < recursionLimit → un + 800 < cLine →
    m (Str.ofString "row") = some (.ref R) → m (Str.ofString "away") = some (.ref dA) → m (Str.ofString "script") = some (.ref r) → m (Str.ofString "faces") = some (.ref FC) → (g0 : 0 ≤ f0) → (g1 : f0 ≤ f1) → (g2 : f1 ≤ f2) → (g3 : f2 ≤ f3) → (g4 : f3 ≤ 255) → 
    (hret : ∀ {MK : Addr} {y0 y1 y2 y3 : Tok} {h' : Heap} {tk' : Nat} {m' : Str → Option Value}, Fr h₀ L h' m' → m' (Str.ofString "row") = some (.ref R) → m' (Str.ofString "away") = some (.ref dA) → m' (Str.ofString "script") = some (.ref r) → m' (Str.ofString "faces") = some (.ref FC) → m' (Str.ofString "marks") = some (.ref MK) →
      News h₀ L h' ((MK, LCg.lst [.int (900 * f0) y0, .int (900 * f1) y1, .int (900 * f2) y2, .int (900 * f3) y3]) :: (FC, W.listOf #[.str (faceS f0) w0, .str (faceS f1) w1, .str (faceS f2) w2, .str (faceS f3) w3] nF) :: (95, tabObj x) :: (R, W.listOf #[.int a v0, .int b v1, .int c v2, .int d v3] 4) :: (dA, oA) :: [(L + 1 + 3, o1), (L + 1 + 2, o2), (L + 1 + 1, o3), (L + 1, o4)]) →
      wpS (model PySem.Challenge.rw_zo0001_01.prog w) (lawA dp un L a' ccd) (execs (lawBody.drop 9) (lawEnv L a' ccd)) Q Nev { s with heap := h', toks := tk' }) → 
    wpS (model PySem.Challenge.rw_zo0001_01.prog w) (lawA dp un L a' ccd) (execs (lawBody.drop 8) (lawEnv L a' ccd)) Q Nev s := by
  k_fill
  intro dp un a' ccd A₀ base h₀ L m s Q o1 o2 o3 o4 R dA r FC oA x a b c d sp pl f0 f1 f2 f3 v0 v1 v2 v3 tsp tpl w0 w1 w2 w3 nF B0 F00 X0 N0 T0 h95 hdp hun hm_row hm_away hm_script hm_faces g0 g1 g2 g3 g4 hret
  have F0 := fr_conv F00 [(Str.ofString "row", .ref R), (Str.ofString "away", .ref dA), (Str.ofString "script", .ref r), (Str.ofString "faces", .ref FC)] (fr_all (.cons (.cons (.cons (.cons .nil hm_faces) hm_script) hm_away) hm_row))
  clear F00
  have k0 : f0 ≤ 255 := by omega
  have k1 : 0 ≤ f1 := by omega
  have k2 : f1 ≤ 255 := by omega
  have k3 : 0 ≤ f2 := by omega
  have k4 : f2 ≤ 255 := by omega
  have k5 : 0 ≤ f3 := by omega
  refine sl_execs_consA ?_
  k_steps
  all_goals (exact hret (by assumption) (by exact rfl) (by exact rfl) (by exact rfl) (by exact rfl) (by exact rfl) (sub_news (by assumption) (by repeat (first | exact SubL.nil | exact SubL.refl _ | refine SubL.keep ?_ | refine SubL.skip ?_))))
end
section
local macro_rules | `(tactic| walk_at "binaryOp Mult int int") => `(tactic| (k_here; (with_reducible refine Mine.gd25 ?_); k_dflt (apply Mine.mul_K; (first | assumption | exact PySem.IntMulOk.of_left (PySem.intBits_le_64 (by decide) (by decide))); k_whole); intros))
local macro_rules | `(tactic| walk_at "exec If") => `(tactic| refine wpAny_If ?_)
local macro_rules | `(tactic| walk_at "binaryOp Mod int int") => `(tactic| (k_here; (with_reducible refine mod_int' ?kbe ?_); (case kbe => assumption)))
section
open PySem PySem.W PyProof.Rows
set_option Elab.async false
set_option maxRecDepth 100000
set_option maxHeartbeats 8000000
set_option pp.deepTerms false
set_option pp.deepTerms.threshold 3
set_option pp.proofs false
theorem walk_anew_32 : True := by w_top off; trivial
--NOZS
theorem stage7 {w : World} {p : Program} {loose : List Str} {mean : ExcName → Option Value} {mg mb : Str → Option Value} :
    ∀ {dp un : Nat} {a' : Addr} {ccd : Value} {A₀ : Around} {base h₀ : Heap} {L : Addr} {m : Str → Option Value} {s : Shared} {Q : Flow → Shared → Prop} {o1 o2 o3 o4 : Obj} {R dA r FC MK : Addr} {oA : Obj} {x : Array Value} {a b c d sp pl f0 f1 f2 f3 : Int} {v0 v1 v2 v3 tsp tpl w0 w1 w2 w3 y0 y1 y2 y3 : Tok} {nF : Nat},
    Below A₀ base [] h₀ → Fr h₀ L s.heap m → (hd.heap_39 w.params).In h₀ → News h₀ L s.heap ((MK, LCg.lst [.int (900 * f0) y0, .int (900 * f1) y1, .int (900 * f2) y2, .int (900 * f3) y3]) :: (FC, W.listOf #[.str (faceS f0) w0, .str (faceS f1) w1, .str (faceS f2) w2, .str (faceS f3) w3] nF) :: (95, tabObj x) :: (R, W.listOf #[.int a v0, .int b v1, .int c v2, .int d v3] 4) :: (dA, oA) :: [(L + 1 + 3, o1), (L + 1 + 2, o2), (L + 1 + 1, o3), (L + 1, o4)]) → Top p loose mean mg mb h₀ → @LT.lt Nat _ 95 L → dp + 80 < recursionLimit → un + 800 < cLine →
    m (Str.ofString "row") = some (.ref R) → m (Str.ofString "away") = some (.ref dA) → m (Str.ofString "script") = some (.ref r) → m (Str.ofString "faces") = some (.ref FC) → m (Str.ofString "marks") = some (.ref MK) → (g0 : 0 ≤ f0) → (g1 : f0 ≤ f1) → (g2 : f1 ≤ f2) → (g3 : f2 ≤ f3) → (g4 : f3 ≤ 255) → (e2 : o2.data = .cell (some (.int pl tpl))) → (e3 : o3.data = .cell (some (.int sp tsp))) → (s0 : 0 ≤ sp) → (s1 : sp ≤ 65025) → (q0 : -400000 ≤ pl) → (q1 : pl ≤ 400000) → (c1 : collS (faceS f3) (faceS f0) = if 900 * f3 - 900 * f0 < 1 then 900 * f3 - 900 * f0 else 1) → (c2 : (900 * f2 - 900 * f0) * (900 * f3 - 900 * f1) = 810000 * sp) → 
    (hret : ∀ {X : Int} {tX : Tok} {h' : Heap} {tk' : Nat} {m' : Str → Option Value}, Fr h₀ L h' m' → m' (Str.ofString "row") = some (.ref R) → m' (Str.ofString "away") = some (.ref dA) → m' (Str.ofString "script") = some (.ref r) → m' (Str.ofString "marks") = some (.ref MK) → m' (Str.ofString "rest") = some (.int X tX) →
      (sp = 0 ∧ X = 0 ∨ sp ≠ 0 ∧ X = if (-pl).fmod (2 * sp) < pl.fmod (2 * sp) then (-pl).fmod (2 * sp) else pl.fmod (2 * sp)) →
      News h₀ L h' ((MK, LCg.lst [.int (900 * f0) y0, .int (900 * f1) y1, .int (900 * f2) y2, .int (900 * f3) y3]) :: (95, tabObj x) :: (R, W.listOf #[.int a v0, .int b v1, .int c v2, .int d v3] 4) :: (dA, oA) :: [(L + 1 + 3, o1), (L + 1 + 2, o2), (L + 1 + 1, o3), (L + 1, o4)]) →
      wpS (model PySem.Challenge.rw_zo0001_01.prog w) (lawA dp un L a' ccd) (execs (lawBody.drop 13) (lawEnv L a' ccd)) Q Nev { s with heap := h', toks := tk' }) → 
    wpS (model PySem.Challenge.rw_zo0001_01.prog w) (lawA dp un L a' ccd) (execs (lawBody.drop 9) (lawEnv L a' ccd)) Q Nev s := by
  k_fill
  intro dp un a' ccd A₀ base h₀ L m s Q o1 o2 o3 o4 R dA r FC MK oA x a b c d sp pl f0 f1 f2 f3 v0 v1 v2 v3 tsp tpl w0 w1 w2 w3 y0 y1 y2 y3 nF B0 F00 X0 N0 T0 h95 hdp hun hm_row hm_away hm_script hm_faces hm_marks g0 g1 g2 g3 g4 e2 e3 s0 s1 q0 q1 c1 c2 hret
  have F0 := fr_conv F00 [(Str.ofString "row", .ref R), (Str.ofString "away", .ref dA), (Str.ofString "script", .ref r), (Str.ofString "faces", .ref FC), (Str.ofString "marks", .ref MK)] (fr_all (.cons (.cons (.cons (.cons (.cons .nil hm_marks) hm_faces) hm_script) hm_away) hm_row))
  clear F00
  have k0 : f0 ≤ 255 := by (first | exact om327 g1 g2 g3 g4 | omega)
  have k1 : 0 ≤ f1 := by (first | exact om390 g0 g1 | omega)
  have k2 : f1 ≤ 255 := by (first | exact om389 g2 g3 g4 | omega)
  have k3 : 0 ≤ f2 := by (first | exact om387 g2 k1 | omega)
  have k4 : f2 ≤ 255 := by (first | exact om388 g3 g4 | omega)
  have k5 : 0 ≤ f3 := by (first | exact om387 g3 k3 | omega)
  have m1 : PySem.IntMulOk (900 * f2 - 900 * f0) (900 * f3 - 900 * f1) := PySem.IntMulOk.of_left (PySem.intBits_le_64 (by clear c1 c2; (first | exact om386 k0 k3 | omega)) (by clear c1 c2; (first | exact om385 g0 k4 | omega)))
  have m2 : PySem.IntMulOk (900 * f1 - 900 * f0) (900 * f3 - 900 * f2) := PySem.IntMulOk.of_left (PySem.intBits_le_64 (by clear c1 c2; (first | exact om386 k0 k1 | omega)) (by clear c1 c2; (first | exact om385 g0 k2 | omega)))
  refine sl_execs_consA ?_
  k_steps
  · exfalso; rename (b2i _ - b2i _ ≠ _) => hx; exact hx c1
  rename (b2i _ - b2i _ = _) => hx; clear hx
  refine sl_execs_consA ?_
  k_steps
  · exfalso; rename (_ * _ ≠ _) => hx; exact hx c2
  rename (_ * _ = _) => hx; clear hx
  clear c1 c2
  refine sl_execs_consA ?_
  k_steps
  refine sl_execs_consA ?_
  iterate 6 walk1
  by_cases hsp : (sp != 0) = true
  · rw [if_pos hsp]
    have hs0 : sp ≠ 0 := by simpa using hsp
    clear hsp
    have hs1 : 2 * sp ≠ 0 := by (first | exact om384 hs0 | omega)
    k_steps
    all_goals (exact hret (by assumption) (by exact rfl) (by exact rfl) (by exact rfl) (by exact rfl) (by exact rfl) (.inr ⟨hs0, by exact rfl⟩) (sub_news (by assumption) (by repeat (first | exact SubL.nil | exact SubL.refl _ | refine SubL.keep ?_ | refine SubL.skip ?_))))
  · rw [if_neg hsp]
    have hs0 : sp = 0 := by simpa using hsp
    clear hsp
    k_steps
    all_goals (exact hret (by assumption) (by exact rfl) (by exact rfl) (by exact rfl) (by exact rfl) (by exact rfl) (.inl ⟨hs0, rfl⟩) (sub_news (by assumption) (by repeat (first | exact SubL.nil | exact SubL.refl _ | refine SubL.keep ?_ | refine SubL.skip ?_))))
end
section
open PySem PySem.W PyProof.Rows
set_option Elab.async false
set_option maxRecDepth 100000
set_option maxHeartbeats 8000000
set_option pp.deepTerms false
set_option pp.deepTerms.threshold 3
set_option pp.proofs false
theorem walk_anew_33 : True := by w_top off; trivial
--NOZS
theorem stage8 {w : World} {p : Program} {loose : List Str} {mean : ExcName → Option Value} {mg mb : Str → Option Value} :
    ∀ {dp un : Nat} {a' : Addr} {ccd : Value} {A₀ : Around} {base h₀ : Heap} {L : Addr} {m : Str → Option Value} {s : Shared} {Q : Flow → Shared → Prop} {o1 o2 o3 o4 : Obj} {R dA r MK : Addr} {oA : Obj} {x : Array Value} {a b c d sp pl f0 f1 f2 f3 X : Int} {v0 v1 v2 v3 tsp tpl y0 y1 y2 y3 tX : Tok},
    Below A₀ base [] h₀ → Fr h₀ L s.heap m → (hd.heap_39 w.params).In h₀ → News h₀ L s.heap ((MK, LCg.lst [.int (900 * f0) y0, .int (900 * f1) y1, .int (900 * f2) y2, .int (900 * f3) y3]) :: (95, tabObj x) :: (R, W.listOf #[.int a v0, .int b v1, .int c v2, .int d v3] 4) :: (dA, oA) :: [(L + 1 + 3, o1), (L + 1 + 2, o2), (L + 1 + 1, o3), (L + 1, o4)]) → Top p loose mean mg mb h₀ → @LT.lt Nat _ 95 L → dp + 80 < recursionLimit → un + 800 < cLine →
    m (Str.ofString "row") = some (.ref R) → m (Str.ofString "away") = some (.ref dA) → m (Str.ofString "script") = some (.ref r) → m (Str.ofString "marks") = some (.ref MK) → m (Str.ofString "rest") = some (.int X tX) → (g0 : 0 ≤ f0) → (g1 : f0 ≤ f1) → (g2 : f1 ≤ f2) → (g3 : f2 ≤ f3) → (g4 : f3 ≤ 255) → (ha0 : 0 ≤ a) → (ha1 : a ≤ 255) → (hb0 : 0 ≤ b) → (hb1 : b ≤ 255) → (hc0 : 0 ≤ c) → (hc1 : c ≤ 255) → (hd0 : 0 ≤ d) → (hd1 : d ≤ 255) → (e2 : o2.data = .cell (some (.int pl tpl))) → (e3 : o3.data = .cell (some (.int sp tsp))) → (c3 : (900 * f1 - 900 * f0) * (900 * f3 - 900 * f2) = 810000 * X) → 
    (hret : ∀ {tO : Tok} {h' : Heap} {tk' : Nat} {m' : Str → Option Value}, Fr h₀ L h' m' → m' (Str.ofString "row") = some (.ref R) → m' (Str.ofString "away") = some (.ref dA) → m' (Str.ofString "script") = some (.ref r) → m' (Str.ofString "octets") = some (.bytes #[a.toNat.toUInt8, b.toNat.toUInt8, c.toNat.toUInt8, d.toNat.toUInt8] tO) →
      News h₀ L h' ((95, tabObj x) :: (R, W.listOf #[.int a v0, .int b v1, .int c v2, .int d v3] 4) :: (dA, oA) :: [(L + 1 + 3, o1), (L + 1 + 2, o2), (L + 1 + 1, o3), (L + 1, o4)]) →
      wpS (model PySem.Challenge.rw_zo0001_01.prog w) (lawA dp un L a' ccd) (execs (lawBody.drop 15) (lawEnv L a' ccd)) Q Nev { s with heap := h', toks := tk' }) → 
    wpS (model PySem.Challenge.rw_zo0001_01.prog w) (lawA dp un L a' ccd) (execs (lawBody.drop 13) (lawEnv L a' ccd)) Q Nev s := by
  k_fill
  intro dp un a' ccd A₀ base h₀ L m s Q o1 o2 o3 o4 R dA r MK oA x a b c d sp pl f0 f1 f2 f3 X v0 v1 v2 v3 tsp tpl y0 y1 y2 y3 tX B0 F00 X0 N0 T0 h95 hdp hun hm_row hm_away hm_script hm_marks hm_rest g0 g1 g2 g3 g4 ha0 ha1 hb0 hb1 hc0 hc1 hd0 hd1 e2 e3 c3 hret
  have F0 := fr_conv F00 [(Str.ofString "row", .ref R), (Str.ofString "away", .ref dA), (Str.ofString "script", .ref r), (Str.ofString "marks", .ref MK), (Str.ofString "rest", .int X tX)] (fr_all (.cons (.cons (.cons (.cons (.cons .nil hm_rest) hm_marks) hm_script) hm_away) hm_row))
  clear F00
  have k0 : f0 ≤ 255 := by clear c3; omega
  have k1 : 0 ≤ f1 := by clear c3; omega
  have k2 : f1 ≤ 255 := by clear c3; omega
  have m2 : PySem.IntMulOk (900 * f1 - 900 * f0) (900 * f3 - 900 * f2) := PySem.IntMulOk.of_left (PySem.intBits_le_64 (by clear c3; omega) (by clear c3; omega))
  refine sl_execs_consA ?_
  k_steps
  · exfalso; rename (_ * _ ≠ _) => hx; exact hx c3
  rename (_ * _ = _) => hx; clear hx
  clear c3 m2
  refine sl_execs_consA ?_
  k_steps
  all_goals (exact hret (by assumption) (by exact rfl) (by exact rfl) (by exact rfl) (by exact rfl) (sub_news (by assumption) (by repeat (first | exact SubL.nil | exact SubL.refl _ | refine SubL.keep ?_ | refine SubL.skip ?_))))
end
end
section
open PySem PySem.W PyProof.Rows
set_option Elab.async false
set_option maxRecDepth 100000
set_option maxHeartbeats 8000000
set_option pp.deepTerms false
set_option pp.deepTerms.threshold 3
set_option pp.proofs false
theorem walk_anew_34 : True := by w_top off; trivial
--NOZS
theorem ws_ok {ns : List Int} : let ws := List.map (fun a : Int => a.fmod 3 + 2) (List.filter (fun _ => true) (List.take (min 9 ns.length - 5) (List.drop 5 ns))); ws.length ≤ 4 ∧ ∀ k ∈ ws, k = 2 ∨ k = 3 ∨ k = 4 := by
  refine ⟨?_, fun k hk => ?_⟩
  · rw [List.length_map]
    refine Nat.le_trans (List.length_filter_le _ _) ?_
    rw [List.length_take]
    (first | exact om383 | omega)
  · obtain ⟨a, _, rfl⟩ := List.mem_map.mp hk
    rw [Int.fmod_eq_emod_of_nonneg _ (by decide)]
    (first | exact om382 | omega)
theorem wid_ok {ws : List Int} (h : ws.length ≤ 4 ∧ ∀ k ∈ ws, k = 2 ∨ k = 3 ∨ k = 4) : ([1] ++ ws ++ [2, 3, 4, 3]).length ≤ 9 ∧ ∀ k ∈ [1] ++ ws ++ [2, 3, 4, 3], k = 1 ∨ k = 2 ∨ k = 3 ∨ k = 4 := by
  refine ⟨by simp only [List.length_append, List.length_cons, List.length_nil]; omega, fun k hk => ?_⟩
  simp only [List.cons_append, List.nil_append, List.mem_cons, List.mem_append, List.not_mem_nil, or_false] at hk
  rcases hk with rfl | hk | rfl | rfl | rfl | rfl
  · omega
  · have := h.2 k hk; (first | exact om381 this | omega)
  all_goals omega
theorem stage9 {w : World} {p : Program} {loose : List Str} {mean : ExcName → Option Value} {mg mb : Str → Option Value} :
    ∀ {dp un : Nat} {a' : Addr} {ccd : Value} {A₀ : Around} {base h₀ : Heap} {L : Addr} {m : Str → Option Value} {s : Shared} {Q : Flow → Shared → Prop} {o1 o2 o3 o4 : Obj} {R dA r : Addr} {oA : Obj} {x : Array Value} {vs : List Value} {ns : List Int} {a b c d sp pl : Int} {v0 v1 v2 v3 tsp tpl tO : Tok},
    Below A₀ base [] h₀ → Fr h₀ L s.heap m → (hd.heap_39 w.params).In h₀ → News h₀ L s.heap ((95, tabObj x) :: (R, W.listOf #[.int a v0, .int b v1, .int c v2, .int d v3] 4) :: (dA, oA) :: [(L + 1 + 3, o1), (L + 1 + 2, o2), (L + 1 + 1, o3), (L + 1, o4)]) → Top p loose mean mg mb h₀ → @LT.lt Nat _ 95 L → dp + 80 < recursionLimit → un + 800 < cLine →
    m (Str.ofString "row") = some (.ref R) → m (Str.ofString "away") = some (.ref dA) → m (Str.ofString "script") = some (.ref r) → m (Str.ofString "octets") = some (.bytes #[a.toNat.toUInt8, b.toNat.toUInt8, c.toNat.toUInt8, d.toNat.toUInt8] tO) → (hl0 : h₀.IsList r vs.toArray) → (hi0 : IntsAre vs ns) → (hlen : ¬ (63 : Int) < (ns.length : Int)) → (ha0 : 0 ≤ a) → (ha1 : a ≤ 255) → (hb0 : 0 ≤ b) → (hb1 : b ≤ 255) → (hc0 : 0 ≤ c) → (hc1 : c ≤ 255) → (hd0 : 0 ≤ d) → (hd1 : d ≤ 255) → (e2 : o2.data = .cell (some (.int pl tpl))) → (e3 : o3.data = .cell (some (.int sp tsp))) → 
    (hret : ∀ {WL : Addr} {us : List Value} {ks : List Int} {h' : Heap} {tk' : Nat} {m' : Str → Option Value}, Fr h₀ L h' m' → m' (Str.ofString "row") = some (.ref R) → m' (Str.ofString "away") = some (.ref dA) → m' (Str.ofString "script") = some (.ref r) → m' (Str.ofString "octets") = some (.bytes #[a.toNat.toUInt8, b.toNat.toUInt8, c.toNat.toUInt8, d.toNat.toUInt8] tO) →
      News h₀ L h' ((WL, W.listOf us.toArray 0) :: (95, tabObj x) :: (R, W.listOf #[.int a v0, .int b v1, .int c v2, .int d v3] 4) :: (dA, oA) :: [(L + 1 + 3, o1), (L + 1 + 2, o2), (L + 1 + 1, o3), (L + 1, o4)]) → IntsAre us ks → (ks.length ≤ 9 ∧ ∀ k ∈ ks, k = 1 ∨ k = 2 ∨ k = 3 ∨ k = 4) → @LT.lt Nat _ dA WL → (@LT.lt Nat _ (L + 1 + 3) WL ∧ @LT.lt Nat _ R WL ∧ @LT.lt Nat _ 95 WL) →
      wpAny (model PySem.Challenge.rw_zo0001_01.prog w) (lawA dp un L a' ccd) (pyIter (.ref WL)) (fun it s₂ => codeS (model PySem.Challenge.rw_zo0001_01.prog w) (lawA dp un L a' ccd) (.forLoop loopTarget it loopBody [] (lawEnv L a' ccd)) (fun r s' => match r with | .ok f => (match f with | .next => wpS (model PySem.Challenge.rw_zo0001_01.prog w) (lawA dp un L a' ccd) (execs (lawBody.drop 16) (lawEnv L a' ccd)) Q Nev s' | f => Q f s') | .error _ => False) s₂) Nev { s with heap := h', toks := tk' }) → 
    wpS (model PySem.Challenge.rw_zo0001_01.prog w) (lawA dp un L a' ccd) (execs (lawBody.drop 15) (lawEnv L a' ccd)) Q Nev s := by
  k_fill
  intro dp un a' ccd A₀ base h₀ L m s Q o1 o2 o3 o4 R dA r oA x vs ns a b c d sp pl v0 v1 v2 v3 tsp tpl tO B0 F00 X0 N0 T0 h95 hdp hun hm_row hm_away hm_script hm_octets hl0 hi0 hlen ha0 ha1 hb0 hb1 hc0 hc1 hd0 hd1 e2 e3 hret
  have F0 := fr_conv F00 [(Str.ofString "row", .ref R), (Str.ofString "away", .ref dA), (Str.ofString "script", .ref r), (Str.ofString "octets", .bytes #[a.toNat.toUInt8, b.toNat.toUInt8, c.toNat.toUInt8, d.toNat.toUInt8] tO)] (fr_all (.cons (.cons (.cons (.cons .nil hm_octets) hm_script) hm_away) hm_row))
  clear F00
  refine sl_execs_cons (sl_For ?_)
  k_steps
  rename CarriedAll _ _ => hc
  have hiD := hc.intsOf
  have hws := ws_ok (ns := ns)
  generalize List.map (fun a : Int => a.fmod 3 + 2) (List.filter (fun _ => true) (List.take (min 9 ns.length - 5) (List.drop 5 ns))) = ws at hiD hws
  clear hc
  rename NewPlain _ _ _ _ => hP
  clear hP
  rename Heap.IsList _ _ _ => hlD
  rename Fr _ _ _ _ => F8
  rename News _ _ _ _ => N8
  refine kmk_add_ints F8 N8 ⟨_, (N8 _ (List.Mem.tail _ (List.Mem.head _))).1, rfl, 0, rfl⟩ hlD (IntsAre.cons 1 _ .nil) hiD (fun D1 us h1 F1 N1 l1 hU => ?_) ?z
  case z => exact Nat.le_trans (Nat.add_le_add_left hws.1 1) (Nat.le_of_ble_eq_true rfl)
  clear hlD hiD
  k_steps
  all_goals (exact hret (by assumption) (by exact rfl) (by exact rfl) (by exact rfl) (by exact rfl) (sub_news (by assumption) (by repeat (first | exact SubL.nil | exact SubL.refl _ | refine SubL.keep ?_ | refine SubL.skip ?_))) (by assumption) (wid_ok hws) (by (first | exact om380 (by assumption) | omega)) (by (first | exact om379 (by assumption) | omega)))
end
end
section
open PySem PySem.W PyProof.Rows
set_option Elab.async false
set_option maxRecDepth 100000
set_option maxHeartbeats 8000000
set_option pp.deepTerms false
set_option pp.deepTerms.threshold 3
set_option pp.proofs false
theorem walk_anew_35 : True := by w_top off; trivial
--NOREG
theorem turn_1 {w : World} {p : Program} {loose : List Str} {mean : ExcName → Option Value} {mg mb : Str → Option Value} :
    ∀ {dp un : Nat} {a' : Addr} {ccd : Value} {A₀ : Around} {base h₀ : Heap} {L : Addr} {m : Str → Option Value} {s : Shared} {Q : Flow → Shared → Prop} {o1 o2 o3 o4 : Obj} {I WL R dA : Addr} {oI oW oA : Obj} {x : Array Value} {nR : Nat} {a b c d n sp pl : Int} {as : List Int} {vf : Option Value} {v0 v1 v2 v3 tsp tpl tO tw : Tok},
    Below A₀ base [] h₀ → Fr h₀ L s.heap m → (hd.heap_39 w.params).In h₀ → News h₀ L s.heap ((R, W.listOf #[.int a v0, .int b v1, .int c v2, .int d v3] nR) :: (I, oI) :: (WL, oW) :: (95, tabObj x) :: (dA, oA) :: [(L + 1 + 3, o1), (L + 1 + 2, o2), (L + 1 + 1, o3), (L + 1, o4)]) → Top p loose mean mg mb h₀ → @LT.lt Nat _ 95 L → dp + 120 < recursionLimit → un + 1200 < cLine →
    m (Str.ofString "row") = some (.ref R) → m (Str.ofString "away") = some (.ref dA) → m (Str.ofString "width") = some (.int 1 tw) → m (Str.ofString "octets") = some (.bytes #[a.toNat.toUInt8, b.toNat.toUInt8, c.toNat.toUInt8, d.toNat.toUInt8] tO) → (hI : @LT.lt Nat _ (L + 1 + 3) I) → (hW : @LT.lt Nat _ (L + 1 + 3) WL) → (hWI : @LT.lt Nat _ WL I) → (hA : @LT.lt Nat _ (L + 1 + 3) dA) → (hAI : @LT.lt Nat _ dA I) → (hoff : Offs [R] L) → (hRI : @Ne Nat R I) → (e1 : o1.data = .cell vf) → (e2 : o2.data = .cell (some (.int pl tpl))) → (e3 : o3.data = .cell (some (.int sp tsp))) → (B : B4 a b c d) → (hu : HueR a b c d sp pl) → (q0 : -9000000 ≤ pl) → (q1 : pl ≤ 9000000) → (n0 : 0 ≤ n) → (n1 : n ≤ 255) → (hw : AwayO oA as (fun k => 900 * (k - n))) → (ma : a ∈ as) → (mb : b ∈ as) → (mc : c ∈ as) → (md : d ∈ as) → (hNB : NoneBooked base) → 
    (hret : ∀ {h' : Heap} {tk' : Nat} {m' : Str → Option Value} {R' : Addr} {v0' v1' v2' v3' tO' tpl' : Tok} {nR' : Nat} {o1' o2' : Obj} {vf' : Option Value}, Fr h₀ L h' m' → m' (Str.ofString "row") = some (.ref R') → m' (Str.ofString "away") = some (.ref dA) → m' (Str.ofString "octets") = some (.bytes #[a.toNat.toUInt8, b.toNat.toUInt8, c.toNat.toUInt8, d.toNat.toUInt8] tO') →
      News h₀ L h' ((R', W.listOf #[.int a v0', .int b v1', .int c v2', .int d v3'] nR') :: (I, oI) :: (WL, oW) :: (95, tabObj x) :: (dA, oA) :: [(L + 1 + 3, o1'), (L + 1 + 2, o2'), (L + 1 + 1, o3), (L + 1, o4)]) → o1'.data = .cell vf' → o2'.data = .cell (some (.int (pl) tpl')) → Offs [R'] L → @Ne Nat R' I → Q .next { s with heap := h', toks := tk' }) → 
    wpS (model PySem.Challenge.rw_zo0001_01.prog w) (lawA dp un L a' ccd) (execs (loopBody.drop 0) (lawEnv L a' ccd)) Q Nev s := by
  k_fill
  intro dp un a' ccd A₀ base h₀ L m s Q o1 o2 o3 o4 I WL R dA oI oW oA x nR a b c d n sp pl as vf v0 v1 v2 v3 tsp tpl tO tw B0 F00 X0 N0 T0 h95 hdp hun hm_row hm_away hm_width hm_octets hI hW hWI hA hAI hoff hRI e1 e2 e3 B hu q0 q1 n0 n1 hw ma mb mc md hNB hret
  have F0 := fr_conv F00 [(Str.ofString "row", .ref R), (Str.ofString "away", .ref dA), (Str.ofString "width", .int 1 tw), (Str.ofString "octets", .bytes #[a.toNat.toUInt8, b.toNat.toUInt8, c.toNat.toUInt8, d.toNat.toUInt8] tO)] (fr_all (.cons (.cons (.cons (.cons .nil hm_octets) hm_width) hm_away) hm_row))
  clear F00
  have sb := hue_sp B hu
  have B2 : B4 a b c d := ⟨B.a0, B.a1, B.b0, B.b1, B.c0, B.c1, B.d0, B.d1⟩
  have hu2 : HueR a b c d sp (pl) := turn1 hu
  have xb := xyz_b B2
  have nk := near_ok B2 hu2
  have fk := far_ok (n := n) B2 hu2
  have sd := sides_ok B2 hu2
  refine body1_1 B0 F0 X0 N0 T0 h95 hdp hun rfl rfl rfl rfl hI hW hWI hA hAI hoff hRI B.a0 B.a1 B.b0 B.b1 B.c0 B.c1 B.d0 B.d1 e2 e3 sb.1 sb.2 (by (first | exact om374 q0 | omega)) (by (first | exact om373 q1 | omega)) ?_
  intro R1 tO1 h1 tk1 m1 F1 r1 r2 r3 r4 N1 off1 ne1
  refine body2_1 (s := { s with heap := h1, toks := tk1 }) B0 F1 X0 N1 T0 h95 hdp hun r1 r2 r3 r4 hI hW hWI hA hAI off1 ne1 B2.a0 B2.a1 B2.b0 B2.b1 B2.c0 B2.c1 B2.d0 B2.d1 e2 e3 sb.1 sb.2 (by (first | exact om374 q0 | omega)) (by (first | exact om373 q1 | omega)) ?_
  intro h2 tk2 m2 o2' tpl2 F2 r1 r2 r4 N2 e2'
  refine body3 (s := { s with heap := h2, toks := tk2 }) B0 F2 X0 N2 T0 h95 hdp hun r1 r2 r4 hI hW hWI hA hAI off1 ne1 B2.a0 B2.a1 B2.b0 B2.b1 B2.c0 B2.c1 B2.d0 B2.d1 e2' e3 sb.1 sb.2 (by (first | exact om374 q0 | omega)) (by (first | exact om373 q1 | omega)) xb.1.1 (by (first | exact om296 xb | omega)) xb.2.1.1 (by (first | exact om295 xb | omega)) xb.2.2.1 (by (first | exact om294 xb | omega)) hNB nk.1 nk.2 ?_
  intro h3 tk3 m3 u0 u1 u2 u3 F3 a1 a2 a3 a4 r1 r2 r4 N3
  refine body4 (s := { s with heap := h3, toks := tk3 }) B0 F3 X0 N3 T0 h95 hdp hun r1 r2 r4 a1 a2 a3 a4 hI hW hWI hA hAI off1 ne1 B2.a0 B2.a1 B2.b0 B2.b1 B2.c0 B2.c1 B2.d0 B2.d1 e1 e2' e3 sb.1 sb.2 (by (first | exact om374 q0 | omega)) (by (first | exact om373 q1 | omega)) n0 n1 hw ma mb mc md fk.1.1.1 fk.1.1.2 fk.1.2.1.1 fk.1.2.1.2 fk.1.2.2.1 fk.1.2.2.2 hNB fk.2.1 fk.2.2 ?_
  intro h4 tk4 m4 o1' vf' F4 r1 r2 r4 N4 e1'
  refine body5 (s := { s with heap := h4, toks := tk4 }) B0 F4 X0 N4 T0 h95 hdp hun r1 r2 r4 hI hW hWI hA hAI off1 ne1 B2.a0 B2.a1 B2.b0 B2.b1 B2.c0 B2.c1 B2.d0 B2.d1 e2' e3 sb.1 sb.2 (by (first | exact om374 q0 | omega)) (by (first | exact om373 q1 | omega)) ?_
  intro h5 tk5 m5 u0 u1 u2 u3 F5 a1 a2 a3 a4 r1 r2 r4 N5
  refine body6 (s := { s with heap := h5, toks := tk5 }) B0 F5 X0 N5 T0 h95 hdp hun r1 r2 r4 a1 a2 a3 a4 hI hW hWI hA hAI off1 ne1 e2' e3 sb.1 sb.2 (by (first | exact om374 q0 | omega)) (by (first | exact om373 q1 | omega)) sd.1 sd.2.1 sd.2.2 ?_
  intro h6 tk6 m6 F6 r1 r2 r4 N6
  exact hret F6 r1 r2 r4 N6 e1' e2' off1 ne1
theorem turn_2 {w : World} {p : Program} {loose : List Str} {mean : ExcName → Option Value} {mg mb : Str → Option Value} :
    ∀ {dp un : Nat} {a' : Addr} {ccd : Value} {A₀ : Around} {base h₀ : Heap} {L : Addr} {m : Str → Option Value} {s : Shared} {Q : Flow → Shared → Prop} {o1 o2 o3 o4 : Obj} {I WL R dA : Addr} {oI oW oA : Obj} {x : Array Value} {nR : Nat} {a b c d n sp pl : Int} {as : List Int} {vf : Option Value} {v0 v1 v2 v3 tsp tpl tO tw : Tok},
    Below A₀ base [] h₀ → Fr h₀ L s.heap m → (hd.heap_39 w.params).In h₀ → News h₀ L s.heap ((R, W.listOf #[.int a v0, .int b v1, .int c v2, .int d v3] nR) :: (I, oI) :: (WL, oW) :: (95, tabObj x) :: (dA, oA) :: [(L + 1 + 3, o1), (L + 1 + 2, o2), (L + 1 + 1, o3), (L + 1, o4)]) → Top p loose mean mg mb h₀ → @LT.lt Nat _ 95 L → dp + 120 < recursionLimit → un + 1200 < cLine →
    m (Str.ofString "row") = some (.ref R) → m (Str.ofString "away") = some (.ref dA) → m (Str.ofString "width") = some (.int 2 tw) → m (Str.ofString "octets") = some (.bytes #[a.toNat.toUInt8, b.toNat.toUInt8, c.toNat.toUInt8, d.toNat.toUInt8] tO) → (hI : @LT.lt Nat _ (L + 1 + 3) I) → (hW : @LT.lt Nat _ (L + 1 + 3) WL) → (hWI : @LT.lt Nat _ WL I) → (hA : @LT.lt Nat _ (L + 1 + 3) dA) → (hAI : @LT.lt Nat _ dA I) → (hoff : Offs [R] L) → (hRI : @Ne Nat R I) → (e1 : o1.data = .cell vf) → (e2 : o2.data = .cell (some (.int pl tpl))) → (e3 : o3.data = .cell (some (.int sp tsp))) → (B : B4 a b c d) → (hu : HueR a b c d sp pl) → (q0 : -9000000 ≤ pl) → (q1 : pl ≤ 9000000) → (n0 : 0 ≤ n) → (n1 : n ≤ 255) → (hw : AwayO oA as (fun k => 900 * (k - n))) → (ma : a ∈ as) → (mb : b ∈ as) → (mc : c ∈ as) → (md : d ∈ as) → (hNB : NoneBooked base) → 
    (hret : ∀ {h' : Heap} {tk' : Nat} {m' : Str → Option Value} {R' : Addr} {v0' v1' v2' v3' tO' tpl' : Tok} {nR' : Nat} {o1' o2' : Obj} {vf' : Option Value}, Fr h₀ L h' m' → m' (Str.ofString "row") = some (.ref R') → m' (Str.ofString "away") = some (.ref dA) → m' (Str.ofString "octets") = some (.bytes #[b.toNat.toUInt8, a.toNat.toUInt8, c.toNat.toUInt8, d.toNat.toUInt8] tO') →
      News h₀ L h' ((R', W.listOf #[.int b v0', .int a v1', .int c v2', .int d v3'] nR') :: (I, oI) :: (WL, oW) :: (95, tabObj x) :: (dA, oA) :: [(L + 1 + 3, o1'), (L + 1 + 2, o2'), (L + 1 + 1, o3), (L + 1, o4)]) → o1'.data = .cell vf' → o2'.data = .cell (some (.int (-pl) tpl')) → Offs [R'] L → @Ne Nat R' I → Q .next { s with heap := h', toks := tk' }) → 
    wpS (model PySem.Challenge.rw_zo0001_01.prog w) (lawA dp un L a' ccd) (execs (loopBody.drop 0) (lawEnv L a' ccd)) Q Nev s := by
  k_fill
  intro dp un a' ccd A₀ base h₀ L m s Q o1 o2 o3 o4 I WL R dA oI oW oA x nR a b c d n sp pl as vf v0 v1 v2 v3 tsp tpl tO tw B0 F00 X0 N0 T0 h95 hdp hun hm_row hm_away hm_width hm_octets hI hW hWI hA hAI hoff hRI e1 e2 e3 B hu q0 q1 n0 n1 hw ma mb mc md hNB hret
  have F0 := fr_conv F00 [(Str.ofString "row", .ref R), (Str.ofString "away", .ref dA), (Str.ofString "width", .int 2 tw), (Str.ofString "octets", .bytes #[a.toNat.toUInt8, b.toNat.toUInt8, c.toNat.toUInt8, d.toNat.toUInt8] tO)] (fr_all (.cons (.cons (.cons (.cons .nil hm_octets) hm_width) hm_away) hm_row))
  clear F00
  have sb := hue_sp B hu
  have B2 : B4 b a c d := ⟨B.b0, B.b1, B.a0, B.a1, B.c0, B.c1, B.d0, B.d1⟩
  have hu2 : HueR b a c d sp (-pl) := turn2 hu
  have xb := xyz_b B2
  have nk := near_ok B2 hu2
  have fk := far_ok (n := n) B2 hu2
  have sd := sides_ok B2 hu2
  refine body1_2 B0 F0 X0 N0 T0 h95 hdp hun rfl rfl rfl rfl hI hW hWI hA hAI hoff hRI B.a0 B.a1 B.b0 B.b1 B.c0 B.c1 B.d0 B.d1 e2 e3 sb.1 sb.2 (by (first | exact om374 q0 | omega)) (by (first | exact om373 q1 | omega)) ?_
  intro R1 tO1 h1 tk1 m1 F1 r1 r2 r3 r4 N1 off1 ne1
  refine body2_2 (s := { s with heap := h1, toks := tk1 }) B0 F1 X0 N1 T0 h95 hdp hun r1 r2 r3 r4 hI hW hWI hA hAI off1 ne1 B2.a0 B2.a1 B2.b0 B2.b1 B2.c0 B2.c1 B2.d0 B2.d1 e2 e3 sb.1 sb.2 (by (first | exact om374 q0 | omega)) (by (first | exact om373 q1 | omega)) ?_
  intro h2 tk2 m2 o2' tpl2 F2 r1 r2 r4 N2 e2'
  refine body3 (s := { s with heap := h2, toks := tk2 }) B0 F2 X0 N2 T0 h95 hdp hun r1 r2 r4 hI hW hWI hA hAI off1 ne1 B2.a0 B2.a1 B2.b0 B2.b1 B2.c0 B2.c1 B2.d0 B2.d1 e2' e3 sb.1 sb.2 (by (first | exact om378 q1 | omega)) (by (first | exact om377 q0 | omega)) xb.1.1 (by (first | exact om296 xb | omega)) xb.2.1.1 (by (first | exact om295 xb | omega)) xb.2.2.1 (by (first | exact om294 xb | omega)) hNB nk.1 nk.2 ?_
  intro h3 tk3 m3 u0 u1 u2 u3 F3 a1 a2 a3 a4 r1 r2 r4 N3
  refine body4 (s := { s with heap := h3, toks := tk3 }) B0 F3 X0 N3 T0 h95 hdp hun r1 r2 r4 a1 a2 a3 a4 hI hW hWI hA hAI off1 ne1 B2.a0 B2.a1 B2.b0 B2.b1 B2.c0 B2.c1 B2.d0 B2.d1 e1 e2' e3 sb.1 sb.2 (by (first | exact om378 q1 | omega)) (by (first | exact om377 q0 | omega)) n0 n1 hw mb ma mc md fk.1.1.1 fk.1.1.2 fk.1.2.1.1 fk.1.2.1.2 fk.1.2.2.1 fk.1.2.2.2 hNB fk.2.1 fk.2.2 ?_
  intro h4 tk4 m4 o1' vf' F4 r1 r2 r4 N4 e1'
  refine body5 (s := { s with heap := h4, toks := tk4 }) B0 F4 X0 N4 T0 h95 hdp hun r1 r2 r4 hI hW hWI hA hAI off1 ne1 B2.a0 B2.a1 B2.b0 B2.b1 B2.c0 B2.c1 B2.d0 B2.d1 e2' e3 sb.1 sb.2 (by (first | exact om378 q1 | omega)) (by (first | exact om377 q0 | omega)) ?_
  intro h5 tk5 m5 u0 u1 u2 u3 F5 a1 a2 a3 a4 r1 r2 r4 N5
  refine body6 (s := { s with heap := h5, toks := tk5 }) B0 F5 X0 N5 T0 h95 hdp hun r1 r2 r4 a1 a2 a3 a4 hI hW hWI hA hAI off1 ne1 e2' e3 sb.1 sb.2 (by (first | exact om378 q1 | omega)) (by (first | exact om377 q0 | omega)) sd.1 sd.2.1 sd.2.2 ?_
  intro h6 tk6 m6 F6 r1 r2 r4 N6
  exact hret F6 r1 r2 r4 N6 e1' e2' off1 ne1
theorem turn_3 {w : World} {p : Program} {loose : List Str} {mean : ExcName → Option Value} {mg mb : Str → Option Value} :
    ∀ {dp un : Nat} {a' : Addr} {ccd : Value} {A₀ : Around} {base h₀ : Heap} {L : Addr} {m : Str → Option Value} {s : Shared} {Q : Flow → Shared → Prop} {o1 o2 o3 o4 : Obj} {I WL R dA : Addr} {oI oW oA : Obj} {x : Array Value} {nR : Nat} {a b c d n sp pl : Int} {as : List Int} {vf : Option Value} {v0 v1 v2 v3 tsp tpl tO tw : Tok},
    Below A₀ base [] h₀ → Fr h₀ L s.heap m → (hd.heap_39 w.params).In h₀ → News h₀ L s.heap ((R, W.listOf #[.int a v0, .int b v1, .int c v2, .int d v3] nR) :: (I, oI) :: (WL, oW) :: (95, tabObj x) :: (dA, oA) :: [(L + 1 + 3, o1), (L + 1 + 2, o2), (L + 1 + 1, o3), (L + 1, o4)]) → Top p loose mean mg mb h₀ → @LT.lt Nat _ 95 L → dp + 120 < recursionLimit → un + 1200 < cLine →
    m (Str.ofString "row") = some (.ref R) → m (Str.ofString "away") = some (.ref dA) → m (Str.ofString "width") = some (.int 3 tw) → m (Str.ofString "octets") = some (.bytes #[a.toNat.toUInt8, b.toNat.toUInt8, c.toNat.toUInt8, d.toNat.toUInt8] tO) → (hI : @LT.lt Nat _ (L + 1 + 3) I) → (hW : @LT.lt Nat _ (L + 1 + 3) WL) → (hWI : @LT.lt Nat _ WL I) → (hA : @LT.lt Nat _ (L + 1 + 3) dA) → (hAI : @LT.lt Nat _ dA I) → (hoff : Offs [R] L) → (hRI : @Ne Nat R I) → (e1 : o1.data = .cell vf) → (e2 : o2.data = .cell (some (.int pl tpl))) → (e3 : o3.data = .cell (some (.int sp tsp))) → (B : B4 a b c d) → (hu : HueR a b c d sp pl) → (q0 : -9000000 ≤ pl) → (q1 : pl ≤ 9000000) → (n0 : 0 ≤ n) → (n1 : n ≤ 255) → (hw : AwayO oA as (fun k => 900 * (k - n))) → (ma : a ∈ as) → (mb : b ∈ as) → (mc : c ∈ as) → (md : d ∈ as) → (hNB : NoneBooked base) → 
    (hret : ∀ {h' : Heap} {tk' : Nat} {m' : Str → Option Value} {R' : Addr} {v0' v1' v2' v3' tO' tpl' : Tok} {nR' : Nat} {o1' o2' : Obj} {vf' : Option Value}, Fr h₀ L h' m' → m' (Str.ofString "row") = some (.ref R') → m' (Str.ofString "away") = some (.ref dA) → m' (Str.ofString "octets") = some (.bytes #[c.toNat.toUInt8, b.toNat.toUInt8, a.toNat.toUInt8, d.toNat.toUInt8] tO') →
      News h₀ L h' ((R', W.listOf #[.int c v0', .int b v1', .int a v2', .int d v3'] nR') :: (I, oI) :: (WL, oW) :: (95, tabObj x) :: (dA, oA) :: [(L + 1 + 3, o1'), (L + 1 + 2, o2'), (L + 1 + 1, o3), (L + 1, o4)]) → o1'.data = .cell vf' → o2'.data = .cell (some (.int (4 * sp - pl) tpl')) → Offs [R'] L → @Ne Nat R' I → Q .next { s with heap := h', toks := tk' }) → 
    wpS (model PySem.Challenge.rw_zo0001_01.prog w) (lawA dp un L a' ccd) (execs (loopBody.drop 0) (lawEnv L a' ccd)) Q Nev s := by
  k_fill
  intro dp un a' ccd A₀ base h₀ L m s Q o1 o2 o3 o4 I WL R dA oI oW oA x nR a b c d n sp pl as vf v0 v1 v2 v3 tsp tpl tO tw B0 F00 X0 N0 T0 h95 hdp hun hm_row hm_away hm_width hm_octets hI hW hWI hA hAI hoff hRI e1 e2 e3 B hu q0 q1 n0 n1 hw ma mb mc md hNB hret
  have F0 := fr_conv F00 [(Str.ofString "row", .ref R), (Str.ofString "away", .ref dA), (Str.ofString "width", .int 3 tw), (Str.ofString "octets", .bytes #[a.toNat.toUInt8, b.toNat.toUInt8, c.toNat.toUInt8, d.toNat.toUInt8] tO)] (fr_all (.cons (.cons (.cons (.cons .nil hm_octets) hm_width) hm_away) hm_row))
  clear F00
  have sb := hue_sp B hu
  have B2 : B4 c b a d := ⟨B.c0, B.c1, B.b0, B.b1, B.a0, B.a1, B.d0, B.d1⟩
  have hu2 : HueR c b a d sp (4 * sp - pl) := turn3 hu
  have xb := xyz_b B2
  have nk := near_ok B2 hu2
  have fk := far_ok (n := n) B2 hu2
  have sd := sides_ok B2 hu2
  refine body1_3 B0 F0 X0 N0 T0 h95 hdp hun rfl rfl rfl rfl hI hW hWI hA hAI hoff hRI B.a0 B.a1 B.b0 B.b1 B.c0 B.c1 B.d0 B.d1 e2 e3 sb.1 sb.2 (by (first | exact om374 q0 | omega)) (by (first | exact om373 q1 | omega)) ?_
  intro R1 tO1 h1 tk1 m1 F1 r1 r2 r3 r4 N1 off1 ne1
  refine body2_3 (s := { s with heap := h1, toks := tk1 }) B0 F1 X0 N1 T0 h95 hdp hun r1 r2 r3 r4 hI hW hWI hA hAI off1 ne1 B2.a0 B2.a1 B2.b0 B2.b1 B2.c0 B2.c1 B2.d0 B2.d1 e2 e3 sb.1 sb.2 (by (first | exact om374 q0 | omega)) (by (first | exact om373 q1 | omega)) ?_
  intro h2 tk2 m2 o2' tpl2 F2 r1 r2 r4 N2 e2'
  refine body3 (s := { s with heap := h2, toks := tk2 }) B0 F2 X0 N2 T0 h95 hdp hun r1 r2 r4 hI hW hWI hA hAI off1 ne1 B2.a0 B2.a1 B2.b0 B2.b1 B2.c0 B2.c1 B2.d0 B2.d1 e2' e3 sb.1 sb.2 (by (first | exact om376 q1 sb | omega)) (by (first | exact om375 q0 sb | omega)) xb.1.1 (by (first | exact om296 xb | omega)) xb.2.1.1 (by (first | exact om295 xb | omega)) xb.2.2.1 (by (first | exact om294 xb | omega)) hNB nk.1 nk.2 ?_
  intro h3 tk3 m3 u0 u1 u2 u3 F3 a1 a2 a3 a4 r1 r2 r4 N3
  refine body4 (s := { s with heap := h3, toks := tk3 }) B0 F3 X0 N3 T0 h95 hdp hun r1 r2 r4 a1 a2 a3 a4 hI hW hWI hA hAI off1 ne1 B2.a0 B2.a1 B2.b0 B2.b1 B2.c0 B2.c1 B2.d0 B2.d1 e1 e2' e3 sb.1 sb.2 (by (first | exact om376 q1 sb | omega)) (by (first | exact om375 q0 sb | omega)) n0 n1 hw mc mb ma md fk.1.1.1 fk.1.1.2 fk.1.2.1.1 fk.1.2.1.2 fk.1.2.2.1 fk.1.2.2.2 hNB fk.2.1 fk.2.2 ?_
  intro h4 tk4 m4 o1' vf' F4 r1 r2 r4 N4 e1'
  refine body5 (s := { s with heap := h4, toks := tk4 }) B0 F4 X0 N4 T0 h95 hdp hun r1 r2 r4 hI hW hWI hA hAI off1 ne1 B2.a0 B2.a1 B2.b0 B2.b1 B2.c0 B2.c1 B2.d0 B2.d1 e2' e3 sb.1 sb.2 (by (first | exact om376 q1 sb | omega)) (by (first | exact om375 q0 sb | omega)) ?_
  intro h5 tk5 m5 u0 u1 u2 u3 F5 a1 a2 a3 a4 r1 r2 r4 N5
  refine body6 (s := { s with heap := h5, toks := tk5 }) B0 F5 X0 N5 T0 h95 hdp hun r1 r2 r4 a1 a2 a3 a4 hI hW hWI hA hAI off1 ne1 e2' e3 sb.1 sb.2 (by (first | exact om376 q1 sb | omega)) (by (first | exact om375 q0 sb | omega)) sd.1 sd.2.1 sd.2.2 ?_
  intro h6 tk6 m6 F6 r1 r2 r4 N6
  exact hret F6 r1 r2 r4 N6 e1' e2' off1 ne1
theorem turn_4 {w : World} {p : Program} {loose : List Str} {mean : ExcName → Option Value} {mg mb : Str → Option Value} :
    ∀ {dp un : Nat} {a' : Addr} {ccd : Value} {A₀ : Around} {base h₀ : Heap} {L : Addr} {m : Str → Option Value} {s : Shared} {Q : Flow → Shared → Prop} {o1 o2 o3 o4 : Obj} {I WL R dA : Addr} {oI oW oA : Obj} {x : Array Value} {nR : Nat} {a b c d n sp pl : Int} {as : List Int} {vf : Option Value} {v0 v1 v2 v3 tsp tpl tO tw : Tok},
    Below A₀ base [] h₀ → Fr h₀ L s.heap m → (hd.heap_39 w.params).In h₀ → News h₀ L s.heap ((R, W.listOf #[.int a v0, .int b v1, .int c v2, .int d v3] nR) :: (I, oI) :: (WL, oW) :: (95, tabObj x) :: (dA, oA) :: [(L + 1 + 3, o1), (L + 1 + 2, o2), (L + 1 + 1, o3), (L + 1, o4)]) → Top p loose mean mg mb h₀ → @LT.lt Nat _ 95 L → dp + 120 < recursionLimit → un + 1200 < cLine →
    m (Str.ofString "row") = some (.ref R) → m (Str.ofString "away") = some (.ref dA) → m (Str.ofString "width") = some (.int 4 tw) → m (Str.ofString "octets") = some (.bytes #[a.toNat.toUInt8, b.toNat.toUInt8, c.toNat.toUInt8, d.toNat.toUInt8] tO) → (hI : @LT.lt Nat _ (L + 1 + 3) I) → (hW : @LT.lt Nat _ (L + 1 + 3) WL) → (hWI : @LT.lt Nat _ WL I) → (hA : @LT.lt Nat _ (L + 1 + 3) dA) → (hAI : @LT.lt Nat _ dA I) → (hoff : Offs [R] L) → (hRI : @Ne Nat R I) → (e1 : o1.data = .cell vf) → (e2 : o2.data = .cell (some (.int pl tpl))) → (e3 : o3.data = .cell (some (.int sp tsp))) → (B : B4 a b c d) → (hu : HueR a b c d sp pl) → (q0 : -9000000 ≤ pl) → (q1 : pl ≤ 9000000) → (n0 : 0 ≤ n) → (n1 : n ≤ 255) → (hw : AwayO oA as (fun k => 900 * (k - n))) → (ma : a ∈ as) → (mb : b ∈ as) → (mc : c ∈ as) → (md : d ∈ as) → (hNB : NoneBooked base) → 
    (hret : ∀ {h' : Heap} {tk' : Nat} {m' : Str → Option Value} {R' : Addr} {v0' v1' v2' v3' tO' tpl' : Tok} {nR' : Nat} {o1' o2' : Obj} {vf' : Option Value}, Fr h₀ L h' m' → m' (Str.ofString "row") = some (.ref R') → m' (Str.ofString "away") = some (.ref dA) → m' (Str.ofString "octets") = some (.bytes #[d.toNat.toUInt8, c.toNat.toUInt8, b.toNat.toUInt8, a.toNat.toUInt8] tO') →
      News h₀ L h' ((R', W.listOf #[.int d v0', .int c v1', .int b v2', .int a v3'] nR') :: (I, oI) :: (WL, oW) :: (95, tabObj x) :: (dA, oA) :: [(L + 1 + 3, o1'), (L + 1 + 2, o2'), (L + 1 + 1, o3), (L + 1, o4)]) → o1'.data = .cell vf' → o2'.data = .cell (some (.int (pl) tpl')) → Offs [R'] L → @Ne Nat R' I → Q .next { s with heap := h', toks := tk' }) → 
    wpS (model PySem.Challenge.rw_zo0001_01.prog w) (lawA dp un L a' ccd) (execs (loopBody.drop 0) (lawEnv L a' ccd)) Q Nev s := by
  k_fill
  intro dp un a' ccd A₀ base h₀ L m s Q o1 o2 o3 o4 I WL R dA oI oW oA x nR a b c d n sp pl as vf v0 v1 v2 v3 tsp tpl tO tw B0 F00 X0 N0 T0 h95 hdp hun hm_row hm_away hm_width hm_octets hI hW hWI hA hAI hoff hRI e1 e2 e3 B hu q0 q1 n0 n1 hw ma mb mc md hNB hret
  have F0 := fr_conv F00 [(Str.ofString "row", .ref R), (Str.ofString "away", .ref dA), (Str.ofString "width", .int 4 tw), (Str.ofString "octets", .bytes #[a.toNat.toUInt8, b.toNat.toUInt8, c.toNat.toUInt8, d.toNat.toUInt8] tO)] (fr_all (.cons (.cons (.cons (.cons .nil hm_octets) hm_width) hm_away) hm_row))
  clear F00
  have sb := hue_sp B hu
  have B2 : B4 d c b a := ⟨B.d0, B.d1, B.c0, B.c1, B.b0, B.b1, B.a0, B.a1⟩
  have hu2 : HueR d c b a sp (pl) := turn4 hu
  have xb := xyz_b B2
  have nk := near_ok B2 hu2
  have fk := far_ok (n := n) B2 hu2
  have sd := sides_ok B2 hu2
  refine body1_4 B0 F0 X0 N0 T0 h95 hdp hun rfl rfl rfl rfl hI hW hWI hA hAI hoff hRI B.a0 B.a1 B.b0 B.b1 B.c0 B.c1 B.d0 B.d1 e2 e3 sb.1 sb.2 (by (first | exact om374 q0 | omega)) (by (first | exact om373 q1 | omega)) ?_
  intro R1 tO1 h1 tk1 m1 F1 r1 r2 r3 r4 N1 off1 ne1
  refine body2_4 (s := { s with heap := h1, toks := tk1 }) B0 F1 X0 N1 T0 h95 hdp hun r1 r2 r3 r4 hI hW hWI hA hAI off1 ne1 B2.a0 B2.a1 B2.b0 B2.b1 B2.c0 B2.c1 B2.d0 B2.d1 e2 e3 sb.1 sb.2 (by (first | exact om374 q0 | omega)) (by (first | exact om373 q1 | omega)) ?_
  intro h2 tk2 m2 o2' tpl2 F2 r1 r2 r4 N2 e2'
  refine body3 (s := { s with heap := h2, toks := tk2 }) B0 F2 X0 N2 T0 h95 hdp hun r1 r2 r4 hI hW hWI hA hAI off1 ne1 B2.a0 B2.a1 B2.b0 B2.b1 B2.c0 B2.c1 B2.d0 B2.d1 e2' e3 sb.1 sb.2 (by (first | exact om374 q0 | omega)) (by (first | exact om373 q1 | omega)) xb.1.1 (by (first | exact om296 xb | omega)) xb.2.1.1 (by (first | exact om295 xb | omega)) xb.2.2.1 (by (first | exact om294 xb | omega)) hNB nk.1 nk.2 ?_
  intro h3 tk3 m3 u0 u1 u2 u3 F3 a1 a2 a3 a4 r1 r2 r4 N3
  refine body4 (s := { s with heap := h3, toks := tk3 }) B0 F3 X0 N3 T0 h95 hdp hun r1 r2 r4 a1 a2 a3 a4 hI hW hWI hA hAI off1 ne1 B2.a0 B2.a1 B2.b0 B2.b1 B2.c0 B2.c1 B2.d0 B2.d1 e1 e2' e3 sb.1 sb.2 (by (first | exact om374 q0 | omega)) (by (first | exact om373 q1 | omega)) n0 n1 hw md mc mb ma fk.1.1.1 fk.1.1.2 fk.1.2.1.1 fk.1.2.1.2 fk.1.2.2.1 fk.1.2.2.2 hNB fk.2.1 fk.2.2 ?_
  intro h4 tk4 m4 o1' vf' F4 r1 r2 r4 N4 e1'
  refine body5 (s := { s with heap := h4, toks := tk4 }) B0 F4 X0 N4 T0 h95 hdp hun r1 r2 r4 hI hW hWI hA hAI off1 ne1 B2.a0 B2.a1 B2.b0 B2.b1 B2.c0 B2.c1 B2.d0 B2.d1 e2' e3 sb.1 sb.2 (by (first | exact om374 q0 | omega)) (by (first | exact om373 q1 | omega)) ?_
  intro h5 tk5 m5 u0 u1 u2 u3 F5 a1 a2 a3 a4 r1 r2 r4 N5
  refine body6 (s := { s with heap := h5, toks := tk5 }) B0 F5 X0 N5 T0 h95 hdp hun r1 r2 r4 a1 a2 a3 a4 hI hW hWI hA hAI off1 ne1 e2' e3 sb.1 sb.2 (by (first | exact om374 q0 | omega)) (by (first | exact om373 q1 | omega)) sd.1 sd.2.1 sd.2.2 ?_
  intro h6 tk6 m6 F6 r1 r2 r4 N6
  exact hret F6 r1 r2 r4 N6 e1' e2' off1 ne1
end
section
open PySem PySem.W PyProof.Rows
set_option Elab.async false
set_option maxRecDepth 100000
set_option maxHeartbeats 8000000
set_option pp.deepTerms false
set_option pp.deepTerms.threshold 3
set_option pp.proofs false
theorem walk_anew_36 : True := by w_top off; trivial
--NOZS
inductive LJ (L : Addr) (sp : Int) (as : List Int) (dA : Addr) (oA o3 o4 : Obj) (x : Array Value) (i : Nat) (m : Str → Option Value) (news : List (Addr × Obj)) : Prop
  | mk (a b c d pl : Int) (R : Addr) (nR : Nat) (v0 v1 v2 v3 tO tpl : Tok) (o1 o2 : Obj) (vf : Option Value)
    (hB : B4 a b c d) (hu : HueR a b c d sp pl) (hpl : -(400000 + 400000 * (i : Int)) ≤ pl ∧ pl ≤ 400000 + 400000 * (i : Int)) (hm : a ∈ as ∧ b ∈ as ∧ c ∈ as ∧ d ∈ as)
    (hmm : m (Str.ofString "row") = some (.ref R) ∧ m (Str.ofString "away") = some (.ref dA) ∧ m (Str.ofString "octets") = some (.bytes #[a.toNat.toUInt8, b.toNat.toUInt8, c.toNat.toUInt8, d.toNat.toUInt8] tO))
    (hn : news = ((R, W.listOf #[.int a v0, .int b v1, .int c v2, .int d v3] nR) :: (95, tabObj x) :: (dA, oA) :: [(L + 1 + 3, o1), (L + 1 + 2, o2), (L + 1 + 1, o3), (L + 1, o4)])) (he : o1.data = .cell vf ∧ o2.data = .cell (some (.int pl tpl))) (hoff : Offs [R] L) :
    LJ L sp as dA oA o3 o4 x i m news
theorem ne_all {I R2 dA L : Addr} {a1 a2 a3 a4 a5 a6 a7 : Obj} (h : @Ne Nat R2 I) (h1 : @LT.lt Nat _ dA I) (h2 : @LT.lt Nat _ (L + 1 + 3) I) (h3 : @LT.lt Nat _ 95 L) : ∀ p ∈ [(R2, a1), (95, a2), (dA, a3), (L + 1 + 3, a4), (L + 1 + 2, a5), (L + 1 + 1, a6), (L + 1, a7)], @Ne Nat p.1 I := fun p hp => by
  simp only [List.mem_cons, List.not_mem_nil, or_false] at hp
  rcases hp with rfl | rfl | rfl | rfl | rfl | rfl | rfl
  · exact h
  all_goals (dsimp only; (first | exact om367 h2 h3 | exact om368 h1 | exact om369 h2 | exact om370 h2 | exact om371 h2 | exact om372 h2 | omega))
theorem ints_val {us : List Value} {ks : List Int} (h : IntsAre us ks) {i : Nat} {v : Value} (e : us[i]? = some v) : ∃ k t, v = .int k t ∧ k ∈ ks := by
  obtain ⟨k, t, rfl, hk⟩ := IntsAre.at h i v e
  exact ⟨k, t, rfl, List.mem_of_getElem? hk⟩
theorem loop_all {w : World} {p : Program} {loose : List Str} {mean : ExcName → Option Value} {mg mb : Str → Option Value} :
    ∀ {dp un : Nat} {a' : Addr} {ccd : Value} {A₀ : Around} {base h₀ : Heap} {L : Addr} {m : Str → Option Value} {s : Shared} {Q : Flow → Shared → Prop} {o3 o4 : Obj} {WL dA : Addr} {oA : Obj} {x : Array Value} {us : List Value} {ks as : List Int} {n sp : Int} {tsp : Tok} {news : List (Addr × Obj)},
    Below A₀ base [] h₀ → Fr h₀ L s.heap m → (hd.heap_39 w.params).In h₀ → News h₀ L s.heap ((WL, W.listOf us.toArray 0) :: news) → Top p loose mean mg mb h₀ → @LT.lt Nat _ 95 L → dp + 120 < recursionLimit → un + 1200 < cLine →
    LJ L sp as dA oA o3 o4 x 0 m news → IntsAre us ks → (ks.length ≤ 9 ∧ ∀ k ∈ ks, k = 1 ∨ k = 2 ∨ k = 3 ∨ k = 4) → @LT.lt Nat _ (L + 1 + 3) dA → @LT.lt Nat _ dA WL → o3.data = .cell (some (.int sp tsp)) → 0 ≤ n → n ≤ 255 → AwayO oA as (fun k => 900 * (k - n)) → NoneBooked base →
    (∀ h' tk' m' news', Fr h₀ L h' m' → News h₀ L h' news' → (95, tabObj x) ∈ news' → wpS (model PySem.Challenge.rw_zo0001_01.prog w) (lawA dp un L a' ccd) (execs (lawBody.drop 16) (lawEnv L a' ccd)) Q Nev { s with heap := h', toks := tk' }) →
    wpAny (model PySem.Challenge.rw_zo0001_01.prog w) (lawA dp un L a' ccd) (pyIter (.ref WL)) (fun it s₂ => codeS (model PySem.Challenge.rw_zo0001_01.prog w) (lawA dp un L a' ccd) (.forLoop loopTarget it loopBody [] (lawEnv L a' ccd)) (fun r s' => match r with | .ok f => (match f with | .next => wpS (model PySem.Challenge.rw_zo0001_01.prog w) (lawA dp un L a' ccd) (execs (lawBody.drop 16) (lawEnv L a' ccd)) Q Nev s' | f => Q f s') | .error _ => False) s₂) Nev s := by
  k_fill
  intro dp un a' ccd A₀ base h₀ L m s Q o3 o4 WL dA oA x us ks as n sp tsp news B0 F0 X0 N0 T0 h95 hdp hun hJ hus hks hA hAW e3 n0 n1 hw hNB hdone
  refine sl_list_loop (LJ L sp as dA oA o3 o4 x) rfl F0 N0 hJ ?turn ?done
  case done =>
    intro h' tk' m' news' F' N' hJ'
    obtain ⟨a, b, c, d, pl, R, nR, v0, v1, v2, v3, tO, tpl, o1, o2, vf, B, hu, hpl, hm, hmm, rfl, he, hoff⟩ := hJ'
    exact hdone h' tk' m' _ F' N' (.tail _ (.head _))
  case turn =>
    intro i v I oI h' tk' m' news' hv hJ' F' N' hWI ne
    obtain ⟨k, tw, rfl, hk⟩ := ints_val hus hv
    have hi : i < us.length := (List.getElem?_eq_some_iff.mp hv).1
    rw [hus.length] at hi
    obtain ⟨a, b, c, d, pl, R, nR, v0, v1, v2, v3, tO, tpl, o1, o2, vf, B, hu, hpl, ⟨ma, mb, mc, md⟩, ⟨hmr, hma, hmo⟩, rfl, ⟨e1, e2⟩, hoff⟩ := hJ'
    have hI : @LT.lt Nat _ (L + 1 + 3) I := by (first | exact om366 hA hAW hWI | omega)
    have hW : @LT.lt Nat _ (L + 1 + 3) WL := by (first | exact om365 hA hAW | omega)
    have hAI : @LT.lt Nat _ dA I := by (first | exact om364 hAW hWI | omega)
    have hRI : @Ne Nat R I := ne (R, _) (.head _)
    have N1 := news_in N'
    clear N'
    have F1 := fr_conv F' [(Str.ofString "row", .ref R), (Str.ofString "away", .ref dA), (Str.ofString "octets", .bytes #[a.toNat.toUInt8, b.toNat.toUInt8, c.toNat.toUInt8, d.toNat.toUInt8] tO)] (fr_all (.cons (.cons (.cons .nil hmo) hma) hmr))
    clear F'
    have hil := hks.1
    dsimp only [loopTarget, loopTargetP]
    k_steps
    rename Fr _ _ _ _ => F9
    rename News _ _ _ _ => N9
    rcases hks.2 k hk with rfl | rfl | rfl | rfl
    · refine turn_1 B0 F9 X0 N9 T0 h95 hdp hun (by exact rfl) (by exact rfl) (by exact rfl) (by exact rfl) hI hW hWI hA hAI hoff hRI e1 e2 e3 B hu (by (first | exact om359 hi hpl hil | omega)) (by (first | exact om358 hi hpl hil | omega)) n0 n1 hw ma mb mc md hNB ?_
      intro h2 tk2 m2 R2 v0' v1' v2' v3' tO' tpl' nR' o1' o2' vf' F2 r1 r2 r3 N2 e1' e2' off' ne'
      exact ⟨h2, tk2, m2, _, rfl, F2, news_out N2, ne_all ne' hAI hI h95, a , b , c , d, _, R2, nR', v0', v1', v2', v3', tO', tpl', o1', o2', vf', ⟨B.a0, B.a1, B.b0, B.b1, B.c0, B.c1, B.d0, B.d1⟩, turn1 hu, (by have sb := hue_sp B hu; constructor <;> (push_cast; (first | exact om356 hpl | exact om357 hpl | omega))), ⟨ma, mb, mc, md⟩, ⟨r1, r2, r3⟩, rfl, ⟨e1', e2'⟩, off'⟩
    · refine turn_2 B0 F9 X0 N9 T0 h95 hdp hun (by exact rfl) (by exact rfl) (by exact rfl) (by exact rfl) hI hW hWI hA hAI hoff hRI e1 e2 e3 B hu (by (first | exact om359 hi hpl hil | omega)) (by (first | exact om358 hi hpl hil | omega)) n0 n1 hw ma mb mc md hNB ?_
      intro h2 tk2 m2 R2 v0' v1' v2' v3' tO' tpl' nR' o1' o2' vf' F2 r1 r2 r3 N2 e1' e2' off' ne'
      exact ⟨h2, tk2, m2, _, rfl, F2, news_out N2, ne_all ne' hAI hI h95, b , a , c , d, _, R2, nR', v0', v1', v2', v3', tO', tpl', o1', o2', vf', ⟨B.b0, B.b1, B.a0, B.a1, B.c0, B.c1, B.d0, B.d1⟩, turn2 hu, (by have sb := hue_sp B hu; constructor <;> (push_cast; (first | exact om362 hpl | exact om363 hpl | omega))), ⟨mb, ma, mc, md⟩, ⟨r1, r2, r3⟩, rfl, ⟨e1', e2'⟩, off'⟩
    · refine turn_3 B0 F9 X0 N9 T0 h95 hdp hun (by exact rfl) (by exact rfl) (by exact rfl) (by exact rfl) hI hW hWI hA hAI hoff hRI e1 e2 e3 B hu (by (first | exact om359 hi hpl hil | omega)) (by (first | exact om358 hi hpl hil | omega)) n0 n1 hw ma mb mc md hNB ?_
      intro h2 tk2 m2 R2 v0' v1' v2' v3' tO' tpl' nR' o1' o2' vf' F2 r1 r2 r3 N2 e1' e2' off' ne'
      exact ⟨h2, tk2, m2, _, rfl, F2, news_out N2, ne_all ne' hAI hI h95, c , b , a , d, _, R2, nR', v0', v1', v2', v3', tO', tpl', o1', o2', vf', ⟨B.c0, B.c1, B.b0, B.b1, B.a0, B.a1, B.d0, B.d1⟩, turn3 hu, (by have sb := hue_sp B hu; constructor <;> (push_cast; (first | exact om360 hpl sb | exact om361 hpl sb | omega))), ⟨mc, mb, ma, md⟩, ⟨r1, r2, r3⟩, rfl, ⟨e1', e2'⟩, off'⟩
    · refine turn_4 B0 F9 X0 N9 T0 h95 hdp hun (by exact rfl) (by exact rfl) (by exact rfl) (by exact rfl) hI hW hWI hA hAI hoff hRI e1 e2 e3 B hu (by (first | exact om359 hi hpl hil | omega)) (by (first | exact om358 hi hpl hil | omega)) n0 n1 hw ma mb mc md hNB ?_
      intro h2 tk2 m2 R2 v0' v1' v2' v3' tO' tpl' nR' o1' o2' vf' F2 r1 r2 r3 N2 e1' e2' off' ne'
      exact ⟨h2, tk2, m2, _, rfl, F2, news_out N2, ne_all ne' hAI hI h95, d , c , b , a, _, R2, nR', v0', v1', v2', v3', tO', tpl', o1', o2', vf', ⟨B.d0, B.d1, B.c0, B.c1, B.b0, B.b1, B.a0, B.a1⟩, turn4 hu, (by have sb := hue_sp B hu; constructor <;> (push_cast; (first | exact om356 hpl | exact om357 hpl | omega))), ⟨md, mc, mb, ma⟩, ⟨r1, r2, r3⟩, rfl, ⟨e1', e2'⟩, off'⟩
end
section
open PySem PySem.W PyProof.Rows
set_option Elab.async false
set_option maxRecDepth 100000
set_option maxHeartbeats 8000000
set_option pp.deepTerms false
set_option pp.deepTerms.threshold 3
set_option pp.proofs false
theorem walk_anew_37 : True := by w_top off; trivial
--NOZS
theorem fm_b (x : Int) : 0 ≤ x.fmod 256 ∧ x.fmod 256 ≤ 255 := by rw [Int.fmod_eq_emod_of_nonneg _ (by decide)]; (first | exact om410 | omega)
theorem news_r4 {h₀ h : Heap} {L : Addr} {p1 p2 p3 p4 p5 p6 p7 : Addr × Obj} (N : News h₀ L h [p1, p2, p3, p4, p5, p6, p7]) : News h₀ L h [p7, p2, p1, p3, p4, p5, p6] := fun p hp => N p (by
  simp only [List.mem_cons, List.not_mem_nil, or_false] at hp ⊢
  rcases hp with h | h | h | h | h | h | h <;> subst h <;> simp)
theorem news_sw {h₀ h : Heap} {L : Addr} {p1 p2 p3 : Addr × Obj} {l : List (Addr × Obj)} (N : News h₀ L h (p1 :: p2 :: p3 :: l)) : News h₀ L h (p1 :: p3 :: p2 :: l) := fun p hp => N p (by
  simp only [List.mem_cons] at hp ⊢
  rcases hp with h | h | h | h
  · exact .inl h
  · exact .inr (.inr (.inl h))
  · exact .inr (.inl h)
  · exact .inr (.inr (.inr h)))
theorem tab_ne {h₀ h : Heap} {L R : Addr} {xs : Array Value} {k : Nat} {x : Array Value} {l : List (Addr × Obj)} (N : News h₀ L h l) (h1 : (R, W.listOf xs k) ∈ l) (h2 : (95, tabObj x) ∈ l) : @Ne Nat R 95 :=
  News.twoPlaces N h1 h2 (fun e => by have := congrArg Obj.cls e; cases this)
theorem law_walk {w : World} {p : Program} {loose : List Str} {mean : ExcName → Option Value} {mg mb : Str → Option Value} :
    ∀ {dp un : Nat} {a' : Addr} {ccd : Value} {A₀ : Around} {base h₀ : Heap} {L : Addr} {m : Str → Option Value} {s : Shared} {Q : Flow → Shared → Prop} {r : Addr} {vs : List Value} {ns : List Int} {o1 o2 o3 o4 : Obj},
    Below A₀ base [] h₀ → Fr h₀ L s.heap m → (hd.heap_39 w.params).In h₀ → News h₀ L s.heap [(L + 1 + 3, o1), (L + 1 + 2, o2), (L + 1 + 1, o3), (L + 1, o4), (95, tabObj #[])] → Top p loose mean mg mb h₀ →
    h₀.IsList r vs.toArray → IntsAre vs ns → m (Str.ofString "script") = some (.ref r) → ¬ (63 : Int) < (ns.length : Int) → dp + 120 < recursionLimit → un + 1200 < cLine → @LT.lt Nat _ 95 L →
    o1.data = .cell none → o2.data = .cell none → o3.data = .cell none → o4.data = .cell none → CodeHd base 99 95 → NoneBooked base →
    (∀ h' tk' m' news' x, Fr h₀ L h' m' → News h₀ L h' news' → (95, tabObj x) ∈ news' → Q (.ret (.bool true)) { s with heap := h', toks := tk' }) →
    wpS (model PySem.Challenge.rw_zo0001_01.prog w) (lawA dp un L a' ccd) (execs lawBody (lawEnv L a' ccd)) Q Nev s := by
  k_fill
  intro dp un a' ccd A₀ base h₀ L m s Q r vs ns o1 o2 o3 o4 B0 F0 X0 N0 T0 hl0 hi0 hm0 hlen hdp hun h95 e1 e2 e3 e4 hC hNB hQ
  have hdp8 : dp + 80 < recursionLimit := by omega
  have hun8 : un + 800 < cLine := by omega
  refine stage1 B0 F0 X0 N0 T0 hl0 hi0 hm0 hlen hdp8 hun8 ?_
  intro D h1 tk1 t1 t2 t3 t4 t5 F1 N1 hD1
  generalize 97 + sc ns 0 = d0 at N1
  generalize 12 + sc ns 1 = d1 at N1
  generalize 180 + sc ns 2 = d2 at N1
  generalize 55 + sc ns 3 = d3 at N1
  generalize 130 + sc ns 4 = d4 at N1
  refine stage2 (s := { s with heap := h1, toks := tk1 }) B0 F1 X0 N1 T0 h95 hdp8 hun8 (by exact rfl) (by exact rfl) hD1 e1 e2 e3 e4 ?_
  intro R T h2 tk2 m2 o4' u0 u1 u2 u3 v0 v1 v2 v3 tn F2 r1 r2 r3 N2 e4' off2 hRT
  have b0 := fm_b d0
  have b1 := fm_b d1
  have b2 := fm_b d2
  have b3 := fm_b d3
  have b4 := fm_b d4
  generalize d0.fmod 256 = a at N2 b0
  generalize d1.fmod 256 = b at N2 b1
  generalize d2.fmod 256 = c at N2 b2
  generalize d3.fmod 256 = d at N2 b3
  generalize d4.fmod 256 = n at N2 b4 e4'
  refine stage3 (s := { s with heap := h2, toks := tk2 }) B0 F2 X0 N2 T0 h95 hdp8 hun8 r1 r2 r3 off2 hRT ?_
  intro dA h3 tk3 m3 oA F3 r1 r2 r3 N3 hw hRA hA
  have hR95 := tab_ne N3 (.tail _ (.head _)) (.tail _ (.tail _ (.tail _ (.tail _ (.tail _ (.tail _ (.head _)))))))
  have B : B4 a b c d := ⟨b0.1, b0.2, b1.1, b1.2, b2.1, b2.2, b3.1, b3.2⟩
  refine stage4 (s := { s with heap := h3, toks := tk3 }) B0 F3 X0 (news_r4 N3) T0 h95 hdp8 hun8 r1 r2 r3 B.a0 B.a1 B.b0 B.b1 B.c0 B.c1 B.d0 B.d1 hC hRA hA ⟨off2.1, trivial⟩ e2 e3 hR95 ?_
  intro sp pl tsp tpl x h4 tk4 m4 o2' o3' F4 r1 r2 r3 N4 e2' e3' hdue
  have hu := due_hue hdue
  have hs := hue_sp B hu
  have hp := due_pl hdue B
  refine stage5 (s := { s with heap := h4, toks := tk4 }) B0 F4 X0 N4 T0 h95 hdp8 hun8 r1 r2 r3 B.a0 B.a1 B.b0 B.b1 B.c0 B.c1 B.d0 B.d1 e2' e3' ?_
  intro f0 f1 f2 f3 FC w0 w1 w2 w3 nF h5 tk5 m5 F5 r1 r2 r3 r4 N5 hpm g1 g2 g3 g0 g4
  have hf : F4i a b c d f0 f1 f2 f3 := ⟨hpm, g1, g2, g3, g0, g4⟩
  refine stage6 (sp := sp) (pl := pl) (tsp := tsp) (tpl := tpl) (s := { s with heap := h5, toks := tk5 }) B0 F5 X0 N5 T0 h95 hdp8 hun8 r1 r2 r3 r4 g0 g1 g2 g3 g4 ?_
  intro MK y0 y1 y2 y3 h6 tk6 m6 F6 r1 r2 r3 r4 r5 N6
  refine stage7 (s := { s with heap := h6, toks := tk6 }) B0 F6 X0 N6 T0 h95 hdp8 hun8 r1 r2 r3 r4 r5 g0 g1 g2 g3 g4 e2' e3' hs.1 hs.2 hp.1 hp.2 (f_c1 hf) (f_c2 hf hu) ?_
  intro X tX h7 tk7 m7 F7 r1 r2 r3 r4 r5 hX N7
  refine stage8 (s := { s with heap := h7, toks := tk7 }) B0 F7 X0 N7 T0 h95 hdp8 hun8 r1 r2 r3 r4 r5 g0 g1 g2 g3 g4 B.a0 B.a1 B.b0 B.b1 B.c0 B.c1 B.d0 B.d1 e2' e3' (f_c3 hf hu hX) ?_
  intro tO h8 tk8 m8 F8 r1 r2 r3 r4 N8
  refine stage9 (s := { s with heap := h8, toks := tk8 }) B0 F8 X0 N8 T0 h95 hdp8 hun8 r1 r2 r3 r4 hl0 hi0 hlen B.a0 B.a1 B.b0 B.b1 B.c0 B.c1 B.d0 B.d1 e2' e3' ?_
  intro WL us ks h9 tk9 m9 F9 r1 r2 r3 r4 N9 hus hks hAW hlt
  refine loop_all (s := { s with heap := h9, toks := tk9 }) (as := [a, b, c, d]) (n := n) (news := (R, W.listOf #[.int a v0, .int b v1, .int c v2, .int d v3] 4) :: (95, tabObj x) :: (dA, oA) :: [(L + 1 + 3, o1), (L + 1 + 2, o2'), (L + 1 + 1, o3'), (L + 1, o4')]) B0 F9 X0 (news_sw N9) T0 h95 hdp hun ⟨a, b, c, d, pl, R, 4, v0, v1, v2, v3, tO, tpl, o1, o2', none, B, hu, (by constructor <;> (push_cast; (first | exact om408 hp | exact om409 hp | omega))), ⟨by simp, by simp, by simp, by simp⟩, ⟨r1, r2, r4⟩, rfl, ⟨e1, e2'⟩, ⟨off2.1, trivial⟩⟩ hus hks hA hAW e3' b4.1 b4.2 hw hNB ?_
  intro h10 tk10 m10 news10 F10 N10 hx
  refine sl_execs_consA ?_
  k_steps
  all_goals (exact hQ _ _ _ _ x F10 N10 hx)
end
end
end
section
open PySem PySem.W PyProof.Rows
set_option Elab.async false
set_option maxRecDepth 100000
set_option maxHeartbeats 8000000
set_option pp.deepTerms false
set_option pp.deepTerms.threshold 3
set_option pp.proofs false
theorem walk_anew_38 : True := by w_top off; trivial
theorem law_holds : PySem.Challenge.rw_zo0001_01.Holds := by
  w_on
  o_law
  refine sh_holds (q := hd.view_39) (loose := hkLoose) (Xt := fun s => xlAt hd.view_39 [] s && recOk (RowW.records rwT) s && snT s.heap) (XP := fun mg h => XL hd.view_39 [] mg h ∧ SN h) (Yf := Hook.obs hkH) (Ya := Hook.val hkH) (YP := Hook.says (kmHook hd.heap_39 hkAs hkAs_eq [95])) (N := 1696)
    hk_left (Hook.of hkH) (Hook.keeps hkH) (fun s e => ⟨xl_of s (Bool.and_eq_true_iff.mp (Bool.and_eq_true_iff.mp e).1).1, sn_of (Bool.and_eq_true_iff.mp e).2⟩) (fun mg h h' x hk => ⟨XL.keeps mg h h' x.1 hk, sn_keep x.2 hk⟩) (by rfl) (by rfl) (by rfl) (fun s e => recFacts_of (Bool.and_eq_true_iff.mp (Bool.and_eq_true_iff.mp e).1).2) (by rfl) (by assumption) (by decide +kernel) ⟨rfl, rfl, rfl, rfl, rfl, by decide +kernel⟩ ?hw ?hc
  case hw => w_witness2
  case hc =>
    k_fill
    intro w s₀ s₁ mg mb G Y fa o pm cd doc dV kV ho hd hcd hD hmg hg args vals as hpre hlay hrd hwl hlo
    have KX := km_in_of Y
    km_tabs Y
    have SNf := (Ground.X G).2
    have X := (Ground.X G).1.1
    have V := (Ground.X G).1.2
    refine Ground.open G ?_
    intro T B D TE TW
    try (refine guard_noD D (by decide +kernel) ?_; clear D)
    km_lay T hmg ho hd cd
    wrow_args hpre hlay hrd hwl hlo
    refine sl_enter ?_
    refine sl_post hT9 (fun _ _ => rfl) ?_
    have he := Dflts.none hD rfl
    subst he
    have he := Dflts.noKw hD
    subst he
    refine sl_cellsN (by decide) ho (fd_plain hd) (Top.nolimit T) hcd rfl (kinds_of (by kinds_ok)) (by decide) fun h₁ tk₁ cells F N0 X0 => ?_
    cells_open X0
    clear hd
    kn_ghosts F T
    k_drop
    rename IntsAre _ _ => hi0
    rename (¬ (63 : Int) < _) => hlen
    rename Heap.IsList _ _ _ => hl0
    rename CodeHd _ _ _ => hC
    rename Fr _ _ _ _ => F9
    rename News _ _ _ _ => N9
    rename Below _ _ _ _ => B9
    rename Top _ _ _ _ _ _ => T9
    rename Frag.In _ _ => X9
    have hNB : NoneBooked (ghostOf s₁.heap [(99, 95)]) := by
      obtain ⟨mc, hm, e⟩ := sn_nb SNf (Top.nolimit T)
      exact ⟨mc, ghost_ns hT9 hm, e⟩
    show wpS _ (callerA.deeper (envOfC lawName lawScope _ _ _)) (execs lawBody (lawEnv _ _ _)) _ _ _
    rw [lawA_eq]
    refine law_walk B9 F9 X9 N9 T9 hl0 hi0 (by exact rfl) hlen ?d ?u (by assumption) (by assumption) (by assumption) (by assumption) (by assumption) hC hNB ?_
    case d => decide
    case u => decide
    intro h' tk' m' news' x F' N' hx
    dsimp only
    k_steps
end
end Mine
end
set_option maxRecDepth 100000 in
set_option maxHeartbeats 8000000 in
theorem PySem.Challenge.cw_zo0001_01_holds : PySem.Challenge.rw_zo0001_01.Holds := by
  exact Mine.law_holds
